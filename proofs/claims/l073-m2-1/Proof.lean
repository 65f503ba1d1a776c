import JvmDerived
import JvmDerived.Pilot.@@N@@Statement
import JvmDerived.Pilot.@@N@@Code
set_option linter.unusedVariables false
set_option linter.unusedSimpArgs false
namespace Jvm.RoadKit
open Sem ClassFile Op Lib Jvm.Stand Jvm.Free Jvm.LawKit
section New
variable {p : Program} {l : Launch} {e : Env} {R : Room} {s : State} {m : MethodId} {args : Array Value} {below : List Frame} {meth : Method} {c : Code} {T : State} {locs : List Loc} {cells slots : Nat}
theorem retI (X : Stand p l e R s m args below meth c T locs cells slots) (hx : p.tables.exec = Jvm.exec) {pc : Nat} {Ls : Array Slot} {z : Int32} {rest : List Value} (hret : meth.sig.returnType = some .int) (hd : decode c.code pc = .ok (.ireturn, 1)) {fs : List Frame}
    (hl : ∀ (f : JFrame) (acts : List Action), f.method = m → f.locked = none → f.entered = [] → (doReturn e (T.setTop f) acts (some (.int z))).1 = T.setFrames fs) : Steps p.tables e below (T.setTop (mkF m pc Ls (.int z :: rest))) (T.setFrames fs) := by
  have hm' : T.vm.method? m = some meth := X.method'
  have hn : narrow .int (.int z) = .int z := rfl
  show Steps p.tables e below (T.setTop { method := m, pc := pc, locals := Ls, stack := _ :: rest, locked := none }) _
  jvm_step X.here [X.here.top, hx, hd, hm', hret, hn]
  first | (intro acts; rw [hl _ acts rfl rfl rfl]) | rw [hl _ _ rfl rfl rfl]
  exact Steps.refl _
end New
end Jvm.RoadKit
namespace Jvm.Pilot.@@N@@
open Jvm Jvm.ClassFile Sem Op Lib Jvm.Free Jvm.Stand Jvm.LawKit Jvm.RoadKit Bundle Jvm.Pilot.@@N@@.Jvm.D

theorem own_sta_keep {Z : State} {h h' : Heap} {C n d : String} {v : Value} {ws : List Addr} (F : Sta Z h C n d v) (K : Keep h h' ws) (q : ∀ x ∈ ws, ∀ c : Cell, h[x]? = some c → c.vm.isStatics = false) : Sta Z h' C n d v := by
  obtain ⟨cf, i, k, f, st, cell, h1, h2, h3, h4, h5, h6, h7⟩ := F
  refine ⟨cf, i, k, f, st, cell, h1, h2, h3, h4, K.2.1 st cell h5 fun hm => ?_, h6, h7⟩
  rw [q st hm cell h5] at h6
  cases h6
theorem own_ns_exa {Z : State} {h : Heap} {b : Addr} {C : String} (E : Exa Z h b C) : ∀ c : Cell, h[b]? = some c → c.vm.isStatics = false := fun c hc => by
  obtain ⟨cell, k, h1, -, -, h4, -⟩ := E
  cases h1.symm.trans hc
  exact h4
theorem own_ns_arv {Z : State} {h : Heap} {b : Addr} {k : ClassId} {ty : FieldType} {z : Int32} {vs : List Value} {dv : Value} (V : Arv Z h b k ty z vs dv) : ∀ c : Cell, h[b]? = some c → c.vm.isStatics = false := fun c hc => by
  obtain ⟨cl, A, -⟩ := V
  cases A.1.symm.trans hc
  exact A.plain

theorem own_fld_int {args : Array Value} {s : State} {t : Term} {O n d : String} {x : Addr} {k : Int32} (ht : t.eval args s none [] s = some (.ref x)) (h : (Jvm.Cond.eq (Term.field t O n d) (Term.int k)).value args s none s [] = some true) : s.fieldOf? x O n d = some (.int k) := by
  have e := fld_at (C := O) (n := n) (dd := d) ht
  obtain ⟨a, b, h1, h2, -, hk⟩ := cmp_v (Or.inl h)
  have hb : b = .int k := Option.some.inj (h2.symm.trans (Term.int_eval k))
  subst hb
  obtain ⟨z, rfl⟩ : ∃ z, a = .int z := hk
  have q : (Jvm.Cond.eq (Term.field t O n d) (Term.int k)).value args s none s [] = some (decide (z = k)) := by simp [Jvm.Cond.value, h1, h2]
  rw [← e, h1, gotT q h]

theorem own_mask (x m : Int32) (k : Nat) (hk : k ≤ 31) (hm : m.toBitVec.toNat = 2 ^ k - 1) : ∃ n : Nat, n < 2 ^ k ∧ x &&& m = Int32.ofNat n := by
  have h := c_mask x m k hk hm
  have hp : (0 : Int) < ((2 ^ k : Nat) : Int) := by have := Nat.two_pow_pos k; omega
  have h0 := Int.emod_nonneg x.toInt (Int.ne_of_gt hp)
  have h1 := Int.emod_lt_of_pos x.toInt hp
  have h31 : (2 ^ k : Nat) ≤ 2 ^ 31 := Nat.pow_le_pow_right (by decide) hk
  refine ⟨(x.toInt % ((2 ^ k : Nat) : Int)).toNat, by omega, ?_⟩
  apply Int32.toInt_inj.mp
  rw [h, Int32.toInt_ofNat_of_lt (by omega)]
  omega

def own_gr (b bit sh : Int32) : Int32 := if (b &&& (bit <<< (sh &&& 31))) = 0 then 0 else 1
theorem own_rng : ∀ n : Fin 1024, ¬ Int32.ofNat n.1 < 0 ∧ ¬ (1023 : Int32) < Int32.ofNat n.1 := by decide +kernel
theorem own_bits (x : Int32) : ¬ (x &&& 1023) < 0 ∧ ¬ (1023 : Int32) < (x &&& 1023) := by
  obtain ⟨n, hn, e⟩ := own_mask x 1023 10 (by decide) (by decide)
  rw [e]
  exact own_rng ⟨n, hn⟩
theorem own_f64_4 : ∀ n : Fin 1024, own_gr (Int32.ofNat n.1) 4 6 = if ((Int32.ofNat n.1 / (256 : Int32)) % (2 : Int32)) = (1 : Int32) then 1 else 0 := by decide +kernel
theorem own_t64_4 (x : Int32) : own_gr (x &&& 1023) 4 6 = if (((x &&& (1023 : Int32)) / (256 : Int32)) % (2 : Int32)) = (1 : Int32) then 1 else 0 := by
  obtain ⟨n, hn, e⟩ := own_mask x 1023 10 (by decide) (by decide)
  rw [e]
  exact own_f64_4 ⟨n, hn⟩
theorem own_f64_2 : ∀ n : Fin 1024, own_gr (Int32.ofNat n.1) 2 6 = if ((Int32.ofNat n.1 / (128 : Int32)) % (2 : Int32)) = (1 : Int32) then 1 else 0 := by decide +kernel
theorem own_t64_2 (x : Int32) : own_gr (x &&& 1023) 2 6 = if (((x &&& (1023 : Int32)) / (128 : Int32)) % (2 : Int32)) = (1 : Int32) then 1 else 0 := by
  obtain ⟨n, hn, e⟩ := own_mask x 1023 10 (by decide) (by decide)
  rw [e]
  exact own_f64_2 ⟨n, hn⟩
theorem own_f64_1 : ∀ n : Fin 1024, own_gr (Int32.ofNat n.1) 1 6 = if ((Int32.ofNat n.1 / (64 : Int32)) % (2 : Int32)) = (1 : Int32) then 1 else 0 := by decide +kernel
theorem own_t64_1 (x : Int32) : own_gr (x &&& 1023) 1 6 = if (((x &&& (1023 : Int32)) / (64 : Int32)) % (2 : Int32)) = (1 : Int32) then 1 else 0 := by
  obtain ⟨n, hn, e⟩ := own_mask x 1023 10 (by decide) (by decide)
  rw [e]
  exact own_f64_1 ⟨n, hn⟩
theorem own_f8_4 : ∀ n : Fin 1024, own_gr (Int32.ofNat n.1) 4 3 = if ((Int32.ofNat n.1 / (32 : Int32)) % (2 : Int32)) = (1 : Int32) then 1 else 0 := by decide +kernel
theorem own_t8_4 (x : Int32) : own_gr (x &&& 1023) 4 3 = if (((x &&& (1023 : Int32)) / (32 : Int32)) % (2 : Int32)) = (1 : Int32) then 1 else 0 := by
  obtain ⟨n, hn, e⟩ := own_mask x 1023 10 (by decide) (by decide)
  rw [e]
  exact own_f8_4 ⟨n, hn⟩
theorem own_f8_2 : ∀ n : Fin 1024, own_gr (Int32.ofNat n.1) 2 3 = if ((Int32.ofNat n.1 / (16 : Int32)) % (2 : Int32)) = (1 : Int32) then 1 else 0 := by decide +kernel
theorem own_t8_2 (x : Int32) : own_gr (x &&& 1023) 2 3 = if (((x &&& (1023 : Int32)) / (16 : Int32)) % (2 : Int32)) = (1 : Int32) then 1 else 0 := by
  obtain ⟨n, hn, e⟩ := own_mask x 1023 10 (by decide) (by decide)
  rw [e]
  exact own_f8_2 ⟨n, hn⟩
theorem own_f8_1 : ∀ n : Fin 1024, own_gr (Int32.ofNat n.1) 1 3 = if ((Int32.ofNat n.1 / (8 : Int32)) % (2 : Int32)) = (1 : Int32) then 1 else 0 := by decide +kernel
theorem own_t8_1 (x : Int32) : own_gr (x &&& 1023) 1 3 = if (((x &&& (1023 : Int32)) / (8 : Int32)) % (2 : Int32)) = (1 : Int32) then 1 else 0 := by
  obtain ⟨n, hn, e⟩ := own_mask x 1023 10 (by decide) (by decide)
  rw [e]
  exact own_f8_1 ⟨n, hn⟩
theorem own_f1_4 : ∀ n : Fin 1024, own_gr (Int32.ofNat n.1) 4 0 = if ((Int32.ofNat n.1 / (4 : Int32)) % (2 : Int32)) = (1 : Int32) then 1 else 0 := by decide +kernel
theorem own_t1_4 (x : Int32) : own_gr (x &&& 1023) 4 0 = if (((x &&& (1023 : Int32)) / (4 : Int32)) % (2 : Int32)) = (1 : Int32) then 1 else 0 := by
  obtain ⟨n, hn, e⟩ := own_mask x 1023 10 (by decide) (by decide)
  rw [e]
  exact own_f1_4 ⟨n, hn⟩
theorem own_f1_2 : ∀ n : Fin 1024, own_gr (Int32.ofNat n.1) 2 0 = if ((Int32.ofNat n.1 / (2 : Int32)) % (2 : Int32)) = (1 : Int32) then 1 else 0 := by decide +kernel
theorem own_t1_2 (x : Int32) : own_gr (x &&& 1023) 2 0 = if (((x &&& (1023 : Int32)) / (2 : Int32)) % (2 : Int32)) = (1 : Int32) then 1 else 0 := by
  obtain ⟨n, hn, e⟩ := own_mask x 1023 10 (by decide) (by decide)
  rw [e]
  exact own_f1_2 ⟨n, hn⟩
theorem own_f1_1 : ∀ n : Fin 1024, own_gr (Int32.ofNat n.1) 1 0 = if ((Int32.ofNat n.1 / (1 : Int32)) % (2 : Int32)) = (1 : Int32) then 1 else 0 := by decide +kernel
theorem own_t1_1 (x : Int32) : own_gr (x &&& 1023) 1 0 = if (((x &&& (1023 : Int32)) / (1 : Int32)) % (2 : Int32)) = (1 : Int32) then 1 else 0 := by
  obtain ⟨n, hn, e⟩ := own_mask x 1023 10 (by decide) (by decide)
  rw [e]
  exact own_f1_1 ⟨n, hn⟩

theorem own_d1_0 : decode prog_25_method_1_code 0 = .ok (.aload_n 0, 1) := by decide +kernel
theorem own_d1_1 : decode prog_25_method_1_code 1 = .ok (.invokespecial 1, 3) := by decide +kernel
theorem own_d1_4 : decode prog_25_method_1_code 4 = .ok (.iload_n 1, 1) := by decide +kernel
theorem own_d1_5 : decode prog_25_method_1_code 5 = .ok (.ifCond .ge 17, 3) := by decide +kernel
theorem own_d1_22 : decode prog_25_method_1_code 22 = .ok (.iload_n 1, 1) := by decide +kernel
theorem own_d1_23 : decode prog_25_method_1_code 23 = .ok (.sipush 1023, 3) := by decide +kernel
theorem own_d1_26 : decode prog_25_method_1_code 26 = .ok (.if_icmp .le 20, 3) := by decide +kernel
theorem own_d1_46 : decode prog_25_method_1_code 46 = .ok (.aload_n 0, 1) := by decide +kernel
theorem own_d1_47 : decode prog_25_method_1_code 47 = .ok (.iload_n 1, 1) := by decide +kernel
theorem own_d1_48 : decode prog_25_method_1_code 48 = .ok (.putfield 26, 3) := by decide +kernel
theorem own_d1_51 : decode prog_25_method_1_code 51 = .ok (.return_, 1) := by decide +kernel
theorem own_d3_0 : decode prog_25_method_8_code 0 = .ok (.aload_n 0, 1) := by decide +kernel
theorem own_d3_1 : decode prog_25_method_8_code 1 = .ok (.getfield 26, 3) := by decide +kernel
theorem own_d3_4 : decode prog_25_method_8_code 4 = .ok (.aload_n 2, 1) := by decide +kernel
theorem own_d3_5 : decode prog_25_method_8_code 5 = .ok (.invokevirtual 72, 3) := by decide +kernel
theorem own_d3_8 : decode prog_25_method_8_code 8 = .ok (.aload_n 1, 1) := by decide +kernel
theorem own_d3_9 : decode prog_25_method_8_code 9 = .ok (.invokevirtual 77, 3) := by decide +kernel
theorem own_d3_12 : decode prog_25_method_8_code 12 = .ok (.ishl, 1) := by decide +kernel
theorem own_d3_13 : decode prog_25_method_8_code 13 = .ok (.iand, 1) := by decide +kernel
theorem own_d3_14 : decode prog_25_method_8_code 14 = .ok (.ifCond .eq 7, 3) := by decide +kernel
theorem own_d3_17 : decode prog_25_method_8_code 17 = .ok (.iconst 1, 1) := by decide +kernel
theorem own_d3_18 : decode prog_25_method_8_code 18 = .ok (.goto 4, 3) := by decide +kernel
theorem own_d3_21 : decode prog_25_method_8_code 21 = .ok (.iconst 0, 1) := by decide +kernel
theorem own_d3_22 : decode prog_25_method_8_code 22 = .ok (.ireturn, 1) := by decide +kernel
theorem own_d4_0 : decode prog_21_method_4_code 0 = .ok (.aload_n 0, 1) := by decide +kernel
theorem own_d4_1 : decode prog_21_method_4_code 1 = .ok (.getfield 32, 3) := by decide +kernel
theorem own_d4_4 : decode prog_21_method_4_code 4 = .ok (.ireturn, 1) := by decide +kernel
theorem own_d5_0 : decode prog_30_method_5_code 0 = .ok (.aload_n 0, 1) := by decide +kernel
theorem own_d5_1 : decode prog_30_method_5_code 1 = .ok (.getfield 32, 3) := by decide +kernel
theorem own_d5_4 : decode prog_30_method_5_code 4 = .ok (.ireturn, 1) := by decide +kernel
theorem own_pn_0 : plainName "com/example/lats/lats/permission/Mode" = true := by first | (simp [plainName, overriddenIn]; done) | decide +kernel
theorem own_ef_0 (m : MethodId) (x0 : Addr) (x1 : Int32) : entryFrame m #[(.ref x0), (.int x1)] 2 = mkF m 0 #[.val (.ref x0), .val (.int x1)] [] := by first | (simp [entryFrame, mkF, argsToLocals, Value.category]; done) | rfl
theorem own_pn_1 : plainName "com/example/lats/lats/permission/Access" = true := by first | (simp [plainName, overriddenIn]; done) | decide +kernel
theorem own_ef_1 (m : MethodId) (x0 : Addr) : entryFrame m #[(.ref x0)] 1 = mkF m 0 #[.val (.ref x0)] [] := by first | (simp [entryFrame, mkF, argsToLocals, Value.category]; done) | rfl
theorem own_pn_2 : plainName "com/example/lats/lats/permission/PermissionClass" = true := by first | (simp [plainName, overriddenIn]; done) | decide +kernel
theorem own_ef_2 (m : MethodId) (x0 : Addr) (x1 : Addr) (x2 : Addr) : entryFrame m #[(.ref x0), (.ref x1), (.ref x2)] 3 = mkF m 0 #[.val (.ref x0), .val (.ref x1), .val (.ref x2)] [] := by first | (simp [entryFrame, mkF, argsToLocals, Value.category]; done) | rfl
theorem own_pd_0 : parseMethodDescriptor "()I" = some ⟨[], some .int⟩ := by decide +kernel
theorem own_pn_3 : plainName "com/example/lats/lats/permission/ModeGrantsPinLaw" = true := by first | (simp [plainName, overriddenIn]; done) | decide +kernel
theorem own_ef_3 (m : MethodId) (x0 : Int32) (x1 : Int32) (x2 : Int32) : entryFrame m #[(.int x0), (.int x1), (.int x2)] maxLocals = mkF m 0 #[.val (.int x0), .val (.int x1), .val (.int x2), .unset, .unset, .unset, .unset, .unset, .unset, .unset, .unset, .unset, .unset] [] := by first | (simp [entryFrame, mkF, argsToLocals, Value.category, maxLocals]; done) | rfl
theorem own_pd_1 : parseMethodDescriptor "(I)V" = some ⟨[.int], none⟩ := by decide +kernel
theorem own_pd_2 : parseMethodDescriptor "(Lcom/example/lats/lats/permission/PermissionClass;Lcom/example/lats/lats/permission/Access;)Z" = some ⟨[(.object "com/example/lats/lats/permission/PermissionClass"), (.object "com/example/lats/lats/permission/Access")], some .boolean⟩ := by decide +kernel
def Q_rm1 (Z : State) (r0 : Addr) (p1 : Int32) (h0 : Heap) (n0 : Nat) (v : Option Value) (h : Heap) (L : List Loc) : Prop := v = none ∧ Fr n0 L ∧ Keep h0 h [r0] ∧ Exa Z h r0 "com/example/lats/lats/permission/Mode" ∧ Fld Z h r0 "com/example/lats/lats/permission/Mode" "bits" "I" (.int p1)
set_option maxRecDepth 65536 in
set_option maxHeartbeats 40000000 in
theorem rm1 (l : Launch) (Z : State) (a0 : Array Value) (hw : ∀ d ∈ tables_1, d.before a0 Z = true) (ws : List Jvm.Cond) (r0 : Addr) (p1 : Int32) (h0 : Heap) (n0 : Nat) (Z0 : n0 ≤ h0.size) (F1 : Fld Z h0 r0 "com/example/lats/lats/permission/Mode" "bits" "I" (.int 0)) (E1 : Exa Z h0 r0 "com/example/lats/lats/permission/Mode") (g_r0 : n0 ≤ r0) (hc1 : ¬ p1 < 0) (hc2 : ¬ (1023 : Int32) < p1) :
    MetFree l (⟨"com/example/lats/lats/permission/Mode", "<init>", "(I)V"⟩ : MethodName) (head1 (Jvm.Cond.code (⟨"com/example/lats/lats/permission/Mode", "<init>", "(I)V"⟩ : MethodName) prog_25_method_1_code 2 none :: ws) ({ frames := 1, cells := 0, slots := 0, locals := 12 } : Room)) (fun a U => a = #[(.ref r0), (.int p1)] ∧ Z.Warmed39 U.vm ∧ U.heap = h0) (fun _ _ _ _ _ => True) (fun _ U o U' => ∃ v L, o = .returned v ∧ Q_rm1 Z r0 p1 h0 n0 v U'.heap L ∧ FrameEnd U o U' L ({ frames := 1, cells := 0, slots := 0, locals := 12 } : Room).cells ({ frames := 1, cells := 0, slots := 0, locals := 12 } : Room).slots) := by
  refine MetFree.of_bodySF (plainFor_of_name own_pn_0) hisR ?_
  intro p e s m args below meth c s₁ Bd hml0 hP hK
  obtain ⟨rfl, hZ, hh⟩ := hP
  have hx := Bd.exec
  have hby := Bd.bytes
  have hml : c.maxLocals = 2 := hml0
  have hown : s.vm.findClass "com/example/lats/lats/permission/Mode" = some m.cls := findClass_of_methodNamed Bd.named
  have hnm := (name_of_methodNamed Bd.named Bd.method).1
  have X0 : Stand p l e ({ frames := 1, cells := 0, slots := 0, locals := 12 } : Room) s m #[(.ref r0), (.int p1)] below meth c s₁ [] 0 0 := Stand.of_body Bd
  have e0 : s₁.heap = h0 := by rw [← hh, Bd.state]; rfl
  have N0 := Fr.nil n0
  have K0 : Keep h0 h0 [r0] := Keep.refl h0 _
  have pre0 : ∀ t, Steps p.tables e below (s₁.setTop (mkF m 0 #[.val (.ref r0), .val (.int p1)] [])) t → Steps p.tables e below (s₁.setTop (entryFrame m #[(.ref r0), (.int p1)] 2)) t := fun t k => castTop (own_ef_0 m r0 p1) k
  obtain ⟨T1, X1, e1, st1⟩ := initO X0 hx hZ hown (hw _ (List.mem_of_getElem? (i := 13) rfl)) (hw _ (List.mem_of_getElem? (i := 14) rfl)) (hw _ (List.mem_of_getElem? (i := 15) rfl)) e0 (g := (mkF m 1 #[.val (.ref r0), .val (.int p1)] [(.ref r0)])) rfl (by rw [hml]; rfl) rfl (hb hby own_d1_1) (by decide) (W := 0) (by show 2 * 0 + _ ≤ _; exact Nat.le_of_eq rfl) (by decide)
  have k2 : ∀ t, Steps p.tables e below (T1.setTop (mkF m 5 #[.val (.ref r0), .val (.int p1)] [(.int p1)])) t → Steps p.tables e below (s₁.setTop (mkF m 0 #[.val (.ref r0), .val (.int p1)] [])) t := by
    intro t h
    show Steps p.tables e below (s₁.setTop (mkF m 0 #[.val (.ref r0), .val (.int p1)] [])) _
    refine XS.aloadN X0.here hx rfl (hb hby own_d1_0) rfl rfl ?_
    show Steps p.tables e below (s₁.setTop (mkF m 1 #[.val (.ref r0), .val (.int p1)] [(.ref r0)])) _
    refine st1 _ ?_
    show Steps p.tables e below (T1.setTop (mkF m 4 #[.val (.ref r0), .val (.int p1)] [])) _
    refine XS.iloadN X1.here hx rfl (hb hby own_d1_4) rfl ?_
    exact h
  have b5_3 : ¬ (p1 < (0 : Int32)) := hc1
  have k4 : ∀ t, Steps p.tables e below (T1.setTop (mkF m 26 #[.val (.ref r0), .val (.int p1)] [(.int (1023 : Int32)), (.int p1)])) t → Steps p.tables e below (s₁.setTop (mkF m 0 #[.val (.ref r0), .val (.int p1)] [])) t := by
    intro t h
    refine k2 t ?_
    show Steps p.tables e below (T1.setTop (mkF m 5 #[.val (.ref r0), .val (.int p1)] [(.int p1)])) _
    refine XS.ifYes X1.here hx rfl (pc0 := 5) (pc' := 22) rfl (hb hby own_d1_5) rfl ((if0 _ _).trans (flt b5_3).2.1) (by decide) (by decide) ?_
    show Steps p.tables e below (T1.setTop (mkF m 22 #[.val (.ref r0), .val (.int p1)] [])) _
    refine XS.iloadN X1.here hx rfl (hb hby own_d1_22) rfl ?_
    show Steps p.tables e below (T1.setTop (mkF m 23 #[.val (.ref r0), .val (.int p1)] [(.int p1)])) _
    refine XS.sipush X1.here hx rfl (hb hby own_d1_23) ?_
    exact h
  have b26_5 : ¬ ((1023 : Int32) < p1) := hc2
  obtain ⟨T6, h6, X6, e6, W6, st6⟩ := putF X1 hx hZ hown (host := "") (Or.inl (hw _ (List.mem_of_getElem? (i := 16) rfl))) Via.refl e1 F1 E1 (Or.inr ⟨(hw _ (List.mem_of_getElem? (i := 17) rfl)), rfl, hnm⟩) (hw _ (List.mem_of_getElem? (i := 8) rfl)) (ty := .int) (by decide) rfl rfl (g := (mkF m 48 #[.val (.ref r0), .val (.int p1)] [(.int p1), (.ref r0)])) rfl rfl (hb hby own_d1_48)
  have f7 := F1.same W6
  have f8 := E1.wr W6
  have Z9 : n0 ≤ h6.size := Nat.le_trans Z0 (Keep.of_wr W6).1
  have K10 := K0.wr W6 (Or.inl (List.mem_of_getElem? (i := 0) rfl))
  have N6 := Fr.snoc X6 N0 g_r0
  have k11 : ∀ t, Steps p.tables e below (T6.setTop (mkF m 51 #[.val (.ref r0), .val (.int p1)] [])) t → Steps p.tables e below (s₁.setTop (mkF m 0 #[.val (.ref r0), .val (.int p1)] [])) t := by
    intro t h
    refine k4 t ?_
    show Steps p.tables e below (T1.setTop (mkF m 26 #[.val (.ref r0), .val (.int p1)] [(.int (1023 : Int32)), (.int p1)])) _
    refine XS.icmpYes X1.here hx rfl (pc0 := 26) (pc' := 46) rfl (hb hby own_d1_26) rfl (flt b26_5).2.2.2 (by decide) (by decide) ?_
    show Steps p.tables e below (T1.setTop (mkF m 46 #[.val (.ref r0), .val (.int p1)] [])) _
    refine XS.aloadN X1.here hx rfl (hb hby own_d1_46) rfl rfl ?_
    show Steps p.tables e below (T1.setTop (mkF m 47 #[.val (.ref r0), .val (.int p1)] [(.ref r0)])) _
    refine XS.iloadN X1.here hx rfl (hb hby own_d1_47) rfl ?_
    show Steps p.tables e below (T1.setTop (mkF m 48 #[.val (.ref r0), .val (.int p1)] [(.int p1), (.ref r0)])) _
    refine st6 _ ?_
    exact h
  obtain ⟨fs, hr, hrun, hended, hW, hsame⟩ := X6.leave (v := none) (fun _ => rfl) Bd.notSynchronized
  refine ⟨_, _, pre0 _ (k11 _ ?_), hrun, hended, _, _, rfl, ?_, ⟨_, rfl⟩, hW, hsame.mono (by decide) (by decide)⟩
  · exact X6.returnOut hx Bd.returns (hb hby own_d1_51) hr
  · show Q_rm1 Z _ _ h0 n0 _ T6.heap _
    rw [e6]
    exact ⟨rfl, N6, K10, f8, f7⟩
def Q_rmB (Z : State) (r0 : Addr) (w1 : Int32) (h0 : Heap) (n0 : Nat) (v : Option Value) (h : Heap) (L : List Loc) : Prop := v = some (.int w1) ∧ Fr n0 L ∧ h = h0
set_option maxRecDepth 65536 in
set_option maxHeartbeats 40000000 in
theorem rmB (l : Launch) (Z : State) (a0 : Array Value) (hw : ∀ d ∈ tables_1, d.before a0 Z = true) (ws : List Jvm.Cond) (r0 : Addr) (w1 : Int32) (h0 : Heap) (n0 : Nat) (Z0 : n0 ≤ h0.size) (F1 : Fld Z h0 r0 "com/example/lats/lats/permission/Access" "bit" "I" (.int w1)) :
    MetFree l (⟨"com/example/lats/lats/permission/Access", "bit", "()I"⟩ : MethodName) (head1 (Jvm.Cond.code (⟨"com/example/lats/lats/permission/Access", "bit", "()I"⟩ : MethodName) prog_21_method_4_code 1 (some .int) :: ws) ({ frames := 0, cells := 0, slots := 0, locals := 0 } : Room)) (fun a U => a = #[(.ref r0)] ∧ Z.Warmed39 U.vm ∧ U.heap = h0) (fun _ _ _ _ _ => True) (fun _ U o U' => ∃ v L, o = .returned v ∧ Q_rmB Z r0 w1 h0 n0 v U'.heap L ∧ FrameEnd U o U' L ({ frames := 0, cells := 0, slots := 0, locals := 0 } : Room).cells ({ frames := 0, cells := 0, slots := 0, locals := 0 } : Room).slots) := by
  refine MetFree.of_bodySF (plainFor_of_name own_pn_1) hisR ?_
  intro p e s m args below meth c s₁ Bd hml0 hP hK
  obtain ⟨rfl, hZ, hh⟩ := hP
  have hx := Bd.exec
  have hby := Bd.bytes
  have hml : c.maxLocals = 1 := hml0
  have hown : s.vm.findClass "com/example/lats/lats/permission/Access" = some m.cls := findClass_of_methodNamed Bd.named
  have hnm := (name_of_methodNamed Bd.named Bd.method).1
  have X0 : Stand p l e ({ frames := 0, cells := 0, slots := 0, locals := 0 } : Room) s m #[(.ref r0)] below meth c s₁ [] 0 0 := Stand.of_body Bd
  have e0 : s₁.heap = h0 := by rw [← hh, Bd.state]; rfl
  have N0 := Fr.nil n0
  have K0 : Keep h0 h0 [] := Keep.refl h0 _
  have pre0 : ∀ t, Steps p.tables e below (s₁.setTop (mkF m 0 #[.val (.ref r0)] [])) t → Steps p.tables e below (s₁.setTop (entryFrame m #[(.ref r0)] 1)) t := fun t k => castTop (own_ef_1 m r0) k
  obtain ⟨T12, X12, e12, st12⟩ := getF X0 hx hZ hown (host := "") (Or.inl (hw _ (List.mem_of_getElem? (i := 28) rfl))) Via.refl e0 F1 (g := (mkF m 1 #[.val (.ref r0)] [(.ref r0)])) rfl rfl (hb hby own_d4_1)
  have k13 : ∀ t, Steps p.tables e below (T12.setTop (mkF m 4 #[.val (.ref r0)] [(.int w1)])) t → Steps p.tables e below (s₁.setTop (mkF m 0 #[.val (.ref r0)] [])) t := by
    intro t h
    show Steps p.tables e below (s₁.setTop (mkF m 0 #[.val (.ref r0)] [])) _
    refine XS.aloadN X0.here hx rfl (hb hby own_d4_0) rfl rfl ?_
    show Steps p.tables e below (s₁.setTop (mkF m 1 #[.val (.ref r0)] [(.ref r0)])) _
    refine st12 _ ?_
    exact h
  obtain ⟨fs, hr, hrun, hended, hW, hsame⟩ := X12.leave (v := some (.int w1)) (fun h => by rw [Bd.returns] at h; cases h) Bd.notSynchronized
  refine ⟨_, _, pre0 _ (k13 _ ?_), hrun, hended, _, _, rfl, ?_, ⟨_, rfl⟩, hW, hsame.mono (by decide) (by decide)⟩
  · exact retI X12 hx Bd.returns (hb hby own_d4_4) hr
  · show Q_rmB Z _ _ h0 n0 _ T12.heap _
    rw [e12]
    exact ⟨congrArg (fun z : Int32 => some (Value.int z)) (rfl), N0, rfl⟩
def Q_rmS (Z : State) (r0 : Addr) (w1 : Int32) (h0 : Heap) (n0 : Nat) (v : Option Value) (h : Heap) (L : List Loc) : Prop := v = some (.int w1) ∧ Fr n0 L ∧ h = h0
set_option maxRecDepth 65536 in
set_option maxHeartbeats 40000000 in
theorem rmS (l : Launch) (Z : State) (a0 : Array Value) (hw : ∀ d ∈ tables_1, d.before a0 Z = true) (ws : List Jvm.Cond) (r0 : Addr) (w1 : Int32) (h0 : Heap) (n0 : Nat) (Z0 : n0 ≤ h0.size) (F1 : Fld Z h0 r0 "com/example/lats/lats/permission/PermissionClass" "shift" "I" (.int w1)) :
    MetFree l (⟨"com/example/lats/lats/permission/PermissionClass", "shift", "()I"⟩ : MethodName) (head1 (Jvm.Cond.code (⟨"com/example/lats/lats/permission/PermissionClass", "shift", "()I"⟩ : MethodName) prog_30_method_5_code 1 (some .int) :: ws) ({ frames := 0, cells := 0, slots := 0, locals := 0 } : Room)) (fun a U => a = #[(.ref r0)] ∧ Z.Warmed39 U.vm ∧ U.heap = h0) (fun _ _ _ _ _ => True) (fun _ U o U' => ∃ v L, o = .returned v ∧ Q_rmS Z r0 w1 h0 n0 v U'.heap L ∧ FrameEnd U o U' L ({ frames := 0, cells := 0, slots := 0, locals := 0 } : Room).cells ({ frames := 0, cells := 0, slots := 0, locals := 0 } : Room).slots) := by
  refine MetFree.of_bodySF (plainFor_of_name own_pn_2) hisR ?_
  intro p e s m args below meth c s₁ Bd hml0 hP hK
  obtain ⟨rfl, hZ, hh⟩ := hP
  have hx := Bd.exec
  have hby := Bd.bytes
  have hml : c.maxLocals = 1 := hml0
  have hown : s.vm.findClass "com/example/lats/lats/permission/PermissionClass" = some m.cls := findClass_of_methodNamed Bd.named
  have hnm := (name_of_methodNamed Bd.named Bd.method).1
  have X0 : Stand p l e ({ frames := 0, cells := 0, slots := 0, locals := 0 } : Room) s m #[(.ref r0)] below meth c s₁ [] 0 0 := Stand.of_body Bd
  have e0 : s₁.heap = h0 := by rw [← hh, Bd.state]; rfl
  have N0 := Fr.nil n0
  have K0 : Keep h0 h0 [] := Keep.refl h0 _
  have pre0 : ∀ t, Steps p.tables e below (s₁.setTop (mkF m 0 #[.val (.ref r0)] [])) t → Steps p.tables e below (s₁.setTop (entryFrame m #[(.ref r0)] 1)) t := fun t k => castTop (own_ef_1 m r0) k
  obtain ⟨T14, X14, e14, st14⟩ := getF X0 hx hZ hown (host := "") (Or.inl (hw _ (List.mem_of_getElem? (i := 35) rfl))) Via.refl e0 F1 (g := (mkF m 1 #[.val (.ref r0)] [(.ref r0)])) rfl rfl (hb hby own_d5_1)
  have k15 : ∀ t, Steps p.tables e below (T14.setTop (mkF m 4 #[.val (.ref r0)] [(.int w1)])) t → Steps p.tables e below (s₁.setTop (mkF m 0 #[.val (.ref r0)] [])) t := by
    intro t h
    show Steps p.tables e below (s₁.setTop (mkF m 0 #[.val (.ref r0)] [])) _
    refine XS.aloadN X0.here hx rfl (hb hby own_d5_0) rfl rfl ?_
    show Steps p.tables e below (s₁.setTop (mkF m 1 #[.val (.ref r0)] [(.ref r0)])) _
    refine st14 _ ?_
    exact h
  obtain ⟨fs, hr, hrun, hended, hW, hsame⟩ := X14.leave (v := some (.int w1)) (fun h => by rw [Bd.returns] at h; cases h) Bd.notSynchronized
  refine ⟨_, _, pre0 _ (k15 _ ?_), hrun, hended, _, _, rfl, ?_, ⟨_, rfl⟩, hW, hsame.mono (by decide) (by decide)⟩
  · exact retI X14 hx Bd.returns (hb hby own_d5_4) hr
  · show Q_rmS Z _ _ h0 n0 _ T14.heap _
    rw [e14]
    exact ⟨congrArg (fun z : Int32 => some (Value.int z)) (rfl), N0, rfl⟩
def Q_rmG (Z : State) (r0 : Addr) (r1 : Addr) (r2 : Addr) (w1 : Int32) (w2 : Int32) (w3 : Int32) (h0 : Heap) (n0 : Nat) (v : Option Value) (h : Heap) (L : List Loc) : Prop := v = some (.int (own_gr w1 w3 w2)) ∧ Fr n0 L ∧ h = h0
set_option maxRecDepth 65536 in
set_option maxHeartbeats 40000000 in
theorem rmG (l : Launch) (Z : State) (a0 : Array Value) (hw : ∀ d ∈ tables_1, d.before a0 Z = true) (ws : List Jvm.Cond) (r0 : Addr) (r1 : Addr) (r2 : Addr) (w1 : Int32) (w2 : Int32) (w3 : Int32) (h0 : Heap) (n0 : Nat) (Z0 : n0 ≤ h0.size) (F1 : Fld Z h0 r0 "com/example/lats/lats/permission/Mode" "bits" "I" (.int w1)) (F2 : Fld Z h0 r1 "com/example/lats/lats/permission/PermissionClass" "shift" "I" (.int w2)) (F3 : Fld Z h0 r2 "com/example/lats/lats/permission/Access" "bit" "I" (.int w3)) (E1 : Exa Z h0 r1 "com/example/lats/lats/permission/PermissionClass") (E2 : Exa Z h0 r2 "com/example/lats/lats/permission/Access") :
    MetFree l (⟨"com/example/lats/lats/permission/Mode", "grants", "(Lcom/example/lats/lats/permission/PermissionClass;Lcom/example/lats/lats/permission/Access;)Z"⟩ : MethodName) (head1 (Jvm.Cond.code (⟨"com/example/lats/lats/permission/Mode", "grants", "(Lcom/example/lats/lats/permission/PermissionClass;Lcom/example/lats/lats/permission/Access;)Z"⟩ : MethodName) prog_25_method_8_code 3 (some .boolean) :: ws) ({ frames := 1, cells := 0, slots := 0, locals := 14 } : Room)) (fun a U => a = #[(.ref r0), (.ref r1), (.ref r2)] ∧ Z.Warmed39 U.vm ∧ U.heap = h0) (fun _ _ _ _ _ => True) (fun _ U o U' => ∃ v L, o = .returned v ∧ Q_rmG Z r0 r1 r2 w1 w2 w3 h0 n0 v U'.heap L ∧ FrameEnd U o U' L ({ frames := 1, cells := 0, slots := 0, locals := 14 } : Room).cells ({ frames := 1, cells := 0, slots := 0, locals := 14 } : Room).slots) := by
  refine MetFree.of_bodySF (plainFor_of_name own_pn_0) hisR ?_
  intro p e s m args below meth c s₁ Bd hml0 hP hK
  obtain ⟨rfl, hZ, hh⟩ := hP
  have hx := Bd.exec
  have hby := Bd.bytes
  have hml : c.maxLocals = 3 := hml0
  have hown : s.vm.findClass "com/example/lats/lats/permission/Mode" = some m.cls := findClass_of_methodNamed Bd.named
  have hnm := (name_of_methodNamed Bd.named Bd.method).1
  have X0 : Stand p l e ({ frames := 1, cells := 0, slots := 0, locals := 14 } : Room) s m #[(.ref r0), (.ref r1), (.ref r2)] below meth c s₁ [] 0 0 := Stand.of_body Bd
  have e0 : s₁.heap = h0 := by rw [← hh, Bd.state]; rfl
  have N0 := Fr.nil n0
  have K0 : Keep h0 h0 [] := Keep.refl h0 _
  have pre0 : ∀ t, Steps p.tables e below (s₁.setTop (mkF m 0 #[.val (.ref r0), .val (.ref r1), .val (.ref r2)] [])) t → Steps p.tables e below (s₁.setTop (entryFrame m #[(.ref r0), (.ref r1), (.ref r2)] 3)) t := fun t k => castTop (own_ef_2 m r0 r1 r2) k
  obtain ⟨T16, X16, e16, st16⟩ := getF X0 hx hZ hown (host := "") (Or.inl (hw _ (List.mem_of_getElem? (i := 16) rfl))) Via.refl e0 F1 (g := (mkF m 1 #[.val (.ref r0), .val (.ref r1), .val (.ref r2)] [(.ref r0)])) rfl rfl (hb hby own_d3_1)
  obtain ⟨cq17, kq17, q17a, q17b, q17c⟩ := isOf hZ e16 E2
  obtain ⟨_, _, ⟨T17, L17, k17, n17⟩, -, X17, ⟨Lc17, hQ17, l17, y17, z17⟩, st17⟩ := X16.virtualBack hx (y := (⟨"com/example/lats/lats/permission/Access", "bit", "()I"⟩ : MethodName)) (z := (⟨"com/example/lats/lats/permission/Access", "bit", "()I"⟩ : MethodName)) hown (mvT hZ (hw _ (List.mem_of_getElem? (i := 23) rfl))) (mvT hZ (hw _ (List.mem_of_getElem? (i := 24) rfl))) (notFace_of_selects (args := #[]) (mvT hZ (hw _ (List.mem_of_getElem? (i := 26) rfl)))) (mvT hZ (hw _ (List.mem_of_getElem? (i := 26) rfl))) (mvT hZ (hw _ (List.mem_of_getElem? (i := 25) rfl))) (by decide) (backOf (W := 1) (rmB l Z a0 hw [] r2 w3 h0 n0 Z0 F3) hZ (hw _ (List.mem_of_getElem? (i := 27) rfl)) (hw _ (List.mem_of_getElem? (i := 5) rfl)) (by decide) (by decide)) q17a q17c (g := (mkF m 5 #[.val (.ref r0), .val (.ref r1), .val (.ref r2)] [(.ref r2), (.int w1)])) rfl (by rw [hml]; rfl) (Steps.refl _) (argsL := []) (rest := [(.int w1)]) (lenOf own_pd_0 rfl) rfl (by show 2 * 0 + _ ≤ _; exact Nat.le_of_eq rfl) (hb hby own_d3_5) (fun _ _ => ⟨rfl, e16, (by decide : 0 + 0 ≤ _), (by decide : 0 + 0 ≤ _)⟩)
  dsimp only [Pt.U, Pt.locs, Pt.cells, Pt.slots] at X17 l17 y17 z17 st17 hQ17
  subst l17 y17 z17
  obtain ⟨rfl, Nq17, eq17⟩ := hQ17
  have N17 := Fr.app N0 Nq17
  obtain ⟨cq18, kq18, q18a, q18b, q18c⟩ := isOf hZ eq17 E1
  obtain ⟨_, _, ⟨T18, L18, k18, n18⟩, -, X18, ⟨Lc18, hQ18, l18, y18, z18⟩, st18⟩ := X17.virtualBack hx (y := (⟨"com/example/lats/lats/permission/PermissionClass", "shift", "()I"⟩ : MethodName)) (z := (⟨"com/example/lats/lats/permission/PermissionClass", "shift", "()I"⟩ : MethodName)) hown (mvT hZ (hw _ (List.mem_of_getElem? (i := 30) rfl))) (mvT hZ (hw _ (List.mem_of_getElem? (i := 31) rfl))) (notFace_of_selects (args := #[]) (mvT hZ (hw _ (List.mem_of_getElem? (i := 33) rfl)))) (mvT hZ (hw _ (List.mem_of_getElem? (i := 33) rfl))) (mvT hZ (hw _ (List.mem_of_getElem? (i := 32) rfl))) (by decide) (backOf (W := 2) (rmS l Z a0 hw [] r1 w2 h0 n0 Z0 F2) hZ (hw _ (List.mem_of_getElem? (i := 34) rfl)) (hw _ (List.mem_of_getElem? (i := 2) rfl)) (by decide) (by decide)) q18a q18c (g := (mkF m 9 #[.val (.ref r0), .val (.ref r1), .val (.ref r2)] [(.ref r1), (.int w3), (.int w1)])) rfl (by rw [hml]; rfl) (Steps.refl _) (argsL := []) (rest := [(.int w3), (.int w1)]) (lenOf own_pd_0 rfl) rfl (by show 2 * 0 + _ ≤ _; exact Nat.le_of_eq rfl) (hb hby own_d3_9) (fun _ _ => ⟨rfl, eq17, (by decide : 0 + 0 ≤ _), (by decide : 0 + 0 ≤ _)⟩)
  dsimp only [Pt.U, Pt.locs, Pt.cells, Pt.slots] at X18 l18 y18 z18 st18 hQ18
  subst l18 y18 z18
  obtain ⟨rfl, Nq18, eq18⟩ := hQ18
  have N18 := Fr.app N17 Nq18
  have k19 : ∀ t, Steps p.tables e below (T18.setTop (mkF m 14 #[.val (.ref r0), .val (.ref r1), .val (.ref r2)] [(.int (w1 &&& (w3 <<< (w2 &&& 31))))])) t → Steps p.tables e below (s₁.setTop (mkF m 0 #[.val (.ref r0), .val (.ref r1), .val (.ref r2)] [])) t := by
    intro t h
    show Steps p.tables e below (s₁.setTop (mkF m 0 #[.val (.ref r0), .val (.ref r1), .val (.ref r2)] [])) _
    refine XS.aloadN X0.here hx rfl (hb hby own_d3_0) rfl rfl ?_
    show Steps p.tables e below (s₁.setTop (mkF m 1 #[.val (.ref r0), .val (.ref r1), .val (.ref r2)] [(.ref r0)])) _
    refine st16 _ ?_
    show Steps p.tables e below (T16.setTop (mkF m 4 #[.val (.ref r0), .val (.ref r1), .val (.ref r2)] [(.int w1)])) _
    refine XS.aloadN X16.here hx rfl (hb hby own_d3_4) rfl rfl ?_
    show Steps p.tables e below (T16.setTop (mkF m 5 #[.val (.ref r0), .val (.ref r1), .val (.ref r2)] [(.ref r2), (.int w1)])) _
    refine st17.trans ?_
    show Steps p.tables e below (T17.setTop (mkF m 8 #[.val (.ref r0), .val (.ref r1), .val (.ref r2)] [(.int w3), (.int w1)])) _
    refine XS.aloadN X17.here hx rfl (hb hby own_d3_8) rfl rfl ?_
    show Steps p.tables e below (T17.setTop (mkF m 9 #[.val (.ref r0), .val (.ref r1), .val (.ref r2)] [(.ref r1), (.int w3), (.int w1)])) _
    refine st18.trans ?_
    show Steps p.tables e below (T18.setTop (mkF m 12 #[.val (.ref r0), .val (.ref r1), .val (.ref r2)] [(.int w2), (.int w3), (.int w1)])) _
    refine XS.ishl X18.here hx rfl (hb hby own_d3_12) rfl ?_
    show Steps p.tables e below (T18.setTop (mkF m 13 #[.val (.ref r0), .val (.ref r1), .val (.ref r2)] [(.int (w3 <<< (w2 &&& 31))), (.int w1)])) _
    refine XS.iand X18.here hx rfl (hb hby own_d3_13) rfl ?_
    exact h
  by_cases c14_20 : (w1 &&& (w3 <<< (w2 &&& 31))) = (0 : Int32)
  · skip
    have k21 : ∀ t, Steps p.tables e below (T18.setTop (mkF m 22 #[.val (.ref r0), .val (.ref r1), .val (.ref r2)] [(.int (0 : Int32))])) t → Steps p.tables e below (s₁.setTop (mkF m 0 #[.val (.ref r0), .val (.ref r1), .val (.ref r2)] [])) t := by
      intro t h
      refine k19 t ?_
      show Steps p.tables e below (T18.setTop (mkF m 14 #[.val (.ref r0), .val (.ref r1), .val (.ref r2)] [(.int (w1 &&& (w3 <<< (w2 &&& 31))))])) _
      refine XS.ifYes X18.here hx rfl (pc0 := 14) (pc' := 21) rfl (hb hby own_d3_14) rfl ((if0 _ _).trans (teq c14_20).1) (by decide) (by decide) ?_
      show Steps p.tables e below (T18.setTop (mkF m 21 #[.val (.ref r0), .val (.ref r1), .val (.ref r2)] [])) _
      refine XS.iconst X18.here hx rfl (hb hby own_d3_21) ?_
      exact h
    obtain ⟨fs, hr, hrun, hended, hW, hsame⟩ := X18.leave (v := some (.int (0 : Int32))) (fun h => by rw [Bd.returns] at h; cases h) Bd.notSynchronized
    refine ⟨_, _, pre0 _ (k21 _ ?_), hrun, hended, _, _, rfl, ?_, ⟨_, rfl⟩, hW, hsame.mono (by decide) (by decide)⟩
    · exact retN X18 hx (t := .boolean) Bd.returns (by simp) (hb hby own_d3_22) hr
    · show Q_rmG Z _ _ _ _ _ _ h0 n0 _ T18.heap _
      rw [eq18]
      exact ⟨congrArg (fun z : Int32 => some (Value.int z)) (by first | (simp only [own_gr, c14_20, ↓reduceIte]; done) | (simp [own_gr, c14_20]; done)), N18, rfl⟩
  · skip
    have k22 : ∀ t, Steps p.tables e below (T18.setTop (mkF m 22 #[.val (.ref r0), .val (.ref r1), .val (.ref r2)] [(.int (1 : Int32))])) t → Steps p.tables e below (s₁.setTop (mkF m 0 #[.val (.ref r0), .val (.ref r1), .val (.ref r2)] [])) t := by
      intro t h
      refine k19 t ?_
      show Steps p.tables e below (T18.setTop (mkF m 14 #[.val (.ref r0), .val (.ref r1), .val (.ref r2)] [(.int (w1 &&& (w3 <<< (w2 &&& 31))))])) _
      refine XS.ifNo X18.here hx rfl (hb hby own_d3_14) rfl ((if0 _ _).trans (feq c14_20).1) ?_
      show Steps p.tables e below (T18.setTop (mkF m 17 #[.val (.ref r0), .val (.ref r1), .val (.ref r2)] [])) _
      refine XS.iconst X18.here hx rfl (hb hby own_d3_17) ?_
      show Steps p.tables e below (T18.setTop (mkF m 18 #[.val (.ref r0), .val (.ref r1), .val (.ref r2)] [(.int (1 : Int32))])) _
      refine XS.goto X18.here hx rfl (pc0 := 18) (pc' := 22) rfl (hb hby own_d3_18) (by decide) (by decide) ?_
      exact h
    obtain ⟨fs, hr, hrun, hended, hW, hsame⟩ := X18.leave (v := some (.int (1 : Int32))) (fun h => by rw [Bd.returns] at h; cases h) Bd.notSynchronized
    refine ⟨_, _, pre0 _ (k22 _ ?_), hrun, hended, _, _, rfl, ?_, ⟨_, rfl⟩, hW, hsame.mono (by decide) (by decide)⟩
    · exact retN X18 hx (t := .boolean) Bd.returns (by simp) (hb hby own_d3_22) hr
    · show Q_rmG Z _ _ _ _ _ _ h0 n0 _ T18.heap _
      rw [eq18]
      exact ⟨congrArg (fun z : Int32 => some (Value.int z)) (by first | (simp only [own_gr, c14_20, ↓reduceIte]; done) | (simp [own_gr, c14_20]; done)), N18, rfl⟩
def Q_rm0 (Z : State) (p0 : Int32) (p1 : Int32) (p2 : Int32) (st_PermissionClass_OWNER : Addr) (st_Access_EXECUTE : Addr) (st_Access_READ : Addr) (st_PermissionClass_OTHERS : Addr) (st_Access_WRITE : Addr) (st_PermissionClass_GROUP : Addr) (h0 : Heap) (n0 : Nat) (v : Option Value) (h : Heap) (L : List Loc) : Prop := v = some (.int 1) ∧ Fr n0 L
set_option maxRecDepth 65536 in
set_option maxHeartbeats 40000000 in
theorem rm0 (l : Launch) (Z : State) (a0 : Array Value) (hw : ∀ d ∈ tables_1, d.before a0 Z = true) (ws : List Jvm.Cond) (p0 : Int32) (p1 : Int32) (p2 : Int32) (st_PermissionClass_OWNER : Addr) (st_Access_EXECUTE : Addr) (st_Access_READ : Addr) (st_PermissionClass_OTHERS : Addr) (st_Access_WRITE : Addr) (st_PermissionClass_GROUP : Addr) (h0 : Heap) (n0 : Nat) (Z0 : n0 ≤ h0.size) (S_PermissionClass_OWNER : Sta Z h0 "com/example/lats/lats/permission/PermissionClass" "OWNER" "Lcom/example/lats/lats/permission/PermissionClass;" (.ref st_PermissionClass_OWNER)) (E_PermissionClass_OWNER : Exa Z h0 st_PermissionClass_OWNER "com/example/lats/lats/permission/PermissionClass") (S_Access_EXECUTE : Sta Z h0 "com/example/lats/lats/permission/Access" "EXECUTE" "Lcom/example/lats/lats/permission/Access;" (.ref st_Access_EXECUTE)) (E_Access_EXECUTE : Exa Z h0 st_Access_EXECUTE "com/example/lats/lats/permission/Access") (S_Access_READ : Sta Z h0 "com/example/lats/lats/permission/Access" "READ" "Lcom/example/lats/lats/permission/Access;" (.ref st_Access_READ)) (E_Access_READ : Exa Z h0 st_Access_READ "com/example/lats/lats/permission/Access") (S_PermissionClass_OTHERS : Sta Z h0 "com/example/lats/lats/permission/PermissionClass" "OTHERS" "Lcom/example/lats/lats/permission/PermissionClass;" (.ref st_PermissionClass_OTHERS)) (E_PermissionClass_OTHERS : Exa Z h0 st_PermissionClass_OTHERS "com/example/lats/lats/permission/PermissionClass") (S_Access_WRITE : Sta Z h0 "com/example/lats/lats/permission/Access" "WRITE" "Lcom/example/lats/lats/permission/Access;" (.ref st_Access_WRITE)) (E_Access_WRITE : Exa Z h0 st_Access_WRITE "com/example/lats/lats/permission/Access") (S_PermissionClass_GROUP : Sta Z h0 "com/example/lats/lats/permission/PermissionClass" "GROUP" "Lcom/example/lats/lats/permission/PermissionClass;" (.ref st_PermissionClass_GROUP)) (E_PermissionClass_GROUP : Exa Z h0 st_PermissionClass_GROUP "com/example/lats/lats/permission/PermissionClass") (F_Access_EXECUTE_bit : Fld Z h0 st_Access_EXECUTE "com/example/lats/lats/permission/Access" "bit" "I" (.int (1 : Int32))) (F_PermissionClass_OWNER_shift : Fld Z h0 st_PermissionClass_OWNER "com/example/lats/lats/permission/PermissionClass" "shift" "I" (.int (6 : Int32))) (F_Access_READ_bit : Fld Z h0 st_Access_READ "com/example/lats/lats/permission/Access" "bit" "I" (.int (4 : Int32))) (F_Access_WRITE_bit : Fld Z h0 st_Access_WRITE "com/example/lats/lats/permission/Access" "bit" "I" (.int (2 : Int32))) (F_PermissionClass_OTHERS_shift : Fld Z h0 st_PermissionClass_OTHERS "com/example/lats/lats/permission/PermissionClass" "shift" "I" (.int (0 : Int32))) (F_PermissionClass_GROUP_shift : Fld Z h0 st_PermissionClass_GROUP "com/example/lats/lats/permission/PermissionClass" "shift" "I" (.int (3 : Int32))) :
    MetFree l x (head1 (Jvm.Cond.code x code maxLocals ret :: ws) room_1) (fun a U => a = #[(.int p0), (.int p1), (.int p2)] ∧ Z.Warmed39 U.vm ∧ U.heap = h0) (fun _ _ _ _ _ => True) (fun _ U o U' => ∃ v L, o = .returned v ∧ Q_rm0 Z p0 p1 p2 st_PermissionClass_OWNER st_Access_EXECUTE st_Access_READ st_PermissionClass_OTHERS st_Access_WRITE st_PermissionClass_GROUP h0 n0 v U'.heap L ∧ FrameEnd U o U' L 1 1) := by
  refine MetFree.of_bodySF (plainFor_of_name own_pn_3) hisR ?_
  intro p e s m args below meth c s₁ Bd hml0 hP hK
  obtain ⟨rfl, hZ, hh⟩ := hP
  have hx := Bd.exec
  have hby := Bd.bytes
  have hml : c.maxLocals = 13 := hml0
  have hown : s.vm.findClass "com/example/lats/lats/permission/ModeGrantsPinLaw" = some m.cls := findClass_of_methodNamed Bd.named
  have hnm := (name_of_methodNamed Bd.named Bd.method).1
  have X0 : Stand p l e room_1 s m #[(.int p0), (.int p1), (.int p2)] below meth c s₁ [] 0 0 := Stand.of_body Bd
  have e0 : s₁.heap = h0 := by rw [← hh, Bd.state]; rfl
  have N0 := Fr.nil n0
  have K0 : Keep h0 h0 [] := Keep.refl h0 _
  have pre0 : ∀ t, Steps p.tables e below (s₁.setTop (mkF m 0 #[.val (.int p0), .val (.int p1), .val (.int p2), .unset, .unset, .unset, .unset, .unset, .unset, .unset, .unset, .unset, .unset] [])) t → Steps p.tables e below (s₁.setTop (entryFrame m #[(.int p0), (.int p1), (.int p2)] maxLocals)) t := fun t k => castTop (own_ef_3 m p0 p1 p2) k
  have k23 : ∀ t, Steps p.tables e below (s₁.setTop (mkF m 24 #[.val (.int p0), .val (.int p1), .val (.int p2), .val (.int (p0 &&& (1023 : Int32))), .val (.int ((p1 &&& (2147483647 : Int32)) % (3 : Int32))), .val (.int ((p2 &&& (2147483647 : Int32)) % (3 : Int32))), .unset, .unset, .unset, .unset, .unset, .unset, .unset] [(.int ((p1 &&& (2147483647 : Int32)) % (3 : Int32)))])) t → Steps p.tables e below (s₁.setTop (mkF m 0 #[.val (.int p0), .val (.int p1), .val (.int p2), .unset, .unset, .unset, .unset, .unset, .unset, .unset, .unset, .unset, .unset] [])) t := by
    intro t h
    show Steps p.tables e below (s₁.setTop (mkF m 0 #[.val (.int p0), .val (.int p1), .val (.int p2), .unset, .unset, .unset, .unset, .unset, .unset, .unset, .unset, .unset, .unset] [])) _
    refine XS.iloadN X0.here hx rfl (hb hby at_0) rfl ?_
    show Steps p.tables e below (s₁.setTop (mkF m 1 #[.val (.int p0), .val (.int p1), .val (.int p2), .unset, .unset, .unset, .unset, .unset, .unset, .unset, .unset, .unset, .unset] [(.int p0)])) _
    refine XS.sipush X0.here hx rfl (hb hby at_1) ?_
    show Steps p.tables e below (s₁.setTop (mkF m 4 #[.val (.int p0), .val (.int p1), .val (.int p2), .unset, .unset, .unset, .unset, .unset, .unset, .unset, .unset, .unset, .unset] [(.int (1023 : Int32)), (.int p0)])) _
    refine XS.iand X0.here hx rfl (hb hby at_4) rfl ?_
    show Steps p.tables e below (s₁.setTop (mkF m 5 #[.val (.int p0), .val (.int p1), .val (.int p2), .unset, .unset, .unset, .unset, .unset, .unset, .unset, .unset, .unset, .unset] [(.int (p0 &&& (1023 : Int32)))])) _
    refine XS.istoreN X0.here hx rfl (hb hby at_5) rfl (l' := #[.val (.int p0), .val (.int p1), .val (.int p2), .val (.int (p0 &&& (1023 : Int32))), .unset, .unset, .unset, .unset, .unset, .unset, .unset, .unset, .unset]) rfl ?_
    show Steps p.tables e below (s₁.setTop (mkF m 6 #[.val (.int p0), .val (.int p1), .val (.int p2), .val (.int (p0 &&& (1023 : Int32))), .unset, .unset, .unset, .unset, .unset, .unset, .unset, .unset, .unset] [])) _
    refine XS.iloadN X0.here hx rfl (hb hby at_6) rfl ?_
    show Steps p.tables e below (s₁.setTop (mkF m 7 #[.val (.int p0), .val (.int p1), .val (.int p2), .val (.int (p0 &&& (1023 : Int32))), .unset, .unset, .unset, .unset, .unset, .unset, .unset, .unset, .unset] [(.int p1)])) _
    refine X0.ldcInt hx hown (mvT hZ (hw _ (List.mem_of_getElem? (i := 0) rfl))) (g := (mkF m 7 #[.val (.int p0), .val (.int p1), .val (.int p2), .val (.int (p0 &&& (1023 : Int32))), .unset, .unset, .unset, .unset, .unset, .unset, .unset, .unset, .unset] [(.int p1)])) rfl (hb hby at_7) _ ?_
    show Steps p.tables e below (s₁.setTop (mkF m 9 #[.val (.int p0), .val (.int p1), .val (.int p2), .val (.int (p0 &&& (1023 : Int32))), .unset, .unset, .unset, .unset, .unset, .unset, .unset, .unset, .unset] [(.int (2147483647 : Int32)), (.int p1)])) _
    refine XS.iand X0.here hx rfl (hb hby at_9) rfl ?_
    show Steps p.tables e below (s₁.setTop (mkF m 10 #[.val (.int p0), .val (.int p1), .val (.int p2), .val (.int (p0 &&& (1023 : Int32))), .unset, .unset, .unset, .unset, .unset, .unset, .unset, .unset, .unset] [(.int (p1 &&& (2147483647 : Int32)))])) _
    refine XS.iconst X0.here hx rfl (hb hby at_10) ?_
    show Steps p.tables e below (s₁.setTop (mkF m 11 #[.val (.int p0), .val (.int p1), .val (.int p2), .val (.int (p0 &&& (1023 : Int32))), .unset, .unset, .unset, .unset, .unset, .unset, .unset, .unset, .unset] [(.int (3 : Int32)), (.int (p1 &&& (2147483647 : Int32)))])) _
    refine iremM (g := (mkF m 11 #[.val (.int p0), .val (.int p1), .val (.int p2), .val (.int (p0 &&& (1023 : Int32))), .unset, .unset, .unset, .unset, .unset, .unset, .unset, .unset, .unset] [(.int (3 : Int32)), (.int (p1 &&& (2147483647 : Int32)))])) X0 hx rfl (hb hby at_11) rfl (by decide) ?_
    show Steps p.tables e below (s₁.setTop (mkF m 12 #[.val (.int p0), .val (.int p1), .val (.int p2), .val (.int (p0 &&& (1023 : Int32))), .unset, .unset, .unset, .unset, .unset, .unset, .unset, .unset, .unset] [(.int ((p1 &&& (2147483647 : Int32)) % (3 : Int32)))])) _
    refine XS.istore X0.here hx rfl (hb hby at_12) rfl (l' := #[.val (.int p0), .val (.int p1), .val (.int p2), .val (.int (p0 &&& (1023 : Int32))), .val (.int ((p1 &&& (2147483647 : Int32)) % (3 : Int32))), .unset, .unset, .unset, .unset, .unset, .unset, .unset, .unset]) rfl ?_
    show Steps p.tables e below (s₁.setTop (mkF m 14 #[.val (.int p0), .val (.int p1), .val (.int p2), .val (.int (p0 &&& (1023 : Int32))), .val (.int ((p1 &&& (2147483647 : Int32)) % (3 : Int32))), .unset, .unset, .unset, .unset, .unset, .unset, .unset, .unset] [])) _
    refine XS.iloadN X0.here hx rfl (hb hby at_14) rfl ?_
    show Steps p.tables e below (s₁.setTop (mkF m 15 #[.val (.int p0), .val (.int p1), .val (.int p2), .val (.int (p0 &&& (1023 : Int32))), .val (.int ((p1 &&& (2147483647 : Int32)) % (3 : Int32))), .unset, .unset, .unset, .unset, .unset, .unset, .unset, .unset] [(.int p2)])) _
    refine X0.ldcInt hx hown (mvT hZ (hw _ (List.mem_of_getElem? (i := 0) rfl))) (g := (mkF m 15 #[.val (.int p0), .val (.int p1), .val (.int p2), .val (.int (p0 &&& (1023 : Int32))), .val (.int ((p1 &&& (2147483647 : Int32)) % (3 : Int32))), .unset, .unset, .unset, .unset, .unset, .unset, .unset, .unset] [(.int p2)])) rfl (hb hby at_15) _ ?_
    show Steps p.tables e below (s₁.setTop (mkF m 17 #[.val (.int p0), .val (.int p1), .val (.int p2), .val (.int (p0 &&& (1023 : Int32))), .val (.int ((p1 &&& (2147483647 : Int32)) % (3 : Int32))), .unset, .unset, .unset, .unset, .unset, .unset, .unset, .unset] [(.int (2147483647 : Int32)), (.int p2)])) _
    refine XS.iand X0.here hx rfl (hb hby at_17) rfl ?_
    show Steps p.tables e below (s₁.setTop (mkF m 18 #[.val (.int p0), .val (.int p1), .val (.int p2), .val (.int (p0 &&& (1023 : Int32))), .val (.int ((p1 &&& (2147483647 : Int32)) % (3 : Int32))), .unset, .unset, .unset, .unset, .unset, .unset, .unset, .unset] [(.int (p2 &&& (2147483647 : Int32)))])) _
    refine XS.iconst X0.here hx rfl (hb hby at_18) ?_
    show Steps p.tables e below (s₁.setTop (mkF m 19 #[.val (.int p0), .val (.int p1), .val (.int p2), .val (.int (p0 &&& (1023 : Int32))), .val (.int ((p1 &&& (2147483647 : Int32)) % (3 : Int32))), .unset, .unset, .unset, .unset, .unset, .unset, .unset, .unset] [(.int (3 : Int32)), (.int (p2 &&& (2147483647 : Int32)))])) _
    refine iremM (g := (mkF m 19 #[.val (.int p0), .val (.int p1), .val (.int p2), .val (.int (p0 &&& (1023 : Int32))), .val (.int ((p1 &&& (2147483647 : Int32)) % (3 : Int32))), .unset, .unset, .unset, .unset, .unset, .unset, .unset, .unset] [(.int (3 : Int32)), (.int (p2 &&& (2147483647 : Int32)))])) X0 hx rfl (hb hby at_19) rfl (by decide) ?_
    show Steps p.tables e below (s₁.setTop (mkF m 20 #[.val (.int p0), .val (.int p1), .val (.int p2), .val (.int (p0 &&& (1023 : Int32))), .val (.int ((p1 &&& (2147483647 : Int32)) % (3 : Int32))), .unset, .unset, .unset, .unset, .unset, .unset, .unset, .unset] [(.int ((p2 &&& (2147483647 : Int32)) % (3 : Int32)))])) _
    refine XS.istore X0.here hx rfl (hb hby at_20) rfl (l' := #[.val (.int p0), .val (.int p1), .val (.int p2), .val (.int (p0 &&& (1023 : Int32))), .val (.int ((p1 &&& (2147483647 : Int32)) % (3 : Int32))), .val (.int ((p2 &&& (2147483647 : Int32)) % (3 : Int32))), .unset, .unset, .unset, .unset, .unset, .unset, .unset]) rfl ?_
    show Steps p.tables e below (s₁.setTop (mkF m 22 #[.val (.int p0), .val (.int p1), .val (.int p2), .val (.int (p0 &&& (1023 : Int32))), .val (.int ((p1 &&& (2147483647 : Int32)) % (3 : Int32))), .val (.int ((p2 &&& (2147483647 : Int32)) % (3 : Int32))), .unset, .unset, .unset, .unset, .unset, .unset, .unset] [])) _
    refine XS.iload X0.here hx rfl (hb hby at_22) rfl ?_
    exact h
  by_cases c24_24 : ((p1 &&& (2147483647 : Int32)) % (3 : Int32)) = (0 : Int32)
  · skip
    obtain ⟨T25, X25, e25, st25⟩ := getS2 X0 hx hZ hown (host := "") (Or.inl (hw _ (List.mem_of_getElem? (i := 1) rfl))) Via.refl e0 S_PermissionClass_OWNER (g := (mkF m 27 #[.val (.int p0), .val (.int p1), .val (.int p2), .val (.int (p0 &&& (1023 : Int32))), .val (.int ((p1 &&& (2147483647 : Int32)) % (3 : Int32))), .val (.int ((p2 &&& (2147483647 : Int32)) % (3 : Int32))), .unset, .unset, .unset, .unset, .unset, .unset, .unset] [])) rfl (hb hby at_27)
    have k26 : ∀ t, Steps p.tables e below (T25.setTop (mkF m 67 #[.val (.int p0), .val (.int p1), .val (.int p2), .val (.int (p0 &&& (1023 : Int32))), .val (.int ((p1 &&& (2147483647 : Int32)) % (3 : Int32))), .val (.int ((p2 &&& (2147483647 : Int32)) % (3 : Int32))), .val (.ref st_PermissionClass_OWNER), .val (.int (64 : Int32)), .unset, .unset, .unset, .unset, .unset] [(.int ((p2 &&& (2147483647 : Int32)) % (3 : Int32)))])) t → Steps p.tables e below (s₁.setTop (mkF m 0 #[.val (.int p0), .val (.int p1), .val (.int p2), .unset, .unset, .unset, .unset, .unset, .unset, .unset, .unset, .unset, .unset] [])) t := by
      intro t h
      refine k23 t ?_
      show Steps p.tables e below (s₁.setTop (mkF m 24 #[.val (.int p0), .val (.int p1), .val (.int p2), .val (.int (p0 &&& (1023 : Int32))), .val (.int ((p1 &&& (2147483647 : Int32)) % (3 : Int32))), .val (.int ((p2 &&& (2147483647 : Int32)) % (3 : Int32))), .unset, .unset, .unset, .unset, .unset, .unset, .unset] [(.int ((p1 &&& (2147483647 : Int32)) % (3 : Int32)))])) _
      refine XS.ifNo X0.here hx rfl (hb hby at_24) rfl ((if0 _ _).trans (teq c24_24).2) ?_
      show Steps p.tables e below (s₁.setTop (mkF m 27 #[.val (.int p0), .val (.int p1), .val (.int p2), .val (.int (p0 &&& (1023 : Int32))), .val (.int ((p1 &&& (2147483647 : Int32)) % (3 : Int32))), .val (.int ((p2 &&& (2147483647 : Int32)) % (3 : Int32))), .unset, .unset, .unset, .unset, .unset, .unset, .unset] [])) _
      refine st25 _ ?_
      show Steps p.tables e below (T25.setTop (mkF m 30 #[.val (.int p0), .val (.int p1), .val (.int p2), .val (.int (p0 &&& (1023 : Int32))), .val (.int ((p1 &&& (2147483647 : Int32)) % (3 : Int32))), .val (.int ((p2 &&& (2147483647 : Int32)) % (3 : Int32))), .unset, .unset, .unset, .unset, .unset, .unset, .unset] [(.ref st_PermissionClass_OWNER)])) _
      refine XS.astore X25.here hx rfl (hb hby at_30) rfl rfl (l' := #[.val (.int p0), .val (.int p1), .val (.int p2), .val (.int (p0 &&& (1023 : Int32))), .val (.int ((p1 &&& (2147483647 : Int32)) % (3 : Int32))), .val (.int ((p2 &&& (2147483647 : Int32)) % (3 : Int32))), .val (.ref st_PermissionClass_OWNER), .unset, .unset, .unset, .unset, .unset, .unset]) rfl ?_
      show Steps p.tables e below (T25.setTop (mkF m 32 #[.val (.int p0), .val (.int p1), .val (.int p2), .val (.int (p0 &&& (1023 : Int32))), .val (.int ((p1 &&& (2147483647 : Int32)) % (3 : Int32))), .val (.int ((p2 &&& (2147483647 : Int32)) % (3 : Int32))), .val (.ref st_PermissionClass_OWNER), .unset, .unset, .unset, .unset, .unset, .unset] [])) _
      refine XS.bipush X25.here hx rfl (hb hby at_32) ?_
      show Steps p.tables e below (T25.setTop (mkF m 34 #[.val (.int p0), .val (.int p1), .val (.int p2), .val (.int (p0 &&& (1023 : Int32))), .val (.int ((p1 &&& (2147483647 : Int32)) % (3 : Int32))), .val (.int ((p2 &&& (2147483647 : Int32)) % (3 : Int32))), .val (.ref st_PermissionClass_OWNER), .unset, .unset, .unset, .unset, .unset, .unset] [(.int (64 : Int32))])) _
      refine XS.istore X25.here hx rfl (hb hby at_34) rfl (l' := #[.val (.int p0), .val (.int p1), .val (.int p2), .val (.int (p0 &&& (1023 : Int32))), .val (.int ((p1 &&& (2147483647 : Int32)) % (3 : Int32))), .val (.int ((p2 &&& (2147483647 : Int32)) % (3 : Int32))), .val (.ref st_PermissionClass_OWNER), .val (.int (64 : Int32)), .unset, .unset, .unset, .unset, .unset]) rfl ?_
      show Steps p.tables e below (T25.setTop (mkF m 36 #[.val (.int p0), .val (.int p1), .val (.int p2), .val (.int (p0 &&& (1023 : Int32))), .val (.int ((p1 &&& (2147483647 : Int32)) % (3 : Int32))), .val (.int ((p2 &&& (2147483647 : Int32)) % (3 : Int32))), .val (.ref st_PermissionClass_OWNER), .val (.int (64 : Int32)), .unset, .unset, .unset, .unset, .unset] [])) _
      refine XS.goto X25.here hx rfl (pc0 := 36) (pc' := 65) rfl (hb hby at_36) (by decide) (by decide) ?_
      show Steps p.tables e below (T25.setTop (mkF m 65 #[.val (.int p0), .val (.int p1), .val (.int p2), .val (.int (p0 &&& (1023 : Int32))), .val (.int ((p1 &&& (2147483647 : Int32)) % (3 : Int32))), .val (.int ((p2 &&& (2147483647 : Int32)) % (3 : Int32))), .val (.ref st_PermissionClass_OWNER), .val (.int (64 : Int32)), .unset, .unset, .unset, .unset, .unset] [])) _
      refine XS.iload X25.here hx rfl (hb hby at_65) rfl ?_
      exact h
    by_cases c67_27 : ((p2 &&& (2147483647 : Int32)) % (3 : Int32)) = (0 : Int32)
    · skip
      obtain ⟨T28, X28, e28, st28⟩ := getS2 X25 hx hZ hown (host := "") (Or.inl (hw _ (List.mem_of_getElem? (i := 37) rfl))) Via.refl e25 S_Access_READ (g := (mkF m 70 #[.val (.int p0), .val (.int p1), .val (.int p2), .val (.int (p0 &&& (1023 : Int32))), .val (.int ((p1 &&& (2147483647 : Int32)) % (3 : Int32))), .val (.int ((p2 &&& (2147483647 : Int32)) % (3 : Int32))), .val (.ref st_PermissionClass_OWNER), .val (.int (64 : Int32)), .unset, .unset, .unset, .unset, .unset] [])) rfl (hb hby at_70)
      have k29 : ∀ t, Steps p.tables e below (T28.setTop (mkF m 113 #[.val (.int p0), .val (.int p1), .val (.int p2), .val (.int (p0 &&& (1023 : Int32))), .val (.int ((p1 &&& (2147483647 : Int32)) % (3 : Int32))), .val (.int ((p2 &&& (2147483647 : Int32)) % (3 : Int32))), .val (.ref st_PermissionClass_OWNER), .val (.int (64 : Int32)), .val (.ref st_Access_READ), .val (.int (4 : Int32)), .val (.int (256 : Int32)), .unset, .unset] [])) t → Steps p.tables e below (s₁.setTop (mkF m 0 #[.val (.int p0), .val (.int p1), .val (.int p2), .unset, .unset, .unset, .unset, .unset, .unset, .unset, .unset, .unset, .unset] [])) t := by
        intro t h
        refine k26 t ?_
        show Steps p.tables e below (T25.setTop (mkF m 67 #[.val (.int p0), .val (.int p1), .val (.int p2), .val (.int (p0 &&& (1023 : Int32))), .val (.int ((p1 &&& (2147483647 : Int32)) % (3 : Int32))), .val (.int ((p2 &&& (2147483647 : Int32)) % (3 : Int32))), .val (.ref st_PermissionClass_OWNER), .val (.int (64 : Int32)), .unset, .unset, .unset, .unset, .unset] [(.int ((p2 &&& (2147483647 : Int32)) % (3 : Int32)))])) _
        refine XS.ifNo X25.here hx rfl (hb hby at_67) rfl ((if0 _ _).trans (teq c67_27).2) ?_
        show Steps p.tables e below (T25.setTop (mkF m 70 #[.val (.int p0), .val (.int p1), .val (.int p2), .val (.int (p0 &&& (1023 : Int32))), .val (.int ((p1 &&& (2147483647 : Int32)) % (3 : Int32))), .val (.int ((p2 &&& (2147483647 : Int32)) % (3 : Int32))), .val (.ref st_PermissionClass_OWNER), .val (.int (64 : Int32)), .unset, .unset, .unset, .unset, .unset] [])) _
        refine st28 _ ?_
        show Steps p.tables e below (T28.setTop (mkF m 73 #[.val (.int p0), .val (.int p1), .val (.int p2), .val (.int (p0 &&& (1023 : Int32))), .val (.int ((p1 &&& (2147483647 : Int32)) % (3 : Int32))), .val (.int ((p2 &&& (2147483647 : Int32)) % (3 : Int32))), .val (.ref st_PermissionClass_OWNER), .val (.int (64 : Int32)), .unset, .unset, .unset, .unset, .unset] [(.ref st_Access_READ)])) _
        refine XS.astore X28.here hx rfl (hb hby at_73) rfl rfl (l' := #[.val (.int p0), .val (.int p1), .val (.int p2), .val (.int (p0 &&& (1023 : Int32))), .val (.int ((p1 &&& (2147483647 : Int32)) % (3 : Int32))), .val (.int ((p2 &&& (2147483647 : Int32)) % (3 : Int32))), .val (.ref st_PermissionClass_OWNER), .val (.int (64 : Int32)), .val (.ref st_Access_READ), .unset, .unset, .unset, .unset]) rfl ?_
        show Steps p.tables e below (T28.setTop (mkF m 75 #[.val (.int p0), .val (.int p1), .val (.int p2), .val (.int (p0 &&& (1023 : Int32))), .val (.int ((p1 &&& (2147483647 : Int32)) % (3 : Int32))), .val (.int ((p2 &&& (2147483647 : Int32)) % (3 : Int32))), .val (.ref st_PermissionClass_OWNER), .val (.int (64 : Int32)), .val (.ref st_Access_READ), .unset, .unset, .unset, .unset] [])) _
        refine XS.iconst X28.here hx rfl (hb hby at_75) ?_
        show Steps p.tables e below (T28.setTop (mkF m 76 #[.val (.int p0), .val (.int p1), .val (.int p2), .val (.int (p0 &&& (1023 : Int32))), .val (.int ((p1 &&& (2147483647 : Int32)) % (3 : Int32))), .val (.int ((p2 &&& (2147483647 : Int32)) % (3 : Int32))), .val (.ref st_PermissionClass_OWNER), .val (.int (64 : Int32)), .val (.ref st_Access_READ), .unset, .unset, .unset, .unset] [(.int (4 : Int32))])) _
        refine XS.istore X28.here hx rfl (hb hby at_76) rfl (l' := #[.val (.int p0), .val (.int p1), .val (.int p2), .val (.int (p0 &&& (1023 : Int32))), .val (.int ((p1 &&& (2147483647 : Int32)) % (3 : Int32))), .val (.int ((p2 &&& (2147483647 : Int32)) % (3 : Int32))), .val (.ref st_PermissionClass_OWNER), .val (.int (64 : Int32)), .val (.ref st_Access_READ), .val (.int (4 : Int32)), .unset, .unset, .unset]) rfl ?_
        show Steps p.tables e below (T28.setTop (mkF m 78 #[.val (.int p0), .val (.int p1), .val (.int p2), .val (.int (p0 &&& (1023 : Int32))), .val (.int ((p1 &&& (2147483647 : Int32)) % (3 : Int32))), .val (.int ((p2 &&& (2147483647 : Int32)) % (3 : Int32))), .val (.ref st_PermissionClass_OWNER), .val (.int (64 : Int32)), .val (.ref st_Access_READ), .val (.int (4 : Int32)), .unset, .unset, .unset] [])) _
        refine XS.goto X28.here hx rfl (pc0 := 78) (pc' := 106) rfl (hb hby at_78) (by decide) (by decide) ?_
        show Steps p.tables e below (T28.setTop (mkF m 106 #[.val (.int p0), .val (.int p1), .val (.int p2), .val (.int (p0 &&& (1023 : Int32))), .val (.int ((p1 &&& (2147483647 : Int32)) % (3 : Int32))), .val (.int ((p2 &&& (2147483647 : Int32)) % (3 : Int32))), .val (.ref st_PermissionClass_OWNER), .val (.int (64 : Int32)), .val (.ref st_Access_READ), .val (.int (4 : Int32)), .unset, .unset, .unset] [])) _
        refine XS.iload X28.here hx rfl (hb hby at_106) rfl ?_
        show Steps p.tables e below (T28.setTop (mkF m 108 #[.val (.int p0), .val (.int p1), .val (.int p2), .val (.int (p0 &&& (1023 : Int32))), .val (.int ((p1 &&& (2147483647 : Int32)) % (3 : Int32))), .val (.int ((p2 &&& (2147483647 : Int32)) % (3 : Int32))), .val (.ref st_PermissionClass_OWNER), .val (.int (64 : Int32)), .val (.ref st_Access_READ), .val (.int (4 : Int32)), .unset, .unset, .unset] [(.int (64 : Int32))])) _
        refine XS.iload X28.here hx rfl (hb hby at_108) rfl ?_
        show Steps p.tables e below (T28.setTop (mkF m 110 #[.val (.int p0), .val (.int p1), .val (.int p2), .val (.int (p0 &&& (1023 : Int32))), .val (.int ((p1 &&& (2147483647 : Int32)) % (3 : Int32))), .val (.int ((p2 &&& (2147483647 : Int32)) % (3 : Int32))), .val (.ref st_PermissionClass_OWNER), .val (.int (64 : Int32)), .val (.ref st_Access_READ), .val (.int (4 : Int32)), .unset, .unset, .unset] [(.int (4 : Int32)), (.int (64 : Int32))])) _
        refine XS.imul X28.here hx rfl (hb hby at_110) rfl ?_
        show Steps p.tables e below (T28.setTop (mkF m 111 #[.val (.int p0), .val (.int p1), .val (.int p2), .val (.int (p0 &&& (1023 : Int32))), .val (.int ((p1 &&& (2147483647 : Int32)) % (3 : Int32))), .val (.int ((p2 &&& (2147483647 : Int32)) % (3 : Int32))), .val (.ref st_PermissionClass_OWNER), .val (.int (64 : Int32)), .val (.ref st_Access_READ), .val (.int (4 : Int32)), .unset, .unset, .unset] [(.int (256 : Int32))])) _
        refine XS.istore X28.here hx rfl (hb hby at_111) rfl (l' := #[.val (.int p0), .val (.int p1), .val (.int p2), .val (.int (p0 &&& (1023 : Int32))), .val (.int ((p1 &&& (2147483647 : Int32)) % (3 : Int32))), .val (.int ((p2 &&& (2147483647 : Int32)) % (3 : Int32))), .val (.ref st_PermissionClass_OWNER), .val (.int (64 : Int32)), .val (.ref st_Access_READ), .val (.int (4 : Int32)), .val (.int (256 : Int32)), .unset, .unset]) rfl ?_
        exact h
      obtain ⟨jx, hk30, k30⟩ : ∃ (jx : Int32), (jx = if (((p0 &&& (1023 : Int32)) / (256 : Int32)) % (2 : Int32)) = (1 : Int32) then 1 else 0) ∧ ∀ t, Steps p.tables e below (T28.setTop (mkF m 128 #[.val (.int p0), .val (.int p1), .val (.int p2), .val (.int (p0 &&& (1023 : Int32))), .val (.int ((p1 &&& (2147483647 : Int32)) % (3 : Int32))), .val (.int ((p2 &&& (2147483647 : Int32)) % (3 : Int32))), .val (.ref st_PermissionClass_OWNER), .val (.int (64 : Int32)), .val (.ref st_Access_READ), .val (.int (4 : Int32)), .val (.int (256 : Int32)), .unset, .unset] [(.int jx)])) t → Steps p.tables e below (s₁.setTop (mkF m 0 #[.val (.int p0), .val (.int p1), .val (.int p2), .unset, .unset, .unset, .unset, .unset, .unset, .unset, .unset, .unset, .unset] [])) t := by
        have k31 : ∀ t, Steps p.tables e below (T28.setTop (mkF m 120 #[.val (.int p0), .val (.int p1), .val (.int p2), .val (.int (p0 &&& (1023 : Int32))), .val (.int ((p1 &&& (2147483647 : Int32)) % (3 : Int32))), .val (.int ((p2 &&& (2147483647 : Int32)) % (3 : Int32))), .val (.ref st_PermissionClass_OWNER), .val (.int (64 : Int32)), .val (.ref st_Access_READ), .val (.int (4 : Int32)), .val (.int (256 : Int32)), .unset, .unset] [(.int (1 : Int32)), (.int (((p0 &&& (1023 : Int32)) / (256 : Int32)) % (2 : Int32)))])) t → Steps p.tables e below (s₁.setTop (mkF m 0 #[.val (.int p0), .val (.int p1), .val (.int p2), .unset, .unset, .unset, .unset, .unset, .unset, .unset, .unset, .unset, .unset] [])) t := by
          intro t h
          refine k29 t ?_
          show Steps p.tables e below (T28.setTop (mkF m 113 #[.val (.int p0), .val (.int p1), .val (.int p2), .val (.int (p0 &&& (1023 : Int32))), .val (.int ((p1 &&& (2147483647 : Int32)) % (3 : Int32))), .val (.int ((p2 &&& (2147483647 : Int32)) % (3 : Int32))), .val (.ref st_PermissionClass_OWNER), .val (.int (64 : Int32)), .val (.ref st_Access_READ), .val (.int (4 : Int32)), .val (.int (256 : Int32)), .unset, .unset] [])) _
          refine XS.iloadN X28.here hx rfl (hb hby at_113) rfl ?_
          show Steps p.tables e below (T28.setTop (mkF m 114 #[.val (.int p0), .val (.int p1), .val (.int p2), .val (.int (p0 &&& (1023 : Int32))), .val (.int ((p1 &&& (2147483647 : Int32)) % (3 : Int32))), .val (.int ((p2 &&& (2147483647 : Int32)) % (3 : Int32))), .val (.ref st_PermissionClass_OWNER), .val (.int (64 : Int32)), .val (.ref st_Access_READ), .val (.int (4 : Int32)), .val (.int (256 : Int32)), .unset, .unset] [(.int (p0 &&& (1023 : Int32)))])) _
          refine XS.iload X28.here hx rfl (hb hby at_114) rfl ?_
          show Steps p.tables e below (T28.setTop (mkF m 116 #[.val (.int p0), .val (.int p1), .val (.int p2), .val (.int (p0 &&& (1023 : Int32))), .val (.int ((p1 &&& (2147483647 : Int32)) % (3 : Int32))), .val (.int ((p2 &&& (2147483647 : Int32)) % (3 : Int32))), .val (.ref st_PermissionClass_OWNER), .val (.int (64 : Int32)), .val (.ref st_Access_READ), .val (.int (4 : Int32)), .val (.int (256 : Int32)), .unset, .unset] [(.int (256 : Int32)), (.int (p0 &&& (1023 : Int32)))])) _
          refine XS.idiv X28.here hx rfl (hb hby at_116) rfl (by decide) ?_
          show Steps p.tables e below (T28.setTop (mkF m 117 #[.val (.int p0), .val (.int p1), .val (.int p2), .val (.int (p0 &&& (1023 : Int32))), .val (.int ((p1 &&& (2147483647 : Int32)) % (3 : Int32))), .val (.int ((p2 &&& (2147483647 : Int32)) % (3 : Int32))), .val (.ref st_PermissionClass_OWNER), .val (.int (64 : Int32)), .val (.ref st_Access_READ), .val (.int (4 : Int32)), .val (.int (256 : Int32)), .unset, .unset] [(.int ((p0 &&& (1023 : Int32)) / (256 : Int32)))])) _
          refine XS.iconst X28.here hx rfl (hb hby at_117) ?_
          show Steps p.tables e below (T28.setTop (mkF m 118 #[.val (.int p0), .val (.int p1), .val (.int p2), .val (.int (p0 &&& (1023 : Int32))), .val (.int ((p1 &&& (2147483647 : Int32)) % (3 : Int32))), .val (.int ((p2 &&& (2147483647 : Int32)) % (3 : Int32))), .val (.ref st_PermissionClass_OWNER), .val (.int (64 : Int32)), .val (.ref st_Access_READ), .val (.int (4 : Int32)), .val (.int (256 : Int32)), .unset, .unset] [(.int (2 : Int32)), (.int ((p0 &&& (1023 : Int32)) / (256 : Int32)))])) _
          refine iremM (g := (mkF m 118 #[.val (.int p0), .val (.int p1), .val (.int p2), .val (.int (p0 &&& (1023 : Int32))), .val (.int ((p1 &&& (2147483647 : Int32)) % (3 : Int32))), .val (.int ((p2 &&& (2147483647 : Int32)) % (3 : Int32))), .val (.ref st_PermissionClass_OWNER), .val (.int (64 : Int32)), .val (.ref st_Access_READ), .val (.int (4 : Int32)), .val (.int (256 : Int32)), .unset, .unset] [(.int (2 : Int32)), (.int ((p0 &&& (1023 : Int32)) / (256 : Int32)))])) X28 hx rfl (hb hby at_118) rfl (by decide) ?_
          show Steps p.tables e below (T28.setTop (mkF m 119 #[.val (.int p0), .val (.int p1), .val (.int p2), .val (.int (p0 &&& (1023 : Int32))), .val (.int ((p1 &&& (2147483647 : Int32)) % (3 : Int32))), .val (.int ((p2 &&& (2147483647 : Int32)) % (3 : Int32))), .val (.ref st_PermissionClass_OWNER), .val (.int (64 : Int32)), .val (.ref st_Access_READ), .val (.int (4 : Int32)), .val (.int (256 : Int32)), .unset, .unset] [(.int (((p0 &&& (1023 : Int32)) / (256 : Int32)) % (2 : Int32)))])) _
          refine XS.iconst X28.here hx rfl (hb hby at_119) ?_
          exact h
        by_cases c120_32 : (((p0 &&& (1023 : Int32)) / (256 : Int32)) % (2 : Int32)) = (1 : Int32)
        · skip
          have k33 : ∀ t, Steps p.tables e below (T28.setTop (mkF m 128 #[.val (.int p0), .val (.int p1), .val (.int p2), .val (.int (p0 &&& (1023 : Int32))), .val (.int ((p1 &&& (2147483647 : Int32)) % (3 : Int32))), .val (.int ((p2 &&& (2147483647 : Int32)) % (3 : Int32))), .val (.ref st_PermissionClass_OWNER), .val (.int (64 : Int32)), .val (.ref st_Access_READ), .val (.int (4 : Int32)), .val (.int (256 : Int32)), .unset, .unset] [(.int (1 : Int32))])) t → Steps p.tables e below (s₁.setTop (mkF m 0 #[.val (.int p0), .val (.int p1), .val (.int p2), .unset, .unset, .unset, .unset, .unset, .unset, .unset, .unset, .unset, .unset] [])) t := by
            intro t h
            refine k31 t ?_
            show Steps p.tables e below (T28.setTop (mkF m 120 #[.val (.int p0), .val (.int p1), .val (.int p2), .val (.int (p0 &&& (1023 : Int32))), .val (.int ((p1 &&& (2147483647 : Int32)) % (3 : Int32))), .val (.int ((p2 &&& (2147483647 : Int32)) % (3 : Int32))), .val (.ref st_PermissionClass_OWNER), .val (.int (64 : Int32)), .val (.ref st_Access_READ), .val (.int (4 : Int32)), .val (.int (256 : Int32)), .unset, .unset] [(.int (1 : Int32)), (.int (((p0 &&& (1023 : Int32)) / (256 : Int32)) % (2 : Int32)))])) _
            refine XS.icmpNo X28.here hx rfl (hb hby at_120) rfl (teq c120_32).2 ?_
            show Steps p.tables e below (T28.setTop (mkF m 123 #[.val (.int p0), .val (.int p1), .val (.int p2), .val (.int (p0 &&& (1023 : Int32))), .val (.int ((p1 &&& (2147483647 : Int32)) % (3 : Int32))), .val (.int ((p2 &&& (2147483647 : Int32)) % (3 : Int32))), .val (.ref st_PermissionClass_OWNER), .val (.int (64 : Int32)), .val (.ref st_Access_READ), .val (.int (4 : Int32)), .val (.int (256 : Int32)), .unset, .unset] [])) _
            refine XS.iconst X28.here hx rfl (hb hby at_123) ?_
            show Steps p.tables e below (T28.setTop (mkF m 124 #[.val (.int p0), .val (.int p1), .val (.int p2), .val (.int (p0 &&& (1023 : Int32))), .val (.int ((p1 &&& (2147483647 : Int32)) % (3 : Int32))), .val (.int ((p2 &&& (2147483647 : Int32)) % (3 : Int32))), .val (.ref st_PermissionClass_OWNER), .val (.int (64 : Int32)), .val (.ref st_Access_READ), .val (.int (4 : Int32)), .val (.int (256 : Int32)), .unset, .unset] [(.int (1 : Int32))])) _
            refine XS.goto X28.here hx rfl (pc0 := 124) (pc' := 128) rfl (hb hby at_124) (by decide) (by decide) ?_
            exact h
          exact ⟨(1 : Int32), by rw [if_pos c120_32], k33⟩
        · skip
          have k34 : ∀ t, Steps p.tables e below (T28.setTop (mkF m 128 #[.val (.int p0), .val (.int p1), .val (.int p2), .val (.int (p0 &&& (1023 : Int32))), .val (.int ((p1 &&& (2147483647 : Int32)) % (3 : Int32))), .val (.int ((p2 &&& (2147483647 : Int32)) % (3 : Int32))), .val (.ref st_PermissionClass_OWNER), .val (.int (64 : Int32)), .val (.ref st_Access_READ), .val (.int (4 : Int32)), .val (.int (256 : Int32)), .unset, .unset] [(.int (0 : Int32))])) t → Steps p.tables e below (s₁.setTop (mkF m 0 #[.val (.int p0), .val (.int p1), .val (.int p2), .unset, .unset, .unset, .unset, .unset, .unset, .unset, .unset, .unset, .unset] [])) t := by
            intro t h
            refine k31 t ?_
            show Steps p.tables e below (T28.setTop (mkF m 120 #[.val (.int p0), .val (.int p1), .val (.int p2), .val (.int (p0 &&& (1023 : Int32))), .val (.int ((p1 &&& (2147483647 : Int32)) % (3 : Int32))), .val (.int ((p2 &&& (2147483647 : Int32)) % (3 : Int32))), .val (.ref st_PermissionClass_OWNER), .val (.int (64 : Int32)), .val (.ref st_Access_READ), .val (.int (4 : Int32)), .val (.int (256 : Int32)), .unset, .unset] [(.int (1 : Int32)), (.int (((p0 &&& (1023 : Int32)) / (256 : Int32)) % (2 : Int32)))])) _
            refine XS.icmpYes X28.here hx rfl (pc0 := 120) (pc' := 127) rfl (hb hby at_120) rfl (feq c120_32).2 (by decide) (by decide) ?_
            show Steps p.tables e below (T28.setTop (mkF m 127 #[.val (.int p0), .val (.int p1), .val (.int p2), .val (.int (p0 &&& (1023 : Int32))), .val (.int ((p1 &&& (2147483647 : Int32)) % (3 : Int32))), .val (.int ((p2 &&& (2147483647 : Int32)) % (3 : Int32))), .val (.ref st_PermissionClass_OWNER), .val (.int (64 : Int32)), .val (.ref st_Access_READ), .val (.int (4 : Int32)), .val (.int (256 : Int32)), .unset, .unset] [])) _
            refine XS.iconst X28.here hx rfl (hb hby at_127) ?_
            exact h
          exact ⟨(0 : Int32), by rw [if_neg c120_32], k34⟩
      obtain ⟨T35, h35, X35, e35, E35, A35, D35, -, st35⟩ := newO X28 hx hZ hown (hw _ (List.mem_of_getElem? (i := 7) rfl)) (hw _ (List.mem_of_getElem? (i := 8) rfl)) (hw _ (List.mem_of_getElem? (i := 9) rfl)) e28 (g := (mkF m 130 #[.val (.int p0), .val (.int p1), .val (.int p2), .val (.int (p0 &&& (1023 : Int32))), .val (.int ((p1 &&& (2147483647 : Int32)) % (3 : Int32))), .val (.int ((p2 &&& (2147483647 : Int32)) % (3 : Int32))), .val (.ref st_PermissionClass_OWNER), .val (.int (64 : Int32)), .val (.ref st_Access_READ), .val (.int (4 : Int32)), .val (.int (256 : Int32)), .val (.int jx), .unset] [])) rfl (hb hby at_130) (by decide) (by decide)
      obtain ⟨b35, g35⟩ : ∃ z, z = h0.size := ⟨_, rfl⟩
      rw [← g35] at A35 D35 st35
      have ne_st_PermissionClass_OWNER_b35 : st_PermissionClass_OWNER ≠ b35 := Nat.ne_of_lt (Nat.lt_of_lt_of_le E_PermissionClass_OWNER.lt (Nat.le_of_eq g35.symm))
      have ne_st_Access_READ_b35 : st_Access_READ ≠ b35 := Nat.ne_of_lt (Nat.lt_of_lt_of_le E_Access_READ.lt (Nat.le_of_eq g35.symm))
      have g_b35 : n0 ≤ b35 := Nat.le_trans Z0 (Nat.le_of_eq g35.symm)
      have sz_b35 : h0.size ≤ b35 := Nat.le_trans K0.1 (Nat.le_of_eq g35.symm)
      have f36 := E_PermissionClass_OWNER.ext E35
      have f37 := E_Access_READ.ext E35
      have f38 := F_PermissionClass_OWNER_shift.ext E35
      have f39 := F_Access_READ_bit.ext E35
      have Z40 : n0 ≤ h35.size := Nat.le_trans Z0 E35.1
      have K41 := K0.ext E35
      have f42 : Fld Z h35 b35 "com/example/lats/lats/permission/Mode" "bits" "I" (.int (0 : Int32)) := D35 (Or.inr (hw _ (List.mem_of_getElem? (i := 17) rfl))) (ty := .int) (by decide)
      obtain ⟨_, _, ⟨T43, L43, k43, n43⟩, -, X43, ⟨Lc43, hQ43, l43, y43, z43⟩, st43⟩ := X35.specialBack hx (y := (⟨"com/example/lats/lats/permission/Mode", "<init>", "(I)V"⟩ : MethodName)) rfl hown (mvT hZ (hw _ (List.mem_of_getElem? (i := 10) rfl))) (mvT hZ (hw _ (List.mem_of_getElem? (i := 11) rfl))) (mvT hZ (hw _ (List.mem_of_getElem? (i := 12) rfl))) (by decide) (backOf (W := 1) (rm1 l Z a0 hw [] b35 (p0 &&& (1023 : Int32))  h35 n0 Z40 f42 A35 g_b35 (own_bits p0).1 (own_bits p0).2) hZ (hw _ (List.mem_of_getElem? (i := 12) rfl)) (hw _ (List.mem_of_getElem? (i := 9) rfl)) (by decide) (by decide)) (g := (mkF m 135 #[.val (.int p0), .val (.int p1), .val (.int p2), .val (.int (p0 &&& (1023 : Int32))), .val (.int ((p1 &&& (2147483647 : Int32)) % (3 : Int32))), .val (.int ((p2 &&& (2147483647 : Int32)) % (3 : Int32))), .val (.ref st_PermissionClass_OWNER), .val (.int (64 : Int32)), .val (.ref st_Access_READ), .val (.int (4 : Int32)), .val (.int (256 : Int32)), .val (.int jx), .unset] [(.int (p0 &&& (1023 : Int32))), (.ref b35), (.ref b35)])) rfl (by rw [hml]; rfl) (Steps.refl _) (a := b35) (argsL := [(.int (p0 &&& (1023 : Int32)))]) (rest := [(.ref b35)]) (lenOf own_pd_1 rfl) rfl (by show 2 * 0 + _ ≤ _; exact Nat.le_of_eq rfl) (hb hby at_135) (fun _ _ => ⟨rfl, e35, (by decide : 1 + 0 ≤ _), (by decide : 1 + 0 ≤ _)⟩)
      dsimp only [Pt.U, Pt.locs, Pt.cells, Pt.slots] at X43 l43 y43 z43 st43 hQ43
      subst l43 y43 z43
      obtain ⟨rfl, Nq43, Kq43, Eq43, Fq43⟩ := hQ43
      have N43 := Fr.app N0 Nq43
      have f44 := f36.keep Kq43
      have f45 := f37.keep Kq43
      have f46 := f38.keep Kq43 (ninS ne_st_PermissionClass_OWNER_b35 nin0)
      have f47 := f39.keep Kq43 (ninS ne_st_Access_READ_b35 nin0)
      have f48 := A35.keep Kq43
      have Z49 : n0 ≤ T43.heap.size := Nat.le_trans Z40 Kq43.1
      have K50 := K41.trans Kq43 (allS (Or.inr sz_b35) all0)
      obtain ⟨cq51, kq51, q51a, q51b, q51c⟩ := isOf hZ rfl f48
      obtain ⟨_, _, ⟨T51, L51, k51, n51⟩, -, X51, ⟨Lc51, hQ51, l51, y51, z51⟩, st51⟩ := X43.virtualBack hx (y := (⟨"com/example/lats/lats/permission/Mode", "grants", "(Lcom/example/lats/lats/permission/PermissionClass;Lcom/example/lats/lats/permission/Access;)Z"⟩ : MethodName)) (z := (⟨"com/example/lats/lats/permission/Mode", "grants", "(Lcom/example/lats/lats/permission/PermissionClass;Lcom/example/lats/lats/permission/Access;)Z"⟩ : MethodName)) hown (mvT hZ (hw _ (List.mem_of_getElem? (i := 18) rfl))) (mvT hZ (hw _ (List.mem_of_getElem? (i := 19) rfl))) (notFace_of_selects (args := #[]) (mvT hZ (hw _ (List.mem_of_getElem? (i := 21) rfl)))) (mvT hZ (hw _ (List.mem_of_getElem? (i := 21) rfl))) (mvT hZ (hw _ (List.mem_of_getElem? (i := 20) rfl))) (by decide) (backOf (W := 0) (rmG l Z a0 hw [] b35 st_PermissionClass_OWNER st_Access_READ (p0 &&& (1023 : Int32)) (6 : Int32) (4 : Int32) T43.heap n0 Z49 Fq43 f46 f47 f44 f45) hZ (hw _ (List.mem_of_getElem? (i := 22) rfl)) (hw _ (List.mem_of_getElem? (i := 9) rfl)) (by decide) (by decide)) q51a q51c (g := (mkF m 146 #[.val (.int p0), .val (.int p1), .val (.int p2), .val (.int (p0 &&& (1023 : Int32))), .val (.int ((p1 &&& (2147483647 : Int32)) % (3 : Int32))), .val (.int ((p2 &&& (2147483647 : Int32)) % (3 : Int32))), .val (.ref st_PermissionClass_OWNER), .val (.int (64 : Int32)), .val (.ref st_Access_READ), .val (.int (4 : Int32)), .val (.int (256 : Int32)), .val (.int jx), .val (.ref b35)] [(.ref st_Access_READ), (.ref st_PermissionClass_OWNER), (.ref b35)])) rfl (by rw [hml]; rfl) (Steps.refl _) (argsL := [(.ref st_PermissionClass_OWNER), (.ref st_Access_READ)]) (rest := []) (lenOf own_pd_2 rfl) rfl (by show 2 * 0 + _ ≤ _; exact Nat.le_of_eq rfl) (hb hby at_146) (fun _ _ => ⟨rfl, rfl, (by decide : 1 + 0 ≤ _), (by decide : 1 + 0 ≤ _)⟩)
      dsimp only [Pt.U, Pt.locs, Pt.cells, Pt.slots] at X51 l51 y51 z51 st51 hQ51
      subst l51 y51 z51
      obtain ⟨rfl, Nq51, eq51⟩ := hQ51
      have N51 := Fr.app N43 Nq51
      have k52 : ∀ t, Steps p.tables e below (T51.setTop (mkF m 151 #[.val (.int p0), .val (.int p1), .val (.int p2), .val (.int (p0 &&& (1023 : Int32))), .val (.int ((p1 &&& (2147483647 : Int32)) % (3 : Int32))), .val (.int ((p2 &&& (2147483647 : Int32)) % (3 : Int32))), .val (.ref st_PermissionClass_OWNER), .val (.int (64 : Int32)), .val (.ref st_Access_READ), .val (.int (4 : Int32)), .val (.int (256 : Int32)), .val (.int jx), .val (.ref b35)] [(.int jx), (.int (own_gr (p0 &&& (1023 : Int32)) (4 : Int32) (6 : Int32)))])) t → Steps p.tables e below (s₁.setTop (mkF m 0 #[.val (.int p0), .val (.int p1), .val (.int p2), .unset, .unset, .unset, .unset, .unset, .unset, .unset, .unset, .unset, .unset] [])) t := by
        intro t h
        refine k30 t ?_
        show Steps p.tables e below (T28.setTop (mkF m 128 #[.val (.int p0), .val (.int p1), .val (.int p2), .val (.int (p0 &&& (1023 : Int32))), .val (.int ((p1 &&& (2147483647 : Int32)) % (3 : Int32))), .val (.int ((p2 &&& (2147483647 : Int32)) % (3 : Int32))), .val (.ref st_PermissionClass_OWNER), .val (.int (64 : Int32)), .val (.ref st_Access_READ), .val (.int (4 : Int32)), .val (.int (256 : Int32)), .unset, .unset] [(.int jx)])) _
        refine XS.istore X28.here hx rfl (hb hby at_128) rfl (l' := #[.val (.int p0), .val (.int p1), .val (.int p2), .val (.int (p0 &&& (1023 : Int32))), .val (.int ((p1 &&& (2147483647 : Int32)) % (3 : Int32))), .val (.int ((p2 &&& (2147483647 : Int32)) % (3 : Int32))), .val (.ref st_PermissionClass_OWNER), .val (.int (64 : Int32)), .val (.ref st_Access_READ), .val (.int (4 : Int32)), .val (.int (256 : Int32)), .val (.int jx), .unset]) rfl ?_
        show Steps p.tables e below (T28.setTop (mkF m 130 #[.val (.int p0), .val (.int p1), .val (.int p2), .val (.int (p0 &&& (1023 : Int32))), .val (.int ((p1 &&& (2147483647 : Int32)) % (3 : Int32))), .val (.int ((p2 &&& (2147483647 : Int32)) % (3 : Int32))), .val (.ref st_PermissionClass_OWNER), .val (.int (64 : Int32)), .val (.ref st_Access_READ), .val (.int (4 : Int32)), .val (.int (256 : Int32)), .val (.int jx), .unset] [])) _
        refine st35 _ ?_
        show Steps p.tables e below (T35.setTop (mkF m 133 #[.val (.int p0), .val (.int p1), .val (.int p2), .val (.int (p0 &&& (1023 : Int32))), .val (.int ((p1 &&& (2147483647 : Int32)) % (3 : Int32))), .val (.int ((p2 &&& (2147483647 : Int32)) % (3 : Int32))), .val (.ref st_PermissionClass_OWNER), .val (.int (64 : Int32)), .val (.ref st_Access_READ), .val (.int (4 : Int32)), .val (.int (256 : Int32)), .val (.int jx), .unset] [(.ref b35)])) _
        refine XS.dup X35.here hx rfl (hb hby at_133) rfl rfl ?_
        show Steps p.tables e below (T35.setTop (mkF m 134 #[.val (.int p0), .val (.int p1), .val (.int p2), .val (.int (p0 &&& (1023 : Int32))), .val (.int ((p1 &&& (2147483647 : Int32)) % (3 : Int32))), .val (.int ((p2 &&& (2147483647 : Int32)) % (3 : Int32))), .val (.ref st_PermissionClass_OWNER), .val (.int (64 : Int32)), .val (.ref st_Access_READ), .val (.int (4 : Int32)), .val (.int (256 : Int32)), .val (.int jx), .unset] [(.ref b35), (.ref b35)])) _
        refine XS.iloadN X35.here hx rfl (hb hby at_134) rfl ?_
        show Steps p.tables e below (T35.setTop (mkF m 135 #[.val (.int p0), .val (.int p1), .val (.int p2), .val (.int (p0 &&& (1023 : Int32))), .val (.int ((p1 &&& (2147483647 : Int32)) % (3 : Int32))), .val (.int ((p2 &&& (2147483647 : Int32)) % (3 : Int32))), .val (.ref st_PermissionClass_OWNER), .val (.int (64 : Int32)), .val (.ref st_Access_READ), .val (.int (4 : Int32)), .val (.int (256 : Int32)), .val (.int jx), .unset] [(.int (p0 &&& (1023 : Int32))), (.ref b35), (.ref b35)])) _
        refine st43.trans ?_
        show Steps p.tables e below (T43.setTop (mkF m 138 #[.val (.int p0), .val (.int p1), .val (.int p2), .val (.int (p0 &&& (1023 : Int32))), .val (.int ((p1 &&& (2147483647 : Int32)) % (3 : Int32))), .val (.int ((p2 &&& (2147483647 : Int32)) % (3 : Int32))), .val (.ref st_PermissionClass_OWNER), .val (.int (64 : Int32)), .val (.ref st_Access_READ), .val (.int (4 : Int32)), .val (.int (256 : Int32)), .val (.int jx), .unset] [(.ref b35)])) _
        refine XS.astore X43.here hx rfl (hb hby at_138) rfl rfl (l' := #[.val (.int p0), .val (.int p1), .val (.int p2), .val (.int (p0 &&& (1023 : Int32))), .val (.int ((p1 &&& (2147483647 : Int32)) % (3 : Int32))), .val (.int ((p2 &&& (2147483647 : Int32)) % (3 : Int32))), .val (.ref st_PermissionClass_OWNER), .val (.int (64 : Int32)), .val (.ref st_Access_READ), .val (.int (4 : Int32)), .val (.int (256 : Int32)), .val (.int jx), .val (.ref b35)]) rfl ?_
        show Steps p.tables e below (T43.setTop (mkF m 140 #[.val (.int p0), .val (.int p1), .val (.int p2), .val (.int (p0 &&& (1023 : Int32))), .val (.int ((p1 &&& (2147483647 : Int32)) % (3 : Int32))), .val (.int ((p2 &&& (2147483647 : Int32)) % (3 : Int32))), .val (.ref st_PermissionClass_OWNER), .val (.int (64 : Int32)), .val (.ref st_Access_READ), .val (.int (4 : Int32)), .val (.int (256 : Int32)), .val (.int jx), .val (.ref b35)] [])) _
        refine XS.aload X43.here hx rfl (hb hby at_140) rfl rfl ?_
        show Steps p.tables e below (T43.setTop (mkF m 142 #[.val (.int p0), .val (.int p1), .val (.int p2), .val (.int (p0 &&& (1023 : Int32))), .val (.int ((p1 &&& (2147483647 : Int32)) % (3 : Int32))), .val (.int ((p2 &&& (2147483647 : Int32)) % (3 : Int32))), .val (.ref st_PermissionClass_OWNER), .val (.int (64 : Int32)), .val (.ref st_Access_READ), .val (.int (4 : Int32)), .val (.int (256 : Int32)), .val (.int jx), .val (.ref b35)] [(.ref b35)])) _
        refine XS.aload X43.here hx rfl (hb hby at_142) rfl rfl ?_
        show Steps p.tables e below (T43.setTop (mkF m 144 #[.val (.int p0), .val (.int p1), .val (.int p2), .val (.int (p0 &&& (1023 : Int32))), .val (.int ((p1 &&& (2147483647 : Int32)) % (3 : Int32))), .val (.int ((p2 &&& (2147483647 : Int32)) % (3 : Int32))), .val (.ref st_PermissionClass_OWNER), .val (.int (64 : Int32)), .val (.ref st_Access_READ), .val (.int (4 : Int32)), .val (.int (256 : Int32)), .val (.int jx), .val (.ref b35)] [(.ref st_PermissionClass_OWNER), (.ref b35)])) _
        refine XS.aload X43.here hx rfl (hb hby at_144) rfl rfl ?_
        show Steps p.tables e below (T43.setTop (mkF m 146 #[.val (.int p0), .val (.int p1), .val (.int p2), .val (.int (p0 &&& (1023 : Int32))), .val (.int ((p1 &&& (2147483647 : Int32)) % (3 : Int32))), .val (.int ((p2 &&& (2147483647 : Int32)) % (3 : Int32))), .val (.ref st_PermissionClass_OWNER), .val (.int (64 : Int32)), .val (.ref st_Access_READ), .val (.int (4 : Int32)), .val (.int (256 : Int32)), .val (.int jx), .val (.ref b35)] [(.ref st_Access_READ), (.ref st_PermissionClass_OWNER), (.ref b35)])) _
        refine st51.trans ?_
        show Steps p.tables e below (T51.setTop (mkF m 149 #[.val (.int p0), .val (.int p1), .val (.int p2), .val (.int (p0 &&& (1023 : Int32))), .val (.int ((p1 &&& (2147483647 : Int32)) % (3 : Int32))), .val (.int ((p2 &&& (2147483647 : Int32)) % (3 : Int32))), .val (.ref st_PermissionClass_OWNER), .val (.int (64 : Int32)), .val (.ref st_Access_READ), .val (.int (4 : Int32)), .val (.int (256 : Int32)), .val (.int jx), .val (.ref b35)] [(.int (own_gr (p0 &&& (1023 : Int32)) (4 : Int32) (6 : Int32)))])) _
        refine XS.iload X51.here hx rfl (hb hby at_149) rfl ?_
        exact h
      have b151_53 : (own_gr (p0 &&& (1023 : Int32)) (4 : Int32) (6 : Int32)) = jx := by rw [hk30]; exact own_t64_4 p0
      have k54 : ∀ t, Steps p.tables e below (T51.setTop (mkF m 159 #[.val (.int p0), .val (.int p1), .val (.int p2), .val (.int (p0 &&& (1023 : Int32))), .val (.int ((p1 &&& (2147483647 : Int32)) % (3 : Int32))), .val (.int ((p2 &&& (2147483647 : Int32)) % (3 : Int32))), .val (.ref st_PermissionClass_OWNER), .val (.int (64 : Int32)), .val (.ref st_Access_READ), .val (.int (4 : Int32)), .val (.int (256 : Int32)), .val (.int jx), .val (.ref b35)] [(.int (1 : Int32))])) t → Steps p.tables e below (s₁.setTop (mkF m 0 #[.val (.int p0), .val (.int p1), .val (.int p2), .unset, .unset, .unset, .unset, .unset, .unset, .unset, .unset, .unset, .unset] [])) t := by
        intro t h
        refine k52 t ?_
        show Steps p.tables e below (T51.setTop (mkF m 151 #[.val (.int p0), .val (.int p1), .val (.int p2), .val (.int (p0 &&& (1023 : Int32))), .val (.int ((p1 &&& (2147483647 : Int32)) % (3 : Int32))), .val (.int ((p2 &&& (2147483647 : Int32)) % (3 : Int32))), .val (.ref st_PermissionClass_OWNER), .val (.int (64 : Int32)), .val (.ref st_Access_READ), .val (.int (4 : Int32)), .val (.int (256 : Int32)), .val (.int jx), .val (.ref b35)] [(.int jx), (.int (own_gr (p0 &&& (1023 : Int32)) (4 : Int32) (6 : Int32)))])) _
        refine XS.icmpNo X51.here hx rfl (hb hby at_151) rfl (teq b151_53).2 ?_
        show Steps p.tables e below (T51.setTop (mkF m 154 #[.val (.int p0), .val (.int p1), .val (.int p2), .val (.int (p0 &&& (1023 : Int32))), .val (.int ((p1 &&& (2147483647 : Int32)) % (3 : Int32))), .val (.int ((p2 &&& (2147483647 : Int32)) % (3 : Int32))), .val (.ref st_PermissionClass_OWNER), .val (.int (64 : Int32)), .val (.ref st_Access_READ), .val (.int (4 : Int32)), .val (.int (256 : Int32)), .val (.int jx), .val (.ref b35)] [])) _
        refine XS.iconst X51.here hx rfl (hb hby at_154) ?_
        show Steps p.tables e below (T51.setTop (mkF m 155 #[.val (.int p0), .val (.int p1), .val (.int p2), .val (.int (p0 &&& (1023 : Int32))), .val (.int ((p1 &&& (2147483647 : Int32)) % (3 : Int32))), .val (.int ((p2 &&& (2147483647 : Int32)) % (3 : Int32))), .val (.ref st_PermissionClass_OWNER), .val (.int (64 : Int32)), .val (.ref st_Access_READ), .val (.int (4 : Int32)), .val (.int (256 : Int32)), .val (.int jx), .val (.ref b35)] [(.int (1 : Int32))])) _
        refine XS.goto X51.here hx rfl (pc0 := 155) (pc' := 159) rfl (hb hby at_155) (by decide) (by decide) ?_
        exact h
      obtain ⟨fs, hr, hrun, hended, hW, hsame⟩ := X51.leave (v := some (.int (1 : Int32))) (fun h => by rw [Bd.returns] at h; cases h) Bd.notSynchronized
      refine ⟨_, _, pre0 _ (k54 _ ?_), hrun, hended, _, _, rfl, ?_, ⟨_, rfl⟩, hW, hsame.mono (by decide) (by decide)⟩
      · exact retN X51 hx (t := .boolean) Bd.returns (by simp) (hb hby at_159) hr
      · show Q_rm0 Z _ _ _ _ _ _ _ _ _ h0 n0 _ T51.heap _
        rw [eq51]
        exact ⟨rfl, N51⟩
    · skip
      have k55 : ∀ t, Steps p.tables e below (T25.setTop (mkF m 84 #[.val (.int p0), .val (.int p1), .val (.int p2), .val (.int (p0 &&& (1023 : Int32))), .val (.int ((p1 &&& (2147483647 : Int32)) % (3 : Int32))), .val (.int ((p2 &&& (2147483647 : Int32)) % (3 : Int32))), .val (.ref st_PermissionClass_OWNER), .val (.int (64 : Int32)), .unset, .unset, .unset, .unset, .unset] [(.int (1 : Int32)), (.int ((p2 &&& (2147483647 : Int32)) % (3 : Int32)))])) t → Steps p.tables e below (s₁.setTop (mkF m 0 #[.val (.int p0), .val (.int p1), .val (.int p2), .unset, .unset, .unset, .unset, .unset, .unset, .unset, .unset, .unset, .unset] [])) t := by
        intro t h
        refine k26 t ?_
        show Steps p.tables e below (T25.setTop (mkF m 67 #[.val (.int p0), .val (.int p1), .val (.int p2), .val (.int (p0 &&& (1023 : Int32))), .val (.int ((p1 &&& (2147483647 : Int32)) % (3 : Int32))), .val (.int ((p2 &&& (2147483647 : Int32)) % (3 : Int32))), .val (.ref st_PermissionClass_OWNER), .val (.int (64 : Int32)), .unset, .unset, .unset, .unset, .unset] [(.int ((p2 &&& (2147483647 : Int32)) % (3 : Int32)))])) _
        refine XS.ifYes X25.here hx rfl (pc0 := 67) (pc' := 81) rfl (hb hby at_67) rfl ((if0 _ _).trans (feq c67_27).2) (by decide) (by decide) ?_
        show Steps p.tables e below (T25.setTop (mkF m 81 #[.val (.int p0), .val (.int p1), .val (.int p2), .val (.int (p0 &&& (1023 : Int32))), .val (.int ((p1 &&& (2147483647 : Int32)) % (3 : Int32))), .val (.int ((p2 &&& (2147483647 : Int32)) % (3 : Int32))), .val (.ref st_PermissionClass_OWNER), .val (.int (64 : Int32)), .unset, .unset, .unset, .unset, .unset] [])) _
        refine XS.iload X25.here hx rfl (hb hby at_81) rfl ?_
        show Steps p.tables e below (T25.setTop (mkF m 83 #[.val (.int p0), .val (.int p1), .val (.int p2), .val (.int (p0 &&& (1023 : Int32))), .val (.int ((p1 &&& (2147483647 : Int32)) % (3 : Int32))), .val (.int ((p2 &&& (2147483647 : Int32)) % (3 : Int32))), .val (.ref st_PermissionClass_OWNER), .val (.int (64 : Int32)), .unset, .unset, .unset, .unset, .unset] [(.int ((p2 &&& (2147483647 : Int32)) % (3 : Int32)))])) _
        refine XS.iconst X25.here hx rfl (hb hby at_83) ?_
        exact h
      by_cases c84_56 : ((p2 &&& (2147483647 : Int32)) % (3 : Int32)) = (1 : Int32)
      · skip
        obtain ⟨T57, X57, e57, st57⟩ := getS2 X25 hx hZ hown (host := "") (Or.inl (hw _ (List.mem_of_getElem? (i := 41) rfl))) Via.refl e25 S_Access_WRITE (g := (mkF m 87 #[.val (.int p0), .val (.int p1), .val (.int p2), .val (.int (p0 &&& (1023 : Int32))), .val (.int ((p1 &&& (2147483647 : Int32)) % (3 : Int32))), .val (.int ((p2 &&& (2147483647 : Int32)) % (3 : Int32))), .val (.ref st_PermissionClass_OWNER), .val (.int (64 : Int32)), .unset, .unset, .unset, .unset, .unset] [])) rfl (hb hby at_87)
        have k58 : ∀ t, Steps p.tables e below (T57.setTop (mkF m 113 #[.val (.int p0), .val (.int p1), .val (.int p2), .val (.int (p0 &&& (1023 : Int32))), .val (.int ((p1 &&& (2147483647 : Int32)) % (3 : Int32))), .val (.int ((p2 &&& (2147483647 : Int32)) % (3 : Int32))), .val (.ref st_PermissionClass_OWNER), .val (.int (64 : Int32)), .val (.ref st_Access_WRITE), .val (.int (2 : Int32)), .val (.int (128 : Int32)), .unset, .unset] [])) t → Steps p.tables e below (s₁.setTop (mkF m 0 #[.val (.int p0), .val (.int p1), .val (.int p2), .unset, .unset, .unset, .unset, .unset, .unset, .unset, .unset, .unset, .unset] [])) t := by
          intro t h
          refine k55 t ?_
          show Steps p.tables e below (T25.setTop (mkF m 84 #[.val (.int p0), .val (.int p1), .val (.int p2), .val (.int (p0 &&& (1023 : Int32))), .val (.int ((p1 &&& (2147483647 : Int32)) % (3 : Int32))), .val (.int ((p2 &&& (2147483647 : Int32)) % (3 : Int32))), .val (.ref st_PermissionClass_OWNER), .val (.int (64 : Int32)), .unset, .unset, .unset, .unset, .unset] [(.int (1 : Int32)), (.int ((p2 &&& (2147483647 : Int32)) % (3 : Int32)))])) _
          refine XS.icmpNo X25.here hx rfl (hb hby at_84) rfl (teq c84_56).2 ?_
          show Steps p.tables e below (T25.setTop (mkF m 87 #[.val (.int p0), .val (.int p1), .val (.int p2), .val (.int (p0 &&& (1023 : Int32))), .val (.int ((p1 &&& (2147483647 : Int32)) % (3 : Int32))), .val (.int ((p2 &&& (2147483647 : Int32)) % (3 : Int32))), .val (.ref st_PermissionClass_OWNER), .val (.int (64 : Int32)), .unset, .unset, .unset, .unset, .unset] [])) _
          refine st57 _ ?_
          show Steps p.tables e below (T57.setTop (mkF m 90 #[.val (.int p0), .val (.int p1), .val (.int p2), .val (.int (p0 &&& (1023 : Int32))), .val (.int ((p1 &&& (2147483647 : Int32)) % (3 : Int32))), .val (.int ((p2 &&& (2147483647 : Int32)) % (3 : Int32))), .val (.ref st_PermissionClass_OWNER), .val (.int (64 : Int32)), .unset, .unset, .unset, .unset, .unset] [(.ref st_Access_WRITE)])) _
          refine XS.astore X57.here hx rfl (hb hby at_90) rfl rfl (l' := #[.val (.int p0), .val (.int p1), .val (.int p2), .val (.int (p0 &&& (1023 : Int32))), .val (.int ((p1 &&& (2147483647 : Int32)) % (3 : Int32))), .val (.int ((p2 &&& (2147483647 : Int32)) % (3 : Int32))), .val (.ref st_PermissionClass_OWNER), .val (.int (64 : Int32)), .val (.ref st_Access_WRITE), .unset, .unset, .unset, .unset]) rfl ?_
          show Steps p.tables e below (T57.setTop (mkF m 92 #[.val (.int p0), .val (.int p1), .val (.int p2), .val (.int (p0 &&& (1023 : Int32))), .val (.int ((p1 &&& (2147483647 : Int32)) % (3 : Int32))), .val (.int ((p2 &&& (2147483647 : Int32)) % (3 : Int32))), .val (.ref st_PermissionClass_OWNER), .val (.int (64 : Int32)), .val (.ref st_Access_WRITE), .unset, .unset, .unset, .unset] [])) _
          refine XS.iconst X57.here hx rfl (hb hby at_92) ?_
          show Steps p.tables e below (T57.setTop (mkF m 93 #[.val (.int p0), .val (.int p1), .val (.int p2), .val (.int (p0 &&& (1023 : Int32))), .val (.int ((p1 &&& (2147483647 : Int32)) % (3 : Int32))), .val (.int ((p2 &&& (2147483647 : Int32)) % (3 : Int32))), .val (.ref st_PermissionClass_OWNER), .val (.int (64 : Int32)), .val (.ref st_Access_WRITE), .unset, .unset, .unset, .unset] [(.int (2 : Int32))])) _
          refine XS.istore X57.here hx rfl (hb hby at_93) rfl (l' := #[.val (.int p0), .val (.int p1), .val (.int p2), .val (.int (p0 &&& (1023 : Int32))), .val (.int ((p1 &&& (2147483647 : Int32)) % (3 : Int32))), .val (.int ((p2 &&& (2147483647 : Int32)) % (3 : Int32))), .val (.ref st_PermissionClass_OWNER), .val (.int (64 : Int32)), .val (.ref st_Access_WRITE), .val (.int (2 : Int32)), .unset, .unset, .unset]) rfl ?_
          show Steps p.tables e below (T57.setTop (mkF m 95 #[.val (.int p0), .val (.int p1), .val (.int p2), .val (.int (p0 &&& (1023 : Int32))), .val (.int ((p1 &&& (2147483647 : Int32)) % (3 : Int32))), .val (.int ((p2 &&& (2147483647 : Int32)) % (3 : Int32))), .val (.ref st_PermissionClass_OWNER), .val (.int (64 : Int32)), .val (.ref st_Access_WRITE), .val (.int (2 : Int32)), .unset, .unset, .unset] [])) _
          refine XS.goto X57.here hx rfl (pc0 := 95) (pc' := 106) rfl (hb hby at_95) (by decide) (by decide) ?_
          show Steps p.tables e below (T57.setTop (mkF m 106 #[.val (.int p0), .val (.int p1), .val (.int p2), .val (.int (p0 &&& (1023 : Int32))), .val (.int ((p1 &&& (2147483647 : Int32)) % (3 : Int32))), .val (.int ((p2 &&& (2147483647 : Int32)) % (3 : Int32))), .val (.ref st_PermissionClass_OWNER), .val (.int (64 : Int32)), .val (.ref st_Access_WRITE), .val (.int (2 : Int32)), .unset, .unset, .unset] [])) _
          refine XS.iload X57.here hx rfl (hb hby at_106) rfl ?_
          show Steps p.tables e below (T57.setTop (mkF m 108 #[.val (.int p0), .val (.int p1), .val (.int p2), .val (.int (p0 &&& (1023 : Int32))), .val (.int ((p1 &&& (2147483647 : Int32)) % (3 : Int32))), .val (.int ((p2 &&& (2147483647 : Int32)) % (3 : Int32))), .val (.ref st_PermissionClass_OWNER), .val (.int (64 : Int32)), .val (.ref st_Access_WRITE), .val (.int (2 : Int32)), .unset, .unset, .unset] [(.int (64 : Int32))])) _
          refine XS.iload X57.here hx rfl (hb hby at_108) rfl ?_
          show Steps p.tables e below (T57.setTop (mkF m 110 #[.val (.int p0), .val (.int p1), .val (.int p2), .val (.int (p0 &&& (1023 : Int32))), .val (.int ((p1 &&& (2147483647 : Int32)) % (3 : Int32))), .val (.int ((p2 &&& (2147483647 : Int32)) % (3 : Int32))), .val (.ref st_PermissionClass_OWNER), .val (.int (64 : Int32)), .val (.ref st_Access_WRITE), .val (.int (2 : Int32)), .unset, .unset, .unset] [(.int (2 : Int32)), (.int (64 : Int32))])) _
          refine XS.imul X57.here hx rfl (hb hby at_110) rfl ?_
          show Steps p.tables e below (T57.setTop (mkF m 111 #[.val (.int p0), .val (.int p1), .val (.int p2), .val (.int (p0 &&& (1023 : Int32))), .val (.int ((p1 &&& (2147483647 : Int32)) % (3 : Int32))), .val (.int ((p2 &&& (2147483647 : Int32)) % (3 : Int32))), .val (.ref st_PermissionClass_OWNER), .val (.int (64 : Int32)), .val (.ref st_Access_WRITE), .val (.int (2 : Int32)), .unset, .unset, .unset] [(.int (128 : Int32))])) _
          refine XS.istore X57.here hx rfl (hb hby at_111) rfl (l' := #[.val (.int p0), .val (.int p1), .val (.int p2), .val (.int (p0 &&& (1023 : Int32))), .val (.int ((p1 &&& (2147483647 : Int32)) % (3 : Int32))), .val (.int ((p2 &&& (2147483647 : Int32)) % (3 : Int32))), .val (.ref st_PermissionClass_OWNER), .val (.int (64 : Int32)), .val (.ref st_Access_WRITE), .val (.int (2 : Int32)), .val (.int (128 : Int32)), .unset, .unset]) rfl ?_
          exact h
        obtain ⟨jx, hk59, k59⟩ : ∃ (jx : Int32), (jx = if (((p0 &&& (1023 : Int32)) / (128 : Int32)) % (2 : Int32)) = (1 : Int32) then 1 else 0) ∧ ∀ t, Steps p.tables e below (T57.setTop (mkF m 128 #[.val (.int p0), .val (.int p1), .val (.int p2), .val (.int (p0 &&& (1023 : Int32))), .val (.int ((p1 &&& (2147483647 : Int32)) % (3 : Int32))), .val (.int ((p2 &&& (2147483647 : Int32)) % (3 : Int32))), .val (.ref st_PermissionClass_OWNER), .val (.int (64 : Int32)), .val (.ref st_Access_WRITE), .val (.int (2 : Int32)), .val (.int (128 : Int32)), .unset, .unset] [(.int jx)])) t → Steps p.tables e below (s₁.setTop (mkF m 0 #[.val (.int p0), .val (.int p1), .val (.int p2), .unset, .unset, .unset, .unset, .unset, .unset, .unset, .unset, .unset, .unset] [])) t := by
          have k60 : ∀ t, Steps p.tables e below (T57.setTop (mkF m 120 #[.val (.int p0), .val (.int p1), .val (.int p2), .val (.int (p0 &&& (1023 : Int32))), .val (.int ((p1 &&& (2147483647 : Int32)) % (3 : Int32))), .val (.int ((p2 &&& (2147483647 : Int32)) % (3 : Int32))), .val (.ref st_PermissionClass_OWNER), .val (.int (64 : Int32)), .val (.ref st_Access_WRITE), .val (.int (2 : Int32)), .val (.int (128 : Int32)), .unset, .unset] [(.int (1 : Int32)), (.int (((p0 &&& (1023 : Int32)) / (128 : Int32)) % (2 : Int32)))])) t → Steps p.tables e below (s₁.setTop (mkF m 0 #[.val (.int p0), .val (.int p1), .val (.int p2), .unset, .unset, .unset, .unset, .unset, .unset, .unset, .unset, .unset, .unset] [])) t := by
            intro t h
            refine k58 t ?_
            show Steps p.tables e below (T57.setTop (mkF m 113 #[.val (.int p0), .val (.int p1), .val (.int p2), .val (.int (p0 &&& (1023 : Int32))), .val (.int ((p1 &&& (2147483647 : Int32)) % (3 : Int32))), .val (.int ((p2 &&& (2147483647 : Int32)) % (3 : Int32))), .val (.ref st_PermissionClass_OWNER), .val (.int (64 : Int32)), .val (.ref st_Access_WRITE), .val (.int (2 : Int32)), .val (.int (128 : Int32)), .unset, .unset] [])) _
            refine XS.iloadN X57.here hx rfl (hb hby at_113) rfl ?_
            show Steps p.tables e below (T57.setTop (mkF m 114 #[.val (.int p0), .val (.int p1), .val (.int p2), .val (.int (p0 &&& (1023 : Int32))), .val (.int ((p1 &&& (2147483647 : Int32)) % (3 : Int32))), .val (.int ((p2 &&& (2147483647 : Int32)) % (3 : Int32))), .val (.ref st_PermissionClass_OWNER), .val (.int (64 : Int32)), .val (.ref st_Access_WRITE), .val (.int (2 : Int32)), .val (.int (128 : Int32)), .unset, .unset] [(.int (p0 &&& (1023 : Int32)))])) _
            refine XS.iload X57.here hx rfl (hb hby at_114) rfl ?_
            show Steps p.tables e below (T57.setTop (mkF m 116 #[.val (.int p0), .val (.int p1), .val (.int p2), .val (.int (p0 &&& (1023 : Int32))), .val (.int ((p1 &&& (2147483647 : Int32)) % (3 : Int32))), .val (.int ((p2 &&& (2147483647 : Int32)) % (3 : Int32))), .val (.ref st_PermissionClass_OWNER), .val (.int (64 : Int32)), .val (.ref st_Access_WRITE), .val (.int (2 : Int32)), .val (.int (128 : Int32)), .unset, .unset] [(.int (128 : Int32)), (.int (p0 &&& (1023 : Int32)))])) _
            refine XS.idiv X57.here hx rfl (hb hby at_116) rfl (by decide) ?_
            show Steps p.tables e below (T57.setTop (mkF m 117 #[.val (.int p0), .val (.int p1), .val (.int p2), .val (.int (p0 &&& (1023 : Int32))), .val (.int ((p1 &&& (2147483647 : Int32)) % (3 : Int32))), .val (.int ((p2 &&& (2147483647 : Int32)) % (3 : Int32))), .val (.ref st_PermissionClass_OWNER), .val (.int (64 : Int32)), .val (.ref st_Access_WRITE), .val (.int (2 : Int32)), .val (.int (128 : Int32)), .unset, .unset] [(.int ((p0 &&& (1023 : Int32)) / (128 : Int32)))])) _
            refine XS.iconst X57.here hx rfl (hb hby at_117) ?_
            show Steps p.tables e below (T57.setTop (mkF m 118 #[.val (.int p0), .val (.int p1), .val (.int p2), .val (.int (p0 &&& (1023 : Int32))), .val (.int ((p1 &&& (2147483647 : Int32)) % (3 : Int32))), .val (.int ((p2 &&& (2147483647 : Int32)) % (3 : Int32))), .val (.ref st_PermissionClass_OWNER), .val (.int (64 : Int32)), .val (.ref st_Access_WRITE), .val (.int (2 : Int32)), .val (.int (128 : Int32)), .unset, .unset] [(.int (2 : Int32)), (.int ((p0 &&& (1023 : Int32)) / (128 : Int32)))])) _
            refine iremM (g := (mkF m 118 #[.val (.int p0), .val (.int p1), .val (.int p2), .val (.int (p0 &&& (1023 : Int32))), .val (.int ((p1 &&& (2147483647 : Int32)) % (3 : Int32))), .val (.int ((p2 &&& (2147483647 : Int32)) % (3 : Int32))), .val (.ref st_PermissionClass_OWNER), .val (.int (64 : Int32)), .val (.ref st_Access_WRITE), .val (.int (2 : Int32)), .val (.int (128 : Int32)), .unset, .unset] [(.int (2 : Int32)), (.int ((p0 &&& (1023 : Int32)) / (128 : Int32)))])) X57 hx rfl (hb hby at_118) rfl (by decide) ?_
            show Steps p.tables e below (T57.setTop (mkF m 119 #[.val (.int p0), .val (.int p1), .val (.int p2), .val (.int (p0 &&& (1023 : Int32))), .val (.int ((p1 &&& (2147483647 : Int32)) % (3 : Int32))), .val (.int ((p2 &&& (2147483647 : Int32)) % (3 : Int32))), .val (.ref st_PermissionClass_OWNER), .val (.int (64 : Int32)), .val (.ref st_Access_WRITE), .val (.int (2 : Int32)), .val (.int (128 : Int32)), .unset, .unset] [(.int (((p0 &&& (1023 : Int32)) / (128 : Int32)) % (2 : Int32)))])) _
            refine XS.iconst X57.here hx rfl (hb hby at_119) ?_
            exact h
          by_cases c120_61 : (((p0 &&& (1023 : Int32)) / (128 : Int32)) % (2 : Int32)) = (1 : Int32)
          · skip
            have k62 : ∀ t, Steps p.tables e below (T57.setTop (mkF m 128 #[.val (.int p0), .val (.int p1), .val (.int p2), .val (.int (p0 &&& (1023 : Int32))), .val (.int ((p1 &&& (2147483647 : Int32)) % (3 : Int32))), .val (.int ((p2 &&& (2147483647 : Int32)) % (3 : Int32))), .val (.ref st_PermissionClass_OWNER), .val (.int (64 : Int32)), .val (.ref st_Access_WRITE), .val (.int (2 : Int32)), .val (.int (128 : Int32)), .unset, .unset] [(.int (1 : Int32))])) t → Steps p.tables e below (s₁.setTop (mkF m 0 #[.val (.int p0), .val (.int p1), .val (.int p2), .unset, .unset, .unset, .unset, .unset, .unset, .unset, .unset, .unset, .unset] [])) t := by
              intro t h
              refine k60 t ?_
              show Steps p.tables e below (T57.setTop (mkF m 120 #[.val (.int p0), .val (.int p1), .val (.int p2), .val (.int (p0 &&& (1023 : Int32))), .val (.int ((p1 &&& (2147483647 : Int32)) % (3 : Int32))), .val (.int ((p2 &&& (2147483647 : Int32)) % (3 : Int32))), .val (.ref st_PermissionClass_OWNER), .val (.int (64 : Int32)), .val (.ref st_Access_WRITE), .val (.int (2 : Int32)), .val (.int (128 : Int32)), .unset, .unset] [(.int (1 : Int32)), (.int (((p0 &&& (1023 : Int32)) / (128 : Int32)) % (2 : Int32)))])) _
              refine XS.icmpNo X57.here hx rfl (hb hby at_120) rfl (teq c120_61).2 ?_
              show Steps p.tables e below (T57.setTop (mkF m 123 #[.val (.int p0), .val (.int p1), .val (.int p2), .val (.int (p0 &&& (1023 : Int32))), .val (.int ((p1 &&& (2147483647 : Int32)) % (3 : Int32))), .val (.int ((p2 &&& (2147483647 : Int32)) % (3 : Int32))), .val (.ref st_PermissionClass_OWNER), .val (.int (64 : Int32)), .val (.ref st_Access_WRITE), .val (.int (2 : Int32)), .val (.int (128 : Int32)), .unset, .unset] [])) _
              refine XS.iconst X57.here hx rfl (hb hby at_123) ?_
              show Steps p.tables e below (T57.setTop (mkF m 124 #[.val (.int p0), .val (.int p1), .val (.int p2), .val (.int (p0 &&& (1023 : Int32))), .val (.int ((p1 &&& (2147483647 : Int32)) % (3 : Int32))), .val (.int ((p2 &&& (2147483647 : Int32)) % (3 : Int32))), .val (.ref st_PermissionClass_OWNER), .val (.int (64 : Int32)), .val (.ref st_Access_WRITE), .val (.int (2 : Int32)), .val (.int (128 : Int32)), .unset, .unset] [(.int (1 : Int32))])) _
              refine XS.goto X57.here hx rfl (pc0 := 124) (pc' := 128) rfl (hb hby at_124) (by decide) (by decide) ?_
              exact h
            exact ⟨(1 : Int32), by rw [if_pos c120_61], k62⟩
          · skip
            have k63 : ∀ t, Steps p.tables e below (T57.setTop (mkF m 128 #[.val (.int p0), .val (.int p1), .val (.int p2), .val (.int (p0 &&& (1023 : Int32))), .val (.int ((p1 &&& (2147483647 : Int32)) % (3 : Int32))), .val (.int ((p2 &&& (2147483647 : Int32)) % (3 : Int32))), .val (.ref st_PermissionClass_OWNER), .val (.int (64 : Int32)), .val (.ref st_Access_WRITE), .val (.int (2 : Int32)), .val (.int (128 : Int32)), .unset, .unset] [(.int (0 : Int32))])) t → Steps p.tables e below (s₁.setTop (mkF m 0 #[.val (.int p0), .val (.int p1), .val (.int p2), .unset, .unset, .unset, .unset, .unset, .unset, .unset, .unset, .unset, .unset] [])) t := by
              intro t h
              refine k60 t ?_
              show Steps p.tables e below (T57.setTop (mkF m 120 #[.val (.int p0), .val (.int p1), .val (.int p2), .val (.int (p0 &&& (1023 : Int32))), .val (.int ((p1 &&& (2147483647 : Int32)) % (3 : Int32))), .val (.int ((p2 &&& (2147483647 : Int32)) % (3 : Int32))), .val (.ref st_PermissionClass_OWNER), .val (.int (64 : Int32)), .val (.ref st_Access_WRITE), .val (.int (2 : Int32)), .val (.int (128 : Int32)), .unset, .unset] [(.int (1 : Int32)), (.int (((p0 &&& (1023 : Int32)) / (128 : Int32)) % (2 : Int32)))])) _
              refine XS.icmpYes X57.here hx rfl (pc0 := 120) (pc' := 127) rfl (hb hby at_120) rfl (feq c120_61).2 (by decide) (by decide) ?_
              show Steps p.tables e below (T57.setTop (mkF m 127 #[.val (.int p0), .val (.int p1), .val (.int p2), .val (.int (p0 &&& (1023 : Int32))), .val (.int ((p1 &&& (2147483647 : Int32)) % (3 : Int32))), .val (.int ((p2 &&& (2147483647 : Int32)) % (3 : Int32))), .val (.ref st_PermissionClass_OWNER), .val (.int (64 : Int32)), .val (.ref st_Access_WRITE), .val (.int (2 : Int32)), .val (.int (128 : Int32)), .unset, .unset] [])) _
              refine XS.iconst X57.here hx rfl (hb hby at_127) ?_
              exact h
            exact ⟨(0 : Int32), by rw [if_neg c120_61], k63⟩
        obtain ⟨T64, h64, X64, e64, E64, A64, D64, -, st64⟩ := newO X57 hx hZ hown (hw _ (List.mem_of_getElem? (i := 7) rfl)) (hw _ (List.mem_of_getElem? (i := 8) rfl)) (hw _ (List.mem_of_getElem? (i := 9) rfl)) e57 (g := (mkF m 130 #[.val (.int p0), .val (.int p1), .val (.int p2), .val (.int (p0 &&& (1023 : Int32))), .val (.int ((p1 &&& (2147483647 : Int32)) % (3 : Int32))), .val (.int ((p2 &&& (2147483647 : Int32)) % (3 : Int32))), .val (.ref st_PermissionClass_OWNER), .val (.int (64 : Int32)), .val (.ref st_Access_WRITE), .val (.int (2 : Int32)), .val (.int (128 : Int32)), .val (.int jx), .unset] [])) rfl (hb hby at_130) (by decide) (by decide)
        obtain ⟨b64, g64⟩ : ∃ z, z = h0.size := ⟨_, rfl⟩
        rw [← g64] at A64 D64 st64
        have ne_st_PermissionClass_OWNER_b64 : st_PermissionClass_OWNER ≠ b64 := Nat.ne_of_lt (Nat.lt_of_lt_of_le E_PermissionClass_OWNER.lt (Nat.le_of_eq g64.symm))
        have ne_st_Access_WRITE_b64 : st_Access_WRITE ≠ b64 := Nat.ne_of_lt (Nat.lt_of_lt_of_le E_Access_WRITE.lt (Nat.le_of_eq g64.symm))
        have g_b64 : n0 ≤ b64 := Nat.le_trans Z0 (Nat.le_of_eq g64.symm)
        have sz_b64 : h0.size ≤ b64 := Nat.le_trans K0.1 (Nat.le_of_eq g64.symm)
        have f65 := E_PermissionClass_OWNER.ext E64
        have f66 := E_Access_WRITE.ext E64
        have f67 := F_PermissionClass_OWNER_shift.ext E64
        have f68 := F_Access_WRITE_bit.ext E64
        have Z69 : n0 ≤ h64.size := Nat.le_trans Z0 E64.1
        have K70 := K0.ext E64
        have f71 : Fld Z h64 b64 "com/example/lats/lats/permission/Mode" "bits" "I" (.int (0 : Int32)) := D64 (Or.inr (hw _ (List.mem_of_getElem? (i := 17) rfl))) (ty := .int) (by decide)
        obtain ⟨_, _, ⟨T72, L72, k72, n72⟩, -, X72, ⟨Lc72, hQ72, l72, y72, z72⟩, st72⟩ := X64.specialBack hx (y := (⟨"com/example/lats/lats/permission/Mode", "<init>", "(I)V"⟩ : MethodName)) rfl hown (mvT hZ (hw _ (List.mem_of_getElem? (i := 10) rfl))) (mvT hZ (hw _ (List.mem_of_getElem? (i := 11) rfl))) (mvT hZ (hw _ (List.mem_of_getElem? (i := 12) rfl))) (by decide) (backOf (W := 1) (rm1 l Z a0 hw [] b64 (p0 &&& (1023 : Int32))  h64 n0 Z69 f71 A64 g_b64 (own_bits p0).1 (own_bits p0).2) hZ (hw _ (List.mem_of_getElem? (i := 12) rfl)) (hw _ (List.mem_of_getElem? (i := 9) rfl)) (by decide) (by decide)) (g := (mkF m 135 #[.val (.int p0), .val (.int p1), .val (.int p2), .val (.int (p0 &&& (1023 : Int32))), .val (.int ((p1 &&& (2147483647 : Int32)) % (3 : Int32))), .val (.int ((p2 &&& (2147483647 : Int32)) % (3 : Int32))), .val (.ref st_PermissionClass_OWNER), .val (.int (64 : Int32)), .val (.ref st_Access_WRITE), .val (.int (2 : Int32)), .val (.int (128 : Int32)), .val (.int jx), .unset] [(.int (p0 &&& (1023 : Int32))), (.ref b64), (.ref b64)])) rfl (by rw [hml]; rfl) (Steps.refl _) (a := b64) (argsL := [(.int (p0 &&& (1023 : Int32)))]) (rest := [(.ref b64)]) (lenOf own_pd_1 rfl) rfl (by show 2 * 0 + _ ≤ _; exact Nat.le_of_eq rfl) (hb hby at_135) (fun _ _ => ⟨rfl, e64, (by decide : 1 + 0 ≤ _), (by decide : 1 + 0 ≤ _)⟩)
        dsimp only [Pt.U, Pt.locs, Pt.cells, Pt.slots] at X72 l72 y72 z72 st72 hQ72
        subst l72 y72 z72
        obtain ⟨rfl, Nq72, Kq72, Eq72, Fq72⟩ := hQ72
        have N72 := Fr.app N0 Nq72
        have f73 := f65.keep Kq72
        have f74 := f66.keep Kq72
        have f75 := f67.keep Kq72 (ninS ne_st_PermissionClass_OWNER_b64 nin0)
        have f76 := f68.keep Kq72 (ninS ne_st_Access_WRITE_b64 nin0)
        have f77 := A64.keep Kq72
        have Z78 : n0 ≤ T72.heap.size := Nat.le_trans Z69 Kq72.1
        have K79 := K70.trans Kq72 (allS (Or.inr sz_b64) all0)
        obtain ⟨cq80, kq80, q80a, q80b, q80c⟩ := isOf hZ rfl f77
        obtain ⟨_, _, ⟨T80, L80, k80, n80⟩, -, X80, ⟨Lc80, hQ80, l80, y80, z80⟩, st80⟩ := X72.virtualBack hx (y := (⟨"com/example/lats/lats/permission/Mode", "grants", "(Lcom/example/lats/lats/permission/PermissionClass;Lcom/example/lats/lats/permission/Access;)Z"⟩ : MethodName)) (z := (⟨"com/example/lats/lats/permission/Mode", "grants", "(Lcom/example/lats/lats/permission/PermissionClass;Lcom/example/lats/lats/permission/Access;)Z"⟩ : MethodName)) hown (mvT hZ (hw _ (List.mem_of_getElem? (i := 18) rfl))) (mvT hZ (hw _ (List.mem_of_getElem? (i := 19) rfl))) (notFace_of_selects (args := #[]) (mvT hZ (hw _ (List.mem_of_getElem? (i := 21) rfl)))) (mvT hZ (hw _ (List.mem_of_getElem? (i := 21) rfl))) (mvT hZ (hw _ (List.mem_of_getElem? (i := 20) rfl))) (by decide) (backOf (W := 0) (rmG l Z a0 hw [] b64 st_PermissionClass_OWNER st_Access_WRITE (p0 &&& (1023 : Int32)) (6 : Int32) (2 : Int32) T72.heap n0 Z78 Fq72 f75 f76 f73 f74) hZ (hw _ (List.mem_of_getElem? (i := 22) rfl)) (hw _ (List.mem_of_getElem? (i := 9) rfl)) (by decide) (by decide)) q80a q80c (g := (mkF m 146 #[.val (.int p0), .val (.int p1), .val (.int p2), .val (.int (p0 &&& (1023 : Int32))), .val (.int ((p1 &&& (2147483647 : Int32)) % (3 : Int32))), .val (.int ((p2 &&& (2147483647 : Int32)) % (3 : Int32))), .val (.ref st_PermissionClass_OWNER), .val (.int (64 : Int32)), .val (.ref st_Access_WRITE), .val (.int (2 : Int32)), .val (.int (128 : Int32)), .val (.int jx), .val (.ref b64)] [(.ref st_Access_WRITE), (.ref st_PermissionClass_OWNER), (.ref b64)])) rfl (by rw [hml]; rfl) (Steps.refl _) (argsL := [(.ref st_PermissionClass_OWNER), (.ref st_Access_WRITE)]) (rest := []) (lenOf own_pd_2 rfl) rfl (by show 2 * 0 + _ ≤ _; exact Nat.le_of_eq rfl) (hb hby at_146) (fun _ _ => ⟨rfl, rfl, (by decide : 1 + 0 ≤ _), (by decide : 1 + 0 ≤ _)⟩)
        dsimp only [Pt.U, Pt.locs, Pt.cells, Pt.slots] at X80 l80 y80 z80 st80 hQ80
        subst l80 y80 z80
        obtain ⟨rfl, Nq80, eq80⟩ := hQ80
        have N80 := Fr.app N72 Nq80
        have k81 : ∀ t, Steps p.tables e below (T80.setTop (mkF m 151 #[.val (.int p0), .val (.int p1), .val (.int p2), .val (.int (p0 &&& (1023 : Int32))), .val (.int ((p1 &&& (2147483647 : Int32)) % (3 : Int32))), .val (.int ((p2 &&& (2147483647 : Int32)) % (3 : Int32))), .val (.ref st_PermissionClass_OWNER), .val (.int (64 : Int32)), .val (.ref st_Access_WRITE), .val (.int (2 : Int32)), .val (.int (128 : Int32)), .val (.int jx), .val (.ref b64)] [(.int jx), (.int (own_gr (p0 &&& (1023 : Int32)) (2 : Int32) (6 : Int32)))])) t → Steps p.tables e below (s₁.setTop (mkF m 0 #[.val (.int p0), .val (.int p1), .val (.int p2), .unset, .unset, .unset, .unset, .unset, .unset, .unset, .unset, .unset, .unset] [])) t := by
          intro t h
          refine k59 t ?_
          show Steps p.tables e below (T57.setTop (mkF m 128 #[.val (.int p0), .val (.int p1), .val (.int p2), .val (.int (p0 &&& (1023 : Int32))), .val (.int ((p1 &&& (2147483647 : Int32)) % (3 : Int32))), .val (.int ((p2 &&& (2147483647 : Int32)) % (3 : Int32))), .val (.ref st_PermissionClass_OWNER), .val (.int (64 : Int32)), .val (.ref st_Access_WRITE), .val (.int (2 : Int32)), .val (.int (128 : Int32)), .unset, .unset] [(.int jx)])) _
          refine XS.istore X57.here hx rfl (hb hby at_128) rfl (l' := #[.val (.int p0), .val (.int p1), .val (.int p2), .val (.int (p0 &&& (1023 : Int32))), .val (.int ((p1 &&& (2147483647 : Int32)) % (3 : Int32))), .val (.int ((p2 &&& (2147483647 : Int32)) % (3 : Int32))), .val (.ref st_PermissionClass_OWNER), .val (.int (64 : Int32)), .val (.ref st_Access_WRITE), .val (.int (2 : Int32)), .val (.int (128 : Int32)), .val (.int jx), .unset]) rfl ?_
          show Steps p.tables e below (T57.setTop (mkF m 130 #[.val (.int p0), .val (.int p1), .val (.int p2), .val (.int (p0 &&& (1023 : Int32))), .val (.int ((p1 &&& (2147483647 : Int32)) % (3 : Int32))), .val (.int ((p2 &&& (2147483647 : Int32)) % (3 : Int32))), .val (.ref st_PermissionClass_OWNER), .val (.int (64 : Int32)), .val (.ref st_Access_WRITE), .val (.int (2 : Int32)), .val (.int (128 : Int32)), .val (.int jx), .unset] [])) _
          refine st64 _ ?_
          show Steps p.tables e below (T64.setTop (mkF m 133 #[.val (.int p0), .val (.int p1), .val (.int p2), .val (.int (p0 &&& (1023 : Int32))), .val (.int ((p1 &&& (2147483647 : Int32)) % (3 : Int32))), .val (.int ((p2 &&& (2147483647 : Int32)) % (3 : Int32))), .val (.ref st_PermissionClass_OWNER), .val (.int (64 : Int32)), .val (.ref st_Access_WRITE), .val (.int (2 : Int32)), .val (.int (128 : Int32)), .val (.int jx), .unset] [(.ref b64)])) _
          refine XS.dup X64.here hx rfl (hb hby at_133) rfl rfl ?_
          show Steps p.tables e below (T64.setTop (mkF m 134 #[.val (.int p0), .val (.int p1), .val (.int p2), .val (.int (p0 &&& (1023 : Int32))), .val (.int ((p1 &&& (2147483647 : Int32)) % (3 : Int32))), .val (.int ((p2 &&& (2147483647 : Int32)) % (3 : Int32))), .val (.ref st_PermissionClass_OWNER), .val (.int (64 : Int32)), .val (.ref st_Access_WRITE), .val (.int (2 : Int32)), .val (.int (128 : Int32)), .val (.int jx), .unset] [(.ref b64), (.ref b64)])) _
          refine XS.iloadN X64.here hx rfl (hb hby at_134) rfl ?_
          show Steps p.tables e below (T64.setTop (mkF m 135 #[.val (.int p0), .val (.int p1), .val (.int p2), .val (.int (p0 &&& (1023 : Int32))), .val (.int ((p1 &&& (2147483647 : Int32)) % (3 : Int32))), .val (.int ((p2 &&& (2147483647 : Int32)) % (3 : Int32))), .val (.ref st_PermissionClass_OWNER), .val (.int (64 : Int32)), .val (.ref st_Access_WRITE), .val (.int (2 : Int32)), .val (.int (128 : Int32)), .val (.int jx), .unset] [(.int (p0 &&& (1023 : Int32))), (.ref b64), (.ref b64)])) _
          refine st72.trans ?_
          show Steps p.tables e below (T72.setTop (mkF m 138 #[.val (.int p0), .val (.int p1), .val (.int p2), .val (.int (p0 &&& (1023 : Int32))), .val (.int ((p1 &&& (2147483647 : Int32)) % (3 : Int32))), .val (.int ((p2 &&& (2147483647 : Int32)) % (3 : Int32))), .val (.ref st_PermissionClass_OWNER), .val (.int (64 : Int32)), .val (.ref st_Access_WRITE), .val (.int (2 : Int32)), .val (.int (128 : Int32)), .val (.int jx), .unset] [(.ref b64)])) _
          refine XS.astore X72.here hx rfl (hb hby at_138) rfl rfl (l' := #[.val (.int p0), .val (.int p1), .val (.int p2), .val (.int (p0 &&& (1023 : Int32))), .val (.int ((p1 &&& (2147483647 : Int32)) % (3 : Int32))), .val (.int ((p2 &&& (2147483647 : Int32)) % (3 : Int32))), .val (.ref st_PermissionClass_OWNER), .val (.int (64 : Int32)), .val (.ref st_Access_WRITE), .val (.int (2 : Int32)), .val (.int (128 : Int32)), .val (.int jx), .val (.ref b64)]) rfl ?_
          show Steps p.tables e below (T72.setTop (mkF m 140 #[.val (.int p0), .val (.int p1), .val (.int p2), .val (.int (p0 &&& (1023 : Int32))), .val (.int ((p1 &&& (2147483647 : Int32)) % (3 : Int32))), .val (.int ((p2 &&& (2147483647 : Int32)) % (3 : Int32))), .val (.ref st_PermissionClass_OWNER), .val (.int (64 : Int32)), .val (.ref st_Access_WRITE), .val (.int (2 : Int32)), .val (.int (128 : Int32)), .val (.int jx), .val (.ref b64)] [])) _
          refine XS.aload X72.here hx rfl (hb hby at_140) rfl rfl ?_
          show Steps p.tables e below (T72.setTop (mkF m 142 #[.val (.int p0), .val (.int p1), .val (.int p2), .val (.int (p0 &&& (1023 : Int32))), .val (.int ((p1 &&& (2147483647 : Int32)) % (3 : Int32))), .val (.int ((p2 &&& (2147483647 : Int32)) % (3 : Int32))), .val (.ref st_PermissionClass_OWNER), .val (.int (64 : Int32)), .val (.ref st_Access_WRITE), .val (.int (2 : Int32)), .val (.int (128 : Int32)), .val (.int jx), .val (.ref b64)] [(.ref b64)])) _
          refine XS.aload X72.here hx rfl (hb hby at_142) rfl rfl ?_
          show Steps p.tables e below (T72.setTop (mkF m 144 #[.val (.int p0), .val (.int p1), .val (.int p2), .val (.int (p0 &&& (1023 : Int32))), .val (.int ((p1 &&& (2147483647 : Int32)) % (3 : Int32))), .val (.int ((p2 &&& (2147483647 : Int32)) % (3 : Int32))), .val (.ref st_PermissionClass_OWNER), .val (.int (64 : Int32)), .val (.ref st_Access_WRITE), .val (.int (2 : Int32)), .val (.int (128 : Int32)), .val (.int jx), .val (.ref b64)] [(.ref st_PermissionClass_OWNER), (.ref b64)])) _
          refine XS.aload X72.here hx rfl (hb hby at_144) rfl rfl ?_
          show Steps p.tables e below (T72.setTop (mkF m 146 #[.val (.int p0), .val (.int p1), .val (.int p2), .val (.int (p0 &&& (1023 : Int32))), .val (.int ((p1 &&& (2147483647 : Int32)) % (3 : Int32))), .val (.int ((p2 &&& (2147483647 : Int32)) % (3 : Int32))), .val (.ref st_PermissionClass_OWNER), .val (.int (64 : Int32)), .val (.ref st_Access_WRITE), .val (.int (2 : Int32)), .val (.int (128 : Int32)), .val (.int jx), .val (.ref b64)] [(.ref st_Access_WRITE), (.ref st_PermissionClass_OWNER), (.ref b64)])) _
          refine st80.trans ?_
          show Steps p.tables e below (T80.setTop (mkF m 149 #[.val (.int p0), .val (.int p1), .val (.int p2), .val (.int (p0 &&& (1023 : Int32))), .val (.int ((p1 &&& (2147483647 : Int32)) % (3 : Int32))), .val (.int ((p2 &&& (2147483647 : Int32)) % (3 : Int32))), .val (.ref st_PermissionClass_OWNER), .val (.int (64 : Int32)), .val (.ref st_Access_WRITE), .val (.int (2 : Int32)), .val (.int (128 : Int32)), .val (.int jx), .val (.ref b64)] [(.int (own_gr (p0 &&& (1023 : Int32)) (2 : Int32) (6 : Int32)))])) _
          refine XS.iload X80.here hx rfl (hb hby at_149) rfl ?_
          exact h
        have b151_82 : (own_gr (p0 &&& (1023 : Int32)) (2 : Int32) (6 : Int32)) = jx := by rw [hk59]; exact own_t64_2 p0
        have k83 : ∀ t, Steps p.tables e below (T80.setTop (mkF m 159 #[.val (.int p0), .val (.int p1), .val (.int p2), .val (.int (p0 &&& (1023 : Int32))), .val (.int ((p1 &&& (2147483647 : Int32)) % (3 : Int32))), .val (.int ((p2 &&& (2147483647 : Int32)) % (3 : Int32))), .val (.ref st_PermissionClass_OWNER), .val (.int (64 : Int32)), .val (.ref st_Access_WRITE), .val (.int (2 : Int32)), .val (.int (128 : Int32)), .val (.int jx), .val (.ref b64)] [(.int (1 : Int32))])) t → Steps p.tables e below (s₁.setTop (mkF m 0 #[.val (.int p0), .val (.int p1), .val (.int p2), .unset, .unset, .unset, .unset, .unset, .unset, .unset, .unset, .unset, .unset] [])) t := by
          intro t h
          refine k81 t ?_
          show Steps p.tables e below (T80.setTop (mkF m 151 #[.val (.int p0), .val (.int p1), .val (.int p2), .val (.int (p0 &&& (1023 : Int32))), .val (.int ((p1 &&& (2147483647 : Int32)) % (3 : Int32))), .val (.int ((p2 &&& (2147483647 : Int32)) % (3 : Int32))), .val (.ref st_PermissionClass_OWNER), .val (.int (64 : Int32)), .val (.ref st_Access_WRITE), .val (.int (2 : Int32)), .val (.int (128 : Int32)), .val (.int jx), .val (.ref b64)] [(.int jx), (.int (own_gr (p0 &&& (1023 : Int32)) (2 : Int32) (6 : Int32)))])) _
          refine XS.icmpNo X80.here hx rfl (hb hby at_151) rfl (teq b151_82).2 ?_
          show Steps p.tables e below (T80.setTop (mkF m 154 #[.val (.int p0), .val (.int p1), .val (.int p2), .val (.int (p0 &&& (1023 : Int32))), .val (.int ((p1 &&& (2147483647 : Int32)) % (3 : Int32))), .val (.int ((p2 &&& (2147483647 : Int32)) % (3 : Int32))), .val (.ref st_PermissionClass_OWNER), .val (.int (64 : Int32)), .val (.ref st_Access_WRITE), .val (.int (2 : Int32)), .val (.int (128 : Int32)), .val (.int jx), .val (.ref b64)] [])) _
          refine XS.iconst X80.here hx rfl (hb hby at_154) ?_
          show Steps p.tables e below (T80.setTop (mkF m 155 #[.val (.int p0), .val (.int p1), .val (.int p2), .val (.int (p0 &&& (1023 : Int32))), .val (.int ((p1 &&& (2147483647 : Int32)) % (3 : Int32))), .val (.int ((p2 &&& (2147483647 : Int32)) % (3 : Int32))), .val (.ref st_PermissionClass_OWNER), .val (.int (64 : Int32)), .val (.ref st_Access_WRITE), .val (.int (2 : Int32)), .val (.int (128 : Int32)), .val (.int jx), .val (.ref b64)] [(.int (1 : Int32))])) _
          refine XS.goto X80.here hx rfl (pc0 := 155) (pc' := 159) rfl (hb hby at_155) (by decide) (by decide) ?_
          exact h
        obtain ⟨fs, hr, hrun, hended, hW, hsame⟩ := X80.leave (v := some (.int (1 : Int32))) (fun h => by rw [Bd.returns] at h; cases h) Bd.notSynchronized
        refine ⟨_, _, pre0 _ (k83 _ ?_), hrun, hended, _, _, rfl, ?_, ⟨_, rfl⟩, hW, hsame.mono (by decide) (by decide)⟩
        · exact retN X80 hx (t := .boolean) Bd.returns (by simp) (hb hby at_159) hr
        · show Q_rm0 Z _ _ _ _ _ _ _ _ _ h0 n0 _ T80.heap _
          rw [eq80]
          exact ⟨rfl, N80⟩
      · skip
        obtain ⟨T84, X84, e84, st84⟩ := getS2 X25 hx hZ hown (host := "") (Or.inl (hw _ (List.mem_of_getElem? (i := 4) rfl))) Via.refl e25 S_Access_EXECUTE (g := (mkF m 98 #[.val (.int p0), .val (.int p1), .val (.int p2), .val (.int (p0 &&& (1023 : Int32))), .val (.int ((p1 &&& (2147483647 : Int32)) % (3 : Int32))), .val (.int ((p2 &&& (2147483647 : Int32)) % (3 : Int32))), .val (.ref st_PermissionClass_OWNER), .val (.int (64 : Int32)), .unset, .unset, .unset, .unset, .unset] [])) rfl (hb hby at_98)
        have k85 : ∀ t, Steps p.tables e below (T84.setTop (mkF m 113 #[.val (.int p0), .val (.int p1), .val (.int p2), .val (.int (p0 &&& (1023 : Int32))), .val (.int ((p1 &&& (2147483647 : Int32)) % (3 : Int32))), .val (.int ((p2 &&& (2147483647 : Int32)) % (3 : Int32))), .val (.ref st_PermissionClass_OWNER), .val (.int (64 : Int32)), .val (.ref st_Access_EXECUTE), .val (.int (1 : Int32)), .val (.int (64 : Int32)), .unset, .unset] [])) t → Steps p.tables e below (s₁.setTop (mkF m 0 #[.val (.int p0), .val (.int p1), .val (.int p2), .unset, .unset, .unset, .unset, .unset, .unset, .unset, .unset, .unset, .unset] [])) t := by
          intro t h
          refine k55 t ?_
          show Steps p.tables e below (T25.setTop (mkF m 84 #[.val (.int p0), .val (.int p1), .val (.int p2), .val (.int (p0 &&& (1023 : Int32))), .val (.int ((p1 &&& (2147483647 : Int32)) % (3 : Int32))), .val (.int ((p2 &&& (2147483647 : Int32)) % (3 : Int32))), .val (.ref st_PermissionClass_OWNER), .val (.int (64 : Int32)), .unset, .unset, .unset, .unset, .unset] [(.int (1 : Int32)), (.int ((p2 &&& (2147483647 : Int32)) % (3 : Int32)))])) _
          refine XS.icmpYes X25.here hx rfl (pc0 := 84) (pc' := 98) rfl (hb hby at_84) rfl (feq c84_56).2 (by decide) (by decide) ?_
          show Steps p.tables e below (T25.setTop (mkF m 98 #[.val (.int p0), .val (.int p1), .val (.int p2), .val (.int (p0 &&& (1023 : Int32))), .val (.int ((p1 &&& (2147483647 : Int32)) % (3 : Int32))), .val (.int ((p2 &&& (2147483647 : Int32)) % (3 : Int32))), .val (.ref st_PermissionClass_OWNER), .val (.int (64 : Int32)), .unset, .unset, .unset, .unset, .unset] [])) _
          refine st84 _ ?_
          show Steps p.tables e below (T84.setTop (mkF m 101 #[.val (.int p0), .val (.int p1), .val (.int p2), .val (.int (p0 &&& (1023 : Int32))), .val (.int ((p1 &&& (2147483647 : Int32)) % (3 : Int32))), .val (.int ((p2 &&& (2147483647 : Int32)) % (3 : Int32))), .val (.ref st_PermissionClass_OWNER), .val (.int (64 : Int32)), .unset, .unset, .unset, .unset, .unset] [(.ref st_Access_EXECUTE)])) _
          refine XS.astore X84.here hx rfl (hb hby at_101) rfl rfl (l' := #[.val (.int p0), .val (.int p1), .val (.int p2), .val (.int (p0 &&& (1023 : Int32))), .val (.int ((p1 &&& (2147483647 : Int32)) % (3 : Int32))), .val (.int ((p2 &&& (2147483647 : Int32)) % (3 : Int32))), .val (.ref st_PermissionClass_OWNER), .val (.int (64 : Int32)), .val (.ref st_Access_EXECUTE), .unset, .unset, .unset, .unset]) rfl ?_
          show Steps p.tables e below (T84.setTop (mkF m 103 #[.val (.int p0), .val (.int p1), .val (.int p2), .val (.int (p0 &&& (1023 : Int32))), .val (.int ((p1 &&& (2147483647 : Int32)) % (3 : Int32))), .val (.int ((p2 &&& (2147483647 : Int32)) % (3 : Int32))), .val (.ref st_PermissionClass_OWNER), .val (.int (64 : Int32)), .val (.ref st_Access_EXECUTE), .unset, .unset, .unset, .unset] [])) _
          refine XS.iconst X84.here hx rfl (hb hby at_103) ?_
          show Steps p.tables e below (T84.setTop (mkF m 104 #[.val (.int p0), .val (.int p1), .val (.int p2), .val (.int (p0 &&& (1023 : Int32))), .val (.int ((p1 &&& (2147483647 : Int32)) % (3 : Int32))), .val (.int ((p2 &&& (2147483647 : Int32)) % (3 : Int32))), .val (.ref st_PermissionClass_OWNER), .val (.int (64 : Int32)), .val (.ref st_Access_EXECUTE), .unset, .unset, .unset, .unset] [(.int (1 : Int32))])) _
          refine XS.istore X84.here hx rfl (hb hby at_104) rfl (l' := #[.val (.int p0), .val (.int p1), .val (.int p2), .val (.int (p0 &&& (1023 : Int32))), .val (.int ((p1 &&& (2147483647 : Int32)) % (3 : Int32))), .val (.int ((p2 &&& (2147483647 : Int32)) % (3 : Int32))), .val (.ref st_PermissionClass_OWNER), .val (.int (64 : Int32)), .val (.ref st_Access_EXECUTE), .val (.int (1 : Int32)), .unset, .unset, .unset]) rfl ?_
          show Steps p.tables e below (T84.setTop (mkF m 106 #[.val (.int p0), .val (.int p1), .val (.int p2), .val (.int (p0 &&& (1023 : Int32))), .val (.int ((p1 &&& (2147483647 : Int32)) % (3 : Int32))), .val (.int ((p2 &&& (2147483647 : Int32)) % (3 : Int32))), .val (.ref st_PermissionClass_OWNER), .val (.int (64 : Int32)), .val (.ref st_Access_EXECUTE), .val (.int (1 : Int32)), .unset, .unset, .unset] [])) _
          refine XS.iload X84.here hx rfl (hb hby at_106) rfl ?_
          show Steps p.tables e below (T84.setTop (mkF m 108 #[.val (.int p0), .val (.int p1), .val (.int p2), .val (.int (p0 &&& (1023 : Int32))), .val (.int ((p1 &&& (2147483647 : Int32)) % (3 : Int32))), .val (.int ((p2 &&& (2147483647 : Int32)) % (3 : Int32))), .val (.ref st_PermissionClass_OWNER), .val (.int (64 : Int32)), .val (.ref st_Access_EXECUTE), .val (.int (1 : Int32)), .unset, .unset, .unset] [(.int (64 : Int32))])) _
          refine XS.iload X84.here hx rfl (hb hby at_108) rfl ?_
          show Steps p.tables e below (T84.setTop (mkF m 110 #[.val (.int p0), .val (.int p1), .val (.int p2), .val (.int (p0 &&& (1023 : Int32))), .val (.int ((p1 &&& (2147483647 : Int32)) % (3 : Int32))), .val (.int ((p2 &&& (2147483647 : Int32)) % (3 : Int32))), .val (.ref st_PermissionClass_OWNER), .val (.int (64 : Int32)), .val (.ref st_Access_EXECUTE), .val (.int (1 : Int32)), .unset, .unset, .unset] [(.int (1 : Int32)), (.int (64 : Int32))])) _
          refine XS.imul X84.here hx rfl (hb hby at_110) rfl ?_
          show Steps p.tables e below (T84.setTop (mkF m 111 #[.val (.int p0), .val (.int p1), .val (.int p2), .val (.int (p0 &&& (1023 : Int32))), .val (.int ((p1 &&& (2147483647 : Int32)) % (3 : Int32))), .val (.int ((p2 &&& (2147483647 : Int32)) % (3 : Int32))), .val (.ref st_PermissionClass_OWNER), .val (.int (64 : Int32)), .val (.ref st_Access_EXECUTE), .val (.int (1 : Int32)), .unset, .unset, .unset] [(.int (64 : Int32))])) _
          refine XS.istore X84.here hx rfl (hb hby at_111) rfl (l' := #[.val (.int p0), .val (.int p1), .val (.int p2), .val (.int (p0 &&& (1023 : Int32))), .val (.int ((p1 &&& (2147483647 : Int32)) % (3 : Int32))), .val (.int ((p2 &&& (2147483647 : Int32)) % (3 : Int32))), .val (.ref st_PermissionClass_OWNER), .val (.int (64 : Int32)), .val (.ref st_Access_EXECUTE), .val (.int (1 : Int32)), .val (.int (64 : Int32)), .unset, .unset]) rfl ?_
          exact h
        obtain ⟨jx, hk86, k86⟩ : ∃ (jx : Int32), (jx = if (((p0 &&& (1023 : Int32)) / (64 : Int32)) % (2 : Int32)) = (1 : Int32) then 1 else 0) ∧ ∀ t, Steps p.tables e below (T84.setTop (mkF m 128 #[.val (.int p0), .val (.int p1), .val (.int p2), .val (.int (p0 &&& (1023 : Int32))), .val (.int ((p1 &&& (2147483647 : Int32)) % (3 : Int32))), .val (.int ((p2 &&& (2147483647 : Int32)) % (3 : Int32))), .val (.ref st_PermissionClass_OWNER), .val (.int (64 : Int32)), .val (.ref st_Access_EXECUTE), .val (.int (1 : Int32)), .val (.int (64 : Int32)), .unset, .unset] [(.int jx)])) t → Steps p.tables e below (s₁.setTop (mkF m 0 #[.val (.int p0), .val (.int p1), .val (.int p2), .unset, .unset, .unset, .unset, .unset, .unset, .unset, .unset, .unset, .unset] [])) t := by
          have k87 : ∀ t, Steps p.tables e below (T84.setTop (mkF m 120 #[.val (.int p0), .val (.int p1), .val (.int p2), .val (.int (p0 &&& (1023 : Int32))), .val (.int ((p1 &&& (2147483647 : Int32)) % (3 : Int32))), .val (.int ((p2 &&& (2147483647 : Int32)) % (3 : Int32))), .val (.ref st_PermissionClass_OWNER), .val (.int (64 : Int32)), .val (.ref st_Access_EXECUTE), .val (.int (1 : Int32)), .val (.int (64 : Int32)), .unset, .unset] [(.int (1 : Int32)), (.int (((p0 &&& (1023 : Int32)) / (64 : Int32)) % (2 : Int32)))])) t → Steps p.tables e below (s₁.setTop (mkF m 0 #[.val (.int p0), .val (.int p1), .val (.int p2), .unset, .unset, .unset, .unset, .unset, .unset, .unset, .unset, .unset, .unset] [])) t := by
            intro t h
            refine k85 t ?_
            show Steps p.tables e below (T84.setTop (mkF m 113 #[.val (.int p0), .val (.int p1), .val (.int p2), .val (.int (p0 &&& (1023 : Int32))), .val (.int ((p1 &&& (2147483647 : Int32)) % (3 : Int32))), .val (.int ((p2 &&& (2147483647 : Int32)) % (3 : Int32))), .val (.ref st_PermissionClass_OWNER), .val (.int (64 : Int32)), .val (.ref st_Access_EXECUTE), .val (.int (1 : Int32)), .val (.int (64 : Int32)), .unset, .unset] [])) _
            refine XS.iloadN X84.here hx rfl (hb hby at_113) rfl ?_
            show Steps p.tables e below (T84.setTop (mkF m 114 #[.val (.int p0), .val (.int p1), .val (.int p2), .val (.int (p0 &&& (1023 : Int32))), .val (.int ((p1 &&& (2147483647 : Int32)) % (3 : Int32))), .val (.int ((p2 &&& (2147483647 : Int32)) % (3 : Int32))), .val (.ref st_PermissionClass_OWNER), .val (.int (64 : Int32)), .val (.ref st_Access_EXECUTE), .val (.int (1 : Int32)), .val (.int (64 : Int32)), .unset, .unset] [(.int (p0 &&& (1023 : Int32)))])) _
            refine XS.iload X84.here hx rfl (hb hby at_114) rfl ?_
            show Steps p.tables e below (T84.setTop (mkF m 116 #[.val (.int p0), .val (.int p1), .val (.int p2), .val (.int (p0 &&& (1023 : Int32))), .val (.int ((p1 &&& (2147483647 : Int32)) % (3 : Int32))), .val (.int ((p2 &&& (2147483647 : Int32)) % (3 : Int32))), .val (.ref st_PermissionClass_OWNER), .val (.int (64 : Int32)), .val (.ref st_Access_EXECUTE), .val (.int (1 : Int32)), .val (.int (64 : Int32)), .unset, .unset] [(.int (64 : Int32)), (.int (p0 &&& (1023 : Int32)))])) _
            refine XS.idiv X84.here hx rfl (hb hby at_116) rfl (by decide) ?_
            show Steps p.tables e below (T84.setTop (mkF m 117 #[.val (.int p0), .val (.int p1), .val (.int p2), .val (.int (p0 &&& (1023 : Int32))), .val (.int ((p1 &&& (2147483647 : Int32)) % (3 : Int32))), .val (.int ((p2 &&& (2147483647 : Int32)) % (3 : Int32))), .val (.ref st_PermissionClass_OWNER), .val (.int (64 : Int32)), .val (.ref st_Access_EXECUTE), .val (.int (1 : Int32)), .val (.int (64 : Int32)), .unset, .unset] [(.int ((p0 &&& (1023 : Int32)) / (64 : Int32)))])) _
            refine XS.iconst X84.here hx rfl (hb hby at_117) ?_
            show Steps p.tables e below (T84.setTop (mkF m 118 #[.val (.int p0), .val (.int p1), .val (.int p2), .val (.int (p0 &&& (1023 : Int32))), .val (.int ((p1 &&& (2147483647 : Int32)) % (3 : Int32))), .val (.int ((p2 &&& (2147483647 : Int32)) % (3 : Int32))), .val (.ref st_PermissionClass_OWNER), .val (.int (64 : Int32)), .val (.ref st_Access_EXECUTE), .val (.int (1 : Int32)), .val (.int (64 : Int32)), .unset, .unset] [(.int (2 : Int32)), (.int ((p0 &&& (1023 : Int32)) / (64 : Int32)))])) _
            refine iremM (g := (mkF m 118 #[.val (.int p0), .val (.int p1), .val (.int p2), .val (.int (p0 &&& (1023 : Int32))), .val (.int ((p1 &&& (2147483647 : Int32)) % (3 : Int32))), .val (.int ((p2 &&& (2147483647 : Int32)) % (3 : Int32))), .val (.ref st_PermissionClass_OWNER), .val (.int (64 : Int32)), .val (.ref st_Access_EXECUTE), .val (.int (1 : Int32)), .val (.int (64 : Int32)), .unset, .unset] [(.int (2 : Int32)), (.int ((p0 &&& (1023 : Int32)) / (64 : Int32)))])) X84 hx rfl (hb hby at_118) rfl (by decide) ?_
            show Steps p.tables e below (T84.setTop (mkF m 119 #[.val (.int p0), .val (.int p1), .val (.int p2), .val (.int (p0 &&& (1023 : Int32))), .val (.int ((p1 &&& (2147483647 : Int32)) % (3 : Int32))), .val (.int ((p2 &&& (2147483647 : Int32)) % (3 : Int32))), .val (.ref st_PermissionClass_OWNER), .val (.int (64 : Int32)), .val (.ref st_Access_EXECUTE), .val (.int (1 : Int32)), .val (.int (64 : Int32)), .unset, .unset] [(.int (((p0 &&& (1023 : Int32)) / (64 : Int32)) % (2 : Int32)))])) _
            refine XS.iconst X84.here hx rfl (hb hby at_119) ?_
            exact h
          by_cases c120_88 : (((p0 &&& (1023 : Int32)) / (64 : Int32)) % (2 : Int32)) = (1 : Int32)
          · skip
            have k89 : ∀ t, Steps p.tables e below (T84.setTop (mkF m 128 #[.val (.int p0), .val (.int p1), .val (.int p2), .val (.int (p0 &&& (1023 : Int32))), .val (.int ((p1 &&& (2147483647 : Int32)) % (3 : Int32))), .val (.int ((p2 &&& (2147483647 : Int32)) % (3 : Int32))), .val (.ref st_PermissionClass_OWNER), .val (.int (64 : Int32)), .val (.ref st_Access_EXECUTE), .val (.int (1 : Int32)), .val (.int (64 : Int32)), .unset, .unset] [(.int (1 : Int32))])) t → Steps p.tables e below (s₁.setTop (mkF m 0 #[.val (.int p0), .val (.int p1), .val (.int p2), .unset, .unset, .unset, .unset, .unset, .unset, .unset, .unset, .unset, .unset] [])) t := by
              intro t h
              refine k87 t ?_
              show Steps p.tables e below (T84.setTop (mkF m 120 #[.val (.int p0), .val (.int p1), .val (.int p2), .val (.int (p0 &&& (1023 : Int32))), .val (.int ((p1 &&& (2147483647 : Int32)) % (3 : Int32))), .val (.int ((p2 &&& (2147483647 : Int32)) % (3 : Int32))), .val (.ref st_PermissionClass_OWNER), .val (.int (64 : Int32)), .val (.ref st_Access_EXECUTE), .val (.int (1 : Int32)), .val (.int (64 : Int32)), .unset, .unset] [(.int (1 : Int32)), (.int (((p0 &&& (1023 : Int32)) / (64 : Int32)) % (2 : Int32)))])) _
              refine XS.icmpNo X84.here hx rfl (hb hby at_120) rfl (teq c120_88).2 ?_
              show Steps p.tables e below (T84.setTop (mkF m 123 #[.val (.int p0), .val (.int p1), .val (.int p2), .val (.int (p0 &&& (1023 : Int32))), .val (.int ((p1 &&& (2147483647 : Int32)) % (3 : Int32))), .val (.int ((p2 &&& (2147483647 : Int32)) % (3 : Int32))), .val (.ref st_PermissionClass_OWNER), .val (.int (64 : Int32)), .val (.ref st_Access_EXECUTE), .val (.int (1 : Int32)), .val (.int (64 : Int32)), .unset, .unset] [])) _
              refine XS.iconst X84.here hx rfl (hb hby at_123) ?_
              show Steps p.tables e below (T84.setTop (mkF m 124 #[.val (.int p0), .val (.int p1), .val (.int p2), .val (.int (p0 &&& (1023 : Int32))), .val (.int ((p1 &&& (2147483647 : Int32)) % (3 : Int32))), .val (.int ((p2 &&& (2147483647 : Int32)) % (3 : Int32))), .val (.ref st_PermissionClass_OWNER), .val (.int (64 : Int32)), .val (.ref st_Access_EXECUTE), .val (.int (1 : Int32)), .val (.int (64 : Int32)), .unset, .unset] [(.int (1 : Int32))])) _
              refine XS.goto X84.here hx rfl (pc0 := 124) (pc' := 128) rfl (hb hby at_124) (by decide) (by decide) ?_
              exact h
            exact ⟨(1 : Int32), by rw [if_pos c120_88], k89⟩
          · skip
            have k90 : ∀ t, Steps p.tables e below (T84.setTop (mkF m 128 #[.val (.int p0), .val (.int p1), .val (.int p2), .val (.int (p0 &&& (1023 : Int32))), .val (.int ((p1 &&& (2147483647 : Int32)) % (3 : Int32))), .val (.int ((p2 &&& (2147483647 : Int32)) % (3 : Int32))), .val (.ref st_PermissionClass_OWNER), .val (.int (64 : Int32)), .val (.ref st_Access_EXECUTE), .val (.int (1 : Int32)), .val (.int (64 : Int32)), .unset, .unset] [(.int (0 : Int32))])) t → Steps p.tables e below (s₁.setTop (mkF m 0 #[.val (.int p0), .val (.int p1), .val (.int p2), .unset, .unset, .unset, .unset, .unset, .unset, .unset, .unset, .unset, .unset] [])) t := by
              intro t h
              refine k87 t ?_
              show Steps p.tables e below (T84.setTop (mkF m 120 #[.val (.int p0), .val (.int p1), .val (.int p2), .val (.int (p0 &&& (1023 : Int32))), .val (.int ((p1 &&& (2147483647 : Int32)) % (3 : Int32))), .val (.int ((p2 &&& (2147483647 : Int32)) % (3 : Int32))), .val (.ref st_PermissionClass_OWNER), .val (.int (64 : Int32)), .val (.ref st_Access_EXECUTE), .val (.int (1 : Int32)), .val (.int (64 : Int32)), .unset, .unset] [(.int (1 : Int32)), (.int (((p0 &&& (1023 : Int32)) / (64 : Int32)) % (2 : Int32)))])) _
              refine XS.icmpYes X84.here hx rfl (pc0 := 120) (pc' := 127) rfl (hb hby at_120) rfl (feq c120_88).2 (by decide) (by decide) ?_
              show Steps p.tables e below (T84.setTop (mkF m 127 #[.val (.int p0), .val (.int p1), .val (.int p2), .val (.int (p0 &&& (1023 : Int32))), .val (.int ((p1 &&& (2147483647 : Int32)) % (3 : Int32))), .val (.int ((p2 &&& (2147483647 : Int32)) % (3 : Int32))), .val (.ref st_PermissionClass_OWNER), .val (.int (64 : Int32)), .val (.ref st_Access_EXECUTE), .val (.int (1 : Int32)), .val (.int (64 : Int32)), .unset, .unset] [])) _
              refine XS.iconst X84.here hx rfl (hb hby at_127) ?_
              exact h
            exact ⟨(0 : Int32), by rw [if_neg c120_88], k90⟩
        obtain ⟨T91, h91, X91, e91, E91, A91, D91, -, st91⟩ := newO X84 hx hZ hown (hw _ (List.mem_of_getElem? (i := 7) rfl)) (hw _ (List.mem_of_getElem? (i := 8) rfl)) (hw _ (List.mem_of_getElem? (i := 9) rfl)) e84 (g := (mkF m 130 #[.val (.int p0), .val (.int p1), .val (.int p2), .val (.int (p0 &&& (1023 : Int32))), .val (.int ((p1 &&& (2147483647 : Int32)) % (3 : Int32))), .val (.int ((p2 &&& (2147483647 : Int32)) % (3 : Int32))), .val (.ref st_PermissionClass_OWNER), .val (.int (64 : Int32)), .val (.ref st_Access_EXECUTE), .val (.int (1 : Int32)), .val (.int (64 : Int32)), .val (.int jx), .unset] [])) rfl (hb hby at_130) (by decide) (by decide)
        obtain ⟨b91, g91⟩ : ∃ z, z = h0.size := ⟨_, rfl⟩
        rw [← g91] at A91 D91 st91
        have ne_st_PermissionClass_OWNER_b91 : st_PermissionClass_OWNER ≠ b91 := Nat.ne_of_lt (Nat.lt_of_lt_of_le E_PermissionClass_OWNER.lt (Nat.le_of_eq g91.symm))
        have ne_st_Access_EXECUTE_b91 : st_Access_EXECUTE ≠ b91 := Nat.ne_of_lt (Nat.lt_of_lt_of_le E_Access_EXECUTE.lt (Nat.le_of_eq g91.symm))
        have g_b91 : n0 ≤ b91 := Nat.le_trans Z0 (Nat.le_of_eq g91.symm)
        have sz_b91 : h0.size ≤ b91 := Nat.le_trans K0.1 (Nat.le_of_eq g91.symm)
        have f92 := E_PermissionClass_OWNER.ext E91
        have f93 := E_Access_EXECUTE.ext E91
        have f94 := F_Access_EXECUTE_bit.ext E91
        have f95 := F_PermissionClass_OWNER_shift.ext E91
        have Z96 : n0 ≤ h91.size := Nat.le_trans Z0 E91.1
        have K97 := K0.ext E91
        have f98 : Fld Z h91 b91 "com/example/lats/lats/permission/Mode" "bits" "I" (.int (0 : Int32)) := D91 (Or.inr (hw _ (List.mem_of_getElem? (i := 17) rfl))) (ty := .int) (by decide)
        obtain ⟨_, _, ⟨T99, L99, k99, n99⟩, -, X99, ⟨Lc99, hQ99, l99, y99, z99⟩, st99⟩ := X91.specialBack hx (y := (⟨"com/example/lats/lats/permission/Mode", "<init>", "(I)V"⟩ : MethodName)) rfl hown (mvT hZ (hw _ (List.mem_of_getElem? (i := 10) rfl))) (mvT hZ (hw _ (List.mem_of_getElem? (i := 11) rfl))) (mvT hZ (hw _ (List.mem_of_getElem? (i := 12) rfl))) (by decide) (backOf (W := 1) (rm1 l Z a0 hw [] b91 (p0 &&& (1023 : Int32))  h91 n0 Z96 f98 A91 g_b91 (own_bits p0).1 (own_bits p0).2) hZ (hw _ (List.mem_of_getElem? (i := 12) rfl)) (hw _ (List.mem_of_getElem? (i := 9) rfl)) (by decide) (by decide)) (g := (mkF m 135 #[.val (.int p0), .val (.int p1), .val (.int p2), .val (.int (p0 &&& (1023 : Int32))), .val (.int ((p1 &&& (2147483647 : Int32)) % (3 : Int32))), .val (.int ((p2 &&& (2147483647 : Int32)) % (3 : Int32))), .val (.ref st_PermissionClass_OWNER), .val (.int (64 : Int32)), .val (.ref st_Access_EXECUTE), .val (.int (1 : Int32)), .val (.int (64 : Int32)), .val (.int jx), .unset] [(.int (p0 &&& (1023 : Int32))), (.ref b91), (.ref b91)])) rfl (by rw [hml]; rfl) (Steps.refl _) (a := b91) (argsL := [(.int (p0 &&& (1023 : Int32)))]) (rest := [(.ref b91)]) (lenOf own_pd_1 rfl) rfl (by show 2 * 0 + _ ≤ _; exact Nat.le_of_eq rfl) (hb hby at_135) (fun _ _ => ⟨rfl, e91, (by decide : 1 + 0 ≤ _), (by decide : 1 + 0 ≤ _)⟩)
        dsimp only [Pt.U, Pt.locs, Pt.cells, Pt.slots] at X99 l99 y99 z99 st99 hQ99
        subst l99 y99 z99
        obtain ⟨rfl, Nq99, Kq99, Eq99, Fq99⟩ := hQ99
        have N99 := Fr.app N0 Nq99
        have f100 := f92.keep Kq99
        have f101 := f93.keep Kq99
        have f102 := f94.keep Kq99 (ninS ne_st_Access_EXECUTE_b91 nin0)
        have f103 := f95.keep Kq99 (ninS ne_st_PermissionClass_OWNER_b91 nin0)
        have f104 := A91.keep Kq99
        have Z105 : n0 ≤ T99.heap.size := Nat.le_trans Z96 Kq99.1
        have K106 := K97.trans Kq99 (allS (Or.inr sz_b91) all0)
        obtain ⟨cq107, kq107, q107a, q107b, q107c⟩ := isOf hZ rfl f104
        obtain ⟨_, _, ⟨T107, L107, k107, n107⟩, -, X107, ⟨Lc107, hQ107, l107, y107, z107⟩, st107⟩ := X99.virtualBack hx (y := (⟨"com/example/lats/lats/permission/Mode", "grants", "(Lcom/example/lats/lats/permission/PermissionClass;Lcom/example/lats/lats/permission/Access;)Z"⟩ : MethodName)) (z := (⟨"com/example/lats/lats/permission/Mode", "grants", "(Lcom/example/lats/lats/permission/PermissionClass;Lcom/example/lats/lats/permission/Access;)Z"⟩ : MethodName)) hown (mvT hZ (hw _ (List.mem_of_getElem? (i := 18) rfl))) (mvT hZ (hw _ (List.mem_of_getElem? (i := 19) rfl))) (notFace_of_selects (args := #[]) (mvT hZ (hw _ (List.mem_of_getElem? (i := 21) rfl)))) (mvT hZ (hw _ (List.mem_of_getElem? (i := 21) rfl))) (mvT hZ (hw _ (List.mem_of_getElem? (i := 20) rfl))) (by decide) (backOf (W := 0) (rmG l Z a0 hw [] b91 st_PermissionClass_OWNER st_Access_EXECUTE (p0 &&& (1023 : Int32)) (6 : Int32) (1 : Int32) T99.heap n0 Z105 Fq99 f103 f102 f100 f101) hZ (hw _ (List.mem_of_getElem? (i := 22) rfl)) (hw _ (List.mem_of_getElem? (i := 9) rfl)) (by decide) (by decide)) q107a q107c (g := (mkF m 146 #[.val (.int p0), .val (.int p1), .val (.int p2), .val (.int (p0 &&& (1023 : Int32))), .val (.int ((p1 &&& (2147483647 : Int32)) % (3 : Int32))), .val (.int ((p2 &&& (2147483647 : Int32)) % (3 : Int32))), .val (.ref st_PermissionClass_OWNER), .val (.int (64 : Int32)), .val (.ref st_Access_EXECUTE), .val (.int (1 : Int32)), .val (.int (64 : Int32)), .val (.int jx), .val (.ref b91)] [(.ref st_Access_EXECUTE), (.ref st_PermissionClass_OWNER), (.ref b91)])) rfl (by rw [hml]; rfl) (Steps.refl _) (argsL := [(.ref st_PermissionClass_OWNER), (.ref st_Access_EXECUTE)]) (rest := []) (lenOf own_pd_2 rfl) rfl (by show 2 * 0 + _ ≤ _; exact Nat.le_of_eq rfl) (hb hby at_146) (fun _ _ => ⟨rfl, rfl, (by decide : 1 + 0 ≤ _), (by decide : 1 + 0 ≤ _)⟩)
        dsimp only [Pt.U, Pt.locs, Pt.cells, Pt.slots] at X107 l107 y107 z107 st107 hQ107
        subst l107 y107 z107
        obtain ⟨rfl, Nq107, eq107⟩ := hQ107
        have N107 := Fr.app N99 Nq107
        have k108 : ∀ t, Steps p.tables e below (T107.setTop (mkF m 151 #[.val (.int p0), .val (.int p1), .val (.int p2), .val (.int (p0 &&& (1023 : Int32))), .val (.int ((p1 &&& (2147483647 : Int32)) % (3 : Int32))), .val (.int ((p2 &&& (2147483647 : Int32)) % (3 : Int32))), .val (.ref st_PermissionClass_OWNER), .val (.int (64 : Int32)), .val (.ref st_Access_EXECUTE), .val (.int (1 : Int32)), .val (.int (64 : Int32)), .val (.int jx), .val (.ref b91)] [(.int jx), (.int (own_gr (p0 &&& (1023 : Int32)) (1 : Int32) (6 : Int32)))])) t → Steps p.tables e below (s₁.setTop (mkF m 0 #[.val (.int p0), .val (.int p1), .val (.int p2), .unset, .unset, .unset, .unset, .unset, .unset, .unset, .unset, .unset, .unset] [])) t := by
          intro t h
          refine k86 t ?_
          show Steps p.tables e below (T84.setTop (mkF m 128 #[.val (.int p0), .val (.int p1), .val (.int p2), .val (.int (p0 &&& (1023 : Int32))), .val (.int ((p1 &&& (2147483647 : Int32)) % (3 : Int32))), .val (.int ((p2 &&& (2147483647 : Int32)) % (3 : Int32))), .val (.ref st_PermissionClass_OWNER), .val (.int (64 : Int32)), .val (.ref st_Access_EXECUTE), .val (.int (1 : Int32)), .val (.int (64 : Int32)), .unset, .unset] [(.int jx)])) _
          refine XS.istore X84.here hx rfl (hb hby at_128) rfl (l' := #[.val (.int p0), .val (.int p1), .val (.int p2), .val (.int (p0 &&& (1023 : Int32))), .val (.int ((p1 &&& (2147483647 : Int32)) % (3 : Int32))), .val (.int ((p2 &&& (2147483647 : Int32)) % (3 : Int32))), .val (.ref st_PermissionClass_OWNER), .val (.int (64 : Int32)), .val (.ref st_Access_EXECUTE), .val (.int (1 : Int32)), .val (.int (64 : Int32)), .val (.int jx), .unset]) rfl ?_
          show Steps p.tables e below (T84.setTop (mkF m 130 #[.val (.int p0), .val (.int p1), .val (.int p2), .val (.int (p0 &&& (1023 : Int32))), .val (.int ((p1 &&& (2147483647 : Int32)) % (3 : Int32))), .val (.int ((p2 &&& (2147483647 : Int32)) % (3 : Int32))), .val (.ref st_PermissionClass_OWNER), .val (.int (64 : Int32)), .val (.ref st_Access_EXECUTE), .val (.int (1 : Int32)), .val (.int (64 : Int32)), .val (.int jx), .unset] [])) _
          refine st91 _ ?_
          show Steps p.tables e below (T91.setTop (mkF m 133 #[.val (.int p0), .val (.int p1), .val (.int p2), .val (.int (p0 &&& (1023 : Int32))), .val (.int ((p1 &&& (2147483647 : Int32)) % (3 : Int32))), .val (.int ((p2 &&& (2147483647 : Int32)) % (3 : Int32))), .val (.ref st_PermissionClass_OWNER), .val (.int (64 : Int32)), .val (.ref st_Access_EXECUTE), .val (.int (1 : Int32)), .val (.int (64 : Int32)), .val (.int jx), .unset] [(.ref b91)])) _
          refine XS.dup X91.here hx rfl (hb hby at_133) rfl rfl ?_
          show Steps p.tables e below (T91.setTop (mkF m 134 #[.val (.int p0), .val (.int p1), .val (.int p2), .val (.int (p0 &&& (1023 : Int32))), .val (.int ((p1 &&& (2147483647 : Int32)) % (3 : Int32))), .val (.int ((p2 &&& (2147483647 : Int32)) % (3 : Int32))), .val (.ref st_PermissionClass_OWNER), .val (.int (64 : Int32)), .val (.ref st_Access_EXECUTE), .val (.int (1 : Int32)), .val (.int (64 : Int32)), .val (.int jx), .unset] [(.ref b91), (.ref b91)])) _
          refine XS.iloadN X91.here hx rfl (hb hby at_134) rfl ?_
          show Steps p.tables e below (T91.setTop (mkF m 135 #[.val (.int p0), .val (.int p1), .val (.int p2), .val (.int (p0 &&& (1023 : Int32))), .val (.int ((p1 &&& (2147483647 : Int32)) % (3 : Int32))), .val (.int ((p2 &&& (2147483647 : Int32)) % (3 : Int32))), .val (.ref st_PermissionClass_OWNER), .val (.int (64 : Int32)), .val (.ref st_Access_EXECUTE), .val (.int (1 : Int32)), .val (.int (64 : Int32)), .val (.int jx), .unset] [(.int (p0 &&& (1023 : Int32))), (.ref b91), (.ref b91)])) _
          refine st99.trans ?_
          show Steps p.tables e below (T99.setTop (mkF m 138 #[.val (.int p0), .val (.int p1), .val (.int p2), .val (.int (p0 &&& (1023 : Int32))), .val (.int ((p1 &&& (2147483647 : Int32)) % (3 : Int32))), .val (.int ((p2 &&& (2147483647 : Int32)) % (3 : Int32))), .val (.ref st_PermissionClass_OWNER), .val (.int (64 : Int32)), .val (.ref st_Access_EXECUTE), .val (.int (1 : Int32)), .val (.int (64 : Int32)), .val (.int jx), .unset] [(.ref b91)])) _
          refine XS.astore X99.here hx rfl (hb hby at_138) rfl rfl (l' := #[.val (.int p0), .val (.int p1), .val (.int p2), .val (.int (p0 &&& (1023 : Int32))), .val (.int ((p1 &&& (2147483647 : Int32)) % (3 : Int32))), .val (.int ((p2 &&& (2147483647 : Int32)) % (3 : Int32))), .val (.ref st_PermissionClass_OWNER), .val (.int (64 : Int32)), .val (.ref st_Access_EXECUTE), .val (.int (1 : Int32)), .val (.int (64 : Int32)), .val (.int jx), .val (.ref b91)]) rfl ?_
          show Steps p.tables e below (T99.setTop (mkF m 140 #[.val (.int p0), .val (.int p1), .val (.int p2), .val (.int (p0 &&& (1023 : Int32))), .val (.int ((p1 &&& (2147483647 : Int32)) % (3 : Int32))), .val (.int ((p2 &&& (2147483647 : Int32)) % (3 : Int32))), .val (.ref st_PermissionClass_OWNER), .val (.int (64 : Int32)), .val (.ref st_Access_EXECUTE), .val (.int (1 : Int32)), .val (.int (64 : Int32)), .val (.int jx), .val (.ref b91)] [])) _
          refine XS.aload X99.here hx rfl (hb hby at_140) rfl rfl ?_
          show Steps p.tables e below (T99.setTop (mkF m 142 #[.val (.int p0), .val (.int p1), .val (.int p2), .val (.int (p0 &&& (1023 : Int32))), .val (.int ((p1 &&& (2147483647 : Int32)) % (3 : Int32))), .val (.int ((p2 &&& (2147483647 : Int32)) % (3 : Int32))), .val (.ref st_PermissionClass_OWNER), .val (.int (64 : Int32)), .val (.ref st_Access_EXECUTE), .val (.int (1 : Int32)), .val (.int (64 : Int32)), .val (.int jx), .val (.ref b91)] [(.ref b91)])) _
          refine XS.aload X99.here hx rfl (hb hby at_142) rfl rfl ?_
          show Steps p.tables e below (T99.setTop (mkF m 144 #[.val (.int p0), .val (.int p1), .val (.int p2), .val (.int (p0 &&& (1023 : Int32))), .val (.int ((p1 &&& (2147483647 : Int32)) % (3 : Int32))), .val (.int ((p2 &&& (2147483647 : Int32)) % (3 : Int32))), .val (.ref st_PermissionClass_OWNER), .val (.int (64 : Int32)), .val (.ref st_Access_EXECUTE), .val (.int (1 : Int32)), .val (.int (64 : Int32)), .val (.int jx), .val (.ref b91)] [(.ref st_PermissionClass_OWNER), (.ref b91)])) _
          refine XS.aload X99.here hx rfl (hb hby at_144) rfl rfl ?_
          show Steps p.tables e below (T99.setTop (mkF m 146 #[.val (.int p0), .val (.int p1), .val (.int p2), .val (.int (p0 &&& (1023 : Int32))), .val (.int ((p1 &&& (2147483647 : Int32)) % (3 : Int32))), .val (.int ((p2 &&& (2147483647 : Int32)) % (3 : Int32))), .val (.ref st_PermissionClass_OWNER), .val (.int (64 : Int32)), .val (.ref st_Access_EXECUTE), .val (.int (1 : Int32)), .val (.int (64 : Int32)), .val (.int jx), .val (.ref b91)] [(.ref st_Access_EXECUTE), (.ref st_PermissionClass_OWNER), (.ref b91)])) _
          refine st107.trans ?_
          show Steps p.tables e below (T107.setTop (mkF m 149 #[.val (.int p0), .val (.int p1), .val (.int p2), .val (.int (p0 &&& (1023 : Int32))), .val (.int ((p1 &&& (2147483647 : Int32)) % (3 : Int32))), .val (.int ((p2 &&& (2147483647 : Int32)) % (3 : Int32))), .val (.ref st_PermissionClass_OWNER), .val (.int (64 : Int32)), .val (.ref st_Access_EXECUTE), .val (.int (1 : Int32)), .val (.int (64 : Int32)), .val (.int jx), .val (.ref b91)] [(.int (own_gr (p0 &&& (1023 : Int32)) (1 : Int32) (6 : Int32)))])) _
          refine XS.iload X107.here hx rfl (hb hby at_149) rfl ?_
          exact h
        have b151_109 : (own_gr (p0 &&& (1023 : Int32)) (1 : Int32) (6 : Int32)) = jx := by rw [hk86]; exact own_t64_1 p0
        have k110 : ∀ t, Steps p.tables e below (T107.setTop (mkF m 159 #[.val (.int p0), .val (.int p1), .val (.int p2), .val (.int (p0 &&& (1023 : Int32))), .val (.int ((p1 &&& (2147483647 : Int32)) % (3 : Int32))), .val (.int ((p2 &&& (2147483647 : Int32)) % (3 : Int32))), .val (.ref st_PermissionClass_OWNER), .val (.int (64 : Int32)), .val (.ref st_Access_EXECUTE), .val (.int (1 : Int32)), .val (.int (64 : Int32)), .val (.int jx), .val (.ref b91)] [(.int (1 : Int32))])) t → Steps p.tables e below (s₁.setTop (mkF m 0 #[.val (.int p0), .val (.int p1), .val (.int p2), .unset, .unset, .unset, .unset, .unset, .unset, .unset, .unset, .unset, .unset] [])) t := by
          intro t h
          refine k108 t ?_
          show Steps p.tables e below (T107.setTop (mkF m 151 #[.val (.int p0), .val (.int p1), .val (.int p2), .val (.int (p0 &&& (1023 : Int32))), .val (.int ((p1 &&& (2147483647 : Int32)) % (3 : Int32))), .val (.int ((p2 &&& (2147483647 : Int32)) % (3 : Int32))), .val (.ref st_PermissionClass_OWNER), .val (.int (64 : Int32)), .val (.ref st_Access_EXECUTE), .val (.int (1 : Int32)), .val (.int (64 : Int32)), .val (.int jx), .val (.ref b91)] [(.int jx), (.int (own_gr (p0 &&& (1023 : Int32)) (1 : Int32) (6 : Int32)))])) _
          refine XS.icmpNo X107.here hx rfl (hb hby at_151) rfl (teq b151_109).2 ?_
          show Steps p.tables e below (T107.setTop (mkF m 154 #[.val (.int p0), .val (.int p1), .val (.int p2), .val (.int (p0 &&& (1023 : Int32))), .val (.int ((p1 &&& (2147483647 : Int32)) % (3 : Int32))), .val (.int ((p2 &&& (2147483647 : Int32)) % (3 : Int32))), .val (.ref st_PermissionClass_OWNER), .val (.int (64 : Int32)), .val (.ref st_Access_EXECUTE), .val (.int (1 : Int32)), .val (.int (64 : Int32)), .val (.int jx), .val (.ref b91)] [])) _
          refine XS.iconst X107.here hx rfl (hb hby at_154) ?_
          show Steps p.tables e below (T107.setTop (mkF m 155 #[.val (.int p0), .val (.int p1), .val (.int p2), .val (.int (p0 &&& (1023 : Int32))), .val (.int ((p1 &&& (2147483647 : Int32)) % (3 : Int32))), .val (.int ((p2 &&& (2147483647 : Int32)) % (3 : Int32))), .val (.ref st_PermissionClass_OWNER), .val (.int (64 : Int32)), .val (.ref st_Access_EXECUTE), .val (.int (1 : Int32)), .val (.int (64 : Int32)), .val (.int jx), .val (.ref b91)] [(.int (1 : Int32))])) _
          refine XS.goto X107.here hx rfl (pc0 := 155) (pc' := 159) rfl (hb hby at_155) (by decide) (by decide) ?_
          exact h
        obtain ⟨fs, hr, hrun, hended, hW, hsame⟩ := X107.leave (v := some (.int (1 : Int32))) (fun h => by rw [Bd.returns] at h; cases h) Bd.notSynchronized
        refine ⟨_, _, pre0 _ (k110 _ ?_), hrun, hended, _, _, rfl, ?_, ⟨_, rfl⟩, hW, hsame.mono (by decide) (by decide)⟩
        · exact retN X107 hx (t := .boolean) Bd.returns (by simp) (hb hby at_159) hr
        · show Q_rm0 Z _ _ _ _ _ _ _ _ _ h0 n0 _ T107.heap _
          rw [eq107]
          exact ⟨rfl, N107⟩
  · skip
    have k111 : ∀ t, Steps p.tables e below (s₁.setTop (mkF m 42 #[.val (.int p0), .val (.int p1), .val (.int p2), .val (.int (p0 &&& (1023 : Int32))), .val (.int ((p1 &&& (2147483647 : Int32)) % (3 : Int32))), .val (.int ((p2 &&& (2147483647 : Int32)) % (3 : Int32))), .unset, .unset, .unset, .unset, .unset, .unset, .unset] [(.int (1 : Int32)), (.int ((p1 &&& (2147483647 : Int32)) % (3 : Int32)))])) t → Steps p.tables e below (s₁.setTop (mkF m 0 #[.val (.int p0), .val (.int p1), .val (.int p2), .unset, .unset, .unset, .unset, .unset, .unset, .unset, .unset, .unset, .unset] [])) t := by
      intro t h
      refine k23 t ?_
      show Steps p.tables e below (s₁.setTop (mkF m 24 #[.val (.int p0), .val (.int p1), .val (.int p2), .val (.int (p0 &&& (1023 : Int32))), .val (.int ((p1 &&& (2147483647 : Int32)) % (3 : Int32))), .val (.int ((p2 &&& (2147483647 : Int32)) % (3 : Int32))), .unset, .unset, .unset, .unset, .unset, .unset, .unset] [(.int ((p1 &&& (2147483647 : Int32)) % (3 : Int32)))])) _
      refine XS.ifYes X0.here hx rfl (pc0 := 24) (pc' := 39) rfl (hb hby at_24) rfl ((if0 _ _).trans (feq c24_24).2) (by decide) (by decide) ?_
      show Steps p.tables e below (s₁.setTop (mkF m 39 #[.val (.int p0), .val (.int p1), .val (.int p2), .val (.int (p0 &&& (1023 : Int32))), .val (.int ((p1 &&& (2147483647 : Int32)) % (3 : Int32))), .val (.int ((p2 &&& (2147483647 : Int32)) % (3 : Int32))), .unset, .unset, .unset, .unset, .unset, .unset, .unset] [])) _
      refine XS.iload X0.here hx rfl (hb hby at_39) rfl ?_
      show Steps p.tables e below (s₁.setTop (mkF m 41 #[.val (.int p0), .val (.int p1), .val (.int p2), .val (.int (p0 &&& (1023 : Int32))), .val (.int ((p1 &&& (2147483647 : Int32)) % (3 : Int32))), .val (.int ((p2 &&& (2147483647 : Int32)) % (3 : Int32))), .unset, .unset, .unset, .unset, .unset, .unset, .unset] [(.int ((p1 &&& (2147483647 : Int32)) % (3 : Int32)))])) _
      refine XS.iconst X0.here hx rfl (hb hby at_41) ?_
      exact h
    by_cases c42_112 : ((p1 &&& (2147483647 : Int32)) % (3 : Int32)) = (1 : Int32)
    · skip
      obtain ⟨T113, X113, e113, st113⟩ := getS2 X0 hx hZ hown (host := "") (Or.inl (hw _ (List.mem_of_getElem? (i := 43) rfl))) Via.refl e0 S_PermissionClass_GROUP (g := (mkF m 45 #[.val (.int p0), .val (.int p1), .val (.int p2), .val (.int (p0 &&& (1023 : Int32))), .val (.int ((p1 &&& (2147483647 : Int32)) % (3 : Int32))), .val (.int ((p2 &&& (2147483647 : Int32)) % (3 : Int32))), .unset, .unset, .unset, .unset, .unset, .unset, .unset] [])) rfl (hb hby at_45)
      have k114 : ∀ t, Steps p.tables e below (T113.setTop (mkF m 67 #[.val (.int p0), .val (.int p1), .val (.int p2), .val (.int (p0 &&& (1023 : Int32))), .val (.int ((p1 &&& (2147483647 : Int32)) % (3 : Int32))), .val (.int ((p2 &&& (2147483647 : Int32)) % (3 : Int32))), .val (.ref st_PermissionClass_GROUP), .val (.int (8 : Int32)), .unset, .unset, .unset, .unset, .unset] [(.int ((p2 &&& (2147483647 : Int32)) % (3 : Int32)))])) t → Steps p.tables e below (s₁.setTop (mkF m 0 #[.val (.int p0), .val (.int p1), .val (.int p2), .unset, .unset, .unset, .unset, .unset, .unset, .unset, .unset, .unset, .unset] [])) t := by
        intro t h
        refine k111 t ?_
        show Steps p.tables e below (s₁.setTop (mkF m 42 #[.val (.int p0), .val (.int p1), .val (.int p2), .val (.int (p0 &&& (1023 : Int32))), .val (.int ((p1 &&& (2147483647 : Int32)) % (3 : Int32))), .val (.int ((p2 &&& (2147483647 : Int32)) % (3 : Int32))), .unset, .unset, .unset, .unset, .unset, .unset, .unset] [(.int (1 : Int32)), (.int ((p1 &&& (2147483647 : Int32)) % (3 : Int32)))])) _
        refine XS.icmpNo X0.here hx rfl (hb hby at_42) rfl (teq c42_112).2 ?_
        show Steps p.tables e below (s₁.setTop (mkF m 45 #[.val (.int p0), .val (.int p1), .val (.int p2), .val (.int (p0 &&& (1023 : Int32))), .val (.int ((p1 &&& (2147483647 : Int32)) % (3 : Int32))), .val (.int ((p2 &&& (2147483647 : Int32)) % (3 : Int32))), .unset, .unset, .unset, .unset, .unset, .unset, .unset] [])) _
        refine st113 _ ?_
        show Steps p.tables e below (T113.setTop (mkF m 48 #[.val (.int p0), .val (.int p1), .val (.int p2), .val (.int (p0 &&& (1023 : Int32))), .val (.int ((p1 &&& (2147483647 : Int32)) % (3 : Int32))), .val (.int ((p2 &&& (2147483647 : Int32)) % (3 : Int32))), .unset, .unset, .unset, .unset, .unset, .unset, .unset] [(.ref st_PermissionClass_GROUP)])) _
        refine XS.astore X113.here hx rfl (hb hby at_48) rfl rfl (l' := #[.val (.int p0), .val (.int p1), .val (.int p2), .val (.int (p0 &&& (1023 : Int32))), .val (.int ((p1 &&& (2147483647 : Int32)) % (3 : Int32))), .val (.int ((p2 &&& (2147483647 : Int32)) % (3 : Int32))), .val (.ref st_PermissionClass_GROUP), .unset, .unset, .unset, .unset, .unset, .unset]) rfl ?_
        show Steps p.tables e below (T113.setTop (mkF m 50 #[.val (.int p0), .val (.int p1), .val (.int p2), .val (.int (p0 &&& (1023 : Int32))), .val (.int ((p1 &&& (2147483647 : Int32)) % (3 : Int32))), .val (.int ((p2 &&& (2147483647 : Int32)) % (3 : Int32))), .val (.ref st_PermissionClass_GROUP), .unset, .unset, .unset, .unset, .unset, .unset] [])) _
        refine XS.bipush X113.here hx rfl (hb hby at_50) ?_
        show Steps p.tables e below (T113.setTop (mkF m 52 #[.val (.int p0), .val (.int p1), .val (.int p2), .val (.int (p0 &&& (1023 : Int32))), .val (.int ((p1 &&& (2147483647 : Int32)) % (3 : Int32))), .val (.int ((p2 &&& (2147483647 : Int32)) % (3 : Int32))), .val (.ref st_PermissionClass_GROUP), .unset, .unset, .unset, .unset, .unset, .unset] [(.int (8 : Int32))])) _
        refine XS.istore X113.here hx rfl (hb hby at_52) rfl (l' := #[.val (.int p0), .val (.int p1), .val (.int p2), .val (.int (p0 &&& (1023 : Int32))), .val (.int ((p1 &&& (2147483647 : Int32)) % (3 : Int32))), .val (.int ((p2 &&& (2147483647 : Int32)) % (3 : Int32))), .val (.ref st_PermissionClass_GROUP), .val (.int (8 : Int32)), .unset, .unset, .unset, .unset, .unset]) rfl ?_
        show Steps p.tables e below (T113.setTop (mkF m 54 #[.val (.int p0), .val (.int p1), .val (.int p2), .val (.int (p0 &&& (1023 : Int32))), .val (.int ((p1 &&& (2147483647 : Int32)) % (3 : Int32))), .val (.int ((p2 &&& (2147483647 : Int32)) % (3 : Int32))), .val (.ref st_PermissionClass_GROUP), .val (.int (8 : Int32)), .unset, .unset, .unset, .unset, .unset] [])) _
        refine XS.goto X113.here hx rfl (pc0 := 54) (pc' := 65) rfl (hb hby at_54) (by decide) (by decide) ?_
        show Steps p.tables e below (T113.setTop (mkF m 65 #[.val (.int p0), .val (.int p1), .val (.int p2), .val (.int (p0 &&& (1023 : Int32))), .val (.int ((p1 &&& (2147483647 : Int32)) % (3 : Int32))), .val (.int ((p2 &&& (2147483647 : Int32)) % (3 : Int32))), .val (.ref st_PermissionClass_GROUP), .val (.int (8 : Int32)), .unset, .unset, .unset, .unset, .unset] [])) _
        refine XS.iload X113.here hx rfl (hb hby at_65) rfl ?_
        exact h
      by_cases c67_115 : ((p2 &&& (2147483647 : Int32)) % (3 : Int32)) = (0 : Int32)
      · skip
        obtain ⟨T116, X116, e116, st116⟩ := getS2 X113 hx hZ hown (host := "") (Or.inl (hw _ (List.mem_of_getElem? (i := 37) rfl))) Via.refl e113 S_Access_READ (g := (mkF m 70 #[.val (.int p0), .val (.int p1), .val (.int p2), .val (.int (p0 &&& (1023 : Int32))), .val (.int ((p1 &&& (2147483647 : Int32)) % (3 : Int32))), .val (.int ((p2 &&& (2147483647 : Int32)) % (3 : Int32))), .val (.ref st_PermissionClass_GROUP), .val (.int (8 : Int32)), .unset, .unset, .unset, .unset, .unset] [])) rfl (hb hby at_70)
        have k117 : ∀ t, Steps p.tables e below (T116.setTop (mkF m 113 #[.val (.int p0), .val (.int p1), .val (.int p2), .val (.int (p0 &&& (1023 : Int32))), .val (.int ((p1 &&& (2147483647 : Int32)) % (3 : Int32))), .val (.int ((p2 &&& (2147483647 : Int32)) % (3 : Int32))), .val (.ref st_PermissionClass_GROUP), .val (.int (8 : Int32)), .val (.ref st_Access_READ), .val (.int (4 : Int32)), .val (.int (32 : Int32)), .unset, .unset] [])) t → Steps p.tables e below (s₁.setTop (mkF m 0 #[.val (.int p0), .val (.int p1), .val (.int p2), .unset, .unset, .unset, .unset, .unset, .unset, .unset, .unset, .unset, .unset] [])) t := by
          intro t h
          refine k114 t ?_
          show Steps p.tables e below (T113.setTop (mkF m 67 #[.val (.int p0), .val (.int p1), .val (.int p2), .val (.int (p0 &&& (1023 : Int32))), .val (.int ((p1 &&& (2147483647 : Int32)) % (3 : Int32))), .val (.int ((p2 &&& (2147483647 : Int32)) % (3 : Int32))), .val (.ref st_PermissionClass_GROUP), .val (.int (8 : Int32)), .unset, .unset, .unset, .unset, .unset] [(.int ((p2 &&& (2147483647 : Int32)) % (3 : Int32)))])) _
          refine XS.ifNo X113.here hx rfl (hb hby at_67) rfl ((if0 _ _).trans (teq c67_115).2) ?_
          show Steps p.tables e below (T113.setTop (mkF m 70 #[.val (.int p0), .val (.int p1), .val (.int p2), .val (.int (p0 &&& (1023 : Int32))), .val (.int ((p1 &&& (2147483647 : Int32)) % (3 : Int32))), .val (.int ((p2 &&& (2147483647 : Int32)) % (3 : Int32))), .val (.ref st_PermissionClass_GROUP), .val (.int (8 : Int32)), .unset, .unset, .unset, .unset, .unset] [])) _
          refine st116 _ ?_
          show Steps p.tables e below (T116.setTop (mkF m 73 #[.val (.int p0), .val (.int p1), .val (.int p2), .val (.int (p0 &&& (1023 : Int32))), .val (.int ((p1 &&& (2147483647 : Int32)) % (3 : Int32))), .val (.int ((p2 &&& (2147483647 : Int32)) % (3 : Int32))), .val (.ref st_PermissionClass_GROUP), .val (.int (8 : Int32)), .unset, .unset, .unset, .unset, .unset] [(.ref st_Access_READ)])) _
          refine XS.astore X116.here hx rfl (hb hby at_73) rfl rfl (l' := #[.val (.int p0), .val (.int p1), .val (.int p2), .val (.int (p0 &&& (1023 : Int32))), .val (.int ((p1 &&& (2147483647 : Int32)) % (3 : Int32))), .val (.int ((p2 &&& (2147483647 : Int32)) % (3 : Int32))), .val (.ref st_PermissionClass_GROUP), .val (.int (8 : Int32)), .val (.ref st_Access_READ), .unset, .unset, .unset, .unset]) rfl ?_
          show Steps p.tables e below (T116.setTop (mkF m 75 #[.val (.int p0), .val (.int p1), .val (.int p2), .val (.int (p0 &&& (1023 : Int32))), .val (.int ((p1 &&& (2147483647 : Int32)) % (3 : Int32))), .val (.int ((p2 &&& (2147483647 : Int32)) % (3 : Int32))), .val (.ref st_PermissionClass_GROUP), .val (.int (8 : Int32)), .val (.ref st_Access_READ), .unset, .unset, .unset, .unset] [])) _
          refine XS.iconst X116.here hx rfl (hb hby at_75) ?_
          show Steps p.tables e below (T116.setTop (mkF m 76 #[.val (.int p0), .val (.int p1), .val (.int p2), .val (.int (p0 &&& (1023 : Int32))), .val (.int ((p1 &&& (2147483647 : Int32)) % (3 : Int32))), .val (.int ((p2 &&& (2147483647 : Int32)) % (3 : Int32))), .val (.ref st_PermissionClass_GROUP), .val (.int (8 : Int32)), .val (.ref st_Access_READ), .unset, .unset, .unset, .unset] [(.int (4 : Int32))])) _
          refine XS.istore X116.here hx rfl (hb hby at_76) rfl (l' := #[.val (.int p0), .val (.int p1), .val (.int p2), .val (.int (p0 &&& (1023 : Int32))), .val (.int ((p1 &&& (2147483647 : Int32)) % (3 : Int32))), .val (.int ((p2 &&& (2147483647 : Int32)) % (3 : Int32))), .val (.ref st_PermissionClass_GROUP), .val (.int (8 : Int32)), .val (.ref st_Access_READ), .val (.int (4 : Int32)), .unset, .unset, .unset]) rfl ?_
          show Steps p.tables e below (T116.setTop (mkF m 78 #[.val (.int p0), .val (.int p1), .val (.int p2), .val (.int (p0 &&& (1023 : Int32))), .val (.int ((p1 &&& (2147483647 : Int32)) % (3 : Int32))), .val (.int ((p2 &&& (2147483647 : Int32)) % (3 : Int32))), .val (.ref st_PermissionClass_GROUP), .val (.int (8 : Int32)), .val (.ref st_Access_READ), .val (.int (4 : Int32)), .unset, .unset, .unset] [])) _
          refine XS.goto X116.here hx rfl (pc0 := 78) (pc' := 106) rfl (hb hby at_78) (by decide) (by decide) ?_
          show Steps p.tables e below (T116.setTop (mkF m 106 #[.val (.int p0), .val (.int p1), .val (.int p2), .val (.int (p0 &&& (1023 : Int32))), .val (.int ((p1 &&& (2147483647 : Int32)) % (3 : Int32))), .val (.int ((p2 &&& (2147483647 : Int32)) % (3 : Int32))), .val (.ref st_PermissionClass_GROUP), .val (.int (8 : Int32)), .val (.ref st_Access_READ), .val (.int (4 : Int32)), .unset, .unset, .unset] [])) _
          refine XS.iload X116.here hx rfl (hb hby at_106) rfl ?_
          show Steps p.tables e below (T116.setTop (mkF m 108 #[.val (.int p0), .val (.int p1), .val (.int p2), .val (.int (p0 &&& (1023 : Int32))), .val (.int ((p1 &&& (2147483647 : Int32)) % (3 : Int32))), .val (.int ((p2 &&& (2147483647 : Int32)) % (3 : Int32))), .val (.ref st_PermissionClass_GROUP), .val (.int (8 : Int32)), .val (.ref st_Access_READ), .val (.int (4 : Int32)), .unset, .unset, .unset] [(.int (8 : Int32))])) _
          refine XS.iload X116.here hx rfl (hb hby at_108) rfl ?_
          show Steps p.tables e below (T116.setTop (mkF m 110 #[.val (.int p0), .val (.int p1), .val (.int p2), .val (.int (p0 &&& (1023 : Int32))), .val (.int ((p1 &&& (2147483647 : Int32)) % (3 : Int32))), .val (.int ((p2 &&& (2147483647 : Int32)) % (3 : Int32))), .val (.ref st_PermissionClass_GROUP), .val (.int (8 : Int32)), .val (.ref st_Access_READ), .val (.int (4 : Int32)), .unset, .unset, .unset] [(.int (4 : Int32)), (.int (8 : Int32))])) _
          refine XS.imul X116.here hx rfl (hb hby at_110) rfl ?_
          show Steps p.tables e below (T116.setTop (mkF m 111 #[.val (.int p0), .val (.int p1), .val (.int p2), .val (.int (p0 &&& (1023 : Int32))), .val (.int ((p1 &&& (2147483647 : Int32)) % (3 : Int32))), .val (.int ((p2 &&& (2147483647 : Int32)) % (3 : Int32))), .val (.ref st_PermissionClass_GROUP), .val (.int (8 : Int32)), .val (.ref st_Access_READ), .val (.int (4 : Int32)), .unset, .unset, .unset] [(.int (32 : Int32))])) _
          refine XS.istore X116.here hx rfl (hb hby at_111) rfl (l' := #[.val (.int p0), .val (.int p1), .val (.int p2), .val (.int (p0 &&& (1023 : Int32))), .val (.int ((p1 &&& (2147483647 : Int32)) % (3 : Int32))), .val (.int ((p2 &&& (2147483647 : Int32)) % (3 : Int32))), .val (.ref st_PermissionClass_GROUP), .val (.int (8 : Int32)), .val (.ref st_Access_READ), .val (.int (4 : Int32)), .val (.int (32 : Int32)), .unset, .unset]) rfl ?_
          exact h
        obtain ⟨jx, hk118, k118⟩ : ∃ (jx : Int32), (jx = if (((p0 &&& (1023 : Int32)) / (32 : Int32)) % (2 : Int32)) = (1 : Int32) then 1 else 0) ∧ ∀ t, Steps p.tables e below (T116.setTop (mkF m 128 #[.val (.int p0), .val (.int p1), .val (.int p2), .val (.int (p0 &&& (1023 : Int32))), .val (.int ((p1 &&& (2147483647 : Int32)) % (3 : Int32))), .val (.int ((p2 &&& (2147483647 : Int32)) % (3 : Int32))), .val (.ref st_PermissionClass_GROUP), .val (.int (8 : Int32)), .val (.ref st_Access_READ), .val (.int (4 : Int32)), .val (.int (32 : Int32)), .unset, .unset] [(.int jx)])) t → Steps p.tables e below (s₁.setTop (mkF m 0 #[.val (.int p0), .val (.int p1), .val (.int p2), .unset, .unset, .unset, .unset, .unset, .unset, .unset, .unset, .unset, .unset] [])) t := by
          have k119 : ∀ t, Steps p.tables e below (T116.setTop (mkF m 120 #[.val (.int p0), .val (.int p1), .val (.int p2), .val (.int (p0 &&& (1023 : Int32))), .val (.int ((p1 &&& (2147483647 : Int32)) % (3 : Int32))), .val (.int ((p2 &&& (2147483647 : Int32)) % (3 : Int32))), .val (.ref st_PermissionClass_GROUP), .val (.int (8 : Int32)), .val (.ref st_Access_READ), .val (.int (4 : Int32)), .val (.int (32 : Int32)), .unset, .unset] [(.int (1 : Int32)), (.int (((p0 &&& (1023 : Int32)) / (32 : Int32)) % (2 : Int32)))])) t → Steps p.tables e below (s₁.setTop (mkF m 0 #[.val (.int p0), .val (.int p1), .val (.int p2), .unset, .unset, .unset, .unset, .unset, .unset, .unset, .unset, .unset, .unset] [])) t := by
            intro t h
            refine k117 t ?_
            show Steps p.tables e below (T116.setTop (mkF m 113 #[.val (.int p0), .val (.int p1), .val (.int p2), .val (.int (p0 &&& (1023 : Int32))), .val (.int ((p1 &&& (2147483647 : Int32)) % (3 : Int32))), .val (.int ((p2 &&& (2147483647 : Int32)) % (3 : Int32))), .val (.ref st_PermissionClass_GROUP), .val (.int (8 : Int32)), .val (.ref st_Access_READ), .val (.int (4 : Int32)), .val (.int (32 : Int32)), .unset, .unset] [])) _
            refine XS.iloadN X116.here hx rfl (hb hby at_113) rfl ?_
            show Steps p.tables e below (T116.setTop (mkF m 114 #[.val (.int p0), .val (.int p1), .val (.int p2), .val (.int (p0 &&& (1023 : Int32))), .val (.int ((p1 &&& (2147483647 : Int32)) % (3 : Int32))), .val (.int ((p2 &&& (2147483647 : Int32)) % (3 : Int32))), .val (.ref st_PermissionClass_GROUP), .val (.int (8 : Int32)), .val (.ref st_Access_READ), .val (.int (4 : Int32)), .val (.int (32 : Int32)), .unset, .unset] [(.int (p0 &&& (1023 : Int32)))])) _
            refine XS.iload X116.here hx rfl (hb hby at_114) rfl ?_
            show Steps p.tables e below (T116.setTop (mkF m 116 #[.val (.int p0), .val (.int p1), .val (.int p2), .val (.int (p0 &&& (1023 : Int32))), .val (.int ((p1 &&& (2147483647 : Int32)) % (3 : Int32))), .val (.int ((p2 &&& (2147483647 : Int32)) % (3 : Int32))), .val (.ref st_PermissionClass_GROUP), .val (.int (8 : Int32)), .val (.ref st_Access_READ), .val (.int (4 : Int32)), .val (.int (32 : Int32)), .unset, .unset] [(.int (32 : Int32)), (.int (p0 &&& (1023 : Int32)))])) _
            refine XS.idiv X116.here hx rfl (hb hby at_116) rfl (by decide) ?_
            show Steps p.tables e below (T116.setTop (mkF m 117 #[.val (.int p0), .val (.int p1), .val (.int p2), .val (.int (p0 &&& (1023 : Int32))), .val (.int ((p1 &&& (2147483647 : Int32)) % (3 : Int32))), .val (.int ((p2 &&& (2147483647 : Int32)) % (3 : Int32))), .val (.ref st_PermissionClass_GROUP), .val (.int (8 : Int32)), .val (.ref st_Access_READ), .val (.int (4 : Int32)), .val (.int (32 : Int32)), .unset, .unset] [(.int ((p0 &&& (1023 : Int32)) / (32 : Int32)))])) _
            refine XS.iconst X116.here hx rfl (hb hby at_117) ?_
            show Steps p.tables e below (T116.setTop (mkF m 118 #[.val (.int p0), .val (.int p1), .val (.int p2), .val (.int (p0 &&& (1023 : Int32))), .val (.int ((p1 &&& (2147483647 : Int32)) % (3 : Int32))), .val (.int ((p2 &&& (2147483647 : Int32)) % (3 : Int32))), .val (.ref st_PermissionClass_GROUP), .val (.int (8 : Int32)), .val (.ref st_Access_READ), .val (.int (4 : Int32)), .val (.int (32 : Int32)), .unset, .unset] [(.int (2 : Int32)), (.int ((p0 &&& (1023 : Int32)) / (32 : Int32)))])) _
            refine iremM (g := (mkF m 118 #[.val (.int p0), .val (.int p1), .val (.int p2), .val (.int (p0 &&& (1023 : Int32))), .val (.int ((p1 &&& (2147483647 : Int32)) % (3 : Int32))), .val (.int ((p2 &&& (2147483647 : Int32)) % (3 : Int32))), .val (.ref st_PermissionClass_GROUP), .val (.int (8 : Int32)), .val (.ref st_Access_READ), .val (.int (4 : Int32)), .val (.int (32 : Int32)), .unset, .unset] [(.int (2 : Int32)), (.int ((p0 &&& (1023 : Int32)) / (32 : Int32)))])) X116 hx rfl (hb hby at_118) rfl (by decide) ?_
            show Steps p.tables e below (T116.setTop (mkF m 119 #[.val (.int p0), .val (.int p1), .val (.int p2), .val (.int (p0 &&& (1023 : Int32))), .val (.int ((p1 &&& (2147483647 : Int32)) % (3 : Int32))), .val (.int ((p2 &&& (2147483647 : Int32)) % (3 : Int32))), .val (.ref st_PermissionClass_GROUP), .val (.int (8 : Int32)), .val (.ref st_Access_READ), .val (.int (4 : Int32)), .val (.int (32 : Int32)), .unset, .unset] [(.int (((p0 &&& (1023 : Int32)) / (32 : Int32)) % (2 : Int32)))])) _
            refine XS.iconst X116.here hx rfl (hb hby at_119) ?_
            exact h
          by_cases c120_120 : (((p0 &&& (1023 : Int32)) / (32 : Int32)) % (2 : Int32)) = (1 : Int32)
          · skip
            have k121 : ∀ t, Steps p.tables e below (T116.setTop (mkF m 128 #[.val (.int p0), .val (.int p1), .val (.int p2), .val (.int (p0 &&& (1023 : Int32))), .val (.int ((p1 &&& (2147483647 : Int32)) % (3 : Int32))), .val (.int ((p2 &&& (2147483647 : Int32)) % (3 : Int32))), .val (.ref st_PermissionClass_GROUP), .val (.int (8 : Int32)), .val (.ref st_Access_READ), .val (.int (4 : Int32)), .val (.int (32 : Int32)), .unset, .unset] [(.int (1 : Int32))])) t → Steps p.tables e below (s₁.setTop (mkF m 0 #[.val (.int p0), .val (.int p1), .val (.int p2), .unset, .unset, .unset, .unset, .unset, .unset, .unset, .unset, .unset, .unset] [])) t := by
              intro t h
              refine k119 t ?_
              show Steps p.tables e below (T116.setTop (mkF m 120 #[.val (.int p0), .val (.int p1), .val (.int p2), .val (.int (p0 &&& (1023 : Int32))), .val (.int ((p1 &&& (2147483647 : Int32)) % (3 : Int32))), .val (.int ((p2 &&& (2147483647 : Int32)) % (3 : Int32))), .val (.ref st_PermissionClass_GROUP), .val (.int (8 : Int32)), .val (.ref st_Access_READ), .val (.int (4 : Int32)), .val (.int (32 : Int32)), .unset, .unset] [(.int (1 : Int32)), (.int (((p0 &&& (1023 : Int32)) / (32 : Int32)) % (2 : Int32)))])) _
              refine XS.icmpNo X116.here hx rfl (hb hby at_120) rfl (teq c120_120).2 ?_
              show Steps p.tables e below (T116.setTop (mkF m 123 #[.val (.int p0), .val (.int p1), .val (.int p2), .val (.int (p0 &&& (1023 : Int32))), .val (.int ((p1 &&& (2147483647 : Int32)) % (3 : Int32))), .val (.int ((p2 &&& (2147483647 : Int32)) % (3 : Int32))), .val (.ref st_PermissionClass_GROUP), .val (.int (8 : Int32)), .val (.ref st_Access_READ), .val (.int (4 : Int32)), .val (.int (32 : Int32)), .unset, .unset] [])) _
              refine XS.iconst X116.here hx rfl (hb hby at_123) ?_
              show Steps p.tables e below (T116.setTop (mkF m 124 #[.val (.int p0), .val (.int p1), .val (.int p2), .val (.int (p0 &&& (1023 : Int32))), .val (.int ((p1 &&& (2147483647 : Int32)) % (3 : Int32))), .val (.int ((p2 &&& (2147483647 : Int32)) % (3 : Int32))), .val (.ref st_PermissionClass_GROUP), .val (.int (8 : Int32)), .val (.ref st_Access_READ), .val (.int (4 : Int32)), .val (.int (32 : Int32)), .unset, .unset] [(.int (1 : Int32))])) _
              refine XS.goto X116.here hx rfl (pc0 := 124) (pc' := 128) rfl (hb hby at_124) (by decide) (by decide) ?_
              exact h
            exact ⟨(1 : Int32), by rw [if_pos c120_120], k121⟩
          · skip
            have k122 : ∀ t, Steps p.tables e below (T116.setTop (mkF m 128 #[.val (.int p0), .val (.int p1), .val (.int p2), .val (.int (p0 &&& (1023 : Int32))), .val (.int ((p1 &&& (2147483647 : Int32)) % (3 : Int32))), .val (.int ((p2 &&& (2147483647 : Int32)) % (3 : Int32))), .val (.ref st_PermissionClass_GROUP), .val (.int (8 : Int32)), .val (.ref st_Access_READ), .val (.int (4 : Int32)), .val (.int (32 : Int32)), .unset, .unset] [(.int (0 : Int32))])) t → Steps p.tables e below (s₁.setTop (mkF m 0 #[.val (.int p0), .val (.int p1), .val (.int p2), .unset, .unset, .unset, .unset, .unset, .unset, .unset, .unset, .unset, .unset] [])) t := by
              intro t h
              refine k119 t ?_
              show Steps p.tables e below (T116.setTop (mkF m 120 #[.val (.int p0), .val (.int p1), .val (.int p2), .val (.int (p0 &&& (1023 : Int32))), .val (.int ((p1 &&& (2147483647 : Int32)) % (3 : Int32))), .val (.int ((p2 &&& (2147483647 : Int32)) % (3 : Int32))), .val (.ref st_PermissionClass_GROUP), .val (.int (8 : Int32)), .val (.ref st_Access_READ), .val (.int (4 : Int32)), .val (.int (32 : Int32)), .unset, .unset] [(.int (1 : Int32)), (.int (((p0 &&& (1023 : Int32)) / (32 : Int32)) % (2 : Int32)))])) _
              refine XS.icmpYes X116.here hx rfl (pc0 := 120) (pc' := 127) rfl (hb hby at_120) rfl (feq c120_120).2 (by decide) (by decide) ?_
              show Steps p.tables e below (T116.setTop (mkF m 127 #[.val (.int p0), .val (.int p1), .val (.int p2), .val (.int (p0 &&& (1023 : Int32))), .val (.int ((p1 &&& (2147483647 : Int32)) % (3 : Int32))), .val (.int ((p2 &&& (2147483647 : Int32)) % (3 : Int32))), .val (.ref st_PermissionClass_GROUP), .val (.int (8 : Int32)), .val (.ref st_Access_READ), .val (.int (4 : Int32)), .val (.int (32 : Int32)), .unset, .unset] [])) _
              refine XS.iconst X116.here hx rfl (hb hby at_127) ?_
              exact h
            exact ⟨(0 : Int32), by rw [if_neg c120_120], k122⟩
        obtain ⟨T123, h123, X123, e123, E123, A123, D123, -, st123⟩ := newO X116 hx hZ hown (hw _ (List.mem_of_getElem? (i := 7) rfl)) (hw _ (List.mem_of_getElem? (i := 8) rfl)) (hw _ (List.mem_of_getElem? (i := 9) rfl)) e116 (g := (mkF m 130 #[.val (.int p0), .val (.int p1), .val (.int p2), .val (.int (p0 &&& (1023 : Int32))), .val (.int ((p1 &&& (2147483647 : Int32)) % (3 : Int32))), .val (.int ((p2 &&& (2147483647 : Int32)) % (3 : Int32))), .val (.ref st_PermissionClass_GROUP), .val (.int (8 : Int32)), .val (.ref st_Access_READ), .val (.int (4 : Int32)), .val (.int (32 : Int32)), .val (.int jx), .unset] [])) rfl (hb hby at_130) (by decide) (by decide)
        obtain ⟨b123, g123⟩ : ∃ z, z = h0.size := ⟨_, rfl⟩
        rw [← g123] at A123 D123 st123
        have ne_st_Access_READ_b123 : st_Access_READ ≠ b123 := Nat.ne_of_lt (Nat.lt_of_lt_of_le E_Access_READ.lt (Nat.le_of_eq g123.symm))
        have ne_st_PermissionClass_GROUP_b123 : st_PermissionClass_GROUP ≠ b123 := Nat.ne_of_lt (Nat.lt_of_lt_of_le E_PermissionClass_GROUP.lt (Nat.le_of_eq g123.symm))
        have g_b123 : n0 ≤ b123 := Nat.le_trans Z0 (Nat.le_of_eq g123.symm)
        have sz_b123 : h0.size ≤ b123 := Nat.le_trans K0.1 (Nat.le_of_eq g123.symm)
        have f124 := E_Access_READ.ext E123
        have f125 := E_PermissionClass_GROUP.ext E123
        have f126 := F_Access_READ_bit.ext E123
        have f127 := F_PermissionClass_GROUP_shift.ext E123
        have Z128 : n0 ≤ h123.size := Nat.le_trans Z0 E123.1
        have K129 := K0.ext E123
        have f130 : Fld Z h123 b123 "com/example/lats/lats/permission/Mode" "bits" "I" (.int (0 : Int32)) := D123 (Or.inr (hw _ (List.mem_of_getElem? (i := 17) rfl))) (ty := .int) (by decide)
        obtain ⟨_, _, ⟨T131, L131, k131, n131⟩, -, X131, ⟨Lc131, hQ131, l131, y131, z131⟩, st131⟩ := X123.specialBack hx (y := (⟨"com/example/lats/lats/permission/Mode", "<init>", "(I)V"⟩ : MethodName)) rfl hown (mvT hZ (hw _ (List.mem_of_getElem? (i := 10) rfl))) (mvT hZ (hw _ (List.mem_of_getElem? (i := 11) rfl))) (mvT hZ (hw _ (List.mem_of_getElem? (i := 12) rfl))) (by decide) (backOf (W := 1) (rm1 l Z a0 hw [] b123 (p0 &&& (1023 : Int32))  h123 n0 Z128 f130 A123 g_b123 (own_bits p0).1 (own_bits p0).2) hZ (hw _ (List.mem_of_getElem? (i := 12) rfl)) (hw _ (List.mem_of_getElem? (i := 9) rfl)) (by decide) (by decide)) (g := (mkF m 135 #[.val (.int p0), .val (.int p1), .val (.int p2), .val (.int (p0 &&& (1023 : Int32))), .val (.int ((p1 &&& (2147483647 : Int32)) % (3 : Int32))), .val (.int ((p2 &&& (2147483647 : Int32)) % (3 : Int32))), .val (.ref st_PermissionClass_GROUP), .val (.int (8 : Int32)), .val (.ref st_Access_READ), .val (.int (4 : Int32)), .val (.int (32 : Int32)), .val (.int jx), .unset] [(.int (p0 &&& (1023 : Int32))), (.ref b123), (.ref b123)])) rfl (by rw [hml]; rfl) (Steps.refl _) (a := b123) (argsL := [(.int (p0 &&& (1023 : Int32)))]) (rest := [(.ref b123)]) (lenOf own_pd_1 rfl) rfl (by show 2 * 0 + _ ≤ _; exact Nat.le_of_eq rfl) (hb hby at_135) (fun _ _ => ⟨rfl, e123, (by decide : 1 + 0 ≤ _), (by decide : 1 + 0 ≤ _)⟩)
        dsimp only [Pt.U, Pt.locs, Pt.cells, Pt.slots] at X131 l131 y131 z131 st131 hQ131
        subst l131 y131 z131
        obtain ⟨rfl, Nq131, Kq131, Eq131, Fq131⟩ := hQ131
        have N131 := Fr.app N0 Nq131
        have f132 := f124.keep Kq131
        have f133 := f125.keep Kq131
        have f134 := f126.keep Kq131 (ninS ne_st_Access_READ_b123 nin0)
        have f135 := f127.keep Kq131 (ninS ne_st_PermissionClass_GROUP_b123 nin0)
        have f136 := A123.keep Kq131
        have Z137 : n0 ≤ T131.heap.size := Nat.le_trans Z128 Kq131.1
        have K138 := K129.trans Kq131 (allS (Or.inr sz_b123) all0)
        obtain ⟨cq139, kq139, q139a, q139b, q139c⟩ := isOf hZ rfl f136
        obtain ⟨_, _, ⟨T139, L139, k139, n139⟩, -, X139, ⟨Lc139, hQ139, l139, y139, z139⟩, st139⟩ := X131.virtualBack hx (y := (⟨"com/example/lats/lats/permission/Mode", "grants", "(Lcom/example/lats/lats/permission/PermissionClass;Lcom/example/lats/lats/permission/Access;)Z"⟩ : MethodName)) (z := (⟨"com/example/lats/lats/permission/Mode", "grants", "(Lcom/example/lats/lats/permission/PermissionClass;Lcom/example/lats/lats/permission/Access;)Z"⟩ : MethodName)) hown (mvT hZ (hw _ (List.mem_of_getElem? (i := 18) rfl))) (mvT hZ (hw _ (List.mem_of_getElem? (i := 19) rfl))) (notFace_of_selects (args := #[]) (mvT hZ (hw _ (List.mem_of_getElem? (i := 21) rfl)))) (mvT hZ (hw _ (List.mem_of_getElem? (i := 21) rfl))) (mvT hZ (hw _ (List.mem_of_getElem? (i := 20) rfl))) (by decide) (backOf (W := 0) (rmG l Z a0 hw [] b123 st_PermissionClass_GROUP st_Access_READ (p0 &&& (1023 : Int32)) (3 : Int32) (4 : Int32) T131.heap n0 Z137 Fq131 f135 f134 f133 f132) hZ (hw _ (List.mem_of_getElem? (i := 22) rfl)) (hw _ (List.mem_of_getElem? (i := 9) rfl)) (by decide) (by decide)) q139a q139c (g := (mkF m 146 #[.val (.int p0), .val (.int p1), .val (.int p2), .val (.int (p0 &&& (1023 : Int32))), .val (.int ((p1 &&& (2147483647 : Int32)) % (3 : Int32))), .val (.int ((p2 &&& (2147483647 : Int32)) % (3 : Int32))), .val (.ref st_PermissionClass_GROUP), .val (.int (8 : Int32)), .val (.ref st_Access_READ), .val (.int (4 : Int32)), .val (.int (32 : Int32)), .val (.int jx), .val (.ref b123)] [(.ref st_Access_READ), (.ref st_PermissionClass_GROUP), (.ref b123)])) rfl (by rw [hml]; rfl) (Steps.refl _) (argsL := [(.ref st_PermissionClass_GROUP), (.ref st_Access_READ)]) (rest := []) (lenOf own_pd_2 rfl) rfl (by show 2 * 0 + _ ≤ _; exact Nat.le_of_eq rfl) (hb hby at_146) (fun _ _ => ⟨rfl, rfl, (by decide : 1 + 0 ≤ _), (by decide : 1 + 0 ≤ _)⟩)
        dsimp only [Pt.U, Pt.locs, Pt.cells, Pt.slots] at X139 l139 y139 z139 st139 hQ139
        subst l139 y139 z139
        obtain ⟨rfl, Nq139, eq139⟩ := hQ139
        have N139 := Fr.app N131 Nq139
        have k140 : ∀ t, Steps p.tables e below (T139.setTop (mkF m 151 #[.val (.int p0), .val (.int p1), .val (.int p2), .val (.int (p0 &&& (1023 : Int32))), .val (.int ((p1 &&& (2147483647 : Int32)) % (3 : Int32))), .val (.int ((p2 &&& (2147483647 : Int32)) % (3 : Int32))), .val (.ref st_PermissionClass_GROUP), .val (.int (8 : Int32)), .val (.ref st_Access_READ), .val (.int (4 : Int32)), .val (.int (32 : Int32)), .val (.int jx), .val (.ref b123)] [(.int jx), (.int (own_gr (p0 &&& (1023 : Int32)) (4 : Int32) (3 : Int32)))])) t → Steps p.tables e below (s₁.setTop (mkF m 0 #[.val (.int p0), .val (.int p1), .val (.int p2), .unset, .unset, .unset, .unset, .unset, .unset, .unset, .unset, .unset, .unset] [])) t := by
          intro t h
          refine k118 t ?_
          show Steps p.tables e below (T116.setTop (mkF m 128 #[.val (.int p0), .val (.int p1), .val (.int p2), .val (.int (p0 &&& (1023 : Int32))), .val (.int ((p1 &&& (2147483647 : Int32)) % (3 : Int32))), .val (.int ((p2 &&& (2147483647 : Int32)) % (3 : Int32))), .val (.ref st_PermissionClass_GROUP), .val (.int (8 : Int32)), .val (.ref st_Access_READ), .val (.int (4 : Int32)), .val (.int (32 : Int32)), .unset, .unset] [(.int jx)])) _
          refine XS.istore X116.here hx rfl (hb hby at_128) rfl (l' := #[.val (.int p0), .val (.int p1), .val (.int p2), .val (.int (p0 &&& (1023 : Int32))), .val (.int ((p1 &&& (2147483647 : Int32)) % (3 : Int32))), .val (.int ((p2 &&& (2147483647 : Int32)) % (3 : Int32))), .val (.ref st_PermissionClass_GROUP), .val (.int (8 : Int32)), .val (.ref st_Access_READ), .val (.int (4 : Int32)), .val (.int (32 : Int32)), .val (.int jx), .unset]) rfl ?_
          show Steps p.tables e below (T116.setTop (mkF m 130 #[.val (.int p0), .val (.int p1), .val (.int p2), .val (.int (p0 &&& (1023 : Int32))), .val (.int ((p1 &&& (2147483647 : Int32)) % (3 : Int32))), .val (.int ((p2 &&& (2147483647 : Int32)) % (3 : Int32))), .val (.ref st_PermissionClass_GROUP), .val (.int (8 : Int32)), .val (.ref st_Access_READ), .val (.int (4 : Int32)), .val (.int (32 : Int32)), .val (.int jx), .unset] [])) _
          refine st123 _ ?_
          show Steps p.tables e below (T123.setTop (mkF m 133 #[.val (.int p0), .val (.int p1), .val (.int p2), .val (.int (p0 &&& (1023 : Int32))), .val (.int ((p1 &&& (2147483647 : Int32)) % (3 : Int32))), .val (.int ((p2 &&& (2147483647 : Int32)) % (3 : Int32))), .val (.ref st_PermissionClass_GROUP), .val (.int (8 : Int32)), .val (.ref st_Access_READ), .val (.int (4 : Int32)), .val (.int (32 : Int32)), .val (.int jx), .unset] [(.ref b123)])) _
          refine XS.dup X123.here hx rfl (hb hby at_133) rfl rfl ?_
          show Steps p.tables e below (T123.setTop (mkF m 134 #[.val (.int p0), .val (.int p1), .val (.int p2), .val (.int (p0 &&& (1023 : Int32))), .val (.int ((p1 &&& (2147483647 : Int32)) % (3 : Int32))), .val (.int ((p2 &&& (2147483647 : Int32)) % (3 : Int32))), .val (.ref st_PermissionClass_GROUP), .val (.int (8 : Int32)), .val (.ref st_Access_READ), .val (.int (4 : Int32)), .val (.int (32 : Int32)), .val (.int jx), .unset] [(.ref b123), (.ref b123)])) _
          refine XS.iloadN X123.here hx rfl (hb hby at_134) rfl ?_
          show Steps p.tables e below (T123.setTop (mkF m 135 #[.val (.int p0), .val (.int p1), .val (.int p2), .val (.int (p0 &&& (1023 : Int32))), .val (.int ((p1 &&& (2147483647 : Int32)) % (3 : Int32))), .val (.int ((p2 &&& (2147483647 : Int32)) % (3 : Int32))), .val (.ref st_PermissionClass_GROUP), .val (.int (8 : Int32)), .val (.ref st_Access_READ), .val (.int (4 : Int32)), .val (.int (32 : Int32)), .val (.int jx), .unset] [(.int (p0 &&& (1023 : Int32))), (.ref b123), (.ref b123)])) _
          refine st131.trans ?_
          show Steps p.tables e below (T131.setTop (mkF m 138 #[.val (.int p0), .val (.int p1), .val (.int p2), .val (.int (p0 &&& (1023 : Int32))), .val (.int ((p1 &&& (2147483647 : Int32)) % (3 : Int32))), .val (.int ((p2 &&& (2147483647 : Int32)) % (3 : Int32))), .val (.ref st_PermissionClass_GROUP), .val (.int (8 : Int32)), .val (.ref st_Access_READ), .val (.int (4 : Int32)), .val (.int (32 : Int32)), .val (.int jx), .unset] [(.ref b123)])) _
          refine XS.astore X131.here hx rfl (hb hby at_138) rfl rfl (l' := #[.val (.int p0), .val (.int p1), .val (.int p2), .val (.int (p0 &&& (1023 : Int32))), .val (.int ((p1 &&& (2147483647 : Int32)) % (3 : Int32))), .val (.int ((p2 &&& (2147483647 : Int32)) % (3 : Int32))), .val (.ref st_PermissionClass_GROUP), .val (.int (8 : Int32)), .val (.ref st_Access_READ), .val (.int (4 : Int32)), .val (.int (32 : Int32)), .val (.int jx), .val (.ref b123)]) rfl ?_
          show Steps p.tables e below (T131.setTop (mkF m 140 #[.val (.int p0), .val (.int p1), .val (.int p2), .val (.int (p0 &&& (1023 : Int32))), .val (.int ((p1 &&& (2147483647 : Int32)) % (3 : Int32))), .val (.int ((p2 &&& (2147483647 : Int32)) % (3 : Int32))), .val (.ref st_PermissionClass_GROUP), .val (.int (8 : Int32)), .val (.ref st_Access_READ), .val (.int (4 : Int32)), .val (.int (32 : Int32)), .val (.int jx), .val (.ref b123)] [])) _
          refine XS.aload X131.here hx rfl (hb hby at_140) rfl rfl ?_
          show Steps p.tables e below (T131.setTop (mkF m 142 #[.val (.int p0), .val (.int p1), .val (.int p2), .val (.int (p0 &&& (1023 : Int32))), .val (.int ((p1 &&& (2147483647 : Int32)) % (3 : Int32))), .val (.int ((p2 &&& (2147483647 : Int32)) % (3 : Int32))), .val (.ref st_PermissionClass_GROUP), .val (.int (8 : Int32)), .val (.ref st_Access_READ), .val (.int (4 : Int32)), .val (.int (32 : Int32)), .val (.int jx), .val (.ref b123)] [(.ref b123)])) _
          refine XS.aload X131.here hx rfl (hb hby at_142) rfl rfl ?_
          show Steps p.tables e below (T131.setTop (mkF m 144 #[.val (.int p0), .val (.int p1), .val (.int p2), .val (.int (p0 &&& (1023 : Int32))), .val (.int ((p1 &&& (2147483647 : Int32)) % (3 : Int32))), .val (.int ((p2 &&& (2147483647 : Int32)) % (3 : Int32))), .val (.ref st_PermissionClass_GROUP), .val (.int (8 : Int32)), .val (.ref st_Access_READ), .val (.int (4 : Int32)), .val (.int (32 : Int32)), .val (.int jx), .val (.ref b123)] [(.ref st_PermissionClass_GROUP), (.ref b123)])) _
          refine XS.aload X131.here hx rfl (hb hby at_144) rfl rfl ?_
          show Steps p.tables e below (T131.setTop (mkF m 146 #[.val (.int p0), .val (.int p1), .val (.int p2), .val (.int (p0 &&& (1023 : Int32))), .val (.int ((p1 &&& (2147483647 : Int32)) % (3 : Int32))), .val (.int ((p2 &&& (2147483647 : Int32)) % (3 : Int32))), .val (.ref st_PermissionClass_GROUP), .val (.int (8 : Int32)), .val (.ref st_Access_READ), .val (.int (4 : Int32)), .val (.int (32 : Int32)), .val (.int jx), .val (.ref b123)] [(.ref st_Access_READ), (.ref st_PermissionClass_GROUP), (.ref b123)])) _
          refine st139.trans ?_
          show Steps p.tables e below (T139.setTop (mkF m 149 #[.val (.int p0), .val (.int p1), .val (.int p2), .val (.int (p0 &&& (1023 : Int32))), .val (.int ((p1 &&& (2147483647 : Int32)) % (3 : Int32))), .val (.int ((p2 &&& (2147483647 : Int32)) % (3 : Int32))), .val (.ref st_PermissionClass_GROUP), .val (.int (8 : Int32)), .val (.ref st_Access_READ), .val (.int (4 : Int32)), .val (.int (32 : Int32)), .val (.int jx), .val (.ref b123)] [(.int (own_gr (p0 &&& (1023 : Int32)) (4 : Int32) (3 : Int32)))])) _
          refine XS.iload X139.here hx rfl (hb hby at_149) rfl ?_
          exact h
        have b151_141 : (own_gr (p0 &&& (1023 : Int32)) (4 : Int32) (3 : Int32)) = jx := by rw [hk118]; exact own_t8_4 p0
        have k142 : ∀ t, Steps p.tables e below (T139.setTop (mkF m 159 #[.val (.int p0), .val (.int p1), .val (.int p2), .val (.int (p0 &&& (1023 : Int32))), .val (.int ((p1 &&& (2147483647 : Int32)) % (3 : Int32))), .val (.int ((p2 &&& (2147483647 : Int32)) % (3 : Int32))), .val (.ref st_PermissionClass_GROUP), .val (.int (8 : Int32)), .val (.ref st_Access_READ), .val (.int (4 : Int32)), .val (.int (32 : Int32)), .val (.int jx), .val (.ref b123)] [(.int (1 : Int32))])) t → Steps p.tables e below (s₁.setTop (mkF m 0 #[.val (.int p0), .val (.int p1), .val (.int p2), .unset, .unset, .unset, .unset, .unset, .unset, .unset, .unset, .unset, .unset] [])) t := by
          intro t h
          refine k140 t ?_
          show Steps p.tables e below (T139.setTop (mkF m 151 #[.val (.int p0), .val (.int p1), .val (.int p2), .val (.int (p0 &&& (1023 : Int32))), .val (.int ((p1 &&& (2147483647 : Int32)) % (3 : Int32))), .val (.int ((p2 &&& (2147483647 : Int32)) % (3 : Int32))), .val (.ref st_PermissionClass_GROUP), .val (.int (8 : Int32)), .val (.ref st_Access_READ), .val (.int (4 : Int32)), .val (.int (32 : Int32)), .val (.int jx), .val (.ref b123)] [(.int jx), (.int (own_gr (p0 &&& (1023 : Int32)) (4 : Int32) (3 : Int32)))])) _
          refine XS.icmpNo X139.here hx rfl (hb hby at_151) rfl (teq b151_141).2 ?_
          show Steps p.tables e below (T139.setTop (mkF m 154 #[.val (.int p0), .val (.int p1), .val (.int p2), .val (.int (p0 &&& (1023 : Int32))), .val (.int ((p1 &&& (2147483647 : Int32)) % (3 : Int32))), .val (.int ((p2 &&& (2147483647 : Int32)) % (3 : Int32))), .val (.ref st_PermissionClass_GROUP), .val (.int (8 : Int32)), .val (.ref st_Access_READ), .val (.int (4 : Int32)), .val (.int (32 : Int32)), .val (.int jx), .val (.ref b123)] [])) _
          refine XS.iconst X139.here hx rfl (hb hby at_154) ?_
          show Steps p.tables e below (T139.setTop (mkF m 155 #[.val (.int p0), .val (.int p1), .val (.int p2), .val (.int (p0 &&& (1023 : Int32))), .val (.int ((p1 &&& (2147483647 : Int32)) % (3 : Int32))), .val (.int ((p2 &&& (2147483647 : Int32)) % (3 : Int32))), .val (.ref st_PermissionClass_GROUP), .val (.int (8 : Int32)), .val (.ref st_Access_READ), .val (.int (4 : Int32)), .val (.int (32 : Int32)), .val (.int jx), .val (.ref b123)] [(.int (1 : Int32))])) _
          refine XS.goto X139.here hx rfl (pc0 := 155) (pc' := 159) rfl (hb hby at_155) (by decide) (by decide) ?_
          exact h
        obtain ⟨fs, hr, hrun, hended, hW, hsame⟩ := X139.leave (v := some (.int (1 : Int32))) (fun h => by rw [Bd.returns] at h; cases h) Bd.notSynchronized
        refine ⟨_, _, pre0 _ (k142 _ ?_), hrun, hended, _, _, rfl, ?_, ⟨_, rfl⟩, hW, hsame.mono (by decide) (by decide)⟩
        · exact retN X139 hx (t := .boolean) Bd.returns (by simp) (hb hby at_159) hr
        · show Q_rm0 Z _ _ _ _ _ _ _ _ _ h0 n0 _ T139.heap _
          rw [eq139]
          exact ⟨rfl, N139⟩
      · skip
        have k143 : ∀ t, Steps p.tables e below (T113.setTop (mkF m 84 #[.val (.int p0), .val (.int p1), .val (.int p2), .val (.int (p0 &&& (1023 : Int32))), .val (.int ((p1 &&& (2147483647 : Int32)) % (3 : Int32))), .val (.int ((p2 &&& (2147483647 : Int32)) % (3 : Int32))), .val (.ref st_PermissionClass_GROUP), .val (.int (8 : Int32)), .unset, .unset, .unset, .unset, .unset] [(.int (1 : Int32)), (.int ((p2 &&& (2147483647 : Int32)) % (3 : Int32)))])) t → Steps p.tables e below (s₁.setTop (mkF m 0 #[.val (.int p0), .val (.int p1), .val (.int p2), .unset, .unset, .unset, .unset, .unset, .unset, .unset, .unset, .unset, .unset] [])) t := by
          intro t h
          refine k114 t ?_
          show Steps p.tables e below (T113.setTop (mkF m 67 #[.val (.int p0), .val (.int p1), .val (.int p2), .val (.int (p0 &&& (1023 : Int32))), .val (.int ((p1 &&& (2147483647 : Int32)) % (3 : Int32))), .val (.int ((p2 &&& (2147483647 : Int32)) % (3 : Int32))), .val (.ref st_PermissionClass_GROUP), .val (.int (8 : Int32)), .unset, .unset, .unset, .unset, .unset] [(.int ((p2 &&& (2147483647 : Int32)) % (3 : Int32)))])) _
          refine XS.ifYes X113.here hx rfl (pc0 := 67) (pc' := 81) rfl (hb hby at_67) rfl ((if0 _ _).trans (feq c67_115).2) (by decide) (by decide) ?_
          show Steps p.tables e below (T113.setTop (mkF m 81 #[.val (.int p0), .val (.int p1), .val (.int p2), .val (.int (p0 &&& (1023 : Int32))), .val (.int ((p1 &&& (2147483647 : Int32)) % (3 : Int32))), .val (.int ((p2 &&& (2147483647 : Int32)) % (3 : Int32))), .val (.ref st_PermissionClass_GROUP), .val (.int (8 : Int32)), .unset, .unset, .unset, .unset, .unset] [])) _
          refine XS.iload X113.here hx rfl (hb hby at_81) rfl ?_
          show Steps p.tables e below (T113.setTop (mkF m 83 #[.val (.int p0), .val (.int p1), .val (.int p2), .val (.int (p0 &&& (1023 : Int32))), .val (.int ((p1 &&& (2147483647 : Int32)) % (3 : Int32))), .val (.int ((p2 &&& (2147483647 : Int32)) % (3 : Int32))), .val (.ref st_PermissionClass_GROUP), .val (.int (8 : Int32)), .unset, .unset, .unset, .unset, .unset] [(.int ((p2 &&& (2147483647 : Int32)) % (3 : Int32)))])) _
          refine XS.iconst X113.here hx rfl (hb hby at_83) ?_
          exact h
        by_cases c84_144 : ((p2 &&& (2147483647 : Int32)) % (3 : Int32)) = (1 : Int32)
        · skip
          obtain ⟨T145, X145, e145, st145⟩ := getS2 X113 hx hZ hown (host := "") (Or.inl (hw _ (List.mem_of_getElem? (i := 41) rfl))) Via.refl e113 S_Access_WRITE (g := (mkF m 87 #[.val (.int p0), .val (.int p1), .val (.int p2), .val (.int (p0 &&& (1023 : Int32))), .val (.int ((p1 &&& (2147483647 : Int32)) % (3 : Int32))), .val (.int ((p2 &&& (2147483647 : Int32)) % (3 : Int32))), .val (.ref st_PermissionClass_GROUP), .val (.int (8 : Int32)), .unset, .unset, .unset, .unset, .unset] [])) rfl (hb hby at_87)
          have k146 : ∀ t, Steps p.tables e below (T145.setTop (mkF m 113 #[.val (.int p0), .val (.int p1), .val (.int p2), .val (.int (p0 &&& (1023 : Int32))), .val (.int ((p1 &&& (2147483647 : Int32)) % (3 : Int32))), .val (.int ((p2 &&& (2147483647 : Int32)) % (3 : Int32))), .val (.ref st_PermissionClass_GROUP), .val (.int (8 : Int32)), .val (.ref st_Access_WRITE), .val (.int (2 : Int32)), .val (.int (16 : Int32)), .unset, .unset] [])) t → Steps p.tables e below (s₁.setTop (mkF m 0 #[.val (.int p0), .val (.int p1), .val (.int p2), .unset, .unset, .unset, .unset, .unset, .unset, .unset, .unset, .unset, .unset] [])) t := by
            intro t h
            refine k143 t ?_
            show Steps p.tables e below (T113.setTop (mkF m 84 #[.val (.int p0), .val (.int p1), .val (.int p2), .val (.int (p0 &&& (1023 : Int32))), .val (.int ((p1 &&& (2147483647 : Int32)) % (3 : Int32))), .val (.int ((p2 &&& (2147483647 : Int32)) % (3 : Int32))), .val (.ref st_PermissionClass_GROUP), .val (.int (8 : Int32)), .unset, .unset, .unset, .unset, .unset] [(.int (1 : Int32)), (.int ((p2 &&& (2147483647 : Int32)) % (3 : Int32)))])) _
            refine XS.icmpNo X113.here hx rfl (hb hby at_84) rfl (teq c84_144).2 ?_
            show Steps p.tables e below (T113.setTop (mkF m 87 #[.val (.int p0), .val (.int p1), .val (.int p2), .val (.int (p0 &&& (1023 : Int32))), .val (.int ((p1 &&& (2147483647 : Int32)) % (3 : Int32))), .val (.int ((p2 &&& (2147483647 : Int32)) % (3 : Int32))), .val (.ref st_PermissionClass_GROUP), .val (.int (8 : Int32)), .unset, .unset, .unset, .unset, .unset] [])) _
            refine st145 _ ?_
            show Steps p.tables e below (T145.setTop (mkF m 90 #[.val (.int p0), .val (.int p1), .val (.int p2), .val (.int (p0 &&& (1023 : Int32))), .val (.int ((p1 &&& (2147483647 : Int32)) % (3 : Int32))), .val (.int ((p2 &&& (2147483647 : Int32)) % (3 : Int32))), .val (.ref st_PermissionClass_GROUP), .val (.int (8 : Int32)), .unset, .unset, .unset, .unset, .unset] [(.ref st_Access_WRITE)])) _
            refine XS.astore X145.here hx rfl (hb hby at_90) rfl rfl (l' := #[.val (.int p0), .val (.int p1), .val (.int p2), .val (.int (p0 &&& (1023 : Int32))), .val (.int ((p1 &&& (2147483647 : Int32)) % (3 : Int32))), .val (.int ((p2 &&& (2147483647 : Int32)) % (3 : Int32))), .val (.ref st_PermissionClass_GROUP), .val (.int (8 : Int32)), .val (.ref st_Access_WRITE), .unset, .unset, .unset, .unset]) rfl ?_
            show Steps p.tables e below (T145.setTop (mkF m 92 #[.val (.int p0), .val (.int p1), .val (.int p2), .val (.int (p0 &&& (1023 : Int32))), .val (.int ((p1 &&& (2147483647 : Int32)) % (3 : Int32))), .val (.int ((p2 &&& (2147483647 : Int32)) % (3 : Int32))), .val (.ref st_PermissionClass_GROUP), .val (.int (8 : Int32)), .val (.ref st_Access_WRITE), .unset, .unset, .unset, .unset] [])) _
            refine XS.iconst X145.here hx rfl (hb hby at_92) ?_
            show Steps p.tables e below (T145.setTop (mkF m 93 #[.val (.int p0), .val (.int p1), .val (.int p2), .val (.int (p0 &&& (1023 : Int32))), .val (.int ((p1 &&& (2147483647 : Int32)) % (3 : Int32))), .val (.int ((p2 &&& (2147483647 : Int32)) % (3 : Int32))), .val (.ref st_PermissionClass_GROUP), .val (.int (8 : Int32)), .val (.ref st_Access_WRITE), .unset, .unset, .unset, .unset] [(.int (2 : Int32))])) _
            refine XS.istore X145.here hx rfl (hb hby at_93) rfl (l' := #[.val (.int p0), .val (.int p1), .val (.int p2), .val (.int (p0 &&& (1023 : Int32))), .val (.int ((p1 &&& (2147483647 : Int32)) % (3 : Int32))), .val (.int ((p2 &&& (2147483647 : Int32)) % (3 : Int32))), .val (.ref st_PermissionClass_GROUP), .val (.int (8 : Int32)), .val (.ref st_Access_WRITE), .val (.int (2 : Int32)), .unset, .unset, .unset]) rfl ?_
            show Steps p.tables e below (T145.setTop (mkF m 95 #[.val (.int p0), .val (.int p1), .val (.int p2), .val (.int (p0 &&& (1023 : Int32))), .val (.int ((p1 &&& (2147483647 : Int32)) % (3 : Int32))), .val (.int ((p2 &&& (2147483647 : Int32)) % (3 : Int32))), .val (.ref st_PermissionClass_GROUP), .val (.int (8 : Int32)), .val (.ref st_Access_WRITE), .val (.int (2 : Int32)), .unset, .unset, .unset] [])) _
            refine XS.goto X145.here hx rfl (pc0 := 95) (pc' := 106) rfl (hb hby at_95) (by decide) (by decide) ?_
            show Steps p.tables e below (T145.setTop (mkF m 106 #[.val (.int p0), .val (.int p1), .val (.int p2), .val (.int (p0 &&& (1023 : Int32))), .val (.int ((p1 &&& (2147483647 : Int32)) % (3 : Int32))), .val (.int ((p2 &&& (2147483647 : Int32)) % (3 : Int32))), .val (.ref st_PermissionClass_GROUP), .val (.int (8 : Int32)), .val (.ref st_Access_WRITE), .val (.int (2 : Int32)), .unset, .unset, .unset] [])) _
            refine XS.iload X145.here hx rfl (hb hby at_106) rfl ?_
            show Steps p.tables e below (T145.setTop (mkF m 108 #[.val (.int p0), .val (.int p1), .val (.int p2), .val (.int (p0 &&& (1023 : Int32))), .val (.int ((p1 &&& (2147483647 : Int32)) % (3 : Int32))), .val (.int ((p2 &&& (2147483647 : Int32)) % (3 : Int32))), .val (.ref st_PermissionClass_GROUP), .val (.int (8 : Int32)), .val (.ref st_Access_WRITE), .val (.int (2 : Int32)), .unset, .unset, .unset] [(.int (8 : Int32))])) _
            refine XS.iload X145.here hx rfl (hb hby at_108) rfl ?_
            show Steps p.tables e below (T145.setTop (mkF m 110 #[.val (.int p0), .val (.int p1), .val (.int p2), .val (.int (p0 &&& (1023 : Int32))), .val (.int ((p1 &&& (2147483647 : Int32)) % (3 : Int32))), .val (.int ((p2 &&& (2147483647 : Int32)) % (3 : Int32))), .val (.ref st_PermissionClass_GROUP), .val (.int (8 : Int32)), .val (.ref st_Access_WRITE), .val (.int (2 : Int32)), .unset, .unset, .unset] [(.int (2 : Int32)), (.int (8 : Int32))])) _
            refine XS.imul X145.here hx rfl (hb hby at_110) rfl ?_
            show Steps p.tables e below (T145.setTop (mkF m 111 #[.val (.int p0), .val (.int p1), .val (.int p2), .val (.int (p0 &&& (1023 : Int32))), .val (.int ((p1 &&& (2147483647 : Int32)) % (3 : Int32))), .val (.int ((p2 &&& (2147483647 : Int32)) % (3 : Int32))), .val (.ref st_PermissionClass_GROUP), .val (.int (8 : Int32)), .val (.ref st_Access_WRITE), .val (.int (2 : Int32)), .unset, .unset, .unset] [(.int (16 : Int32))])) _
            refine XS.istore X145.here hx rfl (hb hby at_111) rfl (l' := #[.val (.int p0), .val (.int p1), .val (.int p2), .val (.int (p0 &&& (1023 : Int32))), .val (.int ((p1 &&& (2147483647 : Int32)) % (3 : Int32))), .val (.int ((p2 &&& (2147483647 : Int32)) % (3 : Int32))), .val (.ref st_PermissionClass_GROUP), .val (.int (8 : Int32)), .val (.ref st_Access_WRITE), .val (.int (2 : Int32)), .val (.int (16 : Int32)), .unset, .unset]) rfl ?_
            exact h
          obtain ⟨jx, hk147, k147⟩ : ∃ (jx : Int32), (jx = if (((p0 &&& (1023 : Int32)) / (16 : Int32)) % (2 : Int32)) = (1 : Int32) then 1 else 0) ∧ ∀ t, Steps p.tables e below (T145.setTop (mkF m 128 #[.val (.int p0), .val (.int p1), .val (.int p2), .val (.int (p0 &&& (1023 : Int32))), .val (.int ((p1 &&& (2147483647 : Int32)) % (3 : Int32))), .val (.int ((p2 &&& (2147483647 : Int32)) % (3 : Int32))), .val (.ref st_PermissionClass_GROUP), .val (.int (8 : Int32)), .val (.ref st_Access_WRITE), .val (.int (2 : Int32)), .val (.int (16 : Int32)), .unset, .unset] [(.int jx)])) t → Steps p.tables e below (s₁.setTop (mkF m 0 #[.val (.int p0), .val (.int p1), .val (.int p2), .unset, .unset, .unset, .unset, .unset, .unset, .unset, .unset, .unset, .unset] [])) t := by
            have k148 : ∀ t, Steps p.tables e below (T145.setTop (mkF m 120 #[.val (.int p0), .val (.int p1), .val (.int p2), .val (.int (p0 &&& (1023 : Int32))), .val (.int ((p1 &&& (2147483647 : Int32)) % (3 : Int32))), .val (.int ((p2 &&& (2147483647 : Int32)) % (3 : Int32))), .val (.ref st_PermissionClass_GROUP), .val (.int (8 : Int32)), .val (.ref st_Access_WRITE), .val (.int (2 : Int32)), .val (.int (16 : Int32)), .unset, .unset] [(.int (1 : Int32)), (.int (((p0 &&& (1023 : Int32)) / (16 : Int32)) % (2 : Int32)))])) t → Steps p.tables e below (s₁.setTop (mkF m 0 #[.val (.int p0), .val (.int p1), .val (.int p2), .unset, .unset, .unset, .unset, .unset, .unset, .unset, .unset, .unset, .unset] [])) t := by
              intro t h
              refine k146 t ?_
              show Steps p.tables e below (T145.setTop (mkF m 113 #[.val (.int p0), .val (.int p1), .val (.int p2), .val (.int (p0 &&& (1023 : Int32))), .val (.int ((p1 &&& (2147483647 : Int32)) % (3 : Int32))), .val (.int ((p2 &&& (2147483647 : Int32)) % (3 : Int32))), .val (.ref st_PermissionClass_GROUP), .val (.int (8 : Int32)), .val (.ref st_Access_WRITE), .val (.int (2 : Int32)), .val (.int (16 : Int32)), .unset, .unset] [])) _
              refine XS.iloadN X145.here hx rfl (hb hby at_113) rfl ?_
              show Steps p.tables e below (T145.setTop (mkF m 114 #[.val (.int p0), .val (.int p1), .val (.int p2), .val (.int (p0 &&& (1023 : Int32))), .val (.int ((p1 &&& (2147483647 : Int32)) % (3 : Int32))), .val (.int ((p2 &&& (2147483647 : Int32)) % (3 : Int32))), .val (.ref st_PermissionClass_GROUP), .val (.int (8 : Int32)), .val (.ref st_Access_WRITE), .val (.int (2 : Int32)), .val (.int (16 : Int32)), .unset, .unset] [(.int (p0 &&& (1023 : Int32)))])) _
              refine XS.iload X145.here hx rfl (hb hby at_114) rfl ?_
              show Steps p.tables e below (T145.setTop (mkF m 116 #[.val (.int p0), .val (.int p1), .val (.int p2), .val (.int (p0 &&& (1023 : Int32))), .val (.int ((p1 &&& (2147483647 : Int32)) % (3 : Int32))), .val (.int ((p2 &&& (2147483647 : Int32)) % (3 : Int32))), .val (.ref st_PermissionClass_GROUP), .val (.int (8 : Int32)), .val (.ref st_Access_WRITE), .val (.int (2 : Int32)), .val (.int (16 : Int32)), .unset, .unset] [(.int (16 : Int32)), (.int (p0 &&& (1023 : Int32)))])) _
              refine XS.idiv X145.here hx rfl (hb hby at_116) rfl (by decide) ?_
              show Steps p.tables e below (T145.setTop (mkF m 117 #[.val (.int p0), .val (.int p1), .val (.int p2), .val (.int (p0 &&& (1023 : Int32))), .val (.int ((p1 &&& (2147483647 : Int32)) % (3 : Int32))), .val (.int ((p2 &&& (2147483647 : Int32)) % (3 : Int32))), .val (.ref st_PermissionClass_GROUP), .val (.int (8 : Int32)), .val (.ref st_Access_WRITE), .val (.int (2 : Int32)), .val (.int (16 : Int32)), .unset, .unset] [(.int ((p0 &&& (1023 : Int32)) / (16 : Int32)))])) _
              refine XS.iconst X145.here hx rfl (hb hby at_117) ?_
              show Steps p.tables e below (T145.setTop (mkF m 118 #[.val (.int p0), .val (.int p1), .val (.int p2), .val (.int (p0 &&& (1023 : Int32))), .val (.int ((p1 &&& (2147483647 : Int32)) % (3 : Int32))), .val (.int ((p2 &&& (2147483647 : Int32)) % (3 : Int32))), .val (.ref st_PermissionClass_GROUP), .val (.int (8 : Int32)), .val (.ref st_Access_WRITE), .val (.int (2 : Int32)), .val (.int (16 : Int32)), .unset, .unset] [(.int (2 : Int32)), (.int ((p0 &&& (1023 : Int32)) / (16 : Int32)))])) _
              refine iremM (g := (mkF m 118 #[.val (.int p0), .val (.int p1), .val (.int p2), .val (.int (p0 &&& (1023 : Int32))), .val (.int ((p1 &&& (2147483647 : Int32)) % (3 : Int32))), .val (.int ((p2 &&& (2147483647 : Int32)) % (3 : Int32))), .val (.ref st_PermissionClass_GROUP), .val (.int (8 : Int32)), .val (.ref st_Access_WRITE), .val (.int (2 : Int32)), .val (.int (16 : Int32)), .unset, .unset] [(.int (2 : Int32)), (.int ((p0 &&& (1023 : Int32)) / (16 : Int32)))])) X145 hx rfl (hb hby at_118) rfl (by decide) ?_
              show Steps p.tables e below (T145.setTop (mkF m 119 #[.val (.int p0), .val (.int p1), .val (.int p2), .val (.int (p0 &&& (1023 : Int32))), .val (.int ((p1 &&& (2147483647 : Int32)) % (3 : Int32))), .val (.int ((p2 &&& (2147483647 : Int32)) % (3 : Int32))), .val (.ref st_PermissionClass_GROUP), .val (.int (8 : Int32)), .val (.ref st_Access_WRITE), .val (.int (2 : Int32)), .val (.int (16 : Int32)), .unset, .unset] [(.int (((p0 &&& (1023 : Int32)) / (16 : Int32)) % (2 : Int32)))])) _
              refine XS.iconst X145.here hx rfl (hb hby at_119) ?_
              exact h
            by_cases c120_149 : (((p0 &&& (1023 : Int32)) / (16 : Int32)) % (2 : Int32)) = (1 : Int32)
            · skip
              have k150 : ∀ t, Steps p.tables e below (T145.setTop (mkF m 128 #[.val (.int p0), .val (.int p1), .val (.int p2), .val (.int (p0 &&& (1023 : Int32))), .val (.int ((p1 &&& (2147483647 : Int32)) % (3 : Int32))), .val (.int ((p2 &&& (2147483647 : Int32)) % (3 : Int32))), .val (.ref st_PermissionClass_GROUP), .val (.int (8 : Int32)), .val (.ref st_Access_WRITE), .val (.int (2 : Int32)), .val (.int (16 : Int32)), .unset, .unset] [(.int (1 : Int32))])) t → Steps p.tables e below (s₁.setTop (mkF m 0 #[.val (.int p0), .val (.int p1), .val (.int p2), .unset, .unset, .unset, .unset, .unset, .unset, .unset, .unset, .unset, .unset] [])) t := by
                intro t h
                refine k148 t ?_
                show Steps p.tables e below (T145.setTop (mkF m 120 #[.val (.int p0), .val (.int p1), .val (.int p2), .val (.int (p0 &&& (1023 : Int32))), .val (.int ((p1 &&& (2147483647 : Int32)) % (3 : Int32))), .val (.int ((p2 &&& (2147483647 : Int32)) % (3 : Int32))), .val (.ref st_PermissionClass_GROUP), .val (.int (8 : Int32)), .val (.ref st_Access_WRITE), .val (.int (2 : Int32)), .val (.int (16 : Int32)), .unset, .unset] [(.int (1 : Int32)), (.int (((p0 &&& (1023 : Int32)) / (16 : Int32)) % (2 : Int32)))])) _
                refine XS.icmpNo X145.here hx rfl (hb hby at_120) rfl (teq c120_149).2 ?_
                show Steps p.tables e below (T145.setTop (mkF m 123 #[.val (.int p0), .val (.int p1), .val (.int p2), .val (.int (p0 &&& (1023 : Int32))), .val (.int ((p1 &&& (2147483647 : Int32)) % (3 : Int32))), .val (.int ((p2 &&& (2147483647 : Int32)) % (3 : Int32))), .val (.ref st_PermissionClass_GROUP), .val (.int (8 : Int32)), .val (.ref st_Access_WRITE), .val (.int (2 : Int32)), .val (.int (16 : Int32)), .unset, .unset] [])) _
                refine XS.iconst X145.here hx rfl (hb hby at_123) ?_
                show Steps p.tables e below (T145.setTop (mkF m 124 #[.val (.int p0), .val (.int p1), .val (.int p2), .val (.int (p0 &&& (1023 : Int32))), .val (.int ((p1 &&& (2147483647 : Int32)) % (3 : Int32))), .val (.int ((p2 &&& (2147483647 : Int32)) % (3 : Int32))), .val (.ref st_PermissionClass_GROUP), .val (.int (8 : Int32)), .val (.ref st_Access_WRITE), .val (.int (2 : Int32)), .val (.int (16 : Int32)), .unset, .unset] [(.int (1 : Int32))])) _
                refine XS.goto X145.here hx rfl (pc0 := 124) (pc' := 128) rfl (hb hby at_124) (by decide) (by decide) ?_
                exact h
              exact ⟨(1 : Int32), by rw [if_pos c120_149], k150⟩
            · skip
              have k151 : ∀ t, Steps p.tables e below (T145.setTop (mkF m 128 #[.val (.int p0), .val (.int p1), .val (.int p2), .val (.int (p0 &&& (1023 : Int32))), .val (.int ((p1 &&& (2147483647 : Int32)) % (3 : Int32))), .val (.int ((p2 &&& (2147483647 : Int32)) % (3 : Int32))), .val (.ref st_PermissionClass_GROUP), .val (.int (8 : Int32)), .val (.ref st_Access_WRITE), .val (.int (2 : Int32)), .val (.int (16 : Int32)), .unset, .unset] [(.int (0 : Int32))])) t → Steps p.tables e below (s₁.setTop (mkF m 0 #[.val (.int p0), .val (.int p1), .val (.int p2), .unset, .unset, .unset, .unset, .unset, .unset, .unset, .unset, .unset, .unset] [])) t := by
                intro t h
                refine k148 t ?_
                show Steps p.tables e below (T145.setTop (mkF m 120 #[.val (.int p0), .val (.int p1), .val (.int p2), .val (.int (p0 &&& (1023 : Int32))), .val (.int ((p1 &&& (2147483647 : Int32)) % (3 : Int32))), .val (.int ((p2 &&& (2147483647 : Int32)) % (3 : Int32))), .val (.ref st_PermissionClass_GROUP), .val (.int (8 : Int32)), .val (.ref st_Access_WRITE), .val (.int (2 : Int32)), .val (.int (16 : Int32)), .unset, .unset] [(.int (1 : Int32)), (.int (((p0 &&& (1023 : Int32)) / (16 : Int32)) % (2 : Int32)))])) _
                refine XS.icmpYes X145.here hx rfl (pc0 := 120) (pc' := 127) rfl (hb hby at_120) rfl (feq c120_149).2 (by decide) (by decide) ?_
                show Steps p.tables e below (T145.setTop (mkF m 127 #[.val (.int p0), .val (.int p1), .val (.int p2), .val (.int (p0 &&& (1023 : Int32))), .val (.int ((p1 &&& (2147483647 : Int32)) % (3 : Int32))), .val (.int ((p2 &&& (2147483647 : Int32)) % (3 : Int32))), .val (.ref st_PermissionClass_GROUP), .val (.int (8 : Int32)), .val (.ref st_Access_WRITE), .val (.int (2 : Int32)), .val (.int (16 : Int32)), .unset, .unset] [])) _
                refine XS.iconst X145.here hx rfl (hb hby at_127) ?_
                exact h
              exact ⟨(0 : Int32), by rw [if_neg c120_149], k151⟩
          obtain ⟨T152, h152, X152, e152, E152, A152, D152, -, st152⟩ := newO X145 hx hZ hown (hw _ (List.mem_of_getElem? (i := 7) rfl)) (hw _ (List.mem_of_getElem? (i := 8) rfl)) (hw _ (List.mem_of_getElem? (i := 9) rfl)) e145 (g := (mkF m 130 #[.val (.int p0), .val (.int p1), .val (.int p2), .val (.int (p0 &&& (1023 : Int32))), .val (.int ((p1 &&& (2147483647 : Int32)) % (3 : Int32))), .val (.int ((p2 &&& (2147483647 : Int32)) % (3 : Int32))), .val (.ref st_PermissionClass_GROUP), .val (.int (8 : Int32)), .val (.ref st_Access_WRITE), .val (.int (2 : Int32)), .val (.int (16 : Int32)), .val (.int jx), .unset] [])) rfl (hb hby at_130) (by decide) (by decide)
          obtain ⟨b152, g152⟩ : ∃ z, z = h0.size := ⟨_, rfl⟩
          rw [← g152] at A152 D152 st152
          have ne_st_Access_WRITE_b152 : st_Access_WRITE ≠ b152 := Nat.ne_of_lt (Nat.lt_of_lt_of_le E_Access_WRITE.lt (Nat.le_of_eq g152.symm))
          have ne_st_PermissionClass_GROUP_b152 : st_PermissionClass_GROUP ≠ b152 := Nat.ne_of_lt (Nat.lt_of_lt_of_le E_PermissionClass_GROUP.lt (Nat.le_of_eq g152.symm))
          have g_b152 : n0 ≤ b152 := Nat.le_trans Z0 (Nat.le_of_eq g152.symm)
          have sz_b152 : h0.size ≤ b152 := Nat.le_trans K0.1 (Nat.le_of_eq g152.symm)
          have f153 := E_Access_WRITE.ext E152
          have f154 := E_PermissionClass_GROUP.ext E152
          have f155 := F_Access_WRITE_bit.ext E152
          have f156 := F_PermissionClass_GROUP_shift.ext E152
          have Z157 : n0 ≤ h152.size := Nat.le_trans Z0 E152.1
          have K158 := K0.ext E152
          have f159 : Fld Z h152 b152 "com/example/lats/lats/permission/Mode" "bits" "I" (.int (0 : Int32)) := D152 (Or.inr (hw _ (List.mem_of_getElem? (i := 17) rfl))) (ty := .int) (by decide)
          obtain ⟨_, _, ⟨T160, L160, k160, n160⟩, -, X160, ⟨Lc160, hQ160, l160, y160, z160⟩, st160⟩ := X152.specialBack hx (y := (⟨"com/example/lats/lats/permission/Mode", "<init>", "(I)V"⟩ : MethodName)) rfl hown (mvT hZ (hw _ (List.mem_of_getElem? (i := 10) rfl))) (mvT hZ (hw _ (List.mem_of_getElem? (i := 11) rfl))) (mvT hZ (hw _ (List.mem_of_getElem? (i := 12) rfl))) (by decide) (backOf (W := 1) (rm1 l Z a0 hw [] b152 (p0 &&& (1023 : Int32))  h152 n0 Z157 f159 A152 g_b152 (own_bits p0).1 (own_bits p0).2) hZ (hw _ (List.mem_of_getElem? (i := 12) rfl)) (hw _ (List.mem_of_getElem? (i := 9) rfl)) (by decide) (by decide)) (g := (mkF m 135 #[.val (.int p0), .val (.int p1), .val (.int p2), .val (.int (p0 &&& (1023 : Int32))), .val (.int ((p1 &&& (2147483647 : Int32)) % (3 : Int32))), .val (.int ((p2 &&& (2147483647 : Int32)) % (3 : Int32))), .val (.ref st_PermissionClass_GROUP), .val (.int (8 : Int32)), .val (.ref st_Access_WRITE), .val (.int (2 : Int32)), .val (.int (16 : Int32)), .val (.int jx), .unset] [(.int (p0 &&& (1023 : Int32))), (.ref b152), (.ref b152)])) rfl (by rw [hml]; rfl) (Steps.refl _) (a := b152) (argsL := [(.int (p0 &&& (1023 : Int32)))]) (rest := [(.ref b152)]) (lenOf own_pd_1 rfl) rfl (by show 2 * 0 + _ ≤ _; exact Nat.le_of_eq rfl) (hb hby at_135) (fun _ _ => ⟨rfl, e152, (by decide : 1 + 0 ≤ _), (by decide : 1 + 0 ≤ _)⟩)
          dsimp only [Pt.U, Pt.locs, Pt.cells, Pt.slots] at X160 l160 y160 z160 st160 hQ160
          subst l160 y160 z160
          obtain ⟨rfl, Nq160, Kq160, Eq160, Fq160⟩ := hQ160
          have N160 := Fr.app N0 Nq160
          have f161 := f153.keep Kq160
          have f162 := f154.keep Kq160
          have f163 := f155.keep Kq160 (ninS ne_st_Access_WRITE_b152 nin0)
          have f164 := f156.keep Kq160 (ninS ne_st_PermissionClass_GROUP_b152 nin0)
          have f165 := A152.keep Kq160
          have Z166 : n0 ≤ T160.heap.size := Nat.le_trans Z157 Kq160.1
          have K167 := K158.trans Kq160 (allS (Or.inr sz_b152) all0)
          obtain ⟨cq168, kq168, q168a, q168b, q168c⟩ := isOf hZ rfl f165
          obtain ⟨_, _, ⟨T168, L168, k168, n168⟩, -, X168, ⟨Lc168, hQ168, l168, y168, z168⟩, st168⟩ := X160.virtualBack hx (y := (⟨"com/example/lats/lats/permission/Mode", "grants", "(Lcom/example/lats/lats/permission/PermissionClass;Lcom/example/lats/lats/permission/Access;)Z"⟩ : MethodName)) (z := (⟨"com/example/lats/lats/permission/Mode", "grants", "(Lcom/example/lats/lats/permission/PermissionClass;Lcom/example/lats/lats/permission/Access;)Z"⟩ : MethodName)) hown (mvT hZ (hw _ (List.mem_of_getElem? (i := 18) rfl))) (mvT hZ (hw _ (List.mem_of_getElem? (i := 19) rfl))) (notFace_of_selects (args := #[]) (mvT hZ (hw _ (List.mem_of_getElem? (i := 21) rfl)))) (mvT hZ (hw _ (List.mem_of_getElem? (i := 21) rfl))) (mvT hZ (hw _ (List.mem_of_getElem? (i := 20) rfl))) (by decide) (backOf (W := 0) (rmG l Z a0 hw [] b152 st_PermissionClass_GROUP st_Access_WRITE (p0 &&& (1023 : Int32)) (3 : Int32) (2 : Int32) T160.heap n0 Z166 Fq160 f164 f163 f162 f161) hZ (hw _ (List.mem_of_getElem? (i := 22) rfl)) (hw _ (List.mem_of_getElem? (i := 9) rfl)) (by decide) (by decide)) q168a q168c (g := (mkF m 146 #[.val (.int p0), .val (.int p1), .val (.int p2), .val (.int (p0 &&& (1023 : Int32))), .val (.int ((p1 &&& (2147483647 : Int32)) % (3 : Int32))), .val (.int ((p2 &&& (2147483647 : Int32)) % (3 : Int32))), .val (.ref st_PermissionClass_GROUP), .val (.int (8 : Int32)), .val (.ref st_Access_WRITE), .val (.int (2 : Int32)), .val (.int (16 : Int32)), .val (.int jx), .val (.ref b152)] [(.ref st_Access_WRITE), (.ref st_PermissionClass_GROUP), (.ref b152)])) rfl (by rw [hml]; rfl) (Steps.refl _) (argsL := [(.ref st_PermissionClass_GROUP), (.ref st_Access_WRITE)]) (rest := []) (lenOf own_pd_2 rfl) rfl (by show 2 * 0 + _ ≤ _; exact Nat.le_of_eq rfl) (hb hby at_146) (fun _ _ => ⟨rfl, rfl, (by decide : 1 + 0 ≤ _), (by decide : 1 + 0 ≤ _)⟩)
          dsimp only [Pt.U, Pt.locs, Pt.cells, Pt.slots] at X168 l168 y168 z168 st168 hQ168
          subst l168 y168 z168
          obtain ⟨rfl, Nq168, eq168⟩ := hQ168
          have N168 := Fr.app N160 Nq168
          have k169 : ∀ t, Steps p.tables e below (T168.setTop (mkF m 151 #[.val (.int p0), .val (.int p1), .val (.int p2), .val (.int (p0 &&& (1023 : Int32))), .val (.int ((p1 &&& (2147483647 : Int32)) % (3 : Int32))), .val (.int ((p2 &&& (2147483647 : Int32)) % (3 : Int32))), .val (.ref st_PermissionClass_GROUP), .val (.int (8 : Int32)), .val (.ref st_Access_WRITE), .val (.int (2 : Int32)), .val (.int (16 : Int32)), .val (.int jx), .val (.ref b152)] [(.int jx), (.int (own_gr (p0 &&& (1023 : Int32)) (2 : Int32) (3 : Int32)))])) t → Steps p.tables e below (s₁.setTop (mkF m 0 #[.val (.int p0), .val (.int p1), .val (.int p2), .unset, .unset, .unset, .unset, .unset, .unset, .unset, .unset, .unset, .unset] [])) t := by
            intro t h
            refine k147 t ?_
            show Steps p.tables e below (T145.setTop (mkF m 128 #[.val (.int p0), .val (.int p1), .val (.int p2), .val (.int (p0 &&& (1023 : Int32))), .val (.int ((p1 &&& (2147483647 : Int32)) % (3 : Int32))), .val (.int ((p2 &&& (2147483647 : Int32)) % (3 : Int32))), .val (.ref st_PermissionClass_GROUP), .val (.int (8 : Int32)), .val (.ref st_Access_WRITE), .val (.int (2 : Int32)), .val (.int (16 : Int32)), .unset, .unset] [(.int jx)])) _
            refine XS.istore X145.here hx rfl (hb hby at_128) rfl (l' := #[.val (.int p0), .val (.int p1), .val (.int p2), .val (.int (p0 &&& (1023 : Int32))), .val (.int ((p1 &&& (2147483647 : Int32)) % (3 : Int32))), .val (.int ((p2 &&& (2147483647 : Int32)) % (3 : Int32))), .val (.ref st_PermissionClass_GROUP), .val (.int (8 : Int32)), .val (.ref st_Access_WRITE), .val (.int (2 : Int32)), .val (.int (16 : Int32)), .val (.int jx), .unset]) rfl ?_
            show Steps p.tables e below (T145.setTop (mkF m 130 #[.val (.int p0), .val (.int p1), .val (.int p2), .val (.int (p0 &&& (1023 : Int32))), .val (.int ((p1 &&& (2147483647 : Int32)) % (3 : Int32))), .val (.int ((p2 &&& (2147483647 : Int32)) % (3 : Int32))), .val (.ref st_PermissionClass_GROUP), .val (.int (8 : Int32)), .val (.ref st_Access_WRITE), .val (.int (2 : Int32)), .val (.int (16 : Int32)), .val (.int jx), .unset] [])) _
            refine st152 _ ?_
            show Steps p.tables e below (T152.setTop (mkF m 133 #[.val (.int p0), .val (.int p1), .val (.int p2), .val (.int (p0 &&& (1023 : Int32))), .val (.int ((p1 &&& (2147483647 : Int32)) % (3 : Int32))), .val (.int ((p2 &&& (2147483647 : Int32)) % (3 : Int32))), .val (.ref st_PermissionClass_GROUP), .val (.int (8 : Int32)), .val (.ref st_Access_WRITE), .val (.int (2 : Int32)), .val (.int (16 : Int32)), .val (.int jx), .unset] [(.ref b152)])) _
            refine XS.dup X152.here hx rfl (hb hby at_133) rfl rfl ?_
            show Steps p.tables e below (T152.setTop (mkF m 134 #[.val (.int p0), .val (.int p1), .val (.int p2), .val (.int (p0 &&& (1023 : Int32))), .val (.int ((p1 &&& (2147483647 : Int32)) % (3 : Int32))), .val (.int ((p2 &&& (2147483647 : Int32)) % (3 : Int32))), .val (.ref st_PermissionClass_GROUP), .val (.int (8 : Int32)), .val (.ref st_Access_WRITE), .val (.int (2 : Int32)), .val (.int (16 : Int32)), .val (.int jx), .unset] [(.ref b152), (.ref b152)])) _
            refine XS.iloadN X152.here hx rfl (hb hby at_134) rfl ?_
            show Steps p.tables e below (T152.setTop (mkF m 135 #[.val (.int p0), .val (.int p1), .val (.int p2), .val (.int (p0 &&& (1023 : Int32))), .val (.int ((p1 &&& (2147483647 : Int32)) % (3 : Int32))), .val (.int ((p2 &&& (2147483647 : Int32)) % (3 : Int32))), .val (.ref st_PermissionClass_GROUP), .val (.int (8 : Int32)), .val (.ref st_Access_WRITE), .val (.int (2 : Int32)), .val (.int (16 : Int32)), .val (.int jx), .unset] [(.int (p0 &&& (1023 : Int32))), (.ref b152), (.ref b152)])) _
            refine st160.trans ?_
            show Steps p.tables e below (T160.setTop (mkF m 138 #[.val (.int p0), .val (.int p1), .val (.int p2), .val (.int (p0 &&& (1023 : Int32))), .val (.int ((p1 &&& (2147483647 : Int32)) % (3 : Int32))), .val (.int ((p2 &&& (2147483647 : Int32)) % (3 : Int32))), .val (.ref st_PermissionClass_GROUP), .val (.int (8 : Int32)), .val (.ref st_Access_WRITE), .val (.int (2 : Int32)), .val (.int (16 : Int32)), .val (.int jx), .unset] [(.ref b152)])) _
            refine XS.astore X160.here hx rfl (hb hby at_138) rfl rfl (l' := #[.val (.int p0), .val (.int p1), .val (.int p2), .val (.int (p0 &&& (1023 : Int32))), .val (.int ((p1 &&& (2147483647 : Int32)) % (3 : Int32))), .val (.int ((p2 &&& (2147483647 : Int32)) % (3 : Int32))), .val (.ref st_PermissionClass_GROUP), .val (.int (8 : Int32)), .val (.ref st_Access_WRITE), .val (.int (2 : Int32)), .val (.int (16 : Int32)), .val (.int jx), .val (.ref b152)]) rfl ?_
            show Steps p.tables e below (T160.setTop (mkF m 140 #[.val (.int p0), .val (.int p1), .val (.int p2), .val (.int (p0 &&& (1023 : Int32))), .val (.int ((p1 &&& (2147483647 : Int32)) % (3 : Int32))), .val (.int ((p2 &&& (2147483647 : Int32)) % (3 : Int32))), .val (.ref st_PermissionClass_GROUP), .val (.int (8 : Int32)), .val (.ref st_Access_WRITE), .val (.int (2 : Int32)), .val (.int (16 : Int32)), .val (.int jx), .val (.ref b152)] [])) _
            refine XS.aload X160.here hx rfl (hb hby at_140) rfl rfl ?_
            show Steps p.tables e below (T160.setTop (mkF m 142 #[.val (.int p0), .val (.int p1), .val (.int p2), .val (.int (p0 &&& (1023 : Int32))), .val (.int ((p1 &&& (2147483647 : Int32)) % (3 : Int32))), .val (.int ((p2 &&& (2147483647 : Int32)) % (3 : Int32))), .val (.ref st_PermissionClass_GROUP), .val (.int (8 : Int32)), .val (.ref st_Access_WRITE), .val (.int (2 : Int32)), .val (.int (16 : Int32)), .val (.int jx), .val (.ref b152)] [(.ref b152)])) _
            refine XS.aload X160.here hx rfl (hb hby at_142) rfl rfl ?_
            show Steps p.tables e below (T160.setTop (mkF m 144 #[.val (.int p0), .val (.int p1), .val (.int p2), .val (.int (p0 &&& (1023 : Int32))), .val (.int ((p1 &&& (2147483647 : Int32)) % (3 : Int32))), .val (.int ((p2 &&& (2147483647 : Int32)) % (3 : Int32))), .val (.ref st_PermissionClass_GROUP), .val (.int (8 : Int32)), .val (.ref st_Access_WRITE), .val (.int (2 : Int32)), .val (.int (16 : Int32)), .val (.int jx), .val (.ref b152)] [(.ref st_PermissionClass_GROUP), (.ref b152)])) _
            refine XS.aload X160.here hx rfl (hb hby at_144) rfl rfl ?_
            show Steps p.tables e below (T160.setTop (mkF m 146 #[.val (.int p0), .val (.int p1), .val (.int p2), .val (.int (p0 &&& (1023 : Int32))), .val (.int ((p1 &&& (2147483647 : Int32)) % (3 : Int32))), .val (.int ((p2 &&& (2147483647 : Int32)) % (3 : Int32))), .val (.ref st_PermissionClass_GROUP), .val (.int (8 : Int32)), .val (.ref st_Access_WRITE), .val (.int (2 : Int32)), .val (.int (16 : Int32)), .val (.int jx), .val (.ref b152)] [(.ref st_Access_WRITE), (.ref st_PermissionClass_GROUP), (.ref b152)])) _
            refine st168.trans ?_
            show Steps p.tables e below (T168.setTop (mkF m 149 #[.val (.int p0), .val (.int p1), .val (.int p2), .val (.int (p0 &&& (1023 : Int32))), .val (.int ((p1 &&& (2147483647 : Int32)) % (3 : Int32))), .val (.int ((p2 &&& (2147483647 : Int32)) % (3 : Int32))), .val (.ref st_PermissionClass_GROUP), .val (.int (8 : Int32)), .val (.ref st_Access_WRITE), .val (.int (2 : Int32)), .val (.int (16 : Int32)), .val (.int jx), .val (.ref b152)] [(.int (own_gr (p0 &&& (1023 : Int32)) (2 : Int32) (3 : Int32)))])) _
            refine XS.iload X168.here hx rfl (hb hby at_149) rfl ?_
            exact h
          have b151_170 : (own_gr (p0 &&& (1023 : Int32)) (2 : Int32) (3 : Int32)) = jx := by rw [hk147]; exact own_t8_2 p0
          have k171 : ∀ t, Steps p.tables e below (T168.setTop (mkF m 159 #[.val (.int p0), .val (.int p1), .val (.int p2), .val (.int (p0 &&& (1023 : Int32))), .val (.int ((p1 &&& (2147483647 : Int32)) % (3 : Int32))), .val (.int ((p2 &&& (2147483647 : Int32)) % (3 : Int32))), .val (.ref st_PermissionClass_GROUP), .val (.int (8 : Int32)), .val (.ref st_Access_WRITE), .val (.int (2 : Int32)), .val (.int (16 : Int32)), .val (.int jx), .val (.ref b152)] [(.int (1 : Int32))])) t → Steps p.tables e below (s₁.setTop (mkF m 0 #[.val (.int p0), .val (.int p1), .val (.int p2), .unset, .unset, .unset, .unset, .unset, .unset, .unset, .unset, .unset, .unset] [])) t := by
            intro t h
            refine k169 t ?_
            show Steps p.tables e below (T168.setTop (mkF m 151 #[.val (.int p0), .val (.int p1), .val (.int p2), .val (.int (p0 &&& (1023 : Int32))), .val (.int ((p1 &&& (2147483647 : Int32)) % (3 : Int32))), .val (.int ((p2 &&& (2147483647 : Int32)) % (3 : Int32))), .val (.ref st_PermissionClass_GROUP), .val (.int (8 : Int32)), .val (.ref st_Access_WRITE), .val (.int (2 : Int32)), .val (.int (16 : Int32)), .val (.int jx), .val (.ref b152)] [(.int jx), (.int (own_gr (p0 &&& (1023 : Int32)) (2 : Int32) (3 : Int32)))])) _
            refine XS.icmpNo X168.here hx rfl (hb hby at_151) rfl (teq b151_170).2 ?_
            show Steps p.tables e below (T168.setTop (mkF m 154 #[.val (.int p0), .val (.int p1), .val (.int p2), .val (.int (p0 &&& (1023 : Int32))), .val (.int ((p1 &&& (2147483647 : Int32)) % (3 : Int32))), .val (.int ((p2 &&& (2147483647 : Int32)) % (3 : Int32))), .val (.ref st_PermissionClass_GROUP), .val (.int (8 : Int32)), .val (.ref st_Access_WRITE), .val (.int (2 : Int32)), .val (.int (16 : Int32)), .val (.int jx), .val (.ref b152)] [])) _
            refine XS.iconst X168.here hx rfl (hb hby at_154) ?_
            show Steps p.tables e below (T168.setTop (mkF m 155 #[.val (.int p0), .val (.int p1), .val (.int p2), .val (.int (p0 &&& (1023 : Int32))), .val (.int ((p1 &&& (2147483647 : Int32)) % (3 : Int32))), .val (.int ((p2 &&& (2147483647 : Int32)) % (3 : Int32))), .val (.ref st_PermissionClass_GROUP), .val (.int (8 : Int32)), .val (.ref st_Access_WRITE), .val (.int (2 : Int32)), .val (.int (16 : Int32)), .val (.int jx), .val (.ref b152)] [(.int (1 : Int32))])) _
            refine XS.goto X168.here hx rfl (pc0 := 155) (pc' := 159) rfl (hb hby at_155) (by decide) (by decide) ?_
            exact h
          obtain ⟨fs, hr, hrun, hended, hW, hsame⟩ := X168.leave (v := some (.int (1 : Int32))) (fun h => by rw [Bd.returns] at h; cases h) Bd.notSynchronized
          refine ⟨_, _, pre0 _ (k171 _ ?_), hrun, hended, _, _, rfl, ?_, ⟨_, rfl⟩, hW, hsame.mono (by decide) (by decide)⟩
          · exact retN X168 hx (t := .boolean) Bd.returns (by simp) (hb hby at_159) hr
          · show Q_rm0 Z _ _ _ _ _ _ _ _ _ h0 n0 _ T168.heap _
            rw [eq168]
            exact ⟨rfl, N168⟩
        · skip
          obtain ⟨T172, X172, e172, st172⟩ := getS2 X113 hx hZ hown (host := "") (Or.inl (hw _ (List.mem_of_getElem? (i := 4) rfl))) Via.refl e113 S_Access_EXECUTE (g := (mkF m 98 #[.val (.int p0), .val (.int p1), .val (.int p2), .val (.int (p0 &&& (1023 : Int32))), .val (.int ((p1 &&& (2147483647 : Int32)) % (3 : Int32))), .val (.int ((p2 &&& (2147483647 : Int32)) % (3 : Int32))), .val (.ref st_PermissionClass_GROUP), .val (.int (8 : Int32)), .unset, .unset, .unset, .unset, .unset] [])) rfl (hb hby at_98)
          have k173 : ∀ t, Steps p.tables e below (T172.setTop (mkF m 113 #[.val (.int p0), .val (.int p1), .val (.int p2), .val (.int (p0 &&& (1023 : Int32))), .val (.int ((p1 &&& (2147483647 : Int32)) % (3 : Int32))), .val (.int ((p2 &&& (2147483647 : Int32)) % (3 : Int32))), .val (.ref st_PermissionClass_GROUP), .val (.int (8 : Int32)), .val (.ref st_Access_EXECUTE), .val (.int (1 : Int32)), .val (.int (8 : Int32)), .unset, .unset] [])) t → Steps p.tables e below (s₁.setTop (mkF m 0 #[.val (.int p0), .val (.int p1), .val (.int p2), .unset, .unset, .unset, .unset, .unset, .unset, .unset, .unset, .unset, .unset] [])) t := by
            intro t h
            refine k143 t ?_
            show Steps p.tables e below (T113.setTop (mkF m 84 #[.val (.int p0), .val (.int p1), .val (.int p2), .val (.int (p0 &&& (1023 : Int32))), .val (.int ((p1 &&& (2147483647 : Int32)) % (3 : Int32))), .val (.int ((p2 &&& (2147483647 : Int32)) % (3 : Int32))), .val (.ref st_PermissionClass_GROUP), .val (.int (8 : Int32)), .unset, .unset, .unset, .unset, .unset] [(.int (1 : Int32)), (.int ((p2 &&& (2147483647 : Int32)) % (3 : Int32)))])) _
            refine XS.icmpYes X113.here hx rfl (pc0 := 84) (pc' := 98) rfl (hb hby at_84) rfl (feq c84_144).2 (by decide) (by decide) ?_
            show Steps p.tables e below (T113.setTop (mkF m 98 #[.val (.int p0), .val (.int p1), .val (.int p2), .val (.int (p0 &&& (1023 : Int32))), .val (.int ((p1 &&& (2147483647 : Int32)) % (3 : Int32))), .val (.int ((p2 &&& (2147483647 : Int32)) % (3 : Int32))), .val (.ref st_PermissionClass_GROUP), .val (.int (8 : Int32)), .unset, .unset, .unset, .unset, .unset] [])) _
            refine st172 _ ?_
            show Steps p.tables e below (T172.setTop (mkF m 101 #[.val (.int p0), .val (.int p1), .val (.int p2), .val (.int (p0 &&& (1023 : Int32))), .val (.int ((p1 &&& (2147483647 : Int32)) % (3 : Int32))), .val (.int ((p2 &&& (2147483647 : Int32)) % (3 : Int32))), .val (.ref st_PermissionClass_GROUP), .val (.int (8 : Int32)), .unset, .unset, .unset, .unset, .unset] [(.ref st_Access_EXECUTE)])) _
            refine XS.astore X172.here hx rfl (hb hby at_101) rfl rfl (l' := #[.val (.int p0), .val (.int p1), .val (.int p2), .val (.int (p0 &&& (1023 : Int32))), .val (.int ((p1 &&& (2147483647 : Int32)) % (3 : Int32))), .val (.int ((p2 &&& (2147483647 : Int32)) % (3 : Int32))), .val (.ref st_PermissionClass_GROUP), .val (.int (8 : Int32)), .val (.ref st_Access_EXECUTE), .unset, .unset, .unset, .unset]) rfl ?_
            show Steps p.tables e below (T172.setTop (mkF m 103 #[.val (.int p0), .val (.int p1), .val (.int p2), .val (.int (p0 &&& (1023 : Int32))), .val (.int ((p1 &&& (2147483647 : Int32)) % (3 : Int32))), .val (.int ((p2 &&& (2147483647 : Int32)) % (3 : Int32))), .val (.ref st_PermissionClass_GROUP), .val (.int (8 : Int32)), .val (.ref st_Access_EXECUTE), .unset, .unset, .unset, .unset] [])) _
            refine XS.iconst X172.here hx rfl (hb hby at_103) ?_
            show Steps p.tables e below (T172.setTop (mkF m 104 #[.val (.int p0), .val (.int p1), .val (.int p2), .val (.int (p0 &&& (1023 : Int32))), .val (.int ((p1 &&& (2147483647 : Int32)) % (3 : Int32))), .val (.int ((p2 &&& (2147483647 : Int32)) % (3 : Int32))), .val (.ref st_PermissionClass_GROUP), .val (.int (8 : Int32)), .val (.ref st_Access_EXECUTE), .unset, .unset, .unset, .unset] [(.int (1 : Int32))])) _
            refine XS.istore X172.here hx rfl (hb hby at_104) rfl (l' := #[.val (.int p0), .val (.int p1), .val (.int p2), .val (.int (p0 &&& (1023 : Int32))), .val (.int ((p1 &&& (2147483647 : Int32)) % (3 : Int32))), .val (.int ((p2 &&& (2147483647 : Int32)) % (3 : Int32))), .val (.ref st_PermissionClass_GROUP), .val (.int (8 : Int32)), .val (.ref st_Access_EXECUTE), .val (.int (1 : Int32)), .unset, .unset, .unset]) rfl ?_
            show Steps p.tables e below (T172.setTop (mkF m 106 #[.val (.int p0), .val (.int p1), .val (.int p2), .val (.int (p0 &&& (1023 : Int32))), .val (.int ((p1 &&& (2147483647 : Int32)) % (3 : Int32))), .val (.int ((p2 &&& (2147483647 : Int32)) % (3 : Int32))), .val (.ref st_PermissionClass_GROUP), .val (.int (8 : Int32)), .val (.ref st_Access_EXECUTE), .val (.int (1 : Int32)), .unset, .unset, .unset] [])) _
            refine XS.iload X172.here hx rfl (hb hby at_106) rfl ?_
            show Steps p.tables e below (T172.setTop (mkF m 108 #[.val (.int p0), .val (.int p1), .val (.int p2), .val (.int (p0 &&& (1023 : Int32))), .val (.int ((p1 &&& (2147483647 : Int32)) % (3 : Int32))), .val (.int ((p2 &&& (2147483647 : Int32)) % (3 : Int32))), .val (.ref st_PermissionClass_GROUP), .val (.int (8 : Int32)), .val (.ref st_Access_EXECUTE), .val (.int (1 : Int32)), .unset, .unset, .unset] [(.int (8 : Int32))])) _
            refine XS.iload X172.here hx rfl (hb hby at_108) rfl ?_
            show Steps p.tables e below (T172.setTop (mkF m 110 #[.val (.int p0), .val (.int p1), .val (.int p2), .val (.int (p0 &&& (1023 : Int32))), .val (.int ((p1 &&& (2147483647 : Int32)) % (3 : Int32))), .val (.int ((p2 &&& (2147483647 : Int32)) % (3 : Int32))), .val (.ref st_PermissionClass_GROUP), .val (.int (8 : Int32)), .val (.ref st_Access_EXECUTE), .val (.int (1 : Int32)), .unset, .unset, .unset] [(.int (1 : Int32)), (.int (8 : Int32))])) _
            refine XS.imul X172.here hx rfl (hb hby at_110) rfl ?_
            show Steps p.tables e below (T172.setTop (mkF m 111 #[.val (.int p0), .val (.int p1), .val (.int p2), .val (.int (p0 &&& (1023 : Int32))), .val (.int ((p1 &&& (2147483647 : Int32)) % (3 : Int32))), .val (.int ((p2 &&& (2147483647 : Int32)) % (3 : Int32))), .val (.ref st_PermissionClass_GROUP), .val (.int (8 : Int32)), .val (.ref st_Access_EXECUTE), .val (.int (1 : Int32)), .unset, .unset, .unset] [(.int (8 : Int32))])) _
            refine XS.istore X172.here hx rfl (hb hby at_111) rfl (l' := #[.val (.int p0), .val (.int p1), .val (.int p2), .val (.int (p0 &&& (1023 : Int32))), .val (.int ((p1 &&& (2147483647 : Int32)) % (3 : Int32))), .val (.int ((p2 &&& (2147483647 : Int32)) % (3 : Int32))), .val (.ref st_PermissionClass_GROUP), .val (.int (8 : Int32)), .val (.ref st_Access_EXECUTE), .val (.int (1 : Int32)), .val (.int (8 : Int32)), .unset, .unset]) rfl ?_
            exact h
          obtain ⟨jx, hk174, k174⟩ : ∃ (jx : Int32), (jx = if (((p0 &&& (1023 : Int32)) / (8 : Int32)) % (2 : Int32)) = (1 : Int32) then 1 else 0) ∧ ∀ t, Steps p.tables e below (T172.setTop (mkF m 128 #[.val (.int p0), .val (.int p1), .val (.int p2), .val (.int (p0 &&& (1023 : Int32))), .val (.int ((p1 &&& (2147483647 : Int32)) % (3 : Int32))), .val (.int ((p2 &&& (2147483647 : Int32)) % (3 : Int32))), .val (.ref st_PermissionClass_GROUP), .val (.int (8 : Int32)), .val (.ref st_Access_EXECUTE), .val (.int (1 : Int32)), .val (.int (8 : Int32)), .unset, .unset] [(.int jx)])) t → Steps p.tables e below (s₁.setTop (mkF m 0 #[.val (.int p0), .val (.int p1), .val (.int p2), .unset, .unset, .unset, .unset, .unset, .unset, .unset, .unset, .unset, .unset] [])) t := by
            have k175 : ∀ t, Steps p.tables e below (T172.setTop (mkF m 120 #[.val (.int p0), .val (.int p1), .val (.int p2), .val (.int (p0 &&& (1023 : Int32))), .val (.int ((p1 &&& (2147483647 : Int32)) % (3 : Int32))), .val (.int ((p2 &&& (2147483647 : Int32)) % (3 : Int32))), .val (.ref st_PermissionClass_GROUP), .val (.int (8 : Int32)), .val (.ref st_Access_EXECUTE), .val (.int (1 : Int32)), .val (.int (8 : Int32)), .unset, .unset] [(.int (1 : Int32)), (.int (((p0 &&& (1023 : Int32)) / (8 : Int32)) % (2 : Int32)))])) t → Steps p.tables e below (s₁.setTop (mkF m 0 #[.val (.int p0), .val (.int p1), .val (.int p2), .unset, .unset, .unset, .unset, .unset, .unset, .unset, .unset, .unset, .unset] [])) t := by
              intro t h
              refine k173 t ?_
              show Steps p.tables e below (T172.setTop (mkF m 113 #[.val (.int p0), .val (.int p1), .val (.int p2), .val (.int (p0 &&& (1023 : Int32))), .val (.int ((p1 &&& (2147483647 : Int32)) % (3 : Int32))), .val (.int ((p2 &&& (2147483647 : Int32)) % (3 : Int32))), .val (.ref st_PermissionClass_GROUP), .val (.int (8 : Int32)), .val (.ref st_Access_EXECUTE), .val (.int (1 : Int32)), .val (.int (8 : Int32)), .unset, .unset] [])) _
              refine XS.iloadN X172.here hx rfl (hb hby at_113) rfl ?_
              show Steps p.tables e below (T172.setTop (mkF m 114 #[.val (.int p0), .val (.int p1), .val (.int p2), .val (.int (p0 &&& (1023 : Int32))), .val (.int ((p1 &&& (2147483647 : Int32)) % (3 : Int32))), .val (.int ((p2 &&& (2147483647 : Int32)) % (3 : Int32))), .val (.ref st_PermissionClass_GROUP), .val (.int (8 : Int32)), .val (.ref st_Access_EXECUTE), .val (.int (1 : Int32)), .val (.int (8 : Int32)), .unset, .unset] [(.int (p0 &&& (1023 : Int32)))])) _
              refine XS.iload X172.here hx rfl (hb hby at_114) rfl ?_
              show Steps p.tables e below (T172.setTop (mkF m 116 #[.val (.int p0), .val (.int p1), .val (.int p2), .val (.int (p0 &&& (1023 : Int32))), .val (.int ((p1 &&& (2147483647 : Int32)) % (3 : Int32))), .val (.int ((p2 &&& (2147483647 : Int32)) % (3 : Int32))), .val (.ref st_PermissionClass_GROUP), .val (.int (8 : Int32)), .val (.ref st_Access_EXECUTE), .val (.int (1 : Int32)), .val (.int (8 : Int32)), .unset, .unset] [(.int (8 : Int32)), (.int (p0 &&& (1023 : Int32)))])) _
              refine XS.idiv X172.here hx rfl (hb hby at_116) rfl (by decide) ?_
              show Steps p.tables e below (T172.setTop (mkF m 117 #[.val (.int p0), .val (.int p1), .val (.int p2), .val (.int (p0 &&& (1023 : Int32))), .val (.int ((p1 &&& (2147483647 : Int32)) % (3 : Int32))), .val (.int ((p2 &&& (2147483647 : Int32)) % (3 : Int32))), .val (.ref st_PermissionClass_GROUP), .val (.int (8 : Int32)), .val (.ref st_Access_EXECUTE), .val (.int (1 : Int32)), .val (.int (8 : Int32)), .unset, .unset] [(.int ((p0 &&& (1023 : Int32)) / (8 : Int32)))])) _
              refine XS.iconst X172.here hx rfl (hb hby at_117) ?_
              show Steps p.tables e below (T172.setTop (mkF m 118 #[.val (.int p0), .val (.int p1), .val (.int p2), .val (.int (p0 &&& (1023 : Int32))), .val (.int ((p1 &&& (2147483647 : Int32)) % (3 : Int32))), .val (.int ((p2 &&& (2147483647 : Int32)) % (3 : Int32))), .val (.ref st_PermissionClass_GROUP), .val (.int (8 : Int32)), .val (.ref st_Access_EXECUTE), .val (.int (1 : Int32)), .val (.int (8 : Int32)), .unset, .unset] [(.int (2 : Int32)), (.int ((p0 &&& (1023 : Int32)) / (8 : Int32)))])) _
              refine iremM (g := (mkF m 118 #[.val (.int p0), .val (.int p1), .val (.int p2), .val (.int (p0 &&& (1023 : Int32))), .val (.int ((p1 &&& (2147483647 : Int32)) % (3 : Int32))), .val (.int ((p2 &&& (2147483647 : Int32)) % (3 : Int32))), .val (.ref st_PermissionClass_GROUP), .val (.int (8 : Int32)), .val (.ref st_Access_EXECUTE), .val (.int (1 : Int32)), .val (.int (8 : Int32)), .unset, .unset] [(.int (2 : Int32)), (.int ((p0 &&& (1023 : Int32)) / (8 : Int32)))])) X172 hx rfl (hb hby at_118) rfl (by decide) ?_
              show Steps p.tables e below (T172.setTop (mkF m 119 #[.val (.int p0), .val (.int p1), .val (.int p2), .val (.int (p0 &&& (1023 : Int32))), .val (.int ((p1 &&& (2147483647 : Int32)) % (3 : Int32))), .val (.int ((p2 &&& (2147483647 : Int32)) % (3 : Int32))), .val (.ref st_PermissionClass_GROUP), .val (.int (8 : Int32)), .val (.ref st_Access_EXECUTE), .val (.int (1 : Int32)), .val (.int (8 : Int32)), .unset, .unset] [(.int (((p0 &&& (1023 : Int32)) / (8 : Int32)) % (2 : Int32)))])) _
              refine XS.iconst X172.here hx rfl (hb hby at_119) ?_
              exact h
            by_cases c120_176 : (((p0 &&& (1023 : Int32)) / (8 : Int32)) % (2 : Int32)) = (1 : Int32)
            · skip
              have k177 : ∀ t, Steps p.tables e below (T172.setTop (mkF m 128 #[.val (.int p0), .val (.int p1), .val (.int p2), .val (.int (p0 &&& (1023 : Int32))), .val (.int ((p1 &&& (2147483647 : Int32)) % (3 : Int32))), .val (.int ((p2 &&& (2147483647 : Int32)) % (3 : Int32))), .val (.ref st_PermissionClass_GROUP), .val (.int (8 : Int32)), .val (.ref st_Access_EXECUTE), .val (.int (1 : Int32)), .val (.int (8 : Int32)), .unset, .unset] [(.int (1 : Int32))])) t → Steps p.tables e below (s₁.setTop (mkF m 0 #[.val (.int p0), .val (.int p1), .val (.int p2), .unset, .unset, .unset, .unset, .unset, .unset, .unset, .unset, .unset, .unset] [])) t := by
                intro t h
                refine k175 t ?_
                show Steps p.tables e below (T172.setTop (mkF m 120 #[.val (.int p0), .val (.int p1), .val (.int p2), .val (.int (p0 &&& (1023 : Int32))), .val (.int ((p1 &&& (2147483647 : Int32)) % (3 : Int32))), .val (.int ((p2 &&& (2147483647 : Int32)) % (3 : Int32))), .val (.ref st_PermissionClass_GROUP), .val (.int (8 : Int32)), .val (.ref st_Access_EXECUTE), .val (.int (1 : Int32)), .val (.int (8 : Int32)), .unset, .unset] [(.int (1 : Int32)), (.int (((p0 &&& (1023 : Int32)) / (8 : Int32)) % (2 : Int32)))])) _
                refine XS.icmpNo X172.here hx rfl (hb hby at_120) rfl (teq c120_176).2 ?_
                show Steps p.tables e below (T172.setTop (mkF m 123 #[.val (.int p0), .val (.int p1), .val (.int p2), .val (.int (p0 &&& (1023 : Int32))), .val (.int ((p1 &&& (2147483647 : Int32)) % (3 : Int32))), .val (.int ((p2 &&& (2147483647 : Int32)) % (3 : Int32))), .val (.ref st_PermissionClass_GROUP), .val (.int (8 : Int32)), .val (.ref st_Access_EXECUTE), .val (.int (1 : Int32)), .val (.int (8 : Int32)), .unset, .unset] [])) _
                refine XS.iconst X172.here hx rfl (hb hby at_123) ?_
                show Steps p.tables e below (T172.setTop (mkF m 124 #[.val (.int p0), .val (.int p1), .val (.int p2), .val (.int (p0 &&& (1023 : Int32))), .val (.int ((p1 &&& (2147483647 : Int32)) % (3 : Int32))), .val (.int ((p2 &&& (2147483647 : Int32)) % (3 : Int32))), .val (.ref st_PermissionClass_GROUP), .val (.int (8 : Int32)), .val (.ref st_Access_EXECUTE), .val (.int (1 : Int32)), .val (.int (8 : Int32)), .unset, .unset] [(.int (1 : Int32))])) _
                refine XS.goto X172.here hx rfl (pc0 := 124) (pc' := 128) rfl (hb hby at_124) (by decide) (by decide) ?_
                exact h
              exact ⟨(1 : Int32), by rw [if_pos c120_176], k177⟩
            · skip
              have k178 : ∀ t, Steps p.tables e below (T172.setTop (mkF m 128 #[.val (.int p0), .val (.int p1), .val (.int p2), .val (.int (p0 &&& (1023 : Int32))), .val (.int ((p1 &&& (2147483647 : Int32)) % (3 : Int32))), .val (.int ((p2 &&& (2147483647 : Int32)) % (3 : Int32))), .val (.ref st_PermissionClass_GROUP), .val (.int (8 : Int32)), .val (.ref st_Access_EXECUTE), .val (.int (1 : Int32)), .val (.int (8 : Int32)), .unset, .unset] [(.int (0 : Int32))])) t → Steps p.tables e below (s₁.setTop (mkF m 0 #[.val (.int p0), .val (.int p1), .val (.int p2), .unset, .unset, .unset, .unset, .unset, .unset, .unset, .unset, .unset, .unset] [])) t := by
                intro t h
                refine k175 t ?_
                show Steps p.tables e below (T172.setTop (mkF m 120 #[.val (.int p0), .val (.int p1), .val (.int p2), .val (.int (p0 &&& (1023 : Int32))), .val (.int ((p1 &&& (2147483647 : Int32)) % (3 : Int32))), .val (.int ((p2 &&& (2147483647 : Int32)) % (3 : Int32))), .val (.ref st_PermissionClass_GROUP), .val (.int (8 : Int32)), .val (.ref st_Access_EXECUTE), .val (.int (1 : Int32)), .val (.int (8 : Int32)), .unset, .unset] [(.int (1 : Int32)), (.int (((p0 &&& (1023 : Int32)) / (8 : Int32)) % (2 : Int32)))])) _
                refine XS.icmpYes X172.here hx rfl (pc0 := 120) (pc' := 127) rfl (hb hby at_120) rfl (feq c120_176).2 (by decide) (by decide) ?_
                show Steps p.tables e below (T172.setTop (mkF m 127 #[.val (.int p0), .val (.int p1), .val (.int p2), .val (.int (p0 &&& (1023 : Int32))), .val (.int ((p1 &&& (2147483647 : Int32)) % (3 : Int32))), .val (.int ((p2 &&& (2147483647 : Int32)) % (3 : Int32))), .val (.ref st_PermissionClass_GROUP), .val (.int (8 : Int32)), .val (.ref st_Access_EXECUTE), .val (.int (1 : Int32)), .val (.int (8 : Int32)), .unset, .unset] [])) _
                refine XS.iconst X172.here hx rfl (hb hby at_127) ?_
                exact h
              exact ⟨(0 : Int32), by rw [if_neg c120_176], k178⟩
          obtain ⟨T179, h179, X179, e179, E179, A179, D179, -, st179⟩ := newO X172 hx hZ hown (hw _ (List.mem_of_getElem? (i := 7) rfl)) (hw _ (List.mem_of_getElem? (i := 8) rfl)) (hw _ (List.mem_of_getElem? (i := 9) rfl)) e172 (g := (mkF m 130 #[.val (.int p0), .val (.int p1), .val (.int p2), .val (.int (p0 &&& (1023 : Int32))), .val (.int ((p1 &&& (2147483647 : Int32)) % (3 : Int32))), .val (.int ((p2 &&& (2147483647 : Int32)) % (3 : Int32))), .val (.ref st_PermissionClass_GROUP), .val (.int (8 : Int32)), .val (.ref st_Access_EXECUTE), .val (.int (1 : Int32)), .val (.int (8 : Int32)), .val (.int jx), .unset] [])) rfl (hb hby at_130) (by decide) (by decide)
          obtain ⟨b179, g179⟩ : ∃ z, z = h0.size := ⟨_, rfl⟩
          rw [← g179] at A179 D179 st179
          have ne_st_Access_EXECUTE_b179 : st_Access_EXECUTE ≠ b179 := Nat.ne_of_lt (Nat.lt_of_lt_of_le E_Access_EXECUTE.lt (Nat.le_of_eq g179.symm))
          have ne_st_PermissionClass_GROUP_b179 : st_PermissionClass_GROUP ≠ b179 := Nat.ne_of_lt (Nat.lt_of_lt_of_le E_PermissionClass_GROUP.lt (Nat.le_of_eq g179.symm))
          have g_b179 : n0 ≤ b179 := Nat.le_trans Z0 (Nat.le_of_eq g179.symm)
          have sz_b179 : h0.size ≤ b179 := Nat.le_trans K0.1 (Nat.le_of_eq g179.symm)
          have f180 := E_Access_EXECUTE.ext E179
          have f181 := E_PermissionClass_GROUP.ext E179
          have f182 := F_Access_EXECUTE_bit.ext E179
          have f183 := F_PermissionClass_GROUP_shift.ext E179
          have Z184 : n0 ≤ h179.size := Nat.le_trans Z0 E179.1
          have K185 := K0.ext E179
          have f186 : Fld Z h179 b179 "com/example/lats/lats/permission/Mode" "bits" "I" (.int (0 : Int32)) := D179 (Or.inr (hw _ (List.mem_of_getElem? (i := 17) rfl))) (ty := .int) (by decide)
          obtain ⟨_, _, ⟨T187, L187, k187, n187⟩, -, X187, ⟨Lc187, hQ187, l187, y187, z187⟩, st187⟩ := X179.specialBack hx (y := (⟨"com/example/lats/lats/permission/Mode", "<init>", "(I)V"⟩ : MethodName)) rfl hown (mvT hZ (hw _ (List.mem_of_getElem? (i := 10) rfl))) (mvT hZ (hw _ (List.mem_of_getElem? (i := 11) rfl))) (mvT hZ (hw _ (List.mem_of_getElem? (i := 12) rfl))) (by decide) (backOf (W := 1) (rm1 l Z a0 hw [] b179 (p0 &&& (1023 : Int32))  h179 n0 Z184 f186 A179 g_b179 (own_bits p0).1 (own_bits p0).2) hZ (hw _ (List.mem_of_getElem? (i := 12) rfl)) (hw _ (List.mem_of_getElem? (i := 9) rfl)) (by decide) (by decide)) (g := (mkF m 135 #[.val (.int p0), .val (.int p1), .val (.int p2), .val (.int (p0 &&& (1023 : Int32))), .val (.int ((p1 &&& (2147483647 : Int32)) % (3 : Int32))), .val (.int ((p2 &&& (2147483647 : Int32)) % (3 : Int32))), .val (.ref st_PermissionClass_GROUP), .val (.int (8 : Int32)), .val (.ref st_Access_EXECUTE), .val (.int (1 : Int32)), .val (.int (8 : Int32)), .val (.int jx), .unset] [(.int (p0 &&& (1023 : Int32))), (.ref b179), (.ref b179)])) rfl (by rw [hml]; rfl) (Steps.refl _) (a := b179) (argsL := [(.int (p0 &&& (1023 : Int32)))]) (rest := [(.ref b179)]) (lenOf own_pd_1 rfl) rfl (by show 2 * 0 + _ ≤ _; exact Nat.le_of_eq rfl) (hb hby at_135) (fun _ _ => ⟨rfl, e179, (by decide : 1 + 0 ≤ _), (by decide : 1 + 0 ≤ _)⟩)
          dsimp only [Pt.U, Pt.locs, Pt.cells, Pt.slots] at X187 l187 y187 z187 st187 hQ187
          subst l187 y187 z187
          obtain ⟨rfl, Nq187, Kq187, Eq187, Fq187⟩ := hQ187
          have N187 := Fr.app N0 Nq187
          have f188 := f180.keep Kq187
          have f189 := f181.keep Kq187
          have f190 := f182.keep Kq187 (ninS ne_st_Access_EXECUTE_b179 nin0)
          have f191 := f183.keep Kq187 (ninS ne_st_PermissionClass_GROUP_b179 nin0)
          have f192 := A179.keep Kq187
          have Z193 : n0 ≤ T187.heap.size := Nat.le_trans Z184 Kq187.1
          have K194 := K185.trans Kq187 (allS (Or.inr sz_b179) all0)
          obtain ⟨cq195, kq195, q195a, q195b, q195c⟩ := isOf hZ rfl f192
          obtain ⟨_, _, ⟨T195, L195, k195, n195⟩, -, X195, ⟨Lc195, hQ195, l195, y195, z195⟩, st195⟩ := X187.virtualBack hx (y := (⟨"com/example/lats/lats/permission/Mode", "grants", "(Lcom/example/lats/lats/permission/PermissionClass;Lcom/example/lats/lats/permission/Access;)Z"⟩ : MethodName)) (z := (⟨"com/example/lats/lats/permission/Mode", "grants", "(Lcom/example/lats/lats/permission/PermissionClass;Lcom/example/lats/lats/permission/Access;)Z"⟩ : MethodName)) hown (mvT hZ (hw _ (List.mem_of_getElem? (i := 18) rfl))) (mvT hZ (hw _ (List.mem_of_getElem? (i := 19) rfl))) (notFace_of_selects (args := #[]) (mvT hZ (hw _ (List.mem_of_getElem? (i := 21) rfl)))) (mvT hZ (hw _ (List.mem_of_getElem? (i := 21) rfl))) (mvT hZ (hw _ (List.mem_of_getElem? (i := 20) rfl))) (by decide) (backOf (W := 0) (rmG l Z a0 hw [] b179 st_PermissionClass_GROUP st_Access_EXECUTE (p0 &&& (1023 : Int32)) (3 : Int32) (1 : Int32) T187.heap n0 Z193 Fq187 f191 f190 f189 f188) hZ (hw _ (List.mem_of_getElem? (i := 22) rfl)) (hw _ (List.mem_of_getElem? (i := 9) rfl)) (by decide) (by decide)) q195a q195c (g := (mkF m 146 #[.val (.int p0), .val (.int p1), .val (.int p2), .val (.int (p0 &&& (1023 : Int32))), .val (.int ((p1 &&& (2147483647 : Int32)) % (3 : Int32))), .val (.int ((p2 &&& (2147483647 : Int32)) % (3 : Int32))), .val (.ref st_PermissionClass_GROUP), .val (.int (8 : Int32)), .val (.ref st_Access_EXECUTE), .val (.int (1 : Int32)), .val (.int (8 : Int32)), .val (.int jx), .val (.ref b179)] [(.ref st_Access_EXECUTE), (.ref st_PermissionClass_GROUP), (.ref b179)])) rfl (by rw [hml]; rfl) (Steps.refl _) (argsL := [(.ref st_PermissionClass_GROUP), (.ref st_Access_EXECUTE)]) (rest := []) (lenOf own_pd_2 rfl) rfl (by show 2 * 0 + _ ≤ _; exact Nat.le_of_eq rfl) (hb hby at_146) (fun _ _ => ⟨rfl, rfl, (by decide : 1 + 0 ≤ _), (by decide : 1 + 0 ≤ _)⟩)
          dsimp only [Pt.U, Pt.locs, Pt.cells, Pt.slots] at X195 l195 y195 z195 st195 hQ195
          subst l195 y195 z195
          obtain ⟨rfl, Nq195, eq195⟩ := hQ195
          have N195 := Fr.app N187 Nq195
          have k196 : ∀ t, Steps p.tables e below (T195.setTop (mkF m 151 #[.val (.int p0), .val (.int p1), .val (.int p2), .val (.int (p0 &&& (1023 : Int32))), .val (.int ((p1 &&& (2147483647 : Int32)) % (3 : Int32))), .val (.int ((p2 &&& (2147483647 : Int32)) % (3 : Int32))), .val (.ref st_PermissionClass_GROUP), .val (.int (8 : Int32)), .val (.ref st_Access_EXECUTE), .val (.int (1 : Int32)), .val (.int (8 : Int32)), .val (.int jx), .val (.ref b179)] [(.int jx), (.int (own_gr (p0 &&& (1023 : Int32)) (1 : Int32) (3 : Int32)))])) t → Steps p.tables e below (s₁.setTop (mkF m 0 #[.val (.int p0), .val (.int p1), .val (.int p2), .unset, .unset, .unset, .unset, .unset, .unset, .unset, .unset, .unset, .unset] [])) t := by
            intro t h
            refine k174 t ?_
            show Steps p.tables e below (T172.setTop (mkF m 128 #[.val (.int p0), .val (.int p1), .val (.int p2), .val (.int (p0 &&& (1023 : Int32))), .val (.int ((p1 &&& (2147483647 : Int32)) % (3 : Int32))), .val (.int ((p2 &&& (2147483647 : Int32)) % (3 : Int32))), .val (.ref st_PermissionClass_GROUP), .val (.int (8 : Int32)), .val (.ref st_Access_EXECUTE), .val (.int (1 : Int32)), .val (.int (8 : Int32)), .unset, .unset] [(.int jx)])) _
            refine XS.istore X172.here hx rfl (hb hby at_128) rfl (l' := #[.val (.int p0), .val (.int p1), .val (.int p2), .val (.int (p0 &&& (1023 : Int32))), .val (.int ((p1 &&& (2147483647 : Int32)) % (3 : Int32))), .val (.int ((p2 &&& (2147483647 : Int32)) % (3 : Int32))), .val (.ref st_PermissionClass_GROUP), .val (.int (8 : Int32)), .val (.ref st_Access_EXECUTE), .val (.int (1 : Int32)), .val (.int (8 : Int32)), .val (.int jx), .unset]) rfl ?_
            show Steps p.tables e below (T172.setTop (mkF m 130 #[.val (.int p0), .val (.int p1), .val (.int p2), .val (.int (p0 &&& (1023 : Int32))), .val (.int ((p1 &&& (2147483647 : Int32)) % (3 : Int32))), .val (.int ((p2 &&& (2147483647 : Int32)) % (3 : Int32))), .val (.ref st_PermissionClass_GROUP), .val (.int (8 : Int32)), .val (.ref st_Access_EXECUTE), .val (.int (1 : Int32)), .val (.int (8 : Int32)), .val (.int jx), .unset] [])) _
            refine st179 _ ?_
            show Steps p.tables e below (T179.setTop (mkF m 133 #[.val (.int p0), .val (.int p1), .val (.int p2), .val (.int (p0 &&& (1023 : Int32))), .val (.int ((p1 &&& (2147483647 : Int32)) % (3 : Int32))), .val (.int ((p2 &&& (2147483647 : Int32)) % (3 : Int32))), .val (.ref st_PermissionClass_GROUP), .val (.int (8 : Int32)), .val (.ref st_Access_EXECUTE), .val (.int (1 : Int32)), .val (.int (8 : Int32)), .val (.int jx), .unset] [(.ref b179)])) _
            refine XS.dup X179.here hx rfl (hb hby at_133) rfl rfl ?_
            show Steps p.tables e below (T179.setTop (mkF m 134 #[.val (.int p0), .val (.int p1), .val (.int p2), .val (.int (p0 &&& (1023 : Int32))), .val (.int ((p1 &&& (2147483647 : Int32)) % (3 : Int32))), .val (.int ((p2 &&& (2147483647 : Int32)) % (3 : Int32))), .val (.ref st_PermissionClass_GROUP), .val (.int (8 : Int32)), .val (.ref st_Access_EXECUTE), .val (.int (1 : Int32)), .val (.int (8 : Int32)), .val (.int jx), .unset] [(.ref b179), (.ref b179)])) _
            refine XS.iloadN X179.here hx rfl (hb hby at_134) rfl ?_
            show Steps p.tables e below (T179.setTop (mkF m 135 #[.val (.int p0), .val (.int p1), .val (.int p2), .val (.int (p0 &&& (1023 : Int32))), .val (.int ((p1 &&& (2147483647 : Int32)) % (3 : Int32))), .val (.int ((p2 &&& (2147483647 : Int32)) % (3 : Int32))), .val (.ref st_PermissionClass_GROUP), .val (.int (8 : Int32)), .val (.ref st_Access_EXECUTE), .val (.int (1 : Int32)), .val (.int (8 : Int32)), .val (.int jx), .unset] [(.int (p0 &&& (1023 : Int32))), (.ref b179), (.ref b179)])) _
            refine st187.trans ?_
            show Steps p.tables e below (T187.setTop (mkF m 138 #[.val (.int p0), .val (.int p1), .val (.int p2), .val (.int (p0 &&& (1023 : Int32))), .val (.int ((p1 &&& (2147483647 : Int32)) % (3 : Int32))), .val (.int ((p2 &&& (2147483647 : Int32)) % (3 : Int32))), .val (.ref st_PermissionClass_GROUP), .val (.int (8 : Int32)), .val (.ref st_Access_EXECUTE), .val (.int (1 : Int32)), .val (.int (8 : Int32)), .val (.int jx), .unset] [(.ref b179)])) _
            refine XS.astore X187.here hx rfl (hb hby at_138) rfl rfl (l' := #[.val (.int p0), .val (.int p1), .val (.int p2), .val (.int (p0 &&& (1023 : Int32))), .val (.int ((p1 &&& (2147483647 : Int32)) % (3 : Int32))), .val (.int ((p2 &&& (2147483647 : Int32)) % (3 : Int32))), .val (.ref st_PermissionClass_GROUP), .val (.int (8 : Int32)), .val (.ref st_Access_EXECUTE), .val (.int (1 : Int32)), .val (.int (8 : Int32)), .val (.int jx), .val (.ref b179)]) rfl ?_
            show Steps p.tables e below (T187.setTop (mkF m 140 #[.val (.int p0), .val (.int p1), .val (.int p2), .val (.int (p0 &&& (1023 : Int32))), .val (.int ((p1 &&& (2147483647 : Int32)) % (3 : Int32))), .val (.int ((p2 &&& (2147483647 : Int32)) % (3 : Int32))), .val (.ref st_PermissionClass_GROUP), .val (.int (8 : Int32)), .val (.ref st_Access_EXECUTE), .val (.int (1 : Int32)), .val (.int (8 : Int32)), .val (.int jx), .val (.ref b179)] [])) _
            refine XS.aload X187.here hx rfl (hb hby at_140) rfl rfl ?_
            show Steps p.tables e below (T187.setTop (mkF m 142 #[.val (.int p0), .val (.int p1), .val (.int p2), .val (.int (p0 &&& (1023 : Int32))), .val (.int ((p1 &&& (2147483647 : Int32)) % (3 : Int32))), .val (.int ((p2 &&& (2147483647 : Int32)) % (3 : Int32))), .val (.ref st_PermissionClass_GROUP), .val (.int (8 : Int32)), .val (.ref st_Access_EXECUTE), .val (.int (1 : Int32)), .val (.int (8 : Int32)), .val (.int jx), .val (.ref b179)] [(.ref b179)])) _
            refine XS.aload X187.here hx rfl (hb hby at_142) rfl rfl ?_
            show Steps p.tables e below (T187.setTop (mkF m 144 #[.val (.int p0), .val (.int p1), .val (.int p2), .val (.int (p0 &&& (1023 : Int32))), .val (.int ((p1 &&& (2147483647 : Int32)) % (3 : Int32))), .val (.int ((p2 &&& (2147483647 : Int32)) % (3 : Int32))), .val (.ref st_PermissionClass_GROUP), .val (.int (8 : Int32)), .val (.ref st_Access_EXECUTE), .val (.int (1 : Int32)), .val (.int (8 : Int32)), .val (.int jx), .val (.ref b179)] [(.ref st_PermissionClass_GROUP), (.ref b179)])) _
            refine XS.aload X187.here hx rfl (hb hby at_144) rfl rfl ?_
            show Steps p.tables e below (T187.setTop (mkF m 146 #[.val (.int p0), .val (.int p1), .val (.int p2), .val (.int (p0 &&& (1023 : Int32))), .val (.int ((p1 &&& (2147483647 : Int32)) % (3 : Int32))), .val (.int ((p2 &&& (2147483647 : Int32)) % (3 : Int32))), .val (.ref st_PermissionClass_GROUP), .val (.int (8 : Int32)), .val (.ref st_Access_EXECUTE), .val (.int (1 : Int32)), .val (.int (8 : Int32)), .val (.int jx), .val (.ref b179)] [(.ref st_Access_EXECUTE), (.ref st_PermissionClass_GROUP), (.ref b179)])) _
            refine st195.trans ?_
            show Steps p.tables e below (T195.setTop (mkF m 149 #[.val (.int p0), .val (.int p1), .val (.int p2), .val (.int (p0 &&& (1023 : Int32))), .val (.int ((p1 &&& (2147483647 : Int32)) % (3 : Int32))), .val (.int ((p2 &&& (2147483647 : Int32)) % (3 : Int32))), .val (.ref st_PermissionClass_GROUP), .val (.int (8 : Int32)), .val (.ref st_Access_EXECUTE), .val (.int (1 : Int32)), .val (.int (8 : Int32)), .val (.int jx), .val (.ref b179)] [(.int (own_gr (p0 &&& (1023 : Int32)) (1 : Int32) (3 : Int32)))])) _
            refine XS.iload X195.here hx rfl (hb hby at_149) rfl ?_
            exact h
          have b151_197 : (own_gr (p0 &&& (1023 : Int32)) (1 : Int32) (3 : Int32)) = jx := by rw [hk174]; exact own_t8_1 p0
          have k198 : ∀ t, Steps p.tables e below (T195.setTop (mkF m 159 #[.val (.int p0), .val (.int p1), .val (.int p2), .val (.int (p0 &&& (1023 : Int32))), .val (.int ((p1 &&& (2147483647 : Int32)) % (3 : Int32))), .val (.int ((p2 &&& (2147483647 : Int32)) % (3 : Int32))), .val (.ref st_PermissionClass_GROUP), .val (.int (8 : Int32)), .val (.ref st_Access_EXECUTE), .val (.int (1 : Int32)), .val (.int (8 : Int32)), .val (.int jx), .val (.ref b179)] [(.int (1 : Int32))])) t → Steps p.tables e below (s₁.setTop (mkF m 0 #[.val (.int p0), .val (.int p1), .val (.int p2), .unset, .unset, .unset, .unset, .unset, .unset, .unset, .unset, .unset, .unset] [])) t := by
            intro t h
            refine k196 t ?_
            show Steps p.tables e below (T195.setTop (mkF m 151 #[.val (.int p0), .val (.int p1), .val (.int p2), .val (.int (p0 &&& (1023 : Int32))), .val (.int ((p1 &&& (2147483647 : Int32)) % (3 : Int32))), .val (.int ((p2 &&& (2147483647 : Int32)) % (3 : Int32))), .val (.ref st_PermissionClass_GROUP), .val (.int (8 : Int32)), .val (.ref st_Access_EXECUTE), .val (.int (1 : Int32)), .val (.int (8 : Int32)), .val (.int jx), .val (.ref b179)] [(.int jx), (.int (own_gr (p0 &&& (1023 : Int32)) (1 : Int32) (3 : Int32)))])) _
            refine XS.icmpNo X195.here hx rfl (hb hby at_151) rfl (teq b151_197).2 ?_
            show Steps p.tables e below (T195.setTop (mkF m 154 #[.val (.int p0), .val (.int p1), .val (.int p2), .val (.int (p0 &&& (1023 : Int32))), .val (.int ((p1 &&& (2147483647 : Int32)) % (3 : Int32))), .val (.int ((p2 &&& (2147483647 : Int32)) % (3 : Int32))), .val (.ref st_PermissionClass_GROUP), .val (.int (8 : Int32)), .val (.ref st_Access_EXECUTE), .val (.int (1 : Int32)), .val (.int (8 : Int32)), .val (.int jx), .val (.ref b179)] [])) _
            refine XS.iconst X195.here hx rfl (hb hby at_154) ?_
            show Steps p.tables e below (T195.setTop (mkF m 155 #[.val (.int p0), .val (.int p1), .val (.int p2), .val (.int (p0 &&& (1023 : Int32))), .val (.int ((p1 &&& (2147483647 : Int32)) % (3 : Int32))), .val (.int ((p2 &&& (2147483647 : Int32)) % (3 : Int32))), .val (.ref st_PermissionClass_GROUP), .val (.int (8 : Int32)), .val (.ref st_Access_EXECUTE), .val (.int (1 : Int32)), .val (.int (8 : Int32)), .val (.int jx), .val (.ref b179)] [(.int (1 : Int32))])) _
            refine XS.goto X195.here hx rfl (pc0 := 155) (pc' := 159) rfl (hb hby at_155) (by decide) (by decide) ?_
            exact h
          obtain ⟨fs, hr, hrun, hended, hW, hsame⟩ := X195.leave (v := some (.int (1 : Int32))) (fun h => by rw [Bd.returns] at h; cases h) Bd.notSynchronized
          refine ⟨_, _, pre0 _ (k198 _ ?_), hrun, hended, _, _, rfl, ?_, ⟨_, rfl⟩, hW, hsame.mono (by decide) (by decide)⟩
          · exact retN X195 hx (t := .boolean) Bd.returns (by simp) (hb hby at_159) hr
          · show Q_rm0 Z _ _ _ _ _ _ _ _ _ h0 n0 _ T195.heap _
            rw [eq195]
            exact ⟨rfl, N195⟩
    · skip
      obtain ⟨T199, X199, e199, st199⟩ := getS2 X0 hx hZ hown (host := "") (Or.inl (hw _ (List.mem_of_getElem? (i := 39) rfl))) Via.refl e0 S_PermissionClass_OTHERS (g := (mkF m 57 #[.val (.int p0), .val (.int p1), .val (.int p2), .val (.int (p0 &&& (1023 : Int32))), .val (.int ((p1 &&& (2147483647 : Int32)) % (3 : Int32))), .val (.int ((p2 &&& (2147483647 : Int32)) % (3 : Int32))), .unset, .unset, .unset, .unset, .unset, .unset, .unset] [])) rfl (hb hby at_57)
      have k200 : ∀ t, Steps p.tables e below (T199.setTop (mkF m 67 #[.val (.int p0), .val (.int p1), .val (.int p2), .val (.int (p0 &&& (1023 : Int32))), .val (.int ((p1 &&& (2147483647 : Int32)) % (3 : Int32))), .val (.int ((p2 &&& (2147483647 : Int32)) % (3 : Int32))), .val (.ref st_PermissionClass_OTHERS), .val (.int (1 : Int32)), .unset, .unset, .unset, .unset, .unset] [(.int ((p2 &&& (2147483647 : Int32)) % (3 : Int32)))])) t → Steps p.tables e below (s₁.setTop (mkF m 0 #[.val (.int p0), .val (.int p1), .val (.int p2), .unset, .unset, .unset, .unset, .unset, .unset, .unset, .unset, .unset, .unset] [])) t := by
        intro t h
        refine k111 t ?_
        show Steps p.tables e below (s₁.setTop (mkF m 42 #[.val (.int p0), .val (.int p1), .val (.int p2), .val (.int (p0 &&& (1023 : Int32))), .val (.int ((p1 &&& (2147483647 : Int32)) % (3 : Int32))), .val (.int ((p2 &&& (2147483647 : Int32)) % (3 : Int32))), .unset, .unset, .unset, .unset, .unset, .unset, .unset] [(.int (1 : Int32)), (.int ((p1 &&& (2147483647 : Int32)) % (3 : Int32)))])) _
        refine XS.icmpYes X0.here hx rfl (pc0 := 42) (pc' := 57) rfl (hb hby at_42) rfl (feq c42_112).2 (by decide) (by decide) ?_
        show Steps p.tables e below (s₁.setTop (mkF m 57 #[.val (.int p0), .val (.int p1), .val (.int p2), .val (.int (p0 &&& (1023 : Int32))), .val (.int ((p1 &&& (2147483647 : Int32)) % (3 : Int32))), .val (.int ((p2 &&& (2147483647 : Int32)) % (3 : Int32))), .unset, .unset, .unset, .unset, .unset, .unset, .unset] [])) _
        refine st199 _ ?_
        show Steps p.tables e below (T199.setTop (mkF m 60 #[.val (.int p0), .val (.int p1), .val (.int p2), .val (.int (p0 &&& (1023 : Int32))), .val (.int ((p1 &&& (2147483647 : Int32)) % (3 : Int32))), .val (.int ((p2 &&& (2147483647 : Int32)) % (3 : Int32))), .unset, .unset, .unset, .unset, .unset, .unset, .unset] [(.ref st_PermissionClass_OTHERS)])) _
        refine XS.astore X199.here hx rfl (hb hby at_60) rfl rfl (l' := #[.val (.int p0), .val (.int p1), .val (.int p2), .val (.int (p0 &&& (1023 : Int32))), .val (.int ((p1 &&& (2147483647 : Int32)) % (3 : Int32))), .val (.int ((p2 &&& (2147483647 : Int32)) % (3 : Int32))), .val (.ref st_PermissionClass_OTHERS), .unset, .unset, .unset, .unset, .unset, .unset]) rfl ?_
        show Steps p.tables e below (T199.setTop (mkF m 62 #[.val (.int p0), .val (.int p1), .val (.int p2), .val (.int (p0 &&& (1023 : Int32))), .val (.int ((p1 &&& (2147483647 : Int32)) % (3 : Int32))), .val (.int ((p2 &&& (2147483647 : Int32)) % (3 : Int32))), .val (.ref st_PermissionClass_OTHERS), .unset, .unset, .unset, .unset, .unset, .unset] [])) _
        refine XS.iconst X199.here hx rfl (hb hby at_62) ?_
        show Steps p.tables e below (T199.setTop (mkF m 63 #[.val (.int p0), .val (.int p1), .val (.int p2), .val (.int (p0 &&& (1023 : Int32))), .val (.int ((p1 &&& (2147483647 : Int32)) % (3 : Int32))), .val (.int ((p2 &&& (2147483647 : Int32)) % (3 : Int32))), .val (.ref st_PermissionClass_OTHERS), .unset, .unset, .unset, .unset, .unset, .unset] [(.int (1 : Int32))])) _
        refine XS.istore X199.here hx rfl (hb hby at_63) rfl (l' := #[.val (.int p0), .val (.int p1), .val (.int p2), .val (.int (p0 &&& (1023 : Int32))), .val (.int ((p1 &&& (2147483647 : Int32)) % (3 : Int32))), .val (.int ((p2 &&& (2147483647 : Int32)) % (3 : Int32))), .val (.ref st_PermissionClass_OTHERS), .val (.int (1 : Int32)), .unset, .unset, .unset, .unset, .unset]) rfl ?_
        show Steps p.tables e below (T199.setTop (mkF m 65 #[.val (.int p0), .val (.int p1), .val (.int p2), .val (.int (p0 &&& (1023 : Int32))), .val (.int ((p1 &&& (2147483647 : Int32)) % (3 : Int32))), .val (.int ((p2 &&& (2147483647 : Int32)) % (3 : Int32))), .val (.ref st_PermissionClass_OTHERS), .val (.int (1 : Int32)), .unset, .unset, .unset, .unset, .unset] [])) _
        refine XS.iload X199.here hx rfl (hb hby at_65) rfl ?_
        exact h
      by_cases c67_201 : ((p2 &&& (2147483647 : Int32)) % (3 : Int32)) = (0 : Int32)
      · skip
        obtain ⟨T202, X202, e202, st202⟩ := getS2 X199 hx hZ hown (host := "") (Or.inl (hw _ (List.mem_of_getElem? (i := 37) rfl))) Via.refl e199 S_Access_READ (g := (mkF m 70 #[.val (.int p0), .val (.int p1), .val (.int p2), .val (.int (p0 &&& (1023 : Int32))), .val (.int ((p1 &&& (2147483647 : Int32)) % (3 : Int32))), .val (.int ((p2 &&& (2147483647 : Int32)) % (3 : Int32))), .val (.ref st_PermissionClass_OTHERS), .val (.int (1 : Int32)), .unset, .unset, .unset, .unset, .unset] [])) rfl (hb hby at_70)
        have k203 : ∀ t, Steps p.tables e below (T202.setTop (mkF m 113 #[.val (.int p0), .val (.int p1), .val (.int p2), .val (.int (p0 &&& (1023 : Int32))), .val (.int ((p1 &&& (2147483647 : Int32)) % (3 : Int32))), .val (.int ((p2 &&& (2147483647 : Int32)) % (3 : Int32))), .val (.ref st_PermissionClass_OTHERS), .val (.int (1 : Int32)), .val (.ref st_Access_READ), .val (.int (4 : Int32)), .val (.int (4 : Int32)), .unset, .unset] [])) t → Steps p.tables e below (s₁.setTop (mkF m 0 #[.val (.int p0), .val (.int p1), .val (.int p2), .unset, .unset, .unset, .unset, .unset, .unset, .unset, .unset, .unset, .unset] [])) t := by
          intro t h
          refine k200 t ?_
          show Steps p.tables e below (T199.setTop (mkF m 67 #[.val (.int p0), .val (.int p1), .val (.int p2), .val (.int (p0 &&& (1023 : Int32))), .val (.int ((p1 &&& (2147483647 : Int32)) % (3 : Int32))), .val (.int ((p2 &&& (2147483647 : Int32)) % (3 : Int32))), .val (.ref st_PermissionClass_OTHERS), .val (.int (1 : Int32)), .unset, .unset, .unset, .unset, .unset] [(.int ((p2 &&& (2147483647 : Int32)) % (3 : Int32)))])) _
          refine XS.ifNo X199.here hx rfl (hb hby at_67) rfl ((if0 _ _).trans (teq c67_201).2) ?_
          show Steps p.tables e below (T199.setTop (mkF m 70 #[.val (.int p0), .val (.int p1), .val (.int p2), .val (.int (p0 &&& (1023 : Int32))), .val (.int ((p1 &&& (2147483647 : Int32)) % (3 : Int32))), .val (.int ((p2 &&& (2147483647 : Int32)) % (3 : Int32))), .val (.ref st_PermissionClass_OTHERS), .val (.int (1 : Int32)), .unset, .unset, .unset, .unset, .unset] [])) _
          refine st202 _ ?_
          show Steps p.tables e below (T202.setTop (mkF m 73 #[.val (.int p0), .val (.int p1), .val (.int p2), .val (.int (p0 &&& (1023 : Int32))), .val (.int ((p1 &&& (2147483647 : Int32)) % (3 : Int32))), .val (.int ((p2 &&& (2147483647 : Int32)) % (3 : Int32))), .val (.ref st_PermissionClass_OTHERS), .val (.int (1 : Int32)), .unset, .unset, .unset, .unset, .unset] [(.ref st_Access_READ)])) _
          refine XS.astore X202.here hx rfl (hb hby at_73) rfl rfl (l' := #[.val (.int p0), .val (.int p1), .val (.int p2), .val (.int (p0 &&& (1023 : Int32))), .val (.int ((p1 &&& (2147483647 : Int32)) % (3 : Int32))), .val (.int ((p2 &&& (2147483647 : Int32)) % (3 : Int32))), .val (.ref st_PermissionClass_OTHERS), .val (.int (1 : Int32)), .val (.ref st_Access_READ), .unset, .unset, .unset, .unset]) rfl ?_
          show Steps p.tables e below (T202.setTop (mkF m 75 #[.val (.int p0), .val (.int p1), .val (.int p2), .val (.int (p0 &&& (1023 : Int32))), .val (.int ((p1 &&& (2147483647 : Int32)) % (3 : Int32))), .val (.int ((p2 &&& (2147483647 : Int32)) % (3 : Int32))), .val (.ref st_PermissionClass_OTHERS), .val (.int (1 : Int32)), .val (.ref st_Access_READ), .unset, .unset, .unset, .unset] [])) _
          refine XS.iconst X202.here hx rfl (hb hby at_75) ?_
          show Steps p.tables e below (T202.setTop (mkF m 76 #[.val (.int p0), .val (.int p1), .val (.int p2), .val (.int (p0 &&& (1023 : Int32))), .val (.int ((p1 &&& (2147483647 : Int32)) % (3 : Int32))), .val (.int ((p2 &&& (2147483647 : Int32)) % (3 : Int32))), .val (.ref st_PermissionClass_OTHERS), .val (.int (1 : Int32)), .val (.ref st_Access_READ), .unset, .unset, .unset, .unset] [(.int (4 : Int32))])) _
          refine XS.istore X202.here hx rfl (hb hby at_76) rfl (l' := #[.val (.int p0), .val (.int p1), .val (.int p2), .val (.int (p0 &&& (1023 : Int32))), .val (.int ((p1 &&& (2147483647 : Int32)) % (3 : Int32))), .val (.int ((p2 &&& (2147483647 : Int32)) % (3 : Int32))), .val (.ref st_PermissionClass_OTHERS), .val (.int (1 : Int32)), .val (.ref st_Access_READ), .val (.int (4 : Int32)), .unset, .unset, .unset]) rfl ?_
          show Steps p.tables e below (T202.setTop (mkF m 78 #[.val (.int p0), .val (.int p1), .val (.int p2), .val (.int (p0 &&& (1023 : Int32))), .val (.int ((p1 &&& (2147483647 : Int32)) % (3 : Int32))), .val (.int ((p2 &&& (2147483647 : Int32)) % (3 : Int32))), .val (.ref st_PermissionClass_OTHERS), .val (.int (1 : Int32)), .val (.ref st_Access_READ), .val (.int (4 : Int32)), .unset, .unset, .unset] [])) _
          refine XS.goto X202.here hx rfl (pc0 := 78) (pc' := 106) rfl (hb hby at_78) (by decide) (by decide) ?_
          show Steps p.tables e below (T202.setTop (mkF m 106 #[.val (.int p0), .val (.int p1), .val (.int p2), .val (.int (p0 &&& (1023 : Int32))), .val (.int ((p1 &&& (2147483647 : Int32)) % (3 : Int32))), .val (.int ((p2 &&& (2147483647 : Int32)) % (3 : Int32))), .val (.ref st_PermissionClass_OTHERS), .val (.int (1 : Int32)), .val (.ref st_Access_READ), .val (.int (4 : Int32)), .unset, .unset, .unset] [])) _
          refine XS.iload X202.here hx rfl (hb hby at_106) rfl ?_
          show Steps p.tables e below (T202.setTop (mkF m 108 #[.val (.int p0), .val (.int p1), .val (.int p2), .val (.int (p0 &&& (1023 : Int32))), .val (.int ((p1 &&& (2147483647 : Int32)) % (3 : Int32))), .val (.int ((p2 &&& (2147483647 : Int32)) % (3 : Int32))), .val (.ref st_PermissionClass_OTHERS), .val (.int (1 : Int32)), .val (.ref st_Access_READ), .val (.int (4 : Int32)), .unset, .unset, .unset] [(.int (1 : Int32))])) _
          refine XS.iload X202.here hx rfl (hb hby at_108) rfl ?_
          show Steps p.tables e below (T202.setTop (mkF m 110 #[.val (.int p0), .val (.int p1), .val (.int p2), .val (.int (p0 &&& (1023 : Int32))), .val (.int ((p1 &&& (2147483647 : Int32)) % (3 : Int32))), .val (.int ((p2 &&& (2147483647 : Int32)) % (3 : Int32))), .val (.ref st_PermissionClass_OTHERS), .val (.int (1 : Int32)), .val (.ref st_Access_READ), .val (.int (4 : Int32)), .unset, .unset, .unset] [(.int (4 : Int32)), (.int (1 : Int32))])) _
          refine XS.imul X202.here hx rfl (hb hby at_110) rfl ?_
          show Steps p.tables e below (T202.setTop (mkF m 111 #[.val (.int p0), .val (.int p1), .val (.int p2), .val (.int (p0 &&& (1023 : Int32))), .val (.int ((p1 &&& (2147483647 : Int32)) % (3 : Int32))), .val (.int ((p2 &&& (2147483647 : Int32)) % (3 : Int32))), .val (.ref st_PermissionClass_OTHERS), .val (.int (1 : Int32)), .val (.ref st_Access_READ), .val (.int (4 : Int32)), .unset, .unset, .unset] [(.int (4 : Int32))])) _
          refine XS.istore X202.here hx rfl (hb hby at_111) rfl (l' := #[.val (.int p0), .val (.int p1), .val (.int p2), .val (.int (p0 &&& (1023 : Int32))), .val (.int ((p1 &&& (2147483647 : Int32)) % (3 : Int32))), .val (.int ((p2 &&& (2147483647 : Int32)) % (3 : Int32))), .val (.ref st_PermissionClass_OTHERS), .val (.int (1 : Int32)), .val (.ref st_Access_READ), .val (.int (4 : Int32)), .val (.int (4 : Int32)), .unset, .unset]) rfl ?_
          exact h
        obtain ⟨jx, hk204, k204⟩ : ∃ (jx : Int32), (jx = if (((p0 &&& (1023 : Int32)) / (4 : Int32)) % (2 : Int32)) = (1 : Int32) then 1 else 0) ∧ ∀ t, Steps p.tables e below (T202.setTop (mkF m 128 #[.val (.int p0), .val (.int p1), .val (.int p2), .val (.int (p0 &&& (1023 : Int32))), .val (.int ((p1 &&& (2147483647 : Int32)) % (3 : Int32))), .val (.int ((p2 &&& (2147483647 : Int32)) % (3 : Int32))), .val (.ref st_PermissionClass_OTHERS), .val (.int (1 : Int32)), .val (.ref st_Access_READ), .val (.int (4 : Int32)), .val (.int (4 : Int32)), .unset, .unset] [(.int jx)])) t → Steps p.tables e below (s₁.setTop (mkF m 0 #[.val (.int p0), .val (.int p1), .val (.int p2), .unset, .unset, .unset, .unset, .unset, .unset, .unset, .unset, .unset, .unset] [])) t := by
          have k205 : ∀ t, Steps p.tables e below (T202.setTop (mkF m 120 #[.val (.int p0), .val (.int p1), .val (.int p2), .val (.int (p0 &&& (1023 : Int32))), .val (.int ((p1 &&& (2147483647 : Int32)) % (3 : Int32))), .val (.int ((p2 &&& (2147483647 : Int32)) % (3 : Int32))), .val (.ref st_PermissionClass_OTHERS), .val (.int (1 : Int32)), .val (.ref st_Access_READ), .val (.int (4 : Int32)), .val (.int (4 : Int32)), .unset, .unset] [(.int (1 : Int32)), (.int (((p0 &&& (1023 : Int32)) / (4 : Int32)) % (2 : Int32)))])) t → Steps p.tables e below (s₁.setTop (mkF m 0 #[.val (.int p0), .val (.int p1), .val (.int p2), .unset, .unset, .unset, .unset, .unset, .unset, .unset, .unset, .unset, .unset] [])) t := by
            intro t h
            refine k203 t ?_
            show Steps p.tables e below (T202.setTop (mkF m 113 #[.val (.int p0), .val (.int p1), .val (.int p2), .val (.int (p0 &&& (1023 : Int32))), .val (.int ((p1 &&& (2147483647 : Int32)) % (3 : Int32))), .val (.int ((p2 &&& (2147483647 : Int32)) % (3 : Int32))), .val (.ref st_PermissionClass_OTHERS), .val (.int (1 : Int32)), .val (.ref st_Access_READ), .val (.int (4 : Int32)), .val (.int (4 : Int32)), .unset, .unset] [])) _
            refine XS.iloadN X202.here hx rfl (hb hby at_113) rfl ?_
            show Steps p.tables e below (T202.setTop (mkF m 114 #[.val (.int p0), .val (.int p1), .val (.int p2), .val (.int (p0 &&& (1023 : Int32))), .val (.int ((p1 &&& (2147483647 : Int32)) % (3 : Int32))), .val (.int ((p2 &&& (2147483647 : Int32)) % (3 : Int32))), .val (.ref st_PermissionClass_OTHERS), .val (.int (1 : Int32)), .val (.ref st_Access_READ), .val (.int (4 : Int32)), .val (.int (4 : Int32)), .unset, .unset] [(.int (p0 &&& (1023 : Int32)))])) _
            refine XS.iload X202.here hx rfl (hb hby at_114) rfl ?_
            show Steps p.tables e below (T202.setTop (mkF m 116 #[.val (.int p0), .val (.int p1), .val (.int p2), .val (.int (p0 &&& (1023 : Int32))), .val (.int ((p1 &&& (2147483647 : Int32)) % (3 : Int32))), .val (.int ((p2 &&& (2147483647 : Int32)) % (3 : Int32))), .val (.ref st_PermissionClass_OTHERS), .val (.int (1 : Int32)), .val (.ref st_Access_READ), .val (.int (4 : Int32)), .val (.int (4 : Int32)), .unset, .unset] [(.int (4 : Int32)), (.int (p0 &&& (1023 : Int32)))])) _
            refine XS.idiv X202.here hx rfl (hb hby at_116) rfl (by decide) ?_
            show Steps p.tables e below (T202.setTop (mkF m 117 #[.val (.int p0), .val (.int p1), .val (.int p2), .val (.int (p0 &&& (1023 : Int32))), .val (.int ((p1 &&& (2147483647 : Int32)) % (3 : Int32))), .val (.int ((p2 &&& (2147483647 : Int32)) % (3 : Int32))), .val (.ref st_PermissionClass_OTHERS), .val (.int (1 : Int32)), .val (.ref st_Access_READ), .val (.int (4 : Int32)), .val (.int (4 : Int32)), .unset, .unset] [(.int ((p0 &&& (1023 : Int32)) / (4 : Int32)))])) _
            refine XS.iconst X202.here hx rfl (hb hby at_117) ?_
            show Steps p.tables e below (T202.setTop (mkF m 118 #[.val (.int p0), .val (.int p1), .val (.int p2), .val (.int (p0 &&& (1023 : Int32))), .val (.int ((p1 &&& (2147483647 : Int32)) % (3 : Int32))), .val (.int ((p2 &&& (2147483647 : Int32)) % (3 : Int32))), .val (.ref st_PermissionClass_OTHERS), .val (.int (1 : Int32)), .val (.ref st_Access_READ), .val (.int (4 : Int32)), .val (.int (4 : Int32)), .unset, .unset] [(.int (2 : Int32)), (.int ((p0 &&& (1023 : Int32)) / (4 : Int32)))])) _
            refine iremM (g := (mkF m 118 #[.val (.int p0), .val (.int p1), .val (.int p2), .val (.int (p0 &&& (1023 : Int32))), .val (.int ((p1 &&& (2147483647 : Int32)) % (3 : Int32))), .val (.int ((p2 &&& (2147483647 : Int32)) % (3 : Int32))), .val (.ref st_PermissionClass_OTHERS), .val (.int (1 : Int32)), .val (.ref st_Access_READ), .val (.int (4 : Int32)), .val (.int (4 : Int32)), .unset, .unset] [(.int (2 : Int32)), (.int ((p0 &&& (1023 : Int32)) / (4 : Int32)))])) X202 hx rfl (hb hby at_118) rfl (by decide) ?_
            show Steps p.tables e below (T202.setTop (mkF m 119 #[.val (.int p0), .val (.int p1), .val (.int p2), .val (.int (p0 &&& (1023 : Int32))), .val (.int ((p1 &&& (2147483647 : Int32)) % (3 : Int32))), .val (.int ((p2 &&& (2147483647 : Int32)) % (3 : Int32))), .val (.ref st_PermissionClass_OTHERS), .val (.int (1 : Int32)), .val (.ref st_Access_READ), .val (.int (4 : Int32)), .val (.int (4 : Int32)), .unset, .unset] [(.int (((p0 &&& (1023 : Int32)) / (4 : Int32)) % (2 : Int32)))])) _
            refine XS.iconst X202.here hx rfl (hb hby at_119) ?_
            exact h
          by_cases c120_206 : (((p0 &&& (1023 : Int32)) / (4 : Int32)) % (2 : Int32)) = (1 : Int32)
          · skip
            have k207 : ∀ t, Steps p.tables e below (T202.setTop (mkF m 128 #[.val (.int p0), .val (.int p1), .val (.int p2), .val (.int (p0 &&& (1023 : Int32))), .val (.int ((p1 &&& (2147483647 : Int32)) % (3 : Int32))), .val (.int ((p2 &&& (2147483647 : Int32)) % (3 : Int32))), .val (.ref st_PermissionClass_OTHERS), .val (.int (1 : Int32)), .val (.ref st_Access_READ), .val (.int (4 : Int32)), .val (.int (4 : Int32)), .unset, .unset] [(.int (1 : Int32))])) t → Steps p.tables e below (s₁.setTop (mkF m 0 #[.val (.int p0), .val (.int p1), .val (.int p2), .unset, .unset, .unset, .unset, .unset, .unset, .unset, .unset, .unset, .unset] [])) t := by
              intro t h
              refine k205 t ?_
              show Steps p.tables e below (T202.setTop (mkF m 120 #[.val (.int p0), .val (.int p1), .val (.int p2), .val (.int (p0 &&& (1023 : Int32))), .val (.int ((p1 &&& (2147483647 : Int32)) % (3 : Int32))), .val (.int ((p2 &&& (2147483647 : Int32)) % (3 : Int32))), .val (.ref st_PermissionClass_OTHERS), .val (.int (1 : Int32)), .val (.ref st_Access_READ), .val (.int (4 : Int32)), .val (.int (4 : Int32)), .unset, .unset] [(.int (1 : Int32)), (.int (((p0 &&& (1023 : Int32)) / (4 : Int32)) % (2 : Int32)))])) _
              refine XS.icmpNo X202.here hx rfl (hb hby at_120) rfl (teq c120_206).2 ?_
              show Steps p.tables e below (T202.setTop (mkF m 123 #[.val (.int p0), .val (.int p1), .val (.int p2), .val (.int (p0 &&& (1023 : Int32))), .val (.int ((p1 &&& (2147483647 : Int32)) % (3 : Int32))), .val (.int ((p2 &&& (2147483647 : Int32)) % (3 : Int32))), .val (.ref st_PermissionClass_OTHERS), .val (.int (1 : Int32)), .val (.ref st_Access_READ), .val (.int (4 : Int32)), .val (.int (4 : Int32)), .unset, .unset] [])) _
              refine XS.iconst X202.here hx rfl (hb hby at_123) ?_
              show Steps p.tables e below (T202.setTop (mkF m 124 #[.val (.int p0), .val (.int p1), .val (.int p2), .val (.int (p0 &&& (1023 : Int32))), .val (.int ((p1 &&& (2147483647 : Int32)) % (3 : Int32))), .val (.int ((p2 &&& (2147483647 : Int32)) % (3 : Int32))), .val (.ref st_PermissionClass_OTHERS), .val (.int (1 : Int32)), .val (.ref st_Access_READ), .val (.int (4 : Int32)), .val (.int (4 : Int32)), .unset, .unset] [(.int (1 : Int32))])) _
              refine XS.goto X202.here hx rfl (pc0 := 124) (pc' := 128) rfl (hb hby at_124) (by decide) (by decide) ?_
              exact h
            exact ⟨(1 : Int32), by rw [if_pos c120_206], k207⟩
          · skip
            have k208 : ∀ t, Steps p.tables e below (T202.setTop (mkF m 128 #[.val (.int p0), .val (.int p1), .val (.int p2), .val (.int (p0 &&& (1023 : Int32))), .val (.int ((p1 &&& (2147483647 : Int32)) % (3 : Int32))), .val (.int ((p2 &&& (2147483647 : Int32)) % (3 : Int32))), .val (.ref st_PermissionClass_OTHERS), .val (.int (1 : Int32)), .val (.ref st_Access_READ), .val (.int (4 : Int32)), .val (.int (4 : Int32)), .unset, .unset] [(.int (0 : Int32))])) t → Steps p.tables e below (s₁.setTop (mkF m 0 #[.val (.int p0), .val (.int p1), .val (.int p2), .unset, .unset, .unset, .unset, .unset, .unset, .unset, .unset, .unset, .unset] [])) t := by
              intro t h
              refine k205 t ?_
              show Steps p.tables e below (T202.setTop (mkF m 120 #[.val (.int p0), .val (.int p1), .val (.int p2), .val (.int (p0 &&& (1023 : Int32))), .val (.int ((p1 &&& (2147483647 : Int32)) % (3 : Int32))), .val (.int ((p2 &&& (2147483647 : Int32)) % (3 : Int32))), .val (.ref st_PermissionClass_OTHERS), .val (.int (1 : Int32)), .val (.ref st_Access_READ), .val (.int (4 : Int32)), .val (.int (4 : Int32)), .unset, .unset] [(.int (1 : Int32)), (.int (((p0 &&& (1023 : Int32)) / (4 : Int32)) % (2 : Int32)))])) _
              refine XS.icmpYes X202.here hx rfl (pc0 := 120) (pc' := 127) rfl (hb hby at_120) rfl (feq c120_206).2 (by decide) (by decide) ?_
              show Steps p.tables e below (T202.setTop (mkF m 127 #[.val (.int p0), .val (.int p1), .val (.int p2), .val (.int (p0 &&& (1023 : Int32))), .val (.int ((p1 &&& (2147483647 : Int32)) % (3 : Int32))), .val (.int ((p2 &&& (2147483647 : Int32)) % (3 : Int32))), .val (.ref st_PermissionClass_OTHERS), .val (.int (1 : Int32)), .val (.ref st_Access_READ), .val (.int (4 : Int32)), .val (.int (4 : Int32)), .unset, .unset] [])) _
              refine XS.iconst X202.here hx rfl (hb hby at_127) ?_
              exact h
            exact ⟨(0 : Int32), by rw [if_neg c120_206], k208⟩
        obtain ⟨T209, h209, X209, e209, E209, A209, D209, -, st209⟩ := newO X202 hx hZ hown (hw _ (List.mem_of_getElem? (i := 7) rfl)) (hw _ (List.mem_of_getElem? (i := 8) rfl)) (hw _ (List.mem_of_getElem? (i := 9) rfl)) e202 (g := (mkF m 130 #[.val (.int p0), .val (.int p1), .val (.int p2), .val (.int (p0 &&& (1023 : Int32))), .val (.int ((p1 &&& (2147483647 : Int32)) % (3 : Int32))), .val (.int ((p2 &&& (2147483647 : Int32)) % (3 : Int32))), .val (.ref st_PermissionClass_OTHERS), .val (.int (1 : Int32)), .val (.ref st_Access_READ), .val (.int (4 : Int32)), .val (.int (4 : Int32)), .val (.int jx), .unset] [])) rfl (hb hby at_130) (by decide) (by decide)
        obtain ⟨b209, g209⟩ : ∃ z, z = h0.size := ⟨_, rfl⟩
        rw [← g209] at A209 D209 st209
        have ne_st_Access_READ_b209 : st_Access_READ ≠ b209 := Nat.ne_of_lt (Nat.lt_of_lt_of_le E_Access_READ.lt (Nat.le_of_eq g209.symm))
        have ne_st_PermissionClass_OTHERS_b209 : st_PermissionClass_OTHERS ≠ b209 := Nat.ne_of_lt (Nat.lt_of_lt_of_le E_PermissionClass_OTHERS.lt (Nat.le_of_eq g209.symm))
        have g_b209 : n0 ≤ b209 := Nat.le_trans Z0 (Nat.le_of_eq g209.symm)
        have sz_b209 : h0.size ≤ b209 := Nat.le_trans K0.1 (Nat.le_of_eq g209.symm)
        have f210 := E_Access_READ.ext E209
        have f211 := E_PermissionClass_OTHERS.ext E209
        have f212 := F_Access_READ_bit.ext E209
        have f213 := F_PermissionClass_OTHERS_shift.ext E209
        have Z214 : n0 ≤ h209.size := Nat.le_trans Z0 E209.1
        have K215 := K0.ext E209
        have f216 : Fld Z h209 b209 "com/example/lats/lats/permission/Mode" "bits" "I" (.int (0 : Int32)) := D209 (Or.inr (hw _ (List.mem_of_getElem? (i := 17) rfl))) (ty := .int) (by decide)
        obtain ⟨_, _, ⟨T217, L217, k217, n217⟩, -, X217, ⟨Lc217, hQ217, l217, y217, z217⟩, st217⟩ := X209.specialBack hx (y := (⟨"com/example/lats/lats/permission/Mode", "<init>", "(I)V"⟩ : MethodName)) rfl hown (mvT hZ (hw _ (List.mem_of_getElem? (i := 10) rfl))) (mvT hZ (hw _ (List.mem_of_getElem? (i := 11) rfl))) (mvT hZ (hw _ (List.mem_of_getElem? (i := 12) rfl))) (by decide) (backOf (W := 1) (rm1 l Z a0 hw [] b209 (p0 &&& (1023 : Int32))  h209 n0 Z214 f216 A209 g_b209 (own_bits p0).1 (own_bits p0).2) hZ (hw _ (List.mem_of_getElem? (i := 12) rfl)) (hw _ (List.mem_of_getElem? (i := 9) rfl)) (by decide) (by decide)) (g := (mkF m 135 #[.val (.int p0), .val (.int p1), .val (.int p2), .val (.int (p0 &&& (1023 : Int32))), .val (.int ((p1 &&& (2147483647 : Int32)) % (3 : Int32))), .val (.int ((p2 &&& (2147483647 : Int32)) % (3 : Int32))), .val (.ref st_PermissionClass_OTHERS), .val (.int (1 : Int32)), .val (.ref st_Access_READ), .val (.int (4 : Int32)), .val (.int (4 : Int32)), .val (.int jx), .unset] [(.int (p0 &&& (1023 : Int32))), (.ref b209), (.ref b209)])) rfl (by rw [hml]; rfl) (Steps.refl _) (a := b209) (argsL := [(.int (p0 &&& (1023 : Int32)))]) (rest := [(.ref b209)]) (lenOf own_pd_1 rfl) rfl (by show 2 * 0 + _ ≤ _; exact Nat.le_of_eq rfl) (hb hby at_135) (fun _ _ => ⟨rfl, e209, (by decide : 1 + 0 ≤ _), (by decide : 1 + 0 ≤ _)⟩)
        dsimp only [Pt.U, Pt.locs, Pt.cells, Pt.slots] at X217 l217 y217 z217 st217 hQ217
        subst l217 y217 z217
        obtain ⟨rfl, Nq217, Kq217, Eq217, Fq217⟩ := hQ217
        have N217 := Fr.app N0 Nq217
        have f218 := f210.keep Kq217
        have f219 := f211.keep Kq217
        have f220 := f212.keep Kq217 (ninS ne_st_Access_READ_b209 nin0)
        have f221 := f213.keep Kq217 (ninS ne_st_PermissionClass_OTHERS_b209 nin0)
        have f222 := A209.keep Kq217
        have Z223 : n0 ≤ T217.heap.size := Nat.le_trans Z214 Kq217.1
        have K224 := K215.trans Kq217 (allS (Or.inr sz_b209) all0)
        obtain ⟨cq225, kq225, q225a, q225b, q225c⟩ := isOf hZ rfl f222
        obtain ⟨_, _, ⟨T225, L225, k225, n225⟩, -, X225, ⟨Lc225, hQ225, l225, y225, z225⟩, st225⟩ := X217.virtualBack hx (y := (⟨"com/example/lats/lats/permission/Mode", "grants", "(Lcom/example/lats/lats/permission/PermissionClass;Lcom/example/lats/lats/permission/Access;)Z"⟩ : MethodName)) (z := (⟨"com/example/lats/lats/permission/Mode", "grants", "(Lcom/example/lats/lats/permission/PermissionClass;Lcom/example/lats/lats/permission/Access;)Z"⟩ : MethodName)) hown (mvT hZ (hw _ (List.mem_of_getElem? (i := 18) rfl))) (mvT hZ (hw _ (List.mem_of_getElem? (i := 19) rfl))) (notFace_of_selects (args := #[]) (mvT hZ (hw _ (List.mem_of_getElem? (i := 21) rfl)))) (mvT hZ (hw _ (List.mem_of_getElem? (i := 21) rfl))) (mvT hZ (hw _ (List.mem_of_getElem? (i := 20) rfl))) (by decide) (backOf (W := 0) (rmG l Z a0 hw [] b209 st_PermissionClass_OTHERS st_Access_READ (p0 &&& (1023 : Int32)) (0 : Int32) (4 : Int32) T217.heap n0 Z223 Fq217 f221 f220 f219 f218) hZ (hw _ (List.mem_of_getElem? (i := 22) rfl)) (hw _ (List.mem_of_getElem? (i := 9) rfl)) (by decide) (by decide)) q225a q225c (g := (mkF m 146 #[.val (.int p0), .val (.int p1), .val (.int p2), .val (.int (p0 &&& (1023 : Int32))), .val (.int ((p1 &&& (2147483647 : Int32)) % (3 : Int32))), .val (.int ((p2 &&& (2147483647 : Int32)) % (3 : Int32))), .val (.ref st_PermissionClass_OTHERS), .val (.int (1 : Int32)), .val (.ref st_Access_READ), .val (.int (4 : Int32)), .val (.int (4 : Int32)), .val (.int jx), .val (.ref b209)] [(.ref st_Access_READ), (.ref st_PermissionClass_OTHERS), (.ref b209)])) rfl (by rw [hml]; rfl) (Steps.refl _) (argsL := [(.ref st_PermissionClass_OTHERS), (.ref st_Access_READ)]) (rest := []) (lenOf own_pd_2 rfl) rfl (by show 2 * 0 + _ ≤ _; exact Nat.le_of_eq rfl) (hb hby at_146) (fun _ _ => ⟨rfl, rfl, (by decide : 1 + 0 ≤ _), (by decide : 1 + 0 ≤ _)⟩)
        dsimp only [Pt.U, Pt.locs, Pt.cells, Pt.slots] at X225 l225 y225 z225 st225 hQ225
        subst l225 y225 z225
        obtain ⟨rfl, Nq225, eq225⟩ := hQ225
        have N225 := Fr.app N217 Nq225
        have k226 : ∀ t, Steps p.tables e below (T225.setTop (mkF m 151 #[.val (.int p0), .val (.int p1), .val (.int p2), .val (.int (p0 &&& (1023 : Int32))), .val (.int ((p1 &&& (2147483647 : Int32)) % (3 : Int32))), .val (.int ((p2 &&& (2147483647 : Int32)) % (3 : Int32))), .val (.ref st_PermissionClass_OTHERS), .val (.int (1 : Int32)), .val (.ref st_Access_READ), .val (.int (4 : Int32)), .val (.int (4 : Int32)), .val (.int jx), .val (.ref b209)] [(.int jx), (.int (own_gr (p0 &&& (1023 : Int32)) (4 : Int32) (0 : Int32)))])) t → Steps p.tables e below (s₁.setTop (mkF m 0 #[.val (.int p0), .val (.int p1), .val (.int p2), .unset, .unset, .unset, .unset, .unset, .unset, .unset, .unset, .unset, .unset] [])) t := by
          intro t h
          refine k204 t ?_
          show Steps p.tables e below (T202.setTop (mkF m 128 #[.val (.int p0), .val (.int p1), .val (.int p2), .val (.int (p0 &&& (1023 : Int32))), .val (.int ((p1 &&& (2147483647 : Int32)) % (3 : Int32))), .val (.int ((p2 &&& (2147483647 : Int32)) % (3 : Int32))), .val (.ref st_PermissionClass_OTHERS), .val (.int (1 : Int32)), .val (.ref st_Access_READ), .val (.int (4 : Int32)), .val (.int (4 : Int32)), .unset, .unset] [(.int jx)])) _
          refine XS.istore X202.here hx rfl (hb hby at_128) rfl (l' := #[.val (.int p0), .val (.int p1), .val (.int p2), .val (.int (p0 &&& (1023 : Int32))), .val (.int ((p1 &&& (2147483647 : Int32)) % (3 : Int32))), .val (.int ((p2 &&& (2147483647 : Int32)) % (3 : Int32))), .val (.ref st_PermissionClass_OTHERS), .val (.int (1 : Int32)), .val (.ref st_Access_READ), .val (.int (4 : Int32)), .val (.int (4 : Int32)), .val (.int jx), .unset]) rfl ?_
          show Steps p.tables e below (T202.setTop (mkF m 130 #[.val (.int p0), .val (.int p1), .val (.int p2), .val (.int (p0 &&& (1023 : Int32))), .val (.int ((p1 &&& (2147483647 : Int32)) % (3 : Int32))), .val (.int ((p2 &&& (2147483647 : Int32)) % (3 : Int32))), .val (.ref st_PermissionClass_OTHERS), .val (.int (1 : Int32)), .val (.ref st_Access_READ), .val (.int (4 : Int32)), .val (.int (4 : Int32)), .val (.int jx), .unset] [])) _
          refine st209 _ ?_
          show Steps p.tables e below (T209.setTop (mkF m 133 #[.val (.int p0), .val (.int p1), .val (.int p2), .val (.int (p0 &&& (1023 : Int32))), .val (.int ((p1 &&& (2147483647 : Int32)) % (3 : Int32))), .val (.int ((p2 &&& (2147483647 : Int32)) % (3 : Int32))), .val (.ref st_PermissionClass_OTHERS), .val (.int (1 : Int32)), .val (.ref st_Access_READ), .val (.int (4 : Int32)), .val (.int (4 : Int32)), .val (.int jx), .unset] [(.ref b209)])) _
          refine XS.dup X209.here hx rfl (hb hby at_133) rfl rfl ?_
          show Steps p.tables e below (T209.setTop (mkF m 134 #[.val (.int p0), .val (.int p1), .val (.int p2), .val (.int (p0 &&& (1023 : Int32))), .val (.int ((p1 &&& (2147483647 : Int32)) % (3 : Int32))), .val (.int ((p2 &&& (2147483647 : Int32)) % (3 : Int32))), .val (.ref st_PermissionClass_OTHERS), .val (.int (1 : Int32)), .val (.ref st_Access_READ), .val (.int (4 : Int32)), .val (.int (4 : Int32)), .val (.int jx), .unset] [(.ref b209), (.ref b209)])) _
          refine XS.iloadN X209.here hx rfl (hb hby at_134) rfl ?_
          show Steps p.tables e below (T209.setTop (mkF m 135 #[.val (.int p0), .val (.int p1), .val (.int p2), .val (.int (p0 &&& (1023 : Int32))), .val (.int ((p1 &&& (2147483647 : Int32)) % (3 : Int32))), .val (.int ((p2 &&& (2147483647 : Int32)) % (3 : Int32))), .val (.ref st_PermissionClass_OTHERS), .val (.int (1 : Int32)), .val (.ref st_Access_READ), .val (.int (4 : Int32)), .val (.int (4 : Int32)), .val (.int jx), .unset] [(.int (p0 &&& (1023 : Int32))), (.ref b209), (.ref b209)])) _
          refine st217.trans ?_
          show Steps p.tables e below (T217.setTop (mkF m 138 #[.val (.int p0), .val (.int p1), .val (.int p2), .val (.int (p0 &&& (1023 : Int32))), .val (.int ((p1 &&& (2147483647 : Int32)) % (3 : Int32))), .val (.int ((p2 &&& (2147483647 : Int32)) % (3 : Int32))), .val (.ref st_PermissionClass_OTHERS), .val (.int (1 : Int32)), .val (.ref st_Access_READ), .val (.int (4 : Int32)), .val (.int (4 : Int32)), .val (.int jx), .unset] [(.ref b209)])) _
          refine XS.astore X217.here hx rfl (hb hby at_138) rfl rfl (l' := #[.val (.int p0), .val (.int p1), .val (.int p2), .val (.int (p0 &&& (1023 : Int32))), .val (.int ((p1 &&& (2147483647 : Int32)) % (3 : Int32))), .val (.int ((p2 &&& (2147483647 : Int32)) % (3 : Int32))), .val (.ref st_PermissionClass_OTHERS), .val (.int (1 : Int32)), .val (.ref st_Access_READ), .val (.int (4 : Int32)), .val (.int (4 : Int32)), .val (.int jx), .val (.ref b209)]) rfl ?_
          show Steps p.tables e below (T217.setTop (mkF m 140 #[.val (.int p0), .val (.int p1), .val (.int p2), .val (.int (p0 &&& (1023 : Int32))), .val (.int ((p1 &&& (2147483647 : Int32)) % (3 : Int32))), .val (.int ((p2 &&& (2147483647 : Int32)) % (3 : Int32))), .val (.ref st_PermissionClass_OTHERS), .val (.int (1 : Int32)), .val (.ref st_Access_READ), .val (.int (4 : Int32)), .val (.int (4 : Int32)), .val (.int jx), .val (.ref b209)] [])) _
          refine XS.aload X217.here hx rfl (hb hby at_140) rfl rfl ?_
          show Steps p.tables e below (T217.setTop (mkF m 142 #[.val (.int p0), .val (.int p1), .val (.int p2), .val (.int (p0 &&& (1023 : Int32))), .val (.int ((p1 &&& (2147483647 : Int32)) % (3 : Int32))), .val (.int ((p2 &&& (2147483647 : Int32)) % (3 : Int32))), .val (.ref st_PermissionClass_OTHERS), .val (.int (1 : Int32)), .val (.ref st_Access_READ), .val (.int (4 : Int32)), .val (.int (4 : Int32)), .val (.int jx), .val (.ref b209)] [(.ref b209)])) _
          refine XS.aload X217.here hx rfl (hb hby at_142) rfl rfl ?_
          show Steps p.tables e below (T217.setTop (mkF m 144 #[.val (.int p0), .val (.int p1), .val (.int p2), .val (.int (p0 &&& (1023 : Int32))), .val (.int ((p1 &&& (2147483647 : Int32)) % (3 : Int32))), .val (.int ((p2 &&& (2147483647 : Int32)) % (3 : Int32))), .val (.ref st_PermissionClass_OTHERS), .val (.int (1 : Int32)), .val (.ref st_Access_READ), .val (.int (4 : Int32)), .val (.int (4 : Int32)), .val (.int jx), .val (.ref b209)] [(.ref st_PermissionClass_OTHERS), (.ref b209)])) _
          refine XS.aload X217.here hx rfl (hb hby at_144) rfl rfl ?_
          show Steps p.tables e below (T217.setTop (mkF m 146 #[.val (.int p0), .val (.int p1), .val (.int p2), .val (.int (p0 &&& (1023 : Int32))), .val (.int ((p1 &&& (2147483647 : Int32)) % (3 : Int32))), .val (.int ((p2 &&& (2147483647 : Int32)) % (3 : Int32))), .val (.ref st_PermissionClass_OTHERS), .val (.int (1 : Int32)), .val (.ref st_Access_READ), .val (.int (4 : Int32)), .val (.int (4 : Int32)), .val (.int jx), .val (.ref b209)] [(.ref st_Access_READ), (.ref st_PermissionClass_OTHERS), (.ref b209)])) _
          refine st225.trans ?_
          show Steps p.tables e below (T225.setTop (mkF m 149 #[.val (.int p0), .val (.int p1), .val (.int p2), .val (.int (p0 &&& (1023 : Int32))), .val (.int ((p1 &&& (2147483647 : Int32)) % (3 : Int32))), .val (.int ((p2 &&& (2147483647 : Int32)) % (3 : Int32))), .val (.ref st_PermissionClass_OTHERS), .val (.int (1 : Int32)), .val (.ref st_Access_READ), .val (.int (4 : Int32)), .val (.int (4 : Int32)), .val (.int jx), .val (.ref b209)] [(.int (own_gr (p0 &&& (1023 : Int32)) (4 : Int32) (0 : Int32)))])) _
          refine XS.iload X225.here hx rfl (hb hby at_149) rfl ?_
          exact h
        have b151_227 : (own_gr (p0 &&& (1023 : Int32)) (4 : Int32) (0 : Int32)) = jx := by rw [hk204]; exact own_t1_4 p0
        have k228 : ∀ t, Steps p.tables e below (T225.setTop (mkF m 159 #[.val (.int p0), .val (.int p1), .val (.int p2), .val (.int (p0 &&& (1023 : Int32))), .val (.int ((p1 &&& (2147483647 : Int32)) % (3 : Int32))), .val (.int ((p2 &&& (2147483647 : Int32)) % (3 : Int32))), .val (.ref st_PermissionClass_OTHERS), .val (.int (1 : Int32)), .val (.ref st_Access_READ), .val (.int (4 : Int32)), .val (.int (4 : Int32)), .val (.int jx), .val (.ref b209)] [(.int (1 : Int32))])) t → Steps p.tables e below (s₁.setTop (mkF m 0 #[.val (.int p0), .val (.int p1), .val (.int p2), .unset, .unset, .unset, .unset, .unset, .unset, .unset, .unset, .unset, .unset] [])) t := by
          intro t h
          refine k226 t ?_
          show Steps p.tables e below (T225.setTop (mkF m 151 #[.val (.int p0), .val (.int p1), .val (.int p2), .val (.int (p0 &&& (1023 : Int32))), .val (.int ((p1 &&& (2147483647 : Int32)) % (3 : Int32))), .val (.int ((p2 &&& (2147483647 : Int32)) % (3 : Int32))), .val (.ref st_PermissionClass_OTHERS), .val (.int (1 : Int32)), .val (.ref st_Access_READ), .val (.int (4 : Int32)), .val (.int (4 : Int32)), .val (.int jx), .val (.ref b209)] [(.int jx), (.int (own_gr (p0 &&& (1023 : Int32)) (4 : Int32) (0 : Int32)))])) _
          refine XS.icmpNo X225.here hx rfl (hb hby at_151) rfl (teq b151_227).2 ?_
          show Steps p.tables e below (T225.setTop (mkF m 154 #[.val (.int p0), .val (.int p1), .val (.int p2), .val (.int (p0 &&& (1023 : Int32))), .val (.int ((p1 &&& (2147483647 : Int32)) % (3 : Int32))), .val (.int ((p2 &&& (2147483647 : Int32)) % (3 : Int32))), .val (.ref st_PermissionClass_OTHERS), .val (.int (1 : Int32)), .val (.ref st_Access_READ), .val (.int (4 : Int32)), .val (.int (4 : Int32)), .val (.int jx), .val (.ref b209)] [])) _
          refine XS.iconst X225.here hx rfl (hb hby at_154) ?_
          show Steps p.tables e below (T225.setTop (mkF m 155 #[.val (.int p0), .val (.int p1), .val (.int p2), .val (.int (p0 &&& (1023 : Int32))), .val (.int ((p1 &&& (2147483647 : Int32)) % (3 : Int32))), .val (.int ((p2 &&& (2147483647 : Int32)) % (3 : Int32))), .val (.ref st_PermissionClass_OTHERS), .val (.int (1 : Int32)), .val (.ref st_Access_READ), .val (.int (4 : Int32)), .val (.int (4 : Int32)), .val (.int jx), .val (.ref b209)] [(.int (1 : Int32))])) _
          refine XS.goto X225.here hx rfl (pc0 := 155) (pc' := 159) rfl (hb hby at_155) (by decide) (by decide) ?_
          exact h
        obtain ⟨fs, hr, hrun, hended, hW, hsame⟩ := X225.leave (v := some (.int (1 : Int32))) (fun h => by rw [Bd.returns] at h; cases h) Bd.notSynchronized
        refine ⟨_, _, pre0 _ (k228 _ ?_), hrun, hended, _, _, rfl, ?_, ⟨_, rfl⟩, hW, hsame.mono (by decide) (by decide)⟩
        · exact retN X225 hx (t := .boolean) Bd.returns (by simp) (hb hby at_159) hr
        · show Q_rm0 Z _ _ _ _ _ _ _ _ _ h0 n0 _ T225.heap _
          rw [eq225]
          exact ⟨rfl, N225⟩
      · skip
        have k229 : ∀ t, Steps p.tables e below (T199.setTop (mkF m 84 #[.val (.int p0), .val (.int p1), .val (.int p2), .val (.int (p0 &&& (1023 : Int32))), .val (.int ((p1 &&& (2147483647 : Int32)) % (3 : Int32))), .val (.int ((p2 &&& (2147483647 : Int32)) % (3 : Int32))), .val (.ref st_PermissionClass_OTHERS), .val (.int (1 : Int32)), .unset, .unset, .unset, .unset, .unset] [(.int (1 : Int32)), (.int ((p2 &&& (2147483647 : Int32)) % (3 : Int32)))])) t → Steps p.tables e below (s₁.setTop (mkF m 0 #[.val (.int p0), .val (.int p1), .val (.int p2), .unset, .unset, .unset, .unset, .unset, .unset, .unset, .unset, .unset, .unset] [])) t := by
          intro t h
          refine k200 t ?_
          show Steps p.tables e below (T199.setTop (mkF m 67 #[.val (.int p0), .val (.int p1), .val (.int p2), .val (.int (p0 &&& (1023 : Int32))), .val (.int ((p1 &&& (2147483647 : Int32)) % (3 : Int32))), .val (.int ((p2 &&& (2147483647 : Int32)) % (3 : Int32))), .val (.ref st_PermissionClass_OTHERS), .val (.int (1 : Int32)), .unset, .unset, .unset, .unset, .unset] [(.int ((p2 &&& (2147483647 : Int32)) % (3 : Int32)))])) _
          refine XS.ifYes X199.here hx rfl (pc0 := 67) (pc' := 81) rfl (hb hby at_67) rfl ((if0 _ _).trans (feq c67_201).2) (by decide) (by decide) ?_
          show Steps p.tables e below (T199.setTop (mkF m 81 #[.val (.int p0), .val (.int p1), .val (.int p2), .val (.int (p0 &&& (1023 : Int32))), .val (.int ((p1 &&& (2147483647 : Int32)) % (3 : Int32))), .val (.int ((p2 &&& (2147483647 : Int32)) % (3 : Int32))), .val (.ref st_PermissionClass_OTHERS), .val (.int (1 : Int32)), .unset, .unset, .unset, .unset, .unset] [])) _
          refine XS.iload X199.here hx rfl (hb hby at_81) rfl ?_
          show Steps p.tables e below (T199.setTop (mkF m 83 #[.val (.int p0), .val (.int p1), .val (.int p2), .val (.int (p0 &&& (1023 : Int32))), .val (.int ((p1 &&& (2147483647 : Int32)) % (3 : Int32))), .val (.int ((p2 &&& (2147483647 : Int32)) % (3 : Int32))), .val (.ref st_PermissionClass_OTHERS), .val (.int (1 : Int32)), .unset, .unset, .unset, .unset, .unset] [(.int ((p2 &&& (2147483647 : Int32)) % (3 : Int32)))])) _
          refine XS.iconst X199.here hx rfl (hb hby at_83) ?_
          exact h
        by_cases c84_230 : ((p2 &&& (2147483647 : Int32)) % (3 : Int32)) = (1 : Int32)
        · skip
          obtain ⟨T231, X231, e231, st231⟩ := getS2 X199 hx hZ hown (host := "") (Or.inl (hw _ (List.mem_of_getElem? (i := 41) rfl))) Via.refl e199 S_Access_WRITE (g := (mkF m 87 #[.val (.int p0), .val (.int p1), .val (.int p2), .val (.int (p0 &&& (1023 : Int32))), .val (.int ((p1 &&& (2147483647 : Int32)) % (3 : Int32))), .val (.int ((p2 &&& (2147483647 : Int32)) % (3 : Int32))), .val (.ref st_PermissionClass_OTHERS), .val (.int (1 : Int32)), .unset, .unset, .unset, .unset, .unset] [])) rfl (hb hby at_87)
          have k232 : ∀ t, Steps p.tables e below (T231.setTop (mkF m 113 #[.val (.int p0), .val (.int p1), .val (.int p2), .val (.int (p0 &&& (1023 : Int32))), .val (.int ((p1 &&& (2147483647 : Int32)) % (3 : Int32))), .val (.int ((p2 &&& (2147483647 : Int32)) % (3 : Int32))), .val (.ref st_PermissionClass_OTHERS), .val (.int (1 : Int32)), .val (.ref st_Access_WRITE), .val (.int (2 : Int32)), .val (.int (2 : Int32)), .unset, .unset] [])) t → Steps p.tables e below (s₁.setTop (mkF m 0 #[.val (.int p0), .val (.int p1), .val (.int p2), .unset, .unset, .unset, .unset, .unset, .unset, .unset, .unset, .unset, .unset] [])) t := by
            intro t h
            refine k229 t ?_
            show Steps p.tables e below (T199.setTop (mkF m 84 #[.val (.int p0), .val (.int p1), .val (.int p2), .val (.int (p0 &&& (1023 : Int32))), .val (.int ((p1 &&& (2147483647 : Int32)) % (3 : Int32))), .val (.int ((p2 &&& (2147483647 : Int32)) % (3 : Int32))), .val (.ref st_PermissionClass_OTHERS), .val (.int (1 : Int32)), .unset, .unset, .unset, .unset, .unset] [(.int (1 : Int32)), (.int ((p2 &&& (2147483647 : Int32)) % (3 : Int32)))])) _
            refine XS.icmpNo X199.here hx rfl (hb hby at_84) rfl (teq c84_230).2 ?_
            show Steps p.tables e below (T199.setTop (mkF m 87 #[.val (.int p0), .val (.int p1), .val (.int p2), .val (.int (p0 &&& (1023 : Int32))), .val (.int ((p1 &&& (2147483647 : Int32)) % (3 : Int32))), .val (.int ((p2 &&& (2147483647 : Int32)) % (3 : Int32))), .val (.ref st_PermissionClass_OTHERS), .val (.int (1 : Int32)), .unset, .unset, .unset, .unset, .unset] [])) _
            refine st231 _ ?_
            show Steps p.tables e below (T231.setTop (mkF m 90 #[.val (.int p0), .val (.int p1), .val (.int p2), .val (.int (p0 &&& (1023 : Int32))), .val (.int ((p1 &&& (2147483647 : Int32)) % (3 : Int32))), .val (.int ((p2 &&& (2147483647 : Int32)) % (3 : Int32))), .val (.ref st_PermissionClass_OTHERS), .val (.int (1 : Int32)), .unset, .unset, .unset, .unset, .unset] [(.ref st_Access_WRITE)])) _
            refine XS.astore X231.here hx rfl (hb hby at_90) rfl rfl (l' := #[.val (.int p0), .val (.int p1), .val (.int p2), .val (.int (p0 &&& (1023 : Int32))), .val (.int ((p1 &&& (2147483647 : Int32)) % (3 : Int32))), .val (.int ((p2 &&& (2147483647 : Int32)) % (3 : Int32))), .val (.ref st_PermissionClass_OTHERS), .val (.int (1 : Int32)), .val (.ref st_Access_WRITE), .unset, .unset, .unset, .unset]) rfl ?_
            show Steps p.tables e below (T231.setTop (mkF m 92 #[.val (.int p0), .val (.int p1), .val (.int p2), .val (.int (p0 &&& (1023 : Int32))), .val (.int ((p1 &&& (2147483647 : Int32)) % (3 : Int32))), .val (.int ((p2 &&& (2147483647 : Int32)) % (3 : Int32))), .val (.ref st_PermissionClass_OTHERS), .val (.int (1 : Int32)), .val (.ref st_Access_WRITE), .unset, .unset, .unset, .unset] [])) _
            refine XS.iconst X231.here hx rfl (hb hby at_92) ?_
            show Steps p.tables e below (T231.setTop (mkF m 93 #[.val (.int p0), .val (.int p1), .val (.int p2), .val (.int (p0 &&& (1023 : Int32))), .val (.int ((p1 &&& (2147483647 : Int32)) % (3 : Int32))), .val (.int ((p2 &&& (2147483647 : Int32)) % (3 : Int32))), .val (.ref st_PermissionClass_OTHERS), .val (.int (1 : Int32)), .val (.ref st_Access_WRITE), .unset, .unset, .unset, .unset] [(.int (2 : Int32))])) _
            refine XS.istore X231.here hx rfl (hb hby at_93) rfl (l' := #[.val (.int p0), .val (.int p1), .val (.int p2), .val (.int (p0 &&& (1023 : Int32))), .val (.int ((p1 &&& (2147483647 : Int32)) % (3 : Int32))), .val (.int ((p2 &&& (2147483647 : Int32)) % (3 : Int32))), .val (.ref st_PermissionClass_OTHERS), .val (.int (1 : Int32)), .val (.ref st_Access_WRITE), .val (.int (2 : Int32)), .unset, .unset, .unset]) rfl ?_
            show Steps p.tables e below (T231.setTop (mkF m 95 #[.val (.int p0), .val (.int p1), .val (.int p2), .val (.int (p0 &&& (1023 : Int32))), .val (.int ((p1 &&& (2147483647 : Int32)) % (3 : Int32))), .val (.int ((p2 &&& (2147483647 : Int32)) % (3 : Int32))), .val (.ref st_PermissionClass_OTHERS), .val (.int (1 : Int32)), .val (.ref st_Access_WRITE), .val (.int (2 : Int32)), .unset, .unset, .unset] [])) _
            refine XS.goto X231.here hx rfl (pc0 := 95) (pc' := 106) rfl (hb hby at_95) (by decide) (by decide) ?_
            show Steps p.tables e below (T231.setTop (mkF m 106 #[.val (.int p0), .val (.int p1), .val (.int p2), .val (.int (p0 &&& (1023 : Int32))), .val (.int ((p1 &&& (2147483647 : Int32)) % (3 : Int32))), .val (.int ((p2 &&& (2147483647 : Int32)) % (3 : Int32))), .val (.ref st_PermissionClass_OTHERS), .val (.int (1 : Int32)), .val (.ref st_Access_WRITE), .val (.int (2 : Int32)), .unset, .unset, .unset] [])) _
            refine XS.iload X231.here hx rfl (hb hby at_106) rfl ?_
            show Steps p.tables e below (T231.setTop (mkF m 108 #[.val (.int p0), .val (.int p1), .val (.int p2), .val (.int (p0 &&& (1023 : Int32))), .val (.int ((p1 &&& (2147483647 : Int32)) % (3 : Int32))), .val (.int ((p2 &&& (2147483647 : Int32)) % (3 : Int32))), .val (.ref st_PermissionClass_OTHERS), .val (.int (1 : Int32)), .val (.ref st_Access_WRITE), .val (.int (2 : Int32)), .unset, .unset, .unset] [(.int (1 : Int32))])) _
            refine XS.iload X231.here hx rfl (hb hby at_108) rfl ?_
            show Steps p.tables e below (T231.setTop (mkF m 110 #[.val (.int p0), .val (.int p1), .val (.int p2), .val (.int (p0 &&& (1023 : Int32))), .val (.int ((p1 &&& (2147483647 : Int32)) % (3 : Int32))), .val (.int ((p2 &&& (2147483647 : Int32)) % (3 : Int32))), .val (.ref st_PermissionClass_OTHERS), .val (.int (1 : Int32)), .val (.ref st_Access_WRITE), .val (.int (2 : Int32)), .unset, .unset, .unset] [(.int (2 : Int32)), (.int (1 : Int32))])) _
            refine XS.imul X231.here hx rfl (hb hby at_110) rfl ?_
            show Steps p.tables e below (T231.setTop (mkF m 111 #[.val (.int p0), .val (.int p1), .val (.int p2), .val (.int (p0 &&& (1023 : Int32))), .val (.int ((p1 &&& (2147483647 : Int32)) % (3 : Int32))), .val (.int ((p2 &&& (2147483647 : Int32)) % (3 : Int32))), .val (.ref st_PermissionClass_OTHERS), .val (.int (1 : Int32)), .val (.ref st_Access_WRITE), .val (.int (2 : Int32)), .unset, .unset, .unset] [(.int (2 : Int32))])) _
            refine XS.istore X231.here hx rfl (hb hby at_111) rfl (l' := #[.val (.int p0), .val (.int p1), .val (.int p2), .val (.int (p0 &&& (1023 : Int32))), .val (.int ((p1 &&& (2147483647 : Int32)) % (3 : Int32))), .val (.int ((p2 &&& (2147483647 : Int32)) % (3 : Int32))), .val (.ref st_PermissionClass_OTHERS), .val (.int (1 : Int32)), .val (.ref st_Access_WRITE), .val (.int (2 : Int32)), .val (.int (2 : Int32)), .unset, .unset]) rfl ?_
            exact h
          obtain ⟨jx, hk233, k233⟩ : ∃ (jx : Int32), (jx = if (((p0 &&& (1023 : Int32)) / (2 : Int32)) % (2 : Int32)) = (1 : Int32) then 1 else 0) ∧ ∀ t, Steps p.tables e below (T231.setTop (mkF m 128 #[.val (.int p0), .val (.int p1), .val (.int p2), .val (.int (p0 &&& (1023 : Int32))), .val (.int ((p1 &&& (2147483647 : Int32)) % (3 : Int32))), .val (.int ((p2 &&& (2147483647 : Int32)) % (3 : Int32))), .val (.ref st_PermissionClass_OTHERS), .val (.int (1 : Int32)), .val (.ref st_Access_WRITE), .val (.int (2 : Int32)), .val (.int (2 : Int32)), .unset, .unset] [(.int jx)])) t → Steps p.tables e below (s₁.setTop (mkF m 0 #[.val (.int p0), .val (.int p1), .val (.int p2), .unset, .unset, .unset, .unset, .unset, .unset, .unset, .unset, .unset, .unset] [])) t := by
            have k234 : ∀ t, Steps p.tables e below (T231.setTop (mkF m 120 #[.val (.int p0), .val (.int p1), .val (.int p2), .val (.int (p0 &&& (1023 : Int32))), .val (.int ((p1 &&& (2147483647 : Int32)) % (3 : Int32))), .val (.int ((p2 &&& (2147483647 : Int32)) % (3 : Int32))), .val (.ref st_PermissionClass_OTHERS), .val (.int (1 : Int32)), .val (.ref st_Access_WRITE), .val (.int (2 : Int32)), .val (.int (2 : Int32)), .unset, .unset] [(.int (1 : Int32)), (.int (((p0 &&& (1023 : Int32)) / (2 : Int32)) % (2 : Int32)))])) t → Steps p.tables e below (s₁.setTop (mkF m 0 #[.val (.int p0), .val (.int p1), .val (.int p2), .unset, .unset, .unset, .unset, .unset, .unset, .unset, .unset, .unset, .unset] [])) t := by
              intro t h
              refine k232 t ?_
              show Steps p.tables e below (T231.setTop (mkF m 113 #[.val (.int p0), .val (.int p1), .val (.int p2), .val (.int (p0 &&& (1023 : Int32))), .val (.int ((p1 &&& (2147483647 : Int32)) % (3 : Int32))), .val (.int ((p2 &&& (2147483647 : Int32)) % (3 : Int32))), .val (.ref st_PermissionClass_OTHERS), .val (.int (1 : Int32)), .val (.ref st_Access_WRITE), .val (.int (2 : Int32)), .val (.int (2 : Int32)), .unset, .unset] [])) _
              refine XS.iloadN X231.here hx rfl (hb hby at_113) rfl ?_
              show Steps p.tables e below (T231.setTop (mkF m 114 #[.val (.int p0), .val (.int p1), .val (.int p2), .val (.int (p0 &&& (1023 : Int32))), .val (.int ((p1 &&& (2147483647 : Int32)) % (3 : Int32))), .val (.int ((p2 &&& (2147483647 : Int32)) % (3 : Int32))), .val (.ref st_PermissionClass_OTHERS), .val (.int (1 : Int32)), .val (.ref st_Access_WRITE), .val (.int (2 : Int32)), .val (.int (2 : Int32)), .unset, .unset] [(.int (p0 &&& (1023 : Int32)))])) _
              refine XS.iload X231.here hx rfl (hb hby at_114) rfl ?_
              show Steps p.tables e below (T231.setTop (mkF m 116 #[.val (.int p0), .val (.int p1), .val (.int p2), .val (.int (p0 &&& (1023 : Int32))), .val (.int ((p1 &&& (2147483647 : Int32)) % (3 : Int32))), .val (.int ((p2 &&& (2147483647 : Int32)) % (3 : Int32))), .val (.ref st_PermissionClass_OTHERS), .val (.int (1 : Int32)), .val (.ref st_Access_WRITE), .val (.int (2 : Int32)), .val (.int (2 : Int32)), .unset, .unset] [(.int (2 : Int32)), (.int (p0 &&& (1023 : Int32)))])) _
              refine XS.idiv X231.here hx rfl (hb hby at_116) rfl (by decide) ?_
              show Steps p.tables e below (T231.setTop (mkF m 117 #[.val (.int p0), .val (.int p1), .val (.int p2), .val (.int (p0 &&& (1023 : Int32))), .val (.int ((p1 &&& (2147483647 : Int32)) % (3 : Int32))), .val (.int ((p2 &&& (2147483647 : Int32)) % (3 : Int32))), .val (.ref st_PermissionClass_OTHERS), .val (.int (1 : Int32)), .val (.ref st_Access_WRITE), .val (.int (2 : Int32)), .val (.int (2 : Int32)), .unset, .unset] [(.int ((p0 &&& (1023 : Int32)) / (2 : Int32)))])) _
              refine XS.iconst X231.here hx rfl (hb hby at_117) ?_
              show Steps p.tables e below (T231.setTop (mkF m 118 #[.val (.int p0), .val (.int p1), .val (.int p2), .val (.int (p0 &&& (1023 : Int32))), .val (.int ((p1 &&& (2147483647 : Int32)) % (3 : Int32))), .val (.int ((p2 &&& (2147483647 : Int32)) % (3 : Int32))), .val (.ref st_PermissionClass_OTHERS), .val (.int (1 : Int32)), .val (.ref st_Access_WRITE), .val (.int (2 : Int32)), .val (.int (2 : Int32)), .unset, .unset] [(.int (2 : Int32)), (.int ((p0 &&& (1023 : Int32)) / (2 : Int32)))])) _
              refine iremM (g := (mkF m 118 #[.val (.int p0), .val (.int p1), .val (.int p2), .val (.int (p0 &&& (1023 : Int32))), .val (.int ((p1 &&& (2147483647 : Int32)) % (3 : Int32))), .val (.int ((p2 &&& (2147483647 : Int32)) % (3 : Int32))), .val (.ref st_PermissionClass_OTHERS), .val (.int (1 : Int32)), .val (.ref st_Access_WRITE), .val (.int (2 : Int32)), .val (.int (2 : Int32)), .unset, .unset] [(.int (2 : Int32)), (.int ((p0 &&& (1023 : Int32)) / (2 : Int32)))])) X231 hx rfl (hb hby at_118) rfl (by decide) ?_
              show Steps p.tables e below (T231.setTop (mkF m 119 #[.val (.int p0), .val (.int p1), .val (.int p2), .val (.int (p0 &&& (1023 : Int32))), .val (.int ((p1 &&& (2147483647 : Int32)) % (3 : Int32))), .val (.int ((p2 &&& (2147483647 : Int32)) % (3 : Int32))), .val (.ref st_PermissionClass_OTHERS), .val (.int (1 : Int32)), .val (.ref st_Access_WRITE), .val (.int (2 : Int32)), .val (.int (2 : Int32)), .unset, .unset] [(.int (((p0 &&& (1023 : Int32)) / (2 : Int32)) % (2 : Int32)))])) _
              refine XS.iconst X231.here hx rfl (hb hby at_119) ?_
              exact h
            by_cases c120_235 : (((p0 &&& (1023 : Int32)) / (2 : Int32)) % (2 : Int32)) = (1 : Int32)
            · skip
              have k236 : ∀ t, Steps p.tables e below (T231.setTop (mkF m 128 #[.val (.int p0), .val (.int p1), .val (.int p2), .val (.int (p0 &&& (1023 : Int32))), .val (.int ((p1 &&& (2147483647 : Int32)) % (3 : Int32))), .val (.int ((p2 &&& (2147483647 : Int32)) % (3 : Int32))), .val (.ref st_PermissionClass_OTHERS), .val (.int (1 : Int32)), .val (.ref st_Access_WRITE), .val (.int (2 : Int32)), .val (.int (2 : Int32)), .unset, .unset] [(.int (1 : Int32))])) t → Steps p.tables e below (s₁.setTop (mkF m 0 #[.val (.int p0), .val (.int p1), .val (.int p2), .unset, .unset, .unset, .unset, .unset, .unset, .unset, .unset, .unset, .unset] [])) t := by
                intro t h
                refine k234 t ?_
                show Steps p.tables e below (T231.setTop (mkF m 120 #[.val (.int p0), .val (.int p1), .val (.int p2), .val (.int (p0 &&& (1023 : Int32))), .val (.int ((p1 &&& (2147483647 : Int32)) % (3 : Int32))), .val (.int ((p2 &&& (2147483647 : Int32)) % (3 : Int32))), .val (.ref st_PermissionClass_OTHERS), .val (.int (1 : Int32)), .val (.ref st_Access_WRITE), .val (.int (2 : Int32)), .val (.int (2 : Int32)), .unset, .unset] [(.int (1 : Int32)), (.int (((p0 &&& (1023 : Int32)) / (2 : Int32)) % (2 : Int32)))])) _
                refine XS.icmpNo X231.here hx rfl (hb hby at_120) rfl (teq c120_235).2 ?_
                show Steps p.tables e below (T231.setTop (mkF m 123 #[.val (.int p0), .val (.int p1), .val (.int p2), .val (.int (p0 &&& (1023 : Int32))), .val (.int ((p1 &&& (2147483647 : Int32)) % (3 : Int32))), .val (.int ((p2 &&& (2147483647 : Int32)) % (3 : Int32))), .val (.ref st_PermissionClass_OTHERS), .val (.int (1 : Int32)), .val (.ref st_Access_WRITE), .val (.int (2 : Int32)), .val (.int (2 : Int32)), .unset, .unset] [])) _
                refine XS.iconst X231.here hx rfl (hb hby at_123) ?_
                show Steps p.tables e below (T231.setTop (mkF m 124 #[.val (.int p0), .val (.int p1), .val (.int p2), .val (.int (p0 &&& (1023 : Int32))), .val (.int ((p1 &&& (2147483647 : Int32)) % (3 : Int32))), .val (.int ((p2 &&& (2147483647 : Int32)) % (3 : Int32))), .val (.ref st_PermissionClass_OTHERS), .val (.int (1 : Int32)), .val (.ref st_Access_WRITE), .val (.int (2 : Int32)), .val (.int (2 : Int32)), .unset, .unset] [(.int (1 : Int32))])) _
                refine XS.goto X231.here hx rfl (pc0 := 124) (pc' := 128) rfl (hb hby at_124) (by decide) (by decide) ?_
                exact h
              exact ⟨(1 : Int32), by rw [if_pos c120_235], k236⟩
            · skip
              have k237 : ∀ t, Steps p.tables e below (T231.setTop (mkF m 128 #[.val (.int p0), .val (.int p1), .val (.int p2), .val (.int (p0 &&& (1023 : Int32))), .val (.int ((p1 &&& (2147483647 : Int32)) % (3 : Int32))), .val (.int ((p2 &&& (2147483647 : Int32)) % (3 : Int32))), .val (.ref st_PermissionClass_OTHERS), .val (.int (1 : Int32)), .val (.ref st_Access_WRITE), .val (.int (2 : Int32)), .val (.int (2 : Int32)), .unset, .unset] [(.int (0 : Int32))])) t → Steps p.tables e below (s₁.setTop (mkF m 0 #[.val (.int p0), .val (.int p1), .val (.int p2), .unset, .unset, .unset, .unset, .unset, .unset, .unset, .unset, .unset, .unset] [])) t := by
                intro t h
                refine k234 t ?_
                show Steps p.tables e below (T231.setTop (mkF m 120 #[.val (.int p0), .val (.int p1), .val (.int p2), .val (.int (p0 &&& (1023 : Int32))), .val (.int ((p1 &&& (2147483647 : Int32)) % (3 : Int32))), .val (.int ((p2 &&& (2147483647 : Int32)) % (3 : Int32))), .val (.ref st_PermissionClass_OTHERS), .val (.int (1 : Int32)), .val (.ref st_Access_WRITE), .val (.int (2 : Int32)), .val (.int (2 : Int32)), .unset, .unset] [(.int (1 : Int32)), (.int (((p0 &&& (1023 : Int32)) / (2 : Int32)) % (2 : Int32)))])) _
                refine XS.icmpYes X231.here hx rfl (pc0 := 120) (pc' := 127) rfl (hb hby at_120) rfl (feq c120_235).2 (by decide) (by decide) ?_
                show Steps p.tables e below (T231.setTop (mkF m 127 #[.val (.int p0), .val (.int p1), .val (.int p2), .val (.int (p0 &&& (1023 : Int32))), .val (.int ((p1 &&& (2147483647 : Int32)) % (3 : Int32))), .val (.int ((p2 &&& (2147483647 : Int32)) % (3 : Int32))), .val (.ref st_PermissionClass_OTHERS), .val (.int (1 : Int32)), .val (.ref st_Access_WRITE), .val (.int (2 : Int32)), .val (.int (2 : Int32)), .unset, .unset] [])) _
                refine XS.iconst X231.here hx rfl (hb hby at_127) ?_
                exact h
              exact ⟨(0 : Int32), by rw [if_neg c120_235], k237⟩
          obtain ⟨T238, h238, X238, e238, E238, A238, D238, -, st238⟩ := newO X231 hx hZ hown (hw _ (List.mem_of_getElem? (i := 7) rfl)) (hw _ (List.mem_of_getElem? (i := 8) rfl)) (hw _ (List.mem_of_getElem? (i := 9) rfl)) e231 (g := (mkF m 130 #[.val (.int p0), .val (.int p1), .val (.int p2), .val (.int (p0 &&& (1023 : Int32))), .val (.int ((p1 &&& (2147483647 : Int32)) % (3 : Int32))), .val (.int ((p2 &&& (2147483647 : Int32)) % (3 : Int32))), .val (.ref st_PermissionClass_OTHERS), .val (.int (1 : Int32)), .val (.ref st_Access_WRITE), .val (.int (2 : Int32)), .val (.int (2 : Int32)), .val (.int jx), .unset] [])) rfl (hb hby at_130) (by decide) (by decide)
          obtain ⟨b238, g238⟩ : ∃ z, z = h0.size := ⟨_, rfl⟩
          rw [← g238] at A238 D238 st238
          have ne_st_PermissionClass_OTHERS_b238 : st_PermissionClass_OTHERS ≠ b238 := Nat.ne_of_lt (Nat.lt_of_lt_of_le E_PermissionClass_OTHERS.lt (Nat.le_of_eq g238.symm))
          have ne_st_Access_WRITE_b238 : st_Access_WRITE ≠ b238 := Nat.ne_of_lt (Nat.lt_of_lt_of_le E_Access_WRITE.lt (Nat.le_of_eq g238.symm))
          have g_b238 : n0 ≤ b238 := Nat.le_trans Z0 (Nat.le_of_eq g238.symm)
          have sz_b238 : h0.size ≤ b238 := Nat.le_trans K0.1 (Nat.le_of_eq g238.symm)
          have f239 := E_PermissionClass_OTHERS.ext E238
          have f240 := E_Access_WRITE.ext E238
          have f241 := F_Access_WRITE_bit.ext E238
          have f242 := F_PermissionClass_OTHERS_shift.ext E238
          have Z243 : n0 ≤ h238.size := Nat.le_trans Z0 E238.1
          have K244 := K0.ext E238
          have f245 : Fld Z h238 b238 "com/example/lats/lats/permission/Mode" "bits" "I" (.int (0 : Int32)) := D238 (Or.inr (hw _ (List.mem_of_getElem? (i := 17) rfl))) (ty := .int) (by decide)
          obtain ⟨_, _, ⟨T246, L246, k246, n246⟩, -, X246, ⟨Lc246, hQ246, l246, y246, z246⟩, st246⟩ := X238.specialBack hx (y := (⟨"com/example/lats/lats/permission/Mode", "<init>", "(I)V"⟩ : MethodName)) rfl hown (mvT hZ (hw _ (List.mem_of_getElem? (i := 10) rfl))) (mvT hZ (hw _ (List.mem_of_getElem? (i := 11) rfl))) (mvT hZ (hw _ (List.mem_of_getElem? (i := 12) rfl))) (by decide) (backOf (W := 1) (rm1 l Z a0 hw [] b238 (p0 &&& (1023 : Int32))  h238 n0 Z243 f245 A238 g_b238 (own_bits p0).1 (own_bits p0).2) hZ (hw _ (List.mem_of_getElem? (i := 12) rfl)) (hw _ (List.mem_of_getElem? (i := 9) rfl)) (by decide) (by decide)) (g := (mkF m 135 #[.val (.int p0), .val (.int p1), .val (.int p2), .val (.int (p0 &&& (1023 : Int32))), .val (.int ((p1 &&& (2147483647 : Int32)) % (3 : Int32))), .val (.int ((p2 &&& (2147483647 : Int32)) % (3 : Int32))), .val (.ref st_PermissionClass_OTHERS), .val (.int (1 : Int32)), .val (.ref st_Access_WRITE), .val (.int (2 : Int32)), .val (.int (2 : Int32)), .val (.int jx), .unset] [(.int (p0 &&& (1023 : Int32))), (.ref b238), (.ref b238)])) rfl (by rw [hml]; rfl) (Steps.refl _) (a := b238) (argsL := [(.int (p0 &&& (1023 : Int32)))]) (rest := [(.ref b238)]) (lenOf own_pd_1 rfl) rfl (by show 2 * 0 + _ ≤ _; exact Nat.le_of_eq rfl) (hb hby at_135) (fun _ _ => ⟨rfl, e238, (by decide : 1 + 0 ≤ _), (by decide : 1 + 0 ≤ _)⟩)
          dsimp only [Pt.U, Pt.locs, Pt.cells, Pt.slots] at X246 l246 y246 z246 st246 hQ246
          subst l246 y246 z246
          obtain ⟨rfl, Nq246, Kq246, Eq246, Fq246⟩ := hQ246
          have N246 := Fr.app N0 Nq246
          have f247 := f239.keep Kq246
          have f248 := f240.keep Kq246
          have f249 := f241.keep Kq246 (ninS ne_st_Access_WRITE_b238 nin0)
          have f250 := f242.keep Kq246 (ninS ne_st_PermissionClass_OTHERS_b238 nin0)
          have f251 := A238.keep Kq246
          have Z252 : n0 ≤ T246.heap.size := Nat.le_trans Z243 Kq246.1
          have K253 := K244.trans Kq246 (allS (Or.inr sz_b238) all0)
          obtain ⟨cq254, kq254, q254a, q254b, q254c⟩ := isOf hZ rfl f251
          obtain ⟨_, _, ⟨T254, L254, k254, n254⟩, -, X254, ⟨Lc254, hQ254, l254, y254, z254⟩, st254⟩ := X246.virtualBack hx (y := (⟨"com/example/lats/lats/permission/Mode", "grants", "(Lcom/example/lats/lats/permission/PermissionClass;Lcom/example/lats/lats/permission/Access;)Z"⟩ : MethodName)) (z := (⟨"com/example/lats/lats/permission/Mode", "grants", "(Lcom/example/lats/lats/permission/PermissionClass;Lcom/example/lats/lats/permission/Access;)Z"⟩ : MethodName)) hown (mvT hZ (hw _ (List.mem_of_getElem? (i := 18) rfl))) (mvT hZ (hw _ (List.mem_of_getElem? (i := 19) rfl))) (notFace_of_selects (args := #[]) (mvT hZ (hw _ (List.mem_of_getElem? (i := 21) rfl)))) (mvT hZ (hw _ (List.mem_of_getElem? (i := 21) rfl))) (mvT hZ (hw _ (List.mem_of_getElem? (i := 20) rfl))) (by decide) (backOf (W := 0) (rmG l Z a0 hw [] b238 st_PermissionClass_OTHERS st_Access_WRITE (p0 &&& (1023 : Int32)) (0 : Int32) (2 : Int32) T246.heap n0 Z252 Fq246 f250 f249 f247 f248) hZ (hw _ (List.mem_of_getElem? (i := 22) rfl)) (hw _ (List.mem_of_getElem? (i := 9) rfl)) (by decide) (by decide)) q254a q254c (g := (mkF m 146 #[.val (.int p0), .val (.int p1), .val (.int p2), .val (.int (p0 &&& (1023 : Int32))), .val (.int ((p1 &&& (2147483647 : Int32)) % (3 : Int32))), .val (.int ((p2 &&& (2147483647 : Int32)) % (3 : Int32))), .val (.ref st_PermissionClass_OTHERS), .val (.int (1 : Int32)), .val (.ref st_Access_WRITE), .val (.int (2 : Int32)), .val (.int (2 : Int32)), .val (.int jx), .val (.ref b238)] [(.ref st_Access_WRITE), (.ref st_PermissionClass_OTHERS), (.ref b238)])) rfl (by rw [hml]; rfl) (Steps.refl _) (argsL := [(.ref st_PermissionClass_OTHERS), (.ref st_Access_WRITE)]) (rest := []) (lenOf own_pd_2 rfl) rfl (by show 2 * 0 + _ ≤ _; exact Nat.le_of_eq rfl) (hb hby at_146) (fun _ _ => ⟨rfl, rfl, (by decide : 1 + 0 ≤ _), (by decide : 1 + 0 ≤ _)⟩)
          dsimp only [Pt.U, Pt.locs, Pt.cells, Pt.slots] at X254 l254 y254 z254 st254 hQ254
          subst l254 y254 z254
          obtain ⟨rfl, Nq254, eq254⟩ := hQ254
          have N254 := Fr.app N246 Nq254
          have k255 : ∀ t, Steps p.tables e below (T254.setTop (mkF m 151 #[.val (.int p0), .val (.int p1), .val (.int p2), .val (.int (p0 &&& (1023 : Int32))), .val (.int ((p1 &&& (2147483647 : Int32)) % (3 : Int32))), .val (.int ((p2 &&& (2147483647 : Int32)) % (3 : Int32))), .val (.ref st_PermissionClass_OTHERS), .val (.int (1 : Int32)), .val (.ref st_Access_WRITE), .val (.int (2 : Int32)), .val (.int (2 : Int32)), .val (.int jx), .val (.ref b238)] [(.int jx), (.int (own_gr (p0 &&& (1023 : Int32)) (2 : Int32) (0 : Int32)))])) t → Steps p.tables e below (s₁.setTop (mkF m 0 #[.val (.int p0), .val (.int p1), .val (.int p2), .unset, .unset, .unset, .unset, .unset, .unset, .unset, .unset, .unset, .unset] [])) t := by
            intro t h
            refine k233 t ?_
            show Steps p.tables e below (T231.setTop (mkF m 128 #[.val (.int p0), .val (.int p1), .val (.int p2), .val (.int (p0 &&& (1023 : Int32))), .val (.int ((p1 &&& (2147483647 : Int32)) % (3 : Int32))), .val (.int ((p2 &&& (2147483647 : Int32)) % (3 : Int32))), .val (.ref st_PermissionClass_OTHERS), .val (.int (1 : Int32)), .val (.ref st_Access_WRITE), .val (.int (2 : Int32)), .val (.int (2 : Int32)), .unset, .unset] [(.int jx)])) _
            refine XS.istore X231.here hx rfl (hb hby at_128) rfl (l' := #[.val (.int p0), .val (.int p1), .val (.int p2), .val (.int (p0 &&& (1023 : Int32))), .val (.int ((p1 &&& (2147483647 : Int32)) % (3 : Int32))), .val (.int ((p2 &&& (2147483647 : Int32)) % (3 : Int32))), .val (.ref st_PermissionClass_OTHERS), .val (.int (1 : Int32)), .val (.ref st_Access_WRITE), .val (.int (2 : Int32)), .val (.int (2 : Int32)), .val (.int jx), .unset]) rfl ?_
            show Steps p.tables e below (T231.setTop (mkF m 130 #[.val (.int p0), .val (.int p1), .val (.int p2), .val (.int (p0 &&& (1023 : Int32))), .val (.int ((p1 &&& (2147483647 : Int32)) % (3 : Int32))), .val (.int ((p2 &&& (2147483647 : Int32)) % (3 : Int32))), .val (.ref st_PermissionClass_OTHERS), .val (.int (1 : Int32)), .val (.ref st_Access_WRITE), .val (.int (2 : Int32)), .val (.int (2 : Int32)), .val (.int jx), .unset] [])) _
            refine st238 _ ?_
            show Steps p.tables e below (T238.setTop (mkF m 133 #[.val (.int p0), .val (.int p1), .val (.int p2), .val (.int (p0 &&& (1023 : Int32))), .val (.int ((p1 &&& (2147483647 : Int32)) % (3 : Int32))), .val (.int ((p2 &&& (2147483647 : Int32)) % (3 : Int32))), .val (.ref st_PermissionClass_OTHERS), .val (.int (1 : Int32)), .val (.ref st_Access_WRITE), .val (.int (2 : Int32)), .val (.int (2 : Int32)), .val (.int jx), .unset] [(.ref b238)])) _
            refine XS.dup X238.here hx rfl (hb hby at_133) rfl rfl ?_
            show Steps p.tables e below (T238.setTop (mkF m 134 #[.val (.int p0), .val (.int p1), .val (.int p2), .val (.int (p0 &&& (1023 : Int32))), .val (.int ((p1 &&& (2147483647 : Int32)) % (3 : Int32))), .val (.int ((p2 &&& (2147483647 : Int32)) % (3 : Int32))), .val (.ref st_PermissionClass_OTHERS), .val (.int (1 : Int32)), .val (.ref st_Access_WRITE), .val (.int (2 : Int32)), .val (.int (2 : Int32)), .val (.int jx), .unset] [(.ref b238), (.ref b238)])) _
            refine XS.iloadN X238.here hx rfl (hb hby at_134) rfl ?_
            show Steps p.tables e below (T238.setTop (mkF m 135 #[.val (.int p0), .val (.int p1), .val (.int p2), .val (.int (p0 &&& (1023 : Int32))), .val (.int ((p1 &&& (2147483647 : Int32)) % (3 : Int32))), .val (.int ((p2 &&& (2147483647 : Int32)) % (3 : Int32))), .val (.ref st_PermissionClass_OTHERS), .val (.int (1 : Int32)), .val (.ref st_Access_WRITE), .val (.int (2 : Int32)), .val (.int (2 : Int32)), .val (.int jx), .unset] [(.int (p0 &&& (1023 : Int32))), (.ref b238), (.ref b238)])) _
            refine st246.trans ?_
            show Steps p.tables e below (T246.setTop (mkF m 138 #[.val (.int p0), .val (.int p1), .val (.int p2), .val (.int (p0 &&& (1023 : Int32))), .val (.int ((p1 &&& (2147483647 : Int32)) % (3 : Int32))), .val (.int ((p2 &&& (2147483647 : Int32)) % (3 : Int32))), .val (.ref st_PermissionClass_OTHERS), .val (.int (1 : Int32)), .val (.ref st_Access_WRITE), .val (.int (2 : Int32)), .val (.int (2 : Int32)), .val (.int jx), .unset] [(.ref b238)])) _
            refine XS.astore X246.here hx rfl (hb hby at_138) rfl rfl (l' := #[.val (.int p0), .val (.int p1), .val (.int p2), .val (.int (p0 &&& (1023 : Int32))), .val (.int ((p1 &&& (2147483647 : Int32)) % (3 : Int32))), .val (.int ((p2 &&& (2147483647 : Int32)) % (3 : Int32))), .val (.ref st_PermissionClass_OTHERS), .val (.int (1 : Int32)), .val (.ref st_Access_WRITE), .val (.int (2 : Int32)), .val (.int (2 : Int32)), .val (.int jx), .val (.ref b238)]) rfl ?_
            show Steps p.tables e below (T246.setTop (mkF m 140 #[.val (.int p0), .val (.int p1), .val (.int p2), .val (.int (p0 &&& (1023 : Int32))), .val (.int ((p1 &&& (2147483647 : Int32)) % (3 : Int32))), .val (.int ((p2 &&& (2147483647 : Int32)) % (3 : Int32))), .val (.ref st_PermissionClass_OTHERS), .val (.int (1 : Int32)), .val (.ref st_Access_WRITE), .val (.int (2 : Int32)), .val (.int (2 : Int32)), .val (.int jx), .val (.ref b238)] [])) _
            refine XS.aload X246.here hx rfl (hb hby at_140) rfl rfl ?_
            show Steps p.tables e below (T246.setTop (mkF m 142 #[.val (.int p0), .val (.int p1), .val (.int p2), .val (.int (p0 &&& (1023 : Int32))), .val (.int ((p1 &&& (2147483647 : Int32)) % (3 : Int32))), .val (.int ((p2 &&& (2147483647 : Int32)) % (3 : Int32))), .val (.ref st_PermissionClass_OTHERS), .val (.int (1 : Int32)), .val (.ref st_Access_WRITE), .val (.int (2 : Int32)), .val (.int (2 : Int32)), .val (.int jx), .val (.ref b238)] [(.ref b238)])) _
            refine XS.aload X246.here hx rfl (hb hby at_142) rfl rfl ?_
            show Steps p.tables e below (T246.setTop (mkF m 144 #[.val (.int p0), .val (.int p1), .val (.int p2), .val (.int (p0 &&& (1023 : Int32))), .val (.int ((p1 &&& (2147483647 : Int32)) % (3 : Int32))), .val (.int ((p2 &&& (2147483647 : Int32)) % (3 : Int32))), .val (.ref st_PermissionClass_OTHERS), .val (.int (1 : Int32)), .val (.ref st_Access_WRITE), .val (.int (2 : Int32)), .val (.int (2 : Int32)), .val (.int jx), .val (.ref b238)] [(.ref st_PermissionClass_OTHERS), (.ref b238)])) _
            refine XS.aload X246.here hx rfl (hb hby at_144) rfl rfl ?_
            show Steps p.tables e below (T246.setTop (mkF m 146 #[.val (.int p0), .val (.int p1), .val (.int p2), .val (.int (p0 &&& (1023 : Int32))), .val (.int ((p1 &&& (2147483647 : Int32)) % (3 : Int32))), .val (.int ((p2 &&& (2147483647 : Int32)) % (3 : Int32))), .val (.ref st_PermissionClass_OTHERS), .val (.int (1 : Int32)), .val (.ref st_Access_WRITE), .val (.int (2 : Int32)), .val (.int (2 : Int32)), .val (.int jx), .val (.ref b238)] [(.ref st_Access_WRITE), (.ref st_PermissionClass_OTHERS), (.ref b238)])) _
            refine st254.trans ?_
            show Steps p.tables e below (T254.setTop (mkF m 149 #[.val (.int p0), .val (.int p1), .val (.int p2), .val (.int (p0 &&& (1023 : Int32))), .val (.int ((p1 &&& (2147483647 : Int32)) % (3 : Int32))), .val (.int ((p2 &&& (2147483647 : Int32)) % (3 : Int32))), .val (.ref st_PermissionClass_OTHERS), .val (.int (1 : Int32)), .val (.ref st_Access_WRITE), .val (.int (2 : Int32)), .val (.int (2 : Int32)), .val (.int jx), .val (.ref b238)] [(.int (own_gr (p0 &&& (1023 : Int32)) (2 : Int32) (0 : Int32)))])) _
            refine XS.iload X254.here hx rfl (hb hby at_149) rfl ?_
            exact h
          have b151_256 : (own_gr (p0 &&& (1023 : Int32)) (2 : Int32) (0 : Int32)) = jx := by rw [hk233]; exact own_t1_2 p0
          have k257 : ∀ t, Steps p.tables e below (T254.setTop (mkF m 159 #[.val (.int p0), .val (.int p1), .val (.int p2), .val (.int (p0 &&& (1023 : Int32))), .val (.int ((p1 &&& (2147483647 : Int32)) % (3 : Int32))), .val (.int ((p2 &&& (2147483647 : Int32)) % (3 : Int32))), .val (.ref st_PermissionClass_OTHERS), .val (.int (1 : Int32)), .val (.ref st_Access_WRITE), .val (.int (2 : Int32)), .val (.int (2 : Int32)), .val (.int jx), .val (.ref b238)] [(.int (1 : Int32))])) t → Steps p.tables e below (s₁.setTop (mkF m 0 #[.val (.int p0), .val (.int p1), .val (.int p2), .unset, .unset, .unset, .unset, .unset, .unset, .unset, .unset, .unset, .unset] [])) t := by
            intro t h
            refine k255 t ?_
            show Steps p.tables e below (T254.setTop (mkF m 151 #[.val (.int p0), .val (.int p1), .val (.int p2), .val (.int (p0 &&& (1023 : Int32))), .val (.int ((p1 &&& (2147483647 : Int32)) % (3 : Int32))), .val (.int ((p2 &&& (2147483647 : Int32)) % (3 : Int32))), .val (.ref st_PermissionClass_OTHERS), .val (.int (1 : Int32)), .val (.ref st_Access_WRITE), .val (.int (2 : Int32)), .val (.int (2 : Int32)), .val (.int jx), .val (.ref b238)] [(.int jx), (.int (own_gr (p0 &&& (1023 : Int32)) (2 : Int32) (0 : Int32)))])) _
            refine XS.icmpNo X254.here hx rfl (hb hby at_151) rfl (teq b151_256).2 ?_
            show Steps p.tables e below (T254.setTop (mkF m 154 #[.val (.int p0), .val (.int p1), .val (.int p2), .val (.int (p0 &&& (1023 : Int32))), .val (.int ((p1 &&& (2147483647 : Int32)) % (3 : Int32))), .val (.int ((p2 &&& (2147483647 : Int32)) % (3 : Int32))), .val (.ref st_PermissionClass_OTHERS), .val (.int (1 : Int32)), .val (.ref st_Access_WRITE), .val (.int (2 : Int32)), .val (.int (2 : Int32)), .val (.int jx), .val (.ref b238)] [])) _
            refine XS.iconst X254.here hx rfl (hb hby at_154) ?_
            show Steps p.tables e below (T254.setTop (mkF m 155 #[.val (.int p0), .val (.int p1), .val (.int p2), .val (.int (p0 &&& (1023 : Int32))), .val (.int ((p1 &&& (2147483647 : Int32)) % (3 : Int32))), .val (.int ((p2 &&& (2147483647 : Int32)) % (3 : Int32))), .val (.ref st_PermissionClass_OTHERS), .val (.int (1 : Int32)), .val (.ref st_Access_WRITE), .val (.int (2 : Int32)), .val (.int (2 : Int32)), .val (.int jx), .val (.ref b238)] [(.int (1 : Int32))])) _
            refine XS.goto X254.here hx rfl (pc0 := 155) (pc' := 159) rfl (hb hby at_155) (by decide) (by decide) ?_
            exact h
          obtain ⟨fs, hr, hrun, hended, hW, hsame⟩ := X254.leave (v := some (.int (1 : Int32))) (fun h => by rw [Bd.returns] at h; cases h) Bd.notSynchronized
          refine ⟨_, _, pre0 _ (k257 _ ?_), hrun, hended, _, _, rfl, ?_, ⟨_, rfl⟩, hW, hsame.mono (by decide) (by decide)⟩
          · exact retN X254 hx (t := .boolean) Bd.returns (by simp) (hb hby at_159) hr
          · show Q_rm0 Z _ _ _ _ _ _ _ _ _ h0 n0 _ T254.heap _
            rw [eq254]
            exact ⟨rfl, N254⟩
        · skip
          obtain ⟨T258, X258, e258, st258⟩ := getS2 X199 hx hZ hown (host := "") (Or.inl (hw _ (List.mem_of_getElem? (i := 4) rfl))) Via.refl e199 S_Access_EXECUTE (g := (mkF m 98 #[.val (.int p0), .val (.int p1), .val (.int p2), .val (.int (p0 &&& (1023 : Int32))), .val (.int ((p1 &&& (2147483647 : Int32)) % (3 : Int32))), .val (.int ((p2 &&& (2147483647 : Int32)) % (3 : Int32))), .val (.ref st_PermissionClass_OTHERS), .val (.int (1 : Int32)), .unset, .unset, .unset, .unset, .unset] [])) rfl (hb hby at_98)
          have k259 : ∀ t, Steps p.tables e below (T258.setTop (mkF m 113 #[.val (.int p0), .val (.int p1), .val (.int p2), .val (.int (p0 &&& (1023 : Int32))), .val (.int ((p1 &&& (2147483647 : Int32)) % (3 : Int32))), .val (.int ((p2 &&& (2147483647 : Int32)) % (3 : Int32))), .val (.ref st_PermissionClass_OTHERS), .val (.int (1 : Int32)), .val (.ref st_Access_EXECUTE), .val (.int (1 : Int32)), .val (.int (1 : Int32)), .unset, .unset] [])) t → Steps p.tables e below (s₁.setTop (mkF m 0 #[.val (.int p0), .val (.int p1), .val (.int p2), .unset, .unset, .unset, .unset, .unset, .unset, .unset, .unset, .unset, .unset] [])) t := by
            intro t h
            refine k229 t ?_
            show Steps p.tables e below (T199.setTop (mkF m 84 #[.val (.int p0), .val (.int p1), .val (.int p2), .val (.int (p0 &&& (1023 : Int32))), .val (.int ((p1 &&& (2147483647 : Int32)) % (3 : Int32))), .val (.int ((p2 &&& (2147483647 : Int32)) % (3 : Int32))), .val (.ref st_PermissionClass_OTHERS), .val (.int (1 : Int32)), .unset, .unset, .unset, .unset, .unset] [(.int (1 : Int32)), (.int ((p2 &&& (2147483647 : Int32)) % (3 : Int32)))])) _
            refine XS.icmpYes X199.here hx rfl (pc0 := 84) (pc' := 98) rfl (hb hby at_84) rfl (feq c84_230).2 (by decide) (by decide) ?_
            show Steps p.tables e below (T199.setTop (mkF m 98 #[.val (.int p0), .val (.int p1), .val (.int p2), .val (.int (p0 &&& (1023 : Int32))), .val (.int ((p1 &&& (2147483647 : Int32)) % (3 : Int32))), .val (.int ((p2 &&& (2147483647 : Int32)) % (3 : Int32))), .val (.ref st_PermissionClass_OTHERS), .val (.int (1 : Int32)), .unset, .unset, .unset, .unset, .unset] [])) _
            refine st258 _ ?_
            show Steps p.tables e below (T258.setTop (mkF m 101 #[.val (.int p0), .val (.int p1), .val (.int p2), .val (.int (p0 &&& (1023 : Int32))), .val (.int ((p1 &&& (2147483647 : Int32)) % (3 : Int32))), .val (.int ((p2 &&& (2147483647 : Int32)) % (3 : Int32))), .val (.ref st_PermissionClass_OTHERS), .val (.int (1 : Int32)), .unset, .unset, .unset, .unset, .unset] [(.ref st_Access_EXECUTE)])) _
            refine XS.astore X258.here hx rfl (hb hby at_101) rfl rfl (l' := #[.val (.int p0), .val (.int p1), .val (.int p2), .val (.int (p0 &&& (1023 : Int32))), .val (.int ((p1 &&& (2147483647 : Int32)) % (3 : Int32))), .val (.int ((p2 &&& (2147483647 : Int32)) % (3 : Int32))), .val (.ref st_PermissionClass_OTHERS), .val (.int (1 : Int32)), .val (.ref st_Access_EXECUTE), .unset, .unset, .unset, .unset]) rfl ?_
            show Steps p.tables e below (T258.setTop (mkF m 103 #[.val (.int p0), .val (.int p1), .val (.int p2), .val (.int (p0 &&& (1023 : Int32))), .val (.int ((p1 &&& (2147483647 : Int32)) % (3 : Int32))), .val (.int ((p2 &&& (2147483647 : Int32)) % (3 : Int32))), .val (.ref st_PermissionClass_OTHERS), .val (.int (1 : Int32)), .val (.ref st_Access_EXECUTE), .unset, .unset, .unset, .unset] [])) _
            refine XS.iconst X258.here hx rfl (hb hby at_103) ?_
            show Steps p.tables e below (T258.setTop (mkF m 104 #[.val (.int p0), .val (.int p1), .val (.int p2), .val (.int (p0 &&& (1023 : Int32))), .val (.int ((p1 &&& (2147483647 : Int32)) % (3 : Int32))), .val (.int ((p2 &&& (2147483647 : Int32)) % (3 : Int32))), .val (.ref st_PermissionClass_OTHERS), .val (.int (1 : Int32)), .val (.ref st_Access_EXECUTE), .unset, .unset, .unset, .unset] [(.int (1 : Int32))])) _
            refine XS.istore X258.here hx rfl (hb hby at_104) rfl (l' := #[.val (.int p0), .val (.int p1), .val (.int p2), .val (.int (p0 &&& (1023 : Int32))), .val (.int ((p1 &&& (2147483647 : Int32)) % (3 : Int32))), .val (.int ((p2 &&& (2147483647 : Int32)) % (3 : Int32))), .val (.ref st_PermissionClass_OTHERS), .val (.int (1 : Int32)), .val (.ref st_Access_EXECUTE), .val (.int (1 : Int32)), .unset, .unset, .unset]) rfl ?_
            show Steps p.tables e below (T258.setTop (mkF m 106 #[.val (.int p0), .val (.int p1), .val (.int p2), .val (.int (p0 &&& (1023 : Int32))), .val (.int ((p1 &&& (2147483647 : Int32)) % (3 : Int32))), .val (.int ((p2 &&& (2147483647 : Int32)) % (3 : Int32))), .val (.ref st_PermissionClass_OTHERS), .val (.int (1 : Int32)), .val (.ref st_Access_EXECUTE), .val (.int (1 : Int32)), .unset, .unset, .unset] [])) _
            refine XS.iload X258.here hx rfl (hb hby at_106) rfl ?_
            show Steps p.tables e below (T258.setTop (mkF m 108 #[.val (.int p0), .val (.int p1), .val (.int p2), .val (.int (p0 &&& (1023 : Int32))), .val (.int ((p1 &&& (2147483647 : Int32)) % (3 : Int32))), .val (.int ((p2 &&& (2147483647 : Int32)) % (3 : Int32))), .val (.ref st_PermissionClass_OTHERS), .val (.int (1 : Int32)), .val (.ref st_Access_EXECUTE), .val (.int (1 : Int32)), .unset, .unset, .unset] [(.int (1 : Int32))])) _
            refine XS.iload X258.here hx rfl (hb hby at_108) rfl ?_
            show Steps p.tables e below (T258.setTop (mkF m 110 #[.val (.int p0), .val (.int p1), .val (.int p2), .val (.int (p0 &&& (1023 : Int32))), .val (.int ((p1 &&& (2147483647 : Int32)) % (3 : Int32))), .val (.int ((p2 &&& (2147483647 : Int32)) % (3 : Int32))), .val (.ref st_PermissionClass_OTHERS), .val (.int (1 : Int32)), .val (.ref st_Access_EXECUTE), .val (.int (1 : Int32)), .unset, .unset, .unset] [(.int (1 : Int32)), (.int (1 : Int32))])) _
            refine XS.imul X258.here hx rfl (hb hby at_110) rfl ?_
            show Steps p.tables e below (T258.setTop (mkF m 111 #[.val (.int p0), .val (.int p1), .val (.int p2), .val (.int (p0 &&& (1023 : Int32))), .val (.int ((p1 &&& (2147483647 : Int32)) % (3 : Int32))), .val (.int ((p2 &&& (2147483647 : Int32)) % (3 : Int32))), .val (.ref st_PermissionClass_OTHERS), .val (.int (1 : Int32)), .val (.ref st_Access_EXECUTE), .val (.int (1 : Int32)), .unset, .unset, .unset] [(.int (1 : Int32))])) _
            refine XS.istore X258.here hx rfl (hb hby at_111) rfl (l' := #[.val (.int p0), .val (.int p1), .val (.int p2), .val (.int (p0 &&& (1023 : Int32))), .val (.int ((p1 &&& (2147483647 : Int32)) % (3 : Int32))), .val (.int ((p2 &&& (2147483647 : Int32)) % (3 : Int32))), .val (.ref st_PermissionClass_OTHERS), .val (.int (1 : Int32)), .val (.ref st_Access_EXECUTE), .val (.int (1 : Int32)), .val (.int (1 : Int32)), .unset, .unset]) rfl ?_
            exact h
          obtain ⟨jx, hk260, k260⟩ : ∃ (jx : Int32), (jx = if (((p0 &&& (1023 : Int32)) / (1 : Int32)) % (2 : Int32)) = (1 : Int32) then 1 else 0) ∧ ∀ t, Steps p.tables e below (T258.setTop (mkF m 128 #[.val (.int p0), .val (.int p1), .val (.int p2), .val (.int (p0 &&& (1023 : Int32))), .val (.int ((p1 &&& (2147483647 : Int32)) % (3 : Int32))), .val (.int ((p2 &&& (2147483647 : Int32)) % (3 : Int32))), .val (.ref st_PermissionClass_OTHERS), .val (.int (1 : Int32)), .val (.ref st_Access_EXECUTE), .val (.int (1 : Int32)), .val (.int (1 : Int32)), .unset, .unset] [(.int jx)])) t → Steps p.tables e below (s₁.setTop (mkF m 0 #[.val (.int p0), .val (.int p1), .val (.int p2), .unset, .unset, .unset, .unset, .unset, .unset, .unset, .unset, .unset, .unset] [])) t := by
            have k261 : ∀ t, Steps p.tables e below (T258.setTop (mkF m 120 #[.val (.int p0), .val (.int p1), .val (.int p2), .val (.int (p0 &&& (1023 : Int32))), .val (.int ((p1 &&& (2147483647 : Int32)) % (3 : Int32))), .val (.int ((p2 &&& (2147483647 : Int32)) % (3 : Int32))), .val (.ref st_PermissionClass_OTHERS), .val (.int (1 : Int32)), .val (.ref st_Access_EXECUTE), .val (.int (1 : Int32)), .val (.int (1 : Int32)), .unset, .unset] [(.int (1 : Int32)), (.int (((p0 &&& (1023 : Int32)) / (1 : Int32)) % (2 : Int32)))])) t → Steps p.tables e below (s₁.setTop (mkF m 0 #[.val (.int p0), .val (.int p1), .val (.int p2), .unset, .unset, .unset, .unset, .unset, .unset, .unset, .unset, .unset, .unset] [])) t := by
              intro t h
              refine k259 t ?_
              show Steps p.tables e below (T258.setTop (mkF m 113 #[.val (.int p0), .val (.int p1), .val (.int p2), .val (.int (p0 &&& (1023 : Int32))), .val (.int ((p1 &&& (2147483647 : Int32)) % (3 : Int32))), .val (.int ((p2 &&& (2147483647 : Int32)) % (3 : Int32))), .val (.ref st_PermissionClass_OTHERS), .val (.int (1 : Int32)), .val (.ref st_Access_EXECUTE), .val (.int (1 : Int32)), .val (.int (1 : Int32)), .unset, .unset] [])) _
              refine XS.iloadN X258.here hx rfl (hb hby at_113) rfl ?_
              show Steps p.tables e below (T258.setTop (mkF m 114 #[.val (.int p0), .val (.int p1), .val (.int p2), .val (.int (p0 &&& (1023 : Int32))), .val (.int ((p1 &&& (2147483647 : Int32)) % (3 : Int32))), .val (.int ((p2 &&& (2147483647 : Int32)) % (3 : Int32))), .val (.ref st_PermissionClass_OTHERS), .val (.int (1 : Int32)), .val (.ref st_Access_EXECUTE), .val (.int (1 : Int32)), .val (.int (1 : Int32)), .unset, .unset] [(.int (p0 &&& (1023 : Int32)))])) _
              refine XS.iload X258.here hx rfl (hb hby at_114) rfl ?_
              show Steps p.tables e below (T258.setTop (mkF m 116 #[.val (.int p0), .val (.int p1), .val (.int p2), .val (.int (p0 &&& (1023 : Int32))), .val (.int ((p1 &&& (2147483647 : Int32)) % (3 : Int32))), .val (.int ((p2 &&& (2147483647 : Int32)) % (3 : Int32))), .val (.ref st_PermissionClass_OTHERS), .val (.int (1 : Int32)), .val (.ref st_Access_EXECUTE), .val (.int (1 : Int32)), .val (.int (1 : Int32)), .unset, .unset] [(.int (1 : Int32)), (.int (p0 &&& (1023 : Int32)))])) _
              refine XS.idiv X258.here hx rfl (hb hby at_116) rfl (by decide) ?_
              show Steps p.tables e below (T258.setTop (mkF m 117 #[.val (.int p0), .val (.int p1), .val (.int p2), .val (.int (p0 &&& (1023 : Int32))), .val (.int ((p1 &&& (2147483647 : Int32)) % (3 : Int32))), .val (.int ((p2 &&& (2147483647 : Int32)) % (3 : Int32))), .val (.ref st_PermissionClass_OTHERS), .val (.int (1 : Int32)), .val (.ref st_Access_EXECUTE), .val (.int (1 : Int32)), .val (.int (1 : Int32)), .unset, .unset] [(.int ((p0 &&& (1023 : Int32)) / (1 : Int32)))])) _
              refine XS.iconst X258.here hx rfl (hb hby at_117) ?_
              show Steps p.tables e below (T258.setTop (mkF m 118 #[.val (.int p0), .val (.int p1), .val (.int p2), .val (.int (p0 &&& (1023 : Int32))), .val (.int ((p1 &&& (2147483647 : Int32)) % (3 : Int32))), .val (.int ((p2 &&& (2147483647 : Int32)) % (3 : Int32))), .val (.ref st_PermissionClass_OTHERS), .val (.int (1 : Int32)), .val (.ref st_Access_EXECUTE), .val (.int (1 : Int32)), .val (.int (1 : Int32)), .unset, .unset] [(.int (2 : Int32)), (.int ((p0 &&& (1023 : Int32)) / (1 : Int32)))])) _
              refine iremM (g := (mkF m 118 #[.val (.int p0), .val (.int p1), .val (.int p2), .val (.int (p0 &&& (1023 : Int32))), .val (.int ((p1 &&& (2147483647 : Int32)) % (3 : Int32))), .val (.int ((p2 &&& (2147483647 : Int32)) % (3 : Int32))), .val (.ref st_PermissionClass_OTHERS), .val (.int (1 : Int32)), .val (.ref st_Access_EXECUTE), .val (.int (1 : Int32)), .val (.int (1 : Int32)), .unset, .unset] [(.int (2 : Int32)), (.int ((p0 &&& (1023 : Int32)) / (1 : Int32)))])) X258 hx rfl (hb hby at_118) rfl (by decide) ?_
              show Steps p.tables e below (T258.setTop (mkF m 119 #[.val (.int p0), .val (.int p1), .val (.int p2), .val (.int (p0 &&& (1023 : Int32))), .val (.int ((p1 &&& (2147483647 : Int32)) % (3 : Int32))), .val (.int ((p2 &&& (2147483647 : Int32)) % (3 : Int32))), .val (.ref st_PermissionClass_OTHERS), .val (.int (1 : Int32)), .val (.ref st_Access_EXECUTE), .val (.int (1 : Int32)), .val (.int (1 : Int32)), .unset, .unset] [(.int (((p0 &&& (1023 : Int32)) / (1 : Int32)) % (2 : Int32)))])) _
              refine XS.iconst X258.here hx rfl (hb hby at_119) ?_
              exact h
            by_cases c120_262 : (((p0 &&& (1023 : Int32)) / (1 : Int32)) % (2 : Int32)) = (1 : Int32)
            · skip
              have k263 : ∀ t, Steps p.tables e below (T258.setTop (mkF m 128 #[.val (.int p0), .val (.int p1), .val (.int p2), .val (.int (p0 &&& (1023 : Int32))), .val (.int ((p1 &&& (2147483647 : Int32)) % (3 : Int32))), .val (.int ((p2 &&& (2147483647 : Int32)) % (3 : Int32))), .val (.ref st_PermissionClass_OTHERS), .val (.int (1 : Int32)), .val (.ref st_Access_EXECUTE), .val (.int (1 : Int32)), .val (.int (1 : Int32)), .unset, .unset] [(.int (1 : Int32))])) t → Steps p.tables e below (s₁.setTop (mkF m 0 #[.val (.int p0), .val (.int p1), .val (.int p2), .unset, .unset, .unset, .unset, .unset, .unset, .unset, .unset, .unset, .unset] [])) t := by
                intro t h
                refine k261 t ?_
                show Steps p.tables e below (T258.setTop (mkF m 120 #[.val (.int p0), .val (.int p1), .val (.int p2), .val (.int (p0 &&& (1023 : Int32))), .val (.int ((p1 &&& (2147483647 : Int32)) % (3 : Int32))), .val (.int ((p2 &&& (2147483647 : Int32)) % (3 : Int32))), .val (.ref st_PermissionClass_OTHERS), .val (.int (1 : Int32)), .val (.ref st_Access_EXECUTE), .val (.int (1 : Int32)), .val (.int (1 : Int32)), .unset, .unset] [(.int (1 : Int32)), (.int (((p0 &&& (1023 : Int32)) / (1 : Int32)) % (2 : Int32)))])) _
                refine XS.icmpNo X258.here hx rfl (hb hby at_120) rfl (teq c120_262).2 ?_
                show Steps p.tables e below (T258.setTop (mkF m 123 #[.val (.int p0), .val (.int p1), .val (.int p2), .val (.int (p0 &&& (1023 : Int32))), .val (.int ((p1 &&& (2147483647 : Int32)) % (3 : Int32))), .val (.int ((p2 &&& (2147483647 : Int32)) % (3 : Int32))), .val (.ref st_PermissionClass_OTHERS), .val (.int (1 : Int32)), .val (.ref st_Access_EXECUTE), .val (.int (1 : Int32)), .val (.int (1 : Int32)), .unset, .unset] [])) _
                refine XS.iconst X258.here hx rfl (hb hby at_123) ?_
                show Steps p.tables e below (T258.setTop (mkF m 124 #[.val (.int p0), .val (.int p1), .val (.int p2), .val (.int (p0 &&& (1023 : Int32))), .val (.int ((p1 &&& (2147483647 : Int32)) % (3 : Int32))), .val (.int ((p2 &&& (2147483647 : Int32)) % (3 : Int32))), .val (.ref st_PermissionClass_OTHERS), .val (.int (1 : Int32)), .val (.ref st_Access_EXECUTE), .val (.int (1 : Int32)), .val (.int (1 : Int32)), .unset, .unset] [(.int (1 : Int32))])) _
                refine XS.goto X258.here hx rfl (pc0 := 124) (pc' := 128) rfl (hb hby at_124) (by decide) (by decide) ?_
                exact h
              exact ⟨(1 : Int32), by rw [if_pos c120_262], k263⟩
            · skip
              have k264 : ∀ t, Steps p.tables e below (T258.setTop (mkF m 128 #[.val (.int p0), .val (.int p1), .val (.int p2), .val (.int (p0 &&& (1023 : Int32))), .val (.int ((p1 &&& (2147483647 : Int32)) % (3 : Int32))), .val (.int ((p2 &&& (2147483647 : Int32)) % (3 : Int32))), .val (.ref st_PermissionClass_OTHERS), .val (.int (1 : Int32)), .val (.ref st_Access_EXECUTE), .val (.int (1 : Int32)), .val (.int (1 : Int32)), .unset, .unset] [(.int (0 : Int32))])) t → Steps p.tables e below (s₁.setTop (mkF m 0 #[.val (.int p0), .val (.int p1), .val (.int p2), .unset, .unset, .unset, .unset, .unset, .unset, .unset, .unset, .unset, .unset] [])) t := by
                intro t h
                refine k261 t ?_
                show Steps p.tables e below (T258.setTop (mkF m 120 #[.val (.int p0), .val (.int p1), .val (.int p2), .val (.int (p0 &&& (1023 : Int32))), .val (.int ((p1 &&& (2147483647 : Int32)) % (3 : Int32))), .val (.int ((p2 &&& (2147483647 : Int32)) % (3 : Int32))), .val (.ref st_PermissionClass_OTHERS), .val (.int (1 : Int32)), .val (.ref st_Access_EXECUTE), .val (.int (1 : Int32)), .val (.int (1 : Int32)), .unset, .unset] [(.int (1 : Int32)), (.int (((p0 &&& (1023 : Int32)) / (1 : Int32)) % (2 : Int32)))])) _
                refine XS.icmpYes X258.here hx rfl (pc0 := 120) (pc' := 127) rfl (hb hby at_120) rfl (feq c120_262).2 (by decide) (by decide) ?_
                show Steps p.tables e below (T258.setTop (mkF m 127 #[.val (.int p0), .val (.int p1), .val (.int p2), .val (.int (p0 &&& (1023 : Int32))), .val (.int ((p1 &&& (2147483647 : Int32)) % (3 : Int32))), .val (.int ((p2 &&& (2147483647 : Int32)) % (3 : Int32))), .val (.ref st_PermissionClass_OTHERS), .val (.int (1 : Int32)), .val (.ref st_Access_EXECUTE), .val (.int (1 : Int32)), .val (.int (1 : Int32)), .unset, .unset] [])) _
                refine XS.iconst X258.here hx rfl (hb hby at_127) ?_
                exact h
              exact ⟨(0 : Int32), by rw [if_neg c120_262], k264⟩
          obtain ⟨T265, h265, X265, e265, E265, A265, D265, -, st265⟩ := newO X258 hx hZ hown (hw _ (List.mem_of_getElem? (i := 7) rfl)) (hw _ (List.mem_of_getElem? (i := 8) rfl)) (hw _ (List.mem_of_getElem? (i := 9) rfl)) e258 (g := (mkF m 130 #[.val (.int p0), .val (.int p1), .val (.int p2), .val (.int (p0 &&& (1023 : Int32))), .val (.int ((p1 &&& (2147483647 : Int32)) % (3 : Int32))), .val (.int ((p2 &&& (2147483647 : Int32)) % (3 : Int32))), .val (.ref st_PermissionClass_OTHERS), .val (.int (1 : Int32)), .val (.ref st_Access_EXECUTE), .val (.int (1 : Int32)), .val (.int (1 : Int32)), .val (.int jx), .unset] [])) rfl (hb hby at_130) (by decide) (by decide)
          obtain ⟨b265, g265⟩ : ∃ z, z = h0.size := ⟨_, rfl⟩
          rw [← g265] at A265 D265 st265
          have ne_st_Access_EXECUTE_b265 : st_Access_EXECUTE ≠ b265 := Nat.ne_of_lt (Nat.lt_of_lt_of_le E_Access_EXECUTE.lt (Nat.le_of_eq g265.symm))
          have ne_st_PermissionClass_OTHERS_b265 : st_PermissionClass_OTHERS ≠ b265 := Nat.ne_of_lt (Nat.lt_of_lt_of_le E_PermissionClass_OTHERS.lt (Nat.le_of_eq g265.symm))
          have g_b265 : n0 ≤ b265 := Nat.le_trans Z0 (Nat.le_of_eq g265.symm)
          have sz_b265 : h0.size ≤ b265 := Nat.le_trans K0.1 (Nat.le_of_eq g265.symm)
          have f266 := E_Access_EXECUTE.ext E265
          have f267 := E_PermissionClass_OTHERS.ext E265
          have f268 := F_Access_EXECUTE_bit.ext E265
          have f269 := F_PermissionClass_OTHERS_shift.ext E265
          have Z270 : n0 ≤ h265.size := Nat.le_trans Z0 E265.1
          have K271 := K0.ext E265
          have f272 : Fld Z h265 b265 "com/example/lats/lats/permission/Mode" "bits" "I" (.int (0 : Int32)) := D265 (Or.inr (hw _ (List.mem_of_getElem? (i := 17) rfl))) (ty := .int) (by decide)
          obtain ⟨_, _, ⟨T273, L273, k273, n273⟩, -, X273, ⟨Lc273, hQ273, l273, y273, z273⟩, st273⟩ := X265.specialBack hx (y := (⟨"com/example/lats/lats/permission/Mode", "<init>", "(I)V"⟩ : MethodName)) rfl hown (mvT hZ (hw _ (List.mem_of_getElem? (i := 10) rfl))) (mvT hZ (hw _ (List.mem_of_getElem? (i := 11) rfl))) (mvT hZ (hw _ (List.mem_of_getElem? (i := 12) rfl))) (by decide) (backOf (W := 1) (rm1 l Z a0 hw [] b265 (p0 &&& (1023 : Int32))  h265 n0 Z270 f272 A265 g_b265 (own_bits p0).1 (own_bits p0).2) hZ (hw _ (List.mem_of_getElem? (i := 12) rfl)) (hw _ (List.mem_of_getElem? (i := 9) rfl)) (by decide) (by decide)) (g := (mkF m 135 #[.val (.int p0), .val (.int p1), .val (.int p2), .val (.int (p0 &&& (1023 : Int32))), .val (.int ((p1 &&& (2147483647 : Int32)) % (3 : Int32))), .val (.int ((p2 &&& (2147483647 : Int32)) % (3 : Int32))), .val (.ref st_PermissionClass_OTHERS), .val (.int (1 : Int32)), .val (.ref st_Access_EXECUTE), .val (.int (1 : Int32)), .val (.int (1 : Int32)), .val (.int jx), .unset] [(.int (p0 &&& (1023 : Int32))), (.ref b265), (.ref b265)])) rfl (by rw [hml]; rfl) (Steps.refl _) (a := b265) (argsL := [(.int (p0 &&& (1023 : Int32)))]) (rest := [(.ref b265)]) (lenOf own_pd_1 rfl) rfl (by show 2 * 0 + _ ≤ _; exact Nat.le_of_eq rfl) (hb hby at_135) (fun _ _ => ⟨rfl, e265, (by decide : 1 + 0 ≤ _), (by decide : 1 + 0 ≤ _)⟩)
          dsimp only [Pt.U, Pt.locs, Pt.cells, Pt.slots] at X273 l273 y273 z273 st273 hQ273
          subst l273 y273 z273
          obtain ⟨rfl, Nq273, Kq273, Eq273, Fq273⟩ := hQ273
          have N273 := Fr.app N0 Nq273
          have f274 := f266.keep Kq273
          have f275 := f267.keep Kq273
          have f276 := f268.keep Kq273 (ninS ne_st_Access_EXECUTE_b265 nin0)
          have f277 := f269.keep Kq273 (ninS ne_st_PermissionClass_OTHERS_b265 nin0)
          have f278 := A265.keep Kq273
          have Z279 : n0 ≤ T273.heap.size := Nat.le_trans Z270 Kq273.1
          have K280 := K271.trans Kq273 (allS (Or.inr sz_b265) all0)
          obtain ⟨cq281, kq281, q281a, q281b, q281c⟩ := isOf hZ rfl f278
          obtain ⟨_, _, ⟨T281, L281, k281, n281⟩, -, X281, ⟨Lc281, hQ281, l281, y281, z281⟩, st281⟩ := X273.virtualBack hx (y := (⟨"com/example/lats/lats/permission/Mode", "grants", "(Lcom/example/lats/lats/permission/PermissionClass;Lcom/example/lats/lats/permission/Access;)Z"⟩ : MethodName)) (z := (⟨"com/example/lats/lats/permission/Mode", "grants", "(Lcom/example/lats/lats/permission/PermissionClass;Lcom/example/lats/lats/permission/Access;)Z"⟩ : MethodName)) hown (mvT hZ (hw _ (List.mem_of_getElem? (i := 18) rfl))) (mvT hZ (hw _ (List.mem_of_getElem? (i := 19) rfl))) (notFace_of_selects (args := #[]) (mvT hZ (hw _ (List.mem_of_getElem? (i := 21) rfl)))) (mvT hZ (hw _ (List.mem_of_getElem? (i := 21) rfl))) (mvT hZ (hw _ (List.mem_of_getElem? (i := 20) rfl))) (by decide) (backOf (W := 0) (rmG l Z a0 hw [] b265 st_PermissionClass_OTHERS st_Access_EXECUTE (p0 &&& (1023 : Int32)) (0 : Int32) (1 : Int32) T273.heap n0 Z279 Fq273 f277 f276 f275 f274) hZ (hw _ (List.mem_of_getElem? (i := 22) rfl)) (hw _ (List.mem_of_getElem? (i := 9) rfl)) (by decide) (by decide)) q281a q281c (g := (mkF m 146 #[.val (.int p0), .val (.int p1), .val (.int p2), .val (.int (p0 &&& (1023 : Int32))), .val (.int ((p1 &&& (2147483647 : Int32)) % (3 : Int32))), .val (.int ((p2 &&& (2147483647 : Int32)) % (3 : Int32))), .val (.ref st_PermissionClass_OTHERS), .val (.int (1 : Int32)), .val (.ref st_Access_EXECUTE), .val (.int (1 : Int32)), .val (.int (1 : Int32)), .val (.int jx), .val (.ref b265)] [(.ref st_Access_EXECUTE), (.ref st_PermissionClass_OTHERS), (.ref b265)])) rfl (by rw [hml]; rfl) (Steps.refl _) (argsL := [(.ref st_PermissionClass_OTHERS), (.ref st_Access_EXECUTE)]) (rest := []) (lenOf own_pd_2 rfl) rfl (by show 2 * 0 + _ ≤ _; exact Nat.le_of_eq rfl) (hb hby at_146) (fun _ _ => ⟨rfl, rfl, (by decide : 1 + 0 ≤ _), (by decide : 1 + 0 ≤ _)⟩)
          dsimp only [Pt.U, Pt.locs, Pt.cells, Pt.slots] at X281 l281 y281 z281 st281 hQ281
          subst l281 y281 z281
          obtain ⟨rfl, Nq281, eq281⟩ := hQ281
          have N281 := Fr.app N273 Nq281
          have k282 : ∀ t, Steps p.tables e below (T281.setTop (mkF m 151 #[.val (.int p0), .val (.int p1), .val (.int p2), .val (.int (p0 &&& (1023 : Int32))), .val (.int ((p1 &&& (2147483647 : Int32)) % (3 : Int32))), .val (.int ((p2 &&& (2147483647 : Int32)) % (3 : Int32))), .val (.ref st_PermissionClass_OTHERS), .val (.int (1 : Int32)), .val (.ref st_Access_EXECUTE), .val (.int (1 : Int32)), .val (.int (1 : Int32)), .val (.int jx), .val (.ref b265)] [(.int jx), (.int (own_gr (p0 &&& (1023 : Int32)) (1 : Int32) (0 : Int32)))])) t → Steps p.tables e below (s₁.setTop (mkF m 0 #[.val (.int p0), .val (.int p1), .val (.int p2), .unset, .unset, .unset, .unset, .unset, .unset, .unset, .unset, .unset, .unset] [])) t := by
            intro t h
            refine k260 t ?_
            show Steps p.tables e below (T258.setTop (mkF m 128 #[.val (.int p0), .val (.int p1), .val (.int p2), .val (.int (p0 &&& (1023 : Int32))), .val (.int ((p1 &&& (2147483647 : Int32)) % (3 : Int32))), .val (.int ((p2 &&& (2147483647 : Int32)) % (3 : Int32))), .val (.ref st_PermissionClass_OTHERS), .val (.int (1 : Int32)), .val (.ref st_Access_EXECUTE), .val (.int (1 : Int32)), .val (.int (1 : Int32)), .unset, .unset] [(.int jx)])) _
            refine XS.istore X258.here hx rfl (hb hby at_128) rfl (l' := #[.val (.int p0), .val (.int p1), .val (.int p2), .val (.int (p0 &&& (1023 : Int32))), .val (.int ((p1 &&& (2147483647 : Int32)) % (3 : Int32))), .val (.int ((p2 &&& (2147483647 : Int32)) % (3 : Int32))), .val (.ref st_PermissionClass_OTHERS), .val (.int (1 : Int32)), .val (.ref st_Access_EXECUTE), .val (.int (1 : Int32)), .val (.int (1 : Int32)), .val (.int jx), .unset]) rfl ?_
            show Steps p.tables e below (T258.setTop (mkF m 130 #[.val (.int p0), .val (.int p1), .val (.int p2), .val (.int (p0 &&& (1023 : Int32))), .val (.int ((p1 &&& (2147483647 : Int32)) % (3 : Int32))), .val (.int ((p2 &&& (2147483647 : Int32)) % (3 : Int32))), .val (.ref st_PermissionClass_OTHERS), .val (.int (1 : Int32)), .val (.ref st_Access_EXECUTE), .val (.int (1 : Int32)), .val (.int (1 : Int32)), .val (.int jx), .unset] [])) _
            refine st265 _ ?_
            show Steps p.tables e below (T265.setTop (mkF m 133 #[.val (.int p0), .val (.int p1), .val (.int p2), .val (.int (p0 &&& (1023 : Int32))), .val (.int ((p1 &&& (2147483647 : Int32)) % (3 : Int32))), .val (.int ((p2 &&& (2147483647 : Int32)) % (3 : Int32))), .val (.ref st_PermissionClass_OTHERS), .val (.int (1 : Int32)), .val (.ref st_Access_EXECUTE), .val (.int (1 : Int32)), .val (.int (1 : Int32)), .val (.int jx), .unset] [(.ref b265)])) _
            refine XS.dup X265.here hx rfl (hb hby at_133) rfl rfl ?_
            show Steps p.tables e below (T265.setTop (mkF m 134 #[.val (.int p0), .val (.int p1), .val (.int p2), .val (.int (p0 &&& (1023 : Int32))), .val (.int ((p1 &&& (2147483647 : Int32)) % (3 : Int32))), .val (.int ((p2 &&& (2147483647 : Int32)) % (3 : Int32))), .val (.ref st_PermissionClass_OTHERS), .val (.int (1 : Int32)), .val (.ref st_Access_EXECUTE), .val (.int (1 : Int32)), .val (.int (1 : Int32)), .val (.int jx), .unset] [(.ref b265), (.ref b265)])) _
            refine XS.iloadN X265.here hx rfl (hb hby at_134) rfl ?_
            show Steps p.tables e below (T265.setTop (mkF m 135 #[.val (.int p0), .val (.int p1), .val (.int p2), .val (.int (p0 &&& (1023 : Int32))), .val (.int ((p1 &&& (2147483647 : Int32)) % (3 : Int32))), .val (.int ((p2 &&& (2147483647 : Int32)) % (3 : Int32))), .val (.ref st_PermissionClass_OTHERS), .val (.int (1 : Int32)), .val (.ref st_Access_EXECUTE), .val (.int (1 : Int32)), .val (.int (1 : Int32)), .val (.int jx), .unset] [(.int (p0 &&& (1023 : Int32))), (.ref b265), (.ref b265)])) _
            refine st273.trans ?_
            show Steps p.tables e below (T273.setTop (mkF m 138 #[.val (.int p0), .val (.int p1), .val (.int p2), .val (.int (p0 &&& (1023 : Int32))), .val (.int ((p1 &&& (2147483647 : Int32)) % (3 : Int32))), .val (.int ((p2 &&& (2147483647 : Int32)) % (3 : Int32))), .val (.ref st_PermissionClass_OTHERS), .val (.int (1 : Int32)), .val (.ref st_Access_EXECUTE), .val (.int (1 : Int32)), .val (.int (1 : Int32)), .val (.int jx), .unset] [(.ref b265)])) _
            refine XS.astore X273.here hx rfl (hb hby at_138) rfl rfl (l' := #[.val (.int p0), .val (.int p1), .val (.int p2), .val (.int (p0 &&& (1023 : Int32))), .val (.int ((p1 &&& (2147483647 : Int32)) % (3 : Int32))), .val (.int ((p2 &&& (2147483647 : Int32)) % (3 : Int32))), .val (.ref st_PermissionClass_OTHERS), .val (.int (1 : Int32)), .val (.ref st_Access_EXECUTE), .val (.int (1 : Int32)), .val (.int (1 : Int32)), .val (.int jx), .val (.ref b265)]) rfl ?_
            show Steps p.tables e below (T273.setTop (mkF m 140 #[.val (.int p0), .val (.int p1), .val (.int p2), .val (.int (p0 &&& (1023 : Int32))), .val (.int ((p1 &&& (2147483647 : Int32)) % (3 : Int32))), .val (.int ((p2 &&& (2147483647 : Int32)) % (3 : Int32))), .val (.ref st_PermissionClass_OTHERS), .val (.int (1 : Int32)), .val (.ref st_Access_EXECUTE), .val (.int (1 : Int32)), .val (.int (1 : Int32)), .val (.int jx), .val (.ref b265)] [])) _
            refine XS.aload X273.here hx rfl (hb hby at_140) rfl rfl ?_
            show Steps p.tables e below (T273.setTop (mkF m 142 #[.val (.int p0), .val (.int p1), .val (.int p2), .val (.int (p0 &&& (1023 : Int32))), .val (.int ((p1 &&& (2147483647 : Int32)) % (3 : Int32))), .val (.int ((p2 &&& (2147483647 : Int32)) % (3 : Int32))), .val (.ref st_PermissionClass_OTHERS), .val (.int (1 : Int32)), .val (.ref st_Access_EXECUTE), .val (.int (1 : Int32)), .val (.int (1 : Int32)), .val (.int jx), .val (.ref b265)] [(.ref b265)])) _
            refine XS.aload X273.here hx rfl (hb hby at_142) rfl rfl ?_
            show Steps p.tables e below (T273.setTop (mkF m 144 #[.val (.int p0), .val (.int p1), .val (.int p2), .val (.int (p0 &&& (1023 : Int32))), .val (.int ((p1 &&& (2147483647 : Int32)) % (3 : Int32))), .val (.int ((p2 &&& (2147483647 : Int32)) % (3 : Int32))), .val (.ref st_PermissionClass_OTHERS), .val (.int (1 : Int32)), .val (.ref st_Access_EXECUTE), .val (.int (1 : Int32)), .val (.int (1 : Int32)), .val (.int jx), .val (.ref b265)] [(.ref st_PermissionClass_OTHERS), (.ref b265)])) _
            refine XS.aload X273.here hx rfl (hb hby at_144) rfl rfl ?_
            show Steps p.tables e below (T273.setTop (mkF m 146 #[.val (.int p0), .val (.int p1), .val (.int p2), .val (.int (p0 &&& (1023 : Int32))), .val (.int ((p1 &&& (2147483647 : Int32)) % (3 : Int32))), .val (.int ((p2 &&& (2147483647 : Int32)) % (3 : Int32))), .val (.ref st_PermissionClass_OTHERS), .val (.int (1 : Int32)), .val (.ref st_Access_EXECUTE), .val (.int (1 : Int32)), .val (.int (1 : Int32)), .val (.int jx), .val (.ref b265)] [(.ref st_Access_EXECUTE), (.ref st_PermissionClass_OTHERS), (.ref b265)])) _
            refine st281.trans ?_
            show Steps p.tables e below (T281.setTop (mkF m 149 #[.val (.int p0), .val (.int p1), .val (.int p2), .val (.int (p0 &&& (1023 : Int32))), .val (.int ((p1 &&& (2147483647 : Int32)) % (3 : Int32))), .val (.int ((p2 &&& (2147483647 : Int32)) % (3 : Int32))), .val (.ref st_PermissionClass_OTHERS), .val (.int (1 : Int32)), .val (.ref st_Access_EXECUTE), .val (.int (1 : Int32)), .val (.int (1 : Int32)), .val (.int jx), .val (.ref b265)] [(.int (own_gr (p0 &&& (1023 : Int32)) (1 : Int32) (0 : Int32)))])) _
            refine XS.iload X281.here hx rfl (hb hby at_149) rfl ?_
            exact h
          have b151_283 : (own_gr (p0 &&& (1023 : Int32)) (1 : Int32) (0 : Int32)) = jx := by rw [hk260]; exact own_t1_1 p0
          have k284 : ∀ t, Steps p.tables e below (T281.setTop (mkF m 159 #[.val (.int p0), .val (.int p1), .val (.int p2), .val (.int (p0 &&& (1023 : Int32))), .val (.int ((p1 &&& (2147483647 : Int32)) % (3 : Int32))), .val (.int ((p2 &&& (2147483647 : Int32)) % (3 : Int32))), .val (.ref st_PermissionClass_OTHERS), .val (.int (1 : Int32)), .val (.ref st_Access_EXECUTE), .val (.int (1 : Int32)), .val (.int (1 : Int32)), .val (.int jx), .val (.ref b265)] [(.int (1 : Int32))])) t → Steps p.tables e below (s₁.setTop (mkF m 0 #[.val (.int p0), .val (.int p1), .val (.int p2), .unset, .unset, .unset, .unset, .unset, .unset, .unset, .unset, .unset, .unset] [])) t := by
            intro t h
            refine k282 t ?_
            show Steps p.tables e below (T281.setTop (mkF m 151 #[.val (.int p0), .val (.int p1), .val (.int p2), .val (.int (p0 &&& (1023 : Int32))), .val (.int ((p1 &&& (2147483647 : Int32)) % (3 : Int32))), .val (.int ((p2 &&& (2147483647 : Int32)) % (3 : Int32))), .val (.ref st_PermissionClass_OTHERS), .val (.int (1 : Int32)), .val (.ref st_Access_EXECUTE), .val (.int (1 : Int32)), .val (.int (1 : Int32)), .val (.int jx), .val (.ref b265)] [(.int jx), (.int (own_gr (p0 &&& (1023 : Int32)) (1 : Int32) (0 : Int32)))])) _
            refine XS.icmpNo X281.here hx rfl (hb hby at_151) rfl (teq b151_283).2 ?_
            show Steps p.tables e below (T281.setTop (mkF m 154 #[.val (.int p0), .val (.int p1), .val (.int p2), .val (.int (p0 &&& (1023 : Int32))), .val (.int ((p1 &&& (2147483647 : Int32)) % (3 : Int32))), .val (.int ((p2 &&& (2147483647 : Int32)) % (3 : Int32))), .val (.ref st_PermissionClass_OTHERS), .val (.int (1 : Int32)), .val (.ref st_Access_EXECUTE), .val (.int (1 : Int32)), .val (.int (1 : Int32)), .val (.int jx), .val (.ref b265)] [])) _
            refine XS.iconst X281.here hx rfl (hb hby at_154) ?_
            show Steps p.tables e below (T281.setTop (mkF m 155 #[.val (.int p0), .val (.int p1), .val (.int p2), .val (.int (p0 &&& (1023 : Int32))), .val (.int ((p1 &&& (2147483647 : Int32)) % (3 : Int32))), .val (.int ((p2 &&& (2147483647 : Int32)) % (3 : Int32))), .val (.ref st_PermissionClass_OTHERS), .val (.int (1 : Int32)), .val (.ref st_Access_EXECUTE), .val (.int (1 : Int32)), .val (.int (1 : Int32)), .val (.int jx), .val (.ref b265)] [(.int (1 : Int32))])) _
            refine XS.goto X281.here hx rfl (pc0 := 155) (pc' := 159) rfl (hb hby at_155) (by decide) (by decide) ?_
            exact h
          obtain ⟨fs, hr, hrun, hended, hW, hsame⟩ := X281.leave (v := some (.int (1 : Int32))) (fun h => by rw [Bd.returns] at h; cases h) Bd.notSynchronized
          refine ⟨_, _, pre0 _ (k284 _ ?_), hrun, hended, _, _, rfl, ?_, ⟨_, rfl⟩, hW, hsame.mono (by decide) (by decide)⟩
          · exact retN X281 hx (t := .boolean) Bd.returns (by simp) (hb hby at_159) hr
          · show Q_rm0 Z _ _ _ _ _ _ _ _ _ h0 n0 _ T281.heap _
            rw [eq281]
            exact ⟨rfl, N281⟩
set_option maxRecDepth 65536 in
set_option maxHeartbeats 40000000 in
theorem comes_1 {Post : Tables → Env → Array Value → State → Outcome → State → Prop} (hpost : ∀ tb e args s v u, (limb_1_1.after args s (.returned v) u = true ∧ limb_1_2.after args s (.returned v) u = true ∧ True) → FrameEnd s (.returned v) u (Jvm.fieldLocs frame_1_writes args s ++ Jvm.arrayLocs frame_1_arrays args s ++ Jvm.staticLocs frame_1_statics s) 16 128 → Post tb e args s (.returned v) u) :
    ArmFor flags0 classFile x code maxLocals ret World_1 tables_1 room_1 Calls_1 rest_1 Pre_1 Post := by
  intro l hfl _ _ p e ha hc hk s m args below hf hA hF happ hP
  obtain ⟨hcalls, hrest, hpre⟩ := hP
  obtain ⟨-, -, -, hnamed, -, -, -, hat⟩ := (Spec.applies_iff hf).mp happ
  obtain ⟨hg, hn⟩ := and_e (Cond.before_iff.mp (show (Jvm.Cond.and given_1 narrow_1).before args s = true from hpre))
  obtain ⟨g1, g2⟩ := and_e hg
  obtain ⟨g3, g4⟩ := and_e g2
  obtain ⟨g5, g6⟩ := and_e g4
  obtain ⟨w0, w1, w2, rfl⟩ : ∃ w0 w1 w2 : Value, args = #[w0, w1, w2] := by
    have hs : args.size = 3 := by simpa [Cond.value, given_1] using g1
    obtain ⟨L⟩ := args
    match L, hs with
    | [w0, w1, w2], _ => exact ⟨w0, w1, w2, rfl⟩
  have hw := fun d (hd : d ∈ tables_1) => atoms_spec (ws := Jvm.Cond.code x code maxLocals ret :: tables_1) hat d (List.mem_cons_of_mem _ hd)
  have hfit : Fit s := fun {y c} hc i hi => by
    obtain ⟨ha, rfl⟩ := Array.getElem?_eq_some_iff.mp hc
    have q := List.all_eq_true.mp ((Array.all_eq_true_iff_forall_mem.mp hF) _ (Array.getElem_mem ha)) i (List.mem_range.mpr hi)
    simpa [Array.getElem?_eq_getElem hi] using q
  obtain ⟨i0, ei0⟩ := is_v g3
  obtain rfl : w0 = (.int i0) := Option.some.inj ei0
  obtain ⟨i1, ei1⟩ := is_v g5
  obtain rfl : w1 = (.int i1) := Option.some.inj ei1
  obtain ⟨i2, ei2⟩ := is_v g6
  obtain rfl : w2 = (.int i2) := Option.some.inj ei2
  obtain ⟨hn0, ht0⟩ := and_e hn
  obtain ⟨hn1, ht1⟩ := and_e ht0
  obtain ⟨hn2, ht2⟩ := and_e ht1
  obtain ⟨hn3, ht3⟩ := and_e ht2
  obtain ⟨hn4, ht4⟩ := and_e ht3
  obtain ⟨hn5, ht5⟩ := and_e ht4
  obtain ⟨hn6, ht6⟩ := and_e ht5
  obtain ⟨hn7, ht7⟩ := and_e ht6
  obtain ⟨hn8, ht8⟩ := and_e ht7
  obtain ⟨hn9, ht9⟩ := and_e ht8
  obtain ⟨hn10, ht10⟩ := and_e ht9
  have hn11 := ht10
  obtain ⟨st_PermissionClass_OWNER, ev_PermissionClass_OWNER⟩ := exa_v hn0
  have E_PermissionClass_OWNER := Exa.start ev_PermissionClass_OWNER hn0
  have S_PermissionClass_OWNER := Sta.start ev_PermissionClass_OWNER (Or.inr ⟨(hw _ (List.mem_of_getElem? (i := 2) rfl)), (hw _ (List.mem_of_getElem? (i := 3) rfl))⟩)
  obtain ⟨st_Access_EXECUTE, ev_Access_EXECUTE⟩ := exa_v hn1
  have E_Access_EXECUTE := Exa.start ev_Access_EXECUTE hn1
  have S_Access_EXECUTE := Sta.start ev_Access_EXECUTE (Or.inr ⟨(hw _ (List.mem_of_getElem? (i := 5) rfl)), (hw _ (List.mem_of_getElem? (i := 6) rfl))⟩)
  obtain ⟨st_Access_READ, ev_Access_READ⟩ := exa_v hn4
  have E_Access_READ := Exa.start ev_Access_READ hn4
  have S_Access_READ := Sta.start ev_Access_READ (Or.inr ⟨(hw _ (List.mem_of_getElem? (i := 5) rfl)), (hw _ (List.mem_of_getElem? (i := 38) rfl))⟩)
  obtain ⟨st_PermissionClass_OTHERS, ev_PermissionClass_OTHERS⟩ := exa_v hn6
  have E_PermissionClass_OTHERS := Exa.start ev_PermissionClass_OTHERS hn6
  have S_PermissionClass_OTHERS := Sta.start ev_PermissionClass_OTHERS (Or.inr ⟨(hw _ (List.mem_of_getElem? (i := 2) rfl)), (hw _ (List.mem_of_getElem? (i := 40) rfl))⟩)
  obtain ⟨st_Access_WRITE, ev_Access_WRITE⟩ := exa_v hn7
  have E_Access_WRITE := Exa.start ev_Access_WRITE hn7
  have S_Access_WRITE := Sta.start ev_Access_WRITE (Or.inr ⟨(hw _ (List.mem_of_getElem? (i := 5) rfl)), (hw _ (List.mem_of_getElem? (i := 42) rfl))⟩)
  obtain ⟨st_PermissionClass_GROUP, ev_PermissionClass_GROUP⟩ := exa_v hn10
  have E_PermissionClass_GROUP := Exa.start ev_PermissionClass_GROUP hn10
  have S_PermissionClass_GROUP := Sta.start ev_PermissionClass_GROUP (Or.inr ⟨(hw _ (List.mem_of_getElem? (i := 2) rfl)), (hw _ (List.mem_of_getElem? (i := 44) rfl))⟩)
  have F_Access_EXECUTE_bit := Fld.start (own_fld_int ev_Access_EXECUTE hn2)
  have F_PermissionClass_OWNER_shift := Fld.start (own_fld_int ev_PermissionClass_OWNER hn3)
  have F_Access_READ_bit := Fld.start (own_fld_int ev_Access_READ hn5)
  have F_Access_WRITE_bit := Fld.start (own_fld_int ev_Access_WRITE hn8)
  have F_PermissionClass_OTHERS_shift := Fld.start (own_fld_int ev_PermissionClass_OTHERS hn9)
  have F_PermissionClass_GROUP_shift := Fld.start (own_fld_int ev_PermissionClass_GROUP hn11)
  obtain ⟨n, o, h1, h2, h3, _, L, rfl, ⟨rfl, N⟩, hq⟩ := rm0 l s _ hw tables_1 i0 i1 i2 st_PermissionClass_OWNER st_Access_EXECUTE st_Access_READ st_PermissionClass_OTHERS st_Access_WRITE st_PermissionClass_GROUP s.heap s.heap.size (Nat.le_refl _) S_PermissionClass_OWNER E_PermissionClass_OWNER S_Access_EXECUTE E_Access_EXECUTE S_Access_READ E_Access_READ S_PermissionClass_OTHERS E_PermissionClass_OTHERS S_Access_WRITE E_Access_WRITE S_PermissionClass_GROUP E_PermissionClass_GROUP F_Access_EXECUTE_bit F_PermissionClass_OWNER_shift F_Access_READ_bit F_Access_WRITE_bit F_PermissionClass_OTHERS_shift F_PermissionClass_GROUP_shift p e ha hc hk s m _ below hf ((Spec.applies_iff_loose hf).mp happ).1 ⟨rfl, State.Warmed39.refl s, rfl⟩ trivial
  refine ⟨n, _, h1, h2, h3, hpost _ _ _ _ _ _ ⟨Cond.after_iff.mpr rfl, Cond.after_iff.mpr (eq_i res_at (Term.int_eval (1)) rfl), trivial⟩ ⟨hq.1, hq.2.1, (hq.2.2.sift fun y hy => Or.inr (N y hy)).mono (by decide) (by decide)⟩⟩
theorem main_1_1 : Claimed_1_1 := comes_1 fun _ _ _ _ _ _ h hF => ⟨h.1, hF⟩
theorem main_1_2 : Claimed_1_2 := comes_1 fun _ _ _ _ _ _ h hF => ⟨h.2.1, hF⟩
end Jvm.Pilot.@@N@@
namespace Jvm.Pilot.@@N@@
open Jvm Jvm.ClassFile Sem Op Lib Jvm.Free Jvm.Stand Jvm.Pilot.@@N@@.Jvm.D
/-! MADE BY PROGRAM (witnessworld.py) out of the Statement's table words and the real class files: 14 classes; the members and pool entries that the words name. The judged class is class 1, her method 1. -/
namespace start1
open Jvm.ClassFile
def u (s : String) : CpInfo := .utf8 (stringToUtf16 s)
/-- a pool by its gaps: so many unusable entries, then the entry; so many at the end -/
def gap : Nat → List CpInfo → List CpInfo
  | 0, r => r
  | n + 1, r => .unusable :: gap n r
def poolList (es : List (Nat × CpInfo)) (last : Nat) : List CpInfo := es.foldr (fun e r => gap e.1 (e.2 :: r)) (gap last [])
def pool (es : List (Nat × CpInfo)) (last : Nat) : Array CpInfo := ⟨poolList es last⟩
def fileOf (pool : Array CpInfo) (this : Nat) (attrs : Array Attribute := #[]) (ms : Array MethodInfo := #[]) (fl : Nat := 33) (sup : Nat := 0) (ifs : Array Nat := #[]) (fds : Array FieldInfo := #[]) : ClassFile where
  minorVersion := 0
  majorVersion := 65
  constantPool := pool
  accessFlags := fl
  thisClass := this
  superClass := sup
  interfaces := ifs
  fields := fds
  methods := ms
  attributes := attrs
def plain (name : String) (sup : Option ClassId) : Class where
  name := name
  kind := .ordinary
  loader := none
  accessFlags := 33
  super := sup
  interfaces := #[]
  cf := none
  fields := #[]
  methods := #[]
  instanceTypes := #[]
  staticTypes := #[]
  resolved := #[]
  callSites := []
  init := .initialized
  statics := none
  mirror := none

def pool0 : Array CpInfo := pool [(5, u "<init>"), (0, u "()V"), (1, .class_ 10), (1, u "java/lang/Object")] 113

def k0c0 : Code := { maxStack := 0, maxLocals := 1, code := object_method_1_code, exceptionTable := #[], attributes := #[] }
def k0m0 : Method := { name := "<init>", desc := "()V", sig := { parameters := [], returnType := none }, accessFlags := 1, code := some k0c0 }
/-- java/lang/Object -/
def k0 : Class := { plain "java/lang/Object" none with
  accessFlags := 33
  interfaces := #[]
  cf := some (fileOf pool0 8 #[] #[{ accessFlags := 1, nameIndex := 5, descriptorIndex := 6, attributes := #[] }] 33 0 #[] #[])
  fields := #[]
  methods := #[k0m0]
  instanceTypes := #[]
  staticTypes := #[]
  resolved := Array.replicate 124 none
  statics := none }

def pool1 : Array CpInfo := pool [(2, .class_ 4), (1, u "java/lang/Object"), (0, u "<init>"), (0, u "()V"), (0, .integer 2147483647), (0, .fieldref 9 10), (0, .class_ 11), (0, .nameAndType 12 13), (0, u "com/example/lats/lats/permission/PermissionClass"), (0, u "OWNER"), (0, u "Lcom/example/lats/lats/permission/PermissionClass;"), (0, .fieldref 9 15), (0, .nameAndType 16 13), (0, u "GROUP"), (0, .fieldref 9 18), (0, .nameAndType 19 13), (0, u "OTHERS"), (0, .fieldref 21 22), (0, .class_ 23), (0, .nameAndType 24 25), (0, u "com/example/lats/lats/permission/Access"), (0, u "READ"), (0, u "Lcom/example/lats/lats/permission/Access;"), (0, .fieldref 21 27), (0, .nameAndType 28 25), (0, u "WRITE"), (0, .fieldref 21 30), (0, .nameAndType 31 25), (0, u "EXECUTE"), (0, .class_ 33), (0, u "com/example/lats/lats/permission/Mode"), (0, .methodref 32 35), (0, .nameAndType 5 36), (0, u "(I)V"), (0, .methodref 32 38), (0, .nameAndType 39 40), (0, u "grants"), (0, u "(Lcom/example/lats/lats/permission/PermissionClass;Lcom/example/lats/lats/permission/Access;)Z"), (0, .class_ 42), (0, u "com/example/lats/lats/permission/ModeGrantsPinLaw"), (2, u "law"), (0, u "(III)Z")] 3

def k1m0 : Method := { name := "<init>", desc := "()V", sig := { parameters := [], returnType := none }, accessFlags := 1, code := none }
def k1c1 : Code := { maxStack := 3, maxLocals := 13, code := code, exceptionTable := #[], attributes := #[] }
def k1m1 : Method := { name := "law", desc := "(III)Z", sig := { parameters := [.int, .int, .int], returnType := some .boolean }, accessFlags := 9, code := some k1c1 }
/-- com/example/lats/lats/permission/ModeGrantsPinLaw -/
def k1 : Class := { plain "com/example/lats/lats/permission/ModeGrantsPinLaw" (some 0) with
  accessFlags := 49
  interfaces := #[]
  cf := some (fileOf pool1 41 #[] #[{ accessFlags := 1, nameIndex := 5, descriptorIndex := 6, attributes := #[] }, { accessFlags := 9, nameIndex := 45, descriptorIndex := 46, attributes := #[] }] 49 2 #[] #[])
  fields := #[]
  methods := #[k1m0, k1m1]
  instanceTypes := #[]
  staticTypes := #[]
  resolved := Array.replicate 50 none
  statics := none }

def pool2 : Array CpInfo := pool [(1, .class_ 2), (0, u "java/lang/constant/Constable"), (0, .class_ 4), (0, u "java/lang/Object")] 6

/-- java/lang/constant/Constable -/
def k2 : Class := { plain "java/lang/constant/Constable" (some 0) with
  accessFlags := 1537
  interfaces := #[]
  cf := some (fileOf pool2 1 #[] #[] 1537 3 #[] #[])
  fields := #[]
  methods := #[]
  instanceTypes := #[]
  staticTypes := #[]
  resolved := Array.replicate 11 none
  statics := none }

def pool3 : Array CpInfo := pool [(1, .class_ 2), (0, u "java/lang/Comparable"), (0, .class_ 4), (0, u "java/lang/Object")] 7

/-- java/lang/Comparable -/
def k3 : Class := { plain "java/lang/Comparable" (some 0) with
  accessFlags := 1537
  interfaces := #[]
  cf := some (fileOf pool3 1 #[] #[] 1537 3 #[] #[])
  fields := #[]
  methods := #[]
  instanceTypes := #[]
  staticTypes := #[]
  resolved := Array.replicate 12 none
  statics := none }

def pool4 : Array CpInfo := pool [(1, .class_ 2), (0, u "java/io/Serializable"), (0, .class_ 4), (0, u "java/lang/Object")] 2

/-- java/io/Serializable -/
def k4 : Class := { plain "java/io/Serializable" (some 0) with
  accessFlags := 1537
  interfaces := #[]
  cf := some (fileOf pool4 1 #[] #[] 1537 3 #[] #[])
  fields := #[]
  methods := #[]
  instanceTypes := #[]
  staticTypes := #[]
  resolved := Array.replicate 7 none
  statics := none }

def pool5 : Array CpInfo := pool [(2, .class_ 4), (1, u "java/lang/Enum"), (0, u "name"), (0, u "Ljava/lang/String;"), (2, u "ordinal"), (0, u "I"), (1, .class_ 14), (1, u "java/lang/Object"), (4, u "hash"), (86, .class_ 108), (1, u "java/lang/Enum$EnumDesc"), (2, .class_ 112), (0, u "java/lang/constant/Constable"), (0, .class_ 114), (0, u "java/lang/Comparable"), (0, .class_ 116), (0, u "java/io/Serializable")] 87

/-- java/lang/Enum -/
def k5 : Class := { plain "java/lang/Enum" (some 0) with
  accessFlags := 1057
  interfaces := #[2, 3, 4]
  cf := some (fileOf pool5 2 #[.nestMembers #[106]] #[] 1057 12 #[111, 113, 115] #[{ accessFlags := 18, nameIndex := 5, descriptorIndex := 6, attributes := #[] }, { accessFlags := 18, nameIndex := 9, descriptorIndex := 10, attributes := #[] }, { accessFlags := 2, nameIndex := 19, descriptorIndex := 10, attributes := #[] }])
  fields := #[{ name := "name", type := (.object "java/lang/String"), accessFlags := 18, slot := 0, constantValue := 0 }, { name := "ordinal", type := .int, accessFlags := 18, slot := 1, constantValue := 0 }, { name := "hash", type := .int, accessFlags := 2, slot := 2, constantValue := 0 }]
  methods := #[]
  instanceTypes := #[(.object "java/lang/String"), .int, .int]
  staticTypes := #[]
  resolved := Array.replicate 204 none
  statics := none }

def pool6 : Array CpInfo := pool [(1, .class_ 2), (0, u "com/example/lats/lats/permission/PermissionClass"), (2, u "OWNER"), (0, u "Lcom/example/lats/lats/permission/PermissionClass;"), (2, u "GROUP"), (2, u "OTHERS"), (2, u "$VALUES"), (0, u "[Lcom/example/lats/lats/permission/PermissionClass;"), (6, .class_ 25), (1, u "java/lang/Enum"), (6, .fieldref 1 33), (0, .nameAndType 34 35), (0, u "shift"), (0, u "I"), (44, u "()I")] 5

def k6c0 : Code := { maxStack := 1, maxLocals := 1, code := prog_30_method_5_code, exceptionTable := #[], attributes := #[] }
def k6m0 : Method := { name := "shift", desc := "()I", sig := { parameters := [], returnType := some .int }, accessFlags := 0, code := some k6c0 }
/-- com/example/lats/lats/permission/PermissionClass -/
def k6 : Class := { plain "com/example/lats/lats/permission/PermissionClass" (some 5) with
  accessFlags := 16432
  interfaces := #[]
  cf := some (fileOf pool6 1 #[] #[{ accessFlags := 0, nameIndex := 34, descriptorIndex := 80, attributes := #[] }] 16432 23 #[] #[{ accessFlags := 16409, nameIndex := 5, descriptorIndex := 6, attributes := #[] }, { accessFlags := 16409, nameIndex := 9, descriptorIndex := 6, attributes := #[] }, { accessFlags := 16409, nameIndex := 12, descriptorIndex := 6, attributes := #[] }, { accessFlags := 18, nameIndex := 34, descriptorIndex := 35, attributes := #[] }, { accessFlags := 4122, nameIndex := 15, descriptorIndex := 16, attributes := #[] }])
  fields := #[{ name := "OWNER", type := (.object "com/example/lats/lats/permission/PermissionClass"), accessFlags := 16409, slot := 0, constantValue := 0 }, { name := "GROUP", type := (.object "com/example/lats/lats/permission/PermissionClass"), accessFlags := 16409, slot := 1, constantValue := 0 }, { name := "OTHERS", type := (.object "com/example/lats/lats/permission/PermissionClass"), accessFlags := 16409, slot := 2, constantValue := 0 }, { name := "shift", type := .int, accessFlags := 18, slot := 3, constantValue := 0 }, { name := "$VALUES", type := (.array (.object "com/example/lats/lats/permission/PermissionClass")), accessFlags := 4122, slot := 3, constantValue := 0 }]
  methods := #[k6m0]
  instanceTypes := #[(.object "java/lang/String"), .int, .int, .int]
  staticTypes := #[(.object "com/example/lats/lats/permission/PermissionClass"), (.object "com/example/lats/lats/permission/PermissionClass"), (.object "com/example/lats/lats/permission/PermissionClass"), (.array (.object "com/example/lats/lats/permission/PermissionClass"))]
  resolved := Array.replicate 86 none
  statics := some 0 }

def pool7 : Array CpInfo := pool [(1, .class_ 2), (0, u "com/example/lats/lats/permission/Access"), (2, u "READ"), (0, u "Lcom/example/lats/lats/permission/Access;"), (2, u "WRITE"), (2, u "EXECUTE"), (2, u "$VALUES"), (0, u "[Lcom/example/lats/lats/permission/Access;"), (6, .class_ 25), (1, u "java/lang/Enum"), (6, .fieldref 1 33), (0, .nameAndType 34 35), (0, u "bit"), (0, u "I"), (17, u "()I")] 5

def k7c0 : Code := { maxStack := 1, maxLocals := 1, code := prog_21_method_4_code, exceptionTable := #[], attributes := #[] }
def k7m0 : Method := { name := "bit", desc := "()I", sig := { parameters := [], returnType := some .int }, accessFlags := 0, code := some k7c0 }
/-- com/example/lats/lats/permission/Access -/
def k7 : Class := { plain "com/example/lats/lats/permission/Access" (some 5) with
  accessFlags := 16433
  interfaces := #[]
  cf := some (fileOf pool7 1 #[] #[{ accessFlags := 0, nameIndex := 34, descriptorIndex := 53, attributes := #[] }] 16433 23 #[] #[{ accessFlags := 16409, nameIndex := 5, descriptorIndex := 6, attributes := #[] }, { accessFlags := 16409, nameIndex := 9, descriptorIndex := 6, attributes := #[] }, { accessFlags := 16409, nameIndex := 12, descriptorIndex := 6, attributes := #[] }, { accessFlags := 18, nameIndex := 34, descriptorIndex := 35, attributes := #[] }, { accessFlags := 4122, nameIndex := 15, descriptorIndex := 16, attributes := #[] }])
  fields := #[{ name := "READ", type := (.object "com/example/lats/lats/permission/Access"), accessFlags := 16409, slot := 0, constantValue := 0 }, { name := "WRITE", type := (.object "com/example/lats/lats/permission/Access"), accessFlags := 16409, slot := 1, constantValue := 0 }, { name := "EXECUTE", type := (.object "com/example/lats/lats/permission/Access"), accessFlags := 16409, slot := 2, constantValue := 0 }, { name := "bit", type := .int, accessFlags := 18, slot := 3, constantValue := 0 }, { name := "$VALUES", type := (.array (.object "com/example/lats/lats/permission/Access")), accessFlags := 4122, slot := 3, constantValue := 0 }]
  methods := #[k7m0]
  instanceTypes := #[(.object "java/lang/String"), .int, .int, .int]
  staticTypes := #[(.object "com/example/lats/lats/permission/Access"), (.object "com/example/lats/lats/permission/Access"), (.object "com/example/lats/lats/permission/Access"), (.array (.object "com/example/lats/lats/permission/Access"))]
  resolved := Array.replicate 59 none
  statics := some 1 }

def pool8 : Array CpInfo := pool [(1, .methodref 2 3), (0, .class_ 4), (0, .nameAndType 5 6), (0, u "java/lang/Object"), (0, u "<init>"), (0, u "()V"), (9, .class_ 17), (0, u "com/example/lats/lats/permission/Mode"), (8, .fieldref 16 27), (0, .nameAndType 28 29), (0, u "bits"), (0, u "I"), (15, u "()I"), (17, u "(I)V"), (8, .methodref 73 74), (0, .class_ 75), (0, .nameAndType 76 45), (0, u "com/example/lats/lats/permission/Access"), (0, u "bit"), (0, .methodref 78 79), (0, .class_ 80), (0, .nameAndType 81 45), (0, u "com/example/lats/lats/permission/PermissionClass"), (0, u "shift"), (6, u "STICKY"), (2, u "ALL_BITS"), (1, u "LETTERS"), (0, u "Ljava/lang/String;"), (4, u "grants"), (0, u "(Lcom/example/lats/lats/permission/PermissionClass;Lcom/example/lats/lats/permission/Access;)Z")] 31

def k8c0 : Code := { maxStack := 3, maxLocals := 2, code := prog_25_method_1_code, exceptionTable := #[], attributes := #[] }
def k8m0 : Method := { name := "<init>", desc := "(I)V", sig := { parameters := [.int], returnType := none }, accessFlags := 1, code := some k8c0 }
def k8c1 : Code := { maxStack := 3, maxLocals := 3, code := prog_25_method_8_code, exceptionTable := #[], attributes := #[] }
def k8m1 : Method := { name := "grants", desc := "(Lcom/example/lats/lats/permission/PermissionClass;Lcom/example/lats/lats/permission/Access;)Z", sig := { parameters := [(.object "com/example/lats/lats/permission/PermissionClass"), (.object "com/example/lats/lats/permission/Access")], returnType := some .boolean }, accessFlags := 0, code := some k8c1 }
/-- com/example/lats/lats/permission/Mode -/
def k8 : Class := { plain "com/example/lats/lats/permission/Mode" (some 0) with
  accessFlags := 33
  interfaces := #[]
  cf := some (fileOf pool8 16 #[] #[{ accessFlags := 1, nameIndex := 5, descriptorIndex := 63, attributes := #[] }, { accessFlags := 0, nameIndex := 99, descriptorIndex := 100, attributes := #[] }] 33 2 #[] #[{ accessFlags := 26, nameIndex := 88, descriptorIndex := 29, attributes := #[] }, { accessFlags := 26, nameIndex := 91, descriptorIndex := 29, attributes := #[] }, { accessFlags := 26, nameIndex := 93, descriptorIndex := 94, attributes := #[] }, { accessFlags := 18, nameIndex := 28, descriptorIndex := 29, attributes := #[] }])
  fields := #[{ name := "STICKY", type := .int, accessFlags := 26, slot := 0, constantValue := 0 }, { name := "ALL_BITS", type := .int, accessFlags := 26, slot := 1, constantValue := 0 }, { name := "LETTERS", type := (.object "java/lang/String"), accessFlags := 26, slot := 2, constantValue := 0 }, { name := "bits", type := .int, accessFlags := 18, slot := 0, constantValue := 0 }]
  methods := #[k8m0, k8m1]
  instanceTypes := #[.int]
  staticTypes := #[.int, .int, (.object "java/lang/String")]
  resolved := Array.replicate 132 none
  statics := none }

def pool9 : Array CpInfo := pool [(1, u "java/lang/Cloneable"), (0, .class_ 1), (0, u "java/lang/Object"), (0, .class_ 3)] 3

/-- java/lang/Cloneable -/
def k9 : Class := { plain "java/lang/Cloneable" (some 0) with
  accessFlags := 1537
  interfaces := #[]
  cf := some (fileOf pool9 2 #[] #[] 1537 4 #[] #[])
  fields := #[]
  methods := #[]
  instanceTypes := #[]
  staticTypes := #[]
  resolved := Array.replicate 8 none
  statics := none }

/-- the primitive byte -/
def k10 : Class := { plain "byte" none with kind := .primitive 'B', accessFlags := 0x411 }
/-- [B -/
def k11 : Class := { plain "[B" (some 0) with kind := .array 10 .byte, interfaces := #[9, 4], accessFlags := 1041 }

/-- the primitive int -/
def k12 : Class := { plain "int" none with kind := .primitive 'I', accessFlags := 0x411 }
/-- [I -/
def k13 : Class := { plain "[I" (some 0) with kind := .array 12 .int, interfaces := #[9, 4], accessFlags := 1041 }

def heap : Heap := #[{ cls := 6, slots := #[.ref 2, .ref 3, .ref 4, .null], vm := .statics 6 },
  { cls := 7, slots := #[.ref 5, .ref 6, .ref 7, .null], vm := .statics 7 },
  { cls := 6, slots := #[.null, .int 0, .int 0, .int 6], vm := .none },
  { cls := 6, slots := #[.null, .int 1, .int 0, .int 3], vm := .none },
  { cls := 6, slots := #[.null, .int 2, .int 0, .int 0], vm := .none },
  { cls := 7, slots := #[.null, .int 0, .int 0, .int 4], vm := .none },
  { cls := 7, slots := #[.null, .int 1, .int 0, .int 2], vm := .none },
  { cls := 7, slots := #[.null, .int 2, .int 0, .int 1], vm := .none }]
def classes : Array Class := #[k0, k1, k2, k3, k4, k5, k6, k7, k8, k9, k10, k11, k12, k13]
def interned : List (Array UInt16 × Addr) := []
def slotsUsed : Nat := 32
def theMethod : MethodId := ⟨1, 1⟩
def args0 : Array Value := #[.int 5, .int 1, .int 2]
def aboutOver (below : List Frame) : State where
  vm := { classes := classes, interned := interned.toArray }
  heap := heap
  slotsUsed := slotsUsed
  threads := #[{ frames := .invoking theMethod args0 :: below }]
def below0 : List Frame := [.native { method := ⟨0, 0⟩, args := #[] }]
def about1 : State := aboutOver below0
def p0 : Program := .bare "" "" ""
def e0 : Env := launch0.env 0 0 0
theorem w_frames : about1.frames = Frame.invoking theMethod args0 :: below0 := rfl
set_option maxRecDepth 65536 in
theorem w_args : argsFit about1.vm theMethod args0 = true := by decide +kernel
set_option maxRecDepth 65536 in
theorem w_heap : heapFits about1 = true := by decide +kernel
set_option maxRecDepth 65536 in
theorem w_runnable : about1.curStatus? = some .runnable := by decide +kernel
set_option maxRecDepth 65536 in
theorem w_alone : about1.alone = true := by decide +kernel
set_option maxRecDepth 65536 in
theorem w_named : about1.methodNamed? x = some theMethod := by decide +kernel
set_option maxRecDepth 65536 in
theorem w_hears : about1.hears theMethod below0 = true := by decide +kernel
set_option maxRecDepth 65536 in
theorem w_ripe : about1.ripe theMethod args0 below0 = true := by decide +kernel
theorem w_running : about1.status = .running := rfl
set_option maxRecDepth 65536 in
theorem w_room : about1.hasRoom e0.platform room_1 = true :=
  launch0.hasRoom_least _ room_1 (by decide +kernel) (by decide +kernel) (by decide +kernel) (by decide +kernel) (by decide +kernel) (by decide +kernel)
theorem allAtoms_all (ts : List Jvm.Cond) (a : Array Jvm.Value) (st : Jvm.State) : (allAtoms ts).before a st = ts.all (fun c => c.before a st) := by
  induction ts with
  | nil => rfl
  | cons c t ih =>
    show (Jvm.Cond.and c (allAtoms t)).before a st = _
    rw [Jvm.Cond.before_and, ih, List.all_cons]
def words1 : List Jvm.Cond := Jvm.Cond.code x code maxLocals ret :: tables_1
/-- a 'code' word, met by the world's own term for the bytes: nothing is compared byte by byte -/
theorem code_word {y : MethodName} {bytes : ByteArray} {mx : Nat} {rt : Option FieldType} {a : Array Value} {s : State} {m : MethodId} {meth : Method} {c : Code} (h1 : s.methodNamed? y = some m) (h2 : s.vm.method? m = some meth) (h3 : meth.code = some c) (h4 : c.code = bytes)
    (h5 : (c.maxLocals == mx && c.exceptionTable.isEmpty && decide (c.maxStack ≤ mostOperands) && decide (meth.sig.returnType = rt) && !meth.locks && decide (parseMethodDescriptor y.desc = some meth.sig)) = true) : (Jvm.Cond.code y bytes mx rt).before a s = true := by
  simp only [Bool.and_eq_true, beq_iff_eq, Bool.not_eq_true', decide_eq_true_eq] at h5
  obtain ⟨⟨⟨⟨⟨g1, g2⟩, g3⟩, g4⟩, g5⟩, g6⟩ := h5
  simp [Cond.before, Cond.holds, Cond.value, h1, h2, h3, h4, g1, g2, g3, g4, g5, g6]
def isCode : Jvm.Cond → Bool
  | .code _ _ _ _ => true
  | _ => false
theorem all_split {L : List Jvm.Cond} {P : Jvm.Cond → Bool} (h1 : L.all (fun c => isCode c || P c) = true) (h2 : ∀ c ∈ L.filter isCode, P c = true) : L.all P = true := by
  refine List.all_eq_true.mpr fun c hc => ?_
  have h := List.all_eq_true.mp h1 c hc
  rcases Bool.eq_false_or_eq_true (isCode c) with hi | hi
  · exact h2 c (List.mem_filter.mpr ⟨hc, hi⟩)
  · simpa [hi] using h
set_option maxRecDepth 65536 in
theorem w_c0 : (Jvm.Cond.code x code maxLocals ret).before args0 about1 = true := code_word (m := ⟨1, 1⟩) (meth := k1m1) (c := k1c1) (by decide +kernel) rfl rfl rfl (by decide +kernel)
set_option maxRecDepth 65536 in
theorem w_c1 : (Jvm.Cond.code ({ cls := "com/example/lats/lats/permission/Mode", name := "<init>", desc := "(I)V" } : Jvm.MethodName) prog_25_method_1_code (2 : Nat) (Option.none : Option Jvm.ClassFile.FieldType)).before args0 about1 = true := code_word (m := ⟨8, 0⟩) (meth := k8m0) (c := k8c0) (by decide +kernel) rfl rfl rfl (by decide +kernel)
set_option maxRecDepth 65536 in
theorem w_c2 : (Jvm.Cond.code ({ cls := "java/lang/Object", name := "<init>", desc := "()V" } : Jvm.MethodName) object_method_1_code (1 : Nat) (Option.none : Option Jvm.ClassFile.FieldType)).before args0 about1 = true := code_word (m := ⟨0, 0⟩) (meth := k0m0) (c := k0c0) (by decide +kernel) rfl rfl rfl (by decide +kernel)
set_option maxRecDepth 65536 in
theorem w_c3 : (Jvm.Cond.code ({ cls := "com/example/lats/lats/permission/Mode", name := "grants", desc := "(Lcom/example/lats/lats/permission/PermissionClass;Lcom/example/lats/lats/permission/Access;)Z" } : Jvm.MethodName) prog_25_method_8_code (3 : Nat) (Option.some Jvm.ClassFile.FieldType.boolean)).before args0 about1 = true := code_word (m := ⟨8, 1⟩) (meth := k8m1) (c := k8c1) (by decide +kernel) rfl rfl rfl (by decide +kernel)
set_option maxRecDepth 65536 in
theorem w_c4 : (Jvm.Cond.code ({ cls := "com/example/lats/lats/permission/Access", name := "bit", desc := "()I" } : Jvm.MethodName) prog_21_method_4_code (1 : Nat) (Option.some Jvm.ClassFile.FieldType.int)).before args0 about1 = true := code_word (m := ⟨7, 0⟩) (meth := k7m0) (c := k7c0) (by decide +kernel) rfl rfl rfl (by decide +kernel)
set_option maxRecDepth 65536 in
theorem w_c5 : (Jvm.Cond.code ({ cls := "com/example/lats/lats/permission/PermissionClass", name := "shift", desc := "()I" } : Jvm.MethodName) prog_30_method_5_code (1 : Nat) (Option.some Jvm.ClassFile.FieldType.int)).before args0 about1 = true := code_word (m := ⟨6, 0⟩) (meth := k6m0) (c := k6c0) (by decide +kernel) rfl rfl rfl (by decide +kernel)
def codes1 : List Jvm.Cond := [Jvm.Cond.code x code maxLocals ret, Jvm.Cond.code ({ cls := "com/example/lats/lats/permission/Mode", name := "<init>", desc := "(I)V" } : Jvm.MethodName) prog_25_method_1_code (2 : Nat) (Option.none : Option Jvm.ClassFile.FieldType), Jvm.Cond.code ({ cls := "java/lang/Object", name := "<init>", desc := "()V" } : Jvm.MethodName) object_method_1_code (1 : Nat) (Option.none : Option Jvm.ClassFile.FieldType), Jvm.Cond.code ({ cls := "com/example/lats/lats/permission/Mode", name := "grants", desc := "(Lcom/example/lats/lats/permission/PermissionClass;Lcom/example/lats/lats/permission/Access;)Z" } : Jvm.MethodName) prog_25_method_8_code (3 : Nat) (Option.some Jvm.ClassFile.FieldType.boolean), Jvm.Cond.code ({ cls := "com/example/lats/lats/permission/Access", name := "bit", desc := "()I" } : Jvm.MethodName) prog_21_method_4_code (1 : Nat) (Option.some Jvm.ClassFile.FieldType.int), Jvm.Cond.code ({ cls := "com/example/lats/lats/permission/PermissionClass", name := "shift", desc := "()I" } : Jvm.MethodName) prog_30_method_5_code (1 : Nat) (Option.some Jvm.ClassFile.FieldType.int)]
set_option maxRecDepth 65536 in
theorem codes_eq : words1.filter isCode = codes1 := rfl
theorem w_codes : ∀ c ∈ words1.filter isCode, c.before args0 about1 = true := by
  rw [codes_eq]
  intro c hc
  simp only [codes1, List.mem_cons, List.not_mem_nil, or_false] at hc
  rcases hc with rfl | rfl | rfl | rfl | rfl | rfl
  · exact w_c0
  · exact w_c1
  · exact w_c2
  · exact w_c3
  · exact w_c4
  · exact w_c5
set_option maxRecDepth 65536 in
theorem w_t1 : (words1.take 24).all (fun c => isCode c || c.before args0 about1) = true := by decide +kernel
set_option maxRecDepth 65536 in
theorem w_t2 : (words1.drop 24).all (fun c => isCode c || c.before args0 about1) = true := by decide +kernel
theorem w_tables : (allAtoms (Jvm.Cond.code x code maxLocals ret :: tables_1)).before args0 about1 = true := by
  rw [allAtoms_all]
  show words1.all (fun c => c.before args0 about1) = true
  refine all_split ?_ w_codes
  rw [← List.take_append_drop 24 words1, List.all_append, w_t1, w_t2]
  rfl
set_option maxRecDepth 65536 in
theorem w_case : (Jvm.Cond.and given_1 narrow_1).before args0 about1 = true := by decide +kernel
theorem w_applies : (headSpec (Jvm.Cond.code x code maxLocals ret :: tables_1) room_1).applies x e0.platform about1 = true :=
  (Spec.applies_iff w_frames).mpr ⟨w_running, w_runnable, w_alone, w_named, w_hears, w_ripe, w_room, w_tables⟩
theorem atStart : AtStart classFile x code maxLocals ret World_1 tables_1 room_1 Calls_1 rest_1 Pre_1 launch0 p0 e0 about1 theMethod args0 below0 :=
  ⟨lists_1, trivial, launch0.admits_env _ _ _, launch0.least_env, fairChoices_fair.cas, fairChoices_fair.clock, w_frames, w_args, w_heap, w_applies, trivial, trivial, w_case⟩
end start1
theorem witness_1 : WitnessClaimed_1 := ⟨start1.p0, start1.e0, start1.about1, start1.theMethod, start1.args0, start1.below0, start1.atStart⟩
end Jvm.Pilot.@@N@@
