import JvmDerived
import JvmDerived.Pilot.@@N@@Statement
import JvmDerived.Pilot.@@N@@Code
set_option linter.unusedVariables false
set_option linter.unusedSimpArgs false
namespace Jvm.RoadKit
open Sem ClassFile Op Lib Jvm.Stand Jvm.Free Jvm.LawKit
section New
variable {p : Program} {l : Launch} {e : Env} {R : Room} {s : State} {m : MethodId} {args : Array Value} {below : List Frame} {meth : Method} {c : Code} {T : State} {locs : List Loc} {cells slots : Nat}
theorem retI (X : Stand p l e R s m args below meth c T locs cells slots) (hx : p.tables.exec = Jvm.exec) {pc : Nat} {Ls : Array Slot} {z : Int32} {rest : List Value} (hret : meth.sig.returnType = some .int) (hd : decode c.code pc = .ok (.ireturn, 1)) {fs : List Frame}
    (hl : ∀ (f : JFrame) (acts : List Action), f.method = m → f.locked = none → f.entered = [] → (doReturn e (T.setTop f) acts (some (.int z))).1 = T.setFrames fs) : Steps p.tables e below (T.setTop (mkF m pc Ls (.int z :: rest))) (T.setFrames fs) := by
  have hm' : T.vm.method? m = some meth := X.method'
  have hn : narrow .int (.int z) = .int z := rfl
  show Steps p.tables e below (T.setTop { method := m, pc := pc, locals := Ls, stack := _ :: rest, locked := none }) _
  jvm_step X.here [X.here.top, hx, hd, hm', hret, hn]
  first | (intro acts; rw [hl _ acts rfl rfl rfl]) | rw [hl _ _ rfl rfl rfl]
  exact Steps.refl _
end New
end Jvm.RoadKit
namespace Jvm.Pilot.@@N@@
open Jvm Jvm.ClassFile Sem Op Lib Jvm.Free Jvm.Stand Jvm.LawKit Jvm.RoadKit Bundle Jvm.Pilot.@@N@@.Jvm.D

theorem own_sta_keep {Z : State} {h h' : Heap} {C n d : String} {v : Value} {ws : List Addr} (F : Sta Z h C n d v) (K : Keep h h' ws) (q : ∀ x ∈ ws, ∀ c : Cell, h[x]? = some c → c.vm.isStatics = false) : Sta Z h' C n d v := by
  obtain ⟨cf, i, k, f, st, cell, h1, h2, h3, h4, h5, h6, h7⟩ := F
  refine ⟨cf, i, k, f, st, cell, h1, h2, h3, h4, K.2.1 st cell h5 fun hm => ?_, h6, h7⟩
  rw [q st hm cell h5] at h6
  cases h6
theorem own_ns_exa {Z : State} {h : Heap} {b : Addr} {C : String} (E : Exa Z h b C) : ∀ c : Cell, h[b]? = some c → c.vm.isStatics = false := fun c hc => by
  obtain ⟨cell, k, h1, -, -, h4, -⟩ := E
  cases h1.symm.trans hc
  exact h4
theorem own_ns_arv {Z : State} {h : Heap} {b : Addr} {k : ClassId} {ty : FieldType} {z : Int32} {vs : List Value} {dv : Value} (V : Arv Z h b k ty z vs dv) : ∀ c : Cell, h[b]? = some c → c.vm.isStatics = false := fun c hc => by
  obtain ⟨cl, A, -⟩ := V
  cases A.1.symm.trans hc
  exact A.plain

theorem own_fld_int {args : Array Value} {s : State} {t : Term} {O n d : String} {x : Addr} {k : Int32} (ht : t.eval args s none [] s = some (.ref x)) (h : (Jvm.Cond.eq (Term.field t O n d) (Term.int k)).value args s none s [] = some true) : s.fieldOf? x O n d = some (.int k) := by
  have e := fld_at (C := O) (n := n) (dd := d) ht
  obtain ⟨a, b, h1, h2, -, hk⟩ := cmp_v (Or.inl h)
  have hb : b = .int k := Option.some.inj (h2.symm.trans (Term.int_eval k))
  subst hb
  obtain ⟨z, rfl⟩ : ∃ z, a = .int z := hk
  have q : (Jvm.Cond.eq (Term.field t O n d) (Term.int k)).value args s none s [] = some (decide (z = k)) := by simp [Jvm.Cond.value, h1, h2]
  rw [← e, h1, gotT q h]

theorem own_modn (x y : Int32) (d : Nat) (hy : y.toInt = d) (hd : 0 < d) : ∃ n : Nat, n < d ∧ (x &&& 2147483647) % y = Int32.ofNat n := by
  have h := c_mask x 2147483647 31 (by decide) (by decide)
  have h0 : 0 ≤ (x &&& 2147483647).toInt := by rw [h]; omega
  have hr := (c_irem (x &&& 2147483647) y d hy).1 h0
  have hr32 := rng32 y
  have hb0 := Int.emod_nonneg (x &&& 2147483647).toInt (show (d : Int) ≠ 0 by omega)
  have hb1 := Int.emod_lt_of_pos (x &&& 2147483647).toInt (show (0 : Int) < d by omega)
  refine ⟨((x &&& 2147483647).toInt % (d : Int)).toNat, by omega, ?_⟩
  apply Int32.toInt_inj.mp
  rw [hr, Int32.toInt_ofNat_of_lt (by omega)]
  omega

def own_hs (a l c r : Nat) : Int32 := if a = l then 1 else if a = c then 1 else if a = r then 1 else 0
theorem own_ni {x y : Int32} (h : x ≠ y) : (Value.int x) ≠ (Value.int y) := fun q => h (Value.int.inj q)
theorem own_five (x : Int32) (h0 : ¬ x = 0) (h1 : ¬ x = 1) : True := trivial

theorem own_d1_0 : decode prog_57_method_5_code 0 = .ok (.aload_n 0, 1) := by decide +kernel
theorem own_d1_1 : decode prog_57_method_5_code 1 = .ok (.getstatic 7, 3) := by decide +kernel
theorem own_d1_4 : decode prog_57_method_5_code 4 = .ok (.if_acmp .eq 17, 3) := by decide +kernel
theorem own_d1_7 : decode prog_57_method_5_code 7 = .ok (.aload_n 0, 1) := by decide +kernel
theorem own_d1_8 : decode prog_57_method_5_code 8 = .ok (.getstatic 10, 3) := by decide +kernel
theorem own_d1_11 : decode prog_57_method_5_code 11 = .ok (.if_acmp .eq 10, 3) := by decide +kernel
theorem own_d1_14 : decode prog_57_method_5_code 14 = .ok (.aload_n 0, 1) := by decide +kernel
theorem own_d1_15 : decode prog_57_method_5_code 15 = .ok (.getstatic 13, 3) := by decide +kernel
theorem own_d1_18 : decode prog_57_method_5_code 18 = .ok (.if_acmp .ne 7, 3) := by decide +kernel
theorem own_d1_21 : decode prog_57_method_5_code 21 = .ok (.iconst 1, 1) := by decide +kernel
theorem own_d1_22 : decode prog_57_method_5_code 22 = .ok (.goto 4, 3) := by decide +kernel
theorem own_d1_25 : decode prog_57_method_5_code 25 = .ok (.iconst 0, 1) := by decide +kernel
theorem own_d1_26 : decode prog_57_method_5_code 26 = .ok (.ireturn, 1) := by decide +kernel
theorem own_pn_0 : plainName "com/example/woodrat/woodrat/tls/Agreement" = true := by first | (simp [plainName, overriddenIn]; done) | decide +kernel
theorem own_ef_0 (m : MethodId) (x0 : Addr) : entryFrame m #[(.ref x0)] 1 = mkF m 0 #[.val (.ref x0)] [] := by first | (simp [entryFrame, mkF, argsToLocals, Value.category]; done) | rfl
theorem own_pn_1 : plainName "com/example/woodrat/woodrat/tls/AgreementHandshakesPinLaw" = true := by first | (simp [plainName, overriddenIn]; done) | decide +kernel
theorem own_ef_1 (m : MethodId) (x0 : Int32) : entryFrame m #[(.int x0)] maxLocals = mkF m 0 #[.val (.int x0), .unset, .unset, .unset] [] := by first | (simp [entryFrame, mkF, argsToLocals, Value.category, maxLocals]; done) | rfl
theorem own_pd_0 : parseMethodDescriptor "()Z" = some ⟨[], some .boolean⟩ := by decide +kernel
def Q_rm1 (Z : State) (r0 : Addr) (sl : Addr) (sc : Addr) (sr : Addr) (h0 : Heap) (n0 : Nat) (v : Option Value) (h : Heap) (L : List Loc) : Prop := v = some (.int (own_hs r0 sl sc sr)) ∧ Fr n0 L ∧ h = h0
set_option maxRecDepth 65536 in
set_option maxHeartbeats 40000000 in
theorem rm1 (l : Launch) (Z : State) (a0 : Array Value) (hw : ∀ d ∈ tables_1, d.before a0 Z = true) (ws : List Jvm.Cond) (r0 : Addr) (sl : Addr) (sc : Addr) (sr : Addr) (h0 : Heap) (n0 : Nat) (Z0 : n0 ≤ h0.size) (S1 : Sta Z h0 "com/example/woodrat/woodrat/tls/Agreement" "LOGIN_ONLY" "Lcom/example/woodrat/woodrat/tls/Agreement;" (.ref sl)) (S2 : Sta Z h0 "com/example/woodrat/woodrat/tls/Agreement" "CONNECTION" "Lcom/example/woodrat/woodrat/tls/Agreement;" (.ref sc)) (S3 : Sta Z h0 "com/example/woodrat/woodrat/tls/Agreement" "CONNECTION_REQUIRED" "Lcom/example/woodrat/woodrat/tls/Agreement;" (.ref sr)) :
    MetFree l (⟨"com/example/woodrat/woodrat/tls/Agreement", "handshakes", "()Z"⟩ : MethodName) (head1 (Jvm.Cond.code (⟨"com/example/woodrat/woodrat/tls/Agreement", "handshakes", "()Z"⟩ : MethodName) prog_57_method_5_code 1 (some .boolean) :: ws) ({ frames := 0, cells := 0, slots := 0, locals := 0 } : Room)) (fun a U => a = #[(.ref r0)] ∧ Z.Warmed39 U.vm ∧ U.heap = h0) (fun _ _ _ _ _ => True) (fun _ U o U' => ∃ v L, o = .returned v ∧ Q_rm1 Z r0 sl sc sr h0 n0 v U'.heap L ∧ FrameEnd U o U' L ({ frames := 0, cells := 0, slots := 0, locals := 0 } : Room).cells ({ frames := 0, cells := 0, slots := 0, locals := 0 } : Room).slots) := by
  refine MetFree.of_bodySF (plainFor_of_name own_pn_0) hisR ?_
  intro p e s m args below meth c s₁ Bd hml0 hP hK
  obtain ⟨rfl, hZ, hh⟩ := hP
  have hx := Bd.exec
  have hby := Bd.bytes
  have hml : c.maxLocals = 1 := hml0
  have hown : s.vm.findClass "com/example/woodrat/woodrat/tls/Agreement" = some m.cls := findClass_of_methodNamed Bd.named
  have hnm := (name_of_methodNamed Bd.named Bd.method).1
  have X0 : Stand p l e ({ frames := 0, cells := 0, slots := 0, locals := 0 } : Room) s m #[(.ref r0)] below meth c s₁ [] 0 0 := Stand.of_body Bd
  have e0 : s₁.heap = h0 := by rw [← hh, Bd.state]; rfl
  have N0 := Fr.nil n0
  have K0 : Keep h0 h0 [] := Keep.refl h0 _
  have pre0 : ∀ t, Steps p.tables e below (s₁.setTop (mkF m 0 #[.val (.ref r0)] [])) t → Steps p.tables e below (s₁.setTop (entryFrame m #[(.ref r0)] 1)) t := fun t k => castTop (own_ef_0 m r0) k
  obtain ⟨T1, X1, e1, st1⟩ := getS2 X0 hx hZ hown (host := "") (Or.inl (hw _ (List.mem_of_getElem? (i := 9) rfl))) Via.refl e0 S1 (g := (mkF m 1 #[.val (.ref r0)] [(.ref r0)])) rfl (hb hby own_d1_1)
  have k2 : ∀ t, Steps p.tables e below (T1.setTop (mkF m 4 #[.val (.ref r0)] [(.ref sl), (.ref r0)])) t → Steps p.tables e below (s₁.setTop (mkF m 0 #[.val (.ref r0)] [])) t := by
    intro t h
    show Steps p.tables e below (s₁.setTop (mkF m 0 #[.val (.ref r0)] [])) _
    refine XS.aloadN X0.here hx rfl (hb hby own_d1_0) rfl rfl ?_
    show Steps p.tables e below (s₁.setTop (mkF m 1 #[.val (.ref r0)] [(.ref r0)])) _
    refine st1 _ ?_
    exact h
  by_cases c4_3 : r0 = sl
  · skip
    have k4 : ∀ t, Steps p.tables e below (T1.setTop (mkF m 26 #[.val (.ref r0)] [(.int (1 : Int32))])) t → Steps p.tables e below (s₁.setTop (mkF m 0 #[.val (.ref r0)] [])) t := by
      intro t h
      refine k2 t ?_
      show Steps p.tables e below (T1.setTop (mkF m 4 #[.val (.ref r0)] [(.ref sl), (.ref r0)])) _
      refine Jvm.RoadKit.acmp (g := (mkF m 4 #[.val (.ref r0)] [(.ref sl), (.ref r0)])) X1 hx rfl rfl rfl (pc0 := 4) (pc' := 21) (same := true) rfl (hb hby own_d1_4) rfl (decide_eq_true (congrArg Value.ref c4_3)) (by decide) (by decide) ?_
      show Steps p.tables e below (T1.setTop (mkF m 21 #[.val (.ref r0)] [])) _
      refine XS.iconst X1.here hx rfl (hb hby own_d1_21) ?_
      show Steps p.tables e below (T1.setTop (mkF m 22 #[.val (.ref r0)] [(.int (1 : Int32))])) _
      refine XS.goto X1.here hx rfl (pc0 := 22) (pc' := 26) rfl (hb hby own_d1_22) (by decide) (by decide) ?_
      exact h
    obtain ⟨fs, hr, hrun, hended, hW, hsame⟩ := X1.leave (v := some (.int (1 : Int32))) (fun h => by rw [Bd.returns] at h; cases h)
    refine ⟨_, _, pre0 _ (k4 _ ?_), hrun, hended, _, _, rfl, ?_, ⟨_, rfl⟩, hW, hsame.mono (by decide) (by decide)⟩
    · exact retN X1 hx (t := .boolean) Bd.returns (by simp) (hb hby own_d1_26) hr
    · show Q_rm1 Z _ _ _ _ h0 n0 _ T1.heap _
      rw [e1]
      exact ⟨congrArg (fun z : Int32 => some (Value.int z)) (by first | (simp only [own_hs, c4_3, ↓reduceIte]; done) | (simp [own_hs, c4_3]; done)), N0, rfl⟩
  · skip
    obtain ⟨T5, X5, e5, st5⟩ := getS2 X1 hx hZ hown (host := "") (Or.inl (hw _ (List.mem_of_getElem? (i := 11) rfl))) Via.refl e1 S2 (g := (mkF m 8 #[.val (.ref r0)] [(.ref r0)])) rfl (hb hby own_d1_8)
    have k6 : ∀ t, Steps p.tables e below (T5.setTop (mkF m 11 #[.val (.ref r0)] [(.ref sc), (.ref r0)])) t → Steps p.tables e below (s₁.setTop (mkF m 0 #[.val (.ref r0)] [])) t := by
      intro t h
      refine k2 t ?_
      show Steps p.tables e below (T1.setTop (mkF m 4 #[.val (.ref r0)] [(.ref sl), (.ref r0)])) _
      refine Jvm.RoadKit.acmp (g := (mkF m 4 #[.val (.ref r0)] [(.ref sl), (.ref r0)])) X1 hx rfl rfl rfl (pc0 := 4) (pc' := 7) (same := false) rfl (hb hby own_d1_4) rfl (decide_eq_false fun q => c4_3 (Value.ref.inj q)) (by decide) (by decide) ?_
      show Steps p.tables e below (T1.setTop (mkF m 7 #[.val (.ref r0)] [])) _
      refine XS.aloadN X1.here hx rfl (hb hby own_d1_7) rfl rfl ?_
      show Steps p.tables e below (T1.setTop (mkF m 8 #[.val (.ref r0)] [(.ref r0)])) _
      refine st5 _ ?_
      exact h
    by_cases c11_7 : r0 = sc
    · skip
      have k8 : ∀ t, Steps p.tables e below (T5.setTop (mkF m 26 #[.val (.ref r0)] [(.int (1 : Int32))])) t → Steps p.tables e below (s₁.setTop (mkF m 0 #[.val (.ref r0)] [])) t := by
        intro t h
        refine k6 t ?_
        show Steps p.tables e below (T5.setTop (mkF m 11 #[.val (.ref r0)] [(.ref sc), (.ref r0)])) _
        refine Jvm.RoadKit.acmp (g := (mkF m 11 #[.val (.ref r0)] [(.ref sc), (.ref r0)])) X5 hx rfl rfl rfl (pc0 := 11) (pc' := 21) (same := true) rfl (hb hby own_d1_11) rfl (decide_eq_true (congrArg Value.ref c11_7)) (by decide) (by decide) ?_
        show Steps p.tables e below (T5.setTop (mkF m 21 #[.val (.ref r0)] [])) _
        refine XS.iconst X5.here hx rfl (hb hby own_d1_21) ?_
        show Steps p.tables e below (T5.setTop (mkF m 22 #[.val (.ref r0)] [(.int (1 : Int32))])) _
        refine XS.goto X5.here hx rfl (pc0 := 22) (pc' := 26) rfl (hb hby own_d1_22) (by decide) (by decide) ?_
        exact h
      obtain ⟨fs, hr, hrun, hended, hW, hsame⟩ := X5.leave (v := some (.int (1 : Int32))) (fun h => by rw [Bd.returns] at h; cases h)
      refine ⟨_, _, pre0 _ (k8 _ ?_), hrun, hended, _, _, rfl, ?_, ⟨_, rfl⟩, hW, hsame.mono (by decide) (by decide)⟩
      · exact retN X5 hx (t := .boolean) Bd.returns (by simp) (hb hby own_d1_26) hr
      · show Q_rm1 Z _ _ _ _ h0 n0 _ T5.heap _
        rw [e5]
        exact ⟨congrArg (fun z : Int32 => some (Value.int z)) (by first | (simp only [own_hs, c4_3, c11_7, ↓reduceIte]; done) | (simp [own_hs, c4_3, c11_7]; done)), N0, rfl⟩
    · skip
      obtain ⟨T9, X9, e9, st9⟩ := getS2 X5 hx hZ hown (host := "") (Or.inl (hw _ (List.mem_of_getElem? (i := 13) rfl))) Via.refl e5 S3 (g := (mkF m 15 #[.val (.ref r0)] [(.ref r0)])) rfl (hb hby own_d1_15)
      have k10 : ∀ t, Steps p.tables e below (T9.setTop (mkF m 18 #[.val (.ref r0)] [(.ref sr), (.ref r0)])) t → Steps p.tables e below (s₁.setTop (mkF m 0 #[.val (.ref r0)] [])) t := by
        intro t h
        refine k6 t ?_
        show Steps p.tables e below (T5.setTop (mkF m 11 #[.val (.ref r0)] [(.ref sc), (.ref r0)])) _
        refine Jvm.RoadKit.acmp (g := (mkF m 11 #[.val (.ref r0)] [(.ref sc), (.ref r0)])) X5 hx rfl rfl rfl (pc0 := 11) (pc' := 14) (same := false) rfl (hb hby own_d1_11) rfl (decide_eq_false fun q => c11_7 (Value.ref.inj q)) (by decide) (by decide) ?_
        show Steps p.tables e below (T5.setTop (mkF m 14 #[.val (.ref r0)] [])) _
        refine XS.aloadN X5.here hx rfl (hb hby own_d1_14) rfl rfl ?_
        show Steps p.tables e below (T5.setTop (mkF m 15 #[.val (.ref r0)] [(.ref r0)])) _
        refine st9 _ ?_
        exact h
      by_cases c18_11 : r0 = sr
      · skip
        have k12 : ∀ t, Steps p.tables e below (T9.setTop (mkF m 26 #[.val (.ref r0)] [(.int (1 : Int32))])) t → Steps p.tables e below (s₁.setTop (mkF m 0 #[.val (.ref r0)] [])) t := by
          intro t h
          refine k10 t ?_
          show Steps p.tables e below (T9.setTop (mkF m 18 #[.val (.ref r0)] [(.ref sr), (.ref r0)])) _
          refine Jvm.RoadKit.acmp (g := (mkF m 18 #[.val (.ref r0)] [(.ref sr), (.ref r0)])) X9 hx rfl rfl rfl (pc0 := 18) (pc' := 21) (same := true) rfl (hb hby own_d1_18) rfl (decide_eq_true (congrArg Value.ref c18_11)) (by decide) (by decide) ?_
          show Steps p.tables e below (T9.setTop (mkF m 21 #[.val (.ref r0)] [])) _
          refine XS.iconst X9.here hx rfl (hb hby own_d1_21) ?_
          show Steps p.tables e below (T9.setTop (mkF m 22 #[.val (.ref r0)] [(.int (1 : Int32))])) _
          refine XS.goto X9.here hx rfl (pc0 := 22) (pc' := 26) rfl (hb hby own_d1_22) (by decide) (by decide) ?_
          exact h
        obtain ⟨fs, hr, hrun, hended, hW, hsame⟩ := X9.leave (v := some (.int (1 : Int32))) (fun h => by rw [Bd.returns] at h; cases h)
        refine ⟨_, _, pre0 _ (k12 _ ?_), hrun, hended, _, _, rfl, ?_, ⟨_, rfl⟩, hW, hsame.mono (by decide) (by decide)⟩
        · exact retN X9 hx (t := .boolean) Bd.returns (by simp) (hb hby own_d1_26) hr
        · show Q_rm1 Z _ _ _ _ h0 n0 _ T9.heap _
          rw [e9]
          exact ⟨congrArg (fun z : Int32 => some (Value.int z)) (by first | (simp only [own_hs, c4_3, c11_7, c18_11, ↓reduceIte]; done) | (simp [own_hs, c4_3, c11_7, c18_11]; done)), N0, rfl⟩
      · skip
        have k13 : ∀ t, Steps p.tables e below (T9.setTop (mkF m 26 #[.val (.ref r0)] [(.int (0 : Int32))])) t → Steps p.tables e below (s₁.setTop (mkF m 0 #[.val (.ref r0)] [])) t := by
          intro t h
          refine k10 t ?_
          show Steps p.tables e below (T9.setTop (mkF m 18 #[.val (.ref r0)] [(.ref sr), (.ref r0)])) _
          refine Jvm.RoadKit.acmp (g := (mkF m 18 #[.val (.ref r0)] [(.ref sr), (.ref r0)])) X9 hx rfl rfl rfl (pc0 := 18) (pc' := 25) (same := false) rfl (hb hby own_d1_18) rfl (decide_eq_false fun q => c18_11 (Value.ref.inj q)) (by decide) (by decide) ?_
          show Steps p.tables e below (T9.setTop (mkF m 25 #[.val (.ref r0)] [])) _
          refine XS.iconst X9.here hx rfl (hb hby own_d1_25) ?_
          exact h
        obtain ⟨fs, hr, hrun, hended, hW, hsame⟩ := X9.leave (v := some (.int (0 : Int32))) (fun h => by rw [Bd.returns] at h; cases h)
        refine ⟨_, _, pre0 _ (k13 _ ?_), hrun, hended, _, _, rfl, ?_, ⟨_, rfl⟩, hW, hsame.mono (by decide) (by decide)⟩
        · exact retN X9 hx (t := .boolean) Bd.returns (by simp) (hb hby own_d1_26) hr
        · show Q_rm1 Z _ _ _ _ h0 n0 _ T9.heap _
          rw [e9]
          exact ⟨congrArg (fun z : Int32 => some (Value.int z)) (by first | (simp only [own_hs, c4_3, c11_7, c18_11, ↓reduceIte]; done) | (simp [own_hs, c4_3, c11_7, c18_11]; done)), N0, rfl⟩
def Q_rm0 (Z : State) (p0 : Int32) (st_Agreement_NONE : Addr) (st_Agreement_LOGIN_ONLY : Addr) (st_Agreement_CONNECTION : Addr) (st_Agreement_CONNECTION_REQUIRED : Addr) (st_Agreement_REFUSED : Addr) (h0 : Heap) (n0 : Nat) (v : Option Value) (h : Heap) (L : List Loc) : Prop := v = some (.int 1) ∧ Fr n0 L
set_option maxRecDepth 65536 in
set_option maxHeartbeats 40000000 in
theorem rm0 (l : Launch) (Z : State) (a0 : Array Value) (hw : ∀ d ∈ tables_1, d.before a0 Z = true) (ws : List Jvm.Cond) (p0 : Int32) (st_Agreement_NONE : Addr) (st_Agreement_LOGIN_ONLY : Addr) (st_Agreement_CONNECTION : Addr) (st_Agreement_CONNECTION_REQUIRED : Addr) (st_Agreement_REFUSED : Addr) (h0 : Heap) (n0 : Nat) (Z0 : n0 ≤ h0.size) (S_Agreement_NONE : Sta Z h0 "com/example/woodrat/woodrat/tls/Agreement" "NONE" "Lcom/example/woodrat/woodrat/tls/Agreement;" (.ref st_Agreement_NONE)) (E_Agreement_NONE : Exa Z h0 st_Agreement_NONE "com/example/woodrat/woodrat/tls/Agreement") (S_Agreement_LOGIN_ONLY : Sta Z h0 "com/example/woodrat/woodrat/tls/Agreement" "LOGIN_ONLY" "Lcom/example/woodrat/woodrat/tls/Agreement;" (.ref st_Agreement_LOGIN_ONLY)) (E_Agreement_LOGIN_ONLY : Exa Z h0 st_Agreement_LOGIN_ONLY "com/example/woodrat/woodrat/tls/Agreement") (S_Agreement_CONNECTION : Sta Z h0 "com/example/woodrat/woodrat/tls/Agreement" "CONNECTION" "Lcom/example/woodrat/woodrat/tls/Agreement;" (.ref st_Agreement_CONNECTION)) (E_Agreement_CONNECTION : Exa Z h0 st_Agreement_CONNECTION "com/example/woodrat/woodrat/tls/Agreement") (S_Agreement_CONNECTION_REQUIRED : Sta Z h0 "com/example/woodrat/woodrat/tls/Agreement" "CONNECTION_REQUIRED" "Lcom/example/woodrat/woodrat/tls/Agreement;" (.ref st_Agreement_CONNECTION_REQUIRED)) (E_Agreement_CONNECTION_REQUIRED : Exa Z h0 st_Agreement_CONNECTION_REQUIRED "com/example/woodrat/woodrat/tls/Agreement") (S_Agreement_REFUSED : Sta Z h0 "com/example/woodrat/woodrat/tls/Agreement" "REFUSED" "Lcom/example/woodrat/woodrat/tls/Agreement;" (.ref st_Agreement_REFUSED)) (E_Agreement_REFUSED : Exa Z h0 st_Agreement_REFUSED "com/example/woodrat/woodrat/tls/Agreement") (F_Agreement_NONE_ordinal : Fld Z h0 st_Agreement_NONE "java/lang/Enum" "ordinal" "I" (.int (0 : Int32))) (F_Agreement_LOGIN_ONLY_ordinal : Fld Z h0 st_Agreement_LOGIN_ONLY "java/lang/Enum" "ordinal" "I" (.int (1 : Int32))) (F_Agreement_CONNECTION_ordinal : Fld Z h0 st_Agreement_CONNECTION "java/lang/Enum" "ordinal" "I" (.int (2 : Int32))) (F_Agreement_CONNECTION_REQUIRED_ordinal : Fld Z h0 st_Agreement_CONNECTION_REQUIRED "java/lang/Enum" "ordinal" "I" (.int (3 : Int32))) (F_Agreement_REFUSED_ordinal : Fld Z h0 st_Agreement_REFUSED "java/lang/Enum" "ordinal" "I" (.int (4 : Int32))) :
    MetFree l x (head1 (Jvm.Cond.code x code maxLocals ret :: ws) room_1) (fun a U => a = #[(.int p0)] ∧ Z.Warmed39 U.vm ∧ U.heap = h0) (fun _ _ _ _ _ => True) (fun _ U o U' => ∃ v L, o = .returned v ∧ Q_rm0 Z p0 st_Agreement_NONE st_Agreement_LOGIN_ONLY st_Agreement_CONNECTION st_Agreement_CONNECTION_REQUIRED st_Agreement_REFUSED h0 n0 v U'.heap L ∧ FrameEnd U o U' L 0 0) := by
  refine MetFree.of_bodySF (plainFor_of_name own_pn_1) hisR ?_
  intro p e s m args below meth c s₁ Bd hml0 hP hK
  obtain ⟨rfl, hZ, hh⟩ := hP
  have hx := Bd.exec
  have hby := Bd.bytes
  have hml : c.maxLocals = 4 := hml0
  have hown : s.vm.findClass "com/example/woodrat/woodrat/tls/AgreementHandshakesPinLaw" = some m.cls := findClass_of_methodNamed Bd.named
  have hnm := (name_of_methodNamed Bd.named Bd.method).1
  have X0 : Stand p l e room_1 s m #[(.int p0)] below meth c s₁ [] 0 0 := Stand.of_body Bd
  have e0 : s₁.heap = h0 := by rw [← hh, Bd.state]; rfl
  have N0 := Fr.nil n0
  have K0 : Keep h0 h0 [] := Keep.refl h0 _
  have pre0 : ∀ t, Steps p.tables e below (s₁.setTop (mkF m 0 #[.val (.int p0), .unset, .unset, .unset] [])) t → Steps p.tables e below (s₁.setTop (entryFrame m #[(.int p0)] maxLocals)) t := fun t k => castTop (own_ef_1 m p0) k
  have k14 : ∀ t, Steps p.tables e below (s₁.setTop (mkF m 8 #[.val (.int p0), .val (.int ((p0 &&& (2147483647 : Int32)) % (5 : Int32))), .unset, .unset] [(.int ((p0 &&& (2147483647 : Int32)) % (5 : Int32)))])) t → Steps p.tables e below (s₁.setTop (mkF m 0 #[.val (.int p0), .unset, .unset, .unset] [])) t := by
    intro t h
    show Steps p.tables e below (s₁.setTop (mkF m 0 #[.val (.int p0), .unset, .unset, .unset] [])) _
    refine XS.iloadN X0.here hx rfl (hb hby at_0) rfl ?_
    show Steps p.tables e below (s₁.setTop (mkF m 1 #[.val (.int p0), .unset, .unset, .unset] [(.int p0)])) _
    refine X0.ldcInt hx hown (mvT hZ (hw _ (List.mem_of_getElem? (i := 0) rfl))) (g := (mkF m 1 #[.val (.int p0), .unset, .unset, .unset] [(.int p0)])) rfl (hb hby at_1) _ ?_
    show Steps p.tables e below (s₁.setTop (mkF m 3 #[.val (.int p0), .unset, .unset, .unset] [(.int (2147483647 : Int32)), (.int p0)])) _
    refine XS.iand X0.here hx rfl (hb hby at_3) rfl ?_
    show Steps p.tables e below (s₁.setTop (mkF m 4 #[.val (.int p0), .unset, .unset, .unset] [(.int (p0 &&& (2147483647 : Int32)))])) _
    refine XS.iconst X0.here hx rfl (hb hby at_4) ?_
    show Steps p.tables e below (s₁.setTop (mkF m 5 #[.val (.int p0), .unset, .unset, .unset] [(.int (5 : Int32)), (.int (p0 &&& (2147483647 : Int32)))])) _
    refine iremM (g := (mkF m 5 #[.val (.int p0), .unset, .unset, .unset] [(.int (5 : Int32)), (.int (p0 &&& (2147483647 : Int32)))])) X0 hx rfl (hb hby at_5) rfl (by decide) ?_
    show Steps p.tables e below (s₁.setTop (mkF m 6 #[.val (.int p0), .unset, .unset, .unset] [(.int ((p0 &&& (2147483647 : Int32)) % (5 : Int32)))])) _
    refine XS.istoreN X0.here hx rfl (hb hby at_6) rfl (l' := #[.val (.int p0), .val (.int ((p0 &&& (2147483647 : Int32)) % (5 : Int32))), .unset, .unset]) rfl ?_
    show Steps p.tables e below (s₁.setTop (mkF m 7 #[.val (.int p0), .val (.int ((p0 &&& (2147483647 : Int32)) % (5 : Int32))), .unset, .unset] [])) _
    refine XS.iloadN X0.here hx rfl (hb hby at_7) rfl ?_
    exact h
  by_cases c8_15 : ((p0 &&& (2147483647 : Int32)) % (5 : Int32)) = (0 : Int32)
  · skip
    obtain ⟨T16, X16, e16, st16⟩ := getS2 X0 hx hZ hown (host := "") (Or.inl (hw _ (List.mem_of_getElem? (i := 1) rfl))) Via.refl e0 S_Agreement_NONE (g := (mkF m 11 #[.val (.int p0), .val (.int ((p0 &&& (2147483647 : Int32)) % (5 : Int32))), .unset, .unset] [])) rfl (hb hby at_11)
    obtain ⟨cq17, kq17, q17a, q17b, q17c⟩ := isOf hZ e16 E_Agreement_NONE
    obtain ⟨_, _, ⟨T17, L17, k17, n17⟩, -, X17, ⟨Lc17, hQ17, l17, y17, z17⟩, st17⟩ := X16.virtualBack hx (y := (⟨"com/example/woodrat/woodrat/tls/Agreement", "handshakes", "()Z"⟩ : MethodName)) (z := (⟨"com/example/woodrat/woodrat/tls/Agreement", "handshakes", "()Z"⟩ : MethodName)) hown (mvT hZ (hw _ (List.mem_of_getElem? (i := 4) rfl))) (mvT hZ (hw _ (List.mem_of_getElem? (i := 5) rfl))) (notFace_of_selects (args := #[]) (mvT hZ (hw _ (List.mem_of_getElem? (i := 7) rfl)))) (mvT hZ (hw _ (List.mem_of_getElem? (i := 7) rfl))) (mvT hZ (hw _ (List.mem_of_getElem? (i := 6) rfl))) (by decide) (backOf (W := 0) (rm1 l Z a0 hw [] st_Agreement_NONE st_Agreement_LOGIN_ONLY st_Agreement_CONNECTION st_Agreement_CONNECTION_REQUIRED h0 n0 Z0 S_Agreement_LOGIN_ONLY S_Agreement_CONNECTION S_Agreement_CONNECTION_REQUIRED) hZ (hw _ (List.mem_of_getElem? (i := 8) rfl)) (hw _ (List.mem_of_getElem? (i := 2) rfl)) (by decide) (by decide)) q17a q17c (g := (mkF m 69 #[.val (.int p0), .val (.int ((p0 &&& (2147483647 : Int32)) % (5 : Int32))), .val (.ref st_Agreement_NONE), .val (.int (0 : Int32))] [(.ref st_Agreement_NONE)])) rfl (by rw [hml]; rfl) (Steps.refl _) (argsL := []) (rest := []) (lenOf own_pd_0 rfl) rfl (by show 2 * 0 + _ ≤ _; exact Nat.le_of_eq rfl) (hb hby at_69) (fun _ _ => ⟨rfl, e16, (by decide : 0 + 0 ≤ _), (by decide : 0 + 0 ≤ _)⟩)
    dsimp only [Pt.U, Pt.locs, Pt.cells, Pt.slots] at X17 l17 y17 z17 st17 hQ17
    subst l17 y17 z17
    obtain ⟨rfl, Nq17, eq17⟩ := hQ17
    have N17 := Fr.app N0 Nq17
    have k18 : ∀ t, Steps p.tables e below (T17.setTop (mkF m 73 #[.val (.int p0), .val (.int ((p0 &&& (2147483647 : Int32)) % (5 : Int32))), .val (.ref st_Agreement_NONE), .val (.int (0 : Int32))] [(.int (0 : Int32)), (.int (own_hs st_Agreement_NONE st_Agreement_LOGIN_ONLY st_Agreement_CONNECTION st_Agreement_CONNECTION_REQUIRED))])) t → Steps p.tables e below (s₁.setTop (mkF m 0 #[.val (.int p0), .unset, .unset, .unset] [])) t := by
      intro t h
      refine k14 t ?_
      show Steps p.tables e below (s₁.setTop (mkF m 8 #[.val (.int p0), .val (.int ((p0 &&& (2147483647 : Int32)) % (5 : Int32))), .unset, .unset] [(.int ((p0 &&& (2147483647 : Int32)) % (5 : Int32)))])) _
      refine XS.ifNo X0.here hx rfl (hb hby at_8) rfl ((if0 _ _).trans (teq c8_15).2) ?_
      show Steps p.tables e below (s₁.setTop (mkF m 11 #[.val (.int p0), .val (.int ((p0 &&& (2147483647 : Int32)) % (5 : Int32))), .unset, .unset] [])) _
      refine st16 _ ?_
      show Steps p.tables e below (T16.setTop (mkF m 14 #[.val (.int p0), .val (.int ((p0 &&& (2147483647 : Int32)) % (5 : Int32))), .unset, .unset] [(.ref st_Agreement_NONE)])) _
      refine XS.astoreN X16.here hx rfl (hb hby at_14) rfl rfl (l' := #[.val (.int p0), .val (.int ((p0 &&& (2147483647 : Int32)) % (5 : Int32))), .val (.ref st_Agreement_NONE), .unset]) rfl ?_
      show Steps p.tables e below (T16.setTop (mkF m 15 #[.val (.int p0), .val (.int ((p0 &&& (2147483647 : Int32)) % (5 : Int32))), .val (.ref st_Agreement_NONE), .unset] [])) _
      refine XS.iconst X16.here hx rfl (hb hby at_15) ?_
      show Steps p.tables e below (T16.setTop (mkF m 16 #[.val (.int p0), .val (.int ((p0 &&& (2147483647 : Int32)) % (5 : Int32))), .val (.ref st_Agreement_NONE), .unset] [(.int (0 : Int32))])) _
      refine XS.istoreN X16.here hx rfl (hb hby at_16) rfl (l' := #[.val (.int p0), .val (.int ((p0 &&& (2147483647 : Int32)) % (5 : Int32))), .val (.ref st_Agreement_NONE), .val (.int (0 : Int32))]) rfl ?_
      show Steps p.tables e below (T16.setTop (mkF m 17 #[.val (.int p0), .val (.int ((p0 &&& (2147483647 : Int32)) % (5 : Int32))), .val (.ref st_Agreement_NONE), .val (.int (0 : Int32))] [])) _
      refine XS.goto X16.here hx rfl (pc0 := 17) (pc' := 68) rfl (hb hby at_17) (by decide) (by decide) ?_
      show Steps p.tables e below (T16.setTop (mkF m 68 #[.val (.int p0), .val (.int ((p0 &&& (2147483647 : Int32)) % (5 : Int32))), .val (.ref st_Agreement_NONE), .val (.int (0 : Int32))] [])) _
      refine XS.aloadN X16.here hx rfl (hb hby at_68) rfl rfl ?_
      show Steps p.tables e below (T16.setTop (mkF m 69 #[.val (.int p0), .val (.int ((p0 &&& (2147483647 : Int32)) % (5 : Int32))), .val (.ref st_Agreement_NONE), .val (.int (0 : Int32))] [(.ref st_Agreement_NONE)])) _
      refine st17.trans ?_
      show Steps p.tables e below (T17.setTop (mkF m 72 #[.val (.int p0), .val (.int ((p0 &&& (2147483647 : Int32)) % (5 : Int32))), .val (.ref st_Agreement_NONE), .val (.int (0 : Int32))] [(.int (own_hs st_Agreement_NONE st_Agreement_LOGIN_ONLY st_Agreement_CONNECTION st_Agreement_CONNECTION_REQUIRED))])) _
      refine XS.iloadN X17.here hx rfl (hb hby at_72) rfl ?_
      exact h
    have b73_19 : (own_hs st_Agreement_NONE st_Agreement_LOGIN_ONLY st_Agreement_CONNECTION st_Agreement_CONNECTION_REQUIRED) = (0 : Int32) := by rw [own_hs, if_neg (Fld.ne F_Agreement_NONE_ordinal F_Agreement_LOGIN_ONLY_ordinal (own_ni (by decide))), if_neg (Fld.ne F_Agreement_NONE_ordinal F_Agreement_CONNECTION_ordinal (own_ni (by decide))), if_neg (Fld.ne F_Agreement_NONE_ordinal F_Agreement_CONNECTION_REQUIRED_ordinal (own_ni (by decide)))]
    have k20 : ∀ t, Steps p.tables e below (T17.setTop (mkF m 81 #[.val (.int p0), .val (.int ((p0 &&& (2147483647 : Int32)) % (5 : Int32))), .val (.ref st_Agreement_NONE), .val (.int (0 : Int32))] [(.int (1 : Int32))])) t → Steps p.tables e below (s₁.setTop (mkF m 0 #[.val (.int p0), .unset, .unset, .unset] [])) t := by
      intro t h
      refine k18 t ?_
      show Steps p.tables e below (T17.setTop (mkF m 73 #[.val (.int p0), .val (.int ((p0 &&& (2147483647 : Int32)) % (5 : Int32))), .val (.ref st_Agreement_NONE), .val (.int (0 : Int32))] [(.int (0 : Int32)), (.int (own_hs st_Agreement_NONE st_Agreement_LOGIN_ONLY st_Agreement_CONNECTION st_Agreement_CONNECTION_REQUIRED))])) _
      refine XS.icmpNo X17.here hx rfl (hb hby at_73) rfl (teq b73_19).2 ?_
      show Steps p.tables e below (T17.setTop (mkF m 76 #[.val (.int p0), .val (.int ((p0 &&& (2147483647 : Int32)) % (5 : Int32))), .val (.ref st_Agreement_NONE), .val (.int (0 : Int32))] [])) _
      refine XS.iconst X17.here hx rfl (hb hby at_76) ?_
      show Steps p.tables e below (T17.setTop (mkF m 77 #[.val (.int p0), .val (.int ((p0 &&& (2147483647 : Int32)) % (5 : Int32))), .val (.ref st_Agreement_NONE), .val (.int (0 : Int32))] [(.int (1 : Int32))])) _
      refine XS.goto X17.here hx rfl (pc0 := 77) (pc' := 81) rfl (hb hby at_77) (by decide) (by decide) ?_
      exact h
    obtain ⟨fs, hr, hrun, hended, hW, hsame⟩ := X17.leave (v := some (.int (1 : Int32))) (fun h => by rw [Bd.returns] at h; cases h)
    refine ⟨_, _, pre0 _ (k20 _ ?_), hrun, hended, _, _, rfl, ?_, ⟨_, rfl⟩, hW, hsame.mono (by decide) (by decide)⟩
    · exact retN X17 hx (t := .boolean) Bd.returns (by simp) (hb hby at_81) hr
    · show Q_rm0 Z _ _ _ _ _ _ h0 n0 _ T17.heap _
      rw [eq17]
      exact ⟨rfl, N17⟩
  · skip
    have k21 : ∀ t, Steps p.tables e below (s₁.setTop (mkF m 22 #[.val (.int p0), .val (.int ((p0 &&& (2147483647 : Int32)) % (5 : Int32))), .unset, .unset] [(.int (1 : Int32)), (.int ((p0 &&& (2147483647 : Int32)) % (5 : Int32)))])) t → Steps p.tables e below (s₁.setTop (mkF m 0 #[.val (.int p0), .unset, .unset, .unset] [])) t := by
      intro t h
      refine k14 t ?_
      show Steps p.tables e below (s₁.setTop (mkF m 8 #[.val (.int p0), .val (.int ((p0 &&& (2147483647 : Int32)) % (5 : Int32))), .unset, .unset] [(.int ((p0 &&& (2147483647 : Int32)) % (5 : Int32)))])) _
      refine XS.ifYes X0.here hx rfl (pc0 := 8) (pc' := 20) rfl (hb hby at_8) rfl ((if0 _ _).trans (feq c8_15).2) (by decide) (by decide) ?_
      show Steps p.tables e below (s₁.setTop (mkF m 20 #[.val (.int p0), .val (.int ((p0 &&& (2147483647 : Int32)) % (5 : Int32))), .unset, .unset] [])) _
      refine XS.iloadN X0.here hx rfl (hb hby at_20) rfl ?_
      show Steps p.tables e below (s₁.setTop (mkF m 21 #[.val (.int p0), .val (.int ((p0 &&& (2147483647 : Int32)) % (5 : Int32))), .unset, .unset] [(.int ((p0 &&& (2147483647 : Int32)) % (5 : Int32)))])) _
      refine XS.iconst X0.here hx rfl (hb hby at_21) ?_
      exact h
    by_cases c22_22 : ((p0 &&& (2147483647 : Int32)) % (5 : Int32)) = (1 : Int32)
    · skip
      obtain ⟨T23, X23, e23, st23⟩ := getS2 X0 hx hZ hown (host := "") (Or.inl (hw _ (List.mem_of_getElem? (i := 16) rfl))) Via.refl e0 S_Agreement_LOGIN_ONLY (g := (mkF m 25 #[.val (.int p0), .val (.int ((p0 &&& (2147483647 : Int32)) % (5 : Int32))), .unset, .unset] [])) rfl (hb hby at_25)
      obtain ⟨cq24, kq24, q24a, q24b, q24c⟩ := isOf hZ e23 E_Agreement_LOGIN_ONLY
      obtain ⟨_, _, ⟨T24, L24, k24, n24⟩, -, X24, ⟨Lc24, hQ24, l24, y24, z24⟩, st24⟩ := X23.virtualBack hx (y := (⟨"com/example/woodrat/woodrat/tls/Agreement", "handshakes", "()Z"⟩ : MethodName)) (z := (⟨"com/example/woodrat/woodrat/tls/Agreement", "handshakes", "()Z"⟩ : MethodName)) hown (mvT hZ (hw _ (List.mem_of_getElem? (i := 4) rfl))) (mvT hZ (hw _ (List.mem_of_getElem? (i := 5) rfl))) (notFace_of_selects (args := #[]) (mvT hZ (hw _ (List.mem_of_getElem? (i := 7) rfl)))) (mvT hZ (hw _ (List.mem_of_getElem? (i := 7) rfl))) (mvT hZ (hw _ (List.mem_of_getElem? (i := 6) rfl))) (by decide) (backOf (W := 0) (rm1 l Z a0 hw [] st_Agreement_LOGIN_ONLY st_Agreement_LOGIN_ONLY st_Agreement_CONNECTION st_Agreement_CONNECTION_REQUIRED h0 n0 Z0 S_Agreement_LOGIN_ONLY S_Agreement_CONNECTION S_Agreement_CONNECTION_REQUIRED) hZ (hw _ (List.mem_of_getElem? (i := 8) rfl)) (hw _ (List.mem_of_getElem? (i := 2) rfl)) (by decide) (by decide)) q24a q24c (g := (mkF m 69 #[.val (.int p0), .val (.int ((p0 &&& (2147483647 : Int32)) % (5 : Int32))), .val (.ref st_Agreement_LOGIN_ONLY), .val (.int (1 : Int32))] [(.ref st_Agreement_LOGIN_ONLY)])) rfl (by rw [hml]; rfl) (Steps.refl _) (argsL := []) (rest := []) (lenOf own_pd_0 rfl) rfl (by show 2 * 0 + _ ≤ _; exact Nat.le_of_eq rfl) (hb hby at_69) (fun _ _ => ⟨rfl, e23, (by decide : 0 + 0 ≤ _), (by decide : 0 + 0 ≤ _)⟩)
      dsimp only [Pt.U, Pt.locs, Pt.cells, Pt.slots] at X24 l24 y24 z24 st24 hQ24
      subst l24 y24 z24
      obtain ⟨rfl, Nq24, eq24⟩ := hQ24
      have N24 := Fr.app N0 Nq24
      have k25 : ∀ t, Steps p.tables e below (T24.setTop (mkF m 73 #[.val (.int p0), .val (.int ((p0 &&& (2147483647 : Int32)) % (5 : Int32))), .val (.ref st_Agreement_LOGIN_ONLY), .val (.int (1 : Int32))] [(.int (1 : Int32)), (.int (own_hs st_Agreement_LOGIN_ONLY st_Agreement_LOGIN_ONLY st_Agreement_CONNECTION st_Agreement_CONNECTION_REQUIRED))])) t → Steps p.tables e below (s₁.setTop (mkF m 0 #[.val (.int p0), .unset, .unset, .unset] [])) t := by
        intro t h
        refine k21 t ?_
        show Steps p.tables e below (s₁.setTop (mkF m 22 #[.val (.int p0), .val (.int ((p0 &&& (2147483647 : Int32)) % (5 : Int32))), .unset, .unset] [(.int (1 : Int32)), (.int ((p0 &&& (2147483647 : Int32)) % (5 : Int32)))])) _
        refine XS.icmpNo X0.here hx rfl (hb hby at_22) rfl (teq c22_22).2 ?_
        show Steps p.tables e below (s₁.setTop (mkF m 25 #[.val (.int p0), .val (.int ((p0 &&& (2147483647 : Int32)) % (5 : Int32))), .unset, .unset] [])) _
        refine st23 _ ?_
        show Steps p.tables e below (T23.setTop (mkF m 28 #[.val (.int p0), .val (.int ((p0 &&& (2147483647 : Int32)) % (5 : Int32))), .unset, .unset] [(.ref st_Agreement_LOGIN_ONLY)])) _
        refine XS.astoreN X23.here hx rfl (hb hby at_28) rfl rfl (l' := #[.val (.int p0), .val (.int ((p0 &&& (2147483647 : Int32)) % (5 : Int32))), .val (.ref st_Agreement_LOGIN_ONLY), .unset]) rfl ?_
        show Steps p.tables e below (T23.setTop (mkF m 29 #[.val (.int p0), .val (.int ((p0 &&& (2147483647 : Int32)) % (5 : Int32))), .val (.ref st_Agreement_LOGIN_ONLY), .unset] [])) _
        refine XS.iconst X23.here hx rfl (hb hby at_29) ?_
        show Steps p.tables e below (T23.setTop (mkF m 30 #[.val (.int p0), .val (.int ((p0 &&& (2147483647 : Int32)) % (5 : Int32))), .val (.ref st_Agreement_LOGIN_ONLY), .unset] [(.int (1 : Int32))])) _
        refine XS.istoreN X23.here hx rfl (hb hby at_30) rfl (l' := #[.val (.int p0), .val (.int ((p0 &&& (2147483647 : Int32)) % (5 : Int32))), .val (.ref st_Agreement_LOGIN_ONLY), .val (.int (1 : Int32))]) rfl ?_
        show Steps p.tables e below (T23.setTop (mkF m 31 #[.val (.int p0), .val (.int ((p0 &&& (2147483647 : Int32)) % (5 : Int32))), .val (.ref st_Agreement_LOGIN_ONLY), .val (.int (1 : Int32))] [])) _
        refine XS.goto X23.here hx rfl (pc0 := 31) (pc' := 68) rfl (hb hby at_31) (by decide) (by decide) ?_
        show Steps p.tables e below (T23.setTop (mkF m 68 #[.val (.int p0), .val (.int ((p0 &&& (2147483647 : Int32)) % (5 : Int32))), .val (.ref st_Agreement_LOGIN_ONLY), .val (.int (1 : Int32))] [])) _
        refine XS.aloadN X23.here hx rfl (hb hby at_68) rfl rfl ?_
        show Steps p.tables e below (T23.setTop (mkF m 69 #[.val (.int p0), .val (.int ((p0 &&& (2147483647 : Int32)) % (5 : Int32))), .val (.ref st_Agreement_LOGIN_ONLY), .val (.int (1 : Int32))] [(.ref st_Agreement_LOGIN_ONLY)])) _
        refine st24.trans ?_
        show Steps p.tables e below (T24.setTop (mkF m 72 #[.val (.int p0), .val (.int ((p0 &&& (2147483647 : Int32)) % (5 : Int32))), .val (.ref st_Agreement_LOGIN_ONLY), .val (.int (1 : Int32))] [(.int (own_hs st_Agreement_LOGIN_ONLY st_Agreement_LOGIN_ONLY st_Agreement_CONNECTION st_Agreement_CONNECTION_REQUIRED))])) _
        refine XS.iloadN X24.here hx rfl (hb hby at_72) rfl ?_
        exact h
      have b73_26 : (own_hs st_Agreement_LOGIN_ONLY st_Agreement_LOGIN_ONLY st_Agreement_CONNECTION st_Agreement_CONNECTION_REQUIRED) = (1 : Int32) := by rw [own_hs, if_pos rfl]
      have k27 : ∀ t, Steps p.tables e below (T24.setTop (mkF m 81 #[.val (.int p0), .val (.int ((p0 &&& (2147483647 : Int32)) % (5 : Int32))), .val (.ref st_Agreement_LOGIN_ONLY), .val (.int (1 : Int32))] [(.int (1 : Int32))])) t → Steps p.tables e below (s₁.setTop (mkF m 0 #[.val (.int p0), .unset, .unset, .unset] [])) t := by
        intro t h
        refine k25 t ?_
        show Steps p.tables e below (T24.setTop (mkF m 73 #[.val (.int p0), .val (.int ((p0 &&& (2147483647 : Int32)) % (5 : Int32))), .val (.ref st_Agreement_LOGIN_ONLY), .val (.int (1 : Int32))] [(.int (1 : Int32)), (.int (own_hs st_Agreement_LOGIN_ONLY st_Agreement_LOGIN_ONLY st_Agreement_CONNECTION st_Agreement_CONNECTION_REQUIRED))])) _
        refine XS.icmpNo X24.here hx rfl (hb hby at_73) rfl (teq b73_26).2 ?_
        show Steps p.tables e below (T24.setTop (mkF m 76 #[.val (.int p0), .val (.int ((p0 &&& (2147483647 : Int32)) % (5 : Int32))), .val (.ref st_Agreement_LOGIN_ONLY), .val (.int (1 : Int32))] [])) _
        refine XS.iconst X24.here hx rfl (hb hby at_76) ?_
        show Steps p.tables e below (T24.setTop (mkF m 77 #[.val (.int p0), .val (.int ((p0 &&& (2147483647 : Int32)) % (5 : Int32))), .val (.ref st_Agreement_LOGIN_ONLY), .val (.int (1 : Int32))] [(.int (1 : Int32))])) _
        refine XS.goto X24.here hx rfl (pc0 := 77) (pc' := 81) rfl (hb hby at_77) (by decide) (by decide) ?_
        exact h
      obtain ⟨fs, hr, hrun, hended, hW, hsame⟩ := X24.leave (v := some (.int (1 : Int32))) (fun h => by rw [Bd.returns] at h; cases h)
      refine ⟨_, _, pre0 _ (k27 _ ?_), hrun, hended, _, _, rfl, ?_, ⟨_, rfl⟩, hW, hsame.mono (by decide) (by decide)⟩
      · exact retN X24 hx (t := .boolean) Bd.returns (by simp) (hb hby at_81) hr
      · show Q_rm0 Z _ _ _ _ _ _ h0 n0 _ T24.heap _
        rw [eq24]
        exact ⟨rfl, N24⟩
    · skip
      have k28 : ∀ t, Steps p.tables e below (s₁.setTop (mkF m 36 #[.val (.int p0), .val (.int ((p0 &&& (2147483647 : Int32)) % (5 : Int32))), .unset, .unset] [(.int (2 : Int32)), (.int ((p0 &&& (2147483647 : Int32)) % (5 : Int32)))])) t → Steps p.tables e below (s₁.setTop (mkF m 0 #[.val (.int p0), .unset, .unset, .unset] [])) t := by
        intro t h
        refine k21 t ?_
        show Steps p.tables e below (s₁.setTop (mkF m 22 #[.val (.int p0), .val (.int ((p0 &&& (2147483647 : Int32)) % (5 : Int32))), .unset, .unset] [(.int (1 : Int32)), (.int ((p0 &&& (2147483647 : Int32)) % (5 : Int32)))])) _
        refine XS.icmpYes X0.here hx rfl (pc0 := 22) (pc' := 34) rfl (hb hby at_22) rfl (feq c22_22).2 (by decide) (by decide) ?_
        show Steps p.tables e below (s₁.setTop (mkF m 34 #[.val (.int p0), .val (.int ((p0 &&& (2147483647 : Int32)) % (5 : Int32))), .unset, .unset] [])) _
        refine XS.iloadN X0.here hx rfl (hb hby at_34) rfl ?_
        show Steps p.tables e below (s₁.setTop (mkF m 35 #[.val (.int p0), .val (.int ((p0 &&& (2147483647 : Int32)) % (5 : Int32))), .unset, .unset] [(.int ((p0 &&& (2147483647 : Int32)) % (5 : Int32)))])) _
        refine XS.iconst X0.here hx rfl (hb hby at_35) ?_
        exact h
      by_cases c36_29 : ((p0 &&& (2147483647 : Int32)) % (5 : Int32)) = (2 : Int32)
      · skip
        obtain ⟨T30, X30, e30, st30⟩ := getS2 X0 hx hZ hown (host := "") (Or.inl (hw _ (List.mem_of_getElem? (i := 19) rfl))) Via.refl e0 S_Agreement_CONNECTION (g := (mkF m 39 #[.val (.int p0), .val (.int ((p0 &&& (2147483647 : Int32)) % (5 : Int32))), .unset, .unset] [])) rfl (hb hby at_39)
        obtain ⟨cq31, kq31, q31a, q31b, q31c⟩ := isOf hZ e30 E_Agreement_CONNECTION
        obtain ⟨_, _, ⟨T31, L31, k31, n31⟩, -, X31, ⟨Lc31, hQ31, l31, y31, z31⟩, st31⟩ := X30.virtualBack hx (y := (⟨"com/example/woodrat/woodrat/tls/Agreement", "handshakes", "()Z"⟩ : MethodName)) (z := (⟨"com/example/woodrat/woodrat/tls/Agreement", "handshakes", "()Z"⟩ : MethodName)) hown (mvT hZ (hw _ (List.mem_of_getElem? (i := 4) rfl))) (mvT hZ (hw _ (List.mem_of_getElem? (i := 5) rfl))) (notFace_of_selects (args := #[]) (mvT hZ (hw _ (List.mem_of_getElem? (i := 7) rfl)))) (mvT hZ (hw _ (List.mem_of_getElem? (i := 7) rfl))) (mvT hZ (hw _ (List.mem_of_getElem? (i := 6) rfl))) (by decide) (backOf (W := 0) (rm1 l Z a0 hw [] st_Agreement_CONNECTION st_Agreement_LOGIN_ONLY st_Agreement_CONNECTION st_Agreement_CONNECTION_REQUIRED h0 n0 Z0 S_Agreement_LOGIN_ONLY S_Agreement_CONNECTION S_Agreement_CONNECTION_REQUIRED) hZ (hw _ (List.mem_of_getElem? (i := 8) rfl)) (hw _ (List.mem_of_getElem? (i := 2) rfl)) (by decide) (by decide)) q31a q31c (g := (mkF m 69 #[.val (.int p0), .val (.int ((p0 &&& (2147483647 : Int32)) % (5 : Int32))), .val (.ref st_Agreement_CONNECTION), .val (.int (1 : Int32))] [(.ref st_Agreement_CONNECTION)])) rfl (by rw [hml]; rfl) (Steps.refl _) (argsL := []) (rest := []) (lenOf own_pd_0 rfl) rfl (by show 2 * 0 + _ ≤ _; exact Nat.le_of_eq rfl) (hb hby at_69) (fun _ _ => ⟨rfl, e30, (by decide : 0 + 0 ≤ _), (by decide : 0 + 0 ≤ _)⟩)
        dsimp only [Pt.U, Pt.locs, Pt.cells, Pt.slots] at X31 l31 y31 z31 st31 hQ31
        subst l31 y31 z31
        obtain ⟨rfl, Nq31, eq31⟩ := hQ31
        have N31 := Fr.app N0 Nq31
        have k32 : ∀ t, Steps p.tables e below (T31.setTop (mkF m 73 #[.val (.int p0), .val (.int ((p0 &&& (2147483647 : Int32)) % (5 : Int32))), .val (.ref st_Agreement_CONNECTION), .val (.int (1 : Int32))] [(.int (1 : Int32)), (.int (own_hs st_Agreement_CONNECTION st_Agreement_LOGIN_ONLY st_Agreement_CONNECTION st_Agreement_CONNECTION_REQUIRED))])) t → Steps p.tables e below (s₁.setTop (mkF m 0 #[.val (.int p0), .unset, .unset, .unset] [])) t := by
          intro t h
          refine k28 t ?_
          show Steps p.tables e below (s₁.setTop (mkF m 36 #[.val (.int p0), .val (.int ((p0 &&& (2147483647 : Int32)) % (5 : Int32))), .unset, .unset] [(.int (2 : Int32)), (.int ((p0 &&& (2147483647 : Int32)) % (5 : Int32)))])) _
          refine XS.icmpNo X0.here hx rfl (hb hby at_36) rfl (teq c36_29).2 ?_
          show Steps p.tables e below (s₁.setTop (mkF m 39 #[.val (.int p0), .val (.int ((p0 &&& (2147483647 : Int32)) % (5 : Int32))), .unset, .unset] [])) _
          refine st30 _ ?_
          show Steps p.tables e below (T30.setTop (mkF m 42 #[.val (.int p0), .val (.int ((p0 &&& (2147483647 : Int32)) % (5 : Int32))), .unset, .unset] [(.ref st_Agreement_CONNECTION)])) _
          refine XS.astoreN X30.here hx rfl (hb hby at_42) rfl rfl (l' := #[.val (.int p0), .val (.int ((p0 &&& (2147483647 : Int32)) % (5 : Int32))), .val (.ref st_Agreement_CONNECTION), .unset]) rfl ?_
          show Steps p.tables e below (T30.setTop (mkF m 43 #[.val (.int p0), .val (.int ((p0 &&& (2147483647 : Int32)) % (5 : Int32))), .val (.ref st_Agreement_CONNECTION), .unset] [])) _
          refine XS.iconst X30.here hx rfl (hb hby at_43) ?_
          show Steps p.tables e below (T30.setTop (mkF m 44 #[.val (.int p0), .val (.int ((p0 &&& (2147483647 : Int32)) % (5 : Int32))), .val (.ref st_Agreement_CONNECTION), .unset] [(.int (1 : Int32))])) _
          refine XS.istoreN X30.here hx rfl (hb hby at_44) rfl (l' := #[.val (.int p0), .val (.int ((p0 &&& (2147483647 : Int32)) % (5 : Int32))), .val (.ref st_Agreement_CONNECTION), .val (.int (1 : Int32))]) rfl ?_
          show Steps p.tables e below (T30.setTop (mkF m 45 #[.val (.int p0), .val (.int ((p0 &&& (2147483647 : Int32)) % (5 : Int32))), .val (.ref st_Agreement_CONNECTION), .val (.int (1 : Int32))] [])) _
          refine XS.goto X30.here hx rfl (pc0 := 45) (pc' := 68) rfl (hb hby at_45) (by decide) (by decide) ?_
          show Steps p.tables e below (T30.setTop (mkF m 68 #[.val (.int p0), .val (.int ((p0 &&& (2147483647 : Int32)) % (5 : Int32))), .val (.ref st_Agreement_CONNECTION), .val (.int (1 : Int32))] [])) _
          refine XS.aloadN X30.here hx rfl (hb hby at_68) rfl rfl ?_
          show Steps p.tables e below (T30.setTop (mkF m 69 #[.val (.int p0), .val (.int ((p0 &&& (2147483647 : Int32)) % (5 : Int32))), .val (.ref st_Agreement_CONNECTION), .val (.int (1 : Int32))] [(.ref st_Agreement_CONNECTION)])) _
          refine st31.trans ?_
          show Steps p.tables e below (T31.setTop (mkF m 72 #[.val (.int p0), .val (.int ((p0 &&& (2147483647 : Int32)) % (5 : Int32))), .val (.ref st_Agreement_CONNECTION), .val (.int (1 : Int32))] [(.int (own_hs st_Agreement_CONNECTION st_Agreement_LOGIN_ONLY st_Agreement_CONNECTION st_Agreement_CONNECTION_REQUIRED))])) _
          refine XS.iloadN X31.here hx rfl (hb hby at_72) rfl ?_
          exact h
        have b73_33 : (own_hs st_Agreement_CONNECTION st_Agreement_LOGIN_ONLY st_Agreement_CONNECTION st_Agreement_CONNECTION_REQUIRED) = (1 : Int32) := by rw [own_hs, if_neg (Fld.ne F_Agreement_CONNECTION_ordinal F_Agreement_LOGIN_ONLY_ordinal (own_ni (by decide))), if_pos rfl]
        have k34 : ∀ t, Steps p.tables e below (T31.setTop (mkF m 81 #[.val (.int p0), .val (.int ((p0 &&& (2147483647 : Int32)) % (5 : Int32))), .val (.ref st_Agreement_CONNECTION), .val (.int (1 : Int32))] [(.int (1 : Int32))])) t → Steps p.tables e below (s₁.setTop (mkF m 0 #[.val (.int p0), .unset, .unset, .unset] [])) t := by
          intro t h
          refine k32 t ?_
          show Steps p.tables e below (T31.setTop (mkF m 73 #[.val (.int p0), .val (.int ((p0 &&& (2147483647 : Int32)) % (5 : Int32))), .val (.ref st_Agreement_CONNECTION), .val (.int (1 : Int32))] [(.int (1 : Int32)), (.int (own_hs st_Agreement_CONNECTION st_Agreement_LOGIN_ONLY st_Agreement_CONNECTION st_Agreement_CONNECTION_REQUIRED))])) _
          refine XS.icmpNo X31.here hx rfl (hb hby at_73) rfl (teq b73_33).2 ?_
          show Steps p.tables e below (T31.setTop (mkF m 76 #[.val (.int p0), .val (.int ((p0 &&& (2147483647 : Int32)) % (5 : Int32))), .val (.ref st_Agreement_CONNECTION), .val (.int (1 : Int32))] [])) _
          refine XS.iconst X31.here hx rfl (hb hby at_76) ?_
          show Steps p.tables e below (T31.setTop (mkF m 77 #[.val (.int p0), .val (.int ((p0 &&& (2147483647 : Int32)) % (5 : Int32))), .val (.ref st_Agreement_CONNECTION), .val (.int (1 : Int32))] [(.int (1 : Int32))])) _
          refine XS.goto X31.here hx rfl (pc0 := 77) (pc' := 81) rfl (hb hby at_77) (by decide) (by decide) ?_
          exact h
        obtain ⟨fs, hr, hrun, hended, hW, hsame⟩ := X31.leave (v := some (.int (1 : Int32))) (fun h => by rw [Bd.returns] at h; cases h)
        refine ⟨_, _, pre0 _ (k34 _ ?_), hrun, hended, _, _, rfl, ?_, ⟨_, rfl⟩, hW, hsame.mono (by decide) (by decide)⟩
        · exact retN X31 hx (t := .boolean) Bd.returns (by simp) (hb hby at_81) hr
        · show Q_rm0 Z _ _ _ _ _ _ h0 n0 _ T31.heap _
          rw [eq31]
          exact ⟨rfl, N31⟩
      · skip
        have k35 : ∀ t, Steps p.tables e below (s₁.setTop (mkF m 50 #[.val (.int p0), .val (.int ((p0 &&& (2147483647 : Int32)) % (5 : Int32))), .unset, .unset] [(.int (3 : Int32)), (.int ((p0 &&& (2147483647 : Int32)) % (5 : Int32)))])) t → Steps p.tables e below (s₁.setTop (mkF m 0 #[.val (.int p0), .unset, .unset, .unset] [])) t := by
          intro t h
          refine k28 t ?_
          show Steps p.tables e below (s₁.setTop (mkF m 36 #[.val (.int p0), .val (.int ((p0 &&& (2147483647 : Int32)) % (5 : Int32))), .unset, .unset] [(.int (2 : Int32)), (.int ((p0 &&& (2147483647 : Int32)) % (5 : Int32)))])) _
          refine XS.icmpYes X0.here hx rfl (pc0 := 36) (pc' := 48) rfl (hb hby at_36) rfl (feq c36_29).2 (by decide) (by decide) ?_
          show Steps p.tables e below (s₁.setTop (mkF m 48 #[.val (.int p0), .val (.int ((p0 &&& (2147483647 : Int32)) % (5 : Int32))), .unset, .unset] [])) _
          refine XS.iloadN X0.here hx rfl (hb hby at_48) rfl ?_
          show Steps p.tables e below (s₁.setTop (mkF m 49 #[.val (.int p0), .val (.int ((p0 &&& (2147483647 : Int32)) % (5 : Int32))), .unset, .unset] [(.int ((p0 &&& (2147483647 : Int32)) % (5 : Int32)))])) _
          refine XS.iconst X0.here hx rfl (hb hby at_49) ?_
          exact h
        by_cases c50_36 : ((p0 &&& (2147483647 : Int32)) % (5 : Int32)) = (3 : Int32)
        · skip
          obtain ⟨T37, X37, e37, st37⟩ := getS2 X0 hx hZ hown (host := "") (Or.inl (hw _ (List.mem_of_getElem? (i := 15) rfl))) Via.refl e0 S_Agreement_CONNECTION_REQUIRED (g := (mkF m 53 #[.val (.int p0), .val (.int ((p0 &&& (2147483647 : Int32)) % (5 : Int32))), .unset, .unset] [])) rfl (hb hby at_53)
          obtain ⟨cq38, kq38, q38a, q38b, q38c⟩ := isOf hZ e37 E_Agreement_CONNECTION_REQUIRED
          obtain ⟨_, _, ⟨T38, L38, k38, n38⟩, -, X38, ⟨Lc38, hQ38, l38, y38, z38⟩, st38⟩ := X37.virtualBack hx (y := (⟨"com/example/woodrat/woodrat/tls/Agreement", "handshakes", "()Z"⟩ : MethodName)) (z := (⟨"com/example/woodrat/woodrat/tls/Agreement", "handshakes", "()Z"⟩ : MethodName)) hown (mvT hZ (hw _ (List.mem_of_getElem? (i := 4) rfl))) (mvT hZ (hw _ (List.mem_of_getElem? (i := 5) rfl))) (notFace_of_selects (args := #[]) (mvT hZ (hw _ (List.mem_of_getElem? (i := 7) rfl)))) (mvT hZ (hw _ (List.mem_of_getElem? (i := 7) rfl))) (mvT hZ (hw _ (List.mem_of_getElem? (i := 6) rfl))) (by decide) (backOf (W := 0) (rm1 l Z a0 hw [] st_Agreement_CONNECTION_REQUIRED st_Agreement_LOGIN_ONLY st_Agreement_CONNECTION st_Agreement_CONNECTION_REQUIRED h0 n0 Z0 S_Agreement_LOGIN_ONLY S_Agreement_CONNECTION S_Agreement_CONNECTION_REQUIRED) hZ (hw _ (List.mem_of_getElem? (i := 8) rfl)) (hw _ (List.mem_of_getElem? (i := 2) rfl)) (by decide) (by decide)) q38a q38c (g := (mkF m 69 #[.val (.int p0), .val (.int ((p0 &&& (2147483647 : Int32)) % (5 : Int32))), .val (.ref st_Agreement_CONNECTION_REQUIRED), .val (.int (1 : Int32))] [(.ref st_Agreement_CONNECTION_REQUIRED)])) rfl (by rw [hml]; rfl) (Steps.refl _) (argsL := []) (rest := []) (lenOf own_pd_0 rfl) rfl (by show 2 * 0 + _ ≤ _; exact Nat.le_of_eq rfl) (hb hby at_69) (fun _ _ => ⟨rfl, e37, (by decide : 0 + 0 ≤ _), (by decide : 0 + 0 ≤ _)⟩)
          dsimp only [Pt.U, Pt.locs, Pt.cells, Pt.slots] at X38 l38 y38 z38 st38 hQ38
          subst l38 y38 z38
          obtain ⟨rfl, Nq38, eq38⟩ := hQ38
          have N38 := Fr.app N0 Nq38
          have k39 : ∀ t, Steps p.tables e below (T38.setTop (mkF m 73 #[.val (.int p0), .val (.int ((p0 &&& (2147483647 : Int32)) % (5 : Int32))), .val (.ref st_Agreement_CONNECTION_REQUIRED), .val (.int (1 : Int32))] [(.int (1 : Int32)), (.int (own_hs st_Agreement_CONNECTION_REQUIRED st_Agreement_LOGIN_ONLY st_Agreement_CONNECTION st_Agreement_CONNECTION_REQUIRED))])) t → Steps p.tables e below (s₁.setTop (mkF m 0 #[.val (.int p0), .unset, .unset, .unset] [])) t := by
            intro t h
            refine k35 t ?_
            show Steps p.tables e below (s₁.setTop (mkF m 50 #[.val (.int p0), .val (.int ((p0 &&& (2147483647 : Int32)) % (5 : Int32))), .unset, .unset] [(.int (3 : Int32)), (.int ((p0 &&& (2147483647 : Int32)) % (5 : Int32)))])) _
            refine XS.icmpNo X0.here hx rfl (hb hby at_50) rfl (teq c50_36).2 ?_
            show Steps p.tables e below (s₁.setTop (mkF m 53 #[.val (.int p0), .val (.int ((p0 &&& (2147483647 : Int32)) % (5 : Int32))), .unset, .unset] [])) _
            refine st37 _ ?_
            show Steps p.tables e below (T37.setTop (mkF m 56 #[.val (.int p0), .val (.int ((p0 &&& (2147483647 : Int32)) % (5 : Int32))), .unset, .unset] [(.ref st_Agreement_CONNECTION_REQUIRED)])) _
            refine XS.astoreN X37.here hx rfl (hb hby at_56) rfl rfl (l' := #[.val (.int p0), .val (.int ((p0 &&& (2147483647 : Int32)) % (5 : Int32))), .val (.ref st_Agreement_CONNECTION_REQUIRED), .unset]) rfl ?_
            show Steps p.tables e below (T37.setTop (mkF m 57 #[.val (.int p0), .val (.int ((p0 &&& (2147483647 : Int32)) % (5 : Int32))), .val (.ref st_Agreement_CONNECTION_REQUIRED), .unset] [])) _
            refine XS.iconst X37.here hx rfl (hb hby at_57) ?_
            show Steps p.tables e below (T37.setTop (mkF m 58 #[.val (.int p0), .val (.int ((p0 &&& (2147483647 : Int32)) % (5 : Int32))), .val (.ref st_Agreement_CONNECTION_REQUIRED), .unset] [(.int (1 : Int32))])) _
            refine XS.istoreN X37.here hx rfl (hb hby at_58) rfl (l' := #[.val (.int p0), .val (.int ((p0 &&& (2147483647 : Int32)) % (5 : Int32))), .val (.ref st_Agreement_CONNECTION_REQUIRED), .val (.int (1 : Int32))]) rfl ?_
            show Steps p.tables e below (T37.setTop (mkF m 59 #[.val (.int p0), .val (.int ((p0 &&& (2147483647 : Int32)) % (5 : Int32))), .val (.ref st_Agreement_CONNECTION_REQUIRED), .val (.int (1 : Int32))] [])) _
            refine XS.goto X37.here hx rfl (pc0 := 59) (pc' := 68) rfl (hb hby at_59) (by decide) (by decide) ?_
            show Steps p.tables e below (T37.setTop (mkF m 68 #[.val (.int p0), .val (.int ((p0 &&& (2147483647 : Int32)) % (5 : Int32))), .val (.ref st_Agreement_CONNECTION_REQUIRED), .val (.int (1 : Int32))] [])) _
            refine XS.aloadN X37.here hx rfl (hb hby at_68) rfl rfl ?_
            show Steps p.tables e below (T37.setTop (mkF m 69 #[.val (.int p0), .val (.int ((p0 &&& (2147483647 : Int32)) % (5 : Int32))), .val (.ref st_Agreement_CONNECTION_REQUIRED), .val (.int (1 : Int32))] [(.ref st_Agreement_CONNECTION_REQUIRED)])) _
            refine st38.trans ?_
            show Steps p.tables e below (T38.setTop (mkF m 72 #[.val (.int p0), .val (.int ((p0 &&& (2147483647 : Int32)) % (5 : Int32))), .val (.ref st_Agreement_CONNECTION_REQUIRED), .val (.int (1 : Int32))] [(.int (own_hs st_Agreement_CONNECTION_REQUIRED st_Agreement_LOGIN_ONLY st_Agreement_CONNECTION st_Agreement_CONNECTION_REQUIRED))])) _
            refine XS.iloadN X38.here hx rfl (hb hby at_72) rfl ?_
            exact h
          have b73_40 : (own_hs st_Agreement_CONNECTION_REQUIRED st_Agreement_LOGIN_ONLY st_Agreement_CONNECTION st_Agreement_CONNECTION_REQUIRED) = (1 : Int32) := by rw [own_hs, if_neg (Fld.ne F_Agreement_CONNECTION_REQUIRED_ordinal F_Agreement_LOGIN_ONLY_ordinal (own_ni (by decide))), if_neg (Fld.ne F_Agreement_CONNECTION_REQUIRED_ordinal F_Agreement_CONNECTION_ordinal (own_ni (by decide))), if_pos rfl]
          have k41 : ∀ t, Steps p.tables e below (T38.setTop (mkF m 81 #[.val (.int p0), .val (.int ((p0 &&& (2147483647 : Int32)) % (5 : Int32))), .val (.ref st_Agreement_CONNECTION_REQUIRED), .val (.int (1 : Int32))] [(.int (1 : Int32))])) t → Steps p.tables e below (s₁.setTop (mkF m 0 #[.val (.int p0), .unset, .unset, .unset] [])) t := by
            intro t h
            refine k39 t ?_
            show Steps p.tables e below (T38.setTop (mkF m 73 #[.val (.int p0), .val (.int ((p0 &&& (2147483647 : Int32)) % (5 : Int32))), .val (.ref st_Agreement_CONNECTION_REQUIRED), .val (.int (1 : Int32))] [(.int (1 : Int32)), (.int (own_hs st_Agreement_CONNECTION_REQUIRED st_Agreement_LOGIN_ONLY st_Agreement_CONNECTION st_Agreement_CONNECTION_REQUIRED))])) _
            refine XS.icmpNo X38.here hx rfl (hb hby at_73) rfl (teq b73_40).2 ?_
            show Steps p.tables e below (T38.setTop (mkF m 76 #[.val (.int p0), .val (.int ((p0 &&& (2147483647 : Int32)) % (5 : Int32))), .val (.ref st_Agreement_CONNECTION_REQUIRED), .val (.int (1 : Int32))] [])) _
            refine XS.iconst X38.here hx rfl (hb hby at_76) ?_
            show Steps p.tables e below (T38.setTop (mkF m 77 #[.val (.int p0), .val (.int ((p0 &&& (2147483647 : Int32)) % (5 : Int32))), .val (.ref st_Agreement_CONNECTION_REQUIRED), .val (.int (1 : Int32))] [(.int (1 : Int32))])) _
            refine XS.goto X38.here hx rfl (pc0 := 77) (pc' := 81) rfl (hb hby at_77) (by decide) (by decide) ?_
            exact h
          obtain ⟨fs, hr, hrun, hended, hW, hsame⟩ := X38.leave (v := some (.int (1 : Int32))) (fun h => by rw [Bd.returns] at h; cases h)
          refine ⟨_, _, pre0 _ (k41 _ ?_), hrun, hended, _, _, rfl, ?_, ⟨_, rfl⟩, hW, hsame.mono (by decide) (by decide)⟩
          · exact retN X38 hx (t := .boolean) Bd.returns (by simp) (hb hby at_81) hr
          · show Q_rm0 Z _ _ _ _ _ _ h0 n0 _ T38.heap _
            rw [eq38]
            exact ⟨rfl, N38⟩
        · skip
          obtain ⟨T42, X42, e42, st42⟩ := getS2 X0 hx hZ hown (host := "") (Or.inl (hw _ (List.mem_of_getElem? (i := 17) rfl))) Via.refl e0 S_Agreement_REFUSED (g := (mkF m 62 #[.val (.int p0), .val (.int ((p0 &&& (2147483647 : Int32)) % (5 : Int32))), .unset, .unset] [])) rfl (hb hby at_62)
          obtain ⟨cq43, kq43, q43a, q43b, q43c⟩ := isOf hZ e42 E_Agreement_REFUSED
          obtain ⟨_, _, ⟨T43, L43, k43, n43⟩, -, X43, ⟨Lc43, hQ43, l43, y43, z43⟩, st43⟩ := X42.virtualBack hx (y := (⟨"com/example/woodrat/woodrat/tls/Agreement", "handshakes", "()Z"⟩ : MethodName)) (z := (⟨"com/example/woodrat/woodrat/tls/Agreement", "handshakes", "()Z"⟩ : MethodName)) hown (mvT hZ (hw _ (List.mem_of_getElem? (i := 4) rfl))) (mvT hZ (hw _ (List.mem_of_getElem? (i := 5) rfl))) (notFace_of_selects (args := #[]) (mvT hZ (hw _ (List.mem_of_getElem? (i := 7) rfl)))) (mvT hZ (hw _ (List.mem_of_getElem? (i := 7) rfl))) (mvT hZ (hw _ (List.mem_of_getElem? (i := 6) rfl))) (by decide) (backOf (W := 0) (rm1 l Z a0 hw [] st_Agreement_REFUSED st_Agreement_LOGIN_ONLY st_Agreement_CONNECTION st_Agreement_CONNECTION_REQUIRED h0 n0 Z0 S_Agreement_LOGIN_ONLY S_Agreement_CONNECTION S_Agreement_CONNECTION_REQUIRED) hZ (hw _ (List.mem_of_getElem? (i := 8) rfl)) (hw _ (List.mem_of_getElem? (i := 2) rfl)) (by decide) (by decide)) q43a q43c (g := (mkF m 69 #[.val (.int p0), .val (.int ((p0 &&& (2147483647 : Int32)) % (5 : Int32))), .val (.ref st_Agreement_REFUSED), .val (.int (0 : Int32))] [(.ref st_Agreement_REFUSED)])) rfl (by rw [hml]; rfl) (Steps.refl _) (argsL := []) (rest := []) (lenOf own_pd_0 rfl) rfl (by show 2 * 0 + _ ≤ _; exact Nat.le_of_eq rfl) (hb hby at_69) (fun _ _ => ⟨rfl, e42, (by decide : 0 + 0 ≤ _), (by decide : 0 + 0 ≤ _)⟩)
          dsimp only [Pt.U, Pt.locs, Pt.cells, Pt.slots] at X43 l43 y43 z43 st43 hQ43
          subst l43 y43 z43
          obtain ⟨rfl, Nq43, eq43⟩ := hQ43
          have N43 := Fr.app N0 Nq43
          have k44 : ∀ t, Steps p.tables e below (T43.setTop (mkF m 73 #[.val (.int p0), .val (.int ((p0 &&& (2147483647 : Int32)) % (5 : Int32))), .val (.ref st_Agreement_REFUSED), .val (.int (0 : Int32))] [(.int (0 : Int32)), (.int (own_hs st_Agreement_REFUSED st_Agreement_LOGIN_ONLY st_Agreement_CONNECTION st_Agreement_CONNECTION_REQUIRED))])) t → Steps p.tables e below (s₁.setTop (mkF m 0 #[.val (.int p0), .unset, .unset, .unset] [])) t := by
            intro t h
            refine k35 t ?_
            show Steps p.tables e below (s₁.setTop (mkF m 50 #[.val (.int p0), .val (.int ((p0 &&& (2147483647 : Int32)) % (5 : Int32))), .unset, .unset] [(.int (3 : Int32)), (.int ((p0 &&& (2147483647 : Int32)) % (5 : Int32)))])) _
            refine XS.icmpYes X0.here hx rfl (pc0 := 50) (pc' := 62) rfl (hb hby at_50) rfl (feq c50_36).2 (by decide) (by decide) ?_
            show Steps p.tables e below (s₁.setTop (mkF m 62 #[.val (.int p0), .val (.int ((p0 &&& (2147483647 : Int32)) % (5 : Int32))), .unset, .unset] [])) _
            refine st42 _ ?_
            show Steps p.tables e below (T42.setTop (mkF m 65 #[.val (.int p0), .val (.int ((p0 &&& (2147483647 : Int32)) % (5 : Int32))), .unset, .unset] [(.ref st_Agreement_REFUSED)])) _
            refine XS.astoreN X42.here hx rfl (hb hby at_65) rfl rfl (l' := #[.val (.int p0), .val (.int ((p0 &&& (2147483647 : Int32)) % (5 : Int32))), .val (.ref st_Agreement_REFUSED), .unset]) rfl ?_
            show Steps p.tables e below (T42.setTop (mkF m 66 #[.val (.int p0), .val (.int ((p0 &&& (2147483647 : Int32)) % (5 : Int32))), .val (.ref st_Agreement_REFUSED), .unset] [])) _
            refine XS.iconst X42.here hx rfl (hb hby at_66) ?_
            show Steps p.tables e below (T42.setTop (mkF m 67 #[.val (.int p0), .val (.int ((p0 &&& (2147483647 : Int32)) % (5 : Int32))), .val (.ref st_Agreement_REFUSED), .unset] [(.int (0 : Int32))])) _
            refine XS.istoreN X42.here hx rfl (hb hby at_67) rfl (l' := #[.val (.int p0), .val (.int ((p0 &&& (2147483647 : Int32)) % (5 : Int32))), .val (.ref st_Agreement_REFUSED), .val (.int (0 : Int32))]) rfl ?_
            show Steps p.tables e below (T42.setTop (mkF m 68 #[.val (.int p0), .val (.int ((p0 &&& (2147483647 : Int32)) % (5 : Int32))), .val (.ref st_Agreement_REFUSED), .val (.int (0 : Int32))] [])) _
            refine XS.aloadN X42.here hx rfl (hb hby at_68) rfl rfl ?_
            show Steps p.tables e below (T42.setTop (mkF m 69 #[.val (.int p0), .val (.int ((p0 &&& (2147483647 : Int32)) % (5 : Int32))), .val (.ref st_Agreement_REFUSED), .val (.int (0 : Int32))] [(.ref st_Agreement_REFUSED)])) _
            refine st43.trans ?_
            show Steps p.tables e below (T43.setTop (mkF m 72 #[.val (.int p0), .val (.int ((p0 &&& (2147483647 : Int32)) % (5 : Int32))), .val (.ref st_Agreement_REFUSED), .val (.int (0 : Int32))] [(.int (own_hs st_Agreement_REFUSED st_Agreement_LOGIN_ONLY st_Agreement_CONNECTION st_Agreement_CONNECTION_REQUIRED))])) _
            refine XS.iloadN X43.here hx rfl (hb hby at_72) rfl ?_
            exact h
          have b73_45 : (own_hs st_Agreement_REFUSED st_Agreement_LOGIN_ONLY st_Agreement_CONNECTION st_Agreement_CONNECTION_REQUIRED) = (0 : Int32) := by rw [own_hs, if_neg (Fld.ne F_Agreement_REFUSED_ordinal F_Agreement_LOGIN_ONLY_ordinal (own_ni (by decide))), if_neg (Fld.ne F_Agreement_REFUSED_ordinal F_Agreement_CONNECTION_ordinal (own_ni (by decide))), if_neg (Fld.ne F_Agreement_REFUSED_ordinal F_Agreement_CONNECTION_REQUIRED_ordinal (own_ni (by decide)))]
          have k46 : ∀ t, Steps p.tables e below (T43.setTop (mkF m 81 #[.val (.int p0), .val (.int ((p0 &&& (2147483647 : Int32)) % (5 : Int32))), .val (.ref st_Agreement_REFUSED), .val (.int (0 : Int32))] [(.int (1 : Int32))])) t → Steps p.tables e below (s₁.setTop (mkF m 0 #[.val (.int p0), .unset, .unset, .unset] [])) t := by
            intro t h
            refine k44 t ?_
            show Steps p.tables e below (T43.setTop (mkF m 73 #[.val (.int p0), .val (.int ((p0 &&& (2147483647 : Int32)) % (5 : Int32))), .val (.ref st_Agreement_REFUSED), .val (.int (0 : Int32))] [(.int (0 : Int32)), (.int (own_hs st_Agreement_REFUSED st_Agreement_LOGIN_ONLY st_Agreement_CONNECTION st_Agreement_CONNECTION_REQUIRED))])) _
            refine XS.icmpNo X43.here hx rfl (hb hby at_73) rfl (teq b73_45).2 ?_
            show Steps p.tables e below (T43.setTop (mkF m 76 #[.val (.int p0), .val (.int ((p0 &&& (2147483647 : Int32)) % (5 : Int32))), .val (.ref st_Agreement_REFUSED), .val (.int (0 : Int32))] [])) _
            refine XS.iconst X43.here hx rfl (hb hby at_76) ?_
            show Steps p.tables e below (T43.setTop (mkF m 77 #[.val (.int p0), .val (.int ((p0 &&& (2147483647 : Int32)) % (5 : Int32))), .val (.ref st_Agreement_REFUSED), .val (.int (0 : Int32))] [(.int (1 : Int32))])) _
            refine XS.goto X43.here hx rfl (pc0 := 77) (pc' := 81) rfl (hb hby at_77) (by decide) (by decide) ?_
            exact h
          obtain ⟨fs, hr, hrun, hended, hW, hsame⟩ := X43.leave (v := some (.int (1 : Int32))) (fun h => by rw [Bd.returns] at h; cases h)
          refine ⟨_, _, pre0 _ (k46 _ ?_), hrun, hended, _, _, rfl, ?_, ⟨_, rfl⟩, hW, hsame.mono (by decide) (by decide)⟩
          · exact retN X43 hx (t := .boolean) Bd.returns (by simp) (hb hby at_81) hr
          · show Q_rm0 Z _ _ _ _ _ _ h0 n0 _ T43.heap _
            rw [eq43]
            exact ⟨rfl, N43⟩
set_option maxRecDepth 65536 in
set_option maxHeartbeats 40000000 in
theorem comes_1 {Post : Tables → Env → Array Value → State → Outcome → State → Prop} (hpost : ∀ tb e args s v u, (limb_1_1.after args s (.returned v) u = true ∧ limb_1_2.after args s (.returned v) u = true ∧ True) → FrameEnd s (.returned v) u (Jvm.fieldLocs frame_1_writes args s ++ Jvm.arrayLocs frame_1_arrays args s ++ Jvm.staticLocs frame_1_statics s) 0 0 → Post tb e args s (.returned v) u) :
    ArmFor flags0 classFile x code maxLocals ret World_1 tables_1 room_1 Calls_1 rest_1 Pre_1 Post := by
  intro l hfl _ _ p e ha hc hk s m args below hf hA hF happ hP
  obtain ⟨hcalls, hrest, hpre⟩ := hP
  obtain ⟨-, -, -, hnamed, -, -, -, hat⟩ := (Spec.applies_iff hf).mp happ
  obtain ⟨hg, hn⟩ := and_e (Cond.before_iff.mp (show (Jvm.Cond.and given_1 narrow_1).before args s = true from hpre))
  obtain ⟨g1, g2⟩ := and_e hg
  obtain ⟨w0, rfl⟩ : ∃ w0 : Value, args = #[w0] := by
    have hs : args.size = 1 := by simpa [Cond.value, given_1] using g1
    obtain ⟨L⟩ := args
    match L, hs with
    | [w0], _ => exact ⟨w0, rfl⟩
  have hw := fun d (hd : d ∈ tables_1) => atoms_spec (ws := Jvm.Cond.code x code maxLocals ret :: tables_1) hat d (List.mem_cons_of_mem _ hd)
  have hfit : Fit s := fun {y c} hc i hi => by
    obtain ⟨ha, rfl⟩ := Array.getElem?_eq_some_iff.mp hc
    have q := List.all_eq_true.mp ((Array.all_eq_true_iff_forall_mem.mp hF) _ (Array.getElem_mem ha)) i (List.mem_range.mpr hi)
    simpa [Array.getElem?_eq_getElem hi] using q
  obtain ⟨i0, ei0⟩ := is_v g2
  obtain rfl : w0 = (.int i0) := Option.some.inj ei0
  obtain ⟨hn0, ht0⟩ := and_e hn
  obtain ⟨hn1, ht1⟩ := and_e ht0
  obtain ⟨hn2, ht2⟩ := and_e ht1
  obtain ⟨hn3, ht3⟩ := and_e ht2
  obtain ⟨hn4, ht4⟩ := and_e ht3
  obtain ⟨hn5, ht5⟩ := and_e ht4
  obtain ⟨hn6, ht6⟩ := and_e ht5
  obtain ⟨hn7, ht7⟩ := and_e ht6
  obtain ⟨hn8, ht8⟩ := and_e ht7
  have hn9 := ht8
  obtain ⟨st_Agreement_NONE, ev_Agreement_NONE⟩ := exa_v hn0
  have E_Agreement_NONE := Exa.start ev_Agreement_NONE hn0
  have S_Agreement_NONE := Sta.start ev_Agreement_NONE (Or.inr ⟨(hw _ (List.mem_of_getElem? (i := 2) rfl)), (hw _ (List.mem_of_getElem? (i := 3) rfl))⟩)
  obtain ⟨st_Agreement_LOGIN_ONLY, ev_Agreement_LOGIN_ONLY⟩ := exa_v hn1
  have E_Agreement_LOGIN_ONLY := Exa.start ev_Agreement_LOGIN_ONLY hn1
  have S_Agreement_LOGIN_ONLY := Sta.start ev_Agreement_LOGIN_ONLY (Or.inr ⟨(hw _ (List.mem_of_getElem? (i := 2) rfl)), (hw _ (List.mem_of_getElem? (i := 10) rfl))⟩)
  obtain ⟨st_Agreement_CONNECTION, ev_Agreement_CONNECTION⟩ := exa_v hn4
  have E_Agreement_CONNECTION := Exa.start ev_Agreement_CONNECTION hn4
  have S_Agreement_CONNECTION := Sta.start ev_Agreement_CONNECTION (Or.inr ⟨(hw _ (List.mem_of_getElem? (i := 2) rfl)), (hw _ (List.mem_of_getElem? (i := 12) rfl))⟩)
  obtain ⟨st_Agreement_CONNECTION_REQUIRED, ev_Agreement_CONNECTION_REQUIRED⟩ := exa_v hn6
  have E_Agreement_CONNECTION_REQUIRED := Exa.start ev_Agreement_CONNECTION_REQUIRED hn6
  have S_Agreement_CONNECTION_REQUIRED := Sta.start ev_Agreement_CONNECTION_REQUIRED (Or.inr ⟨(hw _ (List.mem_of_getElem? (i := 2) rfl)), (hw _ (List.mem_of_getElem? (i := 14) rfl))⟩)
  obtain ⟨st_Agreement_REFUSED, ev_Agreement_REFUSED⟩ := exa_v hn8
  have E_Agreement_REFUSED := Exa.start ev_Agreement_REFUSED hn8
  have S_Agreement_REFUSED := Sta.start ev_Agreement_REFUSED (Or.inr ⟨(hw _ (List.mem_of_getElem? (i := 2) rfl)), (hw _ (List.mem_of_getElem? (i := 18) rfl))⟩)
  have F_Agreement_NONE_ordinal := Fld.start (own_fld_int ev_Agreement_NONE hn2)
  have F_Agreement_LOGIN_ONLY_ordinal := Fld.start (own_fld_int ev_Agreement_LOGIN_ONLY hn3)
  have F_Agreement_CONNECTION_ordinal := Fld.start (own_fld_int ev_Agreement_CONNECTION hn5)
  have F_Agreement_CONNECTION_REQUIRED_ordinal := Fld.start (own_fld_int ev_Agreement_CONNECTION_REQUIRED hn7)
  have F_Agreement_REFUSED_ordinal := Fld.start (own_fld_int ev_Agreement_REFUSED hn9)
  obtain ⟨n, o, h1, h2, h3, _, L, rfl, ⟨rfl, N⟩, hq⟩ := rm0 l s _ hw tables_1 i0 st_Agreement_NONE st_Agreement_LOGIN_ONLY st_Agreement_CONNECTION st_Agreement_CONNECTION_REQUIRED st_Agreement_REFUSED s.heap s.heap.size (Nat.le_refl _) S_Agreement_NONE E_Agreement_NONE S_Agreement_LOGIN_ONLY E_Agreement_LOGIN_ONLY S_Agreement_CONNECTION E_Agreement_CONNECTION S_Agreement_CONNECTION_REQUIRED E_Agreement_CONNECTION_REQUIRED S_Agreement_REFUSED E_Agreement_REFUSED F_Agreement_NONE_ordinal F_Agreement_LOGIN_ONLY_ordinal F_Agreement_CONNECTION_ordinal F_Agreement_CONNECTION_REQUIRED_ordinal F_Agreement_REFUSED_ordinal p e ha hc hk s m _ below hf ((Spec.applies_iff_loose hf).mp happ).1 ⟨rfl, State.Warmed39.refl s, rfl⟩ trivial
  refine ⟨n, _, h1, h2, h3, hpost _ _ _ _ _ _ ⟨Cond.after_iff.mpr rfl, Cond.after_iff.mpr (eq_i res_at (Term.int_eval (1)) rfl), trivial⟩ ⟨hq.1, hq.2.1, (hq.2.2.sift fun y hy => Or.inr (N y hy)).mono (by decide) (by decide)⟩⟩
theorem main_1_1 : Claimed_1_1 := comes_1 fun _ _ _ _ _ _ h hF => ⟨h.1, hF⟩
theorem main_1_2 : Claimed_1_2 := comes_1 fun _ _ _ _ _ _ h hF => ⟨h.2.1, hF⟩
end Jvm.Pilot.@@N@@
namespace Jvm.Pilot.@@N@@
open Jvm Jvm.ClassFile Sem Op Lib Jvm.Free Jvm.Stand Jvm.Pilot.@@N@@.Jvm.D
/-! MADE BY PROGRAM (witnessworld.py) out of the Statement's table words and the real class files: 12 classes; the members and pool entries that the words name. The judged class is class 1, her method 1. -/
namespace start1
open Jvm.ClassFile
def u (s : String) : CpInfo := .utf8 (stringToUtf16 s)
/-- a pool by its gaps: so many unusable entries, then the entry; so many at the end -/
def gap : Nat → List CpInfo → List CpInfo
  | 0, r => r
  | n + 1, r => .unusable :: gap n r
def poolList (es : List (Nat × CpInfo)) (last : Nat) : List CpInfo := es.foldr (fun e r => gap e.1 (e.2 :: r)) (gap last [])
def pool (es : List (Nat × CpInfo)) (last : Nat) : Array CpInfo := ⟨poolList es last⟩
def fileOf (pool : Array CpInfo) (this : Nat) (attrs : Array Attribute := #[]) (ms : Array MethodInfo := #[]) (fl : Nat := 33) (sup : Nat := 0) (ifs : Array Nat := #[]) (fds : Array FieldInfo := #[]) : ClassFile where
  minorVersion := 0
  majorVersion := 65
  constantPool := pool
  accessFlags := fl
  thisClass := this
  superClass := sup
  interfaces := ifs
  fields := fds
  methods := ms
  attributes := attrs
def plain (name : String) (sup : Option ClassId) : Class where
  name := name
  kind := .ordinary
  loader := none
  accessFlags := 33
  super := sup
  interfaces := #[]
  cf := none
  fields := #[]
  methods := #[]
  instanceTypes := #[]
  staticTypes := #[]
  resolved := #[]
  callSites := []
  init := .initialized
  statics := none
  mirror := none

def pool0 : Array CpInfo := pool [(5, u "<init>"), (0, u "()V"), (1, .class_ 10), (1, u "java/lang/Object")] 113

def k0m0 : Method := { name := "<init>", desc := "()V", sig := { parameters := [], returnType := none }, accessFlags := 1, code := none }
/-- java/lang/Object -/
def k0 : Class := { plain "java/lang/Object" none with
  accessFlags := 33
  interfaces := #[]
  cf := some (fileOf pool0 8 #[] #[{ accessFlags := 1, nameIndex := 5, descriptorIndex := 6, attributes := #[] }] 33 0 #[] #[])
  fields := #[]
  methods := #[k0m0]
  instanceTypes := #[]
  staticTypes := #[]
  resolved := Array.replicate 124 none
  statics := none }

def pool1 : Array CpInfo := pool [(2, .class_ 4), (1, u "java/lang/Object"), (0, u "<init>"), (0, u "()V"), (0, .integer 2147483647), (0, .fieldref 9 10), (0, .class_ 11), (0, .nameAndType 12 13), (0, u "com/example/woodrat/woodrat/tls/Agreement"), (0, u "NONE"), (0, u "Lcom/example/woodrat/woodrat/tls/Agreement;"), (0, .fieldref 9 15), (0, .nameAndType 16 13), (0, u "LOGIN_ONLY"), (0, .fieldref 9 18), (0, .nameAndType 19 13), (0, u "CONNECTION"), (0, .fieldref 9 21), (0, .nameAndType 22 13), (0, u "CONNECTION_REQUIRED"), (0, .fieldref 9 24), (0, .nameAndType 25 13), (0, u "REFUSED"), (0, .methodref 9 27), (0, .nameAndType 28 29), (0, u "handshakes"), (0, u "()Z"), (0, .class_ 31), (0, u "com/example/woodrat/woodrat/tls/AgreementHandshakesPinLaw"), (2, u "law"), (0, u "(I)Z")] 3

def k1m0 : Method := { name := "<init>", desc := "()V", sig := { parameters := [], returnType := none }, accessFlags := 1, code := none }
def k1c1 : Code := { maxStack := 2, maxLocals := 4, code := code, exceptionTable := #[], attributes := #[] }
def k1m1 : Method := { name := "law", desc := "(I)Z", sig := { parameters := [.int], returnType := some .boolean }, accessFlags := 9, code := some k1c1 }
/-- com/example/woodrat/woodrat/tls/AgreementHandshakesPinLaw -/
def k1 : Class := { plain "com/example/woodrat/woodrat/tls/AgreementHandshakesPinLaw" (some 0) with
  accessFlags := 49
  interfaces := #[]
  cf := some (fileOf pool1 30 #[] #[{ accessFlags := 1, nameIndex := 5, descriptorIndex := 6, attributes := #[] }, { accessFlags := 9, nameIndex := 34, descriptorIndex := 35, attributes := #[] }] 49 2 #[] #[])
  fields := #[]
  methods := #[k1m0, k1m1]
  instanceTypes := #[]
  staticTypes := #[]
  resolved := Array.replicate 39 none
  statics := none }

def pool2 : Array CpInfo := pool [(1, .class_ 2), (0, u "java/lang/constant/Constable"), (0, .class_ 4), (0, u "java/lang/Object")] 6

/-- java/lang/constant/Constable -/
def k2 : Class := { plain "java/lang/constant/Constable" (some 0) with
  accessFlags := 1537
  interfaces := #[]
  cf := some (fileOf pool2 1 #[] #[] 1537 3 #[] #[])
  fields := #[]
  methods := #[]
  instanceTypes := #[]
  staticTypes := #[]
  resolved := Array.replicate 11 none
  statics := none }

def pool3 : Array CpInfo := pool [(1, .class_ 2), (0, u "java/lang/Comparable"), (0, .class_ 4), (0, u "java/lang/Object")] 7

/-- java/lang/Comparable -/
def k3 : Class := { plain "java/lang/Comparable" (some 0) with
  accessFlags := 1537
  interfaces := #[]
  cf := some (fileOf pool3 1 #[] #[] 1537 3 #[] #[])
  fields := #[]
  methods := #[]
  instanceTypes := #[]
  staticTypes := #[]
  resolved := Array.replicate 12 none
  statics := none }

def pool4 : Array CpInfo := pool [(1, .class_ 2), (0, u "java/io/Serializable"), (0, .class_ 4), (0, u "java/lang/Object")] 2

/-- java/io/Serializable -/
def k4 : Class := { plain "java/io/Serializable" (some 0) with
  accessFlags := 1537
  interfaces := #[]
  cf := some (fileOf pool4 1 #[] #[] 1537 3 #[] #[])
  fields := #[]
  methods := #[]
  instanceTypes := #[]
  staticTypes := #[]
  resolved := Array.replicate 7 none
  statics := none }

def pool5 : Array CpInfo := pool [(2, .class_ 4), (1, u "java/lang/Enum"), (0, u "name"), (0, u "Ljava/lang/String;"), (2, u "ordinal"), (0, u "I"), (1, .class_ 14), (1, u "java/lang/Object"), (4, u "hash"), (86, .class_ 108), (1, u "java/lang/Enum$EnumDesc"), (2, .class_ 112), (0, u "java/lang/constant/Constable"), (0, .class_ 114), (0, u "java/lang/Comparable"), (0, .class_ 116), (0, u "java/io/Serializable")] 87

/-- java/lang/Enum -/
def k5 : Class := { plain "java/lang/Enum" (some 0) with
  accessFlags := 1057
  interfaces := #[2, 3, 4]
  cf := some (fileOf pool5 2 #[.nestMembers #[106]] #[] 1057 12 #[111, 113, 115] #[{ accessFlags := 18, nameIndex := 5, descriptorIndex := 6, attributes := #[] }, { accessFlags := 18, nameIndex := 9, descriptorIndex := 10, attributes := #[] }, { accessFlags := 2, nameIndex := 19, descriptorIndex := 10, attributes := #[] }])
  fields := #[{ name := "name", type := (.object "java/lang/String"), accessFlags := 18, slot := 0, constantValue := 0 }, { name := "ordinal", type := .int, accessFlags := 18, slot := 1, constantValue := 0 }, { name := "hash", type := .int, accessFlags := 2, slot := 2, constantValue := 0 }]
  methods := #[]
  instanceTypes := #[(.object "java/lang/String"), .int, .int]
  staticTypes := #[]
  resolved := Array.replicate 204 none
  statics := none }

def pool6 : Array CpInfo := pool [(1, .class_ 2), (0, u "com/example/woodrat/woodrat/tls/Agreement"), (2, u "NONE"), (0, u "Lcom/example/woodrat/woodrat/tls/Agreement;"), (0, .fieldref 1 8), (0, .nameAndType 9 6), (0, u "LOGIN_ONLY"), (0, .fieldref 1 11), (0, .nameAndType 12 6), (0, u "CONNECTION"), (0, .fieldref 1 14), (0, .nameAndType 15 6), (0, u "CONNECTION_REQUIRED"), (2, u "REFUSED"), (2, u "$VALUES"), (0, u "[Lcom/example/woodrat/woodrat/tls/Agreement;"), (6, .class_ 31), (1, u "java/lang/Enum"), (8, u "answer"), (0, u "I"), (22, u "handshakes"), (0, u "()Z")] 6

def k6c0 : Code := { maxStack := 2, maxLocals := 1, code := prog_57_method_5_code, exceptionTable := #[], attributes := #[] }
def k6m0 : Method := { name := "handshakes", desc := "()Z", sig := { parameters := [], returnType := some .boolean }, accessFlags := 1, code := some k6c0 }
/-- com/example/woodrat/woodrat/tls/Agreement -/
def k6 : Class := { plain "com/example/woodrat/woodrat/tls/Agreement" (some 5) with
  accessFlags := 16433
  interfaces := #[]
  cf := some (fileOf pool6 1 #[] #[{ accessFlags := 1, nameIndex := 64, descriptorIndex := 65, attributes := #[] }] 16433 29 #[] #[{ accessFlags := 16409, nameIndex := 5, descriptorIndex := 6, attributes := #[] }, { accessFlags := 16409, nameIndex := 9, descriptorIndex := 6, attributes := #[] }, { accessFlags := 16409, nameIndex := 12, descriptorIndex := 6, attributes := #[] }, { accessFlags := 16409, nameIndex := 15, descriptorIndex := 6, attributes := #[] }, { accessFlags := 16409, nameIndex := 18, descriptorIndex := 6, attributes := #[] }, { accessFlags := 18, nameIndex := 40, descriptorIndex := 41, attributes := #[] }, { accessFlags := 4122, nameIndex := 21, descriptorIndex := 22, attributes := #[] }])
  fields := #[{ name := "NONE", type := (.object "com/example/woodrat/woodrat/tls/Agreement"), accessFlags := 16409, slot := 0, constantValue := 0 }, { name := "LOGIN_ONLY", type := (.object "com/example/woodrat/woodrat/tls/Agreement"), accessFlags := 16409, slot := 1, constantValue := 0 }, { name := "CONNECTION", type := (.object "com/example/woodrat/woodrat/tls/Agreement"), accessFlags := 16409, slot := 2, constantValue := 0 }, { name := "CONNECTION_REQUIRED", type := (.object "com/example/woodrat/woodrat/tls/Agreement"), accessFlags := 16409, slot := 3, constantValue := 0 }, { name := "REFUSED", type := (.object "com/example/woodrat/woodrat/tls/Agreement"), accessFlags := 16409, slot := 4, constantValue := 0 }, { name := "answer", type := .int, accessFlags := 18, slot := 3, constantValue := 0 }, { name := "$VALUES", type := (.array (.object "com/example/woodrat/woodrat/tls/Agreement")), accessFlags := 4122, slot := 5, constantValue := 0 }]
  methods := #[k6m0]
  instanceTypes := #[(.object "java/lang/String"), .int, .int, .int]
  staticTypes := #[(.object "com/example/woodrat/woodrat/tls/Agreement"), (.object "com/example/woodrat/woodrat/tls/Agreement"), (.object "com/example/woodrat/woodrat/tls/Agreement"), (.object "com/example/woodrat/woodrat/tls/Agreement"), (.object "com/example/woodrat/woodrat/tls/Agreement"), (.array (.object "com/example/woodrat/woodrat/tls/Agreement"))]
  resolved := Array.replicate 72 none
  statics := some 0 }

def pool7 : Array CpInfo := pool [(1, u "java/lang/Cloneable"), (0, .class_ 1), (0, u "java/lang/Object"), (0, .class_ 3)] 3

/-- java/lang/Cloneable -/
def k7 : Class := { plain "java/lang/Cloneable" (some 0) with
  accessFlags := 1537
  interfaces := #[]
  cf := some (fileOf pool7 2 #[] #[] 1537 4 #[] #[])
  fields := #[]
  methods := #[]
  instanceTypes := #[]
  staticTypes := #[]
  resolved := Array.replicate 8 none
  statics := none }

/-- the primitive byte -/
def k8 : Class := { plain "byte" none with kind := .primitive 'B', accessFlags := 0x411 }
/-- [B -/
def k9 : Class := { plain "[B" (some 0) with kind := .array 8 .byte, interfaces := #[7, 4], accessFlags := 1041 }

/-- the primitive int -/
def k10 : Class := { plain "int" none with kind := .primitive 'I', accessFlags := 0x411 }
/-- [I -/
def k11 : Class := { plain "[I" (some 0) with kind := .array 10 .int, interfaces := #[7, 4], accessFlags := 1041 }

def heap : Heap := #[{ cls := 6, slots := #[.ref 1, .ref 2, .ref 3, .ref 4, .ref 5, .null], vm := .statics 6 },
  { cls := 6, slots := #[.null, .int 0, .int 0, .int 0], vm := .none },
  { cls := 6, slots := #[.null, .int 1, .int 0, .int 0], vm := .none },
  { cls := 6, slots := #[.null, .int 2, .int 0, .int 0], vm := .none },
  { cls := 6, slots := #[.null, .int 3, .int 0, .int 0], vm := .none },
  { cls := 6, slots := #[.null, .int 4, .int 0, .int 0], vm := .none }]
def classes : Array Class := #[k0, k1, k2, k3, k4, k5, k6, k7, k8, k9, k10, k11]
def interned : List (Array UInt16 × Addr) := []
def slotsUsed : Nat := 26
def theMethod : MethodId := ⟨1, 1⟩
def args0 : Array Value := #[.int 5]
def aboutOver (below : List Frame) : State where
  vm := { classes := classes, interned := interned.toArray }
  heap := heap
  slotsUsed := slotsUsed
  threads := #[{ frames := .invoking theMethod args0 :: below }]
def below0 : List Frame := [.native { method := ⟨0, 0⟩, args := #[] }]
def about1 : State := aboutOver below0
def p0 : Program := .bare "" "" ""
def e0 : Env := launch0.env 0 0 0
theorem w_frames : about1.frames = Frame.invoking theMethod args0 :: below0 := rfl
set_option maxRecDepth 65536 in
theorem w_args : argsFit about1.vm theMethod args0 = true := by decide +kernel
set_option maxRecDepth 65536 in
theorem w_heap : heapFits about1 = true := by decide +kernel
set_option maxRecDepth 65536 in
theorem w_runnable : about1.curStatus? = some .runnable := by decide +kernel
set_option maxRecDepth 65536 in
theorem w_alone : about1.alone = true := by decide +kernel
set_option maxRecDepth 65536 in
theorem w_named : about1.methodNamed? x = some theMethod := by decide +kernel
set_option maxRecDepth 65536 in
theorem w_hears : about1.hears theMethod below0 = true := by decide +kernel
set_option maxRecDepth 65536 in
theorem w_ripe : about1.ripe theMethod args0 below0 = true := by decide +kernel
theorem w_running : about1.status = .running := rfl
set_option maxRecDepth 65536 in
theorem w_room : about1.hasRoom e0.platform room_1 = true :=
  launch0.hasRoom_least _ room_1 (by decide +kernel) (by decide +kernel) (by decide +kernel) (by decide +kernel) (by decide +kernel) (by decide +kernel)
theorem allAtoms_all (ts : List Jvm.Cond) (a : Array Jvm.Value) (st : Jvm.State) : (allAtoms ts).before a st = ts.all (fun c => c.before a st) := by
  induction ts with
  | nil => rfl
  | cons c t ih =>
    show (Jvm.Cond.and c (allAtoms t)).before a st = _
    rw [Jvm.Cond.before_and, ih, List.all_cons]
def words1 : List Jvm.Cond := Jvm.Cond.code x code maxLocals ret :: tables_1
/-- a 'code' word, met by the world's own term for the bytes: nothing is compared byte by byte -/
theorem code_word {y : MethodName} {bytes : ByteArray} {mx : Nat} {rt : Option FieldType} {a : Array Value} {s : State} {m : MethodId} {meth : Method} {c : Code} (h1 : s.methodNamed? y = some m) (h2 : s.vm.method? m = some meth) (h3 : meth.code = some c) (h4 : c.code = bytes)
    (h5 : (c.maxLocals == mx && c.exceptionTable.isEmpty && decide (c.maxStack ≤ mostOperands) && decide (meth.sig.returnType = rt) && !meth.locks && decide (parseMethodDescriptor y.desc = some meth.sig)) = true) : (Jvm.Cond.code y bytes mx rt).before a s = true := by
  simp only [Bool.and_eq_true, beq_iff_eq, Bool.not_eq_true', decide_eq_true_eq] at h5
  obtain ⟨⟨⟨⟨⟨g1, g2⟩, g3⟩, g4⟩, g5⟩, g6⟩ := h5
  simp [Cond.before, Cond.holds, Cond.value, h1, h2, h3, h4, g1, g2, g3, g4, g5, g6]
def isCode : Jvm.Cond → Bool
  | .code _ _ _ _ => true
  | _ => false
theorem all_split {L : List Jvm.Cond} {P : Jvm.Cond → Bool} (h1 : L.all (fun c => isCode c || P c) = true) (h2 : ∀ c ∈ L.filter isCode, P c = true) : L.all P = true := by
  refine List.all_eq_true.mpr fun c hc => ?_
  have h := List.all_eq_true.mp h1 c hc
  rcases Bool.eq_false_or_eq_true (isCode c) with hi | hi
  · exact h2 c (List.mem_filter.mpr ⟨hc, hi⟩)
  · simpa [hi] using h
set_option maxRecDepth 65536 in
theorem w_c0 : (Jvm.Cond.code x code maxLocals ret).before args0 about1 = true := code_word (m := ⟨1, 1⟩) (meth := k1m1) (c := k1c1) (by decide +kernel) rfl rfl rfl (by decide +kernel)
set_option maxRecDepth 65536 in
theorem w_c1 : (Jvm.Cond.code ({ cls := "com/example/woodrat/woodrat/tls/Agreement", name := "handshakes", desc := "()Z" } : Jvm.MethodName) prog_57_method_5_code (1 : Nat) (Option.some Jvm.ClassFile.FieldType.boolean)).before args0 about1 = true := code_word (m := ⟨6, 0⟩) (meth := k6m0) (c := k6c0) (by decide +kernel) rfl rfl rfl (by decide +kernel)
def codes1 : List Jvm.Cond := [Jvm.Cond.code x code maxLocals ret, Jvm.Cond.code ({ cls := "com/example/woodrat/woodrat/tls/Agreement", name := "handshakes", desc := "()Z" } : Jvm.MethodName) prog_57_method_5_code (1 : Nat) (Option.some Jvm.ClassFile.FieldType.boolean)]
set_option maxRecDepth 65536 in
theorem codes_eq : words1.filter isCode = codes1 := rfl
theorem w_codes : ∀ c ∈ words1.filter isCode, c.before args0 about1 = true := by
  rw [codes_eq]
  intro c hc
  simp only [codes1, List.mem_cons, List.not_mem_nil, or_false] at hc
  rcases hc with rfl | rfl
  · exact w_c0
  · exact w_c1
set_option maxRecDepth 65536 in
theorem w_t1 : words1.all (fun c => isCode c || c.before args0 about1) = true := by decide +kernel
theorem w_tables : (allAtoms (Jvm.Cond.code x code maxLocals ret :: tables_1)).before args0 about1 = true := by
  rw [allAtoms_all]
  show words1.all (fun c => c.before args0 about1) = true
  refine all_split ?_ w_codes
  rw [w_t1]
set_option maxRecDepth 65536 in
theorem w_case : (Jvm.Cond.and given_1 narrow_1).before args0 about1 = true := by decide +kernel
theorem w_applies : (headSpec (Jvm.Cond.code x code maxLocals ret :: tables_1) room_1).applies x e0.platform about1 = true :=
  (Spec.applies_iff w_frames).mpr ⟨w_running, w_runnable, w_alone, w_named, w_hears, w_ripe, w_room, w_tables⟩
theorem atStart : AtStart classFile x code maxLocals ret World_1 tables_1 room_1 Calls_1 rest_1 Pre_1 launch0 p0 e0 about1 theMethod args0 below0 :=
  ⟨lists_1, trivial, launch0.admits_env _ _ _, launch0.least_env, fairChoices_fair.cas, fairChoices_fair.clock, w_frames, w_args, w_heap, w_applies, trivial, trivial, w_case⟩
end start1
theorem witness_1 : WitnessClaimed_1 := ⟨start1.p0, start1.e0, start1.about1, start1.theMethod, start1.args0, start1.below0, start1.atStart⟩
end Jvm.Pilot.@@N@@
