import JvmDerived
import JvmDerived.Pilot.@@N@@Statement
import JvmDerived.Pilot.@@N@@Code
set_option linter.unusedVariables false
set_option linter.unusedSimpArgs false
namespace Jvm.RoadKit
open Sem ClassFile Op Lib Jvm.Stand Jvm.Free Jvm.LawKit
section New
variable {p : Program} {l : Launch} {e : Env} {R : Room} {s : State} {m : MethodId} {args : Array Value} {below : List Frame} {meth : Method} {c : Code} {T : State} {locs : List Loc} {cells slots : Nat}
theorem retI (X : Stand p l e R s m args below meth c T locs cells slots) (hx : p.tables.exec = Jvm.exec) {pc : Nat} {Ls : Array Slot} {z : Int32} {rest : List Value} (hret : meth.sig.returnType = some .int) (hd : decode c.code pc = .ok (.ireturn, 1)) {fs : List Frame}
    (hl : ∀ (f : JFrame) (acts : List Action), f.method = m → f.locked = none → f.entered = [] → (doReturn e (T.setTop f) acts (some (.int z))).1 = T.setFrames fs) : Steps p.tables e below (T.setTop (mkF m pc Ls (.int z :: rest))) (T.setFrames fs) := by
  have hm' : T.vm.method? m = some meth := X.method'
  have hn : narrow .int (.int z) = .int z := rfl
  show Steps p.tables e below (T.setTop { method := m, pc := pc, locals := Ls, stack := _ :: rest, locked := none }) _
  jvm_step X.here [X.here.top, hx, hd, hm', hret, hn]
  first | (intro acts; rw [hl _ acts rfl rfl rfl]) | rw [hl _ _ rfl rfl rfl]
  exact Steps.refl _
end New
end Jvm.RoadKit
namespace Jvm.Pilot.@@N@@
open Jvm Jvm.ClassFile Sem Op Lib Jvm.Free Jvm.Stand Jvm.LawKit Jvm.RoadKit Bundle Jvm.Pilot.@@N@@.Jvm.D

theorem own_sta_keep {Z : State} {h h' : Heap} {C n d : String} {v : Value} {ws : List Addr} (F : Sta Z h C n d v) (K : Keep h h' ws) (q : ∀ x ∈ ws, ∀ c : Cell, h[x]? = some c → c.vm.isStatics = false) : Sta Z h' C n d v := by
  obtain ⟨cf, i, k, f, st, cell, h1, h2, h3, h4, h5, h6, h7⟩ := F
  refine ⟨cf, i, k, f, st, cell, h1, h2, h3, h4, K.2.1 st cell h5 fun hm => ?_, h6, h7⟩
  rw [q st hm cell h5] at h6
  cases h6
theorem own_ns_exa {Z : State} {h : Heap} {b : Addr} {C : String} (E : Exa Z h b C) : ∀ c : Cell, h[b]? = some c → c.vm.isStatics = false := fun c hc => by
  obtain ⟨cell, k, h1, -, -, h4, -⟩ := E
  cases h1.symm.trans hc
  exact h4
theorem own_ns_arv {Z : State} {h : Heap} {b : Addr} {k : ClassId} {ty : FieldType} {z : Int32} {vs : List Value} {dv : Value} (V : Arv Z h b k ty z vs dv) : ∀ c : Cell, h[b]? = some c → c.vm.isStatics = false := fun c hc => by
  obtain ⟨cl, A, -⟩ := V
  cases A.1.symm.trans hc
  exact A.plain

theorem own_fld_int {args : Array Value} {s : State} {t : Term} {O n d : String} {x : Addr} {k : Int32} (ht : t.eval args s none [] s = some (.ref x)) (h : (Jvm.Cond.eq (Term.field t O n d) (Term.int k)).value args s none s [] = some true) : s.fieldOf? x O n d = some (.int k) := by
  have e := fld_at (C := O) (n := n) (dd := d) ht
  obtain ⟨a, b, h1, h2, -, hk⟩ := cmp_v (Or.inl h)
  have hb : b = .int k := Option.some.inj (h2.symm.trans (Term.int_eval k))
  subst hb
  obtain ⟨z, rfl⟩ : ∃ z, a = .int z := hk
  have q : (Jvm.Cond.eq (Term.field t O n d) (Term.int k)).value args s none s [] = some (decide (z = k)) := by simp [Jvm.Cond.value, h1, h2]
  rw [← e, h1, gotT q h]

theorem own_eq_ref {args : Array Value} {s : State} {t u : Term} {y : Addr} (hu : u.eval args s none [] s = some (.ref y)) (h : (Jvm.Cond.eq t u).value args s none s [] = some true) : t.eval args s none [] s = some (.ref y) := by
  obtain ⟨a, b, h1, h2, -, hk⟩ := cmp_v (Or.inl h)
  have hb : b = .ref y := Option.some.inj (h2.symm.trans hu)
  subst hb
  have ha : a.isRef = true := hk.2
  have q := eq_R h1 hu ha rfl
  rw [h1, gotT q h]
theorem own_len {args : Array Value} {s : State} {t : Term} {x : Addr} {k : Int32} {cl : Cell} {ty : FieldType} (ht : t.eval args s none [] s = some (.ref x)) (A : Arr s s.heap x cl ty) (h : (Jvm.Cond.eq (Term.length t) (Term.int k)).value args s none s [] = some true) : cl.slots.size < 2 ^ 31 ∧ cl.slots.size.toInt32 = k := by
  have ha := A.fin (Vm.Alike.refl _)
  by_cases hl : cl.slots.size < 2 ^ 31
  · exact ⟨hl, gotT (Cond.eq_ints (len_f ht ha hl) (Term.int_eval k)) h⟩
  · obtain ⟨a, b, h1, h2, -, hk⟩ := cmp_v (Or.inl h)
    simp [Term.eval, ht, ha, hl] at h1
theorem own_elem {args : Array Value} {s : State} {t u : Term} {x y : Addr} {i : Int32} {cl : Cell} {ty : FieldType} (ht : t.eval args s none [] s = some (.ref x)) (A : Arr s s.heap x cl ty) (hu : u.eval args s none [] s = some (.ref y)) (h : (Jvm.Cond.eq (Term.elem t (Term.int i)) u).value args s none s [] = some true) : cl.slots[i.toNatClampNeg]? = some (.ref y) :=
  (elem_in (own_eq_ref hu h) ht (Term.int_eval i) A.1).2
section CloneR
variable {p : Program} {l : Launch} {e : Env} {R : Room} {s : State} {m : MethodId} {args : Array Value} {below : List Frame} {meth : Method} {c : Code} {T : State} {locs : List Loc} {cells slots : Nat} {Z : State} {a0 : Array Value} {h : Heap}
theorem own_cloneR (X : Stand p l e R s m args below meth c T locs cells slots) (hx : p.tables.exec = Jvm.exec) (hZ : Z.Warmed39 s.vm) {own ad : String} {index : Nat} (hown : s.vm.findClass own = some m.cls)
    (w1 : (Jvm.Cond.methodLink own index ⟨ad, "clone", "()Ljava/lang/Object;"⟩).before a0 Z = true) (w2 : (Jvm.Cond.sameMethod ad "java/lang/Object" "clone" "()Ljava/lang/Object;").before a0 Z = true) (w3 : (Jvm.Cond.native ⟨"java/lang/Object", "clone", "()Ljava/lang/Object;"⟩).before a0 Z = true)
    (w4 : (Jvm.Cond.instanceMethod ⟨"java/lang/Object", "clone", "()Ljava/lang/Object;"⟩).before a0 Z = true) (w5 : (Jvm.Cond.selects ad ⟨ad, "clone", "()Ljava/lang/Object;"⟩ ⟨"java/lang/Object", "clone", "()Ljava/lang/Object;"⟩).before a0 Z = true) (w6 : (Jvm.Cond.castable ad "java/lang/Cloneable").before a0 Z = true)
    (eT : T.heap = h) {a : Addr} {k : ClassId} {ty : FieldType} {z : Int32} {vs : List Value} {dv : Value} (V : Arv Z h a k ty z vs dv) (E : Exa Z h a ad) (FC : ∀ cl : Cell, h[a]? = some cl → FitC Z cl) {g : JFrame} (hg : g.method = m) (hsize : g.locals.size = c.maxLocals) {rest : List Value} (hs : g.stack = .ref a :: rest) (hd : decode c.code g.pc = .ok (.invokevirtual index, 3))
    (hf : 1 ≤ R.frames) {W cap : Nat} (hW : 2 * g.monitorRoom + (rest.map fun v => v.category).sum ≤ W) (hl : W + 14 ≤ R.locals) (hcap : z.toNatClampNeg ≤ cap) (hc : cells + 1 ≤ R.cells) (hsl : slots + cap ≤ R.slots) :
    ∃ T' h' k', Stand p l e R s m args below meth c T' locs (cells + 1) (slots + cap) ∧ T'.heap = h' ∧ Ext h h' ∧ Arv Z h' h.size k' ty z vs dv ∧ Exa Z h' h.size ad ∧
      ∀ target, Steps p.tables e below (T'.setTop { g with pc := g.pc + 3, stack := .ref h.size :: rest }) target → Steps p.tables e below (T.setTop g) target := by
  obtain ⟨cl, A, hk, S, hz, H, G⟩ := V
  obtain ⟨T', h', X', e', E', A', B', st⟩ := cloneA X hx hZ hown w1 w2 w3 w4 w5 w6 eT A E (FC cl A.1) hg hsize hs hd hf hW hl (cap := cap) (by rw [S]; exact hcap) hc hsl
  exact ⟨T', h', cl.cls, X', e', E', ⟨_, A', rfl, S, hz, H, G⟩, B', st⟩
end CloneR

theorem own_modn (x y : Int32) (d : Nat) (hy : y.toInt = d) (hd : 0 < d) : ∃ n : Nat, n < d ∧ (x &&& 2147483647) % y = Int32.ofNat n := by
  have h := c_mask x 2147483647 31 (by decide) (by decide)
  have h0 : 0 ≤ (x &&& 2147483647).toInt := by rw [h]; omega
  have hr := (c_irem (x &&& 2147483647) y d hy).1 h0
  have hr32 := rng32 y
  have hb0 := Int.emod_nonneg (x &&& 2147483647).toInt (show (d : Int) ≠ 0 by omega)
  have hb1 := Int.emod_lt_of_pos (x &&& 2147483647).toInt (show (0 : Int) < d by omega)
  refine ⟨((x &&& 2147483647).toInt % (d : Int)).toNat, by omega, ?_⟩
  apply Int32.toInt_inj.mp
  rw [hr, Int32.toInt_ofNat_of_lt (by omega)]
  omega

theorem own_ni {x y : Int32} (h : x ≠ y) : (Value.int x) ≠ (Value.int y) := fun q => h (Value.int.inj q)

theorem own_d1_0 : decode prog_60_method_4_code 0 = .ok (.invokestatic 46, 3) := by decide +kernel
theorem own_d1_3 : decode prog_60_method_4_code 3 = .ok (.astore_n 1, 1) := by decide +kernel
theorem own_d1_4 : decode prog_60_method_4_code 4 = .ok (.aload_n 1, 1) := by decide +kernel
theorem own_d1_5 : decode prog_60_method_4_code 5 = .ok (.arraylength, 1) := by decide +kernel
theorem own_d1_6 : decode prog_60_method_4_code 6 = .ok (.istore_n 2, 1) := by decide +kernel
theorem own_d1_7 : decode prog_60_method_4_code 7 = .ok (.iconst 0, 1) := by decide +kernel
theorem own_d1_8 : decode prog_60_method_4_code 8 = .ok (.istore_n 3, 1) := by decide +kernel
theorem own_d1_9 : decode prog_60_method_4_code 9 = .ok (.iload_n 3, 1) := by decide +kernel
theorem own_d1_10 : decode prog_60_method_4_code 10 = .ok (.iload_n 2, 1) := by decide +kernel
theorem own_d1_11 : decode prog_60_method_4_code 11 = .ok (.if_icmp .ge 26, 3) := by decide +kernel
theorem own_d1_14 : decode prog_60_method_4_code 14 = .ok (.aload_n 1, 1) := by decide +kernel
theorem own_d1_15 : decode prog_60_method_4_code 15 = .ok (.iload_n 3, 1) := by decide +kernel
theorem own_d1_16 : decode prog_60_method_4_code 16 = .ok (.aaload, 1) := by decide +kernel
theorem own_d1_17 : decode prog_60_method_4_code 17 = .ok (.astore 4, 2) := by decide +kernel
theorem own_d1_19 : decode prog_60_method_4_code 19 = .ok (.aload 4, 2) := by decide +kernel
theorem own_d1_21 : decode prog_60_method_4_code 21 = .ok (.getfield 42, 3) := by decide +kernel
theorem own_d1_24 : decode prog_60_method_4_code 24 = .ok (.aload_n 0, 1) := by decide +kernel
theorem own_d1_25 : decode prog_60_method_4_code 25 = .ok (.if_acmp .ne 6, 3) := by decide +kernel
theorem own_d1_28 : decode prog_60_method_4_code 28 = .ok (.aload 4, 2) := by decide +kernel
theorem own_d1_30 : decode prog_60_method_4_code 30 = .ok (.areturn, 1) := by decide +kernel
theorem own_d1_31 : decode prog_60_method_4_code 31 = .ok (.iinc 3 1, 3) := by decide +kernel
theorem own_d1_34 : decode prog_60_method_4_code 34 = .ok (.goto (-25), 3) := by decide +kernel
theorem own_d2_0 : decode prog_60_method_1_code 0 = .ok (.getstatic 19, 3) := by decide +kernel
theorem own_d2_3 : decode prog_60_method_1_code 3 = .ok (.invokevirtual 23, 3) := by decide +kernel
theorem own_d2_6 : decode prog_60_method_1_code 6 = .ok (.checkcast 24, 3) := by decide +kernel
theorem own_d2_9 : decode prog_60_method_1_code 9 = .ok (.areturn, 1) := by decide +kernel
theorem own_d3_0 : decode prog_60_method_6_code 0 = .ok (.aload_n 0, 1) := by decide +kernel
theorem own_d3_1 : decode prog_60_method_6_code 1 = .ok (.getfield 42, 3) := by decide +kernel
theorem own_d3_4 : decode prog_60_method_6_code 4 = .ok (.areturn, 1) := by decide +kernel
theorem own_pn_0 : plainName "com/example/planwright/planwright/quality/Measure" = true := by first | (simp [plainName, overriddenIn]; done) | decide +kernel
theorem own_ef_0 (m : MethodId)  : entryFrame m #[] 0 = mkF m 0 #[] [] := by first | (simp [entryFrame, mkF, argsToLocals, Value.category]; done) | rfl
theorem own_ef_1 (m : MethodId) (x0 : Addr) : entryFrame m #[(.ref x0)] 5 = mkF m 0 #[.val (.ref x0), .unset, .unset, .unset, .unset] [] := by first | (simp [entryFrame, mkF, argsToLocals, Value.category]; done) | rfl
theorem own_pd_0 : parseMethodDescriptor "()[Lcom/example/planwright/planwright/quality/Measure;" = some ⟨[], some (.array (.object "com/example/planwright/planwright/quality/Measure"))⟩ := by decide +kernel
theorem own_ef_2 (m : MethodId) (x0 : Addr) : entryFrame m #[(.ref x0)] 1 = mkF m 0 #[.val (.ref x0)] [] := by first | (simp [entryFrame, mkF, argsToLocals, Value.category]; done) | rfl
theorem own_pn_1 : plainName "com/example/planwright/planwright/quality/MeasureOfPinLaw" = true := by first | (simp [plainName, overriddenIn]; done) | decide +kernel
theorem own_ef_3 (m : MethodId) (x0 : Int32) : entryFrame m #[(.int x0)] maxLocals = mkF m 0 #[.val (.int x0), .unset, .unset, .unset, .unset] [] := by first | (simp [entryFrame, mkF, argsToLocals, Value.category, maxLocals]; done) | rfl
theorem own_pd_1 : parseMethodDescriptor "(Lcom/example/planwright/planwright/model/Criterion;)Lcom/example/planwright/planwright/quality/Measure;" = some ⟨[(.object "com/example/planwright/planwright/model/Criterion")], some (.object "com/example/planwright/planwright/quality/Measure")⟩ := by decide +kernel
theorem own_pd_2 : parseMethodDescriptor "()Lcom/example/planwright/planwright/model/Criterion;" = some ⟨[], some (.object "com/example/planwright/planwright/model/Criterion")⟩ := by decide +kernel
def Q_rmV (Z : State) (va : Addr) (kv : ClassId) (m0 : Addr) (m1 : Addr) (m2 : Addr) (m3 : Addr) (m4 : Addr) (h0 : Heap) (n0 : Nat) (v : Option Value) (h : Heap) (L : List Loc) : Prop := ∃ (b : Addr) (k : ClassId), v = some (.ref b) ∧ Fr n0 L ∧ Keep h0 h [] ∧ Arv Z h b k (.object "com/example/planwright/planwright/quality/Measure") (5 : Int32) [(.ref m0), (.ref m1), (.ref m2), (.ref m3), (.ref m4)] .null
set_option maxRecDepth 65536 in
set_option maxHeartbeats 40000000 in
theorem rmV (l : Launch) (Z : State) (a0 : Array Value) (hw : ∀ d ∈ tables_1, d.before a0 Z = true) (ws : List Jvm.Cond) (va : Addr) (kv : ClassId) (m0 : Addr) (m1 : Addr) (m2 : Addr) (m3 : Addr) (m4 : Addr) (h0 : Heap) (n0 : Nat) (Z0 : n0 ≤ h0.size) (S1 : Sta Z h0 "com/example/planwright/planwright/quality/Measure" "$VALUES" "[Lcom/example/planwright/planwright/quality/Measure;" (.ref va)) (V1 : Arv Z h0 va kv (.object "com/example/planwright/planwright/quality/Measure") (5 : Int32) [(.ref m0), (.ref m1), (.ref m2), (.ref m3), (.ref m4)] .null) (E1 : Exa Z h0 va "[Lcom/example/planwright/planwright/quality/Measure;") (FC : ∀ cl : Cell, h0[va]? = some cl → FitC Z cl) :
    MetFree l (⟨"com/example/planwright/planwright/quality/Measure", "values", "()[Lcom/example/planwright/planwright/quality/Measure;"⟩ : MethodName) (head1 (Jvm.Cond.code (⟨"com/example/planwright/planwright/quality/Measure", "values", "()[Lcom/example/planwright/planwright/quality/Measure;"⟩ : MethodName) prog_60_method_1_code 0 (some (.array (.object "com/example/planwright/planwright/quality/Measure"))) :: ws) ({ frames := 1, cells := 1, slots := 5, locals := 14 } : Room)) (fun a U => a = #[] ∧ Z.Warmed39 U.vm ∧ U.heap = h0) (fun _ _ _ _ _ => True) (fun _ U o U' => ∃ v L, o = .returned v ∧ Q_rmV Z va kv m0 m1 m2 m3 m4 h0 n0 v U'.heap L ∧ FrameEnd U o U' L ({ frames := 1, cells := 1, slots := 5, locals := 14 } : Room).cells ({ frames := 1, cells := 1, slots := 5, locals := 14 } : Room).slots) := by
  refine MetFree.of_bodySF (plainFor_of_name own_pn_0) hisR ?_
  intro p e s m args below meth c s₁ Bd hml0 hP hK
  obtain ⟨rfl, hZ, hh⟩ := hP
  have hx := Bd.exec
  have hby := Bd.bytes
  have hml : c.maxLocals = 0 := hml0
  have hown : s.vm.findClass "com/example/planwright/planwright/quality/Measure" = some m.cls := findClass_of_methodNamed Bd.named
  have hnm := (name_of_methodNamed Bd.named Bd.method).1
  have X0 : Stand p l e ({ frames := 1, cells := 1, slots := 5, locals := 14 } : Room) s m #[] below meth c s₁ [] 0 0 := Stand.of_body Bd
  have e0 : s₁.heap = h0 := by rw [← hh, Bd.state]; rfl
  have N0 := Fr.nil n0
  have K0 : Keep h0 h0 [] := Keep.refl h0 _
  have pre0 : ∀ t, Steps p.tables e below (s₁.setTop (mkF m 0 #[] [])) t → Steps p.tables e below (s₁.setTop (entryFrame m #[] 0)) t := fun t k => castTop (own_ef_0 m ) k
  obtain ⟨T1, X1, e1, st1⟩ := getS2 X0 hx hZ hown (host := "") (Or.inl (hw _ (List.mem_of_getElem? (i := 13) rfl))) Via.refl e0 S1 (g := (mkF m 0 #[] [])) rfl (hb hby own_d2_0)
  obtain ⟨T2, h2, k2, X2, e2, E2, V2, A2, st2⟩ := own_cloneR X1 hx hZ hown (hw _ (List.mem_of_getElem? (i := 15) rfl)) (hw _ (List.mem_of_getElem? (i := 16) rfl)) (hw _ (List.mem_of_getElem? (i := 20) rfl)) (hw _ (List.mem_of_getElem? (i := 18) rfl)) (hw _ (List.mem_of_getElem? (i := 19) rfl)) (hw _ (List.mem_of_getElem? (i := 21) rfl)) e1 V1 E1 FC (g := (mkF m 3 #[] [(.ref va)])) rfl (by rw [hml]; rfl) rfl (hb hby own_d2_3) (by decide) (W := 0) (cap := 5) (by show 2 * 0 + _ ≤ _; exact Nat.le_of_eq rfl) (by decide) (by decide) (by decide) (by decide)
  obtain ⟨b2, g2⟩ : ∃ z, z = h0.size := ⟨_, rfl⟩
  rw [← g2] at V2 A2 st2
  have ne_va_b2 : va ≠ b2 := Nat.ne_of_lt (Nat.lt_of_lt_of_le V1.lt (Nat.le_of_eq g2.symm))
  have g_b2 : n0 ≤ b2 := Nat.le_trans Z0 (Nat.le_of_eq g2.symm)
  have sz_b2 : h0.size ≤ b2 := Nat.le_trans K0.1 (Nat.le_of_eq g2.symm)
  have f3 := S1.ext E2
  have f4 := V1.ext E2
  have f5 := E1.ext E2
  have Z6 : n0 ≤ h2.size := Nat.le_trans Z0 E2.1
  have K7 := K0.ext E2
  obtain ⟨T8, X8, e8, st8⟩ := castY X2 hx hZ hown (hw _ (List.mem_of_getElem? (i := 27) rfl)) e2 (Ins.self A2) (g := (mkF m 6 #[] [(.ref b2)])) rfl rfl (hb hby own_d2_6)
  have k9 : ∀ t, Steps p.tables e below (T8.setTop (mkF m 9 #[] [(.ref b2)])) t → Steps p.tables e below (s₁.setTop (mkF m 0 #[] [])) t := by
    intro t h
    show Steps p.tables e below (s₁.setTop (mkF m 0 #[] [])) _
    refine st1 _ ?_
    show Steps p.tables e below (T1.setTop (mkF m 3 #[] [(.ref va)])) _
    refine st2 _ ?_
    show Steps p.tables e below (T2.setTop (mkF m 6 #[] [(.ref b2)])) _
    refine st8 _ ?_
    exact h
  obtain ⟨fs, hr, hrun, hended, hW, hsame⟩ := X8.leave (v := some (.ref b2)) (fun h => by rw [Bd.returns] at h; cases h) Bd.notSynchronized
  refine ⟨_, _, pre0 _ (k9 _ ?_), hrun, hended, _, _, rfl, ?_, ⟨_, rfl⟩, hW, hsame.mono (by decide) (by decide)⟩
  · jvm_step X8.here [X8.here.top, hx, (hb hby own_d2_9), X8.method', Bd.returns, Value.isRef, FieldType.isReference]
    first | (intro acts; rw [hr _ acts rfl rfl rfl]) | rw [hr _ _ rfl rfl rfl]
    exact Steps.refl _
  · show Q_rmV Z _ _ _ _ _ _ _ h0 n0 _ T8.heap _
    rw [e8]
    exact ⟨b2, _, rfl, N0, K7, V2⟩
def Q_rmO0 (Z : State) (c0 : Addr) (va : Addr) (kv : ClassId) (m0 : Addr) (m1 : Addr) (m2 : Addr) (m3 : Addr) (m4 : Addr) (h0 : Heap) (n0 : Nat) (v : Option Value) (h : Heap) (L : List Loc) : Prop := v = some (.ref m0) ∧ Fr n0 L ∧ Keep h0 h []
set_option maxRecDepth 65536 in
set_option maxHeartbeats 40000000 in
theorem rmO0 (l : Launch) (Z : State) (a0 : Array Value) (hw : ∀ d ∈ tables_1, d.before a0 Z = true) (ws : List Jvm.Cond) (c0 : Addr) (va : Addr) (kv : ClassId) (m0 : Addr) (m1 : Addr) (m2 : Addr) (m3 : Addr) (m4 : Addr) (h0 : Heap) (n0 : Nat) (Z0 : n0 ≤ h0.size) (S1 : Sta Z h0 "com/example/planwright/planwright/quality/Measure" "$VALUES" "[Lcom/example/planwright/planwright/quality/Measure;" (.ref va)) (V1 : Arv Z h0 va kv (.object "com/example/planwright/planwright/quality/Measure") (5 : Int32) [(.ref m0), (.ref m1), (.ref m2), (.ref m3), (.ref m4)] .null) (E1 : Exa Z h0 va "[Lcom/example/planwright/planwright/quality/Measure;") (FC : ∀ cl : Cell, h0[va]? = some cl → FitC Z cl) (F0 : Fld Z h0 m0 "com/example/planwright/planwright/quality/Measure" "criterion" "Lcom/example/planwright/planwright/model/Criterion;" (.ref c0)) :
    MetFree l (⟨"com/example/planwright/planwright/quality/Measure", "of", "(Lcom/example/planwright/planwright/model/Criterion;)Lcom/example/planwright/planwright/quality/Measure;"⟩ : MethodName) (head1 (Jvm.Cond.code (⟨"com/example/planwright/planwright/quality/Measure", "of", "(Lcom/example/planwright/planwright/model/Criterion;)Lcom/example/planwright/planwright/quality/Measure;"⟩ : MethodName) prog_60_method_4_code 5 (some (.object "com/example/planwright/planwright/quality/Measure")) :: ws) ({ frames := 2, cells := 1, slots := 5, locals := 25 } : Room)) (fun a U => a = #[(.ref c0)] ∧ Z.Warmed39 U.vm ∧ U.heap = h0) (fun _ _ _ _ _ => True) (fun _ U o U' => ∃ v L, o = .returned v ∧ Q_rmO0 Z c0 va kv m0 m1 m2 m3 m4 h0 n0 v U'.heap L ∧ FrameEnd U o U' L ({ frames := 2, cells := 1, slots := 5, locals := 25 } : Room).cells ({ frames := 2, cells := 1, slots := 5, locals := 25 } : Room).slots) := by
  refine MetFree.of_bodySF (plainFor_of_name own_pn_0) hisR ?_
  intro p e s m args below meth c s₁ Bd hml0 hP hK
  obtain ⟨rfl, hZ, hh⟩ := hP
  have hx := Bd.exec
  have hby := Bd.bytes
  have hml : c.maxLocals = 5 := hml0
  have hown : s.vm.findClass "com/example/planwright/planwright/quality/Measure" = some m.cls := findClass_of_methodNamed Bd.named
  have hnm := (name_of_methodNamed Bd.named Bd.method).1
  have X0 : Stand p l e ({ frames := 2, cells := 1, slots := 5, locals := 25 } : Room) s m #[(.ref c0)] below meth c s₁ [] 0 0 := Stand.of_body Bd
  have e0 : s₁.heap = h0 := by rw [← hh, Bd.state]; rfl
  have N0 := Fr.nil n0
  have K0 : Keep h0 h0 [] := Keep.refl h0 _
  have pre0 : ∀ t, Steps p.tables e below (s₁.setTop (mkF m 0 #[.val (.ref c0), .unset, .unset, .unset, .unset] [])) t → Steps p.tables e below (s₁.setTop (entryFrame m #[(.ref c0)] 5)) t := fun t k => castTop (own_ef_1 m c0) k
  obtain ⟨_, _, ⟨T10, L10, k10, n10⟩, -, X10, ⟨Lc10, hQ10, l10, y10, z10⟩, st10⟩ := Jvm.LawKit.callS X0 hx (y := (⟨"com/example/planwright/planwright/quality/Measure", "values", "()[Lcom/example/planwright/planwright/quality/Measure;"⟩ : MethodName)) hown (mvT hZ (hw _ (List.mem_of_getElem? (i := 10) rfl))) (mvT hZ (hw _ (List.mem_of_getElem? (i := 11) rfl))) (mvT hZ (hw _ (List.mem_of_getElem? (i := 5) rfl))) (mvT hZ (hw _ (List.mem_of_getElem? (i := 12) rfl))) (by decide) (backOf (W := 0) (rmV l Z a0 hw []  va kv m0 m1 m2 m3 m4 h0 n0 Z0 S1 V1 E1 FC) hZ (hw _ (List.mem_of_getElem? (i := 12) rfl)) (hw _ (List.mem_of_getElem? (i := 5) rfl)) (by decide) (by decide)) (g := (mkF m 0 #[.val (.ref c0), .unset, .unset, .unset, .unset] [])) rfl (by rw [hml]; rfl) (argsL := []) (rest := []) (lenOf own_pd_0 rfl) rfl (by show 2 * 0 + _ ≤ _; exact Nat.le_of_eq rfl) (hb hby own_d1_0) (fun _ _ => ⟨rfl, e0, (by decide : 0 + 1 ≤ _), (by decide : 0 + 5 ≤ _)⟩)
  dsimp only [Pt.U, Pt.locs, Pt.cells, Pt.slots] at X10 l10 y10 z10 st10 hQ10
  subst l10 y10 z10
  obtain ⟨bv10, kq10, rfl, Nq10, Kq10, Vq10⟩ := hQ10
  have N10 := Fr.app N0 Nq10
  have f11 := own_sta_keep S1 Kq10 all0
  have f12 := V1.keep Kq10 nin0
  have f13 := E1.keep Kq10
  have f14 := F0.keep Kq10 nin0
  have Z15 : n0 ≤ T10.heap.size := Nat.le_trans Z0 Kq10.1
  have K16 := K0.trans Kq10 all0
  obtain ⟨cl17, Ar17, q17, S17, Ng17, H17, G17⟩ := id Vq10
  have k18 : ∀ t, Steps p.tables e below (T10.setTop (mkF m 11 #[.val (.ref c0), .val (.ref bv10), .val (.int (5 : Int32)), .val (.int (0 : Int32)), .unset] [(.int (5 : Int32)), (.int (0 : Int32))])) t → Steps p.tables e below (s₁.setTop (mkF m 0 #[.val (.ref c0), .unset, .unset, .unset, .unset] [])) t := by
    intro t h
    show Steps p.tables e below (s₁.setTop (mkF m 0 #[.val (.ref c0), .unset, .unset, .unset, .unset] [])) _
    refine st10 _ ?_
    show Steps p.tables e below (T10.setTop (mkF m 3 #[.val (.ref c0), .unset, .unset, .unset, .unset] [(.ref bv10)])) _
    refine XS.astoreN X10.here hx rfl (hb hby own_d1_3) rfl rfl (l' := #[.val (.ref c0), .val (.ref bv10), .unset, .unset, .unset]) rfl ?_
    show Steps p.tables e below (T10.setTop (mkF m 4 #[.val (.ref c0), .val (.ref bv10), .unset, .unset, .unset] [])) _
    refine XS.aloadN X10.here hx rfl (hb hby own_d1_4) rfl rfl ?_
    show Steps p.tables e below (T10.setTop (mkF m 5 #[.val (.ref c0), .val (.ref bv10), .unset, .unset, .unset] [(.ref bv10)])) _
    refine X10.arraylength hx Ar17.1 (State.isArrayOf_alike hZ.alike Ar17.2.1) (g := (mkF m 5 #[.val (.ref c0), .val (.ref bv10), .unset, .unset, .unset] [(.ref bv10)])) rfl rfl (hb hby own_d1_5) _ ?_
    rw [len_of S17 Ng17]
    show Steps p.tables e below (T10.setTop (mkF m 6 #[.val (.ref c0), .val (.ref bv10), .unset, .unset, .unset] [(.int (5 : Int32))])) _
    refine XS.istoreN X10.here hx rfl (hb hby own_d1_6) rfl (l' := #[.val (.ref c0), .val (.ref bv10), .val (.int (5 : Int32)), .unset, .unset]) rfl ?_
    show Steps p.tables e below (T10.setTop (mkF m 7 #[.val (.ref c0), .val (.ref bv10), .val (.int (5 : Int32)), .unset, .unset] [])) _
    refine XS.iconst X10.here hx rfl (hb hby own_d1_7) ?_
    show Steps p.tables e below (T10.setTop (mkF m 8 #[.val (.ref c0), .val (.ref bv10), .val (.int (5 : Int32)), .unset, .unset] [(.int (0 : Int32))])) _
    refine XS.istoreN X10.here hx rfl (hb hby own_d1_8) rfl (l' := #[.val (.ref c0), .val (.ref bv10), .val (.int (5 : Int32)), .val (.int (0 : Int32)), .unset]) rfl ?_
    show Steps p.tables e below (T10.setTop (mkF m 9 #[.val (.ref c0), .val (.ref bv10), .val (.int (5 : Int32)), .val (.int (0 : Int32)), .unset] [])) _
    refine XS.iloadN X10.here hx rfl (hb hby own_d1_9) rfl ?_
    show Steps p.tables e below (T10.setTop (mkF m 10 #[.val (.ref c0), .val (.ref bv10), .val (.int (5 : Int32)), .val (.int (0 : Int32)), .unset] [(.int (0 : Int32))])) _
    refine XS.iloadN X10.here hx rfl (hb hby own_d1_10) rfl ?_
    exact h
  obtain ⟨cl19, Ar19, q19, S19, Ng19, H19, G19⟩ := id Vq10
  have hin19 : ¬ ((0 : Int32) < 0 ∨ cl19.slots.size ≤ ((0 : Int32)).toNatClampNeg) := inb_of S19 ⟨by decide, by decide⟩
  obtain ⟨T20, X20, e20, st20⟩ := getF X10 hx hZ hown (host := "") (Or.inl (hw _ (List.mem_of_getElem? (i := 29) rfl))) Via.refl rfl f14 (g := (mkF m 21 #[.val (.ref c0), .val (.ref bv10), .val (.int (5 : Int32)), .val (.int (0 : Int32)), .val (.ref m0)] [(.ref m0)])) rfl rfl (hb hby own_d1_21)
  have k21 : ∀ t, Steps p.tables e below (T20.setTop (mkF m 25 #[.val (.ref c0), .val (.ref bv10), .val (.int (5 : Int32)), .val (.int (0 : Int32)), .val (.ref m0)] [(.ref c0), (.ref c0)])) t → Steps p.tables e below (s₁.setTop (mkF m 0 #[.val (.ref c0), .unset, .unset, .unset, .unset] [])) t := by
    intro t h
    refine k18 t ?_
    show Steps p.tables e below (T10.setTop (mkF m 11 #[.val (.ref c0), .val (.ref bv10), .val (.int (5 : Int32)), .val (.int (0 : Int32)), .unset] [(.int (5 : Int32)), (.int (0 : Int32))])) _
    refine XS.icmpNo X10.here hx rfl (hb hby own_d1_11) rfl (tlt (by decide : (0 : Int32) < (5 : Int32))).2.1 ?_
    show Steps p.tables e below (T10.setTop (mkF m 14 #[.val (.ref c0), .val (.ref bv10), .val (.int (5 : Int32)), .val (.int (0 : Int32)), .unset] [])) _
    refine XS.aloadN X10.here hx rfl (hb hby own_d1_14) rfl rfl ?_
    show Steps p.tables e below (T10.setTop (mkF m 15 #[.val (.ref c0), .val (.ref bv10), .val (.int (5 : Int32)), .val (.int (0 : Int32)), .unset] [(.ref bv10)])) _
    refine XS.iloadN X10.here hx rfl (hb hby own_d1_15) rfl ?_
    show Steps p.tables e below (T10.setTop (mkF m 16 #[.val (.ref c0), .val (.ref bv10), .val (.int (5 : Int32)), .val (.int (0 : Int32)), .unset] [(.int (0 : Int32)), (.ref bv10)])) _
    refine X10.aaload hx (j := (0 : Int32)) (v := (.ref m0)) Ar19.1 (State.isArrayOf_alike hZ.alike Ar19.2.1) rfl Ar19.2.2 hin19 (H19.at hin19 rfl) (g := (mkF m 16 #[.val (.ref c0), .val (.ref bv10), .val (.int (5 : Int32)), .val (.int (0 : Int32)), .unset] [(.int (0 : Int32)), (.ref bv10)])) rfl rfl (hb hby own_d1_16) _ ?_
    show Steps p.tables e below (T10.setTop (mkF m 17 #[.val (.ref c0), .val (.ref bv10), .val (.int (5 : Int32)), .val (.int (0 : Int32)), .unset] [(.ref m0)])) _
    refine XS.astore X10.here hx rfl (hb hby own_d1_17) rfl rfl (l' := #[.val (.ref c0), .val (.ref bv10), .val (.int (5 : Int32)), .val (.int (0 : Int32)), .val (.ref m0)]) rfl ?_
    show Steps p.tables e below (T10.setTop (mkF m 19 #[.val (.ref c0), .val (.ref bv10), .val (.int (5 : Int32)), .val (.int (0 : Int32)), .val (.ref m0)] [])) _
    refine XS.aload X10.here hx rfl (hb hby own_d1_19) rfl rfl ?_
    show Steps p.tables e below (T10.setTop (mkF m 21 #[.val (.ref c0), .val (.ref bv10), .val (.int (5 : Int32)), .val (.int (0 : Int32)), .val (.ref m0)] [(.ref m0)])) _
    refine st20 _ ?_
    show Steps p.tables e below (T20.setTop (mkF m 24 #[.val (.ref c0), .val (.ref bv10), .val (.int (5 : Int32)), .val (.int (0 : Int32)), .val (.ref m0)] [(.ref c0)])) _
    refine XS.aloadN X20.here hx rfl (hb hby own_d1_24) rfl rfl ?_
    exact h
  have k22 : ∀ t, Steps p.tables e below (T20.setTop (mkF m 30 #[.val (.ref c0), .val (.ref bv10), .val (.int (5 : Int32)), .val (.int (0 : Int32)), .val (.ref m0)] [(.ref m0)])) t → Steps p.tables e below (s₁.setTop (mkF m 0 #[.val (.ref c0), .unset, .unset, .unset, .unset] [])) t := by
    intro t h
    refine k21 t ?_
    show Steps p.tables e below (T20.setTop (mkF m 25 #[.val (.ref c0), .val (.ref bv10), .val (.int (5 : Int32)), .val (.int (0 : Int32)), .val (.ref m0)] [(.ref c0), (.ref c0)])) _
    refine Jvm.RoadKit.acmp (g := (mkF m 25 #[.val (.ref c0), .val (.ref bv10), .val (.int (5 : Int32)), .val (.int (0 : Int32)), .val (.ref m0)] [(.ref c0), (.ref c0)])) X20 hx rfl rfl rfl (pc0 := 25) (pc' := 28) (same := true) rfl (hb hby own_d1_25) rfl (decide_eq_true rfl) (by decide) (by decide) ?_
    show Steps p.tables e below (T20.setTop (mkF m 28 #[.val (.ref c0), .val (.ref bv10), .val (.int (5 : Int32)), .val (.int (0 : Int32)), .val (.ref m0)] [])) _
    refine XS.aload X20.here hx rfl (hb hby own_d1_28) rfl rfl ?_
    exact h
  obtain ⟨fs, hr, hrun, hended, hW, hsame⟩ := X20.leave (v := some (.ref m0)) (fun h => by rw [Bd.returns] at h; cases h) Bd.notSynchronized
  refine ⟨_, _, pre0 _ (k22 _ ?_), hrun, hended, _, _, rfl, ?_, ⟨_, rfl⟩, hW, hsame.mono (by decide) (by decide)⟩
  · jvm_step X20.here [X20.here.top, hx, (hb hby own_d1_30), X20.method', Bd.returns, Value.isRef, FieldType.isReference]
    first | (intro acts; rw [hr _ acts rfl rfl rfl]) | rw [hr _ _ rfl rfl rfl]
    exact Steps.refl _
  · show Q_rmO0 Z _ _ _ _ _ _ _ _ h0 n0 _ T20.heap _
    rw [e20]
    exact ⟨rfl, N10, K16⟩
def Q_rmO1 (Z : State) (c1 : Addr) (va : Addr) (kv : ClassId) (m0 : Addr) (m1 : Addr) (m2 : Addr) (m3 : Addr) (m4 : Addr) (c0 : Addr) (h0 : Heap) (n0 : Nat) (v : Option Value) (h : Heap) (L : List Loc) : Prop := v = some (.ref m1) ∧ Fr n0 L ∧ Keep h0 h []
set_option maxRecDepth 65536 in
set_option maxHeartbeats 40000000 in
theorem rmO1 (l : Launch) (Z : State) (a0 : Array Value) (hw : ∀ d ∈ tables_1, d.before a0 Z = true) (ws : List Jvm.Cond) (c1 : Addr) (va : Addr) (kv : ClassId) (m0 : Addr) (m1 : Addr) (m2 : Addr) (m3 : Addr) (m4 : Addr) (c0 : Addr) (h0 : Heap) (n0 : Nat) (Z0 : n0 ≤ h0.size) (S1 : Sta Z h0 "com/example/planwright/planwright/quality/Measure" "$VALUES" "[Lcom/example/planwright/planwright/quality/Measure;" (.ref va)) (V1 : Arv Z h0 va kv (.object "com/example/planwright/planwright/quality/Measure") (5 : Int32) [(.ref m0), (.ref m1), (.ref m2), (.ref m3), (.ref m4)] .null) (E1 : Exa Z h0 va "[Lcom/example/planwright/planwright/quality/Measure;") (FC : ∀ cl : Cell, h0[va]? = some cl → FitC Z cl) (F0 : Fld Z h0 m0 "com/example/planwright/planwright/quality/Measure" "criterion" "Lcom/example/planwright/planwright/model/Criterion;" (.ref c0)) (F1 : Fld Z h0 m1 "com/example/planwright/planwright/quality/Measure" "criterion" "Lcom/example/planwright/planwright/model/Criterion;" (.ref c1)) (ne0 : c0 ≠ c1) :
    MetFree l (⟨"com/example/planwright/planwright/quality/Measure", "of", "(Lcom/example/planwright/planwright/model/Criterion;)Lcom/example/planwright/planwright/quality/Measure;"⟩ : MethodName) (head1 (Jvm.Cond.code (⟨"com/example/planwright/planwright/quality/Measure", "of", "(Lcom/example/planwright/planwright/model/Criterion;)Lcom/example/planwright/planwright/quality/Measure;"⟩ : MethodName) prog_60_method_4_code 5 (some (.object "com/example/planwright/planwright/quality/Measure")) :: ws) ({ frames := 2, cells := 1, slots := 5, locals := 25 } : Room)) (fun a U => a = #[(.ref c1)] ∧ Z.Warmed39 U.vm ∧ U.heap = h0) (fun _ _ _ _ _ => True) (fun _ U o U' => ∃ v L, o = .returned v ∧ Q_rmO1 Z c1 va kv m0 m1 m2 m3 m4 c0 h0 n0 v U'.heap L ∧ FrameEnd U o U' L ({ frames := 2, cells := 1, slots := 5, locals := 25 } : Room).cells ({ frames := 2, cells := 1, slots := 5, locals := 25 } : Room).slots) := by
  refine MetFree.of_bodySF (plainFor_of_name own_pn_0) hisR ?_
  intro p e s m args below meth c s₁ Bd hml0 hP hK
  obtain ⟨rfl, hZ, hh⟩ := hP
  have hx := Bd.exec
  have hby := Bd.bytes
  have hml : c.maxLocals = 5 := hml0
  have hown : s.vm.findClass "com/example/planwright/planwright/quality/Measure" = some m.cls := findClass_of_methodNamed Bd.named
  have hnm := (name_of_methodNamed Bd.named Bd.method).1
  have X0 : Stand p l e ({ frames := 2, cells := 1, slots := 5, locals := 25 } : Room) s m #[(.ref c1)] below meth c s₁ [] 0 0 := Stand.of_body Bd
  have e0 : s₁.heap = h0 := by rw [← hh, Bd.state]; rfl
  have N0 := Fr.nil n0
  have K0 : Keep h0 h0 [] := Keep.refl h0 _
  have pre0 : ∀ t, Steps p.tables e below (s₁.setTop (mkF m 0 #[.val (.ref c1), .unset, .unset, .unset, .unset] [])) t → Steps p.tables e below (s₁.setTop (entryFrame m #[(.ref c1)] 5)) t := fun t k => castTop (own_ef_1 m c1) k
  obtain ⟨_, _, ⟨T23, L23, k23, n23⟩, -, X23, ⟨Lc23, hQ23, l23, y23, z23⟩, st23⟩ := Jvm.LawKit.callS X0 hx (y := (⟨"com/example/planwright/planwright/quality/Measure", "values", "()[Lcom/example/planwright/planwright/quality/Measure;"⟩ : MethodName)) hown (mvT hZ (hw _ (List.mem_of_getElem? (i := 10) rfl))) (mvT hZ (hw _ (List.mem_of_getElem? (i := 11) rfl))) (mvT hZ (hw _ (List.mem_of_getElem? (i := 5) rfl))) (mvT hZ (hw _ (List.mem_of_getElem? (i := 12) rfl))) (by decide) (backOf (W := 0) (rmV l Z a0 hw []  va kv m0 m1 m2 m3 m4 h0 n0 Z0 S1 V1 E1 FC) hZ (hw _ (List.mem_of_getElem? (i := 12) rfl)) (hw _ (List.mem_of_getElem? (i := 5) rfl)) (by decide) (by decide)) (g := (mkF m 0 #[.val (.ref c1), .unset, .unset, .unset, .unset] [])) rfl (by rw [hml]; rfl) (argsL := []) (rest := []) (lenOf own_pd_0 rfl) rfl (by show 2 * 0 + _ ≤ _; exact Nat.le_of_eq rfl) (hb hby own_d1_0) (fun _ _ => ⟨rfl, e0, (by decide : 0 + 1 ≤ _), (by decide : 0 + 5 ≤ _)⟩)
  dsimp only [Pt.U, Pt.locs, Pt.cells, Pt.slots] at X23 l23 y23 z23 st23 hQ23
  subst l23 y23 z23
  obtain ⟨bv23, kq23, rfl, Nq23, Kq23, Vq23⟩ := hQ23
  have N23 := Fr.app N0 Nq23
  have f24 := own_sta_keep S1 Kq23 all0
  have f25 := V1.keep Kq23 nin0
  have f26 := E1.keep Kq23
  have f27 := F0.keep Kq23 nin0
  have f28 := F1.keep Kq23 nin0
  have Z29 : n0 ≤ T23.heap.size := Nat.le_trans Z0 Kq23.1
  have K30 := K0.trans Kq23 all0
  obtain ⟨cl31, Ar31, q31, S31, Ng31, H31, G31⟩ := id Vq23
  have k32 : ∀ t, Steps p.tables e below (T23.setTop (mkF m 11 #[.val (.ref c1), .val (.ref bv23), .val (.int (5 : Int32)), .val (.int (0 : Int32)), .unset] [(.int (5 : Int32)), (.int (0 : Int32))])) t → Steps p.tables e below (s₁.setTop (mkF m 0 #[.val (.ref c1), .unset, .unset, .unset, .unset] [])) t := by
    intro t h
    show Steps p.tables e below (s₁.setTop (mkF m 0 #[.val (.ref c1), .unset, .unset, .unset, .unset] [])) _
    refine st23 _ ?_
    show Steps p.tables e below (T23.setTop (mkF m 3 #[.val (.ref c1), .unset, .unset, .unset, .unset] [(.ref bv23)])) _
    refine XS.astoreN X23.here hx rfl (hb hby own_d1_3) rfl rfl (l' := #[.val (.ref c1), .val (.ref bv23), .unset, .unset, .unset]) rfl ?_
    show Steps p.tables e below (T23.setTop (mkF m 4 #[.val (.ref c1), .val (.ref bv23), .unset, .unset, .unset] [])) _
    refine XS.aloadN X23.here hx rfl (hb hby own_d1_4) rfl rfl ?_
    show Steps p.tables e below (T23.setTop (mkF m 5 #[.val (.ref c1), .val (.ref bv23), .unset, .unset, .unset] [(.ref bv23)])) _
    refine X23.arraylength hx Ar31.1 (State.isArrayOf_alike hZ.alike Ar31.2.1) (g := (mkF m 5 #[.val (.ref c1), .val (.ref bv23), .unset, .unset, .unset] [(.ref bv23)])) rfl rfl (hb hby own_d1_5) _ ?_
    rw [len_of S31 Ng31]
    show Steps p.tables e below (T23.setTop (mkF m 6 #[.val (.ref c1), .val (.ref bv23), .unset, .unset, .unset] [(.int (5 : Int32))])) _
    refine XS.istoreN X23.here hx rfl (hb hby own_d1_6) rfl (l' := #[.val (.ref c1), .val (.ref bv23), .val (.int (5 : Int32)), .unset, .unset]) rfl ?_
    show Steps p.tables e below (T23.setTop (mkF m 7 #[.val (.ref c1), .val (.ref bv23), .val (.int (5 : Int32)), .unset, .unset] [])) _
    refine XS.iconst X23.here hx rfl (hb hby own_d1_7) ?_
    show Steps p.tables e below (T23.setTop (mkF m 8 #[.val (.ref c1), .val (.ref bv23), .val (.int (5 : Int32)), .unset, .unset] [(.int (0 : Int32))])) _
    refine XS.istoreN X23.here hx rfl (hb hby own_d1_8) rfl (l' := #[.val (.ref c1), .val (.ref bv23), .val (.int (5 : Int32)), .val (.int (0 : Int32)), .unset]) rfl ?_
    show Steps p.tables e below (T23.setTop (mkF m 9 #[.val (.ref c1), .val (.ref bv23), .val (.int (5 : Int32)), .val (.int (0 : Int32)), .unset] [])) _
    refine XS.iloadN X23.here hx rfl (hb hby own_d1_9) rfl ?_
    show Steps p.tables e below (T23.setTop (mkF m 10 #[.val (.ref c1), .val (.ref bv23), .val (.int (5 : Int32)), .val (.int (0 : Int32)), .unset] [(.int (0 : Int32))])) _
    refine XS.iloadN X23.here hx rfl (hb hby own_d1_10) rfl ?_
    exact h
  obtain ⟨cl33, Ar33, q33, S33, Ng33, H33, G33⟩ := id Vq23
  have hin33 : ¬ ((0 : Int32) < 0 ∨ cl33.slots.size ≤ ((0 : Int32)).toNatClampNeg) := inb_of S33 ⟨by decide, by decide⟩
  obtain ⟨T34, X34, e34, st34⟩ := getF X23 hx hZ hown (host := "") (Or.inl (hw _ (List.mem_of_getElem? (i := 29) rfl))) Via.refl rfl f27 (g := (mkF m 21 #[.val (.ref c1), .val (.ref bv23), .val (.int (5 : Int32)), .val (.int (0 : Int32)), .val (.ref m0)] [(.ref m0)])) rfl rfl (hb hby own_d1_21)
  have k35 : ∀ t, Steps p.tables e below (T34.setTop (mkF m 25 #[.val (.ref c1), .val (.ref bv23), .val (.int (5 : Int32)), .val (.int (0 : Int32)), .val (.ref m0)] [(.ref c1), (.ref c0)])) t → Steps p.tables e below (s₁.setTop (mkF m 0 #[.val (.ref c1), .unset, .unset, .unset, .unset] [])) t := by
    intro t h
    refine k32 t ?_
    show Steps p.tables e below (T23.setTop (mkF m 11 #[.val (.ref c1), .val (.ref bv23), .val (.int (5 : Int32)), .val (.int (0 : Int32)), .unset] [(.int (5 : Int32)), (.int (0 : Int32))])) _
    refine XS.icmpNo X23.here hx rfl (hb hby own_d1_11) rfl (tlt (by decide : (0 : Int32) < (5 : Int32))).2.1 ?_
    show Steps p.tables e below (T23.setTop (mkF m 14 #[.val (.ref c1), .val (.ref bv23), .val (.int (5 : Int32)), .val (.int (0 : Int32)), .unset] [])) _
    refine XS.aloadN X23.here hx rfl (hb hby own_d1_14) rfl rfl ?_
    show Steps p.tables e below (T23.setTop (mkF m 15 #[.val (.ref c1), .val (.ref bv23), .val (.int (5 : Int32)), .val (.int (0 : Int32)), .unset] [(.ref bv23)])) _
    refine XS.iloadN X23.here hx rfl (hb hby own_d1_15) rfl ?_
    show Steps p.tables e below (T23.setTop (mkF m 16 #[.val (.ref c1), .val (.ref bv23), .val (.int (5 : Int32)), .val (.int (0 : Int32)), .unset] [(.int (0 : Int32)), (.ref bv23)])) _
    refine X23.aaload hx (j := (0 : Int32)) (v := (.ref m0)) Ar33.1 (State.isArrayOf_alike hZ.alike Ar33.2.1) rfl Ar33.2.2 hin33 (H33.at hin33 rfl) (g := (mkF m 16 #[.val (.ref c1), .val (.ref bv23), .val (.int (5 : Int32)), .val (.int (0 : Int32)), .unset] [(.int (0 : Int32)), (.ref bv23)])) rfl rfl (hb hby own_d1_16) _ ?_
    show Steps p.tables e below (T23.setTop (mkF m 17 #[.val (.ref c1), .val (.ref bv23), .val (.int (5 : Int32)), .val (.int (0 : Int32)), .unset] [(.ref m0)])) _
    refine XS.astore X23.here hx rfl (hb hby own_d1_17) rfl rfl (l' := #[.val (.ref c1), .val (.ref bv23), .val (.int (5 : Int32)), .val (.int (0 : Int32)), .val (.ref m0)]) rfl ?_
    show Steps p.tables e below (T23.setTop (mkF m 19 #[.val (.ref c1), .val (.ref bv23), .val (.int (5 : Int32)), .val (.int (0 : Int32)), .val (.ref m0)] [])) _
    refine XS.aload X23.here hx rfl (hb hby own_d1_19) rfl rfl ?_
    show Steps p.tables e below (T23.setTop (mkF m 21 #[.val (.ref c1), .val (.ref bv23), .val (.int (5 : Int32)), .val (.int (0 : Int32)), .val (.ref m0)] [(.ref m0)])) _
    refine st34 _ ?_
    show Steps p.tables e below (T34.setTop (mkF m 24 #[.val (.ref c1), .val (.ref bv23), .val (.int (5 : Int32)), .val (.int (0 : Int32)), .val (.ref m0)] [(.ref c0)])) _
    refine XS.aloadN X34.here hx rfl (hb hby own_d1_24) rfl rfl ?_
    exact h
  have k36 : ∀ t, Steps p.tables e below (T34.setTop (mkF m 11 #[.val (.ref c1), .val (.ref bv23), .val (.int (5 : Int32)), .val (.int (1 : Int32)), .val (.ref m0)] [(.int (5 : Int32)), (.int (1 : Int32))])) t → Steps p.tables e below (s₁.setTop (mkF m 0 #[.val (.ref c1), .unset, .unset, .unset, .unset] [])) t := by
    intro t h
    refine k35 t ?_
    show Steps p.tables e below (T34.setTop (mkF m 25 #[.val (.ref c1), .val (.ref bv23), .val (.int (5 : Int32)), .val (.int (0 : Int32)), .val (.ref m0)] [(.ref c1), (.ref c0)])) _
    refine Jvm.RoadKit.acmp (g := (mkF m 25 #[.val (.ref c1), .val (.ref bv23), .val (.int (5 : Int32)), .val (.int (0 : Int32)), .val (.ref m0)] [(.ref c1), (.ref c0)])) X34 hx rfl rfl rfl (pc0 := 25) (pc' := 31) (same := false) rfl (hb hby own_d1_25) rfl (decide_eq_false fun q => ne0 (Value.ref.inj q)) (by decide) (by decide) ?_
    show Steps p.tables e below (T34.setTop (mkF m 31 #[.val (.ref c1), .val (.ref bv23), .val (.int (5 : Int32)), .val (.int (0 : Int32)), .val (.ref m0)] [])) _
    refine XS.iinc X34.here hx rfl (hb hby own_d1_31) rfl (l' := #[.val (.ref c1), .val (.ref bv23), .val (.int (5 : Int32)), .val (.int (1 : Int32)), .val (.ref m0)]) rfl ?_
    show Steps p.tables e below (T34.setTop (mkF m 34 #[.val (.ref c1), .val (.ref bv23), .val (.int (5 : Int32)), .val (.int (1 : Int32)), .val (.ref m0)] [])) _
    refine XS.goto X34.here hx rfl (pc0 := 34) (pc' := 9) rfl (hb hby own_d1_34) (by decide) (by decide) ?_
    show Steps p.tables e below (T34.setTop (mkF m 9 #[.val (.ref c1), .val (.ref bv23), .val (.int (5 : Int32)), .val (.int (1 : Int32)), .val (.ref m0)] [])) _
    refine XS.iloadN X34.here hx rfl (hb hby own_d1_9) rfl ?_
    show Steps p.tables e below (T34.setTop (mkF m 10 #[.val (.ref c1), .val (.ref bv23), .val (.int (5 : Int32)), .val (.int (1 : Int32)), .val (.ref m0)] [(.int (1 : Int32))])) _
    refine XS.iloadN X34.here hx rfl (hb hby own_d1_10) rfl ?_
    exact h
  obtain ⟨cl37, Ar37, q37, S37, Ng37, H37, G37⟩ := id Vq23
  have hin37 : ¬ ((1 : Int32) < 0 ∨ cl37.slots.size ≤ ((1 : Int32)).toNatClampNeg) := inb_of S37 ⟨by decide, by decide⟩
  obtain ⟨T38, X38, e38, st38⟩ := getF X34 hx hZ hown (host := "") (Or.inl (hw _ (List.mem_of_getElem? (i := 29) rfl))) Via.refl e34 f28 (g := (mkF m 21 #[.val (.ref c1), .val (.ref bv23), .val (.int (5 : Int32)), .val (.int (1 : Int32)), .val (.ref m1)] [(.ref m1)])) rfl rfl (hb hby own_d1_21)
  have k39 : ∀ t, Steps p.tables e below (T38.setTop (mkF m 25 #[.val (.ref c1), .val (.ref bv23), .val (.int (5 : Int32)), .val (.int (1 : Int32)), .val (.ref m1)] [(.ref c1), (.ref c1)])) t → Steps p.tables e below (s₁.setTop (mkF m 0 #[.val (.ref c1), .unset, .unset, .unset, .unset] [])) t := by
    intro t h
    refine k36 t ?_
    show Steps p.tables e below (T34.setTop (mkF m 11 #[.val (.ref c1), .val (.ref bv23), .val (.int (5 : Int32)), .val (.int (1 : Int32)), .val (.ref m0)] [(.int (5 : Int32)), (.int (1 : Int32))])) _
    refine XS.icmpNo X34.here hx rfl (hb hby own_d1_11) rfl (tlt (by decide : (1 : Int32) < (5 : Int32))).2.1 ?_
    show Steps p.tables e below (T34.setTop (mkF m 14 #[.val (.ref c1), .val (.ref bv23), .val (.int (5 : Int32)), .val (.int (1 : Int32)), .val (.ref m0)] [])) _
    refine XS.aloadN X34.here hx rfl (hb hby own_d1_14) rfl rfl ?_
    show Steps p.tables e below (T34.setTop (mkF m 15 #[.val (.ref c1), .val (.ref bv23), .val (.int (5 : Int32)), .val (.int (1 : Int32)), .val (.ref m0)] [(.ref bv23)])) _
    refine XS.iloadN X34.here hx rfl (hb hby own_d1_15) rfl ?_
    show Steps p.tables e below (T34.setTop (mkF m 16 #[.val (.ref c1), .val (.ref bv23), .val (.int (5 : Int32)), .val (.int (1 : Int32)), .val (.ref m0)] [(.int (1 : Int32)), (.ref bv23)])) _
    refine X34.aaload hx (j := (1 : Int32)) (v := (.ref m1)) (by rw [e34]; exact Ar37.1) (State.isArrayOf_alike hZ.alike Ar37.2.1) rfl Ar37.2.2 hin37 (H37.at hin37 rfl) (g := (mkF m 16 #[.val (.ref c1), .val (.ref bv23), .val (.int (5 : Int32)), .val (.int (1 : Int32)), .val (.ref m0)] [(.int (1 : Int32)), (.ref bv23)])) rfl rfl (hb hby own_d1_16) _ ?_
    show Steps p.tables e below (T34.setTop (mkF m 17 #[.val (.ref c1), .val (.ref bv23), .val (.int (5 : Int32)), .val (.int (1 : Int32)), .val (.ref m0)] [(.ref m1)])) _
    refine XS.astore X34.here hx rfl (hb hby own_d1_17) rfl rfl (l' := #[.val (.ref c1), .val (.ref bv23), .val (.int (5 : Int32)), .val (.int (1 : Int32)), .val (.ref m1)]) rfl ?_
    show Steps p.tables e below (T34.setTop (mkF m 19 #[.val (.ref c1), .val (.ref bv23), .val (.int (5 : Int32)), .val (.int (1 : Int32)), .val (.ref m1)] [])) _
    refine XS.aload X34.here hx rfl (hb hby own_d1_19) rfl rfl ?_
    show Steps p.tables e below (T34.setTop (mkF m 21 #[.val (.ref c1), .val (.ref bv23), .val (.int (5 : Int32)), .val (.int (1 : Int32)), .val (.ref m1)] [(.ref m1)])) _
    refine st38 _ ?_
    show Steps p.tables e below (T38.setTop (mkF m 24 #[.val (.ref c1), .val (.ref bv23), .val (.int (5 : Int32)), .val (.int (1 : Int32)), .val (.ref m1)] [(.ref c1)])) _
    refine XS.aloadN X38.here hx rfl (hb hby own_d1_24) rfl rfl ?_
    exact h
  have k40 : ∀ t, Steps p.tables e below (T38.setTop (mkF m 30 #[.val (.ref c1), .val (.ref bv23), .val (.int (5 : Int32)), .val (.int (1 : Int32)), .val (.ref m1)] [(.ref m1)])) t → Steps p.tables e below (s₁.setTop (mkF m 0 #[.val (.ref c1), .unset, .unset, .unset, .unset] [])) t := by
    intro t h
    refine k39 t ?_
    show Steps p.tables e below (T38.setTop (mkF m 25 #[.val (.ref c1), .val (.ref bv23), .val (.int (5 : Int32)), .val (.int (1 : Int32)), .val (.ref m1)] [(.ref c1), (.ref c1)])) _
    refine Jvm.RoadKit.acmp (g := (mkF m 25 #[.val (.ref c1), .val (.ref bv23), .val (.int (5 : Int32)), .val (.int (1 : Int32)), .val (.ref m1)] [(.ref c1), (.ref c1)])) X38 hx rfl rfl rfl (pc0 := 25) (pc' := 28) (same := true) rfl (hb hby own_d1_25) rfl (decide_eq_true rfl) (by decide) (by decide) ?_
    show Steps p.tables e below (T38.setTop (mkF m 28 #[.val (.ref c1), .val (.ref bv23), .val (.int (5 : Int32)), .val (.int (1 : Int32)), .val (.ref m1)] [])) _
    refine XS.aload X38.here hx rfl (hb hby own_d1_28) rfl rfl ?_
    exact h
  obtain ⟨fs, hr, hrun, hended, hW, hsame⟩ := X38.leave (v := some (.ref m1)) (fun h => by rw [Bd.returns] at h; cases h) Bd.notSynchronized
  refine ⟨_, _, pre0 _ (k40 _ ?_), hrun, hended, _, _, rfl, ?_, ⟨_, rfl⟩, hW, hsame.mono (by decide) (by decide)⟩
  · jvm_step X38.here [X38.here.top, hx, (hb hby own_d1_30), X38.method', Bd.returns, Value.isRef, FieldType.isReference]
    first | (intro acts; rw [hr _ acts rfl rfl rfl]) | rw [hr _ _ rfl rfl rfl]
    exact Steps.refl _
  · show Q_rmO1 Z _ _ _ _ _ _ _ _ _ h0 n0 _ T38.heap _
    rw [e38]
    exact ⟨rfl, N23, K30⟩
def Q_rmO2 (Z : State) (c2 : Addr) (va : Addr) (kv : ClassId) (m0 : Addr) (m1 : Addr) (m2 : Addr) (m3 : Addr) (m4 : Addr) (c0 : Addr) (c1 : Addr) (h0 : Heap) (n0 : Nat) (v : Option Value) (h : Heap) (L : List Loc) : Prop := v = some (.ref m2) ∧ Fr n0 L ∧ Keep h0 h []
set_option maxRecDepth 65536 in
set_option maxHeartbeats 40000000 in
theorem rmO2 (l : Launch) (Z : State) (a0 : Array Value) (hw : ∀ d ∈ tables_1, d.before a0 Z = true) (ws : List Jvm.Cond) (c2 : Addr) (va : Addr) (kv : ClassId) (m0 : Addr) (m1 : Addr) (m2 : Addr) (m3 : Addr) (m4 : Addr) (c0 : Addr) (c1 : Addr) (h0 : Heap) (n0 : Nat) (Z0 : n0 ≤ h0.size) (S1 : Sta Z h0 "com/example/planwright/planwright/quality/Measure" "$VALUES" "[Lcom/example/planwright/planwright/quality/Measure;" (.ref va)) (V1 : Arv Z h0 va kv (.object "com/example/planwright/planwright/quality/Measure") (5 : Int32) [(.ref m0), (.ref m1), (.ref m2), (.ref m3), (.ref m4)] .null) (E1 : Exa Z h0 va "[Lcom/example/planwright/planwright/quality/Measure;") (FC : ∀ cl : Cell, h0[va]? = some cl → FitC Z cl) (F0 : Fld Z h0 m0 "com/example/planwright/planwright/quality/Measure" "criterion" "Lcom/example/planwright/planwright/model/Criterion;" (.ref c0)) (F1 : Fld Z h0 m1 "com/example/planwright/planwright/quality/Measure" "criterion" "Lcom/example/planwright/planwright/model/Criterion;" (.ref c1)) (F2 : Fld Z h0 m2 "com/example/planwright/planwright/quality/Measure" "criterion" "Lcom/example/planwright/planwright/model/Criterion;" (.ref c2)) (ne0 : c0 ≠ c2) (ne1 : c1 ≠ c2) :
    MetFree l (⟨"com/example/planwright/planwright/quality/Measure", "of", "(Lcom/example/planwright/planwright/model/Criterion;)Lcom/example/planwright/planwright/quality/Measure;"⟩ : MethodName) (head1 (Jvm.Cond.code (⟨"com/example/planwright/planwright/quality/Measure", "of", "(Lcom/example/planwright/planwright/model/Criterion;)Lcom/example/planwright/planwright/quality/Measure;"⟩ : MethodName) prog_60_method_4_code 5 (some (.object "com/example/planwright/planwright/quality/Measure")) :: ws) ({ frames := 2, cells := 1, slots := 5, locals := 25 } : Room)) (fun a U => a = #[(.ref c2)] ∧ Z.Warmed39 U.vm ∧ U.heap = h0) (fun _ _ _ _ _ => True) (fun _ U o U' => ∃ v L, o = .returned v ∧ Q_rmO2 Z c2 va kv m0 m1 m2 m3 m4 c0 c1 h0 n0 v U'.heap L ∧ FrameEnd U o U' L ({ frames := 2, cells := 1, slots := 5, locals := 25 } : Room).cells ({ frames := 2, cells := 1, slots := 5, locals := 25 } : Room).slots) := by
  refine MetFree.of_bodySF (plainFor_of_name own_pn_0) hisR ?_
  intro p e s m args below meth c s₁ Bd hml0 hP hK
  obtain ⟨rfl, hZ, hh⟩ := hP
  have hx := Bd.exec
  have hby := Bd.bytes
  have hml : c.maxLocals = 5 := hml0
  have hown : s.vm.findClass "com/example/planwright/planwright/quality/Measure" = some m.cls := findClass_of_methodNamed Bd.named
  have hnm := (name_of_methodNamed Bd.named Bd.method).1
  have X0 : Stand p l e ({ frames := 2, cells := 1, slots := 5, locals := 25 } : Room) s m #[(.ref c2)] below meth c s₁ [] 0 0 := Stand.of_body Bd
  have e0 : s₁.heap = h0 := by rw [← hh, Bd.state]; rfl
  have N0 := Fr.nil n0
  have K0 : Keep h0 h0 [] := Keep.refl h0 _
  have pre0 : ∀ t, Steps p.tables e below (s₁.setTop (mkF m 0 #[.val (.ref c2), .unset, .unset, .unset, .unset] [])) t → Steps p.tables e below (s₁.setTop (entryFrame m #[(.ref c2)] 5)) t := fun t k => castTop (own_ef_1 m c2) k
  obtain ⟨_, _, ⟨T41, L41, k41, n41⟩, -, X41, ⟨Lc41, hQ41, l41, y41, z41⟩, st41⟩ := Jvm.LawKit.callS X0 hx (y := (⟨"com/example/planwright/planwright/quality/Measure", "values", "()[Lcom/example/planwright/planwright/quality/Measure;"⟩ : MethodName)) hown (mvT hZ (hw _ (List.mem_of_getElem? (i := 10) rfl))) (mvT hZ (hw _ (List.mem_of_getElem? (i := 11) rfl))) (mvT hZ (hw _ (List.mem_of_getElem? (i := 5) rfl))) (mvT hZ (hw _ (List.mem_of_getElem? (i := 12) rfl))) (by decide) (backOf (W := 0) (rmV l Z a0 hw []  va kv m0 m1 m2 m3 m4 h0 n0 Z0 S1 V1 E1 FC) hZ (hw _ (List.mem_of_getElem? (i := 12) rfl)) (hw _ (List.mem_of_getElem? (i := 5) rfl)) (by decide) (by decide)) (g := (mkF m 0 #[.val (.ref c2), .unset, .unset, .unset, .unset] [])) rfl (by rw [hml]; rfl) (argsL := []) (rest := []) (lenOf own_pd_0 rfl) rfl (by show 2 * 0 + _ ≤ _; exact Nat.le_of_eq rfl) (hb hby own_d1_0) (fun _ _ => ⟨rfl, e0, (by decide : 0 + 1 ≤ _), (by decide : 0 + 5 ≤ _)⟩)
  dsimp only [Pt.U, Pt.locs, Pt.cells, Pt.slots] at X41 l41 y41 z41 st41 hQ41
  subst l41 y41 z41
  obtain ⟨bv41, kq41, rfl, Nq41, Kq41, Vq41⟩ := hQ41
  have N41 := Fr.app N0 Nq41
  have f42 := own_sta_keep S1 Kq41 all0
  have f43 := V1.keep Kq41 nin0
  have f44 := E1.keep Kq41
  have f45 := F0.keep Kq41 nin0
  have f46 := F1.keep Kq41 nin0
  have f47 := F2.keep Kq41 nin0
  have Z48 : n0 ≤ T41.heap.size := Nat.le_trans Z0 Kq41.1
  have K49 := K0.trans Kq41 all0
  obtain ⟨cl50, Ar50, q50, S50, Ng50, H50, G50⟩ := id Vq41
  have k51 : ∀ t, Steps p.tables e below (T41.setTop (mkF m 11 #[.val (.ref c2), .val (.ref bv41), .val (.int (5 : Int32)), .val (.int (0 : Int32)), .unset] [(.int (5 : Int32)), (.int (0 : Int32))])) t → Steps p.tables e below (s₁.setTop (mkF m 0 #[.val (.ref c2), .unset, .unset, .unset, .unset] [])) t := by
    intro t h
    show Steps p.tables e below (s₁.setTop (mkF m 0 #[.val (.ref c2), .unset, .unset, .unset, .unset] [])) _
    refine st41 _ ?_
    show Steps p.tables e below (T41.setTop (mkF m 3 #[.val (.ref c2), .unset, .unset, .unset, .unset] [(.ref bv41)])) _
    refine XS.astoreN X41.here hx rfl (hb hby own_d1_3) rfl rfl (l' := #[.val (.ref c2), .val (.ref bv41), .unset, .unset, .unset]) rfl ?_
    show Steps p.tables e below (T41.setTop (mkF m 4 #[.val (.ref c2), .val (.ref bv41), .unset, .unset, .unset] [])) _
    refine XS.aloadN X41.here hx rfl (hb hby own_d1_4) rfl rfl ?_
    show Steps p.tables e below (T41.setTop (mkF m 5 #[.val (.ref c2), .val (.ref bv41), .unset, .unset, .unset] [(.ref bv41)])) _
    refine X41.arraylength hx Ar50.1 (State.isArrayOf_alike hZ.alike Ar50.2.1) (g := (mkF m 5 #[.val (.ref c2), .val (.ref bv41), .unset, .unset, .unset] [(.ref bv41)])) rfl rfl (hb hby own_d1_5) _ ?_
    rw [len_of S50 Ng50]
    show Steps p.tables e below (T41.setTop (mkF m 6 #[.val (.ref c2), .val (.ref bv41), .unset, .unset, .unset] [(.int (5 : Int32))])) _
    refine XS.istoreN X41.here hx rfl (hb hby own_d1_6) rfl (l' := #[.val (.ref c2), .val (.ref bv41), .val (.int (5 : Int32)), .unset, .unset]) rfl ?_
    show Steps p.tables e below (T41.setTop (mkF m 7 #[.val (.ref c2), .val (.ref bv41), .val (.int (5 : Int32)), .unset, .unset] [])) _
    refine XS.iconst X41.here hx rfl (hb hby own_d1_7) ?_
    show Steps p.tables e below (T41.setTop (mkF m 8 #[.val (.ref c2), .val (.ref bv41), .val (.int (5 : Int32)), .unset, .unset] [(.int (0 : Int32))])) _
    refine XS.istoreN X41.here hx rfl (hb hby own_d1_8) rfl (l' := #[.val (.ref c2), .val (.ref bv41), .val (.int (5 : Int32)), .val (.int (0 : Int32)), .unset]) rfl ?_
    show Steps p.tables e below (T41.setTop (mkF m 9 #[.val (.ref c2), .val (.ref bv41), .val (.int (5 : Int32)), .val (.int (0 : Int32)), .unset] [])) _
    refine XS.iloadN X41.here hx rfl (hb hby own_d1_9) rfl ?_
    show Steps p.tables e below (T41.setTop (mkF m 10 #[.val (.ref c2), .val (.ref bv41), .val (.int (5 : Int32)), .val (.int (0 : Int32)), .unset] [(.int (0 : Int32))])) _
    refine XS.iloadN X41.here hx rfl (hb hby own_d1_10) rfl ?_
    exact h
  obtain ⟨cl52, Ar52, q52, S52, Ng52, H52, G52⟩ := id Vq41
  have hin52 : ¬ ((0 : Int32) < 0 ∨ cl52.slots.size ≤ ((0 : Int32)).toNatClampNeg) := inb_of S52 ⟨by decide, by decide⟩
  obtain ⟨T53, X53, e53, st53⟩ := getF X41 hx hZ hown (host := "") (Or.inl (hw _ (List.mem_of_getElem? (i := 29) rfl))) Via.refl rfl f45 (g := (mkF m 21 #[.val (.ref c2), .val (.ref bv41), .val (.int (5 : Int32)), .val (.int (0 : Int32)), .val (.ref m0)] [(.ref m0)])) rfl rfl (hb hby own_d1_21)
  have k54 : ∀ t, Steps p.tables e below (T53.setTop (mkF m 25 #[.val (.ref c2), .val (.ref bv41), .val (.int (5 : Int32)), .val (.int (0 : Int32)), .val (.ref m0)] [(.ref c2), (.ref c0)])) t → Steps p.tables e below (s₁.setTop (mkF m 0 #[.val (.ref c2), .unset, .unset, .unset, .unset] [])) t := by
    intro t h
    refine k51 t ?_
    show Steps p.tables e below (T41.setTop (mkF m 11 #[.val (.ref c2), .val (.ref bv41), .val (.int (5 : Int32)), .val (.int (0 : Int32)), .unset] [(.int (5 : Int32)), (.int (0 : Int32))])) _
    refine XS.icmpNo X41.here hx rfl (hb hby own_d1_11) rfl (tlt (by decide : (0 : Int32) < (5 : Int32))).2.1 ?_
    show Steps p.tables e below (T41.setTop (mkF m 14 #[.val (.ref c2), .val (.ref bv41), .val (.int (5 : Int32)), .val (.int (0 : Int32)), .unset] [])) _
    refine XS.aloadN X41.here hx rfl (hb hby own_d1_14) rfl rfl ?_
    show Steps p.tables e below (T41.setTop (mkF m 15 #[.val (.ref c2), .val (.ref bv41), .val (.int (5 : Int32)), .val (.int (0 : Int32)), .unset] [(.ref bv41)])) _
    refine XS.iloadN X41.here hx rfl (hb hby own_d1_15) rfl ?_
    show Steps p.tables e below (T41.setTop (mkF m 16 #[.val (.ref c2), .val (.ref bv41), .val (.int (5 : Int32)), .val (.int (0 : Int32)), .unset] [(.int (0 : Int32)), (.ref bv41)])) _
    refine X41.aaload hx (j := (0 : Int32)) (v := (.ref m0)) Ar52.1 (State.isArrayOf_alike hZ.alike Ar52.2.1) rfl Ar52.2.2 hin52 (H52.at hin52 rfl) (g := (mkF m 16 #[.val (.ref c2), .val (.ref bv41), .val (.int (5 : Int32)), .val (.int (0 : Int32)), .unset] [(.int (0 : Int32)), (.ref bv41)])) rfl rfl (hb hby own_d1_16) _ ?_
    show Steps p.tables e below (T41.setTop (mkF m 17 #[.val (.ref c2), .val (.ref bv41), .val (.int (5 : Int32)), .val (.int (0 : Int32)), .unset] [(.ref m0)])) _
    refine XS.astore X41.here hx rfl (hb hby own_d1_17) rfl rfl (l' := #[.val (.ref c2), .val (.ref bv41), .val (.int (5 : Int32)), .val (.int (0 : Int32)), .val (.ref m0)]) rfl ?_
    show Steps p.tables e below (T41.setTop (mkF m 19 #[.val (.ref c2), .val (.ref bv41), .val (.int (5 : Int32)), .val (.int (0 : Int32)), .val (.ref m0)] [])) _
    refine XS.aload X41.here hx rfl (hb hby own_d1_19) rfl rfl ?_
    show Steps p.tables e below (T41.setTop (mkF m 21 #[.val (.ref c2), .val (.ref bv41), .val (.int (5 : Int32)), .val (.int (0 : Int32)), .val (.ref m0)] [(.ref m0)])) _
    refine st53 _ ?_
    show Steps p.tables e below (T53.setTop (mkF m 24 #[.val (.ref c2), .val (.ref bv41), .val (.int (5 : Int32)), .val (.int (0 : Int32)), .val (.ref m0)] [(.ref c0)])) _
    refine XS.aloadN X53.here hx rfl (hb hby own_d1_24) rfl rfl ?_
    exact h
  have k55 : ∀ t, Steps p.tables e below (T53.setTop (mkF m 11 #[.val (.ref c2), .val (.ref bv41), .val (.int (5 : Int32)), .val (.int (1 : Int32)), .val (.ref m0)] [(.int (5 : Int32)), (.int (1 : Int32))])) t → Steps p.tables e below (s₁.setTop (mkF m 0 #[.val (.ref c2), .unset, .unset, .unset, .unset] [])) t := by
    intro t h
    refine k54 t ?_
    show Steps p.tables e below (T53.setTop (mkF m 25 #[.val (.ref c2), .val (.ref bv41), .val (.int (5 : Int32)), .val (.int (0 : Int32)), .val (.ref m0)] [(.ref c2), (.ref c0)])) _
    refine Jvm.RoadKit.acmp (g := (mkF m 25 #[.val (.ref c2), .val (.ref bv41), .val (.int (5 : Int32)), .val (.int (0 : Int32)), .val (.ref m0)] [(.ref c2), (.ref c0)])) X53 hx rfl rfl rfl (pc0 := 25) (pc' := 31) (same := false) rfl (hb hby own_d1_25) rfl (decide_eq_false fun q => ne0 (Value.ref.inj q)) (by decide) (by decide) ?_
    show Steps p.tables e below (T53.setTop (mkF m 31 #[.val (.ref c2), .val (.ref bv41), .val (.int (5 : Int32)), .val (.int (0 : Int32)), .val (.ref m0)] [])) _
    refine XS.iinc X53.here hx rfl (hb hby own_d1_31) rfl (l' := #[.val (.ref c2), .val (.ref bv41), .val (.int (5 : Int32)), .val (.int (1 : Int32)), .val (.ref m0)]) rfl ?_
    show Steps p.tables e below (T53.setTop (mkF m 34 #[.val (.ref c2), .val (.ref bv41), .val (.int (5 : Int32)), .val (.int (1 : Int32)), .val (.ref m0)] [])) _
    refine XS.goto X53.here hx rfl (pc0 := 34) (pc' := 9) rfl (hb hby own_d1_34) (by decide) (by decide) ?_
    show Steps p.tables e below (T53.setTop (mkF m 9 #[.val (.ref c2), .val (.ref bv41), .val (.int (5 : Int32)), .val (.int (1 : Int32)), .val (.ref m0)] [])) _
    refine XS.iloadN X53.here hx rfl (hb hby own_d1_9) rfl ?_
    show Steps p.tables e below (T53.setTop (mkF m 10 #[.val (.ref c2), .val (.ref bv41), .val (.int (5 : Int32)), .val (.int (1 : Int32)), .val (.ref m0)] [(.int (1 : Int32))])) _
    refine XS.iloadN X53.here hx rfl (hb hby own_d1_10) rfl ?_
    exact h
  obtain ⟨cl56, Ar56, q56, S56, Ng56, H56, G56⟩ := id Vq41
  have hin56 : ¬ ((1 : Int32) < 0 ∨ cl56.slots.size ≤ ((1 : Int32)).toNatClampNeg) := inb_of S56 ⟨by decide, by decide⟩
  obtain ⟨T57, X57, e57, st57⟩ := getF X53 hx hZ hown (host := "") (Or.inl (hw _ (List.mem_of_getElem? (i := 29) rfl))) Via.refl e53 f46 (g := (mkF m 21 #[.val (.ref c2), .val (.ref bv41), .val (.int (5 : Int32)), .val (.int (1 : Int32)), .val (.ref m1)] [(.ref m1)])) rfl rfl (hb hby own_d1_21)
  have k58 : ∀ t, Steps p.tables e below (T57.setTop (mkF m 25 #[.val (.ref c2), .val (.ref bv41), .val (.int (5 : Int32)), .val (.int (1 : Int32)), .val (.ref m1)] [(.ref c2), (.ref c1)])) t → Steps p.tables e below (s₁.setTop (mkF m 0 #[.val (.ref c2), .unset, .unset, .unset, .unset] [])) t := by
    intro t h
    refine k55 t ?_
    show Steps p.tables e below (T53.setTop (mkF m 11 #[.val (.ref c2), .val (.ref bv41), .val (.int (5 : Int32)), .val (.int (1 : Int32)), .val (.ref m0)] [(.int (5 : Int32)), (.int (1 : Int32))])) _
    refine XS.icmpNo X53.here hx rfl (hb hby own_d1_11) rfl (tlt (by decide : (1 : Int32) < (5 : Int32))).2.1 ?_
    show Steps p.tables e below (T53.setTop (mkF m 14 #[.val (.ref c2), .val (.ref bv41), .val (.int (5 : Int32)), .val (.int (1 : Int32)), .val (.ref m0)] [])) _
    refine XS.aloadN X53.here hx rfl (hb hby own_d1_14) rfl rfl ?_
    show Steps p.tables e below (T53.setTop (mkF m 15 #[.val (.ref c2), .val (.ref bv41), .val (.int (5 : Int32)), .val (.int (1 : Int32)), .val (.ref m0)] [(.ref bv41)])) _
    refine XS.iloadN X53.here hx rfl (hb hby own_d1_15) rfl ?_
    show Steps p.tables e below (T53.setTop (mkF m 16 #[.val (.ref c2), .val (.ref bv41), .val (.int (5 : Int32)), .val (.int (1 : Int32)), .val (.ref m0)] [(.int (1 : Int32)), (.ref bv41)])) _
    refine X53.aaload hx (j := (1 : Int32)) (v := (.ref m1)) (by rw [e53]; exact Ar56.1) (State.isArrayOf_alike hZ.alike Ar56.2.1) rfl Ar56.2.2 hin56 (H56.at hin56 rfl) (g := (mkF m 16 #[.val (.ref c2), .val (.ref bv41), .val (.int (5 : Int32)), .val (.int (1 : Int32)), .val (.ref m0)] [(.int (1 : Int32)), (.ref bv41)])) rfl rfl (hb hby own_d1_16) _ ?_
    show Steps p.tables e below (T53.setTop (mkF m 17 #[.val (.ref c2), .val (.ref bv41), .val (.int (5 : Int32)), .val (.int (1 : Int32)), .val (.ref m0)] [(.ref m1)])) _
    refine XS.astore X53.here hx rfl (hb hby own_d1_17) rfl rfl (l' := #[.val (.ref c2), .val (.ref bv41), .val (.int (5 : Int32)), .val (.int (1 : Int32)), .val (.ref m1)]) rfl ?_
    show Steps p.tables e below (T53.setTop (mkF m 19 #[.val (.ref c2), .val (.ref bv41), .val (.int (5 : Int32)), .val (.int (1 : Int32)), .val (.ref m1)] [])) _
    refine XS.aload X53.here hx rfl (hb hby own_d1_19) rfl rfl ?_
    show Steps p.tables e below (T53.setTop (mkF m 21 #[.val (.ref c2), .val (.ref bv41), .val (.int (5 : Int32)), .val (.int (1 : Int32)), .val (.ref m1)] [(.ref m1)])) _
    refine st57 _ ?_
    show Steps p.tables e below (T57.setTop (mkF m 24 #[.val (.ref c2), .val (.ref bv41), .val (.int (5 : Int32)), .val (.int (1 : Int32)), .val (.ref m1)] [(.ref c1)])) _
    refine XS.aloadN X57.here hx rfl (hb hby own_d1_24) rfl rfl ?_
    exact h
  have k59 : ∀ t, Steps p.tables e below (T57.setTop (mkF m 11 #[.val (.ref c2), .val (.ref bv41), .val (.int (5 : Int32)), .val (.int (2 : Int32)), .val (.ref m1)] [(.int (5 : Int32)), (.int (2 : Int32))])) t → Steps p.tables e below (s₁.setTop (mkF m 0 #[.val (.ref c2), .unset, .unset, .unset, .unset] [])) t := by
    intro t h
    refine k58 t ?_
    show Steps p.tables e below (T57.setTop (mkF m 25 #[.val (.ref c2), .val (.ref bv41), .val (.int (5 : Int32)), .val (.int (1 : Int32)), .val (.ref m1)] [(.ref c2), (.ref c1)])) _
    refine Jvm.RoadKit.acmp (g := (mkF m 25 #[.val (.ref c2), .val (.ref bv41), .val (.int (5 : Int32)), .val (.int (1 : Int32)), .val (.ref m1)] [(.ref c2), (.ref c1)])) X57 hx rfl rfl rfl (pc0 := 25) (pc' := 31) (same := false) rfl (hb hby own_d1_25) rfl (decide_eq_false fun q => ne1 (Value.ref.inj q)) (by decide) (by decide) ?_
    show Steps p.tables e below (T57.setTop (mkF m 31 #[.val (.ref c2), .val (.ref bv41), .val (.int (5 : Int32)), .val (.int (1 : Int32)), .val (.ref m1)] [])) _
    refine XS.iinc X57.here hx rfl (hb hby own_d1_31) rfl (l' := #[.val (.ref c2), .val (.ref bv41), .val (.int (5 : Int32)), .val (.int (2 : Int32)), .val (.ref m1)]) rfl ?_
    show Steps p.tables e below (T57.setTop (mkF m 34 #[.val (.ref c2), .val (.ref bv41), .val (.int (5 : Int32)), .val (.int (2 : Int32)), .val (.ref m1)] [])) _
    refine XS.goto X57.here hx rfl (pc0 := 34) (pc' := 9) rfl (hb hby own_d1_34) (by decide) (by decide) ?_
    show Steps p.tables e below (T57.setTop (mkF m 9 #[.val (.ref c2), .val (.ref bv41), .val (.int (5 : Int32)), .val (.int (2 : Int32)), .val (.ref m1)] [])) _
    refine XS.iloadN X57.here hx rfl (hb hby own_d1_9) rfl ?_
    show Steps p.tables e below (T57.setTop (mkF m 10 #[.val (.ref c2), .val (.ref bv41), .val (.int (5 : Int32)), .val (.int (2 : Int32)), .val (.ref m1)] [(.int (2 : Int32))])) _
    refine XS.iloadN X57.here hx rfl (hb hby own_d1_10) rfl ?_
    exact h
  obtain ⟨cl60, Ar60, q60, S60, Ng60, H60, G60⟩ := id Vq41
  have hin60 : ¬ ((2 : Int32) < 0 ∨ cl60.slots.size ≤ ((2 : Int32)).toNatClampNeg) := inb_of S60 ⟨by decide, by decide⟩
  obtain ⟨T61, X61, e61, st61⟩ := getF X57 hx hZ hown (host := "") (Or.inl (hw _ (List.mem_of_getElem? (i := 29) rfl))) Via.refl e57 f47 (g := (mkF m 21 #[.val (.ref c2), .val (.ref bv41), .val (.int (5 : Int32)), .val (.int (2 : Int32)), .val (.ref m2)] [(.ref m2)])) rfl rfl (hb hby own_d1_21)
  have k62 : ∀ t, Steps p.tables e below (T61.setTop (mkF m 25 #[.val (.ref c2), .val (.ref bv41), .val (.int (5 : Int32)), .val (.int (2 : Int32)), .val (.ref m2)] [(.ref c2), (.ref c2)])) t → Steps p.tables e below (s₁.setTop (mkF m 0 #[.val (.ref c2), .unset, .unset, .unset, .unset] [])) t := by
    intro t h
    refine k59 t ?_
    show Steps p.tables e below (T57.setTop (mkF m 11 #[.val (.ref c2), .val (.ref bv41), .val (.int (5 : Int32)), .val (.int (2 : Int32)), .val (.ref m1)] [(.int (5 : Int32)), (.int (2 : Int32))])) _
    refine XS.icmpNo X57.here hx rfl (hb hby own_d1_11) rfl (tlt (by decide : (2 : Int32) < (5 : Int32))).2.1 ?_
    show Steps p.tables e below (T57.setTop (mkF m 14 #[.val (.ref c2), .val (.ref bv41), .val (.int (5 : Int32)), .val (.int (2 : Int32)), .val (.ref m1)] [])) _
    refine XS.aloadN X57.here hx rfl (hb hby own_d1_14) rfl rfl ?_
    show Steps p.tables e below (T57.setTop (mkF m 15 #[.val (.ref c2), .val (.ref bv41), .val (.int (5 : Int32)), .val (.int (2 : Int32)), .val (.ref m1)] [(.ref bv41)])) _
    refine XS.iloadN X57.here hx rfl (hb hby own_d1_15) rfl ?_
    show Steps p.tables e below (T57.setTop (mkF m 16 #[.val (.ref c2), .val (.ref bv41), .val (.int (5 : Int32)), .val (.int (2 : Int32)), .val (.ref m1)] [(.int (2 : Int32)), (.ref bv41)])) _
    refine X57.aaload hx (j := (2 : Int32)) (v := (.ref m2)) (by rw [e57]; exact Ar60.1) (State.isArrayOf_alike hZ.alike Ar60.2.1) rfl Ar60.2.2 hin60 (H60.at hin60 rfl) (g := (mkF m 16 #[.val (.ref c2), .val (.ref bv41), .val (.int (5 : Int32)), .val (.int (2 : Int32)), .val (.ref m1)] [(.int (2 : Int32)), (.ref bv41)])) rfl rfl (hb hby own_d1_16) _ ?_
    show Steps p.tables e below (T57.setTop (mkF m 17 #[.val (.ref c2), .val (.ref bv41), .val (.int (5 : Int32)), .val (.int (2 : Int32)), .val (.ref m1)] [(.ref m2)])) _
    refine XS.astore X57.here hx rfl (hb hby own_d1_17) rfl rfl (l' := #[.val (.ref c2), .val (.ref bv41), .val (.int (5 : Int32)), .val (.int (2 : Int32)), .val (.ref m2)]) rfl ?_
    show Steps p.tables e below (T57.setTop (mkF m 19 #[.val (.ref c2), .val (.ref bv41), .val (.int (5 : Int32)), .val (.int (2 : Int32)), .val (.ref m2)] [])) _
    refine XS.aload X57.here hx rfl (hb hby own_d1_19) rfl rfl ?_
    show Steps p.tables e below (T57.setTop (mkF m 21 #[.val (.ref c2), .val (.ref bv41), .val (.int (5 : Int32)), .val (.int (2 : Int32)), .val (.ref m2)] [(.ref m2)])) _
    refine st61 _ ?_
    show Steps p.tables e below (T61.setTop (mkF m 24 #[.val (.ref c2), .val (.ref bv41), .val (.int (5 : Int32)), .val (.int (2 : Int32)), .val (.ref m2)] [(.ref c2)])) _
    refine XS.aloadN X61.here hx rfl (hb hby own_d1_24) rfl rfl ?_
    exact h
  have k63 : ∀ t, Steps p.tables e below (T61.setTop (mkF m 30 #[.val (.ref c2), .val (.ref bv41), .val (.int (5 : Int32)), .val (.int (2 : Int32)), .val (.ref m2)] [(.ref m2)])) t → Steps p.tables e below (s₁.setTop (mkF m 0 #[.val (.ref c2), .unset, .unset, .unset, .unset] [])) t := by
    intro t h
    refine k62 t ?_
    show Steps p.tables e below (T61.setTop (mkF m 25 #[.val (.ref c2), .val (.ref bv41), .val (.int (5 : Int32)), .val (.int (2 : Int32)), .val (.ref m2)] [(.ref c2), (.ref c2)])) _
    refine Jvm.RoadKit.acmp (g := (mkF m 25 #[.val (.ref c2), .val (.ref bv41), .val (.int (5 : Int32)), .val (.int (2 : Int32)), .val (.ref m2)] [(.ref c2), (.ref c2)])) X61 hx rfl rfl rfl (pc0 := 25) (pc' := 28) (same := true) rfl (hb hby own_d1_25) rfl (decide_eq_true rfl) (by decide) (by decide) ?_
    show Steps p.tables e below (T61.setTop (mkF m 28 #[.val (.ref c2), .val (.ref bv41), .val (.int (5 : Int32)), .val (.int (2 : Int32)), .val (.ref m2)] [])) _
    refine XS.aload X61.here hx rfl (hb hby own_d1_28) rfl rfl ?_
    exact h
  obtain ⟨fs, hr, hrun, hended, hW, hsame⟩ := X61.leave (v := some (.ref m2)) (fun h => by rw [Bd.returns] at h; cases h) Bd.notSynchronized
  refine ⟨_, _, pre0 _ (k63 _ ?_), hrun, hended, _, _, rfl, ?_, ⟨_, rfl⟩, hW, hsame.mono (by decide) (by decide)⟩
  · jvm_step X61.here [X61.here.top, hx, (hb hby own_d1_30), X61.method', Bd.returns, Value.isRef, FieldType.isReference]
    first | (intro acts; rw [hr _ acts rfl rfl rfl]) | rw [hr _ _ rfl rfl rfl]
    exact Steps.refl _
  · show Q_rmO2 Z _ _ _ _ _ _ _ _ _ _ h0 n0 _ T61.heap _
    rw [e61]
    exact ⟨rfl, N41, K49⟩
def Q_rmO3 (Z : State) (c3 : Addr) (va : Addr) (kv : ClassId) (m0 : Addr) (m1 : Addr) (m2 : Addr) (m3 : Addr) (m4 : Addr) (c0 : Addr) (c1 : Addr) (c2 : Addr) (h0 : Heap) (n0 : Nat) (v : Option Value) (h : Heap) (L : List Loc) : Prop := v = some (.ref m3) ∧ Fr n0 L ∧ Keep h0 h []
set_option maxRecDepth 65536 in
set_option maxHeartbeats 40000000 in
theorem rmO3 (l : Launch) (Z : State) (a0 : Array Value) (hw : ∀ d ∈ tables_1, d.before a0 Z = true) (ws : List Jvm.Cond) (c3 : Addr) (va : Addr) (kv : ClassId) (m0 : Addr) (m1 : Addr) (m2 : Addr) (m3 : Addr) (m4 : Addr) (c0 : Addr) (c1 : Addr) (c2 : Addr) (h0 : Heap) (n0 : Nat) (Z0 : n0 ≤ h0.size) (S1 : Sta Z h0 "com/example/planwright/planwright/quality/Measure" "$VALUES" "[Lcom/example/planwright/planwright/quality/Measure;" (.ref va)) (V1 : Arv Z h0 va kv (.object "com/example/planwright/planwright/quality/Measure") (5 : Int32) [(.ref m0), (.ref m1), (.ref m2), (.ref m3), (.ref m4)] .null) (E1 : Exa Z h0 va "[Lcom/example/planwright/planwright/quality/Measure;") (FC : ∀ cl : Cell, h0[va]? = some cl → FitC Z cl) (F0 : Fld Z h0 m0 "com/example/planwright/planwright/quality/Measure" "criterion" "Lcom/example/planwright/planwright/model/Criterion;" (.ref c0)) (F1 : Fld Z h0 m1 "com/example/planwright/planwright/quality/Measure" "criterion" "Lcom/example/planwright/planwright/model/Criterion;" (.ref c1)) (F2 : Fld Z h0 m2 "com/example/planwright/planwright/quality/Measure" "criterion" "Lcom/example/planwright/planwright/model/Criterion;" (.ref c2)) (F3 : Fld Z h0 m3 "com/example/planwright/planwright/quality/Measure" "criterion" "Lcom/example/planwright/planwright/model/Criterion;" (.ref c3)) (ne0 : c0 ≠ c3) (ne1 : c1 ≠ c3) (ne2 : c2 ≠ c3) :
    MetFree l (⟨"com/example/planwright/planwright/quality/Measure", "of", "(Lcom/example/planwright/planwright/model/Criterion;)Lcom/example/planwright/planwright/quality/Measure;"⟩ : MethodName) (head1 (Jvm.Cond.code (⟨"com/example/planwright/planwright/quality/Measure", "of", "(Lcom/example/planwright/planwright/model/Criterion;)Lcom/example/planwright/planwright/quality/Measure;"⟩ : MethodName) prog_60_method_4_code 5 (some (.object "com/example/planwright/planwright/quality/Measure")) :: ws) ({ frames := 2, cells := 1, slots := 5, locals := 25 } : Room)) (fun a U => a = #[(.ref c3)] ∧ Z.Warmed39 U.vm ∧ U.heap = h0) (fun _ _ _ _ _ => True) (fun _ U o U' => ∃ v L, o = .returned v ∧ Q_rmO3 Z c3 va kv m0 m1 m2 m3 m4 c0 c1 c2 h0 n0 v U'.heap L ∧ FrameEnd U o U' L ({ frames := 2, cells := 1, slots := 5, locals := 25 } : Room).cells ({ frames := 2, cells := 1, slots := 5, locals := 25 } : Room).slots) := by
  refine MetFree.of_bodySF (plainFor_of_name own_pn_0) hisR ?_
  intro p e s m args below meth c s₁ Bd hml0 hP hK
  obtain ⟨rfl, hZ, hh⟩ := hP
  have hx := Bd.exec
  have hby := Bd.bytes
  have hml : c.maxLocals = 5 := hml0
  have hown : s.vm.findClass "com/example/planwright/planwright/quality/Measure" = some m.cls := findClass_of_methodNamed Bd.named
  have hnm := (name_of_methodNamed Bd.named Bd.method).1
  have X0 : Stand p l e ({ frames := 2, cells := 1, slots := 5, locals := 25 } : Room) s m #[(.ref c3)] below meth c s₁ [] 0 0 := Stand.of_body Bd
  have e0 : s₁.heap = h0 := by rw [← hh, Bd.state]; rfl
  have N0 := Fr.nil n0
  have K0 : Keep h0 h0 [] := Keep.refl h0 _
  have pre0 : ∀ t, Steps p.tables e below (s₁.setTop (mkF m 0 #[.val (.ref c3), .unset, .unset, .unset, .unset] [])) t → Steps p.tables e below (s₁.setTop (entryFrame m #[(.ref c3)] 5)) t := fun t k => castTop (own_ef_1 m c3) k
  obtain ⟨_, _, ⟨T64, L64, k64, n64⟩, -, X64, ⟨Lc64, hQ64, l64, y64, z64⟩, st64⟩ := Jvm.LawKit.callS X0 hx (y := (⟨"com/example/planwright/planwright/quality/Measure", "values", "()[Lcom/example/planwright/planwright/quality/Measure;"⟩ : MethodName)) hown (mvT hZ (hw _ (List.mem_of_getElem? (i := 10) rfl))) (mvT hZ (hw _ (List.mem_of_getElem? (i := 11) rfl))) (mvT hZ (hw _ (List.mem_of_getElem? (i := 5) rfl))) (mvT hZ (hw _ (List.mem_of_getElem? (i := 12) rfl))) (by decide) (backOf (W := 0) (rmV l Z a0 hw []  va kv m0 m1 m2 m3 m4 h0 n0 Z0 S1 V1 E1 FC) hZ (hw _ (List.mem_of_getElem? (i := 12) rfl)) (hw _ (List.mem_of_getElem? (i := 5) rfl)) (by decide) (by decide)) (g := (mkF m 0 #[.val (.ref c3), .unset, .unset, .unset, .unset] [])) rfl (by rw [hml]; rfl) (argsL := []) (rest := []) (lenOf own_pd_0 rfl) rfl (by show 2 * 0 + _ ≤ _; exact Nat.le_of_eq rfl) (hb hby own_d1_0) (fun _ _ => ⟨rfl, e0, (by decide : 0 + 1 ≤ _), (by decide : 0 + 5 ≤ _)⟩)
  dsimp only [Pt.U, Pt.locs, Pt.cells, Pt.slots] at X64 l64 y64 z64 st64 hQ64
  subst l64 y64 z64
  obtain ⟨bv64, kq64, rfl, Nq64, Kq64, Vq64⟩ := hQ64
  have N64 := Fr.app N0 Nq64
  have f65 := own_sta_keep S1 Kq64 all0
  have f66 := V1.keep Kq64 nin0
  have f67 := E1.keep Kq64
  have f68 := F0.keep Kq64 nin0
  have f69 := F1.keep Kq64 nin0
  have f70 := F2.keep Kq64 nin0
  have f71 := F3.keep Kq64 nin0
  have Z72 : n0 ≤ T64.heap.size := Nat.le_trans Z0 Kq64.1
  have K73 := K0.trans Kq64 all0
  obtain ⟨cl74, Ar74, q74, S74, Ng74, H74, G74⟩ := id Vq64
  have k75 : ∀ t, Steps p.tables e below (T64.setTop (mkF m 11 #[.val (.ref c3), .val (.ref bv64), .val (.int (5 : Int32)), .val (.int (0 : Int32)), .unset] [(.int (5 : Int32)), (.int (0 : Int32))])) t → Steps p.tables e below (s₁.setTop (mkF m 0 #[.val (.ref c3), .unset, .unset, .unset, .unset] [])) t := by
    intro t h
    show Steps p.tables e below (s₁.setTop (mkF m 0 #[.val (.ref c3), .unset, .unset, .unset, .unset] [])) _
    refine st64 _ ?_
    show Steps p.tables e below (T64.setTop (mkF m 3 #[.val (.ref c3), .unset, .unset, .unset, .unset] [(.ref bv64)])) _
    refine XS.astoreN X64.here hx rfl (hb hby own_d1_3) rfl rfl (l' := #[.val (.ref c3), .val (.ref bv64), .unset, .unset, .unset]) rfl ?_
    show Steps p.tables e below (T64.setTop (mkF m 4 #[.val (.ref c3), .val (.ref bv64), .unset, .unset, .unset] [])) _
    refine XS.aloadN X64.here hx rfl (hb hby own_d1_4) rfl rfl ?_
    show Steps p.tables e below (T64.setTop (mkF m 5 #[.val (.ref c3), .val (.ref bv64), .unset, .unset, .unset] [(.ref bv64)])) _
    refine X64.arraylength hx Ar74.1 (State.isArrayOf_alike hZ.alike Ar74.2.1) (g := (mkF m 5 #[.val (.ref c3), .val (.ref bv64), .unset, .unset, .unset] [(.ref bv64)])) rfl rfl (hb hby own_d1_5) _ ?_
    rw [len_of S74 Ng74]
    show Steps p.tables e below (T64.setTop (mkF m 6 #[.val (.ref c3), .val (.ref bv64), .unset, .unset, .unset] [(.int (5 : Int32))])) _
    refine XS.istoreN X64.here hx rfl (hb hby own_d1_6) rfl (l' := #[.val (.ref c3), .val (.ref bv64), .val (.int (5 : Int32)), .unset, .unset]) rfl ?_
    show Steps p.tables e below (T64.setTop (mkF m 7 #[.val (.ref c3), .val (.ref bv64), .val (.int (5 : Int32)), .unset, .unset] [])) _
    refine XS.iconst X64.here hx rfl (hb hby own_d1_7) ?_
    show Steps p.tables e below (T64.setTop (mkF m 8 #[.val (.ref c3), .val (.ref bv64), .val (.int (5 : Int32)), .unset, .unset] [(.int (0 : Int32))])) _
    refine XS.istoreN X64.here hx rfl (hb hby own_d1_8) rfl (l' := #[.val (.ref c3), .val (.ref bv64), .val (.int (5 : Int32)), .val (.int (0 : Int32)), .unset]) rfl ?_
    show Steps p.tables e below (T64.setTop (mkF m 9 #[.val (.ref c3), .val (.ref bv64), .val (.int (5 : Int32)), .val (.int (0 : Int32)), .unset] [])) _
    refine XS.iloadN X64.here hx rfl (hb hby own_d1_9) rfl ?_
    show Steps p.tables e below (T64.setTop (mkF m 10 #[.val (.ref c3), .val (.ref bv64), .val (.int (5 : Int32)), .val (.int (0 : Int32)), .unset] [(.int (0 : Int32))])) _
    refine XS.iloadN X64.here hx rfl (hb hby own_d1_10) rfl ?_
    exact h
  obtain ⟨cl76, Ar76, q76, S76, Ng76, H76, G76⟩ := id Vq64
  have hin76 : ¬ ((0 : Int32) < 0 ∨ cl76.slots.size ≤ ((0 : Int32)).toNatClampNeg) := inb_of S76 ⟨by decide, by decide⟩
  obtain ⟨T77, X77, e77, st77⟩ := getF X64 hx hZ hown (host := "") (Or.inl (hw _ (List.mem_of_getElem? (i := 29) rfl))) Via.refl rfl f68 (g := (mkF m 21 #[.val (.ref c3), .val (.ref bv64), .val (.int (5 : Int32)), .val (.int (0 : Int32)), .val (.ref m0)] [(.ref m0)])) rfl rfl (hb hby own_d1_21)
  have k78 : ∀ t, Steps p.tables e below (T77.setTop (mkF m 25 #[.val (.ref c3), .val (.ref bv64), .val (.int (5 : Int32)), .val (.int (0 : Int32)), .val (.ref m0)] [(.ref c3), (.ref c0)])) t → Steps p.tables e below (s₁.setTop (mkF m 0 #[.val (.ref c3), .unset, .unset, .unset, .unset] [])) t := by
    intro t h
    refine k75 t ?_
    show Steps p.tables e below (T64.setTop (mkF m 11 #[.val (.ref c3), .val (.ref bv64), .val (.int (5 : Int32)), .val (.int (0 : Int32)), .unset] [(.int (5 : Int32)), (.int (0 : Int32))])) _
    refine XS.icmpNo X64.here hx rfl (hb hby own_d1_11) rfl (tlt (by decide : (0 : Int32) < (5 : Int32))).2.1 ?_
    show Steps p.tables e below (T64.setTop (mkF m 14 #[.val (.ref c3), .val (.ref bv64), .val (.int (5 : Int32)), .val (.int (0 : Int32)), .unset] [])) _
    refine XS.aloadN X64.here hx rfl (hb hby own_d1_14) rfl rfl ?_
    show Steps p.tables e below (T64.setTop (mkF m 15 #[.val (.ref c3), .val (.ref bv64), .val (.int (5 : Int32)), .val (.int (0 : Int32)), .unset] [(.ref bv64)])) _
    refine XS.iloadN X64.here hx rfl (hb hby own_d1_15) rfl ?_
    show Steps p.tables e below (T64.setTop (mkF m 16 #[.val (.ref c3), .val (.ref bv64), .val (.int (5 : Int32)), .val (.int (0 : Int32)), .unset] [(.int (0 : Int32)), (.ref bv64)])) _
    refine X64.aaload hx (j := (0 : Int32)) (v := (.ref m0)) Ar76.1 (State.isArrayOf_alike hZ.alike Ar76.2.1) rfl Ar76.2.2 hin76 (H76.at hin76 rfl) (g := (mkF m 16 #[.val (.ref c3), .val (.ref bv64), .val (.int (5 : Int32)), .val (.int (0 : Int32)), .unset] [(.int (0 : Int32)), (.ref bv64)])) rfl rfl (hb hby own_d1_16) _ ?_
    show Steps p.tables e below (T64.setTop (mkF m 17 #[.val (.ref c3), .val (.ref bv64), .val (.int (5 : Int32)), .val (.int (0 : Int32)), .unset] [(.ref m0)])) _
    refine XS.astore X64.here hx rfl (hb hby own_d1_17) rfl rfl (l' := #[.val (.ref c3), .val (.ref bv64), .val (.int (5 : Int32)), .val (.int (0 : Int32)), .val (.ref m0)]) rfl ?_
    show Steps p.tables e below (T64.setTop (mkF m 19 #[.val (.ref c3), .val (.ref bv64), .val (.int (5 : Int32)), .val (.int (0 : Int32)), .val (.ref m0)] [])) _
    refine XS.aload X64.here hx rfl (hb hby own_d1_19) rfl rfl ?_
    show Steps p.tables e below (T64.setTop (mkF m 21 #[.val (.ref c3), .val (.ref bv64), .val (.int (5 : Int32)), .val (.int (0 : Int32)), .val (.ref m0)] [(.ref m0)])) _
    refine st77 _ ?_
    show Steps p.tables e below (T77.setTop (mkF m 24 #[.val (.ref c3), .val (.ref bv64), .val (.int (5 : Int32)), .val (.int (0 : Int32)), .val (.ref m0)] [(.ref c0)])) _
    refine XS.aloadN X77.here hx rfl (hb hby own_d1_24) rfl rfl ?_
    exact h
  have k79 : ∀ t, Steps p.tables e below (T77.setTop (mkF m 11 #[.val (.ref c3), .val (.ref bv64), .val (.int (5 : Int32)), .val (.int (1 : Int32)), .val (.ref m0)] [(.int (5 : Int32)), (.int (1 : Int32))])) t → Steps p.tables e below (s₁.setTop (mkF m 0 #[.val (.ref c3), .unset, .unset, .unset, .unset] [])) t := by
    intro t h
    refine k78 t ?_
    show Steps p.tables e below (T77.setTop (mkF m 25 #[.val (.ref c3), .val (.ref bv64), .val (.int (5 : Int32)), .val (.int (0 : Int32)), .val (.ref m0)] [(.ref c3), (.ref c0)])) _
    refine Jvm.RoadKit.acmp (g := (mkF m 25 #[.val (.ref c3), .val (.ref bv64), .val (.int (5 : Int32)), .val (.int (0 : Int32)), .val (.ref m0)] [(.ref c3), (.ref c0)])) X77 hx rfl rfl rfl (pc0 := 25) (pc' := 31) (same := false) rfl (hb hby own_d1_25) rfl (decide_eq_false fun q => ne0 (Value.ref.inj q)) (by decide) (by decide) ?_
    show Steps p.tables e below (T77.setTop (mkF m 31 #[.val (.ref c3), .val (.ref bv64), .val (.int (5 : Int32)), .val (.int (0 : Int32)), .val (.ref m0)] [])) _
    refine XS.iinc X77.here hx rfl (hb hby own_d1_31) rfl (l' := #[.val (.ref c3), .val (.ref bv64), .val (.int (5 : Int32)), .val (.int (1 : Int32)), .val (.ref m0)]) rfl ?_
    show Steps p.tables e below (T77.setTop (mkF m 34 #[.val (.ref c3), .val (.ref bv64), .val (.int (5 : Int32)), .val (.int (1 : Int32)), .val (.ref m0)] [])) _
    refine XS.goto X77.here hx rfl (pc0 := 34) (pc' := 9) rfl (hb hby own_d1_34) (by decide) (by decide) ?_
    show Steps p.tables e below (T77.setTop (mkF m 9 #[.val (.ref c3), .val (.ref bv64), .val (.int (5 : Int32)), .val (.int (1 : Int32)), .val (.ref m0)] [])) _
    refine XS.iloadN X77.here hx rfl (hb hby own_d1_9) rfl ?_
    show Steps p.tables e below (T77.setTop (mkF m 10 #[.val (.ref c3), .val (.ref bv64), .val (.int (5 : Int32)), .val (.int (1 : Int32)), .val (.ref m0)] [(.int (1 : Int32))])) _
    refine XS.iloadN X77.here hx rfl (hb hby own_d1_10) rfl ?_
    exact h
  obtain ⟨cl80, Ar80, q80, S80, Ng80, H80, G80⟩ := id Vq64
  have hin80 : ¬ ((1 : Int32) < 0 ∨ cl80.slots.size ≤ ((1 : Int32)).toNatClampNeg) := inb_of S80 ⟨by decide, by decide⟩
  obtain ⟨T81, X81, e81, st81⟩ := getF X77 hx hZ hown (host := "") (Or.inl (hw _ (List.mem_of_getElem? (i := 29) rfl))) Via.refl e77 f69 (g := (mkF m 21 #[.val (.ref c3), .val (.ref bv64), .val (.int (5 : Int32)), .val (.int (1 : Int32)), .val (.ref m1)] [(.ref m1)])) rfl rfl (hb hby own_d1_21)
  have k82 : ∀ t, Steps p.tables e below (T81.setTop (mkF m 25 #[.val (.ref c3), .val (.ref bv64), .val (.int (5 : Int32)), .val (.int (1 : Int32)), .val (.ref m1)] [(.ref c3), (.ref c1)])) t → Steps p.tables e below (s₁.setTop (mkF m 0 #[.val (.ref c3), .unset, .unset, .unset, .unset] [])) t := by
    intro t h
    refine k79 t ?_
    show Steps p.tables e below (T77.setTop (mkF m 11 #[.val (.ref c3), .val (.ref bv64), .val (.int (5 : Int32)), .val (.int (1 : Int32)), .val (.ref m0)] [(.int (5 : Int32)), (.int (1 : Int32))])) _
    refine XS.icmpNo X77.here hx rfl (hb hby own_d1_11) rfl (tlt (by decide : (1 : Int32) < (5 : Int32))).2.1 ?_
    show Steps p.tables e below (T77.setTop (mkF m 14 #[.val (.ref c3), .val (.ref bv64), .val (.int (5 : Int32)), .val (.int (1 : Int32)), .val (.ref m0)] [])) _
    refine XS.aloadN X77.here hx rfl (hb hby own_d1_14) rfl rfl ?_
    show Steps p.tables e below (T77.setTop (mkF m 15 #[.val (.ref c3), .val (.ref bv64), .val (.int (5 : Int32)), .val (.int (1 : Int32)), .val (.ref m0)] [(.ref bv64)])) _
    refine XS.iloadN X77.here hx rfl (hb hby own_d1_15) rfl ?_
    show Steps p.tables e below (T77.setTop (mkF m 16 #[.val (.ref c3), .val (.ref bv64), .val (.int (5 : Int32)), .val (.int (1 : Int32)), .val (.ref m0)] [(.int (1 : Int32)), (.ref bv64)])) _
    refine X77.aaload hx (j := (1 : Int32)) (v := (.ref m1)) (by rw [e77]; exact Ar80.1) (State.isArrayOf_alike hZ.alike Ar80.2.1) rfl Ar80.2.2 hin80 (H80.at hin80 rfl) (g := (mkF m 16 #[.val (.ref c3), .val (.ref bv64), .val (.int (5 : Int32)), .val (.int (1 : Int32)), .val (.ref m0)] [(.int (1 : Int32)), (.ref bv64)])) rfl rfl (hb hby own_d1_16) _ ?_
    show Steps p.tables e below (T77.setTop (mkF m 17 #[.val (.ref c3), .val (.ref bv64), .val (.int (5 : Int32)), .val (.int (1 : Int32)), .val (.ref m0)] [(.ref m1)])) _
    refine XS.astore X77.here hx rfl (hb hby own_d1_17) rfl rfl (l' := #[.val (.ref c3), .val (.ref bv64), .val (.int (5 : Int32)), .val (.int (1 : Int32)), .val (.ref m1)]) rfl ?_
    show Steps p.tables e below (T77.setTop (mkF m 19 #[.val (.ref c3), .val (.ref bv64), .val (.int (5 : Int32)), .val (.int (1 : Int32)), .val (.ref m1)] [])) _
    refine XS.aload X77.here hx rfl (hb hby own_d1_19) rfl rfl ?_
    show Steps p.tables e below (T77.setTop (mkF m 21 #[.val (.ref c3), .val (.ref bv64), .val (.int (5 : Int32)), .val (.int (1 : Int32)), .val (.ref m1)] [(.ref m1)])) _
    refine st81 _ ?_
    show Steps p.tables e below (T81.setTop (mkF m 24 #[.val (.ref c3), .val (.ref bv64), .val (.int (5 : Int32)), .val (.int (1 : Int32)), .val (.ref m1)] [(.ref c1)])) _
    refine XS.aloadN X81.here hx rfl (hb hby own_d1_24) rfl rfl ?_
    exact h
  have k83 : ∀ t, Steps p.tables e below (T81.setTop (mkF m 11 #[.val (.ref c3), .val (.ref bv64), .val (.int (5 : Int32)), .val (.int (2 : Int32)), .val (.ref m1)] [(.int (5 : Int32)), (.int (2 : Int32))])) t → Steps p.tables e below (s₁.setTop (mkF m 0 #[.val (.ref c3), .unset, .unset, .unset, .unset] [])) t := by
    intro t h
    refine k82 t ?_
    show Steps p.tables e below (T81.setTop (mkF m 25 #[.val (.ref c3), .val (.ref bv64), .val (.int (5 : Int32)), .val (.int (1 : Int32)), .val (.ref m1)] [(.ref c3), (.ref c1)])) _
    refine Jvm.RoadKit.acmp (g := (mkF m 25 #[.val (.ref c3), .val (.ref bv64), .val (.int (5 : Int32)), .val (.int (1 : Int32)), .val (.ref m1)] [(.ref c3), (.ref c1)])) X81 hx rfl rfl rfl (pc0 := 25) (pc' := 31) (same := false) rfl (hb hby own_d1_25) rfl (decide_eq_false fun q => ne1 (Value.ref.inj q)) (by decide) (by decide) ?_
    show Steps p.tables e below (T81.setTop (mkF m 31 #[.val (.ref c3), .val (.ref bv64), .val (.int (5 : Int32)), .val (.int (1 : Int32)), .val (.ref m1)] [])) _
    refine XS.iinc X81.here hx rfl (hb hby own_d1_31) rfl (l' := #[.val (.ref c3), .val (.ref bv64), .val (.int (5 : Int32)), .val (.int (2 : Int32)), .val (.ref m1)]) rfl ?_
    show Steps p.tables e below (T81.setTop (mkF m 34 #[.val (.ref c3), .val (.ref bv64), .val (.int (5 : Int32)), .val (.int (2 : Int32)), .val (.ref m1)] [])) _
    refine XS.goto X81.here hx rfl (pc0 := 34) (pc' := 9) rfl (hb hby own_d1_34) (by decide) (by decide) ?_
    show Steps p.tables e below (T81.setTop (mkF m 9 #[.val (.ref c3), .val (.ref bv64), .val (.int (5 : Int32)), .val (.int (2 : Int32)), .val (.ref m1)] [])) _
    refine XS.iloadN X81.here hx rfl (hb hby own_d1_9) rfl ?_
    show Steps p.tables e below (T81.setTop (mkF m 10 #[.val (.ref c3), .val (.ref bv64), .val (.int (5 : Int32)), .val (.int (2 : Int32)), .val (.ref m1)] [(.int (2 : Int32))])) _
    refine XS.iloadN X81.here hx rfl (hb hby own_d1_10) rfl ?_
    exact h
  obtain ⟨cl84, Ar84, q84, S84, Ng84, H84, G84⟩ := id Vq64
  have hin84 : ¬ ((2 : Int32) < 0 ∨ cl84.slots.size ≤ ((2 : Int32)).toNatClampNeg) := inb_of S84 ⟨by decide, by decide⟩
  obtain ⟨T85, X85, e85, st85⟩ := getF X81 hx hZ hown (host := "") (Or.inl (hw _ (List.mem_of_getElem? (i := 29) rfl))) Via.refl e81 f70 (g := (mkF m 21 #[.val (.ref c3), .val (.ref bv64), .val (.int (5 : Int32)), .val (.int (2 : Int32)), .val (.ref m2)] [(.ref m2)])) rfl rfl (hb hby own_d1_21)
  have k86 : ∀ t, Steps p.tables e below (T85.setTop (mkF m 25 #[.val (.ref c3), .val (.ref bv64), .val (.int (5 : Int32)), .val (.int (2 : Int32)), .val (.ref m2)] [(.ref c3), (.ref c2)])) t → Steps p.tables e below (s₁.setTop (mkF m 0 #[.val (.ref c3), .unset, .unset, .unset, .unset] [])) t := by
    intro t h
    refine k83 t ?_
    show Steps p.tables e below (T81.setTop (mkF m 11 #[.val (.ref c3), .val (.ref bv64), .val (.int (5 : Int32)), .val (.int (2 : Int32)), .val (.ref m1)] [(.int (5 : Int32)), (.int (2 : Int32))])) _
    refine XS.icmpNo X81.here hx rfl (hb hby own_d1_11) rfl (tlt (by decide : (2 : Int32) < (5 : Int32))).2.1 ?_
    show Steps p.tables e below (T81.setTop (mkF m 14 #[.val (.ref c3), .val (.ref bv64), .val (.int (5 : Int32)), .val (.int (2 : Int32)), .val (.ref m1)] [])) _
    refine XS.aloadN X81.here hx rfl (hb hby own_d1_14) rfl rfl ?_
    show Steps p.tables e below (T81.setTop (mkF m 15 #[.val (.ref c3), .val (.ref bv64), .val (.int (5 : Int32)), .val (.int (2 : Int32)), .val (.ref m1)] [(.ref bv64)])) _
    refine XS.iloadN X81.here hx rfl (hb hby own_d1_15) rfl ?_
    show Steps p.tables e below (T81.setTop (mkF m 16 #[.val (.ref c3), .val (.ref bv64), .val (.int (5 : Int32)), .val (.int (2 : Int32)), .val (.ref m1)] [(.int (2 : Int32)), (.ref bv64)])) _
    refine X81.aaload hx (j := (2 : Int32)) (v := (.ref m2)) (by rw [e81]; exact Ar84.1) (State.isArrayOf_alike hZ.alike Ar84.2.1) rfl Ar84.2.2 hin84 (H84.at hin84 rfl) (g := (mkF m 16 #[.val (.ref c3), .val (.ref bv64), .val (.int (5 : Int32)), .val (.int (2 : Int32)), .val (.ref m1)] [(.int (2 : Int32)), (.ref bv64)])) rfl rfl (hb hby own_d1_16) _ ?_
    show Steps p.tables e below (T81.setTop (mkF m 17 #[.val (.ref c3), .val (.ref bv64), .val (.int (5 : Int32)), .val (.int (2 : Int32)), .val (.ref m1)] [(.ref m2)])) _
    refine XS.astore X81.here hx rfl (hb hby own_d1_17) rfl rfl (l' := #[.val (.ref c3), .val (.ref bv64), .val (.int (5 : Int32)), .val (.int (2 : Int32)), .val (.ref m2)]) rfl ?_
    show Steps p.tables e below (T81.setTop (mkF m 19 #[.val (.ref c3), .val (.ref bv64), .val (.int (5 : Int32)), .val (.int (2 : Int32)), .val (.ref m2)] [])) _
    refine XS.aload X81.here hx rfl (hb hby own_d1_19) rfl rfl ?_
    show Steps p.tables e below (T81.setTop (mkF m 21 #[.val (.ref c3), .val (.ref bv64), .val (.int (5 : Int32)), .val (.int (2 : Int32)), .val (.ref m2)] [(.ref m2)])) _
    refine st85 _ ?_
    show Steps p.tables e below (T85.setTop (mkF m 24 #[.val (.ref c3), .val (.ref bv64), .val (.int (5 : Int32)), .val (.int (2 : Int32)), .val (.ref m2)] [(.ref c2)])) _
    refine XS.aloadN X85.here hx rfl (hb hby own_d1_24) rfl rfl ?_
    exact h
  have k87 : ∀ t, Steps p.tables e below (T85.setTop (mkF m 11 #[.val (.ref c3), .val (.ref bv64), .val (.int (5 : Int32)), .val (.int (3 : Int32)), .val (.ref m2)] [(.int (5 : Int32)), (.int (3 : Int32))])) t → Steps p.tables e below (s₁.setTop (mkF m 0 #[.val (.ref c3), .unset, .unset, .unset, .unset] [])) t := by
    intro t h
    refine k86 t ?_
    show Steps p.tables e below (T85.setTop (mkF m 25 #[.val (.ref c3), .val (.ref bv64), .val (.int (5 : Int32)), .val (.int (2 : Int32)), .val (.ref m2)] [(.ref c3), (.ref c2)])) _
    refine Jvm.RoadKit.acmp (g := (mkF m 25 #[.val (.ref c3), .val (.ref bv64), .val (.int (5 : Int32)), .val (.int (2 : Int32)), .val (.ref m2)] [(.ref c3), (.ref c2)])) X85 hx rfl rfl rfl (pc0 := 25) (pc' := 31) (same := false) rfl (hb hby own_d1_25) rfl (decide_eq_false fun q => ne2 (Value.ref.inj q)) (by decide) (by decide) ?_
    show Steps p.tables e below (T85.setTop (mkF m 31 #[.val (.ref c3), .val (.ref bv64), .val (.int (5 : Int32)), .val (.int (2 : Int32)), .val (.ref m2)] [])) _
    refine XS.iinc X85.here hx rfl (hb hby own_d1_31) rfl (l' := #[.val (.ref c3), .val (.ref bv64), .val (.int (5 : Int32)), .val (.int (3 : Int32)), .val (.ref m2)]) rfl ?_
    show Steps p.tables e below (T85.setTop (mkF m 34 #[.val (.ref c3), .val (.ref bv64), .val (.int (5 : Int32)), .val (.int (3 : Int32)), .val (.ref m2)] [])) _
    refine XS.goto X85.here hx rfl (pc0 := 34) (pc' := 9) rfl (hb hby own_d1_34) (by decide) (by decide) ?_
    show Steps p.tables e below (T85.setTop (mkF m 9 #[.val (.ref c3), .val (.ref bv64), .val (.int (5 : Int32)), .val (.int (3 : Int32)), .val (.ref m2)] [])) _
    refine XS.iloadN X85.here hx rfl (hb hby own_d1_9) rfl ?_
    show Steps p.tables e below (T85.setTop (mkF m 10 #[.val (.ref c3), .val (.ref bv64), .val (.int (5 : Int32)), .val (.int (3 : Int32)), .val (.ref m2)] [(.int (3 : Int32))])) _
    refine XS.iloadN X85.here hx rfl (hb hby own_d1_10) rfl ?_
    exact h
  obtain ⟨cl88, Ar88, q88, S88, Ng88, H88, G88⟩ := id Vq64
  have hin88 : ¬ ((3 : Int32) < 0 ∨ cl88.slots.size ≤ ((3 : Int32)).toNatClampNeg) := inb_of S88 ⟨by decide, by decide⟩
  obtain ⟨T89, X89, e89, st89⟩ := getF X85 hx hZ hown (host := "") (Or.inl (hw _ (List.mem_of_getElem? (i := 29) rfl))) Via.refl e85 f71 (g := (mkF m 21 #[.val (.ref c3), .val (.ref bv64), .val (.int (5 : Int32)), .val (.int (3 : Int32)), .val (.ref m3)] [(.ref m3)])) rfl rfl (hb hby own_d1_21)
  have k90 : ∀ t, Steps p.tables e below (T89.setTop (mkF m 25 #[.val (.ref c3), .val (.ref bv64), .val (.int (5 : Int32)), .val (.int (3 : Int32)), .val (.ref m3)] [(.ref c3), (.ref c3)])) t → Steps p.tables e below (s₁.setTop (mkF m 0 #[.val (.ref c3), .unset, .unset, .unset, .unset] [])) t := by
    intro t h
    refine k87 t ?_
    show Steps p.tables e below (T85.setTop (mkF m 11 #[.val (.ref c3), .val (.ref bv64), .val (.int (5 : Int32)), .val (.int (3 : Int32)), .val (.ref m2)] [(.int (5 : Int32)), (.int (3 : Int32))])) _
    refine XS.icmpNo X85.here hx rfl (hb hby own_d1_11) rfl (tlt (by decide : (3 : Int32) < (5 : Int32))).2.1 ?_
    show Steps p.tables e below (T85.setTop (mkF m 14 #[.val (.ref c3), .val (.ref bv64), .val (.int (5 : Int32)), .val (.int (3 : Int32)), .val (.ref m2)] [])) _
    refine XS.aloadN X85.here hx rfl (hb hby own_d1_14) rfl rfl ?_
    show Steps p.tables e below (T85.setTop (mkF m 15 #[.val (.ref c3), .val (.ref bv64), .val (.int (5 : Int32)), .val (.int (3 : Int32)), .val (.ref m2)] [(.ref bv64)])) _
    refine XS.iloadN X85.here hx rfl (hb hby own_d1_15) rfl ?_
    show Steps p.tables e below (T85.setTop (mkF m 16 #[.val (.ref c3), .val (.ref bv64), .val (.int (5 : Int32)), .val (.int (3 : Int32)), .val (.ref m2)] [(.int (3 : Int32)), (.ref bv64)])) _
    refine X85.aaload hx (j := (3 : Int32)) (v := (.ref m3)) (by rw [e85]; exact Ar88.1) (State.isArrayOf_alike hZ.alike Ar88.2.1) rfl Ar88.2.2 hin88 (H88.at hin88 rfl) (g := (mkF m 16 #[.val (.ref c3), .val (.ref bv64), .val (.int (5 : Int32)), .val (.int (3 : Int32)), .val (.ref m2)] [(.int (3 : Int32)), (.ref bv64)])) rfl rfl (hb hby own_d1_16) _ ?_
    show Steps p.tables e below (T85.setTop (mkF m 17 #[.val (.ref c3), .val (.ref bv64), .val (.int (5 : Int32)), .val (.int (3 : Int32)), .val (.ref m2)] [(.ref m3)])) _
    refine XS.astore X85.here hx rfl (hb hby own_d1_17) rfl rfl (l' := #[.val (.ref c3), .val (.ref bv64), .val (.int (5 : Int32)), .val (.int (3 : Int32)), .val (.ref m3)]) rfl ?_
    show Steps p.tables e below (T85.setTop (mkF m 19 #[.val (.ref c3), .val (.ref bv64), .val (.int (5 : Int32)), .val (.int (3 : Int32)), .val (.ref m3)] [])) _
    refine XS.aload X85.here hx rfl (hb hby own_d1_19) rfl rfl ?_
    show Steps p.tables e below (T85.setTop (mkF m 21 #[.val (.ref c3), .val (.ref bv64), .val (.int (5 : Int32)), .val (.int (3 : Int32)), .val (.ref m3)] [(.ref m3)])) _
    refine st89 _ ?_
    show Steps p.tables e below (T89.setTop (mkF m 24 #[.val (.ref c3), .val (.ref bv64), .val (.int (5 : Int32)), .val (.int (3 : Int32)), .val (.ref m3)] [(.ref c3)])) _
    refine XS.aloadN X89.here hx rfl (hb hby own_d1_24) rfl rfl ?_
    exact h
  have k91 : ∀ t, Steps p.tables e below (T89.setTop (mkF m 30 #[.val (.ref c3), .val (.ref bv64), .val (.int (5 : Int32)), .val (.int (3 : Int32)), .val (.ref m3)] [(.ref m3)])) t → Steps p.tables e below (s₁.setTop (mkF m 0 #[.val (.ref c3), .unset, .unset, .unset, .unset] [])) t := by
    intro t h
    refine k90 t ?_
    show Steps p.tables e below (T89.setTop (mkF m 25 #[.val (.ref c3), .val (.ref bv64), .val (.int (5 : Int32)), .val (.int (3 : Int32)), .val (.ref m3)] [(.ref c3), (.ref c3)])) _
    refine Jvm.RoadKit.acmp (g := (mkF m 25 #[.val (.ref c3), .val (.ref bv64), .val (.int (5 : Int32)), .val (.int (3 : Int32)), .val (.ref m3)] [(.ref c3), (.ref c3)])) X89 hx rfl rfl rfl (pc0 := 25) (pc' := 28) (same := true) rfl (hb hby own_d1_25) rfl (decide_eq_true rfl) (by decide) (by decide) ?_
    show Steps p.tables e below (T89.setTop (mkF m 28 #[.val (.ref c3), .val (.ref bv64), .val (.int (5 : Int32)), .val (.int (3 : Int32)), .val (.ref m3)] [])) _
    refine XS.aload X89.here hx rfl (hb hby own_d1_28) rfl rfl ?_
    exact h
  obtain ⟨fs, hr, hrun, hended, hW, hsame⟩ := X89.leave (v := some (.ref m3)) (fun h => by rw [Bd.returns] at h; cases h) Bd.notSynchronized
  refine ⟨_, _, pre0 _ (k91 _ ?_), hrun, hended, _, _, rfl, ?_, ⟨_, rfl⟩, hW, hsame.mono (by decide) (by decide)⟩
  · jvm_step X89.here [X89.here.top, hx, (hb hby own_d1_30), X89.method', Bd.returns, Value.isRef, FieldType.isReference]
    first | (intro acts; rw [hr _ acts rfl rfl rfl]) | rw [hr _ _ rfl rfl rfl]
    exact Steps.refl _
  · show Q_rmO3 Z _ _ _ _ _ _ _ _ _ _ _ h0 n0 _ T89.heap _
    rw [e89]
    exact ⟨rfl, N64, K73⟩
def Q_rmO4 (Z : State) (c4 : Addr) (va : Addr) (kv : ClassId) (m0 : Addr) (m1 : Addr) (m2 : Addr) (m3 : Addr) (m4 : Addr) (c0 : Addr) (c1 : Addr) (c2 : Addr) (c3 : Addr) (h0 : Heap) (n0 : Nat) (v : Option Value) (h : Heap) (L : List Loc) : Prop := v = some (.ref m4) ∧ Fr n0 L ∧ Keep h0 h []
set_option maxRecDepth 65536 in
set_option maxHeartbeats 40000000 in
theorem rmO4 (l : Launch) (Z : State) (a0 : Array Value) (hw : ∀ d ∈ tables_1, d.before a0 Z = true) (ws : List Jvm.Cond) (c4 : Addr) (va : Addr) (kv : ClassId) (m0 : Addr) (m1 : Addr) (m2 : Addr) (m3 : Addr) (m4 : Addr) (c0 : Addr) (c1 : Addr) (c2 : Addr) (c3 : Addr) (h0 : Heap) (n0 : Nat) (Z0 : n0 ≤ h0.size) (S1 : Sta Z h0 "com/example/planwright/planwright/quality/Measure" "$VALUES" "[Lcom/example/planwright/planwright/quality/Measure;" (.ref va)) (V1 : Arv Z h0 va kv (.object "com/example/planwright/planwright/quality/Measure") (5 : Int32) [(.ref m0), (.ref m1), (.ref m2), (.ref m3), (.ref m4)] .null) (E1 : Exa Z h0 va "[Lcom/example/planwright/planwright/quality/Measure;") (FC : ∀ cl : Cell, h0[va]? = some cl → FitC Z cl) (F0 : Fld Z h0 m0 "com/example/planwright/planwright/quality/Measure" "criterion" "Lcom/example/planwright/planwright/model/Criterion;" (.ref c0)) (F1 : Fld Z h0 m1 "com/example/planwright/planwright/quality/Measure" "criterion" "Lcom/example/planwright/planwright/model/Criterion;" (.ref c1)) (F2 : Fld Z h0 m2 "com/example/planwright/planwright/quality/Measure" "criterion" "Lcom/example/planwright/planwright/model/Criterion;" (.ref c2)) (F3 : Fld Z h0 m3 "com/example/planwright/planwright/quality/Measure" "criterion" "Lcom/example/planwright/planwright/model/Criterion;" (.ref c3)) (F4 : Fld Z h0 m4 "com/example/planwright/planwright/quality/Measure" "criterion" "Lcom/example/planwright/planwright/model/Criterion;" (.ref c4)) (ne0 : c0 ≠ c4) (ne1 : c1 ≠ c4) (ne2 : c2 ≠ c4) (ne3 : c3 ≠ c4) :
    MetFree l (⟨"com/example/planwright/planwright/quality/Measure", "of", "(Lcom/example/planwright/planwright/model/Criterion;)Lcom/example/planwright/planwright/quality/Measure;"⟩ : MethodName) (head1 (Jvm.Cond.code (⟨"com/example/planwright/planwright/quality/Measure", "of", "(Lcom/example/planwright/planwright/model/Criterion;)Lcom/example/planwright/planwright/quality/Measure;"⟩ : MethodName) prog_60_method_4_code 5 (some (.object "com/example/planwright/planwright/quality/Measure")) :: ws) ({ frames := 2, cells := 1, slots := 5, locals := 25 } : Room)) (fun a U => a = #[(.ref c4)] ∧ Z.Warmed39 U.vm ∧ U.heap = h0) (fun _ _ _ _ _ => True) (fun _ U o U' => ∃ v L, o = .returned v ∧ Q_rmO4 Z c4 va kv m0 m1 m2 m3 m4 c0 c1 c2 c3 h0 n0 v U'.heap L ∧ FrameEnd U o U' L ({ frames := 2, cells := 1, slots := 5, locals := 25 } : Room).cells ({ frames := 2, cells := 1, slots := 5, locals := 25 } : Room).slots) := by
  refine MetFree.of_bodySF (plainFor_of_name own_pn_0) hisR ?_
  intro p e s m args below meth c s₁ Bd hml0 hP hK
  obtain ⟨rfl, hZ, hh⟩ := hP
  have hx := Bd.exec
  have hby := Bd.bytes
  have hml : c.maxLocals = 5 := hml0
  have hown : s.vm.findClass "com/example/planwright/planwright/quality/Measure" = some m.cls := findClass_of_methodNamed Bd.named
  have hnm := (name_of_methodNamed Bd.named Bd.method).1
  have X0 : Stand p l e ({ frames := 2, cells := 1, slots := 5, locals := 25 } : Room) s m #[(.ref c4)] below meth c s₁ [] 0 0 := Stand.of_body Bd
  have e0 : s₁.heap = h0 := by rw [← hh, Bd.state]; rfl
  have N0 := Fr.nil n0
  have K0 : Keep h0 h0 [] := Keep.refl h0 _
  have pre0 : ∀ t, Steps p.tables e below (s₁.setTop (mkF m 0 #[.val (.ref c4), .unset, .unset, .unset, .unset] [])) t → Steps p.tables e below (s₁.setTop (entryFrame m #[(.ref c4)] 5)) t := fun t k => castTop (own_ef_1 m c4) k
  obtain ⟨_, _, ⟨T92, L92, k92, n92⟩, -, X92, ⟨Lc92, hQ92, l92, y92, z92⟩, st92⟩ := Jvm.LawKit.callS X0 hx (y := (⟨"com/example/planwright/planwright/quality/Measure", "values", "()[Lcom/example/planwright/planwright/quality/Measure;"⟩ : MethodName)) hown (mvT hZ (hw _ (List.mem_of_getElem? (i := 10) rfl))) (mvT hZ (hw _ (List.mem_of_getElem? (i := 11) rfl))) (mvT hZ (hw _ (List.mem_of_getElem? (i := 5) rfl))) (mvT hZ (hw _ (List.mem_of_getElem? (i := 12) rfl))) (by decide) (backOf (W := 0) (rmV l Z a0 hw []  va kv m0 m1 m2 m3 m4 h0 n0 Z0 S1 V1 E1 FC) hZ (hw _ (List.mem_of_getElem? (i := 12) rfl)) (hw _ (List.mem_of_getElem? (i := 5) rfl)) (by decide) (by decide)) (g := (mkF m 0 #[.val (.ref c4), .unset, .unset, .unset, .unset] [])) rfl (by rw [hml]; rfl) (argsL := []) (rest := []) (lenOf own_pd_0 rfl) rfl (by show 2 * 0 + _ ≤ _; exact Nat.le_of_eq rfl) (hb hby own_d1_0) (fun _ _ => ⟨rfl, e0, (by decide : 0 + 1 ≤ _), (by decide : 0 + 5 ≤ _)⟩)
  dsimp only [Pt.U, Pt.locs, Pt.cells, Pt.slots] at X92 l92 y92 z92 st92 hQ92
  subst l92 y92 z92
  obtain ⟨bv92, kq92, rfl, Nq92, Kq92, Vq92⟩ := hQ92
  have N92 := Fr.app N0 Nq92
  have f93 := own_sta_keep S1 Kq92 all0
  have f94 := V1.keep Kq92 nin0
  have f95 := E1.keep Kq92
  have f96 := F0.keep Kq92 nin0
  have f97 := F1.keep Kq92 nin0
  have f98 := F2.keep Kq92 nin0
  have f99 := F3.keep Kq92 nin0
  have f100 := F4.keep Kq92 nin0
  have Z101 : n0 ≤ T92.heap.size := Nat.le_trans Z0 Kq92.1
  have K102 := K0.trans Kq92 all0
  obtain ⟨cl103, Ar103, q103, S103, Ng103, H103, G103⟩ := id Vq92
  have k104 : ∀ t, Steps p.tables e below (T92.setTop (mkF m 11 #[.val (.ref c4), .val (.ref bv92), .val (.int (5 : Int32)), .val (.int (0 : Int32)), .unset] [(.int (5 : Int32)), (.int (0 : Int32))])) t → Steps p.tables e below (s₁.setTop (mkF m 0 #[.val (.ref c4), .unset, .unset, .unset, .unset] [])) t := by
    intro t h
    show Steps p.tables e below (s₁.setTop (mkF m 0 #[.val (.ref c4), .unset, .unset, .unset, .unset] [])) _
    refine st92 _ ?_
    show Steps p.tables e below (T92.setTop (mkF m 3 #[.val (.ref c4), .unset, .unset, .unset, .unset] [(.ref bv92)])) _
    refine XS.astoreN X92.here hx rfl (hb hby own_d1_3) rfl rfl (l' := #[.val (.ref c4), .val (.ref bv92), .unset, .unset, .unset]) rfl ?_
    show Steps p.tables e below (T92.setTop (mkF m 4 #[.val (.ref c4), .val (.ref bv92), .unset, .unset, .unset] [])) _
    refine XS.aloadN X92.here hx rfl (hb hby own_d1_4) rfl rfl ?_
    show Steps p.tables e below (T92.setTop (mkF m 5 #[.val (.ref c4), .val (.ref bv92), .unset, .unset, .unset] [(.ref bv92)])) _
    refine X92.arraylength hx Ar103.1 (State.isArrayOf_alike hZ.alike Ar103.2.1) (g := (mkF m 5 #[.val (.ref c4), .val (.ref bv92), .unset, .unset, .unset] [(.ref bv92)])) rfl rfl (hb hby own_d1_5) _ ?_
    rw [len_of S103 Ng103]
    show Steps p.tables e below (T92.setTop (mkF m 6 #[.val (.ref c4), .val (.ref bv92), .unset, .unset, .unset] [(.int (5 : Int32))])) _
    refine XS.istoreN X92.here hx rfl (hb hby own_d1_6) rfl (l' := #[.val (.ref c4), .val (.ref bv92), .val (.int (5 : Int32)), .unset, .unset]) rfl ?_
    show Steps p.tables e below (T92.setTop (mkF m 7 #[.val (.ref c4), .val (.ref bv92), .val (.int (5 : Int32)), .unset, .unset] [])) _
    refine XS.iconst X92.here hx rfl (hb hby own_d1_7) ?_
    show Steps p.tables e below (T92.setTop (mkF m 8 #[.val (.ref c4), .val (.ref bv92), .val (.int (5 : Int32)), .unset, .unset] [(.int (0 : Int32))])) _
    refine XS.istoreN X92.here hx rfl (hb hby own_d1_8) rfl (l' := #[.val (.ref c4), .val (.ref bv92), .val (.int (5 : Int32)), .val (.int (0 : Int32)), .unset]) rfl ?_
    show Steps p.tables e below (T92.setTop (mkF m 9 #[.val (.ref c4), .val (.ref bv92), .val (.int (5 : Int32)), .val (.int (0 : Int32)), .unset] [])) _
    refine XS.iloadN X92.here hx rfl (hb hby own_d1_9) rfl ?_
    show Steps p.tables e below (T92.setTop (mkF m 10 #[.val (.ref c4), .val (.ref bv92), .val (.int (5 : Int32)), .val (.int (0 : Int32)), .unset] [(.int (0 : Int32))])) _
    refine XS.iloadN X92.here hx rfl (hb hby own_d1_10) rfl ?_
    exact h
  obtain ⟨cl105, Ar105, q105, S105, Ng105, H105, G105⟩ := id Vq92
  have hin105 : ¬ ((0 : Int32) < 0 ∨ cl105.slots.size ≤ ((0 : Int32)).toNatClampNeg) := inb_of S105 ⟨by decide, by decide⟩
  obtain ⟨T106, X106, e106, st106⟩ := getF X92 hx hZ hown (host := "") (Or.inl (hw _ (List.mem_of_getElem? (i := 29) rfl))) Via.refl rfl f96 (g := (mkF m 21 #[.val (.ref c4), .val (.ref bv92), .val (.int (5 : Int32)), .val (.int (0 : Int32)), .val (.ref m0)] [(.ref m0)])) rfl rfl (hb hby own_d1_21)
  have k107 : ∀ t, Steps p.tables e below (T106.setTop (mkF m 25 #[.val (.ref c4), .val (.ref bv92), .val (.int (5 : Int32)), .val (.int (0 : Int32)), .val (.ref m0)] [(.ref c4), (.ref c0)])) t → Steps p.tables e below (s₁.setTop (mkF m 0 #[.val (.ref c4), .unset, .unset, .unset, .unset] [])) t := by
    intro t h
    refine k104 t ?_
    show Steps p.tables e below (T92.setTop (mkF m 11 #[.val (.ref c4), .val (.ref bv92), .val (.int (5 : Int32)), .val (.int (0 : Int32)), .unset] [(.int (5 : Int32)), (.int (0 : Int32))])) _
    refine XS.icmpNo X92.here hx rfl (hb hby own_d1_11) rfl (tlt (by decide : (0 : Int32) < (5 : Int32))).2.1 ?_
    show Steps p.tables e below (T92.setTop (mkF m 14 #[.val (.ref c4), .val (.ref bv92), .val (.int (5 : Int32)), .val (.int (0 : Int32)), .unset] [])) _
    refine XS.aloadN X92.here hx rfl (hb hby own_d1_14) rfl rfl ?_
    show Steps p.tables e below (T92.setTop (mkF m 15 #[.val (.ref c4), .val (.ref bv92), .val (.int (5 : Int32)), .val (.int (0 : Int32)), .unset] [(.ref bv92)])) _
    refine XS.iloadN X92.here hx rfl (hb hby own_d1_15) rfl ?_
    show Steps p.tables e below (T92.setTop (mkF m 16 #[.val (.ref c4), .val (.ref bv92), .val (.int (5 : Int32)), .val (.int (0 : Int32)), .unset] [(.int (0 : Int32)), (.ref bv92)])) _
    refine X92.aaload hx (j := (0 : Int32)) (v := (.ref m0)) Ar105.1 (State.isArrayOf_alike hZ.alike Ar105.2.1) rfl Ar105.2.2 hin105 (H105.at hin105 rfl) (g := (mkF m 16 #[.val (.ref c4), .val (.ref bv92), .val (.int (5 : Int32)), .val (.int (0 : Int32)), .unset] [(.int (0 : Int32)), (.ref bv92)])) rfl rfl (hb hby own_d1_16) _ ?_
    show Steps p.tables e below (T92.setTop (mkF m 17 #[.val (.ref c4), .val (.ref bv92), .val (.int (5 : Int32)), .val (.int (0 : Int32)), .unset] [(.ref m0)])) _
    refine XS.astore X92.here hx rfl (hb hby own_d1_17) rfl rfl (l' := #[.val (.ref c4), .val (.ref bv92), .val (.int (5 : Int32)), .val (.int (0 : Int32)), .val (.ref m0)]) rfl ?_
    show Steps p.tables e below (T92.setTop (mkF m 19 #[.val (.ref c4), .val (.ref bv92), .val (.int (5 : Int32)), .val (.int (0 : Int32)), .val (.ref m0)] [])) _
    refine XS.aload X92.here hx rfl (hb hby own_d1_19) rfl rfl ?_
    show Steps p.tables e below (T92.setTop (mkF m 21 #[.val (.ref c4), .val (.ref bv92), .val (.int (5 : Int32)), .val (.int (0 : Int32)), .val (.ref m0)] [(.ref m0)])) _
    refine st106 _ ?_
    show Steps p.tables e below (T106.setTop (mkF m 24 #[.val (.ref c4), .val (.ref bv92), .val (.int (5 : Int32)), .val (.int (0 : Int32)), .val (.ref m0)] [(.ref c0)])) _
    refine XS.aloadN X106.here hx rfl (hb hby own_d1_24) rfl rfl ?_
    exact h
  have k108 : ∀ t, Steps p.tables e below (T106.setTop (mkF m 11 #[.val (.ref c4), .val (.ref bv92), .val (.int (5 : Int32)), .val (.int (1 : Int32)), .val (.ref m0)] [(.int (5 : Int32)), (.int (1 : Int32))])) t → Steps p.tables e below (s₁.setTop (mkF m 0 #[.val (.ref c4), .unset, .unset, .unset, .unset] [])) t := by
    intro t h
    refine k107 t ?_
    show Steps p.tables e below (T106.setTop (mkF m 25 #[.val (.ref c4), .val (.ref bv92), .val (.int (5 : Int32)), .val (.int (0 : Int32)), .val (.ref m0)] [(.ref c4), (.ref c0)])) _
    refine Jvm.RoadKit.acmp (g := (mkF m 25 #[.val (.ref c4), .val (.ref bv92), .val (.int (5 : Int32)), .val (.int (0 : Int32)), .val (.ref m0)] [(.ref c4), (.ref c0)])) X106 hx rfl rfl rfl (pc0 := 25) (pc' := 31) (same := false) rfl (hb hby own_d1_25) rfl (decide_eq_false fun q => ne0 (Value.ref.inj q)) (by decide) (by decide) ?_
    show Steps p.tables e below (T106.setTop (mkF m 31 #[.val (.ref c4), .val (.ref bv92), .val (.int (5 : Int32)), .val (.int (0 : Int32)), .val (.ref m0)] [])) _
    refine XS.iinc X106.here hx rfl (hb hby own_d1_31) rfl (l' := #[.val (.ref c4), .val (.ref bv92), .val (.int (5 : Int32)), .val (.int (1 : Int32)), .val (.ref m0)]) rfl ?_
    show Steps p.tables e below (T106.setTop (mkF m 34 #[.val (.ref c4), .val (.ref bv92), .val (.int (5 : Int32)), .val (.int (1 : Int32)), .val (.ref m0)] [])) _
    refine XS.goto X106.here hx rfl (pc0 := 34) (pc' := 9) rfl (hb hby own_d1_34) (by decide) (by decide) ?_
    show Steps p.tables e below (T106.setTop (mkF m 9 #[.val (.ref c4), .val (.ref bv92), .val (.int (5 : Int32)), .val (.int (1 : Int32)), .val (.ref m0)] [])) _
    refine XS.iloadN X106.here hx rfl (hb hby own_d1_9) rfl ?_
    show Steps p.tables e below (T106.setTop (mkF m 10 #[.val (.ref c4), .val (.ref bv92), .val (.int (5 : Int32)), .val (.int (1 : Int32)), .val (.ref m0)] [(.int (1 : Int32))])) _
    refine XS.iloadN X106.here hx rfl (hb hby own_d1_10) rfl ?_
    exact h
  obtain ⟨cl109, Ar109, q109, S109, Ng109, H109, G109⟩ := id Vq92
  have hin109 : ¬ ((1 : Int32) < 0 ∨ cl109.slots.size ≤ ((1 : Int32)).toNatClampNeg) := inb_of S109 ⟨by decide, by decide⟩
  obtain ⟨T110, X110, e110, st110⟩ := getF X106 hx hZ hown (host := "") (Or.inl (hw _ (List.mem_of_getElem? (i := 29) rfl))) Via.refl e106 f97 (g := (mkF m 21 #[.val (.ref c4), .val (.ref bv92), .val (.int (5 : Int32)), .val (.int (1 : Int32)), .val (.ref m1)] [(.ref m1)])) rfl rfl (hb hby own_d1_21)
  have k111 : ∀ t, Steps p.tables e below (T110.setTop (mkF m 25 #[.val (.ref c4), .val (.ref bv92), .val (.int (5 : Int32)), .val (.int (1 : Int32)), .val (.ref m1)] [(.ref c4), (.ref c1)])) t → Steps p.tables e below (s₁.setTop (mkF m 0 #[.val (.ref c4), .unset, .unset, .unset, .unset] [])) t := by
    intro t h
    refine k108 t ?_
    show Steps p.tables e below (T106.setTop (mkF m 11 #[.val (.ref c4), .val (.ref bv92), .val (.int (5 : Int32)), .val (.int (1 : Int32)), .val (.ref m0)] [(.int (5 : Int32)), (.int (1 : Int32))])) _
    refine XS.icmpNo X106.here hx rfl (hb hby own_d1_11) rfl (tlt (by decide : (1 : Int32) < (5 : Int32))).2.1 ?_
    show Steps p.tables e below (T106.setTop (mkF m 14 #[.val (.ref c4), .val (.ref bv92), .val (.int (5 : Int32)), .val (.int (1 : Int32)), .val (.ref m0)] [])) _
    refine XS.aloadN X106.here hx rfl (hb hby own_d1_14) rfl rfl ?_
    show Steps p.tables e below (T106.setTop (mkF m 15 #[.val (.ref c4), .val (.ref bv92), .val (.int (5 : Int32)), .val (.int (1 : Int32)), .val (.ref m0)] [(.ref bv92)])) _
    refine XS.iloadN X106.here hx rfl (hb hby own_d1_15) rfl ?_
    show Steps p.tables e below (T106.setTop (mkF m 16 #[.val (.ref c4), .val (.ref bv92), .val (.int (5 : Int32)), .val (.int (1 : Int32)), .val (.ref m0)] [(.int (1 : Int32)), (.ref bv92)])) _
    refine X106.aaload hx (j := (1 : Int32)) (v := (.ref m1)) (by rw [e106]; exact Ar109.1) (State.isArrayOf_alike hZ.alike Ar109.2.1) rfl Ar109.2.2 hin109 (H109.at hin109 rfl) (g := (mkF m 16 #[.val (.ref c4), .val (.ref bv92), .val (.int (5 : Int32)), .val (.int (1 : Int32)), .val (.ref m0)] [(.int (1 : Int32)), (.ref bv92)])) rfl rfl (hb hby own_d1_16) _ ?_
    show Steps p.tables e below (T106.setTop (mkF m 17 #[.val (.ref c4), .val (.ref bv92), .val (.int (5 : Int32)), .val (.int (1 : Int32)), .val (.ref m0)] [(.ref m1)])) _
    refine XS.astore X106.here hx rfl (hb hby own_d1_17) rfl rfl (l' := #[.val (.ref c4), .val (.ref bv92), .val (.int (5 : Int32)), .val (.int (1 : Int32)), .val (.ref m1)]) rfl ?_
    show Steps p.tables e below (T106.setTop (mkF m 19 #[.val (.ref c4), .val (.ref bv92), .val (.int (5 : Int32)), .val (.int (1 : Int32)), .val (.ref m1)] [])) _
    refine XS.aload X106.here hx rfl (hb hby own_d1_19) rfl rfl ?_
    show Steps p.tables e below (T106.setTop (mkF m 21 #[.val (.ref c4), .val (.ref bv92), .val (.int (5 : Int32)), .val (.int (1 : Int32)), .val (.ref m1)] [(.ref m1)])) _
    refine st110 _ ?_
    show Steps p.tables e below (T110.setTop (mkF m 24 #[.val (.ref c4), .val (.ref bv92), .val (.int (5 : Int32)), .val (.int (1 : Int32)), .val (.ref m1)] [(.ref c1)])) _
    refine XS.aloadN X110.here hx rfl (hb hby own_d1_24) rfl rfl ?_
    exact h
  have k112 : ∀ t, Steps p.tables e below (T110.setTop (mkF m 11 #[.val (.ref c4), .val (.ref bv92), .val (.int (5 : Int32)), .val (.int (2 : Int32)), .val (.ref m1)] [(.int (5 : Int32)), (.int (2 : Int32))])) t → Steps p.tables e below (s₁.setTop (mkF m 0 #[.val (.ref c4), .unset, .unset, .unset, .unset] [])) t := by
    intro t h
    refine k111 t ?_
    show Steps p.tables e below (T110.setTop (mkF m 25 #[.val (.ref c4), .val (.ref bv92), .val (.int (5 : Int32)), .val (.int (1 : Int32)), .val (.ref m1)] [(.ref c4), (.ref c1)])) _
    refine Jvm.RoadKit.acmp (g := (mkF m 25 #[.val (.ref c4), .val (.ref bv92), .val (.int (5 : Int32)), .val (.int (1 : Int32)), .val (.ref m1)] [(.ref c4), (.ref c1)])) X110 hx rfl rfl rfl (pc0 := 25) (pc' := 31) (same := false) rfl (hb hby own_d1_25) rfl (decide_eq_false fun q => ne1 (Value.ref.inj q)) (by decide) (by decide) ?_
    show Steps p.tables e below (T110.setTop (mkF m 31 #[.val (.ref c4), .val (.ref bv92), .val (.int (5 : Int32)), .val (.int (1 : Int32)), .val (.ref m1)] [])) _
    refine XS.iinc X110.here hx rfl (hb hby own_d1_31) rfl (l' := #[.val (.ref c4), .val (.ref bv92), .val (.int (5 : Int32)), .val (.int (2 : Int32)), .val (.ref m1)]) rfl ?_
    show Steps p.tables e below (T110.setTop (mkF m 34 #[.val (.ref c4), .val (.ref bv92), .val (.int (5 : Int32)), .val (.int (2 : Int32)), .val (.ref m1)] [])) _
    refine XS.goto X110.here hx rfl (pc0 := 34) (pc' := 9) rfl (hb hby own_d1_34) (by decide) (by decide) ?_
    show Steps p.tables e below (T110.setTop (mkF m 9 #[.val (.ref c4), .val (.ref bv92), .val (.int (5 : Int32)), .val (.int (2 : Int32)), .val (.ref m1)] [])) _
    refine XS.iloadN X110.here hx rfl (hb hby own_d1_9) rfl ?_
    show Steps p.tables e below (T110.setTop (mkF m 10 #[.val (.ref c4), .val (.ref bv92), .val (.int (5 : Int32)), .val (.int (2 : Int32)), .val (.ref m1)] [(.int (2 : Int32))])) _
    refine XS.iloadN X110.here hx rfl (hb hby own_d1_10) rfl ?_
    exact h
  obtain ⟨cl113, Ar113, q113, S113, Ng113, H113, G113⟩ := id Vq92
  have hin113 : ¬ ((2 : Int32) < 0 ∨ cl113.slots.size ≤ ((2 : Int32)).toNatClampNeg) := inb_of S113 ⟨by decide, by decide⟩
  obtain ⟨T114, X114, e114, st114⟩ := getF X110 hx hZ hown (host := "") (Or.inl (hw _ (List.mem_of_getElem? (i := 29) rfl))) Via.refl e110 f98 (g := (mkF m 21 #[.val (.ref c4), .val (.ref bv92), .val (.int (5 : Int32)), .val (.int (2 : Int32)), .val (.ref m2)] [(.ref m2)])) rfl rfl (hb hby own_d1_21)
  have k115 : ∀ t, Steps p.tables e below (T114.setTop (mkF m 25 #[.val (.ref c4), .val (.ref bv92), .val (.int (5 : Int32)), .val (.int (2 : Int32)), .val (.ref m2)] [(.ref c4), (.ref c2)])) t → Steps p.tables e below (s₁.setTop (mkF m 0 #[.val (.ref c4), .unset, .unset, .unset, .unset] [])) t := by
    intro t h
    refine k112 t ?_
    show Steps p.tables e below (T110.setTop (mkF m 11 #[.val (.ref c4), .val (.ref bv92), .val (.int (5 : Int32)), .val (.int (2 : Int32)), .val (.ref m1)] [(.int (5 : Int32)), (.int (2 : Int32))])) _
    refine XS.icmpNo X110.here hx rfl (hb hby own_d1_11) rfl (tlt (by decide : (2 : Int32) < (5 : Int32))).2.1 ?_
    show Steps p.tables e below (T110.setTop (mkF m 14 #[.val (.ref c4), .val (.ref bv92), .val (.int (5 : Int32)), .val (.int (2 : Int32)), .val (.ref m1)] [])) _
    refine XS.aloadN X110.here hx rfl (hb hby own_d1_14) rfl rfl ?_
    show Steps p.tables e below (T110.setTop (mkF m 15 #[.val (.ref c4), .val (.ref bv92), .val (.int (5 : Int32)), .val (.int (2 : Int32)), .val (.ref m1)] [(.ref bv92)])) _
    refine XS.iloadN X110.here hx rfl (hb hby own_d1_15) rfl ?_
    show Steps p.tables e below (T110.setTop (mkF m 16 #[.val (.ref c4), .val (.ref bv92), .val (.int (5 : Int32)), .val (.int (2 : Int32)), .val (.ref m1)] [(.int (2 : Int32)), (.ref bv92)])) _
    refine X110.aaload hx (j := (2 : Int32)) (v := (.ref m2)) (by rw [e110]; exact Ar113.1) (State.isArrayOf_alike hZ.alike Ar113.2.1) rfl Ar113.2.2 hin113 (H113.at hin113 rfl) (g := (mkF m 16 #[.val (.ref c4), .val (.ref bv92), .val (.int (5 : Int32)), .val (.int (2 : Int32)), .val (.ref m1)] [(.int (2 : Int32)), (.ref bv92)])) rfl rfl (hb hby own_d1_16) _ ?_
    show Steps p.tables e below (T110.setTop (mkF m 17 #[.val (.ref c4), .val (.ref bv92), .val (.int (5 : Int32)), .val (.int (2 : Int32)), .val (.ref m1)] [(.ref m2)])) _
    refine XS.astore X110.here hx rfl (hb hby own_d1_17) rfl rfl (l' := #[.val (.ref c4), .val (.ref bv92), .val (.int (5 : Int32)), .val (.int (2 : Int32)), .val (.ref m2)]) rfl ?_
    show Steps p.tables e below (T110.setTop (mkF m 19 #[.val (.ref c4), .val (.ref bv92), .val (.int (5 : Int32)), .val (.int (2 : Int32)), .val (.ref m2)] [])) _
    refine XS.aload X110.here hx rfl (hb hby own_d1_19) rfl rfl ?_
    show Steps p.tables e below (T110.setTop (mkF m 21 #[.val (.ref c4), .val (.ref bv92), .val (.int (5 : Int32)), .val (.int (2 : Int32)), .val (.ref m2)] [(.ref m2)])) _
    refine st114 _ ?_
    show Steps p.tables e below (T114.setTop (mkF m 24 #[.val (.ref c4), .val (.ref bv92), .val (.int (5 : Int32)), .val (.int (2 : Int32)), .val (.ref m2)] [(.ref c2)])) _
    refine XS.aloadN X114.here hx rfl (hb hby own_d1_24) rfl rfl ?_
    exact h
  have k116 : ∀ t, Steps p.tables e below (T114.setTop (mkF m 11 #[.val (.ref c4), .val (.ref bv92), .val (.int (5 : Int32)), .val (.int (3 : Int32)), .val (.ref m2)] [(.int (5 : Int32)), (.int (3 : Int32))])) t → Steps p.tables e below (s₁.setTop (mkF m 0 #[.val (.ref c4), .unset, .unset, .unset, .unset] [])) t := by
    intro t h
    refine k115 t ?_
    show Steps p.tables e below (T114.setTop (mkF m 25 #[.val (.ref c4), .val (.ref bv92), .val (.int (5 : Int32)), .val (.int (2 : Int32)), .val (.ref m2)] [(.ref c4), (.ref c2)])) _
    refine Jvm.RoadKit.acmp (g := (mkF m 25 #[.val (.ref c4), .val (.ref bv92), .val (.int (5 : Int32)), .val (.int (2 : Int32)), .val (.ref m2)] [(.ref c4), (.ref c2)])) X114 hx rfl rfl rfl (pc0 := 25) (pc' := 31) (same := false) rfl (hb hby own_d1_25) rfl (decide_eq_false fun q => ne2 (Value.ref.inj q)) (by decide) (by decide) ?_
    show Steps p.tables e below (T114.setTop (mkF m 31 #[.val (.ref c4), .val (.ref bv92), .val (.int (5 : Int32)), .val (.int (2 : Int32)), .val (.ref m2)] [])) _
    refine XS.iinc X114.here hx rfl (hb hby own_d1_31) rfl (l' := #[.val (.ref c4), .val (.ref bv92), .val (.int (5 : Int32)), .val (.int (3 : Int32)), .val (.ref m2)]) rfl ?_
    show Steps p.tables e below (T114.setTop (mkF m 34 #[.val (.ref c4), .val (.ref bv92), .val (.int (5 : Int32)), .val (.int (3 : Int32)), .val (.ref m2)] [])) _
    refine XS.goto X114.here hx rfl (pc0 := 34) (pc' := 9) rfl (hb hby own_d1_34) (by decide) (by decide) ?_
    show Steps p.tables e below (T114.setTop (mkF m 9 #[.val (.ref c4), .val (.ref bv92), .val (.int (5 : Int32)), .val (.int (3 : Int32)), .val (.ref m2)] [])) _
    refine XS.iloadN X114.here hx rfl (hb hby own_d1_9) rfl ?_
    show Steps p.tables e below (T114.setTop (mkF m 10 #[.val (.ref c4), .val (.ref bv92), .val (.int (5 : Int32)), .val (.int (3 : Int32)), .val (.ref m2)] [(.int (3 : Int32))])) _
    refine XS.iloadN X114.here hx rfl (hb hby own_d1_10) rfl ?_
    exact h
  obtain ⟨cl117, Ar117, q117, S117, Ng117, H117, G117⟩ := id Vq92
  have hin117 : ¬ ((3 : Int32) < 0 ∨ cl117.slots.size ≤ ((3 : Int32)).toNatClampNeg) := inb_of S117 ⟨by decide, by decide⟩
  obtain ⟨T118, X118, e118, st118⟩ := getF X114 hx hZ hown (host := "") (Or.inl (hw _ (List.mem_of_getElem? (i := 29) rfl))) Via.refl e114 f99 (g := (mkF m 21 #[.val (.ref c4), .val (.ref bv92), .val (.int (5 : Int32)), .val (.int (3 : Int32)), .val (.ref m3)] [(.ref m3)])) rfl rfl (hb hby own_d1_21)
  have k119 : ∀ t, Steps p.tables e below (T118.setTop (mkF m 25 #[.val (.ref c4), .val (.ref bv92), .val (.int (5 : Int32)), .val (.int (3 : Int32)), .val (.ref m3)] [(.ref c4), (.ref c3)])) t → Steps p.tables e below (s₁.setTop (mkF m 0 #[.val (.ref c4), .unset, .unset, .unset, .unset] [])) t := by
    intro t h
    refine k116 t ?_
    show Steps p.tables e below (T114.setTop (mkF m 11 #[.val (.ref c4), .val (.ref bv92), .val (.int (5 : Int32)), .val (.int (3 : Int32)), .val (.ref m2)] [(.int (5 : Int32)), (.int (3 : Int32))])) _
    refine XS.icmpNo X114.here hx rfl (hb hby own_d1_11) rfl (tlt (by decide : (3 : Int32) < (5 : Int32))).2.1 ?_
    show Steps p.tables e below (T114.setTop (mkF m 14 #[.val (.ref c4), .val (.ref bv92), .val (.int (5 : Int32)), .val (.int (3 : Int32)), .val (.ref m2)] [])) _
    refine XS.aloadN X114.here hx rfl (hb hby own_d1_14) rfl rfl ?_
    show Steps p.tables e below (T114.setTop (mkF m 15 #[.val (.ref c4), .val (.ref bv92), .val (.int (5 : Int32)), .val (.int (3 : Int32)), .val (.ref m2)] [(.ref bv92)])) _
    refine XS.iloadN X114.here hx rfl (hb hby own_d1_15) rfl ?_
    show Steps p.tables e below (T114.setTop (mkF m 16 #[.val (.ref c4), .val (.ref bv92), .val (.int (5 : Int32)), .val (.int (3 : Int32)), .val (.ref m2)] [(.int (3 : Int32)), (.ref bv92)])) _
    refine X114.aaload hx (j := (3 : Int32)) (v := (.ref m3)) (by rw [e114]; exact Ar117.1) (State.isArrayOf_alike hZ.alike Ar117.2.1) rfl Ar117.2.2 hin117 (H117.at hin117 rfl) (g := (mkF m 16 #[.val (.ref c4), .val (.ref bv92), .val (.int (5 : Int32)), .val (.int (3 : Int32)), .val (.ref m2)] [(.int (3 : Int32)), (.ref bv92)])) rfl rfl (hb hby own_d1_16) _ ?_
    show Steps p.tables e below (T114.setTop (mkF m 17 #[.val (.ref c4), .val (.ref bv92), .val (.int (5 : Int32)), .val (.int (3 : Int32)), .val (.ref m2)] [(.ref m3)])) _
    refine XS.astore X114.here hx rfl (hb hby own_d1_17) rfl rfl (l' := #[.val (.ref c4), .val (.ref bv92), .val (.int (5 : Int32)), .val (.int (3 : Int32)), .val (.ref m3)]) rfl ?_
    show Steps p.tables e below (T114.setTop (mkF m 19 #[.val (.ref c4), .val (.ref bv92), .val (.int (5 : Int32)), .val (.int (3 : Int32)), .val (.ref m3)] [])) _
    refine XS.aload X114.here hx rfl (hb hby own_d1_19) rfl rfl ?_
    show Steps p.tables e below (T114.setTop (mkF m 21 #[.val (.ref c4), .val (.ref bv92), .val (.int (5 : Int32)), .val (.int (3 : Int32)), .val (.ref m3)] [(.ref m3)])) _
    refine st118 _ ?_
    show Steps p.tables e below (T118.setTop (mkF m 24 #[.val (.ref c4), .val (.ref bv92), .val (.int (5 : Int32)), .val (.int (3 : Int32)), .val (.ref m3)] [(.ref c3)])) _
    refine XS.aloadN X118.here hx rfl (hb hby own_d1_24) rfl rfl ?_
    exact h
  have k120 : ∀ t, Steps p.tables e below (T118.setTop (mkF m 11 #[.val (.ref c4), .val (.ref bv92), .val (.int (5 : Int32)), .val (.int (4 : Int32)), .val (.ref m3)] [(.int (5 : Int32)), (.int (4 : Int32))])) t → Steps p.tables e below (s₁.setTop (mkF m 0 #[.val (.ref c4), .unset, .unset, .unset, .unset] [])) t := by
    intro t h
    refine k119 t ?_
    show Steps p.tables e below (T118.setTop (mkF m 25 #[.val (.ref c4), .val (.ref bv92), .val (.int (5 : Int32)), .val (.int (3 : Int32)), .val (.ref m3)] [(.ref c4), (.ref c3)])) _
    refine Jvm.RoadKit.acmp (g := (mkF m 25 #[.val (.ref c4), .val (.ref bv92), .val (.int (5 : Int32)), .val (.int (3 : Int32)), .val (.ref m3)] [(.ref c4), (.ref c3)])) X118 hx rfl rfl rfl (pc0 := 25) (pc' := 31) (same := false) rfl (hb hby own_d1_25) rfl (decide_eq_false fun q => ne3 (Value.ref.inj q)) (by decide) (by decide) ?_
    show Steps p.tables e below (T118.setTop (mkF m 31 #[.val (.ref c4), .val (.ref bv92), .val (.int (5 : Int32)), .val (.int (3 : Int32)), .val (.ref m3)] [])) _
    refine XS.iinc X118.here hx rfl (hb hby own_d1_31) rfl (l' := #[.val (.ref c4), .val (.ref bv92), .val (.int (5 : Int32)), .val (.int (4 : Int32)), .val (.ref m3)]) rfl ?_
    show Steps p.tables e below (T118.setTop (mkF m 34 #[.val (.ref c4), .val (.ref bv92), .val (.int (5 : Int32)), .val (.int (4 : Int32)), .val (.ref m3)] [])) _
    refine XS.goto X118.here hx rfl (pc0 := 34) (pc' := 9) rfl (hb hby own_d1_34) (by decide) (by decide) ?_
    show Steps p.tables e below (T118.setTop (mkF m 9 #[.val (.ref c4), .val (.ref bv92), .val (.int (5 : Int32)), .val (.int (4 : Int32)), .val (.ref m3)] [])) _
    refine XS.iloadN X118.here hx rfl (hb hby own_d1_9) rfl ?_
    show Steps p.tables e below (T118.setTop (mkF m 10 #[.val (.ref c4), .val (.ref bv92), .val (.int (5 : Int32)), .val (.int (4 : Int32)), .val (.ref m3)] [(.int (4 : Int32))])) _
    refine XS.iloadN X118.here hx rfl (hb hby own_d1_10) rfl ?_
    exact h
  obtain ⟨cl121, Ar121, q121, S121, Ng121, H121, G121⟩ := id Vq92
  have hin121 : ¬ ((4 : Int32) < 0 ∨ cl121.slots.size ≤ ((4 : Int32)).toNatClampNeg) := inb_of S121 ⟨by decide, by decide⟩
  obtain ⟨T122, X122, e122, st122⟩ := getF X118 hx hZ hown (host := "") (Or.inl (hw _ (List.mem_of_getElem? (i := 29) rfl))) Via.refl e118 f100 (g := (mkF m 21 #[.val (.ref c4), .val (.ref bv92), .val (.int (5 : Int32)), .val (.int (4 : Int32)), .val (.ref m4)] [(.ref m4)])) rfl rfl (hb hby own_d1_21)
  have k123 : ∀ t, Steps p.tables e below (T122.setTop (mkF m 25 #[.val (.ref c4), .val (.ref bv92), .val (.int (5 : Int32)), .val (.int (4 : Int32)), .val (.ref m4)] [(.ref c4), (.ref c4)])) t → Steps p.tables e below (s₁.setTop (mkF m 0 #[.val (.ref c4), .unset, .unset, .unset, .unset] [])) t := by
    intro t h
    refine k120 t ?_
    show Steps p.tables e below (T118.setTop (mkF m 11 #[.val (.ref c4), .val (.ref bv92), .val (.int (5 : Int32)), .val (.int (4 : Int32)), .val (.ref m3)] [(.int (5 : Int32)), (.int (4 : Int32))])) _
    refine XS.icmpNo X118.here hx rfl (hb hby own_d1_11) rfl (tlt (by decide : (4 : Int32) < (5 : Int32))).2.1 ?_
    show Steps p.tables e below (T118.setTop (mkF m 14 #[.val (.ref c4), .val (.ref bv92), .val (.int (5 : Int32)), .val (.int (4 : Int32)), .val (.ref m3)] [])) _
    refine XS.aloadN X118.here hx rfl (hb hby own_d1_14) rfl rfl ?_
    show Steps p.tables e below (T118.setTop (mkF m 15 #[.val (.ref c4), .val (.ref bv92), .val (.int (5 : Int32)), .val (.int (4 : Int32)), .val (.ref m3)] [(.ref bv92)])) _
    refine XS.iloadN X118.here hx rfl (hb hby own_d1_15) rfl ?_
    show Steps p.tables e below (T118.setTop (mkF m 16 #[.val (.ref c4), .val (.ref bv92), .val (.int (5 : Int32)), .val (.int (4 : Int32)), .val (.ref m3)] [(.int (4 : Int32)), (.ref bv92)])) _
    refine X118.aaload hx (j := (4 : Int32)) (v := (.ref m4)) (by rw [e118]; exact Ar121.1) (State.isArrayOf_alike hZ.alike Ar121.2.1) rfl Ar121.2.2 hin121 (H121.at hin121 rfl) (g := (mkF m 16 #[.val (.ref c4), .val (.ref bv92), .val (.int (5 : Int32)), .val (.int (4 : Int32)), .val (.ref m3)] [(.int (4 : Int32)), (.ref bv92)])) rfl rfl (hb hby own_d1_16) _ ?_
    show Steps p.tables e below (T118.setTop (mkF m 17 #[.val (.ref c4), .val (.ref bv92), .val (.int (5 : Int32)), .val (.int (4 : Int32)), .val (.ref m3)] [(.ref m4)])) _
    refine XS.astore X118.here hx rfl (hb hby own_d1_17) rfl rfl (l' := #[.val (.ref c4), .val (.ref bv92), .val (.int (5 : Int32)), .val (.int (4 : Int32)), .val (.ref m4)]) rfl ?_
    show Steps p.tables e below (T118.setTop (mkF m 19 #[.val (.ref c4), .val (.ref bv92), .val (.int (5 : Int32)), .val (.int (4 : Int32)), .val (.ref m4)] [])) _
    refine XS.aload X118.here hx rfl (hb hby own_d1_19) rfl rfl ?_
    show Steps p.tables e below (T118.setTop (mkF m 21 #[.val (.ref c4), .val (.ref bv92), .val (.int (5 : Int32)), .val (.int (4 : Int32)), .val (.ref m4)] [(.ref m4)])) _
    refine st122 _ ?_
    show Steps p.tables e below (T122.setTop (mkF m 24 #[.val (.ref c4), .val (.ref bv92), .val (.int (5 : Int32)), .val (.int (4 : Int32)), .val (.ref m4)] [(.ref c4)])) _
    refine XS.aloadN X122.here hx rfl (hb hby own_d1_24) rfl rfl ?_
    exact h
  have k124 : ∀ t, Steps p.tables e below (T122.setTop (mkF m 30 #[.val (.ref c4), .val (.ref bv92), .val (.int (5 : Int32)), .val (.int (4 : Int32)), .val (.ref m4)] [(.ref m4)])) t → Steps p.tables e below (s₁.setTop (mkF m 0 #[.val (.ref c4), .unset, .unset, .unset, .unset] [])) t := by
    intro t h
    refine k123 t ?_
    show Steps p.tables e below (T122.setTop (mkF m 25 #[.val (.ref c4), .val (.ref bv92), .val (.int (5 : Int32)), .val (.int (4 : Int32)), .val (.ref m4)] [(.ref c4), (.ref c4)])) _
    refine Jvm.RoadKit.acmp (g := (mkF m 25 #[.val (.ref c4), .val (.ref bv92), .val (.int (5 : Int32)), .val (.int (4 : Int32)), .val (.ref m4)] [(.ref c4), (.ref c4)])) X122 hx rfl rfl rfl (pc0 := 25) (pc' := 28) (same := true) rfl (hb hby own_d1_25) rfl (decide_eq_true rfl) (by decide) (by decide) ?_
    show Steps p.tables e below (T122.setTop (mkF m 28 #[.val (.ref c4), .val (.ref bv92), .val (.int (5 : Int32)), .val (.int (4 : Int32)), .val (.ref m4)] [])) _
    refine XS.aload X122.here hx rfl (hb hby own_d1_28) rfl rfl ?_
    exact h
  obtain ⟨fs, hr, hrun, hended, hW, hsame⟩ := X122.leave (v := some (.ref m4)) (fun h => by rw [Bd.returns] at h; cases h) Bd.notSynchronized
  refine ⟨_, _, pre0 _ (k124 _ ?_), hrun, hended, _, _, rfl, ?_, ⟨_, rfl⟩, hW, hsame.mono (by decide) (by decide)⟩
  · jvm_step X122.here [X122.here.top, hx, (hb hby own_d1_30), X122.method', Bd.returns, Value.isRef, FieldType.isReference]
    first | (intro acts; rw [hr _ acts rfl rfl rfl]) | rw [hr _ _ rfl rfl rfl]
    exact Steps.refl _
  · show Q_rmO4 Z _ _ _ _ _ _ _ _ _ _ _ _ h0 n0 _ T122.heap _
    rw [e122]
    exact ⟨rfl, N92, K102⟩
def Q_rmC (Z : State) (r0 : Addr) (w1 : Addr) (h0 : Heap) (n0 : Nat) (v : Option Value) (h : Heap) (L : List Loc) : Prop := v = some (.ref w1) ∧ Fr n0 L ∧ h = h0
set_option maxRecDepth 65536 in
set_option maxHeartbeats 40000000 in
theorem rmC (l : Launch) (Z : State) (a0 : Array Value) (hw : ∀ d ∈ tables_1, d.before a0 Z = true) (ws : List Jvm.Cond) (r0 : Addr) (w1 : Addr) (h0 : Heap) (n0 : Nat) (Z0 : n0 ≤ h0.size) (F1 : Fld Z h0 r0 "com/example/planwright/planwright/quality/Measure" "criterion" "Lcom/example/planwright/planwright/model/Criterion;" (.ref w1)) :
    MetFree l (⟨"com/example/planwright/planwright/quality/Measure", "criterion", "()Lcom/example/planwright/planwright/model/Criterion;"⟩ : MethodName) (head1 (Jvm.Cond.code (⟨"com/example/planwright/planwright/quality/Measure", "criterion", "()Lcom/example/planwright/planwright/model/Criterion;"⟩ : MethodName) prog_60_method_6_code 1 (some (.object "com/example/planwright/planwright/model/Criterion")) :: ws) ({ frames := 0, cells := 0, slots := 0, locals := 0 } : Room)) (fun a U => a = #[(.ref r0)] ∧ Z.Warmed39 U.vm ∧ U.heap = h0) (fun _ _ _ _ _ => True) (fun _ U o U' => ∃ v L, o = .returned v ∧ Q_rmC Z r0 w1 h0 n0 v U'.heap L ∧ FrameEnd U o U' L ({ frames := 0, cells := 0, slots := 0, locals := 0 } : Room).cells ({ frames := 0, cells := 0, slots := 0, locals := 0 } : Room).slots) := by
  refine MetFree.of_bodySF (plainFor_of_name own_pn_0) hisR ?_
  intro p e s m args below meth c s₁ Bd hml0 hP hK
  obtain ⟨rfl, hZ, hh⟩ := hP
  have hx := Bd.exec
  have hby := Bd.bytes
  have hml : c.maxLocals = 1 := hml0
  have hown : s.vm.findClass "com/example/planwright/planwright/quality/Measure" = some m.cls := findClass_of_methodNamed Bd.named
  have hnm := (name_of_methodNamed Bd.named Bd.method).1
  have X0 : Stand p l e ({ frames := 0, cells := 0, slots := 0, locals := 0 } : Room) s m #[(.ref r0)] below meth c s₁ [] 0 0 := Stand.of_body Bd
  have e0 : s₁.heap = h0 := by rw [← hh, Bd.state]; rfl
  have N0 := Fr.nil n0
  have K0 : Keep h0 h0 [] := Keep.refl h0 _
  have pre0 : ∀ t, Steps p.tables e below (s₁.setTop (mkF m 0 #[.val (.ref r0)] [])) t → Steps p.tables e below (s₁.setTop (entryFrame m #[(.ref r0)] 1)) t := fun t k => castTop (own_ef_2 m r0) k
  obtain ⟨T125, X125, e125, st125⟩ := getF X0 hx hZ hown (host := "") (Or.inl (hw _ (List.mem_of_getElem? (i := 29) rfl))) Via.refl e0 F1 (g := (mkF m 1 #[.val (.ref r0)] [(.ref r0)])) rfl rfl (hb hby own_d3_1)
  have k126 : ∀ t, Steps p.tables e below (T125.setTop (mkF m 4 #[.val (.ref r0)] [(.ref w1)])) t → Steps p.tables e below (s₁.setTop (mkF m 0 #[.val (.ref r0)] [])) t := by
    intro t h
    show Steps p.tables e below (s₁.setTop (mkF m 0 #[.val (.ref r0)] [])) _
    refine XS.aloadN X0.here hx rfl (hb hby own_d3_0) rfl rfl ?_
    show Steps p.tables e below (s₁.setTop (mkF m 1 #[.val (.ref r0)] [(.ref r0)])) _
    refine st125 _ ?_
    exact h
  obtain ⟨fs, hr, hrun, hended, hW, hsame⟩ := X125.leave (v := some (.ref w1)) (fun h => by rw [Bd.returns] at h; cases h) Bd.notSynchronized
  refine ⟨_, _, pre0 _ (k126 _ ?_), hrun, hended, _, _, rfl, ?_, ⟨_, rfl⟩, hW, hsame.mono (by decide) (by decide)⟩
  · jvm_step X125.here [X125.here.top, hx, (hb hby own_d3_4), X125.method', Bd.returns, Value.isRef, FieldType.isReference]
    first | (intro acts; rw [hr _ acts rfl rfl rfl]) | rw [hr _ _ rfl rfl rfl]
    exact Steps.refl _
  · show Q_rmC Z _ _ h0 n0 _ T125.heap _
    rw [e125]
    exact ⟨rfl, N0, rfl⟩
def Q_rm0 (Z : State) (p0 : Int32) (va : Addr) (kv : ClassId) (m0 : Addr) (m1 : Addr) (m2 : Addr) (m3 : Addr) (m4 : Addr) (c0 : Addr) (c1 : Addr) (c2 : Addr) (c3 : Addr) (c4 : Addr) (h0 : Heap) (n0 : Nat) (v : Option Value) (h : Heap) (L : List Loc) : Prop := v = some (.int 1) ∧ Fr n0 L
set_option maxRecDepth 65536 in
set_option maxHeartbeats 40000000 in
theorem rm0 (l : Launch) (Z : State) (a0 : Array Value) (hw : ∀ d ∈ tables_1, d.before a0 Z = true) (ws : List Jvm.Cond) (p0 : Int32) (va : Addr) (kv : ClassId) (m0 : Addr) (m1 : Addr) (m2 : Addr) (m3 : Addr) (m4 : Addr) (c0 : Addr) (c1 : Addr) (c2 : Addr) (c3 : Addr) (c4 : Addr) (h0 : Heap) (n0 : Nat) (Z0 : n0 ≤ h0.size) (S1 : Sta Z h0 "com/example/planwright/planwright/quality/Measure" "$VALUES" "[Lcom/example/planwright/planwright/quality/Measure;" (.ref va)) (V1 : Arv Z h0 va kv (.object "com/example/planwright/planwright/quality/Measure") (5 : Int32) [(.ref m0), (.ref m1), (.ref m2), (.ref m3), (.ref m4)] .null) (E1 : Exa Z h0 va "[Lcom/example/planwright/planwright/quality/Measure;") (FC : ∀ cl : Cell, h0[va]? = some cl → FitC Z cl) (F0 : Fld Z h0 m0 "com/example/planwright/planwright/quality/Measure" "criterion" "Lcom/example/planwright/planwright/model/Criterion;" (.ref c0)) (F1 : Fld Z h0 m1 "com/example/planwright/planwright/quality/Measure" "criterion" "Lcom/example/planwright/planwright/model/Criterion;" (.ref c1)) (F2 : Fld Z h0 m2 "com/example/planwright/planwright/quality/Measure" "criterion" "Lcom/example/planwright/planwright/model/Criterion;" (.ref c2)) (F3 : Fld Z h0 m3 "com/example/planwright/planwright/quality/Measure" "criterion" "Lcom/example/planwright/planwright/model/Criterion;" (.ref c3)) (F4 : Fld Z h0 m4 "com/example/planwright/planwright/quality/Measure" "criterion" "Lcom/example/planwright/planwright/model/Criterion;" (.ref c4)) (Sm0 : Sta Z h0 "com/example/planwright/planwright/quality/Measure" "RESPONSE_TIME" "Lcom/example/planwright/planwright/quality/Measure;" (.ref m0)) (Sm1 : Sta Z h0 "com/example/planwright/planwright/quality/Measure" "THROUGHPUT" "Lcom/example/planwright/planwright/quality/Measure;" (.ref m1)) (Sm2 : Sta Z h0 "com/example/planwright/planwright/quality/Measure" "AVAILABILITY" "Lcom/example/planwright/planwright/quality/Measure;" (.ref m2)) (Sm3 : Sta Z h0 "com/example/planwright/planwright/quality/Measure" "RELIABILITY" "Lcom/example/planwright/planwright/quality/Measure;" (.ref m3)) (Sm4 : Sta Z h0 "com/example/planwright/planwright/quality/Measure" "COST" "Lcom/example/planwright/planwright/quality/Measure;" (.ref m4)) (Sc0 : Sta Z h0 "com/example/planwright/planwright/model/Criterion" "RESPONSE_TIME" "Lcom/example/planwright/planwright/model/Criterion;" (.ref c0)) (Sc1 : Sta Z h0 "com/example/planwright/planwright/model/Criterion" "THROUGHPUT" "Lcom/example/planwright/planwright/model/Criterion;" (.ref c1)) (Sc2 : Sta Z h0 "com/example/planwright/planwright/model/Criterion" "AVAILABILITY" "Lcom/example/planwright/planwright/model/Criterion;" (.ref c2)) (Sc3 : Sta Z h0 "com/example/planwright/planwright/model/Criterion" "RELIABILITY" "Lcom/example/planwright/planwright/model/Criterion;" (.ref c3)) (Sc4 : Sta Z h0 "com/example/planwright/planwright/model/Criterion" "COST" "Lcom/example/planwright/planwright/model/Criterion;" (.ref c4)) (Em0 : Exa Z h0 m0 "com/example/planwright/planwright/quality/Measure") (Em1 : Exa Z h0 m1 "com/example/planwright/planwright/quality/Measure") (Em2 : Exa Z h0 m2 "com/example/planwright/planwright/quality/Measure") (Em3 : Exa Z h0 m3 "com/example/planwright/planwright/quality/Measure") (Em4 : Exa Z h0 m4 "com/example/planwright/planwright/quality/Measure") (nec : c0 ≠ c1 ∧ c0 ≠ c2 ∧ c1 ≠ c2 ∧ c0 ≠ c3 ∧ c1 ≠ c3 ∧ c2 ≠ c3 ∧ c0 ≠ c4 ∧ c1 ≠ c4 ∧ c2 ≠ c4 ∧ c3 ≠ c4) :
    MetFree l x (head1 (Jvm.Cond.code x code maxLocals ret :: ws) room_1) (fun a U => a = #[(.int p0)] ∧ Z.Warmed39 U.vm ∧ U.heap = h0) (fun _ _ _ _ _ => True) (fun _ U o U' => ∃ v L, o = .returned v ∧ Q_rm0 Z p0 va kv m0 m1 m2 m3 m4 c0 c1 c2 c3 c4 h0 n0 v U'.heap L ∧ FrameEnd U o U' L 1 5) := by
  refine MetFree.of_bodySF (plainFor_of_name own_pn_1) hisR ?_
  intro p e s m args below meth c s₁ Bd hml0 hP hK
  obtain ⟨rfl, hZ, hh⟩ := hP
  have hx := Bd.exec
  have hby := Bd.bytes
  have hml : c.maxLocals = 5 := hml0
  have hown : s.vm.findClass "com/example/planwright/planwright/quality/MeasureOfPinLaw" = some m.cls := findClass_of_methodNamed Bd.named
  have hnm := (name_of_methodNamed Bd.named Bd.method).1
  have X0 : Stand p l e room_1 s m #[(.int p0)] below meth c s₁ [] 0 0 := Stand.of_body Bd
  have e0 : s₁.heap = h0 := by rw [← hh, Bd.state]; rfl
  have N0 := Fr.nil n0
  have K0 : Keep h0 h0 [] := Keep.refl h0 _
  have pre0 : ∀ t, Steps p.tables e below (s₁.setTop (mkF m 0 #[.val (.int p0), .unset, .unset, .unset, .unset] [])) t → Steps p.tables e below (s₁.setTop (entryFrame m #[(.int p0)] maxLocals)) t := fun t k => castTop (own_ef_3 m p0) k
  have k127 : ∀ t, Steps p.tables e below (s₁.setTop (mkF m 8 #[.val (.int p0), .val (.int ((p0 &&& (2147483647 : Int32)) % (5 : Int32))), .unset, .unset, .unset] [(.int ((p0 &&& (2147483647 : Int32)) % (5 : Int32)))])) t → Steps p.tables e below (s₁.setTop (mkF m 0 #[.val (.int p0), .unset, .unset, .unset, .unset] [])) t := by
    intro t h
    show Steps p.tables e below (s₁.setTop (mkF m 0 #[.val (.int p0), .unset, .unset, .unset, .unset] [])) _
    refine XS.iloadN X0.here hx rfl (hb hby at_0) rfl ?_
    show Steps p.tables e below (s₁.setTop (mkF m 1 #[.val (.int p0), .unset, .unset, .unset, .unset] [(.int p0)])) _
    refine X0.ldcInt hx hown (mvT hZ (hw _ (List.mem_of_getElem? (i := 0) rfl))) (g := (mkF m 1 #[.val (.int p0), .unset, .unset, .unset, .unset] [(.int p0)])) rfl (hb hby at_1) _ ?_
    show Steps p.tables e below (s₁.setTop (mkF m 3 #[.val (.int p0), .unset, .unset, .unset, .unset] [(.int (2147483647 : Int32)), (.int p0)])) _
    refine XS.iand X0.here hx rfl (hb hby at_3) rfl ?_
    show Steps p.tables e below (s₁.setTop (mkF m 4 #[.val (.int p0), .unset, .unset, .unset, .unset] [(.int (p0 &&& (2147483647 : Int32)))])) _
    refine XS.iconst X0.here hx rfl (hb hby at_4) ?_
    show Steps p.tables e below (s₁.setTop (mkF m 5 #[.val (.int p0), .unset, .unset, .unset, .unset] [(.int (5 : Int32)), (.int (p0 &&& (2147483647 : Int32)))])) _
    refine iremM (g := (mkF m 5 #[.val (.int p0), .unset, .unset, .unset, .unset] [(.int (5 : Int32)), (.int (p0 &&& (2147483647 : Int32)))])) X0 hx rfl (hb hby at_5) rfl (by decide) ?_
    show Steps p.tables e below (s₁.setTop (mkF m 6 #[.val (.int p0), .unset, .unset, .unset, .unset] [(.int ((p0 &&& (2147483647 : Int32)) % (5 : Int32)))])) _
    refine XS.istoreN X0.here hx rfl (hb hby at_6) rfl (l' := #[.val (.int p0), .val (.int ((p0 &&& (2147483647 : Int32)) % (5 : Int32))), .unset, .unset, .unset]) rfl ?_
    show Steps p.tables e below (s₁.setTop (mkF m 7 #[.val (.int p0), .val (.int ((p0 &&& (2147483647 : Int32)) % (5 : Int32))), .unset, .unset, .unset] [])) _
    refine XS.iloadN X0.here hx rfl (hb hby at_7) rfl ?_
    exact h
  by_cases c8_128 : ((p0 &&& (2147483647 : Int32)) % (5 : Int32)) = (0 : Int32)
  · skip
    obtain ⟨T129, X129, e129, st129⟩ := getS2 X0 hx hZ hown (host := "") (Or.inl (hw _ (List.mem_of_getElem? (i := 1) rfl))) Via.refl e0 Sc0 (g := (mkF m 11 #[.val (.int p0), .val (.int ((p0 &&& (2147483647 : Int32)) % (5 : Int32))), .unset, .unset, .unset] [])) rfl (hb hby at_11)
    obtain ⟨T130, X130, e130, st130⟩ := getS2 X129 hx hZ hown (host := "") (Or.inl (hw _ (List.mem_of_getElem? (i := 4) rfl))) Via.refl e129 Sm0 (g := (mkF m 15 #[.val (.int p0), .val (.int ((p0 &&& (2147483647 : Int32)) % (5 : Int32))), .val (.ref c0), .unset, .unset] [])) rfl (hb hby at_15)
    obtain ⟨_, _, ⟨T131, L131, k131, n131⟩, -, X131, ⟨Lc131, hQ131, l131, y131, z131⟩, st131⟩ := Jvm.LawKit.callS X130 hx (y := (⟨"com/example/planwright/planwright/quality/Measure", "of", "(Lcom/example/planwright/planwright/model/Criterion;)Lcom/example/planwright/planwright/quality/Measure;"⟩ : MethodName)) hown (mvT hZ (hw _ (List.mem_of_getElem? (i := 7) rfl))) (mvT hZ (hw _ (List.mem_of_getElem? (i := 8) rfl))) (mvT hZ (hw _ (List.mem_of_getElem? (i := 5) rfl))) (mvT hZ (hw _ (List.mem_of_getElem? (i := 9) rfl))) (by decide) (backOf (W := 0) (rmO0 l Z a0 hw [] c0 va kv m0 m1 m2 m3 m4  h0 n0 Z0 S1 V1 E1 FC F0 ) hZ (hw _ (List.mem_of_getElem? (i := 9) rfl)) (hw _ (List.mem_of_getElem? (i := 5) rfl)) (by decide) (by decide)) (g := (mkF m 79 #[.val (.int p0), .val (.int ((p0 &&& (2147483647 : Int32)) % (5 : Int32))), .val (.ref c0), .val (.ref m0), .unset] [(.ref c0)])) rfl (by rw [hml]; rfl) (argsL := [(.ref c0)]) (rest := []) (lenOf own_pd_1 rfl) rfl (by show 2 * 0 + _ ≤ _; exact Nat.le_of_eq rfl) (hb hby at_79) (fun _ _ => ⟨rfl, e130, (by decide : 0 + 1 ≤ _), (by decide : 0 + 5 ≤ _)⟩)
    dsimp only [Pt.U, Pt.locs, Pt.cells, Pt.slots] at X131 l131 y131 z131 st131 hQ131
    subst l131 y131 z131
    obtain ⟨rfl, Nq131, Kq131⟩ := hQ131
    have N131 := Fr.app N0 Nq131
    have f132 := Em0.keep Kq131
    have f133 := F0.keep Kq131 nin0
    have Z134 : n0 ≤ T131.heap.size := Nat.le_trans Z0 Kq131.1
    have K135 := K0.trans Kq131 all0
    have k136 : ∀ t, Steps p.tables e below (T131.setTop (mkF m 87 #[.val (.int p0), .val (.int ((p0 &&& (2147483647 : Int32)) % (5 : Int32))), .val (.ref c0), .val (.ref m0), .val (.ref m0)] [(.ref m0), (.ref m0)])) t → Steps p.tables e below (s₁.setTop (mkF m 0 #[.val (.int p0), .unset, .unset, .unset, .unset] [])) t := by
      intro t h
      refine k127 t ?_
      show Steps p.tables e below (s₁.setTop (mkF m 8 #[.val (.int p0), .val (.int ((p0 &&& (2147483647 : Int32)) % (5 : Int32))), .unset, .unset, .unset] [(.int ((p0 &&& (2147483647 : Int32)) % (5 : Int32)))])) _
      refine XS.ifNo X0.here hx rfl (hb hby at_8) rfl ((if0 _ _).trans (teq c8_128).2) ?_
      show Steps p.tables e below (s₁.setTop (mkF m 11 #[.val (.int p0), .val (.int ((p0 &&& (2147483647 : Int32)) % (5 : Int32))), .unset, .unset, .unset] [])) _
      refine st129 _ ?_
      show Steps p.tables e below (T129.setTop (mkF m 14 #[.val (.int p0), .val (.int ((p0 &&& (2147483647 : Int32)) % (5 : Int32))), .unset, .unset, .unset] [(.ref c0)])) _
      refine XS.astoreN X129.here hx rfl (hb hby at_14) rfl rfl (l' := #[.val (.int p0), .val (.int ((p0 &&& (2147483647 : Int32)) % (5 : Int32))), .val (.ref c0), .unset, .unset]) rfl ?_
      show Steps p.tables e below (T129.setTop (mkF m 15 #[.val (.int p0), .val (.int ((p0 &&& (2147483647 : Int32)) % (5 : Int32))), .val (.ref c0), .unset, .unset] [])) _
      refine st130 _ ?_
      show Steps p.tables e below (T130.setTop (mkF m 18 #[.val (.int p0), .val (.int ((p0 &&& (2147483647 : Int32)) % (5 : Int32))), .val (.ref c0), .unset, .unset] [(.ref m0)])) _
      refine XS.astoreN X130.here hx rfl (hb hby at_18) rfl rfl (l' := #[.val (.int p0), .val (.int ((p0 &&& (2147483647 : Int32)) % (5 : Int32))), .val (.ref c0), .val (.ref m0), .unset]) rfl ?_
      show Steps p.tables e below (T130.setTop (mkF m 19 #[.val (.int p0), .val (.int ((p0 &&& (2147483647 : Int32)) % (5 : Int32))), .val (.ref c0), .val (.ref m0), .unset] [])) _
      refine XS.goto X130.here hx rfl (pc0 := 19) (pc' := 78) rfl (hb hby at_19) (by decide) (by decide) ?_
      show Steps p.tables e below (T130.setTop (mkF m 78 #[.val (.int p0), .val (.int ((p0 &&& (2147483647 : Int32)) % (5 : Int32))), .val (.ref c0), .val (.ref m0), .unset] [])) _
      refine XS.aloadN X130.here hx rfl (hb hby at_78) rfl rfl ?_
      show Steps p.tables e below (T130.setTop (mkF m 79 #[.val (.int p0), .val (.int ((p0 &&& (2147483647 : Int32)) % (5 : Int32))), .val (.ref c0), .val (.ref m0), .unset] [(.ref c0)])) _
      refine st131 _ ?_
      show Steps p.tables e below (T131.setTop (mkF m 82 #[.val (.int p0), .val (.int ((p0 &&& (2147483647 : Int32)) % (5 : Int32))), .val (.ref c0), .val (.ref m0), .unset] [(.ref m0)])) _
      refine XS.astore X131.here hx rfl (hb hby at_82) rfl rfl (l' := #[.val (.int p0), .val (.int ((p0 &&& (2147483647 : Int32)) % (5 : Int32))), .val (.ref c0), .val (.ref m0), .val (.ref m0)]) rfl ?_
      show Steps p.tables e below (T131.setTop (mkF m 84 #[.val (.int p0), .val (.int ((p0 &&& (2147483647 : Int32)) % (5 : Int32))), .val (.ref c0), .val (.ref m0), .val (.ref m0)] [])) _
      refine XS.aload X131.here hx rfl (hb hby at_84) rfl rfl ?_
      show Steps p.tables e below (T131.setTop (mkF m 86 #[.val (.int p0), .val (.int ((p0 &&& (2147483647 : Int32)) % (5 : Int32))), .val (.ref c0), .val (.ref m0), .val (.ref m0)] [(.ref m0)])) _
      refine XS.aloadN X131.here hx rfl (hb hby at_86) rfl rfl ?_
      exact h
    obtain ⟨cq137, kq137, q137a, q137b, q137c⟩ := isOf hZ rfl f132
    obtain ⟨_, _, ⟨T137, L137, k137, n137⟩, -, X137, ⟨Lc137, hQ137, l137, y137, z137⟩, st137⟩ := X131.virtualBack hx (y := (⟨"com/example/planwright/planwright/quality/Measure", "criterion", "()Lcom/example/planwright/planwright/model/Criterion;"⟩ : MethodName)) (z := (⟨"com/example/planwright/planwright/quality/Measure", "criterion", "()Lcom/example/planwright/planwright/model/Criterion;"⟩ : MethodName)) hown (mvT hZ (hw _ (List.mem_of_getElem? (i := 31) rfl))) (mvT hZ (hw _ (List.mem_of_getElem? (i := 32) rfl))) (notFace_of_selects (args := #[]) (mvT hZ (hw _ (List.mem_of_getElem? (i := 34) rfl)))) (mvT hZ (hw _ (List.mem_of_getElem? (i := 34) rfl))) (mvT hZ (hw _ (List.mem_of_getElem? (i := 33) rfl))) (by decide) (backOf (W := 0) (rmC l Z a0 hw [] m0 c0 T131.heap n0 Z134 f133) hZ (hw _ (List.mem_of_getElem? (i := 35) rfl)) (hw _ (List.mem_of_getElem? (i := 5) rfl)) (by decide) (by decide)) q137a q137c (g := (mkF m 92 #[.val (.int p0), .val (.int ((p0 &&& (2147483647 : Int32)) % (5 : Int32))), .val (.ref c0), .val (.ref m0), .val (.ref m0)] [(.ref m0)])) rfl (by rw [hml]; rfl) (Steps.refl _) (argsL := []) (rest := []) (lenOf own_pd_2 rfl) rfl (by show 2 * 0 + _ ≤ _; exact Nat.le_of_eq rfl) (hb hby at_92) (fun _ _ => ⟨rfl, rfl, (by decide : 1 + 0 ≤ _), (by decide : 5 + 0 ≤ _)⟩)
    dsimp only [Pt.U, Pt.locs, Pt.cells, Pt.slots] at X137 l137 y137 z137 st137 hQ137
    subst l137 y137 z137
    obtain ⟨rfl, Nq137, eq137⟩ := hQ137
    have N137 := Fr.app N131 Nq137
    have k138 : ∀ t, Steps p.tables e below (T137.setTop (mkF m 96 #[.val (.int p0), .val (.int ((p0 &&& (2147483647 : Int32)) % (5 : Int32))), .val (.ref c0), .val (.ref m0), .val (.ref m0)] [(.ref c0), (.ref c0)])) t → Steps p.tables e below (s₁.setTop (mkF m 0 #[.val (.int p0), .unset, .unset, .unset, .unset] [])) t := by
      intro t h
      refine k136 t ?_
      show Steps p.tables e below (T131.setTop (mkF m 87 #[.val (.int p0), .val (.int ((p0 &&& (2147483647 : Int32)) % (5 : Int32))), .val (.ref c0), .val (.ref m0), .val (.ref m0)] [(.ref m0), (.ref m0)])) _
      refine Jvm.RoadKit.acmp (g := (mkF m 87 #[.val (.int p0), .val (.int ((p0 &&& (2147483647 : Int32)) % (5 : Int32))), .val (.ref c0), .val (.ref m0), .val (.ref m0)] [(.ref m0), (.ref m0)])) X131 hx rfl rfl rfl (pc0 := 87) (pc' := 90) (same := true) rfl (hb hby at_87) rfl (decide_eq_true rfl) (by decide) (by decide) ?_
      show Steps p.tables e below (T131.setTop (mkF m 90 #[.val (.int p0), .val (.int ((p0 &&& (2147483647 : Int32)) % (5 : Int32))), .val (.ref c0), .val (.ref m0), .val (.ref m0)] [])) _
      refine XS.aload X131.here hx rfl (hb hby at_90) rfl rfl ?_
      show Steps p.tables e below (T131.setTop (mkF m 92 #[.val (.int p0), .val (.int ((p0 &&& (2147483647 : Int32)) % (5 : Int32))), .val (.ref c0), .val (.ref m0), .val (.ref m0)] [(.ref m0)])) _
      refine st137.trans ?_
      show Steps p.tables e below (T137.setTop (mkF m 95 #[.val (.int p0), .val (.int ((p0 &&& (2147483647 : Int32)) % (5 : Int32))), .val (.ref c0), .val (.ref m0), .val (.ref m0)] [(.ref c0)])) _
      refine XS.aloadN X137.here hx rfl (hb hby at_95) rfl rfl ?_
      exact h
    have k139 : ∀ t, Steps p.tables e below (T137.setTop (mkF m 104 #[.val (.int p0), .val (.int ((p0 &&& (2147483647 : Int32)) % (5 : Int32))), .val (.ref c0), .val (.ref m0), .val (.ref m0)] [(.int (1 : Int32))])) t → Steps p.tables e below (s₁.setTop (mkF m 0 #[.val (.int p0), .unset, .unset, .unset, .unset] [])) t := by
      intro t h
      refine k138 t ?_
      show Steps p.tables e below (T137.setTop (mkF m 96 #[.val (.int p0), .val (.int ((p0 &&& (2147483647 : Int32)) % (5 : Int32))), .val (.ref c0), .val (.ref m0), .val (.ref m0)] [(.ref c0), (.ref c0)])) _
      refine Jvm.RoadKit.acmp (g := (mkF m 96 #[.val (.int p0), .val (.int ((p0 &&& (2147483647 : Int32)) % (5 : Int32))), .val (.ref c0), .val (.ref m0), .val (.ref m0)] [(.ref c0), (.ref c0)])) X137 hx rfl rfl rfl (pc0 := 96) (pc' := 99) (same := true) rfl (hb hby at_96) rfl (decide_eq_true rfl) (by decide) (by decide) ?_
      show Steps p.tables e below (T137.setTop (mkF m 99 #[.val (.int p0), .val (.int ((p0 &&& (2147483647 : Int32)) % (5 : Int32))), .val (.ref c0), .val (.ref m0), .val (.ref m0)] [])) _
      refine XS.iconst X137.here hx rfl (hb hby at_99) ?_
      show Steps p.tables e below (T137.setTop (mkF m 100 #[.val (.int p0), .val (.int ((p0 &&& (2147483647 : Int32)) % (5 : Int32))), .val (.ref c0), .val (.ref m0), .val (.ref m0)] [(.int (1 : Int32))])) _
      refine XS.goto X137.here hx rfl (pc0 := 100) (pc' := 104) rfl (hb hby at_100) (by decide) (by decide) ?_
      exact h
    obtain ⟨fs, hr, hrun, hended, hW, hsame⟩ := X137.leave (v := some (.int (1 : Int32))) (fun h => by rw [Bd.returns] at h; cases h) Bd.notSynchronized
    refine ⟨_, _, pre0 _ (k139 _ ?_), hrun, hended, _, _, rfl, ?_, ⟨_, rfl⟩, hW, hsame.mono (by decide) (by decide)⟩
    · exact retN X137 hx (t := .boolean) Bd.returns (by simp) (hb hby at_104) hr
    · show Q_rm0 Z _ _ _ _ _ _ _ _ _ _ _ _ _ h0 n0 _ T137.heap _
      rw [eq137]
      exact ⟨rfl, N137⟩
  · skip
    have k140 : ∀ t, Steps p.tables e below (s₁.setTop (mkF m 24 #[.val (.int p0), .val (.int ((p0 &&& (2147483647 : Int32)) % (5 : Int32))), .unset, .unset, .unset] [(.int (1 : Int32)), (.int ((p0 &&& (2147483647 : Int32)) % (5 : Int32)))])) t → Steps p.tables e below (s₁.setTop (mkF m 0 #[.val (.int p0), .unset, .unset, .unset, .unset] [])) t := by
      intro t h
      refine k127 t ?_
      show Steps p.tables e below (s₁.setTop (mkF m 8 #[.val (.int p0), .val (.int ((p0 &&& (2147483647 : Int32)) % (5 : Int32))), .unset, .unset, .unset] [(.int ((p0 &&& (2147483647 : Int32)) % (5 : Int32)))])) _
      refine XS.ifYes X0.here hx rfl (pc0 := 8) (pc' := 22) rfl (hb hby at_8) rfl ((if0 _ _).trans (feq c8_128).2) (by decide) (by decide) ?_
      show Steps p.tables e below (s₁.setTop (mkF m 22 #[.val (.int p0), .val (.int ((p0 &&& (2147483647 : Int32)) % (5 : Int32))), .unset, .unset, .unset] [])) _
      refine XS.iloadN X0.here hx rfl (hb hby at_22) rfl ?_
      show Steps p.tables e below (s₁.setTop (mkF m 23 #[.val (.int p0), .val (.int ((p0 &&& (2147483647 : Int32)) % (5 : Int32))), .unset, .unset, .unset] [(.int ((p0 &&& (2147483647 : Int32)) % (5 : Int32)))])) _
      refine XS.iconst X0.here hx rfl (hb hby at_23) ?_
      exact h
    by_cases c24_141 : ((p0 &&& (2147483647 : Int32)) % (5 : Int32)) = (1 : Int32)
    · skip
      obtain ⟨T142, X142, e142, st142⟩ := getS2 X0 hx hZ hown (host := "") (Or.inl (hw _ (List.mem_of_getElem? (i := 41) rfl))) Via.refl e0 Sc1 (g := (mkF m 27 #[.val (.int p0), .val (.int ((p0 &&& (2147483647 : Int32)) % (5 : Int32))), .unset, .unset, .unset] [])) rfl (hb hby at_27)
      obtain ⟨T143, X143, e143, st143⟩ := getS2 X142 hx hZ hown (host := "") (Or.inl (hw _ (List.mem_of_getElem? (i := 42) rfl))) Via.refl e142 Sm1 (g := (mkF m 31 #[.val (.int p0), .val (.int ((p0 &&& (2147483647 : Int32)) % (5 : Int32))), .val (.ref c1), .unset, .unset] [])) rfl (hb hby at_31)
      obtain ⟨_, _, ⟨T144, L144, k144, n144⟩, -, X144, ⟨Lc144, hQ144, l144, y144, z144⟩, st144⟩ := Jvm.LawKit.callS X143 hx (y := (⟨"com/example/planwright/planwright/quality/Measure", "of", "(Lcom/example/planwright/planwright/model/Criterion;)Lcom/example/planwright/planwright/quality/Measure;"⟩ : MethodName)) hown (mvT hZ (hw _ (List.mem_of_getElem? (i := 7) rfl))) (mvT hZ (hw _ (List.mem_of_getElem? (i := 8) rfl))) (mvT hZ (hw _ (List.mem_of_getElem? (i := 5) rfl))) (mvT hZ (hw _ (List.mem_of_getElem? (i := 9) rfl))) (by decide) (backOf (W := 0) (rmO1 l Z a0 hw [] c1 va kv m0 m1 m2 m3 m4 c0 h0 n0 Z0 S1 V1 E1 FC F0 F1 (nec.1)) hZ (hw _ (List.mem_of_getElem? (i := 9) rfl)) (hw _ (List.mem_of_getElem? (i := 5) rfl)) (by decide) (by decide)) (g := (mkF m 79 #[.val (.int p0), .val (.int ((p0 &&& (2147483647 : Int32)) % (5 : Int32))), .val (.ref c1), .val (.ref m1), .unset] [(.ref c1)])) rfl (by rw [hml]; rfl) (argsL := [(.ref c1)]) (rest := []) (lenOf own_pd_1 rfl) rfl (by show 2 * 0 + _ ≤ _; exact Nat.le_of_eq rfl) (hb hby at_79) (fun _ _ => ⟨rfl, e143, (by decide : 0 + 1 ≤ _), (by decide : 0 + 5 ≤ _)⟩)
      dsimp only [Pt.U, Pt.locs, Pt.cells, Pt.slots] at X144 l144 y144 z144 st144 hQ144
      subst l144 y144 z144
      obtain ⟨rfl, Nq144, Kq144⟩ := hQ144
      have N144 := Fr.app N0 Nq144
      have f145 := Em1.keep Kq144
      have f146 := F1.keep Kq144 nin0
      have Z147 : n0 ≤ T144.heap.size := Nat.le_trans Z0 Kq144.1
      have K148 := K0.trans Kq144 all0
      have k149 : ∀ t, Steps p.tables e below (T144.setTop (mkF m 87 #[.val (.int p0), .val (.int ((p0 &&& (2147483647 : Int32)) % (5 : Int32))), .val (.ref c1), .val (.ref m1), .val (.ref m1)] [(.ref m1), (.ref m1)])) t → Steps p.tables e below (s₁.setTop (mkF m 0 #[.val (.int p0), .unset, .unset, .unset, .unset] [])) t := by
        intro t h
        refine k140 t ?_
        show Steps p.tables e below (s₁.setTop (mkF m 24 #[.val (.int p0), .val (.int ((p0 &&& (2147483647 : Int32)) % (5 : Int32))), .unset, .unset, .unset] [(.int (1 : Int32)), (.int ((p0 &&& (2147483647 : Int32)) % (5 : Int32)))])) _
        refine XS.icmpNo X0.here hx rfl (hb hby at_24) rfl (teq c24_141).2 ?_
        show Steps p.tables e below (s₁.setTop (mkF m 27 #[.val (.int p0), .val (.int ((p0 &&& (2147483647 : Int32)) % (5 : Int32))), .unset, .unset, .unset] [])) _
        refine st142 _ ?_
        show Steps p.tables e below (T142.setTop (mkF m 30 #[.val (.int p0), .val (.int ((p0 &&& (2147483647 : Int32)) % (5 : Int32))), .unset, .unset, .unset] [(.ref c1)])) _
        refine XS.astoreN X142.here hx rfl (hb hby at_30) rfl rfl (l' := #[.val (.int p0), .val (.int ((p0 &&& (2147483647 : Int32)) % (5 : Int32))), .val (.ref c1), .unset, .unset]) rfl ?_
        show Steps p.tables e below (T142.setTop (mkF m 31 #[.val (.int p0), .val (.int ((p0 &&& (2147483647 : Int32)) % (5 : Int32))), .val (.ref c1), .unset, .unset] [])) _
        refine st143 _ ?_
        show Steps p.tables e below (T143.setTop (mkF m 34 #[.val (.int p0), .val (.int ((p0 &&& (2147483647 : Int32)) % (5 : Int32))), .val (.ref c1), .unset, .unset] [(.ref m1)])) _
        refine XS.astoreN X143.here hx rfl (hb hby at_34) rfl rfl (l' := #[.val (.int p0), .val (.int ((p0 &&& (2147483647 : Int32)) % (5 : Int32))), .val (.ref c1), .val (.ref m1), .unset]) rfl ?_
        show Steps p.tables e below (T143.setTop (mkF m 35 #[.val (.int p0), .val (.int ((p0 &&& (2147483647 : Int32)) % (5 : Int32))), .val (.ref c1), .val (.ref m1), .unset] [])) _
        refine XS.goto X143.here hx rfl (pc0 := 35) (pc' := 78) rfl (hb hby at_35) (by decide) (by decide) ?_
        show Steps p.tables e below (T143.setTop (mkF m 78 #[.val (.int p0), .val (.int ((p0 &&& (2147483647 : Int32)) % (5 : Int32))), .val (.ref c1), .val (.ref m1), .unset] [])) _
        refine XS.aloadN X143.here hx rfl (hb hby at_78) rfl rfl ?_
        show Steps p.tables e below (T143.setTop (mkF m 79 #[.val (.int p0), .val (.int ((p0 &&& (2147483647 : Int32)) % (5 : Int32))), .val (.ref c1), .val (.ref m1), .unset] [(.ref c1)])) _
        refine st144 _ ?_
        show Steps p.tables e below (T144.setTop (mkF m 82 #[.val (.int p0), .val (.int ((p0 &&& (2147483647 : Int32)) % (5 : Int32))), .val (.ref c1), .val (.ref m1), .unset] [(.ref m1)])) _
        refine XS.astore X144.here hx rfl (hb hby at_82) rfl rfl (l' := #[.val (.int p0), .val (.int ((p0 &&& (2147483647 : Int32)) % (5 : Int32))), .val (.ref c1), .val (.ref m1), .val (.ref m1)]) rfl ?_
        show Steps p.tables e below (T144.setTop (mkF m 84 #[.val (.int p0), .val (.int ((p0 &&& (2147483647 : Int32)) % (5 : Int32))), .val (.ref c1), .val (.ref m1), .val (.ref m1)] [])) _
        refine XS.aload X144.here hx rfl (hb hby at_84) rfl rfl ?_
        show Steps p.tables e below (T144.setTop (mkF m 86 #[.val (.int p0), .val (.int ((p0 &&& (2147483647 : Int32)) % (5 : Int32))), .val (.ref c1), .val (.ref m1), .val (.ref m1)] [(.ref m1)])) _
        refine XS.aloadN X144.here hx rfl (hb hby at_86) rfl rfl ?_
        exact h
      obtain ⟨cq150, kq150, q150a, q150b, q150c⟩ := isOf hZ rfl f145
      obtain ⟨_, _, ⟨T150, L150, k150, n150⟩, -, X150, ⟨Lc150, hQ150, l150, y150, z150⟩, st150⟩ := X144.virtualBack hx (y := (⟨"com/example/planwright/planwright/quality/Measure", "criterion", "()Lcom/example/planwright/planwright/model/Criterion;"⟩ : MethodName)) (z := (⟨"com/example/planwright/planwright/quality/Measure", "criterion", "()Lcom/example/planwright/planwright/model/Criterion;"⟩ : MethodName)) hown (mvT hZ (hw _ (List.mem_of_getElem? (i := 31) rfl))) (mvT hZ (hw _ (List.mem_of_getElem? (i := 32) rfl))) (notFace_of_selects (args := #[]) (mvT hZ (hw _ (List.mem_of_getElem? (i := 34) rfl)))) (mvT hZ (hw _ (List.mem_of_getElem? (i := 34) rfl))) (mvT hZ (hw _ (List.mem_of_getElem? (i := 33) rfl))) (by decide) (backOf (W := 0) (rmC l Z a0 hw [] m1 c1 T144.heap n0 Z147 f146) hZ (hw _ (List.mem_of_getElem? (i := 35) rfl)) (hw _ (List.mem_of_getElem? (i := 5) rfl)) (by decide) (by decide)) q150a q150c (g := (mkF m 92 #[.val (.int p0), .val (.int ((p0 &&& (2147483647 : Int32)) % (5 : Int32))), .val (.ref c1), .val (.ref m1), .val (.ref m1)] [(.ref m1)])) rfl (by rw [hml]; rfl) (Steps.refl _) (argsL := []) (rest := []) (lenOf own_pd_2 rfl) rfl (by show 2 * 0 + _ ≤ _; exact Nat.le_of_eq rfl) (hb hby at_92) (fun _ _ => ⟨rfl, rfl, (by decide : 1 + 0 ≤ _), (by decide : 5 + 0 ≤ _)⟩)
      dsimp only [Pt.U, Pt.locs, Pt.cells, Pt.slots] at X150 l150 y150 z150 st150 hQ150
      subst l150 y150 z150
      obtain ⟨rfl, Nq150, eq150⟩ := hQ150
      have N150 := Fr.app N144 Nq150
      have k151 : ∀ t, Steps p.tables e below (T150.setTop (mkF m 96 #[.val (.int p0), .val (.int ((p0 &&& (2147483647 : Int32)) % (5 : Int32))), .val (.ref c1), .val (.ref m1), .val (.ref m1)] [(.ref c1), (.ref c1)])) t → Steps p.tables e below (s₁.setTop (mkF m 0 #[.val (.int p0), .unset, .unset, .unset, .unset] [])) t := by
        intro t h
        refine k149 t ?_
        show Steps p.tables e below (T144.setTop (mkF m 87 #[.val (.int p0), .val (.int ((p0 &&& (2147483647 : Int32)) % (5 : Int32))), .val (.ref c1), .val (.ref m1), .val (.ref m1)] [(.ref m1), (.ref m1)])) _
        refine Jvm.RoadKit.acmp (g := (mkF m 87 #[.val (.int p0), .val (.int ((p0 &&& (2147483647 : Int32)) % (5 : Int32))), .val (.ref c1), .val (.ref m1), .val (.ref m1)] [(.ref m1), (.ref m1)])) X144 hx rfl rfl rfl (pc0 := 87) (pc' := 90) (same := true) rfl (hb hby at_87) rfl (decide_eq_true rfl) (by decide) (by decide) ?_
        show Steps p.tables e below (T144.setTop (mkF m 90 #[.val (.int p0), .val (.int ((p0 &&& (2147483647 : Int32)) % (5 : Int32))), .val (.ref c1), .val (.ref m1), .val (.ref m1)] [])) _
        refine XS.aload X144.here hx rfl (hb hby at_90) rfl rfl ?_
        show Steps p.tables e below (T144.setTop (mkF m 92 #[.val (.int p0), .val (.int ((p0 &&& (2147483647 : Int32)) % (5 : Int32))), .val (.ref c1), .val (.ref m1), .val (.ref m1)] [(.ref m1)])) _
        refine st150.trans ?_
        show Steps p.tables e below (T150.setTop (mkF m 95 #[.val (.int p0), .val (.int ((p0 &&& (2147483647 : Int32)) % (5 : Int32))), .val (.ref c1), .val (.ref m1), .val (.ref m1)] [(.ref c1)])) _
        refine XS.aloadN X150.here hx rfl (hb hby at_95) rfl rfl ?_
        exact h
      have k152 : ∀ t, Steps p.tables e below (T150.setTop (mkF m 104 #[.val (.int p0), .val (.int ((p0 &&& (2147483647 : Int32)) % (5 : Int32))), .val (.ref c1), .val (.ref m1), .val (.ref m1)] [(.int (1 : Int32))])) t → Steps p.tables e below (s₁.setTop (mkF m 0 #[.val (.int p0), .unset, .unset, .unset, .unset] [])) t := by
        intro t h
        refine k151 t ?_
        show Steps p.tables e below (T150.setTop (mkF m 96 #[.val (.int p0), .val (.int ((p0 &&& (2147483647 : Int32)) % (5 : Int32))), .val (.ref c1), .val (.ref m1), .val (.ref m1)] [(.ref c1), (.ref c1)])) _
        refine Jvm.RoadKit.acmp (g := (mkF m 96 #[.val (.int p0), .val (.int ((p0 &&& (2147483647 : Int32)) % (5 : Int32))), .val (.ref c1), .val (.ref m1), .val (.ref m1)] [(.ref c1), (.ref c1)])) X150 hx rfl rfl rfl (pc0 := 96) (pc' := 99) (same := true) rfl (hb hby at_96) rfl (decide_eq_true rfl) (by decide) (by decide) ?_
        show Steps p.tables e below (T150.setTop (mkF m 99 #[.val (.int p0), .val (.int ((p0 &&& (2147483647 : Int32)) % (5 : Int32))), .val (.ref c1), .val (.ref m1), .val (.ref m1)] [])) _
        refine XS.iconst X150.here hx rfl (hb hby at_99) ?_
        show Steps p.tables e below (T150.setTop (mkF m 100 #[.val (.int p0), .val (.int ((p0 &&& (2147483647 : Int32)) % (5 : Int32))), .val (.ref c1), .val (.ref m1), .val (.ref m1)] [(.int (1 : Int32))])) _
        refine XS.goto X150.here hx rfl (pc0 := 100) (pc' := 104) rfl (hb hby at_100) (by decide) (by decide) ?_
        exact h
      obtain ⟨fs, hr, hrun, hended, hW, hsame⟩ := X150.leave (v := some (.int (1 : Int32))) (fun h => by rw [Bd.returns] at h; cases h) Bd.notSynchronized
      refine ⟨_, _, pre0 _ (k152 _ ?_), hrun, hended, _, _, rfl, ?_, ⟨_, rfl⟩, hW, hsame.mono (by decide) (by decide)⟩
      · exact retN X150 hx (t := .boolean) Bd.returns (by simp) (hb hby at_104) hr
      · show Q_rm0 Z _ _ _ _ _ _ _ _ _ _ _ _ _ h0 n0 _ T150.heap _
        rw [eq150]
        exact ⟨rfl, N150⟩
    · skip
      have k153 : ∀ t, Steps p.tables e below (s₁.setTop (mkF m 40 #[.val (.int p0), .val (.int ((p0 &&& (2147483647 : Int32)) % (5 : Int32))), .unset, .unset, .unset] [(.int (2 : Int32)), (.int ((p0 &&& (2147483647 : Int32)) % (5 : Int32)))])) t → Steps p.tables e below (s₁.setTop (mkF m 0 #[.val (.int p0), .unset, .unset, .unset, .unset] [])) t := by
        intro t h
        refine k140 t ?_
        show Steps p.tables e below (s₁.setTop (mkF m 24 #[.val (.int p0), .val (.int ((p0 &&& (2147483647 : Int32)) % (5 : Int32))), .unset, .unset, .unset] [(.int (1 : Int32)), (.int ((p0 &&& (2147483647 : Int32)) % (5 : Int32)))])) _
        refine XS.icmpYes X0.here hx rfl (pc0 := 24) (pc' := 38) rfl (hb hby at_24) rfl (feq c24_141).2 (by decide) (by decide) ?_
        show Steps p.tables e below (s₁.setTop (mkF m 38 #[.val (.int p0), .val (.int ((p0 &&& (2147483647 : Int32)) % (5 : Int32))), .unset, .unset, .unset] [])) _
        refine XS.iloadN X0.here hx rfl (hb hby at_38) rfl ?_
        show Steps p.tables e below (s₁.setTop (mkF m 39 #[.val (.int p0), .val (.int ((p0 &&& (2147483647 : Int32)) % (5 : Int32))), .unset, .unset, .unset] [(.int ((p0 &&& (2147483647 : Int32)) % (5 : Int32)))])) _
        refine XS.iconst X0.here hx rfl (hb hby at_39) ?_
        exact h
      by_cases c40_154 : ((p0 &&& (2147483647 : Int32)) % (5 : Int32)) = (2 : Int32)
      · skip
        obtain ⟨T155, X155, e155, st155⟩ := getS2 X0 hx hZ hown (host := "") (Or.inl (hw _ (List.mem_of_getElem? (i := 46) rfl))) Via.refl e0 Sc2 (g := (mkF m 43 #[.val (.int p0), .val (.int ((p0 &&& (2147483647 : Int32)) % (5 : Int32))), .unset, .unset, .unset] [])) rfl (hb hby at_43)
        obtain ⟨T156, X156, e156, st156⟩ := getS2 X155 hx hZ hown (host := "") (Or.inl (hw _ (List.mem_of_getElem? (i := 47) rfl))) Via.refl e155 Sm2 (g := (mkF m 47 #[.val (.int p0), .val (.int ((p0 &&& (2147483647 : Int32)) % (5 : Int32))), .val (.ref c2), .unset, .unset] [])) rfl (hb hby at_47)
        obtain ⟨_, _, ⟨T157, L157, k157, n157⟩, -, X157, ⟨Lc157, hQ157, l157, y157, z157⟩, st157⟩ := Jvm.LawKit.callS X156 hx (y := (⟨"com/example/planwright/planwright/quality/Measure", "of", "(Lcom/example/planwright/planwright/model/Criterion;)Lcom/example/planwright/planwright/quality/Measure;"⟩ : MethodName)) hown (mvT hZ (hw _ (List.mem_of_getElem? (i := 7) rfl))) (mvT hZ (hw _ (List.mem_of_getElem? (i := 8) rfl))) (mvT hZ (hw _ (List.mem_of_getElem? (i := 5) rfl))) (mvT hZ (hw _ (List.mem_of_getElem? (i := 9) rfl))) (by decide) (backOf (W := 0) (rmO2 l Z a0 hw [] c2 va kv m0 m1 m2 m3 m4 c0 c1 h0 n0 Z0 S1 V1 E1 FC F0 F1 F2 (nec.2.1) (nec.2.2.1)) hZ (hw _ (List.mem_of_getElem? (i := 9) rfl)) (hw _ (List.mem_of_getElem? (i := 5) rfl)) (by decide) (by decide)) (g := (mkF m 79 #[.val (.int p0), .val (.int ((p0 &&& (2147483647 : Int32)) % (5 : Int32))), .val (.ref c2), .val (.ref m2), .unset] [(.ref c2)])) rfl (by rw [hml]; rfl) (argsL := [(.ref c2)]) (rest := []) (lenOf own_pd_1 rfl) rfl (by show 2 * 0 + _ ≤ _; exact Nat.le_of_eq rfl) (hb hby at_79) (fun _ _ => ⟨rfl, e156, (by decide : 0 + 1 ≤ _), (by decide : 0 + 5 ≤ _)⟩)
        dsimp only [Pt.U, Pt.locs, Pt.cells, Pt.slots] at X157 l157 y157 z157 st157 hQ157
        subst l157 y157 z157
        obtain ⟨rfl, Nq157, Kq157⟩ := hQ157
        have N157 := Fr.app N0 Nq157
        have f158 := Em2.keep Kq157
        have f159 := F2.keep Kq157 nin0
        have Z160 : n0 ≤ T157.heap.size := Nat.le_trans Z0 Kq157.1
        have K161 := K0.trans Kq157 all0
        have k162 : ∀ t, Steps p.tables e below (T157.setTop (mkF m 87 #[.val (.int p0), .val (.int ((p0 &&& (2147483647 : Int32)) % (5 : Int32))), .val (.ref c2), .val (.ref m2), .val (.ref m2)] [(.ref m2), (.ref m2)])) t → Steps p.tables e below (s₁.setTop (mkF m 0 #[.val (.int p0), .unset, .unset, .unset, .unset] [])) t := by
          intro t h
          refine k153 t ?_
          show Steps p.tables e below (s₁.setTop (mkF m 40 #[.val (.int p0), .val (.int ((p0 &&& (2147483647 : Int32)) % (5 : Int32))), .unset, .unset, .unset] [(.int (2 : Int32)), (.int ((p0 &&& (2147483647 : Int32)) % (5 : Int32)))])) _
          refine XS.icmpNo X0.here hx rfl (hb hby at_40) rfl (teq c40_154).2 ?_
          show Steps p.tables e below (s₁.setTop (mkF m 43 #[.val (.int p0), .val (.int ((p0 &&& (2147483647 : Int32)) % (5 : Int32))), .unset, .unset, .unset] [])) _
          refine st155 _ ?_
          show Steps p.tables e below (T155.setTop (mkF m 46 #[.val (.int p0), .val (.int ((p0 &&& (2147483647 : Int32)) % (5 : Int32))), .unset, .unset, .unset] [(.ref c2)])) _
          refine XS.astoreN X155.here hx rfl (hb hby at_46) rfl rfl (l' := #[.val (.int p0), .val (.int ((p0 &&& (2147483647 : Int32)) % (5 : Int32))), .val (.ref c2), .unset, .unset]) rfl ?_
          show Steps p.tables e below (T155.setTop (mkF m 47 #[.val (.int p0), .val (.int ((p0 &&& (2147483647 : Int32)) % (5 : Int32))), .val (.ref c2), .unset, .unset] [])) _
          refine st156 _ ?_
          show Steps p.tables e below (T156.setTop (mkF m 50 #[.val (.int p0), .val (.int ((p0 &&& (2147483647 : Int32)) % (5 : Int32))), .val (.ref c2), .unset, .unset] [(.ref m2)])) _
          refine XS.astoreN X156.here hx rfl (hb hby at_50) rfl rfl (l' := #[.val (.int p0), .val (.int ((p0 &&& (2147483647 : Int32)) % (5 : Int32))), .val (.ref c2), .val (.ref m2), .unset]) rfl ?_
          show Steps p.tables e below (T156.setTop (mkF m 51 #[.val (.int p0), .val (.int ((p0 &&& (2147483647 : Int32)) % (5 : Int32))), .val (.ref c2), .val (.ref m2), .unset] [])) _
          refine XS.goto X156.here hx rfl (pc0 := 51) (pc' := 78) rfl (hb hby at_51) (by decide) (by decide) ?_
          show Steps p.tables e below (T156.setTop (mkF m 78 #[.val (.int p0), .val (.int ((p0 &&& (2147483647 : Int32)) % (5 : Int32))), .val (.ref c2), .val (.ref m2), .unset] [])) _
          refine XS.aloadN X156.here hx rfl (hb hby at_78) rfl rfl ?_
          show Steps p.tables e below (T156.setTop (mkF m 79 #[.val (.int p0), .val (.int ((p0 &&& (2147483647 : Int32)) % (5 : Int32))), .val (.ref c2), .val (.ref m2), .unset] [(.ref c2)])) _
          refine st157 _ ?_
          show Steps p.tables e below (T157.setTop (mkF m 82 #[.val (.int p0), .val (.int ((p0 &&& (2147483647 : Int32)) % (5 : Int32))), .val (.ref c2), .val (.ref m2), .unset] [(.ref m2)])) _
          refine XS.astore X157.here hx rfl (hb hby at_82) rfl rfl (l' := #[.val (.int p0), .val (.int ((p0 &&& (2147483647 : Int32)) % (5 : Int32))), .val (.ref c2), .val (.ref m2), .val (.ref m2)]) rfl ?_
          show Steps p.tables e below (T157.setTop (mkF m 84 #[.val (.int p0), .val (.int ((p0 &&& (2147483647 : Int32)) % (5 : Int32))), .val (.ref c2), .val (.ref m2), .val (.ref m2)] [])) _
          refine XS.aload X157.here hx rfl (hb hby at_84) rfl rfl ?_
          show Steps p.tables e below (T157.setTop (mkF m 86 #[.val (.int p0), .val (.int ((p0 &&& (2147483647 : Int32)) % (5 : Int32))), .val (.ref c2), .val (.ref m2), .val (.ref m2)] [(.ref m2)])) _
          refine XS.aloadN X157.here hx rfl (hb hby at_86) rfl rfl ?_
          exact h
        obtain ⟨cq163, kq163, q163a, q163b, q163c⟩ := isOf hZ rfl f158
        obtain ⟨_, _, ⟨T163, L163, k163, n163⟩, -, X163, ⟨Lc163, hQ163, l163, y163, z163⟩, st163⟩ := X157.virtualBack hx (y := (⟨"com/example/planwright/planwright/quality/Measure", "criterion", "()Lcom/example/planwright/planwright/model/Criterion;"⟩ : MethodName)) (z := (⟨"com/example/planwright/planwright/quality/Measure", "criterion", "()Lcom/example/planwright/planwright/model/Criterion;"⟩ : MethodName)) hown (mvT hZ (hw _ (List.mem_of_getElem? (i := 31) rfl))) (mvT hZ (hw _ (List.mem_of_getElem? (i := 32) rfl))) (notFace_of_selects (args := #[]) (mvT hZ (hw _ (List.mem_of_getElem? (i := 34) rfl)))) (mvT hZ (hw _ (List.mem_of_getElem? (i := 34) rfl))) (mvT hZ (hw _ (List.mem_of_getElem? (i := 33) rfl))) (by decide) (backOf (W := 0) (rmC l Z a0 hw [] m2 c2 T157.heap n0 Z160 f159) hZ (hw _ (List.mem_of_getElem? (i := 35) rfl)) (hw _ (List.mem_of_getElem? (i := 5) rfl)) (by decide) (by decide)) q163a q163c (g := (mkF m 92 #[.val (.int p0), .val (.int ((p0 &&& (2147483647 : Int32)) % (5 : Int32))), .val (.ref c2), .val (.ref m2), .val (.ref m2)] [(.ref m2)])) rfl (by rw [hml]; rfl) (Steps.refl _) (argsL := []) (rest := []) (lenOf own_pd_2 rfl) rfl (by show 2 * 0 + _ ≤ _; exact Nat.le_of_eq rfl) (hb hby at_92) (fun _ _ => ⟨rfl, rfl, (by decide : 1 + 0 ≤ _), (by decide : 5 + 0 ≤ _)⟩)
        dsimp only [Pt.U, Pt.locs, Pt.cells, Pt.slots] at X163 l163 y163 z163 st163 hQ163
        subst l163 y163 z163
        obtain ⟨rfl, Nq163, eq163⟩ := hQ163
        have N163 := Fr.app N157 Nq163
        have k164 : ∀ t, Steps p.tables e below (T163.setTop (mkF m 96 #[.val (.int p0), .val (.int ((p0 &&& (2147483647 : Int32)) % (5 : Int32))), .val (.ref c2), .val (.ref m2), .val (.ref m2)] [(.ref c2), (.ref c2)])) t → Steps p.tables e below (s₁.setTop (mkF m 0 #[.val (.int p0), .unset, .unset, .unset, .unset] [])) t := by
          intro t h
          refine k162 t ?_
          show Steps p.tables e below (T157.setTop (mkF m 87 #[.val (.int p0), .val (.int ((p0 &&& (2147483647 : Int32)) % (5 : Int32))), .val (.ref c2), .val (.ref m2), .val (.ref m2)] [(.ref m2), (.ref m2)])) _
          refine Jvm.RoadKit.acmp (g := (mkF m 87 #[.val (.int p0), .val (.int ((p0 &&& (2147483647 : Int32)) % (5 : Int32))), .val (.ref c2), .val (.ref m2), .val (.ref m2)] [(.ref m2), (.ref m2)])) X157 hx rfl rfl rfl (pc0 := 87) (pc' := 90) (same := true) rfl (hb hby at_87) rfl (decide_eq_true rfl) (by decide) (by decide) ?_
          show Steps p.tables e below (T157.setTop (mkF m 90 #[.val (.int p0), .val (.int ((p0 &&& (2147483647 : Int32)) % (5 : Int32))), .val (.ref c2), .val (.ref m2), .val (.ref m2)] [])) _
          refine XS.aload X157.here hx rfl (hb hby at_90) rfl rfl ?_
          show Steps p.tables e below (T157.setTop (mkF m 92 #[.val (.int p0), .val (.int ((p0 &&& (2147483647 : Int32)) % (5 : Int32))), .val (.ref c2), .val (.ref m2), .val (.ref m2)] [(.ref m2)])) _
          refine st163.trans ?_
          show Steps p.tables e below (T163.setTop (mkF m 95 #[.val (.int p0), .val (.int ((p0 &&& (2147483647 : Int32)) % (5 : Int32))), .val (.ref c2), .val (.ref m2), .val (.ref m2)] [(.ref c2)])) _
          refine XS.aloadN X163.here hx rfl (hb hby at_95) rfl rfl ?_
          exact h
        have k165 : ∀ t, Steps p.tables e below (T163.setTop (mkF m 104 #[.val (.int p0), .val (.int ((p0 &&& (2147483647 : Int32)) % (5 : Int32))), .val (.ref c2), .val (.ref m2), .val (.ref m2)] [(.int (1 : Int32))])) t → Steps p.tables e below (s₁.setTop (mkF m 0 #[.val (.int p0), .unset, .unset, .unset, .unset] [])) t := by
          intro t h
          refine k164 t ?_
          show Steps p.tables e below (T163.setTop (mkF m 96 #[.val (.int p0), .val (.int ((p0 &&& (2147483647 : Int32)) % (5 : Int32))), .val (.ref c2), .val (.ref m2), .val (.ref m2)] [(.ref c2), (.ref c2)])) _
          refine Jvm.RoadKit.acmp (g := (mkF m 96 #[.val (.int p0), .val (.int ((p0 &&& (2147483647 : Int32)) % (5 : Int32))), .val (.ref c2), .val (.ref m2), .val (.ref m2)] [(.ref c2), (.ref c2)])) X163 hx rfl rfl rfl (pc0 := 96) (pc' := 99) (same := true) rfl (hb hby at_96) rfl (decide_eq_true rfl) (by decide) (by decide) ?_
          show Steps p.tables e below (T163.setTop (mkF m 99 #[.val (.int p0), .val (.int ((p0 &&& (2147483647 : Int32)) % (5 : Int32))), .val (.ref c2), .val (.ref m2), .val (.ref m2)] [])) _
          refine XS.iconst X163.here hx rfl (hb hby at_99) ?_
          show Steps p.tables e below (T163.setTop (mkF m 100 #[.val (.int p0), .val (.int ((p0 &&& (2147483647 : Int32)) % (5 : Int32))), .val (.ref c2), .val (.ref m2), .val (.ref m2)] [(.int (1 : Int32))])) _
          refine XS.goto X163.here hx rfl (pc0 := 100) (pc' := 104) rfl (hb hby at_100) (by decide) (by decide) ?_
          exact h
        obtain ⟨fs, hr, hrun, hended, hW, hsame⟩ := X163.leave (v := some (.int (1 : Int32))) (fun h => by rw [Bd.returns] at h; cases h) Bd.notSynchronized
        refine ⟨_, _, pre0 _ (k165 _ ?_), hrun, hended, _, _, rfl, ?_, ⟨_, rfl⟩, hW, hsame.mono (by decide) (by decide)⟩
        · exact retN X163 hx (t := .boolean) Bd.returns (by simp) (hb hby at_104) hr
        · show Q_rm0 Z _ _ _ _ _ _ _ _ _ _ _ _ _ h0 n0 _ T163.heap _
          rw [eq163]
          exact ⟨rfl, N163⟩
      · skip
        have k166 : ∀ t, Steps p.tables e below (s₁.setTop (mkF m 56 #[.val (.int p0), .val (.int ((p0 &&& (2147483647 : Int32)) % (5 : Int32))), .unset, .unset, .unset] [(.int (3 : Int32)), (.int ((p0 &&& (2147483647 : Int32)) % (5 : Int32)))])) t → Steps p.tables e below (s₁.setTop (mkF m 0 #[.val (.int p0), .unset, .unset, .unset, .unset] [])) t := by
          intro t h
          refine k153 t ?_
          show Steps p.tables e below (s₁.setTop (mkF m 40 #[.val (.int p0), .val (.int ((p0 &&& (2147483647 : Int32)) % (5 : Int32))), .unset, .unset, .unset] [(.int (2 : Int32)), (.int ((p0 &&& (2147483647 : Int32)) % (5 : Int32)))])) _
          refine XS.icmpYes X0.here hx rfl (pc0 := 40) (pc' := 54) rfl (hb hby at_40) rfl (feq c40_154).2 (by decide) (by decide) ?_
          show Steps p.tables e below (s₁.setTop (mkF m 54 #[.val (.int p0), .val (.int ((p0 &&& (2147483647 : Int32)) % (5 : Int32))), .unset, .unset, .unset] [])) _
          refine XS.iloadN X0.here hx rfl (hb hby at_54) rfl ?_
          show Steps p.tables e below (s₁.setTop (mkF m 55 #[.val (.int p0), .val (.int ((p0 &&& (2147483647 : Int32)) % (5 : Int32))), .unset, .unset, .unset] [(.int ((p0 &&& (2147483647 : Int32)) % (5 : Int32)))])) _
          refine XS.iconst X0.here hx rfl (hb hby at_55) ?_
          exact h
        by_cases c56_167 : ((p0 &&& (2147483647 : Int32)) % (5 : Int32)) = (3 : Int32)
        · skip
          obtain ⟨T168, X168, e168, st168⟩ := getS2 X0 hx hZ hown (host := "") (Or.inl (hw _ (List.mem_of_getElem? (i := 36) rfl))) Via.refl e0 Sc3 (g := (mkF m 59 #[.val (.int p0), .val (.int ((p0 &&& (2147483647 : Int32)) % (5 : Int32))), .unset, .unset, .unset] [])) rfl (hb hby at_59)
          obtain ⟨T169, X169, e169, st169⟩ := getS2 X168 hx hZ hown (host := "") (Or.inl (hw _ (List.mem_of_getElem? (i := 38) rfl))) Via.refl e168 Sm3 (g := (mkF m 63 #[.val (.int p0), .val (.int ((p0 &&& (2147483647 : Int32)) % (5 : Int32))), .val (.ref c3), .unset, .unset] [])) rfl (hb hby at_63)
          obtain ⟨_, _, ⟨T170, L170, k170, n170⟩, -, X170, ⟨Lc170, hQ170, l170, y170, z170⟩, st170⟩ := Jvm.LawKit.callS X169 hx (y := (⟨"com/example/planwright/planwright/quality/Measure", "of", "(Lcom/example/planwright/planwright/model/Criterion;)Lcom/example/planwright/planwright/quality/Measure;"⟩ : MethodName)) hown (mvT hZ (hw _ (List.mem_of_getElem? (i := 7) rfl))) (mvT hZ (hw _ (List.mem_of_getElem? (i := 8) rfl))) (mvT hZ (hw _ (List.mem_of_getElem? (i := 5) rfl))) (mvT hZ (hw _ (List.mem_of_getElem? (i := 9) rfl))) (by decide) (backOf (W := 0) (rmO3 l Z a0 hw [] c3 va kv m0 m1 m2 m3 m4 c0 c1 c2 h0 n0 Z0 S1 V1 E1 FC F0 F1 F2 F3 (nec.2.2.2.1) (nec.2.2.2.2.1) (nec.2.2.2.2.2.1)) hZ (hw _ (List.mem_of_getElem? (i := 9) rfl)) (hw _ (List.mem_of_getElem? (i := 5) rfl)) (by decide) (by decide)) (g := (mkF m 79 #[.val (.int p0), .val (.int ((p0 &&& (2147483647 : Int32)) % (5 : Int32))), .val (.ref c3), .val (.ref m3), .unset] [(.ref c3)])) rfl (by rw [hml]; rfl) (argsL := [(.ref c3)]) (rest := []) (lenOf own_pd_1 rfl) rfl (by show 2 * 0 + _ ≤ _; exact Nat.le_of_eq rfl) (hb hby at_79) (fun _ _ => ⟨rfl, e169, (by decide : 0 + 1 ≤ _), (by decide : 0 + 5 ≤ _)⟩)
          dsimp only [Pt.U, Pt.locs, Pt.cells, Pt.slots] at X170 l170 y170 z170 st170 hQ170
          subst l170 y170 z170
          obtain ⟨rfl, Nq170, Kq170⟩ := hQ170
          have N170 := Fr.app N0 Nq170
          have f171 := Em3.keep Kq170
          have f172 := F3.keep Kq170 nin0
          have Z173 : n0 ≤ T170.heap.size := Nat.le_trans Z0 Kq170.1
          have K174 := K0.trans Kq170 all0
          have k175 : ∀ t, Steps p.tables e below (T170.setTop (mkF m 87 #[.val (.int p0), .val (.int ((p0 &&& (2147483647 : Int32)) % (5 : Int32))), .val (.ref c3), .val (.ref m3), .val (.ref m3)] [(.ref m3), (.ref m3)])) t → Steps p.tables e below (s₁.setTop (mkF m 0 #[.val (.int p0), .unset, .unset, .unset, .unset] [])) t := by
            intro t h
            refine k166 t ?_
            show Steps p.tables e below (s₁.setTop (mkF m 56 #[.val (.int p0), .val (.int ((p0 &&& (2147483647 : Int32)) % (5 : Int32))), .unset, .unset, .unset] [(.int (3 : Int32)), (.int ((p0 &&& (2147483647 : Int32)) % (5 : Int32)))])) _
            refine XS.icmpNo X0.here hx rfl (hb hby at_56) rfl (teq c56_167).2 ?_
            show Steps p.tables e below (s₁.setTop (mkF m 59 #[.val (.int p0), .val (.int ((p0 &&& (2147483647 : Int32)) % (5 : Int32))), .unset, .unset, .unset] [])) _
            refine st168 _ ?_
            show Steps p.tables e below (T168.setTop (mkF m 62 #[.val (.int p0), .val (.int ((p0 &&& (2147483647 : Int32)) % (5 : Int32))), .unset, .unset, .unset] [(.ref c3)])) _
            refine XS.astoreN X168.here hx rfl (hb hby at_62) rfl rfl (l' := #[.val (.int p0), .val (.int ((p0 &&& (2147483647 : Int32)) % (5 : Int32))), .val (.ref c3), .unset, .unset]) rfl ?_
            show Steps p.tables e below (T168.setTop (mkF m 63 #[.val (.int p0), .val (.int ((p0 &&& (2147483647 : Int32)) % (5 : Int32))), .val (.ref c3), .unset, .unset] [])) _
            refine st169 _ ?_
            show Steps p.tables e below (T169.setTop (mkF m 66 #[.val (.int p0), .val (.int ((p0 &&& (2147483647 : Int32)) % (5 : Int32))), .val (.ref c3), .unset, .unset] [(.ref m3)])) _
            refine XS.astoreN X169.here hx rfl (hb hby at_66) rfl rfl (l' := #[.val (.int p0), .val (.int ((p0 &&& (2147483647 : Int32)) % (5 : Int32))), .val (.ref c3), .val (.ref m3), .unset]) rfl ?_
            show Steps p.tables e below (T169.setTop (mkF m 67 #[.val (.int p0), .val (.int ((p0 &&& (2147483647 : Int32)) % (5 : Int32))), .val (.ref c3), .val (.ref m3), .unset] [])) _
            refine XS.goto X169.here hx rfl (pc0 := 67) (pc' := 78) rfl (hb hby at_67) (by decide) (by decide) ?_
            show Steps p.tables e below (T169.setTop (mkF m 78 #[.val (.int p0), .val (.int ((p0 &&& (2147483647 : Int32)) % (5 : Int32))), .val (.ref c3), .val (.ref m3), .unset] [])) _
            refine XS.aloadN X169.here hx rfl (hb hby at_78) rfl rfl ?_
            show Steps p.tables e below (T169.setTop (mkF m 79 #[.val (.int p0), .val (.int ((p0 &&& (2147483647 : Int32)) % (5 : Int32))), .val (.ref c3), .val (.ref m3), .unset] [(.ref c3)])) _
            refine st170 _ ?_
            show Steps p.tables e below (T170.setTop (mkF m 82 #[.val (.int p0), .val (.int ((p0 &&& (2147483647 : Int32)) % (5 : Int32))), .val (.ref c3), .val (.ref m3), .unset] [(.ref m3)])) _
            refine XS.astore X170.here hx rfl (hb hby at_82) rfl rfl (l' := #[.val (.int p0), .val (.int ((p0 &&& (2147483647 : Int32)) % (5 : Int32))), .val (.ref c3), .val (.ref m3), .val (.ref m3)]) rfl ?_
            show Steps p.tables e below (T170.setTop (mkF m 84 #[.val (.int p0), .val (.int ((p0 &&& (2147483647 : Int32)) % (5 : Int32))), .val (.ref c3), .val (.ref m3), .val (.ref m3)] [])) _
            refine XS.aload X170.here hx rfl (hb hby at_84) rfl rfl ?_
            show Steps p.tables e below (T170.setTop (mkF m 86 #[.val (.int p0), .val (.int ((p0 &&& (2147483647 : Int32)) % (5 : Int32))), .val (.ref c3), .val (.ref m3), .val (.ref m3)] [(.ref m3)])) _
            refine XS.aloadN X170.here hx rfl (hb hby at_86) rfl rfl ?_
            exact h
          obtain ⟨cq176, kq176, q176a, q176b, q176c⟩ := isOf hZ rfl f171
          obtain ⟨_, _, ⟨T176, L176, k176, n176⟩, -, X176, ⟨Lc176, hQ176, l176, y176, z176⟩, st176⟩ := X170.virtualBack hx (y := (⟨"com/example/planwright/planwright/quality/Measure", "criterion", "()Lcom/example/planwright/planwright/model/Criterion;"⟩ : MethodName)) (z := (⟨"com/example/planwright/planwright/quality/Measure", "criterion", "()Lcom/example/planwright/planwright/model/Criterion;"⟩ : MethodName)) hown (mvT hZ (hw _ (List.mem_of_getElem? (i := 31) rfl))) (mvT hZ (hw _ (List.mem_of_getElem? (i := 32) rfl))) (notFace_of_selects (args := #[]) (mvT hZ (hw _ (List.mem_of_getElem? (i := 34) rfl)))) (mvT hZ (hw _ (List.mem_of_getElem? (i := 34) rfl))) (mvT hZ (hw _ (List.mem_of_getElem? (i := 33) rfl))) (by decide) (backOf (W := 0) (rmC l Z a0 hw [] m3 c3 T170.heap n0 Z173 f172) hZ (hw _ (List.mem_of_getElem? (i := 35) rfl)) (hw _ (List.mem_of_getElem? (i := 5) rfl)) (by decide) (by decide)) q176a q176c (g := (mkF m 92 #[.val (.int p0), .val (.int ((p0 &&& (2147483647 : Int32)) % (5 : Int32))), .val (.ref c3), .val (.ref m3), .val (.ref m3)] [(.ref m3)])) rfl (by rw [hml]; rfl) (Steps.refl _) (argsL := []) (rest := []) (lenOf own_pd_2 rfl) rfl (by show 2 * 0 + _ ≤ _; exact Nat.le_of_eq rfl) (hb hby at_92) (fun _ _ => ⟨rfl, rfl, (by decide : 1 + 0 ≤ _), (by decide : 5 + 0 ≤ _)⟩)
          dsimp only [Pt.U, Pt.locs, Pt.cells, Pt.slots] at X176 l176 y176 z176 st176 hQ176
          subst l176 y176 z176
          obtain ⟨rfl, Nq176, eq176⟩ := hQ176
          have N176 := Fr.app N170 Nq176
          have k177 : ∀ t, Steps p.tables e below (T176.setTop (mkF m 96 #[.val (.int p0), .val (.int ((p0 &&& (2147483647 : Int32)) % (5 : Int32))), .val (.ref c3), .val (.ref m3), .val (.ref m3)] [(.ref c3), (.ref c3)])) t → Steps p.tables e below (s₁.setTop (mkF m 0 #[.val (.int p0), .unset, .unset, .unset, .unset] [])) t := by
            intro t h
            refine k175 t ?_
            show Steps p.tables e below (T170.setTop (mkF m 87 #[.val (.int p0), .val (.int ((p0 &&& (2147483647 : Int32)) % (5 : Int32))), .val (.ref c3), .val (.ref m3), .val (.ref m3)] [(.ref m3), (.ref m3)])) _
            refine Jvm.RoadKit.acmp (g := (mkF m 87 #[.val (.int p0), .val (.int ((p0 &&& (2147483647 : Int32)) % (5 : Int32))), .val (.ref c3), .val (.ref m3), .val (.ref m3)] [(.ref m3), (.ref m3)])) X170 hx rfl rfl rfl (pc0 := 87) (pc' := 90) (same := true) rfl (hb hby at_87) rfl (decide_eq_true rfl) (by decide) (by decide) ?_
            show Steps p.tables e below (T170.setTop (mkF m 90 #[.val (.int p0), .val (.int ((p0 &&& (2147483647 : Int32)) % (5 : Int32))), .val (.ref c3), .val (.ref m3), .val (.ref m3)] [])) _
            refine XS.aload X170.here hx rfl (hb hby at_90) rfl rfl ?_
            show Steps p.tables e below (T170.setTop (mkF m 92 #[.val (.int p0), .val (.int ((p0 &&& (2147483647 : Int32)) % (5 : Int32))), .val (.ref c3), .val (.ref m3), .val (.ref m3)] [(.ref m3)])) _
            refine st176.trans ?_
            show Steps p.tables e below (T176.setTop (mkF m 95 #[.val (.int p0), .val (.int ((p0 &&& (2147483647 : Int32)) % (5 : Int32))), .val (.ref c3), .val (.ref m3), .val (.ref m3)] [(.ref c3)])) _
            refine XS.aloadN X176.here hx rfl (hb hby at_95) rfl rfl ?_
            exact h
          have k178 : ∀ t, Steps p.tables e below (T176.setTop (mkF m 104 #[.val (.int p0), .val (.int ((p0 &&& (2147483647 : Int32)) % (5 : Int32))), .val (.ref c3), .val (.ref m3), .val (.ref m3)] [(.int (1 : Int32))])) t → Steps p.tables e below (s₁.setTop (mkF m 0 #[.val (.int p0), .unset, .unset, .unset, .unset] [])) t := by
            intro t h
            refine k177 t ?_
            show Steps p.tables e below (T176.setTop (mkF m 96 #[.val (.int p0), .val (.int ((p0 &&& (2147483647 : Int32)) % (5 : Int32))), .val (.ref c3), .val (.ref m3), .val (.ref m3)] [(.ref c3), (.ref c3)])) _
            refine Jvm.RoadKit.acmp (g := (mkF m 96 #[.val (.int p0), .val (.int ((p0 &&& (2147483647 : Int32)) % (5 : Int32))), .val (.ref c3), .val (.ref m3), .val (.ref m3)] [(.ref c3), (.ref c3)])) X176 hx rfl rfl rfl (pc0 := 96) (pc' := 99) (same := true) rfl (hb hby at_96) rfl (decide_eq_true rfl) (by decide) (by decide) ?_
            show Steps p.tables e below (T176.setTop (mkF m 99 #[.val (.int p0), .val (.int ((p0 &&& (2147483647 : Int32)) % (5 : Int32))), .val (.ref c3), .val (.ref m3), .val (.ref m3)] [])) _
            refine XS.iconst X176.here hx rfl (hb hby at_99) ?_
            show Steps p.tables e below (T176.setTop (mkF m 100 #[.val (.int p0), .val (.int ((p0 &&& (2147483647 : Int32)) % (5 : Int32))), .val (.ref c3), .val (.ref m3), .val (.ref m3)] [(.int (1 : Int32))])) _
            refine XS.goto X176.here hx rfl (pc0 := 100) (pc' := 104) rfl (hb hby at_100) (by decide) (by decide) ?_
            exact h
          obtain ⟨fs, hr, hrun, hended, hW, hsame⟩ := X176.leave (v := some (.int (1 : Int32))) (fun h => by rw [Bd.returns] at h; cases h) Bd.notSynchronized
          refine ⟨_, _, pre0 _ (k178 _ ?_), hrun, hended, _, _, rfl, ?_, ⟨_, rfl⟩, hW, hsame.mono (by decide) (by decide)⟩
          · exact retN X176 hx (t := .boolean) Bd.returns (by simp) (hb hby at_104) hr
          · show Q_rm0 Z _ _ _ _ _ _ _ _ _ _ _ _ _ h0 n0 _ T176.heap _
            rw [eq176]
            exact ⟨rfl, N176⟩
        · skip
          obtain ⟨T179, X179, e179, st179⟩ := getS2 X0 hx hZ hown (host := "") (Or.inl (hw _ (List.mem_of_getElem? (i := 43) rfl))) Via.refl e0 Sc4 (g := (mkF m 70 #[.val (.int p0), .val (.int ((p0 &&& (2147483647 : Int32)) % (5 : Int32))), .unset, .unset, .unset] [])) rfl (hb hby at_70)
          obtain ⟨T180, X180, e180, st180⟩ := getS2 X179 hx hZ hown (host := "") (Or.inl (hw _ (List.mem_of_getElem? (i := 45) rfl))) Via.refl e179 Sm4 (g := (mkF m 74 #[.val (.int p0), .val (.int ((p0 &&& (2147483647 : Int32)) % (5 : Int32))), .val (.ref c4), .unset, .unset] [])) rfl (hb hby at_74)
          obtain ⟨_, _, ⟨T181, L181, k181, n181⟩, -, X181, ⟨Lc181, hQ181, l181, y181, z181⟩, st181⟩ := Jvm.LawKit.callS X180 hx (y := (⟨"com/example/planwright/planwright/quality/Measure", "of", "(Lcom/example/planwright/planwright/model/Criterion;)Lcom/example/planwright/planwright/quality/Measure;"⟩ : MethodName)) hown (mvT hZ (hw _ (List.mem_of_getElem? (i := 7) rfl))) (mvT hZ (hw _ (List.mem_of_getElem? (i := 8) rfl))) (mvT hZ (hw _ (List.mem_of_getElem? (i := 5) rfl))) (mvT hZ (hw _ (List.mem_of_getElem? (i := 9) rfl))) (by decide) (backOf (W := 0) (rmO4 l Z a0 hw [] c4 va kv m0 m1 m2 m3 m4 c0 c1 c2 c3 h0 n0 Z0 S1 V1 E1 FC F0 F1 F2 F3 F4 (nec.2.2.2.2.2.2.1) (nec.2.2.2.2.2.2.2.1) (nec.2.2.2.2.2.2.2.2.1) (nec.2.2.2.2.2.2.2.2.2)) hZ (hw _ (List.mem_of_getElem? (i := 9) rfl)) (hw _ (List.mem_of_getElem? (i := 5) rfl)) (by decide) (by decide)) (g := (mkF m 79 #[.val (.int p0), .val (.int ((p0 &&& (2147483647 : Int32)) % (5 : Int32))), .val (.ref c4), .val (.ref m4), .unset] [(.ref c4)])) rfl (by rw [hml]; rfl) (argsL := [(.ref c4)]) (rest := []) (lenOf own_pd_1 rfl) rfl (by show 2 * 0 + _ ≤ _; exact Nat.le_of_eq rfl) (hb hby at_79) (fun _ _ => ⟨rfl, e180, (by decide : 0 + 1 ≤ _), (by decide : 0 + 5 ≤ _)⟩)
          dsimp only [Pt.U, Pt.locs, Pt.cells, Pt.slots] at X181 l181 y181 z181 st181 hQ181
          subst l181 y181 z181
          obtain ⟨rfl, Nq181, Kq181⟩ := hQ181
          have N181 := Fr.app N0 Nq181
          have f182 := Em4.keep Kq181
          have f183 := F4.keep Kq181 nin0
          have Z184 : n0 ≤ T181.heap.size := Nat.le_trans Z0 Kq181.1
          have K185 := K0.trans Kq181 all0
          have k186 : ∀ t, Steps p.tables e below (T181.setTop (mkF m 87 #[.val (.int p0), .val (.int ((p0 &&& (2147483647 : Int32)) % (5 : Int32))), .val (.ref c4), .val (.ref m4), .val (.ref m4)] [(.ref m4), (.ref m4)])) t → Steps p.tables e below (s₁.setTop (mkF m 0 #[.val (.int p0), .unset, .unset, .unset, .unset] [])) t := by
            intro t h
            refine k166 t ?_
            show Steps p.tables e below (s₁.setTop (mkF m 56 #[.val (.int p0), .val (.int ((p0 &&& (2147483647 : Int32)) % (5 : Int32))), .unset, .unset, .unset] [(.int (3 : Int32)), (.int ((p0 &&& (2147483647 : Int32)) % (5 : Int32)))])) _
            refine XS.icmpYes X0.here hx rfl (pc0 := 56) (pc' := 70) rfl (hb hby at_56) rfl (feq c56_167).2 (by decide) (by decide) ?_
            show Steps p.tables e below (s₁.setTop (mkF m 70 #[.val (.int p0), .val (.int ((p0 &&& (2147483647 : Int32)) % (5 : Int32))), .unset, .unset, .unset] [])) _
            refine st179 _ ?_
            show Steps p.tables e below (T179.setTop (mkF m 73 #[.val (.int p0), .val (.int ((p0 &&& (2147483647 : Int32)) % (5 : Int32))), .unset, .unset, .unset] [(.ref c4)])) _
            refine XS.astoreN X179.here hx rfl (hb hby at_73) rfl rfl (l' := #[.val (.int p0), .val (.int ((p0 &&& (2147483647 : Int32)) % (5 : Int32))), .val (.ref c4), .unset, .unset]) rfl ?_
            show Steps p.tables e below (T179.setTop (mkF m 74 #[.val (.int p0), .val (.int ((p0 &&& (2147483647 : Int32)) % (5 : Int32))), .val (.ref c4), .unset, .unset] [])) _
            refine st180 _ ?_
            show Steps p.tables e below (T180.setTop (mkF m 77 #[.val (.int p0), .val (.int ((p0 &&& (2147483647 : Int32)) % (5 : Int32))), .val (.ref c4), .unset, .unset] [(.ref m4)])) _
            refine XS.astoreN X180.here hx rfl (hb hby at_77) rfl rfl (l' := #[.val (.int p0), .val (.int ((p0 &&& (2147483647 : Int32)) % (5 : Int32))), .val (.ref c4), .val (.ref m4), .unset]) rfl ?_
            show Steps p.tables e below (T180.setTop (mkF m 78 #[.val (.int p0), .val (.int ((p0 &&& (2147483647 : Int32)) % (5 : Int32))), .val (.ref c4), .val (.ref m4), .unset] [])) _
            refine XS.aloadN X180.here hx rfl (hb hby at_78) rfl rfl ?_
            show Steps p.tables e below (T180.setTop (mkF m 79 #[.val (.int p0), .val (.int ((p0 &&& (2147483647 : Int32)) % (5 : Int32))), .val (.ref c4), .val (.ref m4), .unset] [(.ref c4)])) _
            refine st181 _ ?_
            show Steps p.tables e below (T181.setTop (mkF m 82 #[.val (.int p0), .val (.int ((p0 &&& (2147483647 : Int32)) % (5 : Int32))), .val (.ref c4), .val (.ref m4), .unset] [(.ref m4)])) _
            refine XS.astore X181.here hx rfl (hb hby at_82) rfl rfl (l' := #[.val (.int p0), .val (.int ((p0 &&& (2147483647 : Int32)) % (5 : Int32))), .val (.ref c4), .val (.ref m4), .val (.ref m4)]) rfl ?_
            show Steps p.tables e below (T181.setTop (mkF m 84 #[.val (.int p0), .val (.int ((p0 &&& (2147483647 : Int32)) % (5 : Int32))), .val (.ref c4), .val (.ref m4), .val (.ref m4)] [])) _
            refine XS.aload X181.here hx rfl (hb hby at_84) rfl rfl ?_
            show Steps p.tables e below (T181.setTop (mkF m 86 #[.val (.int p0), .val (.int ((p0 &&& (2147483647 : Int32)) % (5 : Int32))), .val (.ref c4), .val (.ref m4), .val (.ref m4)] [(.ref m4)])) _
            refine XS.aloadN X181.here hx rfl (hb hby at_86) rfl rfl ?_
            exact h
          obtain ⟨cq187, kq187, q187a, q187b, q187c⟩ := isOf hZ rfl f182
          obtain ⟨_, _, ⟨T187, L187, k187, n187⟩, -, X187, ⟨Lc187, hQ187, l187, y187, z187⟩, st187⟩ := X181.virtualBack hx (y := (⟨"com/example/planwright/planwright/quality/Measure", "criterion", "()Lcom/example/planwright/planwright/model/Criterion;"⟩ : MethodName)) (z := (⟨"com/example/planwright/planwright/quality/Measure", "criterion", "()Lcom/example/planwright/planwright/model/Criterion;"⟩ : MethodName)) hown (mvT hZ (hw _ (List.mem_of_getElem? (i := 31) rfl))) (mvT hZ (hw _ (List.mem_of_getElem? (i := 32) rfl))) (notFace_of_selects (args := #[]) (mvT hZ (hw _ (List.mem_of_getElem? (i := 34) rfl)))) (mvT hZ (hw _ (List.mem_of_getElem? (i := 34) rfl))) (mvT hZ (hw _ (List.mem_of_getElem? (i := 33) rfl))) (by decide) (backOf (W := 0) (rmC l Z a0 hw [] m4 c4 T181.heap n0 Z184 f183) hZ (hw _ (List.mem_of_getElem? (i := 35) rfl)) (hw _ (List.mem_of_getElem? (i := 5) rfl)) (by decide) (by decide)) q187a q187c (g := (mkF m 92 #[.val (.int p0), .val (.int ((p0 &&& (2147483647 : Int32)) % (5 : Int32))), .val (.ref c4), .val (.ref m4), .val (.ref m4)] [(.ref m4)])) rfl (by rw [hml]; rfl) (Steps.refl _) (argsL := []) (rest := []) (lenOf own_pd_2 rfl) rfl (by show 2 * 0 + _ ≤ _; exact Nat.le_of_eq rfl) (hb hby at_92) (fun _ _ => ⟨rfl, rfl, (by decide : 1 + 0 ≤ _), (by decide : 5 + 0 ≤ _)⟩)
          dsimp only [Pt.U, Pt.locs, Pt.cells, Pt.slots] at X187 l187 y187 z187 st187 hQ187
          subst l187 y187 z187
          obtain ⟨rfl, Nq187, eq187⟩ := hQ187
          have N187 := Fr.app N181 Nq187
          have k188 : ∀ t, Steps p.tables e below (T187.setTop (mkF m 96 #[.val (.int p0), .val (.int ((p0 &&& (2147483647 : Int32)) % (5 : Int32))), .val (.ref c4), .val (.ref m4), .val (.ref m4)] [(.ref c4), (.ref c4)])) t → Steps p.tables e below (s₁.setTop (mkF m 0 #[.val (.int p0), .unset, .unset, .unset, .unset] [])) t := by
            intro t h
            refine k186 t ?_
            show Steps p.tables e below (T181.setTop (mkF m 87 #[.val (.int p0), .val (.int ((p0 &&& (2147483647 : Int32)) % (5 : Int32))), .val (.ref c4), .val (.ref m4), .val (.ref m4)] [(.ref m4), (.ref m4)])) _
            refine Jvm.RoadKit.acmp (g := (mkF m 87 #[.val (.int p0), .val (.int ((p0 &&& (2147483647 : Int32)) % (5 : Int32))), .val (.ref c4), .val (.ref m4), .val (.ref m4)] [(.ref m4), (.ref m4)])) X181 hx rfl rfl rfl (pc0 := 87) (pc' := 90) (same := true) rfl (hb hby at_87) rfl (decide_eq_true rfl) (by decide) (by decide) ?_
            show Steps p.tables e below (T181.setTop (mkF m 90 #[.val (.int p0), .val (.int ((p0 &&& (2147483647 : Int32)) % (5 : Int32))), .val (.ref c4), .val (.ref m4), .val (.ref m4)] [])) _
            refine XS.aload X181.here hx rfl (hb hby at_90) rfl rfl ?_
            show Steps p.tables e below (T181.setTop (mkF m 92 #[.val (.int p0), .val (.int ((p0 &&& (2147483647 : Int32)) % (5 : Int32))), .val (.ref c4), .val (.ref m4), .val (.ref m4)] [(.ref m4)])) _
            refine st187.trans ?_
            show Steps p.tables e below (T187.setTop (mkF m 95 #[.val (.int p0), .val (.int ((p0 &&& (2147483647 : Int32)) % (5 : Int32))), .val (.ref c4), .val (.ref m4), .val (.ref m4)] [(.ref c4)])) _
            refine XS.aloadN X187.here hx rfl (hb hby at_95) rfl rfl ?_
            exact h
          have k189 : ∀ t, Steps p.tables e below (T187.setTop (mkF m 104 #[.val (.int p0), .val (.int ((p0 &&& (2147483647 : Int32)) % (5 : Int32))), .val (.ref c4), .val (.ref m4), .val (.ref m4)] [(.int (1 : Int32))])) t → Steps p.tables e below (s₁.setTop (mkF m 0 #[.val (.int p0), .unset, .unset, .unset, .unset] [])) t := by
            intro t h
            refine k188 t ?_
            show Steps p.tables e below (T187.setTop (mkF m 96 #[.val (.int p0), .val (.int ((p0 &&& (2147483647 : Int32)) % (5 : Int32))), .val (.ref c4), .val (.ref m4), .val (.ref m4)] [(.ref c4), (.ref c4)])) _
            refine Jvm.RoadKit.acmp (g := (mkF m 96 #[.val (.int p0), .val (.int ((p0 &&& (2147483647 : Int32)) % (5 : Int32))), .val (.ref c4), .val (.ref m4), .val (.ref m4)] [(.ref c4), (.ref c4)])) X187 hx rfl rfl rfl (pc0 := 96) (pc' := 99) (same := true) rfl (hb hby at_96) rfl (decide_eq_true rfl) (by decide) (by decide) ?_
            show Steps p.tables e below (T187.setTop (mkF m 99 #[.val (.int p0), .val (.int ((p0 &&& (2147483647 : Int32)) % (5 : Int32))), .val (.ref c4), .val (.ref m4), .val (.ref m4)] [])) _
            refine XS.iconst X187.here hx rfl (hb hby at_99) ?_
            show Steps p.tables e below (T187.setTop (mkF m 100 #[.val (.int p0), .val (.int ((p0 &&& (2147483647 : Int32)) % (5 : Int32))), .val (.ref c4), .val (.ref m4), .val (.ref m4)] [(.int (1 : Int32))])) _
            refine XS.goto X187.here hx rfl (pc0 := 100) (pc' := 104) rfl (hb hby at_100) (by decide) (by decide) ?_
            exact h
          obtain ⟨fs, hr, hrun, hended, hW, hsame⟩ := X187.leave (v := some (.int (1 : Int32))) (fun h => by rw [Bd.returns] at h; cases h) Bd.notSynchronized
          refine ⟨_, _, pre0 _ (k189 _ ?_), hrun, hended, _, _, rfl, ?_, ⟨_, rfl⟩, hW, hsame.mono (by decide) (by decide)⟩
          · exact retN X187 hx (t := .boolean) Bd.returns (by simp) (hb hby at_104) hr
          · show Q_rm0 Z _ _ _ _ _ _ _ _ _ _ _ _ _ h0 n0 _ T187.heap _
            rw [eq187]
            exact ⟨rfl, N187⟩
set_option maxRecDepth 65536 in
set_option maxHeartbeats 40000000 in
theorem comes_1 {Post : Tables → Env → Array Value → State → Outcome → State → Prop} (hpost : ∀ tb e args s v u, (limb_1_1.after args s (.returned v) u = true ∧ limb_1_2.after args s (.returned v) u = true ∧ True) → FrameEnd s (.returned v) u (Jvm.fieldLocs frame_1_writes args s ++ Jvm.arrayLocs frame_1_arrays args s ++ Jvm.staticLocs frame_1_statics s) 16 128 → Post tb e args s (.returned v) u) :
    ArmFor flags0 classFile x code maxLocals ret World_1 tables_1 room_1 Calls_1 rest_1 Pre_1 Post := by
  intro l hfl _ _ p e ha hc hk s m args below hf hA hF happ hP
  obtain ⟨hcalls, hrest, hpre⟩ := hP
  obtain ⟨-, -, -, hnamed, -, -, -, hat⟩ := (Spec.applies_iff hf).mp happ
  obtain ⟨hg, hn⟩ := and_e (Cond.before_iff.mp (show (Jvm.Cond.and given_1 narrow_1).before args s = true from hpre))
  obtain ⟨g1, g2⟩ := and_e hg
  obtain ⟨w0, rfl⟩ : ∃ w0 : Value, args = #[w0] := by
    have hs : args.size = 1 := by simpa [Cond.value, given_1] using g1
    obtain ⟨L⟩ := args
    match L, hs with
    | [w0], _ => exact ⟨w0, rfl⟩
  have hw := fun d (hd : d ∈ tables_1) => atoms_spec (ws := Jvm.Cond.code x code maxLocals ret :: tables_1) hat d (List.mem_cons_of_mem _ hd)
  have hfit : Fit s := fun {y c} hc i hi => by
    obtain ⟨ha, rfl⟩ := Array.getElem?_eq_some_iff.mp hc
    have q := List.all_eq_true.mp ((Array.all_eq_true_iff_forall_mem.mp hF) _ (Array.getElem_mem ha)) i (List.mem_range.mpr hi)
    simpa [Array.getElem?_eq_getElem hi] using q
  obtain ⟨i0, ei0⟩ := is_v g2
  obtain rfl : w0 = (.int i0) := Option.some.inj ei0
  obtain ⟨hn0, ht0⟩ := and_e hn
  obtain ⟨hn1, ht1⟩ := and_e ht0
  obtain ⟨hn2, ht2⟩ := and_e ht1
  obtain ⟨hn3, ht3⟩ := and_e ht2
  obtain ⟨hn4, ht4⟩ := and_e ht3
  obtain ⟨hn5, ht5⟩ := and_e ht4
  obtain ⟨hn6, ht6⟩ := and_e ht5
  obtain ⟨hn7, ht7⟩ := and_e ht6
  obtain ⟨hn8, ht8⟩ := and_e ht7
  obtain ⟨hn9, ht9⟩ := and_e ht8
  obtain ⟨hn10, ht10⟩ := and_e ht9
  obtain ⟨hn11, ht11⟩ := and_e ht10
  obtain ⟨hn12, ht12⟩ := and_e ht11
  obtain ⟨hn13, ht13⟩ := and_e ht12
  obtain ⟨hn14, ht14⟩ := and_e ht13
  obtain ⟨hn15, ht15⟩ := and_e ht14
  obtain ⟨hn16, ht16⟩ := and_e ht15
  obtain ⟨hn17, ht17⟩ := and_e ht16
  obtain ⟨hn18, ht18⟩ := and_e ht17
  obtain ⟨hn19, ht19⟩ := and_e ht18
  obtain ⟨hn20, ht20⟩ := and_e ht19
  obtain ⟨hn21, ht21⟩ := and_e ht20
  obtain ⟨hn22, ht22⟩ := and_e ht21
  obtain ⟨hn23, ht23⟩ := and_e ht22
  obtain ⟨hn24, ht24⟩ := and_e ht23
  obtain ⟨hn25, ht25⟩ := and_e ht24
  obtain ⟨hn26, ht26⟩ := and_e ht25
  have hn27 := ht26
  obtain ⟨m0, ev_m0⟩ := exa_v hn1
  have E_m0 := Exa.start ev_m0 hn1
  have S_m0 := Sta.start ev_m0 (Or.inr ⟨(hw _ (List.mem_of_getElem? (i := 5) rfl)), (hw _ (List.mem_of_getElem? (i := 6) rfl))⟩)
  obtain ⟨c0, ev_c0⟩ := exa_v hn0
  have E_c0 := Exa.start ev_c0 hn0
  have S_c0 := Sta.start ev_c0 (Or.inr ⟨(hw _ (List.mem_of_getElem? (i := 2) rfl)), (hw _ (List.mem_of_getElem? (i := 3) rfl))⟩)
  obtain ⟨m1, ev_m1⟩ := exa_v hn6
  have E_m1 := Exa.start ev_m1 hn6
  have S_m1 := Sta.start ev_m1 (Or.inr ⟨(hw _ (List.mem_of_getElem? (i := 5) rfl)), (hw _ (List.mem_of_getElem? (i := 22) rfl))⟩)
  obtain ⟨c1, ev_c1⟩ := exa_v hn18
  have E_c1 := Exa.start ev_c1 hn18
  have S_c1 := Sta.start ev_c1 (Or.inr ⟨(hw _ (List.mem_of_getElem? (i := 2) rfl)), (hw _ (List.mem_of_getElem? (i := 39) rfl))⟩)
  obtain ⟨m2, ev_m2⟩ := exa_v hn8
  have E_m2 := Exa.start ev_m2 hn8
  have S_m2 := Sta.start ev_m2 (Or.inr ⟨(hw _ (List.mem_of_getElem? (i := 5) rfl)), (hw _ (List.mem_of_getElem? (i := 23) rfl))⟩)
  obtain ⟨c2, ev_c2⟩ := exa_v hn21
  have E_c2 := Exa.start ev_c2 hn21
  have S_c2 := Sta.start ev_c2 (Or.inr ⟨(hw _ (List.mem_of_getElem? (i := 2) rfl)), (hw _ (List.mem_of_getElem? (i := 40) rfl))⟩)
  obtain ⟨m3, ev_m3⟩ := exa_v hn10
  have E_m3 := Exa.start ev_m3 hn10
  have S_m3 := Sta.start ev_m3 (Or.inr ⟨(hw _ (List.mem_of_getElem? (i := 5) rfl)), (hw _ (List.mem_of_getElem? (i := 24) rfl))⟩)
  obtain ⟨c3, ev_c3⟩ := exa_v hn15
  have E_c3 := Exa.start ev_c3 hn15
  have S_c3 := Sta.start ev_c3 (Or.inr ⟨(hw _ (List.mem_of_getElem? (i := 2) rfl)), (hw _ (List.mem_of_getElem? (i := 37) rfl))⟩)
  obtain ⟨m4, ev_m4⟩ := exa_v hn12
  have E_m4 := Exa.start ev_m4 hn12
  have S_m4 := Sta.start ev_m4 (Or.inr ⟨(hw _ (List.mem_of_getElem? (i := 5) rfl)), (hw _ (List.mem_of_getElem? (i := 25) rfl))⟩)
  obtain ⟨c4, ev_c4⟩ := exa_v hn25
  have E_c4 := Exa.start ev_c4 hn25
  have S_c4 := Sta.start ev_c4 (Or.inr ⟨(hw _ (List.mem_of_getElem? (i := 2) rfl)), (hw _ (List.mem_of_getElem? (i := 44) rfl))⟩)
  have F_m0 := Fld.start ((fld_at ev_m0).symm.trans (own_eq_ref ev_c0 hn14))
  have O_c0 := Fld.start (own_fld_int ev_c0 hn16)
  have F_m1 := Fld.start ((fld_at ev_m1).symm.trans (own_eq_ref ev_c1 hn19))
  have O_c1 := Fld.start (own_fld_int ev_c1 hn20)
  have F_m2 := Fld.start ((fld_at ev_m2).symm.trans (own_eq_ref ev_c2 hn22))
  have O_c2 := Fld.start (own_fld_int ev_c2 hn23)
  have F_m3 := Fld.start ((fld_at ev_m3).symm.trans (own_eq_ref ev_c3 hn24))
  have O_c3 := Fld.start (own_fld_int ev_c3 hn17)
  have F_m4 := Fld.start ((fld_at ev_m4).symm.trans (own_eq_ref ev_c4 hn27))
  have O_c4 := Fld.start (own_fld_int ev_c4 hn26)
  obtain ⟨va, ev_va⟩ := exa_v hn3
  have E_va := Exa.start ev_va hn3
  have S_va := Sta.start ev_va (Or.inr ⟨(hw _ (List.mem_of_getElem? (i := 5) rfl)), (hw _ (List.mem_of_getElem? (i := 14) rfl))⟩)
  obtain ⟨cl, A_va⟩ := Arr.start ev_va hn2
  obtain ⟨sz1, sz2⟩ := own_len ev_va A_va hn4
  have V_va : Arv s s.heap va cl.cls (.object "com/example/planwright/planwright/quality/Measure") (5 : Int32) [(.ref m0), (.ref m1), (.ref m2), (.ref m3), (.ref m4)] .null := Arv.start hfit A_va sz1 sz2 (by decide) rfl ⟨own_elem ev_va A_va ev_m0 hn5, own_elem ev_va A_va ev_m1 hn7, own_elem ev_va A_va ev_m2 hn9, own_elem ev_va A_va ev_m3 hn11, own_elem ev_va A_va ev_m4 hn13, trivial⟩
  have FC_va : ∀ cl' : Cell, s.heap[va]? = some cl' → FitC s cl' := fun cl' hq => by cases A_va.1.symm.trans hq; exact FitC.start hfit A_va
  obtain ⟨n, o, h1, h2, h3, _, L, rfl, ⟨rfl, N⟩, hq⟩ := rm0 l s _ hw tables_1 i0 va cl.cls m0 m1 m2 m3 m4 c0 c1 c2 c3 c4 s.heap s.heap.size (Nat.le_refl _) S_va V_va E_va FC_va F_m0 F_m1 F_m2 F_m3 F_m4 S_m0 S_m1 S_m2 S_m3 S_m4 S_c0 S_c1 S_c2 S_c3 S_c4 E_m0 E_m1 E_m2 E_m3 E_m4 ⟨Fld.ne O_c0 O_c1 (own_ni (by decide)), Fld.ne O_c0 O_c2 (own_ni (by decide)), Fld.ne O_c1 O_c2 (own_ni (by decide)), Fld.ne O_c0 O_c3 (own_ni (by decide)), Fld.ne O_c1 O_c3 (own_ni (by decide)), Fld.ne O_c2 O_c3 (own_ni (by decide)), Fld.ne O_c0 O_c4 (own_ni (by decide)), Fld.ne O_c1 O_c4 (own_ni (by decide)), Fld.ne O_c2 O_c4 (own_ni (by decide)), Fld.ne O_c3 O_c4 (own_ni (by decide))⟩ p e ha hc hk s m _ below hf ((Spec.applies_iff_loose hf).mp happ).1 ⟨rfl, State.Warmed39.refl s, rfl⟩ trivial
  refine ⟨n, _, h1, h2, h3, hpost _ _ _ _ _ _ ⟨Cond.after_iff.mpr rfl, Cond.after_iff.mpr (eq_i res_at (Term.int_eval (1)) rfl), trivial⟩ ⟨hq.1, hq.2.1, (hq.2.2.sift fun y hy => Or.inr (N y hy)).mono (by decide) (by decide)⟩⟩
theorem main_1_1 : Claimed_1_1 := comes_1 fun _ _ _ _ _ _ h hF => ⟨h.1, hF⟩
theorem main_1_2 : Claimed_1_2 := comes_1 fun _ _ _ _ _ _ h hF => ⟨h.2.1, hF⟩
end Jvm.Pilot.@@N@@
namespace Jvm.Pilot.@@N@@
open Jvm Jvm.ClassFile Sem Op Lib Jvm.Free Jvm.Stand Jvm.Pilot.@@N@@.Jvm.D
/-! MADE BY PROGRAM (witnessworld.py) out of the Statement's table words and the real class files: 15 classes; the members and pool entries that the words name. The judged class is class 1, her method 1. -/
namespace start1
open Jvm.ClassFile
def u (s : String) : CpInfo := .utf8 (stringToUtf16 s)
/-- a pool by its gaps: so many unusable entries, then the entry; so many at the end -/
def gap : Nat → List CpInfo → List CpInfo
  | 0, r => r
  | n + 1, r => .unusable :: gap n r
def poolList (es : List (Nat × CpInfo)) (last : Nat) : List CpInfo := es.foldr (fun e r => gap e.1 (e.2 :: r)) (gap last [])
def pool (es : List (Nat × CpInfo)) (last : Nat) : Array CpInfo := ⟨poolList es last⟩
def fileOf (pool : Array CpInfo) (this : Nat) (attrs : Array Attribute := #[]) (ms : Array MethodInfo := #[]) (fl : Nat := 33) (sup : Nat := 0) (ifs : Array Nat := #[]) (fds : Array FieldInfo := #[]) : ClassFile where
  minorVersion := 0
  majorVersion := 65
  constantPool := pool
  accessFlags := fl
  thisClass := this
  superClass := sup
  interfaces := ifs
  fields := fds
  methods := ms
  attributes := attrs
def plain (name : String) (sup : Option ClassId) : Class where
  name := name
  kind := .ordinary
  loader := none
  accessFlags := 33
  super := sup
  interfaces := #[]
  cf := none
  fields := #[]
  methods := #[]
  instanceTypes := #[]
  staticTypes := #[]
  resolved := #[]
  callSites := []
  init := .initialized
  statics := none
  mirror := none

def pool0 : Array CpInfo := pool [(5, u "<init>"), (0, u "()V"), (1, .class_ 10), (1, u "java/lang/Object"), (85, u "clone"), (0, u "()Ljava/lang/Object;")] 26

def k0m0 : Method := { name := "<init>", desc := "()V", sig := { parameters := [], returnType := none }, accessFlags := 1, code := none }
def k0m1 : Method := { name := "clone", desc := "()Ljava/lang/Object;", sig := { parameters := [], returnType := some (.object "java/lang/Object") }, accessFlags := 260, code := none }
/-- java/lang/Object -/
def k0 : Class := { plain "java/lang/Object" none with
  accessFlags := 33
  interfaces := #[]
  cf := some (fileOf pool0 8 #[] #[{ accessFlags := 1, nameIndex := 5, descriptorIndex := 6, attributes := #[] }, { accessFlags := 260, nameIndex := 96, descriptorIndex := 97, attributes := #[] }] 33 0 #[] #[])
  fields := #[]
  methods := #[k0m0, k0m1]
  instanceTypes := #[]
  staticTypes := #[]
  resolved := Array.replicate 124 none
  statics := none }

def pool1 : Array CpInfo := pool [(2, .class_ 4), (1, u "java/lang/Object"), (0, u "<init>"), (0, u "()V"), (0, .integer 2147483647), (0, .fieldref 9 10), (0, .class_ 11), (0, .nameAndType 12 13), (0, u "com/example/planwright/planwright/model/Criterion"), (0, u "RESPONSE_TIME"), (0, u "Lcom/example/planwright/planwright/model/Criterion;"), (0, .fieldref 15 16), (0, .class_ 17), (0, .nameAndType 12 18), (0, u "com/example/planwright/planwright/quality/Measure"), (0, u "Lcom/example/planwright/planwright/quality/Measure;"), (0, .fieldref 9 20), (0, .nameAndType 21 13), (0, u "THROUGHPUT"), (0, .fieldref 15 23), (0, .nameAndType 21 18), (0, .fieldref 9 25), (0, .nameAndType 26 13), (0, u "AVAILABILITY"), (0, .fieldref 15 28), (0, .nameAndType 26 18), (0, .fieldref 9 30), (0, .nameAndType 31 13), (0, u "RELIABILITY"), (0, .fieldref 15 33), (0, .nameAndType 31 18), (0, .fieldref 9 35), (0, .nameAndType 36 13), (0, u "COST"), (0, .fieldref 15 38), (0, .nameAndType 36 18), (0, .methodref 15 40), (0, .nameAndType 41 42), (0, u "of"), (0, u "(Lcom/example/planwright/planwright/model/Criterion;)Lcom/example/planwright/planwright/quality/Measure;"), (0, .methodref 15 44), (0, .nameAndType 45 46), (0, u "criterion"), (0, u "()Lcom/example/planwright/planwright/model/Criterion;"), (0, .class_ 48), (0, u "com/example/planwright/planwright/quality/MeasureOfPinLaw"), (2, u "law"), (0, u "(I)Z")] 3

def k1m0 : Method := { name := "<init>", desc := "()V", sig := { parameters := [], returnType := none }, accessFlags := 1, code := none }
def k1c1 : Code := { maxStack := 2, maxLocals := 5, code := code, exceptionTable := #[], attributes := #[] }
def k1m1 : Method := { name := "law", desc := "(I)Z", sig := { parameters := [.int], returnType := some .boolean }, accessFlags := 9, code := some k1c1 }
/-- com/example/planwright/planwright/quality/MeasureOfPinLaw -/
def k1 : Class := { plain "com/example/planwright/planwright/quality/MeasureOfPinLaw" (some 0) with
  accessFlags := 49
  interfaces := #[]
  cf := some (fileOf pool1 47 #[] #[{ accessFlags := 1, nameIndex := 5, descriptorIndex := 6, attributes := #[] }, { accessFlags := 9, nameIndex := 51, descriptorIndex := 52, attributes := #[] }] 49 2 #[] #[])
  fields := #[]
  methods := #[k1m0, k1m1]
  instanceTypes := #[]
  staticTypes := #[]
  resolved := Array.replicate 56 none
  statics := none }

def pool2 : Array CpInfo := pool [(1, .class_ 2), (0, u "java/lang/constant/Constable"), (0, .class_ 4), (0, u "java/lang/Object")] 6

/-- java/lang/constant/Constable -/
def k2 : Class := { plain "java/lang/constant/Constable" (some 0) with
  accessFlags := 1537
  interfaces := #[]
  cf := some (fileOf pool2 1 #[] #[] 1537 3 #[] #[])
  fields := #[]
  methods := #[]
  instanceTypes := #[]
  staticTypes := #[]
  resolved := Array.replicate 11 none
  statics := none }

def pool3 : Array CpInfo := pool [(1, .class_ 2), (0, u "java/lang/Comparable"), (0, .class_ 4), (0, u "java/lang/Object")] 7

/-- java/lang/Comparable -/
def k3 : Class := { plain "java/lang/Comparable" (some 0) with
  accessFlags := 1537
  interfaces := #[]
  cf := some (fileOf pool3 1 #[] #[] 1537 3 #[] #[])
  fields := #[]
  methods := #[]
  instanceTypes := #[]
  staticTypes := #[]
  resolved := Array.replicate 12 none
  statics := none }

def pool4 : Array CpInfo := pool [(1, .class_ 2), (0, u "java/io/Serializable"), (0, .class_ 4), (0, u "java/lang/Object")] 2

/-- java/io/Serializable -/
def k4 : Class := { plain "java/io/Serializable" (some 0) with
  accessFlags := 1537
  interfaces := #[]
  cf := some (fileOf pool4 1 #[] #[] 1537 3 #[] #[])
  fields := #[]
  methods := #[]
  instanceTypes := #[]
  staticTypes := #[]
  resolved := Array.replicate 7 none
  statics := none }

def pool5 : Array CpInfo := pool [(2, .class_ 4), (1, u "java/lang/Enum"), (0, u "name"), (0, u "Ljava/lang/String;"), (2, u "ordinal"), (0, u "I"), (1, .class_ 14), (1, u "java/lang/Object"), (4, u "hash"), (86, .class_ 108), (1, u "java/lang/Enum$EnumDesc"), (2, .class_ 112), (0, u "java/lang/constant/Constable"), (0, .class_ 114), (0, u "java/lang/Comparable"), (0, .class_ 116), (0, u "java/io/Serializable")] 87

/-- java/lang/Enum -/
def k5 : Class := { plain "java/lang/Enum" (some 0) with
  accessFlags := 1057
  interfaces := #[2, 3, 4]
  cf := some (fileOf pool5 2 #[.nestMembers #[106]] #[] 1057 12 #[111, 113, 115] #[{ accessFlags := 18, nameIndex := 5, descriptorIndex := 6, attributes := #[] }, { accessFlags := 18, nameIndex := 9, descriptorIndex := 10, attributes := #[] }, { accessFlags := 2, nameIndex := 19, descriptorIndex := 10, attributes := #[] }])
  fields := #[{ name := "name", type := (.object "java/lang/String"), accessFlags := 18, slot := 0, constantValue := 0 }, { name := "ordinal", type := .int, accessFlags := 18, slot := 1, constantValue := 0 }, { name := "hash", type := .int, accessFlags := 2, slot := 2, constantValue := 0 }]
  methods := #[]
  instanceTypes := #[(.object "java/lang/String"), .int, .int]
  staticTypes := #[]
  resolved := Array.replicate 204 none
  statics := none }

def pool6 : Array CpInfo := pool [(2, .class_ 4), (1, u "com/example/planwright/planwright/model/Worded"), (33, .class_ 39), (0, u "java/lang/Object")] 13

/-- com/example/planwright/planwright/model/Worded -/
def k6 : Class := { plain "com/example/planwright/planwright/model/Worded" (some 0) with
  accessFlags := 1537
  interfaces := #[]
  cf := some (fileOf pool6 2 #[] #[] 1537 38 #[] #[])
  fields := #[]
  methods := #[]
  instanceTypes := #[]
  staticTypes := #[]
  resolved := Array.replicate 53 none
  statics := none }

def pool7 : Array CpInfo := pool [(1, .class_ 2), (0, u "com/example/planwright/planwright/model/Criterion"), (2, u "SERVICES"), (0, u "Lcom/example/planwright/planwright/model/Criterion;"), (2, u "LAYERS"), (2, u "RESPONSE_TIME"), (2, u "THROUGHPUT"), (2, u "AVAILABILITY"), (2, u "RELIABILITY"), (2, u "COST"), (2, u "$VALUES"), (0, u "[Lcom/example/planwright/planwright/model/Criterion;"), (6, .class_ 37), (1, u "java/lang/Enum"), (8, u "word"), (0, u "Ljava/lang/String;"), (2, u "needsQualities"), (0, u "Z"), (2, u "largerIsBetter"), (5, .class_ 62), (1, u "com/example/planwright/planwright/model/Worded")] 44

/-- com/example/planwright/planwright/model/Criterion -/
def k7 : Class := { plain "com/example/planwright/planwright/model/Criterion" (some 5) with
  accessFlags := 16433
  interfaces := #[6]
  cf := some (fileOf pool7 1 #[] #[] 16433 35 #[60] #[{ accessFlags := 16409, nameIndex := 5, descriptorIndex := 6, attributes := #[] }, { accessFlags := 16409, nameIndex := 9, descriptorIndex := 6, attributes := #[] }, { accessFlags := 16409, nameIndex := 12, descriptorIndex := 6, attributes := #[] }, { accessFlags := 16409, nameIndex := 15, descriptorIndex := 6, attributes := #[] }, { accessFlags := 16409, nameIndex := 18, descriptorIndex := 6, attributes := #[] }, { accessFlags := 16409, nameIndex := 21, descriptorIndex := 6, attributes := #[] }, { accessFlags := 16409, nameIndex := 24, descriptorIndex := 6, attributes := #[] }, { accessFlags := 18, nameIndex := 46, descriptorIndex := 47, attributes := #[] }, { accessFlags := 18, nameIndex := 50, descriptorIndex := 51, attributes := #[] }, { accessFlags := 18, nameIndex := 54, descriptorIndex := 51, attributes := #[] }, { accessFlags := 4122, nameIndex := 27, descriptorIndex := 28, attributes := #[] }])
  fields := #[{ name := "SERVICES", type := (.object "com/example/planwright/planwright/model/Criterion"), accessFlags := 16409, slot := 0, constantValue := 0 }, { name := "LAYERS", type := (.object "com/example/planwright/planwright/model/Criterion"), accessFlags := 16409, slot := 1, constantValue := 0 }, { name := "RESPONSE_TIME", type := (.object "com/example/planwright/planwright/model/Criterion"), accessFlags := 16409, slot := 2, constantValue := 0 }, { name := "THROUGHPUT", type := (.object "com/example/planwright/planwright/model/Criterion"), accessFlags := 16409, slot := 3, constantValue := 0 }, { name := "AVAILABILITY", type := (.object "com/example/planwright/planwright/model/Criterion"), accessFlags := 16409, slot := 4, constantValue := 0 }, { name := "RELIABILITY", type := (.object "com/example/planwright/planwright/model/Criterion"), accessFlags := 16409, slot := 5, constantValue := 0 }, { name := "COST", type := (.object "com/example/planwright/planwright/model/Criterion"), accessFlags := 16409, slot := 6, constantValue := 0 }, { name := "word", type := (.object "java/lang/String"), accessFlags := 18, slot := 3, constantValue := 0 }, { name := "needsQualities", type := .boolean, accessFlags := 18, slot := 4, constantValue := 0 }, { name := "largerIsBetter", type := .boolean, accessFlags := 18, slot := 5, constantValue := 0 }, { name := "$VALUES", type := (.array (.object "com/example/planwright/planwright/model/Criterion")), accessFlags := 4122, slot := 7, constantValue := 0 }]
  methods := #[]
  instanceTypes := #[(.object "java/lang/String"), .int, .int, (.object "java/lang/String"), .boolean, .boolean]
  staticTypes := #[(.object "com/example/planwright/planwright/model/Criterion"), (.object "com/example/planwright/planwright/model/Criterion"), (.object "com/example/planwright/planwright/model/Criterion"), (.object "com/example/planwright/planwright/model/Criterion"), (.object "com/example/planwright/planwright/model/Criterion"), (.object "com/example/planwright/planwright/model/Criterion"), (.object "com/example/planwright/planwright/model/Criterion"), (.array (.object "com/example/planwright/planwright/model/Criterion"))]
  resolved := Array.replicate 107 none
  statics := some 0 }

def pool8 : Array CpInfo := pool [(1, .class_ 2), (0, u "com/example/planwright/planwright/quality/Measure"), (2, u "RESPONSE_TIME"), (0, u "Lcom/example/planwright/planwright/quality/Measure;"), (2, u "THROUGHPUT"), (2, u "AVAILABILITY"), (2, u "RELIABILITY"), (2, u "COST"), (0, .fieldref 1 20), (0, .nameAndType 21 22), (0, u "$VALUES"), (0, u "[Lcom/example/planwright/planwright/quality/Measure;"), (0, .methodref 24 25), (0, .class_ 22), (0, .nameAndType 26 27), (0, u "clone"), (0, u "()Ljava/lang/Object;"), (1, .class_ 31), (1, u "java/lang/Enum"), (8, u "key"), (0, u "Ljava/lang/String;"), (0, .fieldref 1 43), (0, .nameAndType 44 45), (0, u "criterion"), (0, u "Lcom/example/planwright/planwright/model/Criterion;"), (0, .methodref 1 47), (0, .nameAndType 48 49), (0, u "values"), (0, u "()[Lcom/example/planwright/planwright/quality/Measure;"), (70, u "of"), (52, u "(Lcom/example/planwright/planwright/model/Criterion;)Lcom/example/planwright/planwright/quality/Measure;"), (1, u "()Lcom/example/planwright/planwright/model/Criterion;")] 23

def k8c0 : Code := { maxStack := 1, maxLocals := 0, code := prog_60_method_1_code, exceptionTable := #[], attributes := #[] }
def k8m0 : Method := { name := "values", desc := "()[Lcom/example/planwright/planwright/quality/Measure;", sig := { parameters := [], returnType := some (.array (.object "com/example/planwright/planwright/quality/Measure")) }, accessFlags := 9, code := some k8c0 }
def k8c1 : Code := { maxStack := 3, maxLocals := 5, code := prog_60_method_4_code, exceptionTable := #[], attributes := #[] }
def k8m1 : Method := { name := "of", desc := "(Lcom/example/planwright/planwright/model/Criterion;)Lcom/example/planwright/planwright/quality/Measure;", sig := { parameters := [(.object "com/example/planwright/planwright/model/Criterion")], returnType := some (.object "com/example/planwright/planwright/quality/Measure") }, accessFlags := 9, code := some k8c1 }
def k8c2 : Code := { maxStack := 1, maxLocals := 1, code := prog_60_method_6_code, exceptionTable := #[], attributes := #[] }
def k8m2 : Method := { name := "criterion", desc := "()Lcom/example/planwright/planwright/model/Criterion;", sig := { parameters := [], returnType := some (.object "com/example/planwright/planwright/model/Criterion") }, accessFlags := 1, code := some k8c2 }
/-- com/example/planwright/planwright/quality/Measure -/
def k8 : Class := { plain "com/example/planwright/planwright/quality/Measure" (some 5) with
  accessFlags := 16433
  interfaces := #[]
  cf := some (fileOf pool8 1 #[] #[{ accessFlags := 9, nameIndex := 48, descriptorIndex := 49, attributes := #[] }, { accessFlags := 9, nameIndex := 120, descriptorIndex := 173, attributes := #[] }, { accessFlags := 1, nameIndex := 44, descriptorIndex := 175, attributes := #[] }] 16433 29 #[] #[{ accessFlags := 16409, nameIndex := 5, descriptorIndex := 6, attributes := #[] }, { accessFlags := 16409, nameIndex := 9, descriptorIndex := 6, attributes := #[] }, { accessFlags := 16409, nameIndex := 12, descriptorIndex := 6, attributes := #[] }, { accessFlags := 16409, nameIndex := 15, descriptorIndex := 6, attributes := #[] }, { accessFlags := 16409, nameIndex := 18, descriptorIndex := 6, attributes := #[] }, { accessFlags := 18, nameIndex := 40, descriptorIndex := 41, attributes := #[] }, { accessFlags := 18, nameIndex := 44, descriptorIndex := 45, attributes := #[] }, { accessFlags := 4122, nameIndex := 21, descriptorIndex := 22, attributes := #[] }])
  fields := #[{ name := "RESPONSE_TIME", type := (.object "com/example/planwright/planwright/quality/Measure"), accessFlags := 16409, slot := 0, constantValue := 0 }, { name := "THROUGHPUT", type := (.object "com/example/planwright/planwright/quality/Measure"), accessFlags := 16409, slot := 1, constantValue := 0 }, { name := "AVAILABILITY", type := (.object "com/example/planwright/planwright/quality/Measure"), accessFlags := 16409, slot := 2, constantValue := 0 }, { name := "RELIABILITY", type := (.object "com/example/planwright/planwright/quality/Measure"), accessFlags := 16409, slot := 3, constantValue := 0 }, { name := "COST", type := (.object "com/example/planwright/planwright/quality/Measure"), accessFlags := 16409, slot := 4, constantValue := 0 }, { name := "key", type := (.object "java/lang/String"), accessFlags := 18, slot := 3, constantValue := 0 }, { name := "criterion", type := (.object "com/example/planwright/planwright/model/Criterion"), accessFlags := 18, slot := 4, constantValue := 0 }, { name := "$VALUES", type := (.array (.object "com/example/planwright/planwright/quality/Measure")), accessFlags := 4122, slot := 5, constantValue := 0 }]
  methods := #[k8m0, k8m1, k8m2]
  instanceTypes := #[(.object "java/lang/String"), .int, .int, (.object "java/lang/String"), (.object "com/example/planwright/planwright/model/Criterion")]
  staticTypes := #[(.object "com/example/planwright/planwright/quality/Measure"), (.object "com/example/planwright/planwright/quality/Measure"), (.object "com/example/planwright/planwright/quality/Measure"), (.object "com/example/planwright/planwright/quality/Measure"), (.object "com/example/planwright/planwright/quality/Measure"), (.array (.object "com/example/planwright/planwright/quality/Measure"))]
  resolved := Array.replicate 199 none
  statics := some 1 }

def pool9 : Array CpInfo := pool [(1, .class_ 2), (0, u "java/lang/Cloneable"), (0, .class_ 4), (0, u "java/lang/Object")] 2

/-- java/lang/Cloneable -/
def k9 : Class := { plain "java/lang/Cloneable" (some 0) with
  accessFlags := 1537
  interfaces := #[]
  cf := some (fileOf pool9 1 #[] #[] 1537 3 #[] #[])
  fields := #[]
  methods := #[]
  instanceTypes := #[]
  staticTypes := #[]
  resolved := Array.replicate 7 none
  statics := none }

/-- the primitive byte -/
def k10 : Class := { plain "byte" none with kind := .primitive 'B', accessFlags := 0x411 }
/-- [B -/
def k11 : Class := { plain "[B" (some 0) with kind := .array 10 .byte, interfaces := #[9, 4], accessFlags := 1041 }

/-- the primitive int -/
def k12 : Class := { plain "int" none with kind := .primitive 'I', accessFlags := 0x411 }
/-- [I -/
def k13 : Class := { plain "[I" (some 0) with kind := .array 12 .int, interfaces := #[9, 4], accessFlags := 1041 }

/-- [Lcom/example/planwright/planwright/quality/Measure; -/
def k14 : Class := { plain "[Lcom/example/planwright/planwright/quality/Measure;" (some 0) with kind := .array 8 (.object "com/example/planwright/planwright/quality/Measure"), interfaces := #[9, 4], accessFlags := 1041 }

def heap : Heap := #[{ cls := 7, slots := #[.null, .null, .ref 3, .ref 4, .ref 5, .ref 6, .ref 7, .null], vm := .statics 7 },
  { cls := 8, slots := #[.ref 8, .ref 9, .ref 10, .ref 11, .ref 12, .ref 2], vm := .statics 8 },
  { cls := 14, slots := #[.ref 8, .ref 9, .ref 10, .ref 11, .ref 12], vm := .none },
  { cls := 7, slots := #[.null, .int 2, .int 0, .null, .int 0, .int 0], vm := .none },
  { cls := 7, slots := #[.null, .int 3, .int 0, .null, .int 0, .int 0], vm := .none },
  { cls := 7, slots := #[.null, .int 4, .int 0, .null, .int 0, .int 0], vm := .none },
  { cls := 7, slots := #[.null, .int 5, .int 0, .null, .int 0, .int 0], vm := .none },
  { cls := 7, slots := #[.null, .int 6, .int 0, .null, .int 0, .int 0], vm := .none },
  { cls := 8, slots := #[.null, .int 0, .int 0, .null, .ref 3], vm := .none },
  { cls := 8, slots := #[.null, .int 1, .int 0, .null, .ref 4], vm := .none },
  { cls := 8, slots := #[.null, .int 2, .int 0, .null, .ref 5], vm := .none },
  { cls := 8, slots := #[.null, .int 3, .int 0, .null, .ref 6], vm := .none },
  { cls := 8, slots := #[.null, .int 4, .int 0, .null, .ref 7], vm := .none }]
def classes : Array Class := #[k0, k1, k2, k3, k4, k5, k6, k7, k8, k9, k10, k11, k12, k13, k14]
def interned : List (Array UInt16 × Addr) := []
def slotsUsed : Nat := 74
def theMethod : MethodId := ⟨1, 1⟩
def args0 : Array Value := #[.int 5]
def aboutOver (below : List Frame) : State where
  vm := { classes := classes, interned := interned.toArray }
  heap := heap
  slotsUsed := slotsUsed
  threads := #[{ frames := .invoking theMethod args0 :: below }]
def below0 : List Frame := [.native { method := ⟨0, 0⟩, args := #[] }]
def about1 : State := aboutOver below0
def p0 : Program := .bare "" "" ""
def e0 : Env := launch0.env 0 0 0
theorem w_frames : about1.frames = Frame.invoking theMethod args0 :: below0 := rfl
set_option maxRecDepth 65536 in
theorem w_args : argsFit about1.vm theMethod args0 = true := by decide +kernel
set_option maxRecDepth 65536 in
theorem w_heap : heapFits about1 = true := by decide +kernel
set_option maxRecDepth 65536 in
theorem w_runnable : about1.curStatus? = some .runnable := by decide +kernel
set_option maxRecDepth 65536 in
theorem w_alone : about1.alone = true := by decide +kernel
set_option maxRecDepth 65536 in
theorem w_named : about1.methodNamed? x = some theMethod := by decide +kernel
set_option maxRecDepth 65536 in
theorem w_hears : about1.hears theMethod below0 = true := by decide +kernel
set_option maxRecDepth 65536 in
theorem w_ripe : about1.ripe theMethod args0 below0 = true := by decide +kernel
theorem w_running : about1.status = .running := rfl
set_option maxRecDepth 65536 in
theorem w_room : about1.hasRoom e0.platform room_1 = true :=
  launch0.hasRoom_least _ room_1 (by decide +kernel) (by decide +kernel) (by decide +kernel) (by decide +kernel) (by decide +kernel) (by decide +kernel)
theorem allAtoms_all (ts : List Jvm.Cond) (a : Array Jvm.Value) (st : Jvm.State) : (allAtoms ts).before a st = ts.all (fun c => c.before a st) := by
  induction ts with
  | nil => rfl
  | cons c t ih =>
    show (Jvm.Cond.and c (allAtoms t)).before a st = _
    rw [Jvm.Cond.before_and, ih, List.all_cons]
def words1 : List Jvm.Cond := Jvm.Cond.code x code maxLocals ret :: tables_1
/-- a 'code' word, met by the world's own term for the bytes: nothing is compared byte by byte -/
theorem code_word {y : MethodName} {bytes : ByteArray} {mx : Nat} {rt : Option FieldType} {a : Array Value} {s : State} {m : MethodId} {meth : Method} {c : Code} (h1 : s.methodNamed? y = some m) (h2 : s.vm.method? m = some meth) (h3 : meth.code = some c) (h4 : c.code = bytes)
    (h5 : (c.maxLocals == mx && c.exceptionTable.isEmpty && decide (c.maxStack ≤ mostOperands) && decide (meth.sig.returnType = rt) && !meth.locks && decide (parseMethodDescriptor y.desc = some meth.sig)) = true) : (Jvm.Cond.code y bytes mx rt).before a s = true := by
  simp only [Bool.and_eq_true, beq_iff_eq, Bool.not_eq_true', decide_eq_true_eq] at h5
  obtain ⟨⟨⟨⟨⟨g1, g2⟩, g3⟩, g4⟩, g5⟩, g6⟩ := h5
  simp [Cond.before, Cond.holds, Cond.value, h1, h2, h3, h4, g1, g2, g3, g4, g5, g6]
def isCode : Jvm.Cond → Bool
  | .code _ _ _ _ => true
  | _ => false
theorem all_split {L : List Jvm.Cond} {P : Jvm.Cond → Bool} (h1 : L.all (fun c => isCode c || P c) = true) (h2 : ∀ c ∈ L.filter isCode, P c = true) : L.all P = true := by
  refine List.all_eq_true.mpr fun c hc => ?_
  have h := List.all_eq_true.mp h1 c hc
  rcases Bool.eq_false_or_eq_true (isCode c) with hi | hi
  · exact h2 c (List.mem_filter.mpr ⟨hc, hi⟩)
  · simpa [hi] using h
set_option maxRecDepth 65536 in
theorem w_c0 : (Jvm.Cond.code x code maxLocals ret).before args0 about1 = true := code_word (m := ⟨1, 1⟩) (meth := k1m1) (c := k1c1) (by decide +kernel) rfl rfl rfl (by decide +kernel)
set_option maxRecDepth 65536 in
theorem w_c1 : (Jvm.Cond.code ({ cls := "com/example/planwright/planwright/quality/Measure", name := "of", desc := "(Lcom/example/planwright/planwright/model/Criterion;)Lcom/example/planwright/planwright/quality/Measure;" } : Jvm.MethodName) prog_60_method_4_code (5 : Nat) (Option.some (Jvm.ClassFile.FieldType.object "com/example/planwright/planwright/quality/Measure"))).before args0 about1 = true := code_word (m := ⟨8, 1⟩) (meth := k8m1) (c := k8c1) (by decide +kernel) rfl rfl rfl (by decide +kernel)
set_option maxRecDepth 65536 in
theorem w_c2 : (Jvm.Cond.code ({ cls := "com/example/planwright/planwright/quality/Measure", name := "values", desc := "()[Lcom/example/planwright/planwright/quality/Measure;" } : Jvm.MethodName) prog_60_method_1_code (0 : Nat) (Option.some (Jvm.ClassFile.FieldType.array (Jvm.ClassFile.FieldType.object "com/example/planwright/planwright/quality/Measure")))).before args0 about1 = true := code_word (m := ⟨8, 0⟩) (meth := k8m0) (c := k8c0) (by decide +kernel) rfl rfl rfl (by decide +kernel)
set_option maxRecDepth 65536 in
theorem w_c3 : (Jvm.Cond.code ({ cls := "com/example/planwright/planwright/quality/Measure", name := "criterion", desc := "()Lcom/example/planwright/planwright/model/Criterion;" } : Jvm.MethodName) prog_60_method_6_code (1 : Nat) (Option.some (Jvm.ClassFile.FieldType.object "com/example/planwright/planwright/model/Criterion"))).before args0 about1 = true := code_word (m := ⟨8, 2⟩) (meth := k8m2) (c := k8c2) (by decide +kernel) rfl rfl rfl (by decide +kernel)
def codes1 : List Jvm.Cond := [Jvm.Cond.code x code maxLocals ret, Jvm.Cond.code ({ cls := "com/example/planwright/planwright/quality/Measure", name := "of", desc := "(Lcom/example/planwright/planwright/model/Criterion;)Lcom/example/planwright/planwright/quality/Measure;" } : Jvm.MethodName) prog_60_method_4_code (5 : Nat) (Option.some (Jvm.ClassFile.FieldType.object "com/example/planwright/planwright/quality/Measure")), Jvm.Cond.code ({ cls := "com/example/planwright/planwright/quality/Measure", name := "values", desc := "()[Lcom/example/planwright/planwright/quality/Measure;" } : Jvm.MethodName) prog_60_method_1_code (0 : Nat) (Option.some (Jvm.ClassFile.FieldType.array (Jvm.ClassFile.FieldType.object "com/example/planwright/planwright/quality/Measure"))), Jvm.Cond.code ({ cls := "com/example/planwright/planwright/quality/Measure", name := "criterion", desc := "()Lcom/example/planwright/planwright/model/Criterion;" } : Jvm.MethodName) prog_60_method_6_code (1 : Nat) (Option.some (Jvm.ClassFile.FieldType.object "com/example/planwright/planwright/model/Criterion"))]
set_option maxRecDepth 65536 in
theorem codes_eq : words1.filter isCode = codes1 := rfl
theorem w_codes : ∀ c ∈ words1.filter isCode, c.before args0 about1 = true := by
  rw [codes_eq]
  intro c hc
  simp only [codes1, List.mem_cons, List.not_mem_nil, or_false] at hc
  rcases hc with rfl | rfl | rfl | rfl
  · exact w_c0
  · exact w_c1
  · exact w_c2
  · exact w_c3
set_option maxRecDepth 65536 in
theorem w_t1 : (words1.take 24).all (fun c => isCode c || c.before args0 about1) = true := by decide +kernel
set_option maxRecDepth 65536 in
theorem w_t2 : ((words1.drop 24).take 24).all (fun c => isCode c || c.before args0 about1) = true := by decide +kernel
set_option maxRecDepth 65536 in
theorem w_t3 : ((words1.drop 24).drop 24).all (fun c => isCode c || c.before args0 about1) = true := by decide +kernel
theorem w_tables : (allAtoms (Jvm.Cond.code x code maxLocals ret :: tables_1)).before args0 about1 = true := by
  rw [allAtoms_all]
  show words1.all (fun c => c.before args0 about1) = true
  refine all_split ?_ w_codes
  rw [← List.take_append_drop 24 words1, List.all_append, w_t1, ← List.take_append_drop 24 (words1.drop 24), List.all_append, w_t2, w_t3]
  rfl
set_option maxRecDepth 65536 in
theorem w_case : (Jvm.Cond.and given_1 narrow_1).before args0 about1 = true := by decide +kernel
theorem w_applies : (headSpec (Jvm.Cond.code x code maxLocals ret :: tables_1) room_1).applies x e0.platform about1 = true :=
  (Spec.applies_iff w_frames).mpr ⟨w_running, w_runnable, w_alone, w_named, w_hears, w_ripe, w_room, w_tables⟩
theorem atStart : AtStart classFile x code maxLocals ret World_1 tables_1 room_1 Calls_1 rest_1 Pre_1 launch0 p0 e0 about1 theMethod args0 below0 :=
  ⟨lists_1, trivial, launch0.admits_env _ _ _, launch0.least_env, fairChoices_fair.cas, fairChoices_fair.clock, w_frames, w_args, w_heap, w_applies, trivial, trivial, w_case⟩
end start1
theorem witness_1 : WitnessClaimed_1 := ⟨start1.p0, start1.e0, start1.about1, start1.theMethod, start1.args0, start1.below0, start1.atStart⟩
end Jvm.Pilot.@@N@@
