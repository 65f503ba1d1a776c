import JvmDerived
import JvmDerived.Pilot.@@N@@Statement
import JvmDerived.Pilot.@@N@@Code
set_option linter.unusedVariables false
set_option linter.unusedSimpArgs false
namespace Jvm.RoadKit
open Sem ClassFile Op Lib Jvm.Stand Jvm.Free Jvm.LawKit
section New
variable {p : Program} {l : Launch} {e : Env} {R : Room} {s : State} {m : MethodId} {args : Array Value} {below : List Frame} {meth : Method} {c : Code} {T : State} {locs : List Loc} {cells slots : Nat}
theorem retI (X : Stand p l e R s m args below meth c T locs cells slots) (hx : p.tables.exec = Jvm.exec) {pc : Nat} {Ls : Array Slot} {z : Int32} {rest : List Value} (hret : meth.sig.returnType = some .int) (hd : decode c.code pc = .ok (.ireturn, 1)) {fs : List Frame}
    (hl : ∀ (f : JFrame) (acts : List Action), f.method = m → f.locked = none → f.entered = [] → (doReturn e (T.setTop f) acts (some (.int z))).1 = T.setFrames fs) : Steps p.tables e below (T.setTop (mkF m pc Ls (.int z :: rest))) (T.setFrames fs) := by
  have hm' : T.vm.method? m = some meth := X.method'
  have hn : narrow .int (.int z) = .int z := rfl
  show Steps p.tables e below (T.setTop { method := m, pc := pc, locals := Ls, stack := _ :: rest, locked := none }) _
  jvm_step X.here [X.here.top, hx, hd, hm', hret, hn]
  first | (intro acts; rw [hl _ acts rfl rfl rfl]) | rw [hl _ _ rfl rfl rfl]
  exact Steps.refl _
end New
end Jvm.RoadKit
namespace Jvm.Pilot.@@N@@
open Jvm Jvm.ClassFile Sem Op Lib Jvm.Free Jvm.Stand Jvm.LawKit Jvm.RoadKit Bundle Jvm.Pilot.@@N@@.Jvm.D

theorem own_sta_keep {Z : State} {h h' : Heap} {C n d : String} {v : Value} {ws : List Addr} (F : Sta Z h C n d v) (K : Keep h h' ws) (q : ∀ x ∈ ws, ∀ c : Cell, h[x]? = some c → c.vm.isStatics = false) : Sta Z h' C n d v := by
  obtain ⟨cf, i, k, f, st, cell, h1, h2, h3, h4, h5, h6, h7⟩ := F
  refine ⟨cf, i, k, f, st, cell, h1, h2, h3, h4, K.2.1 st cell h5 fun hm => ?_, h6, h7⟩
  rw [q st hm cell h5] at h6
  cases h6
theorem own_ns_exa {Z : State} {h : Heap} {b : Addr} {C : String} (E : Exa Z h b C) : ∀ c : Cell, h[b]? = some c → c.vm.isStatics = false := fun c hc => by
  obtain ⟨cell, k, h1, -, -, h4, -⟩ := E
  cases h1.symm.trans hc
  exact h4
theorem own_ns_arv {Z : State} {h : Heap} {b : Addr} {k : ClassId} {ty : FieldType} {z : Int32} {vs : List Value} {dv : Value} (V : Arv Z h b k ty z vs dv) : ∀ c : Cell, h[b]? = some c → c.vm.isStatics = false := fun c hc => by
  obtain ⟨cl, A, -⟩ := V
  cases A.1.symm.trans hc
  exact A.plain

theorem own_fld_int {args : Array Value} {s : State} {t : Term} {O n d : String} {x : Addr} {k : Int32} (ht : t.eval args s none [] s = some (.ref x)) (h : (Jvm.Cond.eq (Term.field t O n d) (Term.int k)).value args s none s [] = some true) : s.fieldOf? x O n d = some (.int k) := by
  have e := fld_at (C := O) (n := n) (dd := d) ht
  obtain ⟨a, b, h1, h2, -, hk⟩ := cmp_v (Or.inl h)
  have hb : b = .int k := Option.some.inj (h2.symm.trans (Term.int_eval k))
  subst hb
  obtain ⟨z, rfl⟩ : ∃ z, a = .int z := hk
  have q : (Jvm.Cond.eq (Term.field t O n d) (Term.int k)).value args s none s [] = some (decide (z = k)) := by simp [Jvm.Cond.value, h1, h2]
  rw [← e, h1, gotT q h]

theorem own_eq_ref {args : Array Value} {s : State} {t u : Term} {y : Addr} (hu : u.eval args s none [] s = some (.ref y)) (h : (Jvm.Cond.eq t u).value args s none s [] = some true) : t.eval args s none [] s = some (.ref y) := by
  obtain ⟨a, b, h1, h2, -, hk⟩ := cmp_v (Or.inl h)
  have hb : b = .ref y := Option.some.inj (h2.symm.trans hu)
  subst hb
  have ha : a.isRef = true := hk.2
  have q := eq_R h1 hu ha rfl
  rw [h1, gotT q h]
theorem own_len {args : Array Value} {s : State} {t : Term} {x : Addr} {k : Int32} {cl : Cell} {ty : FieldType} (ht : t.eval args s none [] s = some (.ref x)) (A : Arr s s.heap x cl ty) (h : (Jvm.Cond.eq (Term.length t) (Term.int k)).value args s none s [] = some true) : cl.slots.size < 2 ^ 31 ∧ cl.slots.size.toInt32 = k := by
  have ha := A.fin (Vm.Alike.refl _)
  by_cases hl : cl.slots.size < 2 ^ 31
  · exact ⟨hl, gotT (Cond.eq_ints (len_f ht ha hl) (Term.int_eval k)) h⟩
  · obtain ⟨a, b, h1, h2, -, hk⟩ := cmp_v (Or.inl h)
    simp [Term.eval, ht, ha, hl] at h1
theorem own_elem {args : Array Value} {s : State} {t u : Term} {x y : Addr} {i : Int32} {cl : Cell} {ty : FieldType} (ht : t.eval args s none [] s = some (.ref x)) (A : Arr s s.heap x cl ty) (hu : u.eval args s none [] s = some (.ref y)) (h : (Jvm.Cond.eq (Term.elem t (Term.int i)) u).value args s none s [] = some true) : cl.slots[i.toNatClampNeg]? = some (.ref y) :=
  (elem_in (own_eq_ref hu h) ht (Term.int_eval i) A.1).2
section CloneR
variable {p : Program} {l : Launch} {e : Env} {R : Room} {s : State} {m : MethodId} {args : Array Value} {below : List Frame} {meth : Method} {c : Code} {T : State} {locs : List Loc} {cells slots : Nat} {Z : State} {a0 : Array Value} {h : Heap}
theorem own_cloneR (X : Stand p l e R s m args below meth c T locs cells slots) (hx : p.tables.exec = Jvm.exec) (hZ : Z.Warmed39 s.vm) {own ad : String} {index : Nat} (hown : s.vm.findClass own = some m.cls)
    (w1 : (Jvm.Cond.methodLink own index ⟨ad, "clone", "()Ljava/lang/Object;"⟩).before a0 Z = true) (w2 : (Jvm.Cond.sameMethod ad "java/lang/Object" "clone" "()Ljava/lang/Object;").before a0 Z = true) (w3 : (Jvm.Cond.native ⟨"java/lang/Object", "clone", "()Ljava/lang/Object;"⟩).before a0 Z = true)
    (w4 : (Jvm.Cond.instanceMethod ⟨"java/lang/Object", "clone", "()Ljava/lang/Object;"⟩).before a0 Z = true) (w5 : (Jvm.Cond.selects ad ⟨ad, "clone", "()Ljava/lang/Object;"⟩ ⟨"java/lang/Object", "clone", "()Ljava/lang/Object;"⟩).before a0 Z = true) (w6 : (Jvm.Cond.castable ad "java/lang/Cloneable").before a0 Z = true)
    (eT : T.heap = h) {a : Addr} {k : ClassId} {ty : FieldType} {z : Int32} {vs : List Value} {dv : Value} (V : Arv Z h a k ty z vs dv) (E : Exa Z h a ad) (FC : ∀ cl : Cell, h[a]? = some cl → FitC Z cl) {g : JFrame} (hg : g.method = m) (hsize : g.locals.size = c.maxLocals) {rest : List Value} (hs : g.stack = .ref a :: rest) (hd : decode c.code g.pc = .ok (.invokevirtual index, 3))
    (hf : 1 ≤ R.frames) {W cap : Nat} (hW : 2 * g.monitorRoom + (rest.map fun v => v.category).sum ≤ W) (hl : W + 14 ≤ R.locals) (hcap : z.toNatClampNeg ≤ cap) (hc : cells + 1 ≤ R.cells) (hsl : slots + cap ≤ R.slots) :
    ∃ T' h' k', Stand p l e R s m args below meth c T' locs (cells + 1) (slots + cap) ∧ T'.heap = h' ∧ Ext h h' ∧ Arv Z h' h.size k' ty z vs dv ∧ Exa Z h' h.size ad ∧
      ∀ target, Steps p.tables e below (T'.setTop { g with pc := g.pc + 3, stack := .ref h.size :: rest }) target → Steps p.tables e below (T.setTop g) target := by
  obtain ⟨cl, A, hk, S, hz, H, G⟩ := V
  obtain ⟨T', h', X', e', E', A', B', st⟩ := cloneA X hx hZ hown w1 w2 w3 w4 w5 w6 eT A E (FC cl A.1) hg hsize hs hd hf hW hl (cap := cap) (by rw [S]; exact hcap) hc hsl
  exact ⟨T', h', cl.cls, X', e', E', ⟨_, A', rfl, S, hz, H, G⟩, B', st⟩
end CloneR

theorem own_modn (x y : Int32) (d : Nat) (hy : y.toInt = d) (hd : 0 < d) : ∃ n : Nat, n < d ∧ (x &&& 2147483647) % y = Int32.ofNat n := by
  have h := c_mask x 2147483647 31 (by decide) (by decide)
  have h0 : 0 ≤ (x &&& 2147483647).toInt := by rw [h]; omega
  have hr := (c_irem (x &&& 2147483647) y d hy).1 h0
  have hr32 := rng32 y
  have hb0 := Int.emod_nonneg (x &&& 2147483647).toInt (show (d : Int) ≠ 0 by omega)
  have hb1 := Int.emod_lt_of_pos (x &&& 2147483647).toInt (show (0 : Int) < d by omega)
  refine ⟨((x &&& 2147483647).toInt % (d : Int)).toNat, by omega, ?_⟩
  apply Int32.toInt_inj.mp
  rw [hr, Int32.toInt_ofNat_of_lt (by omega)]
  omega

theorem own_inb {n k : Nat} {z : Int32} (hn : n < k) (hk : k < 2 ^ 31) (hz : z.toInt = k) : ¬ Int32.ofNat n < 0 ∧ Int32.ofNat n < z := by
  have h0 : (0 : Int32).toInt = 0 := rfl
  simp only [Int32.lt_iff_toInt_lt, toInt_of (n := Int32.ofNat n) rfl (Nat.lt_trans hn hk), h0, hz]
  omega
theorem own_lt5 {n : Nat} (hn : n < 29) (h : n < 5) : Int32.ofNat n < (5 : Int32) := by
  have q5 : (5 : Int32).toInt = 5 := rfl
  rw [Int32.lt_iff_toInt_lt, toInt_of (n := Int32.ofNat n) rfl (Nat.lt_trans hn (by decide)), q5]
  omega
theorem own_nlt5 {n : Nat} (hn : n < 29) (h : ¬ n < 5) : ¬ Int32.ofNat n < (5 : Int32) := by
  have q5 : (5 : Int32).toInt = 5 := rfl
  rw [Int32.lt_iff_toInt_lt, toInt_of (n := Int32.ofNat n) rfl (Nat.lt_trans hn (by decide)), q5]
  omega

theorem own_d1_0 : decode prog_19_method_8_code 0 = .ok (.aload_n 0, 1) := by decide +kernel
theorem own_d1_1 : decode prog_19_method_8_code 1 = .ok (.getfield 110, 3) := by decide +kernel
theorem own_d1_4 : decode prog_19_method_8_code 4 = .ok (.ifnonnull 9, 3) := by decide +kernel
theorem own_d1_7 : decode prog_19_method_8_code 7 = .ok (.getstatic 153, 3) := by decide +kernel
theorem own_d1_10 : decode prog_19_method_8_code 10 = .ok (.goto 6, 3) := by decide +kernel
theorem own_d1_13 : decode prog_19_method_8_code 13 = .ok (.getstatic 157, 3) := by decide +kernel
theorem own_d1_16 : decode prog_19_method_8_code 16 = .ok (.areturn, 1) := by decide +kernel
theorem own_d2_0 : decode method_3_code 0 = .ok (.aload_n 0, 1) := by decide +kernel
theorem own_d2_1 : decode method_3_code 1 = .ok (.ifnull 14, 3) := by decide +kernel
theorem own_d2_4 : decode method_3_code 4 = .ok (.aload_n 0, 1) := by decide +kernel
theorem own_d2_5 : decode method_3_code 5 = .ok (.invokeinterface 13 1, 5) := by decide +kernel
theorem own_d2_10 : decode method_3_code 10 = .ok (.aload_n 1, 1) := by decide +kernel
theorem own_d2_11 : decode method_3_code 11 = .ok (.arraylength, 1) := by decide +kernel
theorem own_d2_12 : decode method_3_code 12 = .ok (.if_icmp .eq 5, 3) := by decide +kernel
theorem own_d2_17 : decode method_3_code 17 = .ok (.aload_n 0, 1) := by decide +kernel
theorem own_d2_18 : decode method_3_code 18 = .ok (.aload_n 1, 1) := by decide +kernel
theorem own_d2_19 : decode method_3_code 19 = .ok (.iconst 0, 1) := by decide +kernel
theorem own_d2_20 : decode method_3_code 20 = .ok (.invokestatic 17, 3) := by decide +kernel
theorem own_d2_23 : decode method_3_code 23 = .ok (.ifCond .eq 62, 3) := by decide +kernel
theorem own_d2_26 : decode method_3_code 26 = .ok (.aload_n 0, 1) := by decide +kernel
theorem own_d2_27 : decode method_3_code 27 = .ok (.aload_n 1, 1) := by decide +kernel
theorem own_d2_28 : decode method_3_code 28 = .ok (.iconst 1, 1) := by decide +kernel
theorem own_d2_29 : decode method_3_code 29 = .ok (.invokestatic 17, 3) := by decide +kernel
theorem own_d2_32 : decode method_3_code 32 = .ok (.ifCond .eq 53, 3) := by decide +kernel
theorem own_d2_35 : decode method_3_code 35 = .ok (.aload_n 0, 1) := by decide +kernel
theorem own_d2_36 : decode method_3_code 36 = .ok (.aload_n 1, 1) := by decide +kernel
theorem own_d2_37 : decode method_3_code 37 = .ok (.iconst 2, 1) := by decide +kernel
theorem own_d2_38 : decode method_3_code 38 = .ok (.invokestatic 17, 3) := by decide +kernel
theorem own_d2_41 : decode method_3_code 41 = .ok (.ifCond .eq 44, 3) := by decide +kernel
theorem own_d2_44 : decode method_3_code 44 = .ok (.aload_n 0, 1) := by decide +kernel
theorem own_d2_45 : decode method_3_code 45 = .ok (.aload_n 1, 1) := by decide +kernel
theorem own_d2_46 : decode method_3_code 46 = .ok (.iconst 3, 1) := by decide +kernel
theorem own_d2_47 : decode method_3_code 47 = .ok (.invokestatic 17, 3) := by decide +kernel
theorem own_d2_50 : decode method_3_code 50 = .ok (.ifCond .eq 35, 3) := by decide +kernel
theorem own_d2_53 : decode method_3_code 53 = .ok (.aload_n 0, 1) := by decide +kernel
theorem own_d2_54 : decode method_3_code 54 = .ok (.aload_n 1, 1) := by decide +kernel
theorem own_d2_55 : decode method_3_code 55 = .ok (.iconst 4, 1) := by decide +kernel
theorem own_d2_56 : decode method_3_code 56 = .ok (.invokestatic 17, 3) := by decide +kernel
theorem own_d2_59 : decode method_3_code 59 = .ok (.ifCond .eq 26, 3) := by decide +kernel
theorem own_d2_62 : decode method_3_code 62 = .ok (.aload_n 0, 1) := by decide +kernel
theorem own_d2_63 : decode method_3_code 63 = .ok (.aload_n 1, 1) := by decide +kernel
theorem own_d2_64 : decode method_3_code 64 = .ok (.iconst 5, 1) := by decide +kernel
theorem own_d2_65 : decode method_3_code 65 = .ok (.invokestatic 17, 3) := by decide +kernel
theorem own_d2_68 : decode method_3_code 68 = .ok (.ifCond .eq 17, 3) := by decide +kernel
theorem own_d2_71 : decode method_3_code 71 = .ok (.aload_n 0, 1) := by decide +kernel
theorem own_d2_72 : decode method_3_code 72 = .ok (.aload_n 1, 1) := by decide +kernel
theorem own_d2_73 : decode method_3_code 73 = .ok (.bipush 6, 2) := by decide +kernel
theorem own_d2_75 : decode method_3_code 75 = .ok (.invokestatic 17, 3) := by decide +kernel
theorem own_d2_78 : decode method_3_code 78 = .ok (.ifCond .eq 7, 3) := by decide +kernel
theorem own_d2_81 : decode method_3_code 81 = .ok (.iconst 1, 1) := by decide +kernel
theorem own_d2_82 : decode method_3_code 82 = .ok (.goto 4, 3) := by decide +kernel
theorem own_d2_86 : decode method_3_code 86 = .ok (.ireturn, 1) := by decide +kernel
theorem own_d3_0 : decode jdk_45_method_3_code 0 = .ok (.aload_n 0, 1) := by decide +kernel
theorem own_d3_1 : decode jdk_45_method_3_code 1 = .ok (.getfield 7, 3) := by decide +kernel
theorem own_d3_4 : decode jdk_45_method_3_code 4 = .ok (.arraylength, 1) := by decide +kernel
theorem own_d3_5 : decode jdk_45_method_3_code 5 = .ok (.ireturn, 1) := by decide +kernel
theorem own_d4_0 : decode method_2_code 0 = .ok (.iload_n 2, 1) := by decide +kernel
theorem own_d4_1 : decode method_2_code 1 = .ok (.aload_n 1, 1) := by decide +kernel
theorem own_d4_2 : decode method_2_code 2 = .ok (.arraylength, 1) := by decide +kernel
theorem own_d4_3 : decode method_2_code 3 = .ok (.if_icmp .lt 5, 3) := by decide +kernel
theorem own_d4_6 : decode method_2_code 6 = .ok (.iconst 1, 1) := by decide +kernel
theorem own_d4_7 : decode method_2_code 7 = .ok (.ireturn, 1) := by decide +kernel
theorem own_d4_8 : decode method_2_code 8 = .ok (.aload_n 0, 1) := by decide +kernel
theorem own_d4_9 : decode method_2_code 9 = .ok (.iload_n 2, 1) := by decide +kernel
theorem own_d4_10 : decode method_2_code 10 = .ok (.invokeinterface 7 2, 5) := by decide +kernel
theorem own_d4_15 : decode method_2_code 15 = .ok (.aload_n 1, 1) := by decide +kernel
theorem own_d4_16 : decode method_2_code 16 = .ok (.iload_n 2, 1) := by decide +kernel
theorem own_d4_17 : decode method_2_code 17 = .ok (.aaload, 1) := by decide +kernel
theorem own_d4_18 : decode method_2_code 18 = .ok (.if_acmp .ne 7, 3) := by decide +kernel
theorem own_d4_21 : decode method_2_code 21 = .ok (.iconst 1, 1) := by decide +kernel
theorem own_d4_22 : decode method_2_code 22 = .ok (.goto 4, 3) := by decide +kernel
theorem own_d4_26 : decode method_2_code 26 = .ok (.ireturn, 1) := by decide +kernel
theorem own_d5_0 : decode jdk_45_method_4_code 0 = .ok (.aload_n 0, 1) := by decide +kernel
theorem own_d5_1 : decode jdk_45_method_4_code 1 = .ok (.getfield 7, 3) := by decide +kernel
theorem own_d5_4 : decode jdk_45_method_4_code 4 = .ok (.iload_n 1, 1) := by decide +kernel
theorem own_d5_5 : decode jdk_45_method_4_code 5 = .ok (.aaload, 1) := by decide +kernel
theorem own_d5_6 : decode jdk_45_method_4_code 6 = .ok (.areturn, 1) := by decide +kernel
theorem own_pn_0 : plainName "java/util/ImmutableCollections$ListN" = true := by first | (simp [plainName, overriddenIn]; done) | decide +kernel
theorem own_ef_0 (m : MethodId) (x0 : Addr) : entryFrame m #[(.ref x0)] 1 = mkF m 0 #[.val (.ref x0)] [] := by first | (simp [entryFrame, mkF, argsToLocals, Value.category]; done) | rfl
theorem own_ef_1 (m : MethodId) (x0 : Addr) (x1 : Int32) : entryFrame m #[(.ref x0), (.int x1)] 2 = mkF m 0 #[.val (.ref x0), .val (.int x1)] [] := by first | (simp [entryFrame, mkF, argsToLocals, Value.category]; done) | rfl
theorem own_pn_1 : plainName "com/example/redwing/redwing/core/NoticeStateDefaultPathPinLaw" = true := by first | (simp [plainName, overriddenIn]; done) | decide +kernel
theorem own_ef_2 (m : MethodId) (x0 : Addr) (x1 : Addr) (x2 : Int32) : entryFrame m #[(.ref x0), (.ref x1), (.int x2)] 3 = mkF m 0 #[.val (.ref x0), .val (.ref x1), .val (.int x2)] [] := by first | (simp [entryFrame, mkF, argsToLocals, Value.category]; done) | rfl
theorem own_pd_0 : parseMethodDescriptor "(I)Ljava/lang/Object;" = some ⟨[.int], some (.object "java/lang/Object")⟩ := by decide +kernel
theorem own_ef_3 (m : MethodId) (x0 : Addr) (x1 : Addr) : entryFrame m #[(.ref x0), (.ref x1)] 2 = mkF m 0 #[.val (.ref x0), .val (.ref x1)] [] := by first | (simp [entryFrame, mkF, argsToLocals, Value.category]; done) | rfl
theorem own_pd_1 : parseMethodDescriptor "()I" = some ⟨[], some .int⟩ := by decide +kernel
theorem own_pd_2 : parseMethodDescriptor "(Ljava/util/List;[Lcom/example/redwing/redwing/core/NoticeState;I)Z" = some ⟨[(.object "java/util/List"), (.array (.object "com/example/redwing/redwing/core/NoticeState")), .int], some .boolean⟩ := by decide +kernel
theorem own_pn_2 : plainName "com/example/redwing/redwing/core/NoticeState" = true := by first | (simp [plainName, overriddenIn]; done) | decide +kernel
theorem own_ef_4 (m : MethodId) (x0 : Int32) : entryFrame m #[(.int x0)] maxLocals = mkF m 0 #[.val (.int x0), .unset, .unset, .unset, .unset, .unset, .unset] [] := by first | (simp [entryFrame, mkF, argsToLocals, Value.category, maxLocals]; done) | rfl
theorem own_pd_3 : parseMethodDescriptor "()Ljava/util/List;" = some ⟨[], some (.object "java/util/List")⟩ := by decide +kernel
theorem own_pd_4 : parseMethodDescriptor "(Ljava/util/List;[Lcom/example/redwing/redwing/core/NoticeState;)Z" = some ⟨[(.object "java/util/List"), (.array (.object "com/example/redwing/redwing/core/NoticeState"))], some .boolean⟩ := by decide +kernel
def Q_rmS (Z : State) (r0 : Addr) (el : Addr) (kl : ClassId) (zz : Int32) (vs : List Value) (h0 : Heap) (n0 : Nat) (v : Option Value) (h : Heap) (L : List Loc) : Prop := v = some (.int zz) ∧ Fr n0 L ∧ h = h0
set_option maxRecDepth 65536 in
set_option maxHeartbeats 40000000 in
theorem rmS (l : Launch) (Z : State) (a0 : Array Value) (hw : ∀ d ∈ tables_1, d.before a0 Z = true) (ws : List Jvm.Cond) (r0 : Addr) (el : Addr) (kl : ClassId) (zz : Int32) (vs : List Value) (h0 : Heap) (n0 : Nat) (Z0 : n0 ≤ h0.size) (F1 : Fld Z h0 r0 "java/util/ImmutableCollections$ListN" "elements" "[Ljava/lang/Object;" (.ref el)) (V1 : Arv Z h0 el kl (.object "java/lang/Object") zz vs .null) :
    MetFree l (⟨"java/util/ImmutableCollections$ListN", "size", "()I"⟩ : MethodName) (head1 (Jvm.Cond.code (⟨"java/util/ImmutableCollections$ListN", "size", "()I"⟩ : MethodName) jdk_45_method_3_code 1 (some .int) :: ws) ({ frames := 0, cells := 0, slots := 0, locals := 0 } : Room)) (fun a U => a = #[(.ref r0)] ∧ Z.Warmed39 U.vm ∧ U.heap = h0) (fun _ _ _ _ _ => True) (fun _ U o U' => ∃ v L, o = .returned v ∧ Q_rmS Z r0 el kl zz vs h0 n0 v U'.heap L ∧ FrameEnd U o U' L ({ frames := 0, cells := 0, slots := 0, locals := 0 } : Room).cells ({ frames := 0, cells := 0, slots := 0, locals := 0 } : Room).slots) := by
  refine MetFree.of_bodySF (plainFor_of_name own_pn_0) hisR ?_
  intro p e s m args below meth c s₁ Bd hml0 hP hK
  obtain ⟨rfl, hZ, hh⟩ := hP
  have hx := Bd.exec
  have hby := Bd.bytes
  have hml : c.maxLocals = 1 := hml0
  have hown : s.vm.findClass "java/util/ImmutableCollections$ListN" = some m.cls := findClass_of_methodNamed Bd.named
  have hnm := (name_of_methodNamed Bd.named Bd.method).1
  have X0 : Stand p l e ({ frames := 0, cells := 0, slots := 0, locals := 0 } : Room) s m #[(.ref r0)] below meth c s₁ [] 0 0 := Stand.of_body Bd
  have e0 : s₁.heap = h0 := by rw [← hh, Bd.state]; rfl
  have N0 := Fr.nil n0
  have K0 : Keep h0 h0 [] := Keep.refl h0 _
  have pre0 : ∀ t, Steps p.tables e below (s₁.setTop (mkF m 0 #[.val (.ref r0)] [])) t → Steps p.tables e below (s₁.setTop (entryFrame m #[(.ref r0)] 1)) t := fun t k => castTop (own_ef_0 m r0) k
  obtain ⟨T1, X1, e1, st1⟩ := getF X0 hx hZ hown (host := "") (Or.inl (hw _ (List.mem_of_getElem? (i := 86) rfl))) Via.refl e0 F1 (g := (mkF m 1 #[.val (.ref r0)] [(.ref r0)])) rfl rfl (hb hby own_d3_1)
  obtain ⟨cl2, Ar2, q2, S2, Ng2, H2, G2⟩ := id V1
  have k3 : ∀ t, Steps p.tables e below (T1.setTop (mkF m 5 #[.val (.ref r0)] [(.int zz)])) t → Steps p.tables e below (s₁.setTop (mkF m 0 #[.val (.ref r0)] [])) t := by
    intro t h
    show Steps p.tables e below (s₁.setTop (mkF m 0 #[.val (.ref r0)] [])) _
    refine XS.aloadN X0.here hx rfl (hb hby own_d3_0) rfl rfl ?_
    show Steps p.tables e below (s₁.setTop (mkF m 1 #[.val (.ref r0)] [(.ref r0)])) _
    refine st1 _ ?_
    show Steps p.tables e below (T1.setTop (mkF m 4 #[.val (.ref r0)] [(.ref el)])) _
    refine X1.arraylength hx (by rw [e1]; exact Ar2.1) (State.isArrayOf_alike hZ.alike Ar2.2.1) (g := (mkF m 4 #[.val (.ref r0)] [(.ref el)])) rfl rfl (hb hby own_d3_4) _ ?_
    rw [len_of S2 Ng2]
    exact h
  obtain ⟨fs, hr, hrun, hended, hW, hsame⟩ := X1.leave (v := some (.int zz)) (fun h => by rw [Bd.returns] at h; cases h) Bd.notSynchronized
  refine ⟨_, _, pre0 _ (k3 _ ?_), hrun, hended, _, _, rfl, ?_, ⟨_, rfl⟩, hW, hsame.mono (by decide) (by decide)⟩
  · exact retI X1 hx Bd.returns (hb hby own_d3_5) hr
  · show Q_rmS Z _ _ _ _ _ h0 n0 _ T1.heap _
    rw [e1]
    exact ⟨congrArg (fun z : Int32 => some (Value.int z)) (rfl), N0, rfl⟩
def Q_rmG (Z : State) (r0 : Addr) (p1 : Int32) (el : Addr) (kl : ClassId) (zz : Int32) (vs : List Value) (x : Addr) (h0 : Heap) (n0 : Nat) (v : Option Value) (h : Heap) (L : List Loc) : Prop := v = some (.ref x) ∧ Fr n0 L ∧ h = h0
set_option maxRecDepth 65536 in
set_option maxHeartbeats 40000000 in
theorem rmG (l : Launch) (Z : State) (a0 : Array Value) (hw : ∀ d ∈ tables_1, d.before a0 Z = true) (ws : List Jvm.Cond) (r0 : Addr) (p1 : Int32) (el : Addr) (kl : ClassId) (zz : Int32) (vs : List Value) (x : Addr) (h0 : Heap) (n0 : Nat) (Z0 : n0 ≤ h0.size) (F1 : Fld Z h0 r0 "java/util/ImmutableCollections$ListN" "elements" "[Ljava/lang/Object;" (.ref el)) (V1 : Arv Z h0 el kl (.object "java/lang/Object") zz vs .null) (hi : ¬ p1 < 0 ∧ p1 < zz) (hv : vs.getD p1.toNatClampNeg .null = .ref x) :
    MetFree l (⟨"java/util/ImmutableCollections$ListN", "get", "(I)Ljava/lang/Object;"⟩ : MethodName) (head1 (Jvm.Cond.code (⟨"java/util/ImmutableCollections$ListN", "get", "(I)Ljava/lang/Object;"⟩ : MethodName) jdk_45_method_4_code 2 (some (.object "java/lang/Object")) :: ws) ({ frames := 0, cells := 0, slots := 0, locals := 0 } : Room)) (fun a U => a = #[(.ref r0), (.int p1)] ∧ Z.Warmed39 U.vm ∧ U.heap = h0) (fun _ _ _ _ _ => True) (fun _ U o U' => ∃ v L, o = .returned v ∧ Q_rmG Z r0 p1 el kl zz vs x h0 n0 v U'.heap L ∧ FrameEnd U o U' L ({ frames := 0, cells := 0, slots := 0, locals := 0 } : Room).cells ({ frames := 0, cells := 0, slots := 0, locals := 0 } : Room).slots) := by
  refine MetFree.of_bodySF (plainFor_of_name own_pn_0) hisR ?_
  intro p e s m args below meth c s₁ Bd hml0 hP hK
  obtain ⟨rfl, hZ, hh⟩ := hP
  have hx := Bd.exec
  have hby := Bd.bytes
  have hml : c.maxLocals = 2 := hml0
  have hown : s.vm.findClass "java/util/ImmutableCollections$ListN" = some m.cls := findClass_of_methodNamed Bd.named
  have hnm := (name_of_methodNamed Bd.named Bd.method).1
  have X0 : Stand p l e ({ frames := 0, cells := 0, slots := 0, locals := 0 } : Room) s m #[(.ref r0), (.int p1)] below meth c s₁ [] 0 0 := Stand.of_body Bd
  have e0 : s₁.heap = h0 := by rw [← hh, Bd.state]; rfl
  have N0 := Fr.nil n0
  have K0 : Keep h0 h0 [] := Keep.refl h0 _
  have pre0 : ∀ t, Steps p.tables e below (s₁.setTop (mkF m 0 #[.val (.ref r0), .val (.int p1)] [])) t → Steps p.tables e below (s₁.setTop (entryFrame m #[(.ref r0), (.int p1)] 2)) t := fun t k => castTop (own_ef_1 m r0 p1) k
  obtain ⟨T4, X4, e4, st4⟩ := getF X0 hx hZ hown (host := "") (Or.inl (hw _ (List.mem_of_getElem? (i := 86) rfl))) Via.refl e0 F1 (g := (mkF m 1 #[.val (.ref r0), .val (.int p1)] [(.ref r0)])) rfl rfl (hb hby own_d5_1)
  obtain ⟨cl5, Ar5, q5, S5, Ng5, H5, G5⟩ := id V1
  have hin5 : ¬ (p1 < 0 ∨ cl5.slots.size ≤ (p1).toNatClampNeg) := inb_of S5 hi
  have k6 : ∀ t, Steps p.tables e below (T4.setTop (mkF m 6 #[.val (.ref r0), .val (.int p1)] [(.ref x)])) t → Steps p.tables e below (s₁.setTop (mkF m 0 #[.val (.ref r0), .val (.int p1)] [])) t := by
    intro t h
    show Steps p.tables e below (s₁.setTop (mkF m 0 #[.val (.ref r0), .val (.int p1)] [])) _
    refine XS.aloadN X0.here hx rfl (hb hby own_d5_0) rfl rfl ?_
    show Steps p.tables e below (s₁.setTop (mkF m 1 #[.val (.ref r0), .val (.int p1)] [(.ref r0)])) _
    refine st4 _ ?_
    show Steps p.tables e below (T4.setTop (mkF m 4 #[.val (.ref r0), .val (.int p1)] [(.ref el)])) _
    refine XS.iloadN X4.here hx rfl (hb hby own_d5_4) rfl ?_
    show Steps p.tables e below (T4.setTop (mkF m 5 #[.val (.ref r0), .val (.int p1)] [(.int p1), (.ref el)])) _
    refine X4.aaload hx (j := p1) (v := (.ref x)) (by rw [e4]; exact Ar5.1) (State.isArrayOf_alike hZ.alike Ar5.2.1) rfl Ar5.2.2 hin5 (H5.at hin5 hv) (g := (mkF m 5 #[.val (.ref r0), .val (.int p1)] [(.int p1), (.ref el)])) rfl rfl (hb hby own_d5_5) _ ?_
    exact h
  obtain ⟨fs, hr, hrun, hended, hW, hsame⟩ := X4.leave (v := some (.ref x)) (fun h => by rw [Bd.returns] at h; cases h) Bd.notSynchronized
  refine ⟨_, _, pre0 _ (k6 _ ?_), hrun, hended, _, _, rfl, ?_, ⟨_, rfl⟩, hW, hsame.mono (by decide) (by decide)⟩
  · jvm_step X4.here [X4.here.top, hx, (hb hby own_d5_6), X4.method', Bd.returns, Value.isRef, FieldType.isReference]
    first | (intro acts; rw [hr _ acts rfl rfl rfl]) | rw [hr _ _ rfl rfl rfl]
    exact Steps.refl _
  · show Q_rmG Z _ _ _ _ _ _ _ h0 n0 _ T4.heap _
    rw [e4]
    exact ⟨rfl, N0, rfl⟩
def Q_rmA0 (Z : State) (r0 : Addr) (r1 : Addr) (p2 : Int32) (el : Addr) (kl : ClassId) (zz : Int32) (vs : List Value) (ka : ClassId) (ws' : List Value) (h0 : Heap) (n0 : Nat) (v : Option Value) (h : Heap) (L : List Loc) : Prop := v = some (.int 1) ∧ Fr n0 L ∧ h = h0
set_option maxRecDepth 65536 in
set_option maxHeartbeats 40000000 in
theorem rmA0 (l : Launch) (Z : State) (a0 : Array Value) (hw : ∀ d ∈ tables_1, d.before a0 Z = true) (ws : List Jvm.Cond) (r0 : Addr) (r1 : Addr) (p2 : Int32) (el : Addr) (kl : ClassId) (zz : Int32) (vs : List Value) (ka : ClassId) (ws' : List Value) (h0 : Heap) (n0 : Nat) (Z0 : n0 ≤ h0.size) (F1 : Fld Z h0 r0 "java/util/ImmutableCollections$ListN" "elements" "[Ljava/lang/Object;" (.ref el)) (V1 : Arv Z h0 el kl (.object "java/lang/Object") zz vs .null) (E1 : Exa Z h0 r0 "java/util/ImmutableCollections$ListN") (V2 : Arv Z h0 r1 ka (.object "com/example/redwing/redwing/core/NoticeState") zz ws' .null) (hi : ¬ p2 < zz) :
    MetFree l (⟨"com/example/redwing/redwing/core/NoticeStateDefaultPathPinLaw", "at", "(Ljava/util/List;[Lcom/example/redwing/redwing/core/NoticeState;I)Z"⟩ : MethodName) (head1 (Jvm.Cond.code (⟨"com/example/redwing/redwing/core/NoticeStateDefaultPathPinLaw", "at", "(Ljava/util/List;[Lcom/example/redwing/redwing/core/NoticeState;I)Z"⟩ : MethodName) method_2_code 3 (some .boolean) :: ws) ({ frames := 0, cells := 0, slots := 0, locals := 0 } : Room)) (fun a U => a = #[(.ref r0), (.ref r1), (.int p2)] ∧ Z.Warmed39 U.vm ∧ U.heap = h0) (fun _ _ _ _ _ => True) (fun _ U o U' => ∃ v L, o = .returned v ∧ Q_rmA0 Z r0 r1 p2 el kl zz vs ka ws' h0 n0 v U'.heap L ∧ FrameEnd U o U' L ({ frames := 0, cells := 0, slots := 0, locals := 0 } : Room).cells ({ frames := 0, cells := 0, slots := 0, locals := 0 } : Room).slots) := by
  refine MetFree.of_bodySF (plainFor_of_name own_pn_1) hisR ?_
  intro p e s m args below meth c s₁ Bd hml0 hP hK
  obtain ⟨rfl, hZ, hh⟩ := hP
  have hx := Bd.exec
  have hby := Bd.bytes
  have hml : c.maxLocals = 3 := hml0
  have hown : s.vm.findClass "com/example/redwing/redwing/core/NoticeStateDefaultPathPinLaw" = some m.cls := findClass_of_methodNamed Bd.named
  have hnm := (name_of_methodNamed Bd.named Bd.method).1
  have X0 : Stand p l e ({ frames := 0, cells := 0, slots := 0, locals := 0 } : Room) s m #[(.ref r0), (.ref r1), (.int p2)] below meth c s₁ [] 0 0 := Stand.of_body Bd
  have e0 : s₁.heap = h0 := by rw [← hh, Bd.state]; rfl
  have N0 := Fr.nil n0
  have K0 : Keep h0 h0 [] := Keep.refl h0 _
  have pre0 : ∀ t, Steps p.tables e below (s₁.setTop (mkF m 0 #[.val (.ref r0), .val (.ref r1), .val (.int p2)] [])) t → Steps p.tables e below (s₁.setTop (entryFrame m #[(.ref r0), (.ref r1), (.int p2)] 3)) t := fun t k => castTop (own_ef_2 m r0 r1 p2) k
  obtain ⟨cl7, Ar7, q7, S7, Ng7, H7, G7⟩ := id V2
  have k8 : ∀ t, Steps p.tables e below (s₁.setTop (mkF m 3 #[.val (.ref r0), .val (.ref r1), .val (.int p2)] [(.int zz), (.int p2)])) t → Steps p.tables e below (s₁.setTop (mkF m 0 #[.val (.ref r0), .val (.ref r1), .val (.int p2)] [])) t := by
    intro t h
    show Steps p.tables e below (s₁.setTop (mkF m 0 #[.val (.ref r0), .val (.ref r1), .val (.int p2)] [])) _
    refine XS.iloadN X0.here hx rfl (hb hby own_d4_0) rfl ?_
    show Steps p.tables e below (s₁.setTop (mkF m 1 #[.val (.ref r0), .val (.ref r1), .val (.int p2)] [(.int p2)])) _
    refine XS.aloadN X0.here hx rfl (hb hby own_d4_1) rfl rfl ?_
    show Steps p.tables e below (s₁.setTop (mkF m 2 #[.val (.ref r0), .val (.ref r1), .val (.int p2)] [(.ref r1), (.int p2)])) _
    refine X0.arraylength hx (by rw [e0]; exact Ar7.1) (State.isArrayOf_alike hZ.alike Ar7.2.1) (g := (mkF m 2 #[.val (.ref r0), .val (.ref r1), .val (.int p2)] [(.ref r1), (.int p2)])) rfl rfl (hb hby own_d4_2) _ ?_
    rw [len_of S7 Ng7]
    exact h
  have b3_9 : ¬ (p2 < zz) := hi
  have k10 : ∀ t, Steps p.tables e below (s₁.setTop (mkF m 7 #[.val (.ref r0), .val (.ref r1), .val (.int p2)] [(.int (1 : Int32))])) t → Steps p.tables e below (s₁.setTop (mkF m 0 #[.val (.ref r0), .val (.ref r1), .val (.int p2)] [])) t := by
    intro t h
    refine k8 t ?_
    show Steps p.tables e below (s₁.setTop (mkF m 3 #[.val (.ref r0), .val (.ref r1), .val (.int p2)] [(.int zz), (.int p2)])) _
    refine XS.icmpNo X0.here hx rfl (hb hby own_d4_3) rfl (flt b3_9).1 ?_
    show Steps p.tables e below (s₁.setTop (mkF m 6 #[.val (.ref r0), .val (.ref r1), .val (.int p2)] [])) _
    refine XS.iconst X0.here hx rfl (hb hby own_d4_6) ?_
    exact h
  obtain ⟨fs, hr, hrun, hended, hW, hsame⟩ := X0.leave (v := some (.int (1 : Int32))) (fun h => by rw [Bd.returns] at h; cases h) Bd.notSynchronized
  refine ⟨_, _, pre0 _ (k10 _ ?_), hrun, hended, _, _, rfl, ?_, ⟨_, rfl⟩, hW, hsame.mono (by decide) (by decide)⟩
  · exact retN X0 hx (t := .boolean) Bd.returns (by simp) (hb hby own_d4_7) hr
  · show Q_rmA0 Z _ _ _ _ _ _ _ _ _ h0 n0 _ s₁.heap _
    rw [e0]
    exact ⟨congrArg (fun z : Int32 => some (Value.int z)) (rfl), N0, rfl⟩
def Q_rmA1 (Z : State) (r0 : Addr) (r1 : Addr) (p2 : Int32) (el : Addr) (kl : ClassId) (zz : Int32) (vs : List Value) (ka : ClassId) (ws' : List Value) (x : Addr) (h0 : Heap) (n0 : Nat) (v : Option Value) (h : Heap) (L : List Loc) : Prop := v = some (.int 1) ∧ Fr n0 L ∧ h = h0
set_option maxRecDepth 65536 in
set_option maxHeartbeats 40000000 in
theorem rmA1 (l : Launch) (Z : State) (a0 : Array Value) (hw : ∀ d ∈ tables_1, d.before a0 Z = true) (ws : List Jvm.Cond) (r0 : Addr) (r1 : Addr) (p2 : Int32) (el : Addr) (kl : ClassId) (zz : Int32) (vs : List Value) (ka : ClassId) (ws' : List Value) (x : Addr) (h0 : Heap) (n0 : Nat) (Z0 : n0 ≤ h0.size) (F1 : Fld Z h0 r0 "java/util/ImmutableCollections$ListN" "elements" "[Ljava/lang/Object;" (.ref el)) (V1 : Arv Z h0 el kl (.object "java/lang/Object") zz vs .null) (E1 : Exa Z h0 r0 "java/util/ImmutableCollections$ListN") (V2 : Arv Z h0 r1 ka (.object "com/example/redwing/redwing/core/NoticeState") zz ws' .null) (hi : ¬ p2 < 0 ∧ p2 < zz) (hv : vs.getD p2.toNatClampNeg .null = .ref x) (hv2 : ws'.getD p2.toNatClampNeg .null = .ref x) :
    MetFree l (⟨"com/example/redwing/redwing/core/NoticeStateDefaultPathPinLaw", "at", "(Ljava/util/List;[Lcom/example/redwing/redwing/core/NoticeState;I)Z"⟩ : MethodName) (head1 (Jvm.Cond.code (⟨"com/example/redwing/redwing/core/NoticeStateDefaultPathPinLaw", "at", "(Ljava/util/List;[Lcom/example/redwing/redwing/core/NoticeState;I)Z"⟩ : MethodName) method_2_code 3 (some .boolean) :: ws) ({ frames := 1, cells := 0, slots := 0, locals := 13 } : Room)) (fun a U => a = #[(.ref r0), (.ref r1), (.int p2)] ∧ Z.Warmed39 U.vm ∧ U.heap = h0) (fun _ _ _ _ _ => True) (fun _ U o U' => ∃ v L, o = .returned v ∧ Q_rmA1 Z r0 r1 p2 el kl zz vs ka ws' x h0 n0 v U'.heap L ∧ FrameEnd U o U' L ({ frames := 1, cells := 0, slots := 0, locals := 13 } : Room).cells ({ frames := 1, cells := 0, slots := 0, locals := 13 } : Room).slots) := by
  refine MetFree.of_bodySF (plainFor_of_name own_pn_1) hisR ?_
  intro p e s m args below meth c s₁ Bd hml0 hP hK
  obtain ⟨rfl, hZ, hh⟩ := hP
  have hx := Bd.exec
  have hby := Bd.bytes
  have hml : c.maxLocals = 3 := hml0
  have hown : s.vm.findClass "com/example/redwing/redwing/core/NoticeStateDefaultPathPinLaw" = some m.cls := findClass_of_methodNamed Bd.named
  have hnm := (name_of_methodNamed Bd.named Bd.method).1
  have X0 : Stand p l e ({ frames := 1, cells := 0, slots := 0, locals := 13 } : Room) s m #[(.ref r0), (.ref r1), (.int p2)] below meth c s₁ [] 0 0 := Stand.of_body Bd
  have e0 : s₁.heap = h0 := by rw [← hh, Bd.state]; rfl
  have N0 := Fr.nil n0
  have K0 : Keep h0 h0 [] := Keep.refl h0 _
  have pre0 : ∀ t, Steps p.tables e below (s₁.setTop (mkF m 0 #[.val (.ref r0), .val (.ref r1), .val (.int p2)] [])) t → Steps p.tables e below (s₁.setTop (entryFrame m #[(.ref r0), (.ref r1), (.int p2)] 3)) t := fun t k => castTop (own_ef_2 m r0 r1 p2) k
  obtain ⟨cl11, Ar11, q11, S11, Ng11, H11, G11⟩ := id V2
  have k12 : ∀ t, Steps p.tables e below (s₁.setTop (mkF m 3 #[.val (.ref r0), .val (.ref r1), .val (.int p2)] [(.int zz), (.int p2)])) t → Steps p.tables e below (s₁.setTop (mkF m 0 #[.val (.ref r0), .val (.ref r1), .val (.int p2)] [])) t := by
    intro t h
    show Steps p.tables e below (s₁.setTop (mkF m 0 #[.val (.ref r0), .val (.ref r1), .val (.int p2)] [])) _
    refine XS.iloadN X0.here hx rfl (hb hby own_d4_0) rfl ?_
    show Steps p.tables e below (s₁.setTop (mkF m 1 #[.val (.ref r0), .val (.ref r1), .val (.int p2)] [(.int p2)])) _
    refine XS.aloadN X0.here hx rfl (hb hby own_d4_1) rfl rfl ?_
    show Steps p.tables e below (s₁.setTop (mkF m 2 #[.val (.ref r0), .val (.ref r1), .val (.int p2)] [(.ref r1), (.int p2)])) _
    refine X0.arraylength hx (by rw [e0]; exact Ar11.1) (State.isArrayOf_alike hZ.alike Ar11.2.1) (g := (mkF m 2 #[.val (.ref r0), .val (.ref r1), .val (.int p2)] [(.ref r1), (.int p2)])) rfl rfl (hb hby own_d4_2) _ ?_
    rw [len_of S11 Ng11]
    exact h
  have b3_13 : p2 < zz := hi.2
  obtain ⟨cq14, kq14, q14a, q14b, q14c⟩ := isOf hZ e0 E1
  obtain ⟨_, _, ⟨T14, L14, k14, n14⟩, -, X14, ⟨Lc14, hQ14, l14, y14, z14⟩, st14⟩ := X0.interfaceBack hx (xi := (⟨"java/util/List", "get", "(I)Ljava/lang/Object;"⟩ : MethodName)) (y := (⟨"java/util/ImmutableCollections$ListN", "get", "(I)Ljava/lang/Object;"⟩ : MethodName)) hown (mvT hZ (hw _ (List.mem_of_getElem? (i := 91) rfl))) (mvT hZ (hw _ (List.mem_of_getElem? (i := 92) rfl))) (mvT hZ (hw _ (List.mem_of_getElem? (i := 93) rfl))) (mvT hZ (hw _ (List.mem_of_getElem? (i := 94) rfl))) (mvT hZ (hw _ (List.mem_of_getElem? (i := 95) rfl))) (mvT hZ (hw _ (List.mem_of_getElem? (i := 96) rfl))) (mvT hZ (hw _ (List.mem_of_getElem? (i := 97) rfl))) (mvT hZ (hw _ (List.mem_of_getElem? (i := 83) rfl))) (by decide) (backOf (W := 0) (rmG l Z a0 hw [] r0 p2 el kl zz vs x h0 n0 Z0 F1 V1 hi hv) hZ (hw _ (List.mem_of_getElem? (i := 98) rfl)) (hw _ (List.mem_of_getElem? (i := 84) rfl)) (by decide) (by decide)) q14a q14b q14c (g := (mkF m 10 #[.val (.ref r0), .val (.ref r1), .val (.int p2)] [(.int p2), (.ref r0)])) rfl (by rw [hml]; rfl) (Steps.refl _) (argsL := [(.int p2)]) (rest := []) (lenOf own_pd_0 rfl) rfl (by show 2 * 0 + _ ≤ _; exact Nat.le_of_eq rfl) (hb hby own_d4_10) (fun _ _ => ⟨rfl, e0, (by decide : 0 + 0 ≤ _), (by decide : 0 + 0 ≤ _)⟩)
  dsimp only [Pt.U, Pt.locs, Pt.cells, Pt.slots] at X14 l14 y14 z14 st14 hQ14
  subst l14 y14 z14
  obtain ⟨rfl, Nq14, eq14⟩ := hQ14
  have N14 := Fr.app N0 Nq14
  obtain ⟨cl15, Ar15, q15, S15, Ng15, H15, G15⟩ := id V2
  have hin15 : ¬ (p2 < 0 ∨ cl15.slots.size ≤ (p2).toNatClampNeg) := inb_of S15 hi
  have k16 : ∀ t, Steps p.tables e below (T14.setTop (mkF m 18 #[.val (.ref r0), .val (.ref r1), .val (.int p2)] [(.ref x), (.ref x)])) t → Steps p.tables e below (s₁.setTop (mkF m 0 #[.val (.ref r0), .val (.ref r1), .val (.int p2)] [])) t := by
    intro t h
    refine k12 t ?_
    show Steps p.tables e below (s₁.setTop (mkF m 3 #[.val (.ref r0), .val (.ref r1), .val (.int p2)] [(.int zz), (.int p2)])) _
    refine XS.icmpYes X0.here hx rfl (pc0 := 3) (pc' := 8) rfl (hb hby own_d4_3) rfl (tlt b3_13).1 (by decide) (by decide) ?_
    show Steps p.tables e below (s₁.setTop (mkF m 8 #[.val (.ref r0), .val (.ref r1), .val (.int p2)] [])) _
    refine XS.aloadN X0.here hx rfl (hb hby own_d4_8) rfl rfl ?_
    show Steps p.tables e below (s₁.setTop (mkF m 9 #[.val (.ref r0), .val (.ref r1), .val (.int p2)] [(.ref r0)])) _
    refine XS.iloadN X0.here hx rfl (hb hby own_d4_9) rfl ?_
    show Steps p.tables e below (s₁.setTop (mkF m 10 #[.val (.ref r0), .val (.ref r1), .val (.int p2)] [(.int p2), (.ref r0)])) _
    refine st14.trans ?_
    show Steps p.tables e below (T14.setTop (mkF m 15 #[.val (.ref r0), .val (.ref r1), .val (.int p2)] [(.ref x)])) _
    refine XS.aloadN X14.here hx rfl (hb hby own_d4_15) rfl rfl ?_
    show Steps p.tables e below (T14.setTop (mkF m 16 #[.val (.ref r0), .val (.ref r1), .val (.int p2)] [(.ref r1), (.ref x)])) _
    refine XS.iloadN X14.here hx rfl (hb hby own_d4_16) rfl ?_
    show Steps p.tables e below (T14.setTop (mkF m 17 #[.val (.ref r0), .val (.ref r1), .val (.int p2)] [(.int p2), (.ref r1), (.ref x)])) _
    refine X14.aaload hx (j := p2) (v := (.ref x)) (by rw [eq14]; exact Ar15.1) (State.isArrayOf_alike hZ.alike Ar15.2.1) rfl Ar15.2.2 hin15 (H15.at hin15 hv2) (g := (mkF m 17 #[.val (.ref r0), .val (.ref r1), .val (.int p2)] [(.int p2), (.ref r1), (.ref x)])) rfl rfl (hb hby own_d4_17) _ ?_
    exact h
  have k17 : ∀ t, Steps p.tables e below (T14.setTop (mkF m 26 #[.val (.ref r0), .val (.ref r1), .val (.int p2)] [(.int (1 : Int32))])) t → Steps p.tables e below (s₁.setTop (mkF m 0 #[.val (.ref r0), .val (.ref r1), .val (.int p2)] [])) t := by
    intro t h
    refine k16 t ?_
    show Steps p.tables e below (T14.setTop (mkF m 18 #[.val (.ref r0), .val (.ref r1), .val (.int p2)] [(.ref x), (.ref x)])) _
    refine Jvm.RoadKit.acmp (g := (mkF m 18 #[.val (.ref r0), .val (.ref r1), .val (.int p2)] [(.ref x), (.ref x)])) X14 hx rfl rfl rfl (pc0 := 18) (pc' := 21) (same := true) rfl (hb hby own_d4_18) rfl (decide_eq_true rfl) (by decide) (by decide) ?_
    show Steps p.tables e below (T14.setTop (mkF m 21 #[.val (.ref r0), .val (.ref r1), .val (.int p2)] [])) _
    refine XS.iconst X14.here hx rfl (hb hby own_d4_21) ?_
    show Steps p.tables e below (T14.setTop (mkF m 22 #[.val (.ref r0), .val (.ref r1), .val (.int p2)] [(.int (1 : Int32))])) _
    refine XS.goto X14.here hx rfl (pc0 := 22) (pc' := 26) rfl (hb hby own_d4_22) (by decide) (by decide) ?_
    exact h
  obtain ⟨fs, hr, hrun, hended, hW, hsame⟩ := X14.leave (v := some (.int (1 : Int32))) (fun h => by rw [Bd.returns] at h; cases h) Bd.notSynchronized
  refine ⟨_, _, pre0 _ (k17 _ ?_), hrun, hended, _, _, rfl, ?_, ⟨_, rfl⟩, hW, hsame.mono (by decide) (by decide)⟩
  · exact retN X14 hx (t := .boolean) Bd.returns (by simp) (hb hby own_d4_26) hr
  · show Q_rmA1 Z _ _ _ _ _ _ _ _ _ _ h0 n0 _ T14.heap _
    rw [eq14]
    exact ⟨congrArg (fun z : Int32 => some (Value.int z)) (rfl), N14, rfl⟩
def Q_rmE4 (Z : State) (r0 : Addr) (r1 : Addr) (el : Addr) (kl : ClassId) (ka : ClassId) (x0 : Addr) (x1 : Addr) (x2 : Addr) (x3 : Addr) (h0 : Heap) (n0 : Nat) (v : Option Value) (h : Heap) (L : List Loc) : Prop := v = some (.int 1) ∧ Fr n0 L ∧ h = h0
set_option maxRecDepth 65536 in
set_option maxHeartbeats 40000000 in
theorem rmE4 (l : Launch) (Z : State) (a0 : Array Value) (hw : ∀ d ∈ tables_1, d.before a0 Z = true) (ws : List Jvm.Cond) (r0 : Addr) (r1 : Addr) (el : Addr) (kl : ClassId) (ka : ClassId) (x0 : Addr) (x1 : Addr) (x2 : Addr) (x3 : Addr) (h0 : Heap) (n0 : Nat) (Z0 : n0 ≤ h0.size) (F1 : Fld Z h0 r0 "java/util/ImmutableCollections$ListN" "elements" "[Ljava/lang/Object;" (.ref el)) (V1 : Arv Z h0 el kl (.object "java/lang/Object") (4 : Int32) [(.ref x0), (.ref x1), (.ref x2), (.ref x3)] .null) (E1 : Exa Z h0 r0 "java/util/ImmutableCollections$ListN") (V2 : Arv Z h0 r1 ka (.object "com/example/redwing/redwing/core/NoticeState") (4 : Int32) [(.ref x0), (.ref x1), (.ref x2), (.ref x3)] .null) :
    MetFree l (⟨"com/example/redwing/redwing/core/NoticeStateDefaultPathPinLaw", "same", "(Ljava/util/List;[Lcom/example/redwing/redwing/core/NoticeState;)Z"⟩ : MethodName) (head1 (Jvm.Cond.code (⟨"com/example/redwing/redwing/core/NoticeStateDefaultPathPinLaw", "same", "(Ljava/util/List;[Lcom/example/redwing/redwing/core/NoticeState;)Z"⟩ : MethodName) method_3_code 2 (some .boolean) :: ws) ({ frames := 2, cells := 0, slots := 0, locals := 27 } : Room)) (fun a U => a = #[(.ref r0), (.ref r1)] ∧ Z.Warmed39 U.vm ∧ U.heap = h0) (fun _ _ _ _ _ => True) (fun _ U o U' => ∃ v L, o = .returned v ∧ Q_rmE4 Z r0 r1 el kl ka x0 x1 x2 x3 h0 n0 v U'.heap L ∧ FrameEnd U o U' L ({ frames := 2, cells := 0, slots := 0, locals := 27 } : Room).cells ({ frames := 2, cells := 0, slots := 0, locals := 27 } : Room).slots) := by
  refine MetFree.of_bodySF (plainFor_of_name own_pn_1) hisR ?_
  intro p e s m args below meth c s₁ Bd hml0 hP hK
  obtain ⟨rfl, hZ, hh⟩ := hP
  have hx := Bd.exec
  have hby := Bd.bytes
  have hml : c.maxLocals = 2 := hml0
  have hown : s.vm.findClass "com/example/redwing/redwing/core/NoticeStateDefaultPathPinLaw" = some m.cls := findClass_of_methodNamed Bd.named
  have hnm := (name_of_methodNamed Bd.named Bd.method).1
  have X0 : Stand p l e ({ frames := 2, cells := 0, slots := 0, locals := 27 } : Room) s m #[(.ref r0), (.ref r1)] below meth c s₁ [] 0 0 := Stand.of_body Bd
  have e0 : s₁.heap = h0 := by rw [← hh, Bd.state]; rfl
  have N0 := Fr.nil n0
  have K0 : Keep h0 h0 [] := Keep.refl h0 _
  have pre0 : ∀ t, Steps p.tables e below (s₁.setTop (mkF m 0 #[.val (.ref r0), .val (.ref r1)] [])) t → Steps p.tables e below (s₁.setTop (entryFrame m #[(.ref r0), (.ref r1)] 2)) t := fun t k => castTop (own_ef_3 m r0 r1) k
  obtain ⟨cq18, kq18, q18a, q18b, q18c⟩ := isOf hZ e0 E1
  obtain ⟨_, _, ⟨T18, L18, k18, n18⟩, -, X18, ⟨Lc18, hQ18, l18, y18, z18⟩, st18⟩ := X0.interfaceBack hx (xi := (⟨"java/util/List", "size", "()I"⟩ : MethodName)) (y := (⟨"java/util/ImmutableCollections$ListN", "size", "()I"⟩ : MethodName)) hown (mvT hZ (hw _ (List.mem_of_getElem? (i := 76) rfl))) (mvT hZ (hw _ (List.mem_of_getElem? (i := 77) rfl))) (mvT hZ (hw _ (List.mem_of_getElem? (i := 78) rfl))) (mvT hZ (hw _ (List.mem_of_getElem? (i := 79) rfl))) (mvT hZ (hw _ (List.mem_of_getElem? (i := 80) rfl))) (mvT hZ (hw _ (List.mem_of_getElem? (i := 81) rfl))) (mvT hZ (hw _ (List.mem_of_getElem? (i := 82) rfl))) (mvT hZ (hw _ (List.mem_of_getElem? (i := 83) rfl))) (by decide) (backOf (W := 0) (rmS l Z a0 hw [] r0 el kl (4 : Int32) [(.ref x0), (.ref x1), (.ref x2), (.ref x3)] h0 n0 Z0 F1 V1) hZ (hw _ (List.mem_of_getElem? (i := 85) rfl)) (hw _ (List.mem_of_getElem? (i := 84) rfl)) (by decide) (by decide)) q18a q18b q18c (g := (mkF m 5 #[.val (.ref r0), .val (.ref r1)] [(.ref r0)])) rfl (by rw [hml]; rfl) (Steps.refl _) (argsL := []) (rest := []) (lenOf own_pd_1 rfl) rfl (by show 2 * 0 + _ ≤ _; exact Nat.le_of_eq rfl) (hb hby own_d2_5) (fun _ _ => ⟨rfl, e0, (by decide : 0 + 0 ≤ _), (by decide : 0 + 0 ≤ _)⟩)
  dsimp only [Pt.U, Pt.locs, Pt.cells, Pt.slots] at X18 l18 y18 z18 st18 hQ18
  subst l18 y18 z18
  obtain ⟨rfl, Nq18, eq18⟩ := hQ18
  have N18 := Fr.app N0 Nq18
  obtain ⟨cl19, Ar19, q19, S19, Ng19, H19, G19⟩ := id V2
  have k20 : ∀ t, Steps p.tables e below (T18.setTop (mkF m 12 #[.val (.ref r0), .val (.ref r1)] [(.int (4 : Int32)), (.int (4 : Int32))])) t → Steps p.tables e below (s₁.setTop (mkF m 0 #[.val (.ref r0), .val (.ref r1)] [])) t := by
    intro t h
    show Steps p.tables e below (s₁.setTop (mkF m 0 #[.val (.ref r0), .val (.ref r1)] [])) _
    refine XS.aloadN X0.here hx rfl (hb hby own_d2_0) rfl rfl ?_
    show Steps p.tables e below (s₁.setTop (mkF m 1 #[.val (.ref r0), .val (.ref r1)] [(.ref r0)])) _
    refine XS.ifnullNo X0.here hx rfl (hb hby own_d2_1) rfl ?_
    show Steps p.tables e below (s₁.setTop (mkF m 4 #[.val (.ref r0), .val (.ref r1)] [])) _
    refine XS.aloadN X0.here hx rfl (hb hby own_d2_4) rfl rfl ?_
    show Steps p.tables e below (s₁.setTop (mkF m 5 #[.val (.ref r0), .val (.ref r1)] [(.ref r0)])) _
    refine st18.trans ?_
    show Steps p.tables e below (T18.setTop (mkF m 10 #[.val (.ref r0), .val (.ref r1)] [(.int (4 : Int32))])) _
    refine XS.aloadN X18.here hx rfl (hb hby own_d2_10) rfl rfl ?_
    show Steps p.tables e below (T18.setTop (mkF m 11 #[.val (.ref r0), .val (.ref r1)] [(.ref r1), (.int (4 : Int32))])) _
    refine X18.arraylength hx (by rw [eq18]; exact Ar19.1) (State.isArrayOf_alike hZ.alike Ar19.2.1) (g := (mkF m 11 #[.val (.ref r0), .val (.ref r1)] [(.ref r1), (.int (4 : Int32))])) rfl rfl (hb hby own_d2_11) _ ?_
    rw [len_of S19 Ng19]
    exact h
  obtain ⟨_, _, ⟨T21, L21, k21, n21⟩, -, X21, ⟨Lc21, hQ21, l21, y21, z21⟩, st21⟩ := Jvm.LawKit.callS X18 hx (y := (⟨"com/example/redwing/redwing/core/NoticeStateDefaultPathPinLaw", "at", "(Ljava/util/List;[Lcom/example/redwing/redwing/core/NoticeState;I)Z"⟩ : MethodName)) hown (mvT hZ (hw _ (List.mem_of_getElem? (i := 88) rfl))) (mvT hZ (hw _ (List.mem_of_getElem? (i := 89) rfl))) (mvT hZ (hw _ (List.mem_of_getElem? (i := 74) rfl))) (mvT hZ (hw _ (List.mem_of_getElem? (i := 90) rfl))) (by decide) (backOf (W := 0) (rmA1 l Z a0 hw [] r0 r1 (0 : Int32) el kl (4 : Int32) [(.ref x0), (.ref x1), (.ref x2), (.ref x3)] ka [(.ref x0), (.ref x1), (.ref x2), (.ref x3)] x0 h0 n0 Z0 F1 V1 E1 V2 ⟨by decide, by decide⟩ rfl rfl) hZ (hw _ (List.mem_of_getElem? (i := 90) rfl)) (hw _ (List.mem_of_getElem? (i := 74) rfl)) (by decide) (by decide)) (g := (mkF m 20 #[.val (.ref r0), .val (.ref r1)] [(.int (0 : Int32)), (.ref r1), (.ref r0)])) rfl (by rw [hml]; rfl) (argsL := [(.ref r0), (.ref r1), (.int (0 : Int32))]) (rest := []) (lenOf own_pd_2 rfl) rfl (by show 2 * 0 + _ ≤ _; exact Nat.le_of_eq rfl) (hb hby own_d2_20) (fun _ _ => ⟨rfl, eq18, (by decide : 0 + 0 ≤ _), (by decide : 0 + 0 ≤ _)⟩)
  dsimp only [Pt.U, Pt.locs, Pt.cells, Pt.slots] at X21 l21 y21 z21 st21 hQ21
  subst l21 y21 z21
  obtain ⟨rfl, Nq21, eq21⟩ := hQ21
  have N21 := Fr.app N18 Nq21
  have k22 : ∀ t, Steps p.tables e below (T21.setTop (mkF m 23 #[.val (.ref r0), .val (.ref r1)] [(.int (1 : Int32))])) t → Steps p.tables e below (s₁.setTop (mkF m 0 #[.val (.ref r0), .val (.ref r1)] [])) t := by
    intro t h
    refine k20 t ?_
    show Steps p.tables e below (T18.setTop (mkF m 12 #[.val (.ref r0), .val (.ref r1)] [(.int (4 : Int32)), (.int (4 : Int32))])) _
    refine XS.icmpYes X18.here hx rfl (pc0 := 12) (pc' := 17) rfl (hb hby own_d2_12) rfl (teq (by decide : (4 : Int32) = (4 : Int32))).1 (by decide) (by decide) ?_
    show Steps p.tables e below (T18.setTop (mkF m 17 #[.val (.ref r0), .val (.ref r1)] [])) _
    refine XS.aloadN X18.here hx rfl (hb hby own_d2_17) rfl rfl ?_
    show Steps p.tables e below (T18.setTop (mkF m 18 #[.val (.ref r0), .val (.ref r1)] [(.ref r0)])) _
    refine XS.aloadN X18.here hx rfl (hb hby own_d2_18) rfl rfl ?_
    show Steps p.tables e below (T18.setTop (mkF m 19 #[.val (.ref r0), .val (.ref r1)] [(.ref r1), (.ref r0)])) _
    refine XS.iconst X18.here hx rfl (hb hby own_d2_19) ?_
    show Steps p.tables e below (T18.setTop (mkF m 20 #[.val (.ref r0), .val (.ref r1)] [(.int (0 : Int32)), (.ref r1), (.ref r0)])) _
    refine st21 _ ?_
    exact h
  obtain ⟨_, _, ⟨T23, L23, k23, n23⟩, -, X23, ⟨Lc23, hQ23, l23, y23, z23⟩, st23⟩ := Jvm.LawKit.callS X21 hx (y := (⟨"com/example/redwing/redwing/core/NoticeStateDefaultPathPinLaw", "at", "(Ljava/util/List;[Lcom/example/redwing/redwing/core/NoticeState;I)Z"⟩ : MethodName)) hown (mvT hZ (hw _ (List.mem_of_getElem? (i := 88) rfl))) (mvT hZ (hw _ (List.mem_of_getElem? (i := 89) rfl))) (mvT hZ (hw _ (List.mem_of_getElem? (i := 74) rfl))) (mvT hZ (hw _ (List.mem_of_getElem? (i := 90) rfl))) (by decide) (backOf (W := 0) (rmA1 l Z a0 hw [] r0 r1 (1 : Int32) el kl (4 : Int32) [(.ref x0), (.ref x1), (.ref x2), (.ref x3)] ka [(.ref x0), (.ref x1), (.ref x2), (.ref x3)] x1 h0 n0 Z0 F1 V1 E1 V2 ⟨by decide, by decide⟩ rfl rfl) hZ (hw _ (List.mem_of_getElem? (i := 90) rfl)) (hw _ (List.mem_of_getElem? (i := 74) rfl)) (by decide) (by decide)) (g := (mkF m 29 #[.val (.ref r0), .val (.ref r1)] [(.int (1 : Int32)), (.ref r1), (.ref r0)])) rfl (by rw [hml]; rfl) (argsL := [(.ref r0), (.ref r1), (.int (1 : Int32))]) (rest := []) (lenOf own_pd_2 rfl) rfl (by show 2 * 0 + _ ≤ _; exact Nat.le_of_eq rfl) (hb hby own_d2_29) (fun _ _ => ⟨rfl, eq21, (by decide : 0 + 0 ≤ _), (by decide : 0 + 0 ≤ _)⟩)
  dsimp only [Pt.U, Pt.locs, Pt.cells, Pt.slots] at X23 l23 y23 z23 st23 hQ23
  subst l23 y23 z23
  obtain ⟨rfl, Nq23, eq23⟩ := hQ23
  have N23 := Fr.app N21 Nq23
  have k24 : ∀ t, Steps p.tables e below (T23.setTop (mkF m 32 #[.val (.ref r0), .val (.ref r1)] [(.int (1 : Int32))])) t → Steps p.tables e below (s₁.setTop (mkF m 0 #[.val (.ref r0), .val (.ref r1)] [])) t := by
    intro t h
    refine k22 t ?_
    show Steps p.tables e below (T21.setTop (mkF m 23 #[.val (.ref r0), .val (.ref r1)] [(.int (1 : Int32))])) _
    refine XS.ifNo X21.here hx rfl (hb hby own_d2_23) rfl ((if0 _ _).trans (feq (by decide : ¬ ((1 : Int32) = (0 : Int32)))).1) ?_
    show Steps p.tables e below (T21.setTop (mkF m 26 #[.val (.ref r0), .val (.ref r1)] [])) _
    refine XS.aloadN X21.here hx rfl (hb hby own_d2_26) rfl rfl ?_
    show Steps p.tables e below (T21.setTop (mkF m 27 #[.val (.ref r0), .val (.ref r1)] [(.ref r0)])) _
    refine XS.aloadN X21.here hx rfl (hb hby own_d2_27) rfl rfl ?_
    show Steps p.tables e below (T21.setTop (mkF m 28 #[.val (.ref r0), .val (.ref r1)] [(.ref r1), (.ref r0)])) _
    refine XS.iconst X21.here hx rfl (hb hby own_d2_28) ?_
    show Steps p.tables e below (T21.setTop (mkF m 29 #[.val (.ref r0), .val (.ref r1)] [(.int (1 : Int32)), (.ref r1), (.ref r0)])) _
    refine st23 _ ?_
    exact h
  obtain ⟨_, _, ⟨T25, L25, k25, n25⟩, -, X25, ⟨Lc25, hQ25, l25, y25, z25⟩, st25⟩ := Jvm.LawKit.callS X23 hx (y := (⟨"com/example/redwing/redwing/core/NoticeStateDefaultPathPinLaw", "at", "(Ljava/util/List;[Lcom/example/redwing/redwing/core/NoticeState;I)Z"⟩ : MethodName)) hown (mvT hZ (hw _ (List.mem_of_getElem? (i := 88) rfl))) (mvT hZ (hw _ (List.mem_of_getElem? (i := 89) rfl))) (mvT hZ (hw _ (List.mem_of_getElem? (i := 74) rfl))) (mvT hZ (hw _ (List.mem_of_getElem? (i := 90) rfl))) (by decide) (backOf (W := 0) (rmA1 l Z a0 hw [] r0 r1 (2 : Int32) el kl (4 : Int32) [(.ref x0), (.ref x1), (.ref x2), (.ref x3)] ka [(.ref x0), (.ref x1), (.ref x2), (.ref x3)] x2 h0 n0 Z0 F1 V1 E1 V2 ⟨by decide, by decide⟩ rfl rfl) hZ (hw _ (List.mem_of_getElem? (i := 90) rfl)) (hw _ (List.mem_of_getElem? (i := 74) rfl)) (by decide) (by decide)) (g := (mkF m 38 #[.val (.ref r0), .val (.ref r1)] [(.int (2 : Int32)), (.ref r1), (.ref r0)])) rfl (by rw [hml]; rfl) (argsL := [(.ref r0), (.ref r1), (.int (2 : Int32))]) (rest := []) (lenOf own_pd_2 rfl) rfl (by show 2 * 0 + _ ≤ _; exact Nat.le_of_eq rfl) (hb hby own_d2_38) (fun _ _ => ⟨rfl, eq23, (by decide : 0 + 0 ≤ _), (by decide : 0 + 0 ≤ _)⟩)
  dsimp only [Pt.U, Pt.locs, Pt.cells, Pt.slots] at X25 l25 y25 z25 st25 hQ25
  subst l25 y25 z25
  obtain ⟨rfl, Nq25, eq25⟩ := hQ25
  have N25 := Fr.app N23 Nq25
  have k26 : ∀ t, Steps p.tables e below (T25.setTop (mkF m 41 #[.val (.ref r0), .val (.ref r1)] [(.int (1 : Int32))])) t → Steps p.tables e below (s₁.setTop (mkF m 0 #[.val (.ref r0), .val (.ref r1)] [])) t := by
    intro t h
    refine k24 t ?_
    show Steps p.tables e below (T23.setTop (mkF m 32 #[.val (.ref r0), .val (.ref r1)] [(.int (1 : Int32))])) _
    refine XS.ifNo X23.here hx rfl (hb hby own_d2_32) rfl ((if0 _ _).trans (feq (by decide : ¬ ((1 : Int32) = (0 : Int32)))).1) ?_
    show Steps p.tables e below (T23.setTop (mkF m 35 #[.val (.ref r0), .val (.ref r1)] [])) _
    refine XS.aloadN X23.here hx rfl (hb hby own_d2_35) rfl rfl ?_
    show Steps p.tables e below (T23.setTop (mkF m 36 #[.val (.ref r0), .val (.ref r1)] [(.ref r0)])) _
    refine XS.aloadN X23.here hx rfl (hb hby own_d2_36) rfl rfl ?_
    show Steps p.tables e below (T23.setTop (mkF m 37 #[.val (.ref r0), .val (.ref r1)] [(.ref r1), (.ref r0)])) _
    refine XS.iconst X23.here hx rfl (hb hby own_d2_37) ?_
    show Steps p.tables e below (T23.setTop (mkF m 38 #[.val (.ref r0), .val (.ref r1)] [(.int (2 : Int32)), (.ref r1), (.ref r0)])) _
    refine st25 _ ?_
    exact h
  obtain ⟨_, _, ⟨T27, L27, k27, n27⟩, -, X27, ⟨Lc27, hQ27, l27, y27, z27⟩, st27⟩ := Jvm.LawKit.callS X25 hx (y := (⟨"com/example/redwing/redwing/core/NoticeStateDefaultPathPinLaw", "at", "(Ljava/util/List;[Lcom/example/redwing/redwing/core/NoticeState;I)Z"⟩ : MethodName)) hown (mvT hZ (hw _ (List.mem_of_getElem? (i := 88) rfl))) (mvT hZ (hw _ (List.mem_of_getElem? (i := 89) rfl))) (mvT hZ (hw _ (List.mem_of_getElem? (i := 74) rfl))) (mvT hZ (hw _ (List.mem_of_getElem? (i := 90) rfl))) (by decide) (backOf (W := 0) (rmA1 l Z a0 hw [] r0 r1 (3 : Int32) el kl (4 : Int32) [(.ref x0), (.ref x1), (.ref x2), (.ref x3)] ka [(.ref x0), (.ref x1), (.ref x2), (.ref x3)] x3 h0 n0 Z0 F1 V1 E1 V2 ⟨by decide, by decide⟩ rfl rfl) hZ (hw _ (List.mem_of_getElem? (i := 90) rfl)) (hw _ (List.mem_of_getElem? (i := 74) rfl)) (by decide) (by decide)) (g := (mkF m 47 #[.val (.ref r0), .val (.ref r1)] [(.int (3 : Int32)), (.ref r1), (.ref r0)])) rfl (by rw [hml]; rfl) (argsL := [(.ref r0), (.ref r1), (.int (3 : Int32))]) (rest := []) (lenOf own_pd_2 rfl) rfl (by show 2 * 0 + _ ≤ _; exact Nat.le_of_eq rfl) (hb hby own_d2_47) (fun _ _ => ⟨rfl, eq25, (by decide : 0 + 0 ≤ _), (by decide : 0 + 0 ≤ _)⟩)
  dsimp only [Pt.U, Pt.locs, Pt.cells, Pt.slots] at X27 l27 y27 z27 st27 hQ27
  subst l27 y27 z27
  obtain ⟨rfl, Nq27, eq27⟩ := hQ27
  have N27 := Fr.app N25 Nq27
  have k28 : ∀ t, Steps p.tables e below (T27.setTop (mkF m 50 #[.val (.ref r0), .val (.ref r1)] [(.int (1 : Int32))])) t → Steps p.tables e below (s₁.setTop (mkF m 0 #[.val (.ref r0), .val (.ref r1)] [])) t := by
    intro t h
    refine k26 t ?_
    show Steps p.tables e below (T25.setTop (mkF m 41 #[.val (.ref r0), .val (.ref r1)] [(.int (1 : Int32))])) _
    refine XS.ifNo X25.here hx rfl (hb hby own_d2_41) rfl ((if0 _ _).trans (feq (by decide : ¬ ((1 : Int32) = (0 : Int32)))).1) ?_
    show Steps p.tables e below (T25.setTop (mkF m 44 #[.val (.ref r0), .val (.ref r1)] [])) _
    refine XS.aloadN X25.here hx rfl (hb hby own_d2_44) rfl rfl ?_
    show Steps p.tables e below (T25.setTop (mkF m 45 #[.val (.ref r0), .val (.ref r1)] [(.ref r0)])) _
    refine XS.aloadN X25.here hx rfl (hb hby own_d2_45) rfl rfl ?_
    show Steps p.tables e below (T25.setTop (mkF m 46 #[.val (.ref r0), .val (.ref r1)] [(.ref r1), (.ref r0)])) _
    refine XS.iconst X25.here hx rfl (hb hby own_d2_46) ?_
    show Steps p.tables e below (T25.setTop (mkF m 47 #[.val (.ref r0), .val (.ref r1)] [(.int (3 : Int32)), (.ref r1), (.ref r0)])) _
    refine st27 _ ?_
    exact h
  obtain ⟨_, _, ⟨T29, L29, k29, n29⟩, -, X29, ⟨Lc29, hQ29, l29, y29, z29⟩, st29⟩ := Jvm.LawKit.callS X27 hx (y := (⟨"com/example/redwing/redwing/core/NoticeStateDefaultPathPinLaw", "at", "(Ljava/util/List;[Lcom/example/redwing/redwing/core/NoticeState;I)Z"⟩ : MethodName)) hown (mvT hZ (hw _ (List.mem_of_getElem? (i := 88) rfl))) (mvT hZ (hw _ (List.mem_of_getElem? (i := 89) rfl))) (mvT hZ (hw _ (List.mem_of_getElem? (i := 74) rfl))) (mvT hZ (hw _ (List.mem_of_getElem? (i := 90) rfl))) (by decide) (backOf (W := 0) (rmA0 l Z a0 hw [] r0 r1 (4 : Int32) el kl (4 : Int32) [(.ref x0), (.ref x1), (.ref x2), (.ref x3)] ka [(.ref x0), (.ref x1), (.ref x2), (.ref x3)] h0 n0 Z0 F1 V1 E1 V2 (by decide)) hZ (hw _ (List.mem_of_getElem? (i := 90) rfl)) (hw _ (List.mem_of_getElem? (i := 74) rfl)) (by decide) (by decide)) (g := (mkF m 56 #[.val (.ref r0), .val (.ref r1)] [(.int (4 : Int32)), (.ref r1), (.ref r0)])) rfl (by rw [hml]; rfl) (argsL := [(.ref r0), (.ref r1), (.int (4 : Int32))]) (rest := []) (lenOf own_pd_2 rfl) rfl (by show 2 * 0 + _ ≤ _; exact Nat.le_of_eq rfl) (hb hby own_d2_56) (fun _ _ => ⟨rfl, eq27, (by decide : 0 + 0 ≤ _), (by decide : 0 + 0 ≤ _)⟩)
  dsimp only [Pt.U, Pt.locs, Pt.cells, Pt.slots] at X29 l29 y29 z29 st29 hQ29
  subst l29 y29 z29
  obtain ⟨rfl, Nq29, eq29⟩ := hQ29
  have N29 := Fr.app N27 Nq29
  have k30 : ∀ t, Steps p.tables e below (T29.setTop (mkF m 59 #[.val (.ref r0), .val (.ref r1)] [(.int (1 : Int32))])) t → Steps p.tables e below (s₁.setTop (mkF m 0 #[.val (.ref r0), .val (.ref r1)] [])) t := by
    intro t h
    refine k28 t ?_
    show Steps p.tables e below (T27.setTop (mkF m 50 #[.val (.ref r0), .val (.ref r1)] [(.int (1 : Int32))])) _
    refine XS.ifNo X27.here hx rfl (hb hby own_d2_50) rfl ((if0 _ _).trans (feq (by decide : ¬ ((1 : Int32) = (0 : Int32)))).1) ?_
    show Steps p.tables e below (T27.setTop (mkF m 53 #[.val (.ref r0), .val (.ref r1)] [])) _
    refine XS.aloadN X27.here hx rfl (hb hby own_d2_53) rfl rfl ?_
    show Steps p.tables e below (T27.setTop (mkF m 54 #[.val (.ref r0), .val (.ref r1)] [(.ref r0)])) _
    refine XS.aloadN X27.here hx rfl (hb hby own_d2_54) rfl rfl ?_
    show Steps p.tables e below (T27.setTop (mkF m 55 #[.val (.ref r0), .val (.ref r1)] [(.ref r1), (.ref r0)])) _
    refine XS.iconst X27.here hx rfl (hb hby own_d2_55) ?_
    show Steps p.tables e below (T27.setTop (mkF m 56 #[.val (.ref r0), .val (.ref r1)] [(.int (4 : Int32)), (.ref r1), (.ref r0)])) _
    refine st29 _ ?_
    exact h
  obtain ⟨_, _, ⟨T31, L31, k31, n31⟩, -, X31, ⟨Lc31, hQ31, l31, y31, z31⟩, st31⟩ := Jvm.LawKit.callS X29 hx (y := (⟨"com/example/redwing/redwing/core/NoticeStateDefaultPathPinLaw", "at", "(Ljava/util/List;[Lcom/example/redwing/redwing/core/NoticeState;I)Z"⟩ : MethodName)) hown (mvT hZ (hw _ (List.mem_of_getElem? (i := 88) rfl))) (mvT hZ (hw _ (List.mem_of_getElem? (i := 89) rfl))) (mvT hZ (hw _ (List.mem_of_getElem? (i := 74) rfl))) (mvT hZ (hw _ (List.mem_of_getElem? (i := 90) rfl))) (by decide) (backOf (W := 0) (rmA0 l Z a0 hw [] r0 r1 (5 : Int32) el kl (4 : Int32) [(.ref x0), (.ref x1), (.ref x2), (.ref x3)] ka [(.ref x0), (.ref x1), (.ref x2), (.ref x3)] h0 n0 Z0 F1 V1 E1 V2 (by decide)) hZ (hw _ (List.mem_of_getElem? (i := 90) rfl)) (hw _ (List.mem_of_getElem? (i := 74) rfl)) (by decide) (by decide)) (g := (mkF m 65 #[.val (.ref r0), .val (.ref r1)] [(.int (5 : Int32)), (.ref r1), (.ref r0)])) rfl (by rw [hml]; rfl) (argsL := [(.ref r0), (.ref r1), (.int (5 : Int32))]) (rest := []) (lenOf own_pd_2 rfl) rfl (by show 2 * 0 + _ ≤ _; exact Nat.le_of_eq rfl) (hb hby own_d2_65) (fun _ _ => ⟨rfl, eq29, (by decide : 0 + 0 ≤ _), (by decide : 0 + 0 ≤ _)⟩)
  dsimp only [Pt.U, Pt.locs, Pt.cells, Pt.slots] at X31 l31 y31 z31 st31 hQ31
  subst l31 y31 z31
  obtain ⟨rfl, Nq31, eq31⟩ := hQ31
  have N31 := Fr.app N29 Nq31
  have k32 : ∀ t, Steps p.tables e below (T31.setTop (mkF m 68 #[.val (.ref r0), .val (.ref r1)] [(.int (1 : Int32))])) t → Steps p.tables e below (s₁.setTop (mkF m 0 #[.val (.ref r0), .val (.ref r1)] [])) t := by
    intro t h
    refine k30 t ?_
    show Steps p.tables e below (T29.setTop (mkF m 59 #[.val (.ref r0), .val (.ref r1)] [(.int (1 : Int32))])) _
    refine XS.ifNo X29.here hx rfl (hb hby own_d2_59) rfl ((if0 _ _).trans (feq (by decide : ¬ ((1 : Int32) = (0 : Int32)))).1) ?_
    show Steps p.tables e below (T29.setTop (mkF m 62 #[.val (.ref r0), .val (.ref r1)] [])) _
    refine XS.aloadN X29.here hx rfl (hb hby own_d2_62) rfl rfl ?_
    show Steps p.tables e below (T29.setTop (mkF m 63 #[.val (.ref r0), .val (.ref r1)] [(.ref r0)])) _
    refine XS.aloadN X29.here hx rfl (hb hby own_d2_63) rfl rfl ?_
    show Steps p.tables e below (T29.setTop (mkF m 64 #[.val (.ref r0), .val (.ref r1)] [(.ref r1), (.ref r0)])) _
    refine XS.iconst X29.here hx rfl (hb hby own_d2_64) ?_
    show Steps p.tables e below (T29.setTop (mkF m 65 #[.val (.ref r0), .val (.ref r1)] [(.int (5 : Int32)), (.ref r1), (.ref r0)])) _
    refine st31 _ ?_
    exact h
  obtain ⟨_, _, ⟨T33, L33, k33, n33⟩, -, X33, ⟨Lc33, hQ33, l33, y33, z33⟩, st33⟩ := Jvm.LawKit.callS X31 hx (y := (⟨"com/example/redwing/redwing/core/NoticeStateDefaultPathPinLaw", "at", "(Ljava/util/List;[Lcom/example/redwing/redwing/core/NoticeState;I)Z"⟩ : MethodName)) hown (mvT hZ (hw _ (List.mem_of_getElem? (i := 88) rfl))) (mvT hZ (hw _ (List.mem_of_getElem? (i := 89) rfl))) (mvT hZ (hw _ (List.mem_of_getElem? (i := 74) rfl))) (mvT hZ (hw _ (List.mem_of_getElem? (i := 90) rfl))) (by decide) (backOf (W := 0) (rmA0 l Z a0 hw [] r0 r1 (6 : Int32) el kl (4 : Int32) [(.ref x0), (.ref x1), (.ref x2), (.ref x3)] ka [(.ref x0), (.ref x1), (.ref x2), (.ref x3)] h0 n0 Z0 F1 V1 E1 V2 (by decide)) hZ (hw _ (List.mem_of_getElem? (i := 90) rfl)) (hw _ (List.mem_of_getElem? (i := 74) rfl)) (by decide) (by decide)) (g := (mkF m 75 #[.val (.ref r0), .val (.ref r1)] [(.int (6 : Int32)), (.ref r1), (.ref r0)])) rfl (by rw [hml]; rfl) (argsL := [(.ref r0), (.ref r1), (.int (6 : Int32))]) (rest := []) (lenOf own_pd_2 rfl) rfl (by show 2 * 0 + _ ≤ _; exact Nat.le_of_eq rfl) (hb hby own_d2_75) (fun _ _ => ⟨rfl, eq31, (by decide : 0 + 0 ≤ _), (by decide : 0 + 0 ≤ _)⟩)
  dsimp only [Pt.U, Pt.locs, Pt.cells, Pt.slots] at X33 l33 y33 z33 st33 hQ33
  subst l33 y33 z33
  obtain ⟨rfl, Nq33, eq33⟩ := hQ33
  have N33 := Fr.app N31 Nq33
  have k34 : ∀ t, Steps p.tables e below (T33.setTop (mkF m 78 #[.val (.ref r0), .val (.ref r1)] [(.int (1 : Int32))])) t → Steps p.tables e below (s₁.setTop (mkF m 0 #[.val (.ref r0), .val (.ref r1)] [])) t := by
    intro t h
    refine k32 t ?_
    show Steps p.tables e below (T31.setTop (mkF m 68 #[.val (.ref r0), .val (.ref r1)] [(.int (1 : Int32))])) _
    refine XS.ifNo X31.here hx rfl (hb hby own_d2_68) rfl ((if0 _ _).trans (feq (by decide : ¬ ((1 : Int32) = (0 : Int32)))).1) ?_
    show Steps p.tables e below (T31.setTop (mkF m 71 #[.val (.ref r0), .val (.ref r1)] [])) _
    refine XS.aloadN X31.here hx rfl (hb hby own_d2_71) rfl rfl ?_
    show Steps p.tables e below (T31.setTop (mkF m 72 #[.val (.ref r0), .val (.ref r1)] [(.ref r0)])) _
    refine XS.aloadN X31.here hx rfl (hb hby own_d2_72) rfl rfl ?_
    show Steps p.tables e below (T31.setTop (mkF m 73 #[.val (.ref r0), .val (.ref r1)] [(.ref r1), (.ref r0)])) _
    refine XS.bipush X31.here hx rfl (hb hby own_d2_73) ?_
    show Steps p.tables e below (T31.setTop (mkF m 75 #[.val (.ref r0), .val (.ref r1)] [(.int (6 : Int32)), (.ref r1), (.ref r0)])) _
    refine st33 _ ?_
    exact h
  have k35 : ∀ t, Steps p.tables e below (T33.setTop (mkF m 86 #[.val (.ref r0), .val (.ref r1)] [(.int (1 : Int32))])) t → Steps p.tables e below (s₁.setTop (mkF m 0 #[.val (.ref r0), .val (.ref r1)] [])) t := by
    intro t h
    refine k34 t ?_
    show Steps p.tables e below (T33.setTop (mkF m 78 #[.val (.ref r0), .val (.ref r1)] [(.int (1 : Int32))])) _
    refine XS.ifNo X33.here hx rfl (hb hby own_d2_78) rfl ((if0 _ _).trans (feq (by decide : ¬ ((1 : Int32) = (0 : Int32)))).1) ?_
    show Steps p.tables e below (T33.setTop (mkF m 81 #[.val (.ref r0), .val (.ref r1)] [])) _
    refine XS.iconst X33.here hx rfl (hb hby own_d2_81) ?_
    show Steps p.tables e below (T33.setTop (mkF m 82 #[.val (.ref r0), .val (.ref r1)] [(.int (1 : Int32))])) _
    refine XS.goto X33.here hx rfl (pc0 := 82) (pc' := 86) rfl (hb hby own_d2_82) (by decide) (by decide) ?_
    exact h
  obtain ⟨fs, hr, hrun, hended, hW, hsame⟩ := X33.leave (v := some (.int (1 : Int32))) (fun h => by rw [Bd.returns] at h; cases h) Bd.notSynchronized
  refine ⟨_, _, pre0 _ (k35 _ ?_), hrun, hended, _, _, rfl, ?_, ⟨_, rfl⟩, hW, hsame.mono (by decide) (by decide)⟩
  · exact retN X33 hx (t := .boolean) Bd.returns (by simp) (hb hby own_d2_86) hr
  · show Q_rmE4 Z _ _ _ _ _ _ _ _ _ h0 n0 _ T33.heap _
    rw [eq33]
    exact ⟨congrArg (fun z : Int32 => some (Value.int z)) (rfl), N33, rfl⟩
def Q_rmE7 (Z : State) (r0 : Addr) (r1 : Addr) (el : Addr) (kl : ClassId) (ka : ClassId) (x0 : Addr) (x1 : Addr) (x2 : Addr) (x3 : Addr) (x4 : Addr) (x5 : Addr) (x6 : Addr) (h0 : Heap) (n0 : Nat) (v : Option Value) (h : Heap) (L : List Loc) : Prop := v = some (.int 1) ∧ Fr n0 L ∧ h = h0
set_option maxRecDepth 65536 in
set_option maxHeartbeats 40000000 in
theorem rmE7 (l : Launch) (Z : State) (a0 : Array Value) (hw : ∀ d ∈ tables_1, d.before a0 Z = true) (ws : List Jvm.Cond) (r0 : Addr) (r1 : Addr) (el : Addr) (kl : ClassId) (ka : ClassId) (x0 : Addr) (x1 : Addr) (x2 : Addr) (x3 : Addr) (x4 : Addr) (x5 : Addr) (x6 : Addr) (h0 : Heap) (n0 : Nat) (Z0 : n0 ≤ h0.size) (F1 : Fld Z h0 r0 "java/util/ImmutableCollections$ListN" "elements" "[Ljava/lang/Object;" (.ref el)) (V1 : Arv Z h0 el kl (.object "java/lang/Object") (7 : Int32) [(.ref x0), (.ref x1), (.ref x2), (.ref x3), (.ref x4), (.ref x5), (.ref x6)] .null) (E1 : Exa Z h0 r0 "java/util/ImmutableCollections$ListN") (V2 : Arv Z h0 r1 ka (.object "com/example/redwing/redwing/core/NoticeState") (7 : Int32) [(.ref x0), (.ref x1), (.ref x2), (.ref x3), (.ref x4), (.ref x5), (.ref x6)] .null) :
    MetFree l (⟨"com/example/redwing/redwing/core/NoticeStateDefaultPathPinLaw", "same", "(Ljava/util/List;[Lcom/example/redwing/redwing/core/NoticeState;)Z"⟩ : MethodName) (head1 (Jvm.Cond.code (⟨"com/example/redwing/redwing/core/NoticeStateDefaultPathPinLaw", "same", "(Ljava/util/List;[Lcom/example/redwing/redwing/core/NoticeState;)Z"⟩ : MethodName) method_3_code 2 (some .boolean) :: ws) ({ frames := 2, cells := 0, slots := 0, locals := 27 } : Room)) (fun a U => a = #[(.ref r0), (.ref r1)] ∧ Z.Warmed39 U.vm ∧ U.heap = h0) (fun _ _ _ _ _ => True) (fun _ U o U' => ∃ v L, o = .returned v ∧ Q_rmE7 Z r0 r1 el kl ka x0 x1 x2 x3 x4 x5 x6 h0 n0 v U'.heap L ∧ FrameEnd U o U' L ({ frames := 2, cells := 0, slots := 0, locals := 27 } : Room).cells ({ frames := 2, cells := 0, slots := 0, locals := 27 } : Room).slots) := by
  refine MetFree.of_bodySF (plainFor_of_name own_pn_1) hisR ?_
  intro p e s m args below meth c s₁ Bd hml0 hP hK
  obtain ⟨rfl, hZ, hh⟩ := hP
  have hx := Bd.exec
  have hby := Bd.bytes
  have hml : c.maxLocals = 2 := hml0
  have hown : s.vm.findClass "com/example/redwing/redwing/core/NoticeStateDefaultPathPinLaw" = some m.cls := findClass_of_methodNamed Bd.named
  have hnm := (name_of_methodNamed Bd.named Bd.method).1
  have X0 : Stand p l e ({ frames := 2, cells := 0, slots := 0, locals := 27 } : Room) s m #[(.ref r0), (.ref r1)] below meth c s₁ [] 0 0 := Stand.of_body Bd
  have e0 : s₁.heap = h0 := by rw [← hh, Bd.state]; rfl
  have N0 := Fr.nil n0
  have K0 : Keep h0 h0 [] := Keep.refl h0 _
  have pre0 : ∀ t, Steps p.tables e below (s₁.setTop (mkF m 0 #[.val (.ref r0), .val (.ref r1)] [])) t → Steps p.tables e below (s₁.setTop (entryFrame m #[(.ref r0), (.ref r1)] 2)) t := fun t k => castTop (own_ef_3 m r0 r1) k
  obtain ⟨cq36, kq36, q36a, q36b, q36c⟩ := isOf hZ e0 E1
  obtain ⟨_, _, ⟨T36, L36, k36, n36⟩, -, X36, ⟨Lc36, hQ36, l36, y36, z36⟩, st36⟩ := X0.interfaceBack hx (xi := (⟨"java/util/List", "size", "()I"⟩ : MethodName)) (y := (⟨"java/util/ImmutableCollections$ListN", "size", "()I"⟩ : MethodName)) hown (mvT hZ (hw _ (List.mem_of_getElem? (i := 76) rfl))) (mvT hZ (hw _ (List.mem_of_getElem? (i := 77) rfl))) (mvT hZ (hw _ (List.mem_of_getElem? (i := 78) rfl))) (mvT hZ (hw _ (List.mem_of_getElem? (i := 79) rfl))) (mvT hZ (hw _ (List.mem_of_getElem? (i := 80) rfl))) (mvT hZ (hw _ (List.mem_of_getElem? (i := 81) rfl))) (mvT hZ (hw _ (List.mem_of_getElem? (i := 82) rfl))) (mvT hZ (hw _ (List.mem_of_getElem? (i := 83) rfl))) (by decide) (backOf (W := 0) (rmS l Z a0 hw [] r0 el kl (7 : Int32) [(.ref x0), (.ref x1), (.ref x2), (.ref x3), (.ref x4), (.ref x5), (.ref x6)] h0 n0 Z0 F1 V1) hZ (hw _ (List.mem_of_getElem? (i := 85) rfl)) (hw _ (List.mem_of_getElem? (i := 84) rfl)) (by decide) (by decide)) q36a q36b q36c (g := (mkF m 5 #[.val (.ref r0), .val (.ref r1)] [(.ref r0)])) rfl (by rw [hml]; rfl) (Steps.refl _) (argsL := []) (rest := []) (lenOf own_pd_1 rfl) rfl (by show 2 * 0 + _ ≤ _; exact Nat.le_of_eq rfl) (hb hby own_d2_5) (fun _ _ => ⟨rfl, e0, (by decide : 0 + 0 ≤ _), (by decide : 0 + 0 ≤ _)⟩)
  dsimp only [Pt.U, Pt.locs, Pt.cells, Pt.slots] at X36 l36 y36 z36 st36 hQ36
  subst l36 y36 z36
  obtain ⟨rfl, Nq36, eq36⟩ := hQ36
  have N36 := Fr.app N0 Nq36
  obtain ⟨cl37, Ar37, q37, S37, Ng37, H37, G37⟩ := id V2
  have k38 : ∀ t, Steps p.tables e below (T36.setTop (mkF m 12 #[.val (.ref r0), .val (.ref r1)] [(.int (7 : Int32)), (.int (7 : Int32))])) t → Steps p.tables e below (s₁.setTop (mkF m 0 #[.val (.ref r0), .val (.ref r1)] [])) t := by
    intro t h
    show Steps p.tables e below (s₁.setTop (mkF m 0 #[.val (.ref r0), .val (.ref r1)] [])) _
    refine XS.aloadN X0.here hx rfl (hb hby own_d2_0) rfl rfl ?_
    show Steps p.tables e below (s₁.setTop (mkF m 1 #[.val (.ref r0), .val (.ref r1)] [(.ref r0)])) _
    refine XS.ifnullNo X0.here hx rfl (hb hby own_d2_1) rfl ?_
    show Steps p.tables e below (s₁.setTop (mkF m 4 #[.val (.ref r0), .val (.ref r1)] [])) _
    refine XS.aloadN X0.here hx rfl (hb hby own_d2_4) rfl rfl ?_
    show Steps p.tables e below (s₁.setTop (mkF m 5 #[.val (.ref r0), .val (.ref r1)] [(.ref r0)])) _
    refine st36.trans ?_
    show Steps p.tables e below (T36.setTop (mkF m 10 #[.val (.ref r0), .val (.ref r1)] [(.int (7 : Int32))])) _
    refine XS.aloadN X36.here hx rfl (hb hby own_d2_10) rfl rfl ?_
    show Steps p.tables e below (T36.setTop (mkF m 11 #[.val (.ref r0), .val (.ref r1)] [(.ref r1), (.int (7 : Int32))])) _
    refine X36.arraylength hx (by rw [eq36]; exact Ar37.1) (State.isArrayOf_alike hZ.alike Ar37.2.1) (g := (mkF m 11 #[.val (.ref r0), .val (.ref r1)] [(.ref r1), (.int (7 : Int32))])) rfl rfl (hb hby own_d2_11) _ ?_
    rw [len_of S37 Ng37]
    exact h
  obtain ⟨_, _, ⟨T39, L39, k39, n39⟩, -, X39, ⟨Lc39, hQ39, l39, y39, z39⟩, st39⟩ := Jvm.LawKit.callS X36 hx (y := (⟨"com/example/redwing/redwing/core/NoticeStateDefaultPathPinLaw", "at", "(Ljava/util/List;[Lcom/example/redwing/redwing/core/NoticeState;I)Z"⟩ : MethodName)) hown (mvT hZ (hw _ (List.mem_of_getElem? (i := 88) rfl))) (mvT hZ (hw _ (List.mem_of_getElem? (i := 89) rfl))) (mvT hZ (hw _ (List.mem_of_getElem? (i := 74) rfl))) (mvT hZ (hw _ (List.mem_of_getElem? (i := 90) rfl))) (by decide) (backOf (W := 0) (rmA1 l Z a0 hw [] r0 r1 (0 : Int32) el kl (7 : Int32) [(.ref x0), (.ref x1), (.ref x2), (.ref x3), (.ref x4), (.ref x5), (.ref x6)] ka [(.ref x0), (.ref x1), (.ref x2), (.ref x3), (.ref x4), (.ref x5), (.ref x6)] x0 h0 n0 Z0 F1 V1 E1 V2 ⟨by decide, by decide⟩ rfl rfl) hZ (hw _ (List.mem_of_getElem? (i := 90) rfl)) (hw _ (List.mem_of_getElem? (i := 74) rfl)) (by decide) (by decide)) (g := (mkF m 20 #[.val (.ref r0), .val (.ref r1)] [(.int (0 : Int32)), (.ref r1), (.ref r0)])) rfl (by rw [hml]; rfl) (argsL := [(.ref r0), (.ref r1), (.int (0 : Int32))]) (rest := []) (lenOf own_pd_2 rfl) rfl (by show 2 * 0 + _ ≤ _; exact Nat.le_of_eq rfl) (hb hby own_d2_20) (fun _ _ => ⟨rfl, eq36, (by decide : 0 + 0 ≤ _), (by decide : 0 + 0 ≤ _)⟩)
  dsimp only [Pt.U, Pt.locs, Pt.cells, Pt.slots] at X39 l39 y39 z39 st39 hQ39
  subst l39 y39 z39
  obtain ⟨rfl, Nq39, eq39⟩ := hQ39
  have N39 := Fr.app N36 Nq39
  have k40 : ∀ t, Steps p.tables e below (T39.setTop (mkF m 23 #[.val (.ref r0), .val (.ref r1)] [(.int (1 : Int32))])) t → Steps p.tables e below (s₁.setTop (mkF m 0 #[.val (.ref r0), .val (.ref r1)] [])) t := by
    intro t h
    refine k38 t ?_
    show Steps p.tables e below (T36.setTop (mkF m 12 #[.val (.ref r0), .val (.ref r1)] [(.int (7 : Int32)), (.int (7 : Int32))])) _
    refine XS.icmpYes X36.here hx rfl (pc0 := 12) (pc' := 17) rfl (hb hby own_d2_12) rfl (teq (by decide : (7 : Int32) = (7 : Int32))).1 (by decide) (by decide) ?_
    show Steps p.tables e below (T36.setTop (mkF m 17 #[.val (.ref r0), .val (.ref r1)] [])) _
    refine XS.aloadN X36.here hx rfl (hb hby own_d2_17) rfl rfl ?_
    show Steps p.tables e below (T36.setTop (mkF m 18 #[.val (.ref r0), .val (.ref r1)] [(.ref r0)])) _
    refine XS.aloadN X36.here hx rfl (hb hby own_d2_18) rfl rfl ?_
    show Steps p.tables e below (T36.setTop (mkF m 19 #[.val (.ref r0), .val (.ref r1)] [(.ref r1), (.ref r0)])) _
    refine XS.iconst X36.here hx rfl (hb hby own_d2_19) ?_
    show Steps p.tables e below (T36.setTop (mkF m 20 #[.val (.ref r0), .val (.ref r1)] [(.int (0 : Int32)), (.ref r1), (.ref r0)])) _
    refine st39 _ ?_
    exact h
  obtain ⟨_, _, ⟨T41, L41, k41, n41⟩, -, X41, ⟨Lc41, hQ41, l41, y41, z41⟩, st41⟩ := Jvm.LawKit.callS X39 hx (y := (⟨"com/example/redwing/redwing/core/NoticeStateDefaultPathPinLaw", "at", "(Ljava/util/List;[Lcom/example/redwing/redwing/core/NoticeState;I)Z"⟩ : MethodName)) hown (mvT hZ (hw _ (List.mem_of_getElem? (i := 88) rfl))) (mvT hZ (hw _ (List.mem_of_getElem? (i := 89) rfl))) (mvT hZ (hw _ (List.mem_of_getElem? (i := 74) rfl))) (mvT hZ (hw _ (List.mem_of_getElem? (i := 90) rfl))) (by decide) (backOf (W := 0) (rmA1 l Z a0 hw [] r0 r1 (1 : Int32) el kl (7 : Int32) [(.ref x0), (.ref x1), (.ref x2), (.ref x3), (.ref x4), (.ref x5), (.ref x6)] ka [(.ref x0), (.ref x1), (.ref x2), (.ref x3), (.ref x4), (.ref x5), (.ref x6)] x1 h0 n0 Z0 F1 V1 E1 V2 ⟨by decide, by decide⟩ rfl rfl) hZ (hw _ (List.mem_of_getElem? (i := 90) rfl)) (hw _ (List.mem_of_getElem? (i := 74) rfl)) (by decide) (by decide)) (g := (mkF m 29 #[.val (.ref r0), .val (.ref r1)] [(.int (1 : Int32)), (.ref r1), (.ref r0)])) rfl (by rw [hml]; rfl) (argsL := [(.ref r0), (.ref r1), (.int (1 : Int32))]) (rest := []) (lenOf own_pd_2 rfl) rfl (by show 2 * 0 + _ ≤ _; exact Nat.le_of_eq rfl) (hb hby own_d2_29) (fun _ _ => ⟨rfl, eq39, (by decide : 0 + 0 ≤ _), (by decide : 0 + 0 ≤ _)⟩)
  dsimp only [Pt.U, Pt.locs, Pt.cells, Pt.slots] at X41 l41 y41 z41 st41 hQ41
  subst l41 y41 z41
  obtain ⟨rfl, Nq41, eq41⟩ := hQ41
  have N41 := Fr.app N39 Nq41
  have k42 : ∀ t, Steps p.tables e below (T41.setTop (mkF m 32 #[.val (.ref r0), .val (.ref r1)] [(.int (1 : Int32))])) t → Steps p.tables e below (s₁.setTop (mkF m 0 #[.val (.ref r0), .val (.ref r1)] [])) t := by
    intro t h
    refine k40 t ?_
    show Steps p.tables e below (T39.setTop (mkF m 23 #[.val (.ref r0), .val (.ref r1)] [(.int (1 : Int32))])) _
    refine XS.ifNo X39.here hx rfl (hb hby own_d2_23) rfl ((if0 _ _).trans (feq (by decide : ¬ ((1 : Int32) = (0 : Int32)))).1) ?_
    show Steps p.tables e below (T39.setTop (mkF m 26 #[.val (.ref r0), .val (.ref r1)] [])) _
    refine XS.aloadN X39.here hx rfl (hb hby own_d2_26) rfl rfl ?_
    show Steps p.tables e below (T39.setTop (mkF m 27 #[.val (.ref r0), .val (.ref r1)] [(.ref r0)])) _
    refine XS.aloadN X39.here hx rfl (hb hby own_d2_27) rfl rfl ?_
    show Steps p.tables e below (T39.setTop (mkF m 28 #[.val (.ref r0), .val (.ref r1)] [(.ref r1), (.ref r0)])) _
    refine XS.iconst X39.here hx rfl (hb hby own_d2_28) ?_
    show Steps p.tables e below (T39.setTop (mkF m 29 #[.val (.ref r0), .val (.ref r1)] [(.int (1 : Int32)), (.ref r1), (.ref r0)])) _
    refine st41 _ ?_
    exact h
  obtain ⟨_, _, ⟨T43, L43, k43, n43⟩, -, X43, ⟨Lc43, hQ43, l43, y43, z43⟩, st43⟩ := Jvm.LawKit.callS X41 hx (y := (⟨"com/example/redwing/redwing/core/NoticeStateDefaultPathPinLaw", "at", "(Ljava/util/List;[Lcom/example/redwing/redwing/core/NoticeState;I)Z"⟩ : MethodName)) hown (mvT hZ (hw _ (List.mem_of_getElem? (i := 88) rfl))) (mvT hZ (hw _ (List.mem_of_getElem? (i := 89) rfl))) (mvT hZ (hw _ (List.mem_of_getElem? (i := 74) rfl))) (mvT hZ (hw _ (List.mem_of_getElem? (i := 90) rfl))) (by decide) (backOf (W := 0) (rmA1 l Z a0 hw [] r0 r1 (2 : Int32) el kl (7 : Int32) [(.ref x0), (.ref x1), (.ref x2), (.ref x3), (.ref x4), (.ref x5), (.ref x6)] ka [(.ref x0), (.ref x1), (.ref x2), (.ref x3), (.ref x4), (.ref x5), (.ref x6)] x2 h0 n0 Z0 F1 V1 E1 V2 ⟨by decide, by decide⟩ rfl rfl) hZ (hw _ (List.mem_of_getElem? (i := 90) rfl)) (hw _ (List.mem_of_getElem? (i := 74) rfl)) (by decide) (by decide)) (g := (mkF m 38 #[.val (.ref r0), .val (.ref r1)] [(.int (2 : Int32)), (.ref r1), (.ref r0)])) rfl (by rw [hml]; rfl) (argsL := [(.ref r0), (.ref r1), (.int (2 : Int32))]) (rest := []) (lenOf own_pd_2 rfl) rfl (by show 2 * 0 + _ ≤ _; exact Nat.le_of_eq rfl) (hb hby own_d2_38) (fun _ _ => ⟨rfl, eq41, (by decide : 0 + 0 ≤ _), (by decide : 0 + 0 ≤ _)⟩)
  dsimp only [Pt.U, Pt.locs, Pt.cells, Pt.slots] at X43 l43 y43 z43 st43 hQ43
  subst l43 y43 z43
  obtain ⟨rfl, Nq43, eq43⟩ := hQ43
  have N43 := Fr.app N41 Nq43
  have k44 : ∀ t, Steps p.tables e below (T43.setTop (mkF m 41 #[.val (.ref r0), .val (.ref r1)] [(.int (1 : Int32))])) t → Steps p.tables e below (s₁.setTop (mkF m 0 #[.val (.ref r0), .val (.ref r1)] [])) t := by
    intro t h
    refine k42 t ?_
    show Steps p.tables e below (T41.setTop (mkF m 32 #[.val (.ref r0), .val (.ref r1)] [(.int (1 : Int32))])) _
    refine XS.ifNo X41.here hx rfl (hb hby own_d2_32) rfl ((if0 _ _).trans (feq (by decide : ¬ ((1 : Int32) = (0 : Int32)))).1) ?_
    show Steps p.tables e below (T41.setTop (mkF m 35 #[.val (.ref r0), .val (.ref r1)] [])) _
    refine XS.aloadN X41.here hx rfl (hb hby own_d2_35) rfl rfl ?_
    show Steps p.tables e below (T41.setTop (mkF m 36 #[.val (.ref r0), .val (.ref r1)] [(.ref r0)])) _
    refine XS.aloadN X41.here hx rfl (hb hby own_d2_36) rfl rfl ?_
    show Steps p.tables e below (T41.setTop (mkF m 37 #[.val (.ref r0), .val (.ref r1)] [(.ref r1), (.ref r0)])) _
    refine XS.iconst X41.here hx rfl (hb hby own_d2_37) ?_
    show Steps p.tables e below (T41.setTop (mkF m 38 #[.val (.ref r0), .val (.ref r1)] [(.int (2 : Int32)), (.ref r1), (.ref r0)])) _
    refine st43 _ ?_
    exact h
  obtain ⟨_, _, ⟨T45, L45, k45, n45⟩, -, X45, ⟨Lc45, hQ45, l45, y45, z45⟩, st45⟩ := Jvm.LawKit.callS X43 hx (y := (⟨"com/example/redwing/redwing/core/NoticeStateDefaultPathPinLaw", "at", "(Ljava/util/List;[Lcom/example/redwing/redwing/core/NoticeState;I)Z"⟩ : MethodName)) hown (mvT hZ (hw _ (List.mem_of_getElem? (i := 88) rfl))) (mvT hZ (hw _ (List.mem_of_getElem? (i := 89) rfl))) (mvT hZ (hw _ (List.mem_of_getElem? (i := 74) rfl))) (mvT hZ (hw _ (List.mem_of_getElem? (i := 90) rfl))) (by decide) (backOf (W := 0) (rmA1 l Z a0 hw [] r0 r1 (3 : Int32) el kl (7 : Int32) [(.ref x0), (.ref x1), (.ref x2), (.ref x3), (.ref x4), (.ref x5), (.ref x6)] ka [(.ref x0), (.ref x1), (.ref x2), (.ref x3), (.ref x4), (.ref x5), (.ref x6)] x3 h0 n0 Z0 F1 V1 E1 V2 ⟨by decide, by decide⟩ rfl rfl) hZ (hw _ (List.mem_of_getElem? (i := 90) rfl)) (hw _ (List.mem_of_getElem? (i := 74) rfl)) (by decide) (by decide)) (g := (mkF m 47 #[.val (.ref r0), .val (.ref r1)] [(.int (3 : Int32)), (.ref r1), (.ref r0)])) rfl (by rw [hml]; rfl) (argsL := [(.ref r0), (.ref r1), (.int (3 : Int32))]) (rest := []) (lenOf own_pd_2 rfl) rfl (by show 2 * 0 + _ ≤ _; exact Nat.le_of_eq rfl) (hb hby own_d2_47) (fun _ _ => ⟨rfl, eq43, (by decide : 0 + 0 ≤ _), (by decide : 0 + 0 ≤ _)⟩)
  dsimp only [Pt.U, Pt.locs, Pt.cells, Pt.slots] at X45 l45 y45 z45 st45 hQ45
  subst l45 y45 z45
  obtain ⟨rfl, Nq45, eq45⟩ := hQ45
  have N45 := Fr.app N43 Nq45
  have k46 : ∀ t, Steps p.tables e below (T45.setTop (mkF m 50 #[.val (.ref r0), .val (.ref r1)] [(.int (1 : Int32))])) t → Steps p.tables e below (s₁.setTop (mkF m 0 #[.val (.ref r0), .val (.ref r1)] [])) t := by
    intro t h
    refine k44 t ?_
    show Steps p.tables e below (T43.setTop (mkF m 41 #[.val (.ref r0), .val (.ref r1)] [(.int (1 : Int32))])) _
    refine XS.ifNo X43.here hx rfl (hb hby own_d2_41) rfl ((if0 _ _).trans (feq (by decide : ¬ ((1 : Int32) = (0 : Int32)))).1) ?_
    show Steps p.tables e below (T43.setTop (mkF m 44 #[.val (.ref r0), .val (.ref r1)] [])) _
    refine XS.aloadN X43.here hx rfl (hb hby own_d2_44) rfl rfl ?_
    show Steps p.tables e below (T43.setTop (mkF m 45 #[.val (.ref r0), .val (.ref r1)] [(.ref r0)])) _
    refine XS.aloadN X43.here hx rfl (hb hby own_d2_45) rfl rfl ?_
    show Steps p.tables e below (T43.setTop (mkF m 46 #[.val (.ref r0), .val (.ref r1)] [(.ref r1), (.ref r0)])) _
    refine XS.iconst X43.here hx rfl (hb hby own_d2_46) ?_
    show Steps p.tables e below (T43.setTop (mkF m 47 #[.val (.ref r0), .val (.ref r1)] [(.int (3 : Int32)), (.ref r1), (.ref r0)])) _
    refine st45 _ ?_
    exact h
  obtain ⟨_, _, ⟨T47, L47, k47, n47⟩, -, X47, ⟨Lc47, hQ47, l47, y47, z47⟩, st47⟩ := Jvm.LawKit.callS X45 hx (y := (⟨"com/example/redwing/redwing/core/NoticeStateDefaultPathPinLaw", "at", "(Ljava/util/List;[Lcom/example/redwing/redwing/core/NoticeState;I)Z"⟩ : MethodName)) hown (mvT hZ (hw _ (List.mem_of_getElem? (i := 88) rfl))) (mvT hZ (hw _ (List.mem_of_getElem? (i := 89) rfl))) (mvT hZ (hw _ (List.mem_of_getElem? (i := 74) rfl))) (mvT hZ (hw _ (List.mem_of_getElem? (i := 90) rfl))) (by decide) (backOf (W := 0) (rmA1 l Z a0 hw [] r0 r1 (4 : Int32) el kl (7 : Int32) [(.ref x0), (.ref x1), (.ref x2), (.ref x3), (.ref x4), (.ref x5), (.ref x6)] ka [(.ref x0), (.ref x1), (.ref x2), (.ref x3), (.ref x4), (.ref x5), (.ref x6)] x4 h0 n0 Z0 F1 V1 E1 V2 ⟨by decide, by decide⟩ rfl rfl) hZ (hw _ (List.mem_of_getElem? (i := 90) rfl)) (hw _ (List.mem_of_getElem? (i := 74) rfl)) (by decide) (by decide)) (g := (mkF m 56 #[.val (.ref r0), .val (.ref r1)] [(.int (4 : Int32)), (.ref r1), (.ref r0)])) rfl (by rw [hml]; rfl) (argsL := [(.ref r0), (.ref r1), (.int (4 : Int32))]) (rest := []) (lenOf own_pd_2 rfl) rfl (by show 2 * 0 + _ ≤ _; exact Nat.le_of_eq rfl) (hb hby own_d2_56) (fun _ _ => ⟨rfl, eq45, (by decide : 0 + 0 ≤ _), (by decide : 0 + 0 ≤ _)⟩)
  dsimp only [Pt.U, Pt.locs, Pt.cells, Pt.slots] at X47 l47 y47 z47 st47 hQ47
  subst l47 y47 z47
  obtain ⟨rfl, Nq47, eq47⟩ := hQ47
  have N47 := Fr.app N45 Nq47
  have k48 : ∀ t, Steps p.tables e below (T47.setTop (mkF m 59 #[.val (.ref r0), .val (.ref r1)] [(.int (1 : Int32))])) t → Steps p.tables e below (s₁.setTop (mkF m 0 #[.val (.ref r0), .val (.ref r1)] [])) t := by
    intro t h
    refine k46 t ?_
    show Steps p.tables e below (T45.setTop (mkF m 50 #[.val (.ref r0), .val (.ref r1)] [(.int (1 : Int32))])) _
    refine XS.ifNo X45.here hx rfl (hb hby own_d2_50) rfl ((if0 _ _).trans (feq (by decide : ¬ ((1 : Int32) = (0 : Int32)))).1) ?_
    show Steps p.tables e below (T45.setTop (mkF m 53 #[.val (.ref r0), .val (.ref r1)] [])) _
    refine XS.aloadN X45.here hx rfl (hb hby own_d2_53) rfl rfl ?_
    show Steps p.tables e below (T45.setTop (mkF m 54 #[.val (.ref r0), .val (.ref r1)] [(.ref r0)])) _
    refine XS.aloadN X45.here hx rfl (hb hby own_d2_54) rfl rfl ?_
    show Steps p.tables e below (T45.setTop (mkF m 55 #[.val (.ref r0), .val (.ref r1)] [(.ref r1), (.ref r0)])) _
    refine XS.iconst X45.here hx rfl (hb hby own_d2_55) ?_
    show Steps p.tables e below (T45.setTop (mkF m 56 #[.val (.ref r0), .val (.ref r1)] [(.int (4 : Int32)), (.ref r1), (.ref r0)])) _
    refine st47 _ ?_
    exact h
  obtain ⟨_, _, ⟨T49, L49, k49, n49⟩, -, X49, ⟨Lc49, hQ49, l49, y49, z49⟩, st49⟩ := Jvm.LawKit.callS X47 hx (y := (⟨"com/example/redwing/redwing/core/NoticeStateDefaultPathPinLaw", "at", "(Ljava/util/List;[Lcom/example/redwing/redwing/core/NoticeState;I)Z"⟩ : MethodName)) hown (mvT hZ (hw _ (List.mem_of_getElem? (i := 88) rfl))) (mvT hZ (hw _ (List.mem_of_getElem? (i := 89) rfl))) (mvT hZ (hw _ (List.mem_of_getElem? (i := 74) rfl))) (mvT hZ (hw _ (List.mem_of_getElem? (i := 90) rfl))) (by decide) (backOf (W := 0) (rmA1 l Z a0 hw [] r0 r1 (5 : Int32) el kl (7 : Int32) [(.ref x0), (.ref x1), (.ref x2), (.ref x3), (.ref x4), (.ref x5), (.ref x6)] ka [(.ref x0), (.ref x1), (.ref x2), (.ref x3), (.ref x4), (.ref x5), (.ref x6)] x5 h0 n0 Z0 F1 V1 E1 V2 ⟨by decide, by decide⟩ rfl rfl) hZ (hw _ (List.mem_of_getElem? (i := 90) rfl)) (hw _ (List.mem_of_getElem? (i := 74) rfl)) (by decide) (by decide)) (g := (mkF m 65 #[.val (.ref r0), .val (.ref r1)] [(.int (5 : Int32)), (.ref r1), (.ref r0)])) rfl (by rw [hml]; rfl) (argsL := [(.ref r0), (.ref r1), (.int (5 : Int32))]) (rest := []) (lenOf own_pd_2 rfl) rfl (by show 2 * 0 + _ ≤ _; exact Nat.le_of_eq rfl) (hb hby own_d2_65) (fun _ _ => ⟨rfl, eq47, (by decide : 0 + 0 ≤ _), (by decide : 0 + 0 ≤ _)⟩)
  dsimp only [Pt.U, Pt.locs, Pt.cells, Pt.slots] at X49 l49 y49 z49 st49 hQ49
  subst l49 y49 z49
  obtain ⟨rfl, Nq49, eq49⟩ := hQ49
  have N49 := Fr.app N47 Nq49
  have k50 : ∀ t, Steps p.tables e below (T49.setTop (mkF m 68 #[.val (.ref r0), .val (.ref r1)] [(.int (1 : Int32))])) t → Steps p.tables e below (s₁.setTop (mkF m 0 #[.val (.ref r0), .val (.ref r1)] [])) t := by
    intro t h
    refine k48 t ?_
    show Steps p.tables e below (T47.setTop (mkF m 59 #[.val (.ref r0), .val (.ref r1)] [(.int (1 : Int32))])) _
    refine XS.ifNo X47.here hx rfl (hb hby own_d2_59) rfl ((if0 _ _).trans (feq (by decide : ¬ ((1 : Int32) = (0 : Int32)))).1) ?_
    show Steps p.tables e below (T47.setTop (mkF m 62 #[.val (.ref r0), .val (.ref r1)] [])) _
    refine XS.aloadN X47.here hx rfl (hb hby own_d2_62) rfl rfl ?_
    show Steps p.tables e below (T47.setTop (mkF m 63 #[.val (.ref r0), .val (.ref r1)] [(.ref r0)])) _
    refine XS.aloadN X47.here hx rfl (hb hby own_d2_63) rfl rfl ?_
    show Steps p.tables e below (T47.setTop (mkF m 64 #[.val (.ref r0), .val (.ref r1)] [(.ref r1), (.ref r0)])) _
    refine XS.iconst X47.here hx rfl (hb hby own_d2_64) ?_
    show Steps p.tables e below (T47.setTop (mkF m 65 #[.val (.ref r0), .val (.ref r1)] [(.int (5 : Int32)), (.ref r1), (.ref r0)])) _
    refine st49 _ ?_
    exact h
  obtain ⟨_, _, ⟨T51, L51, k51, n51⟩, -, X51, ⟨Lc51, hQ51, l51, y51, z51⟩, st51⟩ := Jvm.LawKit.callS X49 hx (y := (⟨"com/example/redwing/redwing/core/NoticeStateDefaultPathPinLaw", "at", "(Ljava/util/List;[Lcom/example/redwing/redwing/core/NoticeState;I)Z"⟩ : MethodName)) hown (mvT hZ (hw _ (List.mem_of_getElem? (i := 88) rfl))) (mvT hZ (hw _ (List.mem_of_getElem? (i := 89) rfl))) (mvT hZ (hw _ (List.mem_of_getElem? (i := 74) rfl))) (mvT hZ (hw _ (List.mem_of_getElem? (i := 90) rfl))) (by decide) (backOf (W := 0) (rmA1 l Z a0 hw [] r0 r1 (6 : Int32) el kl (7 : Int32) [(.ref x0), (.ref x1), (.ref x2), (.ref x3), (.ref x4), (.ref x5), (.ref x6)] ka [(.ref x0), (.ref x1), (.ref x2), (.ref x3), (.ref x4), (.ref x5), (.ref x6)] x6 h0 n0 Z0 F1 V1 E1 V2 ⟨by decide, by decide⟩ rfl rfl) hZ (hw _ (List.mem_of_getElem? (i := 90) rfl)) (hw _ (List.mem_of_getElem? (i := 74) rfl)) (by decide) (by decide)) (g := (mkF m 75 #[.val (.ref r0), .val (.ref r1)] [(.int (6 : Int32)), (.ref r1), (.ref r0)])) rfl (by rw [hml]; rfl) (argsL := [(.ref r0), (.ref r1), (.int (6 : Int32))]) (rest := []) (lenOf own_pd_2 rfl) rfl (by show 2 * 0 + _ ≤ _; exact Nat.le_of_eq rfl) (hb hby own_d2_75) (fun _ _ => ⟨rfl, eq49, (by decide : 0 + 0 ≤ _), (by decide : 0 + 0 ≤ _)⟩)
  dsimp only [Pt.U, Pt.locs, Pt.cells, Pt.slots] at X51 l51 y51 z51 st51 hQ51
  subst l51 y51 z51
  obtain ⟨rfl, Nq51, eq51⟩ := hQ51
  have N51 := Fr.app N49 Nq51
  have k52 : ∀ t, Steps p.tables e below (T51.setTop (mkF m 78 #[.val (.ref r0), .val (.ref r1)] [(.int (1 : Int32))])) t → Steps p.tables e below (s₁.setTop (mkF m 0 #[.val (.ref r0), .val (.ref r1)] [])) t := by
    intro t h
    refine k50 t ?_
    show Steps p.tables e below (T49.setTop (mkF m 68 #[.val (.ref r0), .val (.ref r1)] [(.int (1 : Int32))])) _
    refine XS.ifNo X49.here hx rfl (hb hby own_d2_68) rfl ((if0 _ _).trans (feq (by decide : ¬ ((1 : Int32) = (0 : Int32)))).1) ?_
    show Steps p.tables e below (T49.setTop (mkF m 71 #[.val (.ref r0), .val (.ref r1)] [])) _
    refine XS.aloadN X49.here hx rfl (hb hby own_d2_71) rfl rfl ?_
    show Steps p.tables e below (T49.setTop (mkF m 72 #[.val (.ref r0), .val (.ref r1)] [(.ref r0)])) _
    refine XS.aloadN X49.here hx rfl (hb hby own_d2_72) rfl rfl ?_
    show Steps p.tables e below (T49.setTop (mkF m 73 #[.val (.ref r0), .val (.ref r1)] [(.ref r1), (.ref r0)])) _
    refine XS.bipush X49.here hx rfl (hb hby own_d2_73) ?_
    show Steps p.tables e below (T49.setTop (mkF m 75 #[.val (.ref r0), .val (.ref r1)] [(.int (6 : Int32)), (.ref r1), (.ref r0)])) _
    refine st51 _ ?_
    exact h
  have k53 : ∀ t, Steps p.tables e below (T51.setTop (mkF m 86 #[.val (.ref r0), .val (.ref r1)] [(.int (1 : Int32))])) t → Steps p.tables e below (s₁.setTop (mkF m 0 #[.val (.ref r0), .val (.ref r1)] [])) t := by
    intro t h
    refine k52 t ?_
    show Steps p.tables e below (T51.setTop (mkF m 78 #[.val (.ref r0), .val (.ref r1)] [(.int (1 : Int32))])) _
    refine XS.ifNo X51.here hx rfl (hb hby own_d2_78) rfl ((if0 _ _).trans (feq (by decide : ¬ ((1 : Int32) = (0 : Int32)))).1) ?_
    show Steps p.tables e below (T51.setTop (mkF m 81 #[.val (.ref r0), .val (.ref r1)] [])) _
    refine XS.iconst X51.here hx rfl (hb hby own_d2_81) ?_
    show Steps p.tables e below (T51.setTop (mkF m 82 #[.val (.ref r0), .val (.ref r1)] [(.int (1 : Int32))])) _
    refine XS.goto X51.here hx rfl (pc0 := 82) (pc' := 86) rfl (hb hby own_d2_82) (by decide) (by decide) ?_
    exact h
  obtain ⟨fs, hr, hrun, hended, hW, hsame⟩ := X51.leave (v := some (.int (1 : Int32))) (fun h => by rw [Bd.returns] at h; cases h) Bd.notSynchronized
  refine ⟨_, _, pre0 _ (k53 _ ?_), hrun, hended, _, _, rfl, ?_, ⟨_, rfl⟩, hW, hsame.mono (by decide) (by decide)⟩
  · exact retN X51 hx (t := .boolean) Bd.returns (by simp) (hb hby own_d2_86) hr
  · show Q_rmE7 Z _ _ _ _ _ _ _ _ _ _ _ _ h0 n0 _ T51.heap _
    rw [eq51]
    exact ⟨congrArg (fun z : Int32 => some (Value.int z)) (rfl), N51, rfl⟩
def Q_rmD0 (Z : State) (r0 : Addr) (y : Addr) (lp : Addr) (h0 : Heap) (n0 : Nat) (v : Option Value) (h : Heap) (L : List Loc) : Prop := v = some (.ref lp) ∧ Fr n0 L ∧ h = h0
set_option maxRecDepth 65536 in
set_option maxHeartbeats 40000000 in
theorem rmD0 (l : Launch) (Z : State) (a0 : Array Value) (hw : ∀ d ∈ tables_1, d.before a0 Z = true) (ws : List Jvm.Cond) (r0 : Addr) (y : Addr) (lp : Addr) (h0 : Heap) (n0 : Nat) (Z0 : n0 ≤ h0.size) (F1 : Fld Z h0 r0 "com/example/redwing/redwing/core/NoticeState" "tedStatus" "Ljava/lang/String;" .null) (S1 : Sta Z h0 "com/example/redwing/redwing/core/NoticeState" "NATIONAL_PATH" "Ljava/util/List;" (.ref lp)) :
    MetFree l (⟨"com/example/redwing/redwing/core/NoticeState", "defaultPath", "()Ljava/util/List;"⟩ : MethodName) (head1 (Jvm.Cond.code (⟨"com/example/redwing/redwing/core/NoticeState", "defaultPath", "()Ljava/util/List;"⟩ : MethodName) prog_19_method_8_code 1 (some (.object "java/util/List")) :: ws) ({ frames := 0, cells := 0, slots := 0, locals := 0 } : Room)) (fun a U => a = #[(.ref r0)] ∧ Z.Warmed39 U.vm ∧ U.heap = h0) (fun _ _ _ _ _ => True) (fun _ U o U' => ∃ v L, o = .returned v ∧ Q_rmD0 Z r0 y lp h0 n0 v U'.heap L ∧ FrameEnd U o U' L ({ frames := 0, cells := 0, slots := 0, locals := 0 } : Room).cells ({ frames := 0, cells := 0, slots := 0, locals := 0 } : Room).slots) := by
  refine MetFree.of_bodySF (plainFor_of_name own_pn_2) hisR ?_
  intro p e s m args below meth c s₁ Bd hml0 hP hK
  obtain ⟨rfl, hZ, hh⟩ := hP
  have hx := Bd.exec
  have hby := Bd.bytes
  have hml : c.maxLocals = 1 := hml0
  have hown : s.vm.findClass "com/example/redwing/redwing/core/NoticeState" = some m.cls := findClass_of_methodNamed Bd.named
  have hnm := (name_of_methodNamed Bd.named Bd.method).1
  have X0 : Stand p l e ({ frames := 0, cells := 0, slots := 0, locals := 0 } : Room) s m #[(.ref r0)] below meth c s₁ [] 0 0 := Stand.of_body Bd
  have e0 : s₁.heap = h0 := by rw [← hh, Bd.state]; rfl
  have N0 := Fr.nil n0
  have K0 : Keep h0 h0 [] := Keep.refl h0 _
  have pre0 : ∀ t, Steps p.tables e below (s₁.setTop (mkF m 0 #[.val (.ref r0)] [])) t → Steps p.tables e below (s₁.setTop (entryFrame m #[(.ref r0)] 1)) t := fun t k => castTop (own_ef_0 m r0) k
  obtain ⟨T54, X54, e54, st54⟩ := getF X0 hx hZ hown (host := "") (Or.inl (hw _ (List.mem_of_getElem? (i := 68) rfl))) Via.refl e0 F1 (g := (mkF m 1 #[.val (.ref r0)] [(.ref r0)])) rfl rfl (hb hby own_d1_1)
  obtain ⟨T55, X55, e55, st55⟩ := getS2 X54 hx hZ hown (host := "") (Or.inl (hw _ (List.mem_of_getElem? (i := 70) rfl))) Via.refl e54 S1 (g := (mkF m 7 #[.val (.ref r0)] [])) rfl (hb hby own_d1_7)
  have k56 : ∀ t, Steps p.tables e below (T55.setTop (mkF m 16 #[.val (.ref r0)] [(.ref lp)])) t → Steps p.tables e below (s₁.setTop (mkF m 0 #[.val (.ref r0)] [])) t := by
    intro t h
    show Steps p.tables e below (s₁.setTop (mkF m 0 #[.val (.ref r0)] [])) _
    refine XS.aloadN X0.here hx rfl (hb hby own_d1_0) rfl rfl ?_
    show Steps p.tables e below (s₁.setTop (mkF m 1 #[.val (.ref r0)] [(.ref r0)])) _
    refine st54 _ ?_
    show Steps p.tables e below (T54.setTop (mkF m 4 #[.val (.ref r0)] [.null])) _
    refine XS.ifnonnullNo X54.here hx rfl (hb hby own_d1_4) rfl ?_
    show Steps p.tables e below (T54.setTop (mkF m 7 #[.val (.ref r0)] [])) _
    refine st55 _ ?_
    show Steps p.tables e below (T55.setTop (mkF m 10 #[.val (.ref r0)] [(.ref lp)])) _
    refine XS.goto X55.here hx rfl (pc0 := 10) (pc' := 16) rfl (hb hby own_d1_10) (by decide) (by decide) ?_
    exact h
  obtain ⟨fs, hr, hrun, hended, hW, hsame⟩ := X55.leave (v := some (.ref lp)) (fun h => by rw [Bd.returns] at h; cases h) Bd.notSynchronized
  refine ⟨_, _, pre0 _ (k56 _ ?_), hrun, hended, _, _, rfl, ?_, ⟨_, rfl⟩, hW, hsame.mono (by decide) (by decide)⟩
  · jvm_step X55.here [X55.here.top, hx, (hb hby own_d1_16), X55.method', Bd.returns, Value.isRef, FieldType.isReference]
    first | (intro acts; rw [hr _ acts rfl rfl rfl]) | rw [hr _ _ rfl rfl rfl]
    exact Steps.refl _
  · show Q_rmD0 Z _ _ _ h0 n0 _ T55.heap _
    rw [e55]
    exact ⟨rfl, N0, rfl⟩
def Q_rmD1 (Z : State) (r0 : Addr) (y : Addr) (lp : Addr) (h0 : Heap) (n0 : Nat) (v : Option Value) (h : Heap) (L : List Loc) : Prop := v = some (.ref lp) ∧ Fr n0 L ∧ h = h0
set_option maxRecDepth 65536 in
set_option maxHeartbeats 40000000 in
theorem rmD1 (l : Launch) (Z : State) (a0 : Array Value) (hw : ∀ d ∈ tables_1, d.before a0 Z = true) (ws : List Jvm.Cond) (r0 : Addr) (y : Addr) (lp : Addr) (h0 : Heap) (n0 : Nat) (Z0 : n0 ≤ h0.size) (F1 : Fld Z h0 r0 "com/example/redwing/redwing/core/NoticeState" "tedStatus" "Ljava/lang/String;" (.ref y)) (S1 : Sta Z h0 "com/example/redwing/redwing/core/NoticeState" "EU_PATH" "Ljava/util/List;" (.ref lp)) :
    MetFree l (⟨"com/example/redwing/redwing/core/NoticeState", "defaultPath", "()Ljava/util/List;"⟩ : MethodName) (head1 (Jvm.Cond.code (⟨"com/example/redwing/redwing/core/NoticeState", "defaultPath", "()Ljava/util/List;"⟩ : MethodName) prog_19_method_8_code 1 (some (.object "java/util/List")) :: ws) ({ frames := 0, cells := 0, slots := 0, locals := 0 } : Room)) (fun a U => a = #[(.ref r0)] ∧ Z.Warmed39 U.vm ∧ U.heap = h0) (fun _ _ _ _ _ => True) (fun _ U o U' => ∃ v L, o = .returned v ∧ Q_rmD1 Z r0 y lp h0 n0 v U'.heap L ∧ FrameEnd U o U' L ({ frames := 0, cells := 0, slots := 0, locals := 0 } : Room).cells ({ frames := 0, cells := 0, slots := 0, locals := 0 } : Room).slots) := by
  refine MetFree.of_bodySF (plainFor_of_name own_pn_2) hisR ?_
  intro p e s m args below meth c s₁ Bd hml0 hP hK
  obtain ⟨rfl, hZ, hh⟩ := hP
  have hx := Bd.exec
  have hby := Bd.bytes
  have hml : c.maxLocals = 1 := hml0
  have hown : s.vm.findClass "com/example/redwing/redwing/core/NoticeState" = some m.cls := findClass_of_methodNamed Bd.named
  have hnm := (name_of_methodNamed Bd.named Bd.method).1
  have X0 : Stand p l e ({ frames := 0, cells := 0, slots := 0, locals := 0 } : Room) s m #[(.ref r0)] below meth c s₁ [] 0 0 := Stand.of_body Bd
  have e0 : s₁.heap = h0 := by rw [← hh, Bd.state]; rfl
  have N0 := Fr.nil n0
  have K0 : Keep h0 h0 [] := Keep.refl h0 _
  have pre0 : ∀ t, Steps p.tables e below (s₁.setTop (mkF m 0 #[.val (.ref r0)] [])) t → Steps p.tables e below (s₁.setTop (entryFrame m #[(.ref r0)] 1)) t := fun t k => castTop (own_ef_0 m r0) k
  obtain ⟨T57, X57, e57, st57⟩ := getF X0 hx hZ hown (host := "") (Or.inl (hw _ (List.mem_of_getElem? (i := 68) rfl))) Via.refl e0 F1 (g := (mkF m 1 #[.val (.ref r0)] [(.ref r0)])) rfl rfl (hb hby own_d1_1)
  obtain ⟨T58, X58, e58, st58⟩ := getS2 X57 hx hZ hown (host := "") (Or.inl (hw _ (List.mem_of_getElem? (i := 99) rfl))) Via.refl e57 S1 (g := (mkF m 13 #[.val (.ref r0)] [])) rfl (hb hby own_d1_13)
  have k59 : ∀ t, Steps p.tables e below (T58.setTop (mkF m 16 #[.val (.ref r0)] [(.ref lp)])) t → Steps p.tables e below (s₁.setTop (mkF m 0 #[.val (.ref r0)] [])) t := by
    intro t h
    show Steps p.tables e below (s₁.setTop (mkF m 0 #[.val (.ref r0)] [])) _
    refine XS.aloadN X0.here hx rfl (hb hby own_d1_0) rfl rfl ?_
    show Steps p.tables e below (s₁.setTop (mkF m 1 #[.val (.ref r0)] [(.ref r0)])) _
    refine st57 _ ?_
    show Steps p.tables e below (T57.setTop (mkF m 4 #[.val (.ref r0)] [(.ref y)])) _
    refine XS.ifnonnullYes X57.here hx rfl (pc0 := 4) (pc' := 13) rfl (hb hby own_d1_4) rfl (by decide) (by decide) ?_
    show Steps p.tables e below (T57.setTop (mkF m 13 #[.val (.ref r0)] [])) _
    refine st58 _ ?_
    exact h
  obtain ⟨fs, hr, hrun, hended, hW, hsame⟩ := X58.leave (v := some (.ref lp)) (fun h => by rw [Bd.returns] at h; cases h) Bd.notSynchronized
  refine ⟨_, _, pre0 _ (k59 _ ?_), hrun, hended, _, _, rfl, ?_, ⟨_, rfl⟩, hW, hsame.mono (by decide) (by decide)⟩
  · jvm_step X58.here [X58.here.top, hx, (hb hby own_d1_16), X58.method', Bd.returns, Value.isRef, FieldType.isReference]
    first | (intro acts; rw [hr _ acts rfl rfl rfl]) | rw [hr _ _ rfl rfl rfl]
    exact Steps.refl _
  · show Q_rmD1 Z _ _ _ h0 n0 _ T58.heap _
    rw [e58]
    exact ⟨rfl, N0, rfl⟩
def Q_rm0 (Z : State) (p0 : Int32) (s0 : Addr) (s1 : Addr) (s2 : Addr) (s3 : Addr) (s4 : Addr) (s5 : Addr) (s6 : Addr) (s7 : Addr) (s8 : Addr) (s9 : Addr) (s10 : Addr) (s11 : Addr) (s12 : Addr) (s13 : Addr) (s14 : Addr) (s15 : Addr) (s16 : Addr) (s17 : Addr) (s18 : Addr) (s19 : Addr) (s20 : Addr) (s21 : Addr) (s22 : Addr) (s23 : Addr) (s24 : Addr) (s25 : Addr) (s26 : Addr) (s27 : Addr) (s28 : Addr) (y7 : Addr) (y8 : Addr) (y9 : Addr) (y10 : Addr) (y11 : Addr) (y16 : Addr) (y23 : Addr) (y27 : Addr) (np : Addr) (elnp : Addr) (knp : ClassId) (eu : Addr) (eleu : Addr) (keu : ClassId) (h0 : Heap) (n0 : Nat) (v : Option Value) (h : Heap) (L : List Loc) : Prop := v = some (.int 1) ∧ Fr n0 L
set_option maxRecDepth 65536 in
set_option maxHeartbeats 40000000 in
theorem rm0 (l : Launch) (Z : State) (a0 : Array Value) (hw : ∀ d ∈ tables_1, d.before a0 Z = true) (ws : List Jvm.Cond) (p0 : Int32) (s0 : Addr) (s1 : Addr) (s2 : Addr) (s3 : Addr) (s4 : Addr) (s5 : Addr) (s6 : Addr) (s7 : Addr) (s8 : Addr) (s9 : Addr) (s10 : Addr) (s11 : Addr) (s12 : Addr) (s13 : Addr) (s14 : Addr) (s15 : Addr) (s16 : Addr) (s17 : Addr) (s18 : Addr) (s19 : Addr) (s20 : Addr) (s21 : Addr) (s22 : Addr) (s23 : Addr) (s24 : Addr) (s25 : Addr) (s26 : Addr) (s27 : Addr) (s28 : Addr) (y7 : Addr) (y8 : Addr) (y9 : Addr) (y10 : Addr) (y11 : Addr) (y16 : Addr) (y23 : Addr) (y27 : Addr) (np : Addr) (elnp : Addr) (knp : ClassId) (eu : Addr) (eleu : Addr) (keu : ClassId) (h0 : Heap) (n0 : Nat) (Z0 : n0 ≤ h0.size) (S0 : Sta Z h0 "com/example/redwing/redwing/core/NoticeState" "NATIONAL_AWAITING_TRANSFER" "Lcom/example/redwing/redwing/core/NoticeState;" (.ref s0)) (E0 : Exa Z h0 s0 "com/example/redwing/redwing/core/NoticeState") (F0 : Fld Z h0 s0 "com/example/redwing/redwing/core/NoticeState" "tedStatus" "Ljava/lang/String;" .null) (S1 : Sta Z h0 "com/example/redwing/redwing/core/NoticeState" "NATIONAL_PROCESSING" "Lcom/example/redwing/redwing/core/NoticeState;" (.ref s1)) (E1 : Exa Z h0 s1 "com/example/redwing/redwing/core/NoticeState") (F1 : Fld Z h0 s1 "com/example/redwing/redwing/core/NoticeState" "tedStatus" "Ljava/lang/String;" .null) (S2 : Sta Z h0 "com/example/redwing/redwing/core/NoticeState" "NATIONAL_ACCEPTED" "Lcom/example/redwing/redwing/core/NoticeState;" (.ref s2)) (E2 : Exa Z h0 s2 "com/example/redwing/redwing/core/NoticeState") (F2 : Fld Z h0 s2 "com/example/redwing/redwing/core/NoticeState" "tedStatus" "Ljava/lang/String;" .null) (S3 : Sta Z h0 "com/example/redwing/redwing/core/NoticeState" "NATIONAL_REJECTED" "Lcom/example/redwing/redwing/core/NoticeState;" (.ref s3)) (E3 : Exa Z h0 s3 "com/example/redwing/redwing/core/NoticeState") (F3 : Fld Z h0 s3 "com/example/redwing/redwing/core/NoticeState" "tedStatus" "Ljava/lang/String;" .null) (S4 : Sta Z h0 "com/example/redwing/redwing/core/NoticeState" "NATIONAL_PUBLISHED" "Lcom/example/redwing/redwing/core/NoticeState;" (.ref s4)) (E4 : Exa Z h0 s4 "com/example/redwing/redwing/core/NoticeState") (F4 : Fld Z h0 s4 "com/example/redwing/redwing/core/NoticeState" "tedStatus" "Ljava/lang/String;" .null) (S5 : Sta Z h0 "com/example/redwing/redwing/core/NoticeState" "EU_PENDING_AWAITING_TRANSFER" "Lcom/example/redwing/redwing/core/NoticeState;" (.ref s5)) (E5 : Exa Z h0 s5 "com/example/redwing/redwing/core/NoticeState") (F5 : Fld Z h0 s5 "com/example/redwing/redwing/core/NoticeState" "tedStatus" "Ljava/lang/String;" (.ref y7)) (S6 : Sta Z h0 "com/example/redwing/redwing/core/NoticeState" "EU_PENDING_PROCESSING" "Lcom/example/redwing/redwing/core/NoticeState;" (.ref s6)) (E6 : Exa Z h0 s6 "com/example/redwing/redwing/core/NoticeState") (F6 : Fld Z h0 s6 "com/example/redwing/redwing/core/NoticeState" "tedStatus" "Ljava/lang/String;" (.ref y7)) (S7 : Sta Z h0 "com/example/redwing/redwing/core/NoticeState" "EU_PENDING_PENDING" "Lcom/example/redwing/redwing/core/NoticeState;" (.ref s7)) (E7 : Exa Z h0 s7 "com/example/redwing/redwing/core/NoticeState") (F7 : Fld Z h0 s7 "com/example/redwing/redwing/core/NoticeState" "tedStatus" "Ljava/lang/String;" (.ref y7)) (S8 : Sta Z h0 "com/example/redwing/redwing/core/NoticeState" "EU_NO_RESPONSE_PENDING" "Lcom/example/redwing/redwing/core/NoticeState;" (.ref s8)) (E8 : Exa Z h0 s8 "com/example/redwing/redwing/core/NoticeState") (F8 : Fld Z h0 s8 "com/example/redwing/redwing/core/NoticeState" "tedStatus" "Ljava/lang/String;" (.ref y8)) (S9 : Sta Z h0 "com/example/redwing/redwing/core/NoticeState" "EU_NOT_SEND_INTERNAL_ERROR" "Lcom/example/redwing/redwing/core/NoticeState;" (.ref s9)) (E9 : Exa Z h0 s9 "com/example/redwing/redwing/core/NoticeState") (F9 : Fld Z h0 s9 "com/example/redwing/redwing/core/NoticeState" "tedStatus" "Ljava/lang/String;" (.ref y9)) (S10 : Sta Z h0 "com/example/redwing/redwing/core/NoticeState" "EU_REJECTED_INTERNAL_ERROR" "Lcom/example/redwing/redwing/core/NoticeState;" (.ref s10)) (E10 : Exa Z h0 s10 "com/example/redwing/redwing/core/NoticeState") (F10 : Fld Z h0 s10 "com/example/redwing/redwing/core/NoticeState" "tedStatus" "Ljava/lang/String;" (.ref y10)) (S11 : Sta Z h0 "com/example/redwing/redwing/core/NoticeState" "EU_STOPPED_NOT_SEND" "Lcom/example/redwing/redwing/core/NoticeState;" (.ref s11)) (E11 : Exa Z h0 s11 "com/example/redwing/redwing/core/NoticeState") (F11 : Fld Z h0 s11 "com/example/redwing/redwing/core/NoticeState" "tedStatus" "Ljava/lang/String;" (.ref y11)) (S12 : Sta Z h0 "com/example/redwing/redwing/core/NoticeState" "EU_STOPPED_ACCEPTED" "Lcom/example/redwing/redwing/core/NoticeState;" (.ref s12)) (E12 : Exa Z h0 s12 "com/example/redwing/redwing/core/NoticeState") (F12 : Fld Z h0 s12 "com/example/redwing/redwing/core/NoticeState" "tedStatus" "Ljava/lang/String;" (.ref y11)) (S13 : Sta Z h0 "com/example/redwing/redwing/core/NoticeState" "EU_STOPPED_PUBLISHED" "Lcom/example/redwing/redwing/core/NoticeState;" (.ref s13)) (E13 : Exa Z h0 s13 "com/example/redwing/redwing/core/NoticeState") (F13 : Fld Z h0 s13 "com/example/redwing/redwing/core/NoticeState" "tedStatus" "Ljava/lang/String;" (.ref y11)) (S14 : Sta Z h0 "com/example/redwing/redwing/core/NoticeState" "EU_STOPPED_NO_RESPONSE" "Lcom/example/redwing/redwing/core/NoticeState;" (.ref s14)) (E14 : Exa Z h0 s14 "com/example/redwing/redwing/core/NoticeState") (F14 : Fld Z h0 s14 "com/example/redwing/redwing/core/NoticeState" "tedStatus" "Ljava/lang/String;" (.ref y11)) (S15 : Sta Z h0 "com/example/redwing/redwing/core/NoticeState" "EU_STOPPED_STOPPED" "Lcom/example/redwing/redwing/core/NoticeState;" (.ref s15)) (E15 : Exa Z h0 s15 "com/example/redwing/redwing/core/NoticeState") (F15 : Fld Z h0 s15 "com/example/redwing/redwing/core/NoticeState" "tedStatus" "Ljava/lang/String;" (.ref y11)) (S16 : Sta Z h0 "com/example/redwing/redwing/core/NoticeState" "EU_ACCEPTED_PENDING" "Lcom/example/redwing/redwing/core/NoticeState;" (.ref s16)) (E16 : Exa Z h0 s16 "com/example/redwing/redwing/core/NoticeState") (F16 : Fld Z h0 s16 "com/example/redwing/redwing/core/NoticeState" "tedStatus" "Ljava/lang/String;" (.ref y16)) (S17 : Sta Z h0 "com/example/redwing/redwing/core/NoticeState" "EU_ACCEPTED_NO_RESPONSE" "Lcom/example/redwing/redwing/core/NoticeState;" (.ref s17)) (E17 : Exa Z h0 s17 "com/example/redwing/redwing/core/NoticeState") (F17 : Fld Z h0 s17 "com/example/redwing/redwing/core/NoticeState" "tedStatus" "Ljava/lang/String;" (.ref y16)) (S18 : Sta Z h0 "com/example/redwing/redwing/core/NoticeState" "EU_ACCEPTED_ACCEPTED" "Lcom/example/redwing/redwing/core/NoticeState;" (.ref s18)) (E18 : Exa Z h0 s18 "com/example/redwing/redwing/core/NoticeState") (F18 : Fld Z h0 s18 "com/example/redwing/redwing/core/NoticeState" "tedStatus" "Ljava/lang/String;" (.ref y16)) (S19 : Sta Z h0 "com/example/redwing/redwing/core/NoticeState" "EU_ACCEPTED_PUBLISHED" "Lcom/example/redwing/redwing/core/NoticeState;" (.ref s19)) (E19 : Exa Z h0 s19 "com/example/redwing/redwing/core/NoticeState") (F19 : Fld Z h0 s19 "com/example/redwing/redwing/core/NoticeState" "tedStatus" "Ljava/lang/String;" (.ref y16)) (S20 : Sta Z h0 "com/example/redwing/redwing/core/NoticeState" "EU_PUBLISHED_PENDING" "Lcom/example/redwing/redwing/core/NoticeState;" (.ref s20)) (E20 : Exa Z h0 s20 "com/example/redwing/redwing/core/NoticeState") (F20 : Fld Z h0 s20 "com/example/redwing/redwing/core/NoticeState" "tedStatus" "Ljava/lang/String;" (.ref y23)) (S21 : Sta Z h0 "com/example/redwing/redwing/core/NoticeState" "EU_PUBLISHED_NO_RESPONSE" "Lcom/example/redwing/redwing/core/NoticeState;" (.ref s21)) (E21 : Exa Z h0 s21 "com/example/redwing/redwing/core/NoticeState") (F21 : Fld Z h0 s21 "com/example/redwing/redwing/core/NoticeState" "tedStatus" "Ljava/lang/String;" (.ref y23)) (S22 : Sta Z h0 "com/example/redwing/redwing/core/NoticeState" "EU_PUBLISHED_ACCEPTED" "Lcom/example/redwing/redwing/core/NoticeState;" (.ref s22)) (E22 : Exa Z h0 s22 "com/example/redwing/redwing/core/NoticeState") (F22 : Fld Z h0 s22 "com/example/redwing/redwing/core/NoticeState" "tedStatus" "Ljava/lang/String;" (.ref y23)) (S23 : Sta Z h0 "com/example/redwing/redwing/core/NoticeState" "EU_PUBLISHED_PUBLISHED" "Lcom/example/redwing/redwing/core/NoticeState;" (.ref s23)) (E23 : Exa Z h0 s23 "com/example/redwing/redwing/core/NoticeState") (F23 : Fld Z h0 s23 "com/example/redwing/redwing/core/NoticeState" "tedStatus" "Ljava/lang/String;" (.ref y23)) (S24 : Sta Z h0 "com/example/redwing/redwing/core/NoticeState" "EU_MANUALLY_REJECTED_NOT_SEND" "Lcom/example/redwing/redwing/core/NoticeState;" (.ref s24)) (E24 : Exa Z h0 s24 "com/example/redwing/redwing/core/NoticeState") (F24 : Fld Z h0 s24 "com/example/redwing/redwing/core/NoticeState" "tedStatus" "Ljava/lang/String;" (.ref y27)) (S25 : Sta Z h0 "com/example/redwing/redwing/core/NoticeState" "EU_MANUALLY_REJECTED_ACCEPTED" "Lcom/example/redwing/redwing/core/NoticeState;" (.ref s25)) (E25 : Exa Z h0 s25 "com/example/redwing/redwing/core/NoticeState") (F25 : Fld Z h0 s25 "com/example/redwing/redwing/core/NoticeState" "tedStatus" "Ljava/lang/String;" (.ref y27)) (S26 : Sta Z h0 "com/example/redwing/redwing/core/NoticeState" "EU_MANUALLY_REJECTED_PUBLISHED" "Lcom/example/redwing/redwing/core/NoticeState;" (.ref s26)) (E26 : Exa Z h0 s26 "com/example/redwing/redwing/core/NoticeState") (F26 : Fld Z h0 s26 "com/example/redwing/redwing/core/NoticeState" "tedStatus" "Ljava/lang/String;" (.ref y27)) (S27 : Sta Z h0 "com/example/redwing/redwing/core/NoticeState" "EU_MANUALLY_REJECTED_NO_RESPONSE" "Lcom/example/redwing/redwing/core/NoticeState;" (.ref s27)) (E27 : Exa Z h0 s27 "com/example/redwing/redwing/core/NoticeState") (F27 : Fld Z h0 s27 "com/example/redwing/redwing/core/NoticeState" "tedStatus" "Ljava/lang/String;" (.ref y27)) (S28 : Sta Z h0 "com/example/redwing/redwing/core/NoticeState" "EU_MANUALLY_REJECTED_STOPPED" "Lcom/example/redwing/redwing/core/NoticeState;" (.ref s28)) (E28 : Exa Z h0 s28 "com/example/redwing/redwing/core/NoticeState") (F28 : Fld Z h0 s28 "com/example/redwing/redwing/core/NoticeState" "tedStatus" "Ljava/lang/String;" (.ref y27)) (Snp : Sta Z h0 "com/example/redwing/redwing/core/NoticeState" "NATIONAL_PATH" "Ljava/util/List;" (.ref np)) (Enp : Exa Z h0 np "java/util/ImmutableCollections$ListN") (Fnp : Fld Z h0 np "java/util/ImmutableCollections$ListN" "elements" "[Ljava/lang/Object;" (.ref elnp)) (Vnp : Arv Z h0 elnp knp (.object "java/lang/Object") (4 : Int32) [(.ref s0), (.ref s1), (.ref s2), (.ref s4)] .null) (Seu : Sta Z h0 "com/example/redwing/redwing/core/NoticeState" "EU_PATH" "Ljava/util/List;" (.ref eu)) (Eeu : Exa Z h0 eu "java/util/ImmutableCollections$ListN") (Feu : Fld Z h0 eu "java/util/ImmutableCollections$ListN" "elements" "[Ljava/lang/Object;" (.ref eleu)) (Veu : Arv Z h0 eleu keu (.object "java/lang/Object") (7 : Int32) [(.ref s5), (.ref s6), (.ref s7), (.ref s16), (.ref s20), (.ref s22), (.ref s23)] .null) :
    MetFree l x (head1 (Jvm.Cond.code x code maxLocals ret :: ws) room_1) (fun a U => a = #[(.int p0)] ∧ Z.Warmed39 U.vm ∧ U.heap = h0) (fun _ _ _ _ _ => True) (fun _ U o U' => ∃ v L, o = .returned v ∧ Q_rm0 Z p0 s0 s1 s2 s3 s4 s5 s6 s7 s8 s9 s10 s11 s12 s13 s14 s15 s16 s17 s18 s19 s20 s21 s22 s23 s24 s25 s26 s27 s28 y7 y8 y9 y10 y11 y16 y23 y27 np elnp knp eu eleu keu h0 n0 v U'.heap L ∧ FrameEnd U o U' L 3 40) := by
  refine MetFree.of_bodySF (plainFor_of_name own_pn_1) hisR ?_
  intro p e s m args below meth c s₁ Bd hml0 hP hK
  obtain ⟨rfl, hZ, hh⟩ := hP
  have hx := Bd.exec
  have hby := Bd.bytes
  have hml : c.maxLocals = 7 := hml0
  have hown : s.vm.findClass "com/example/redwing/redwing/core/NoticeStateDefaultPathPinLaw" = some m.cls := findClass_of_methodNamed Bd.named
  have hnm := (name_of_methodNamed Bd.named Bd.method).1
  have X0 : Stand p l e room_1 s m #[(.int p0)] below meth c s₁ [] 0 0 := Stand.of_body Bd
  have e0 : s₁.heap = h0 := by rw [← hh, Bd.state]; rfl
  have N0 := Fr.nil n0
  have K0 : Keep h0 h0 [] := Keep.refl h0 _
  have pre0 : ∀ t, Steps p.tables e below (s₁.setTop (mkF m 0 #[.val (.int p0), .unset, .unset, .unset, .unset, .unset, .unset] [])) t → Steps p.tables e below (s₁.setTop (entryFrame m #[(.int p0)] maxLocals)) t := fun t k => castTop (own_ef_4 m p0) k
  obtain ⟨T60, h60, k60, X60, e60, E60, A60, O60, st60⟩ := newR X0 hx hZ hown (hw _ (List.mem_of_getElem? (i := 0) rfl)) (hw _ (List.mem_of_getElem? (i := 1) rfl)) e0 (g := (mkF m 2 #[.val (.int p0), .unset, .unset, .unset, .unset, .unset, .unset] [(.int (29 : Int32))])) rfl (hb hby at_2) rfl (by decide) (cap := 29) (by decide) (by decide) (by decide) (by decide)
  obtain ⟨b60, g60⟩ : ∃ z, z = h0.size := ⟨_, rfl⟩
  rw [← g60] at A60 st60
  have g_b60 : n0 ≤ b60 := Nat.le_trans Z0 (Nat.le_of_eq g60.symm)
  have sz_b60 : h0.size ≤ b60 := Nat.le_trans K0.1 (Nat.le_of_eq g60.symm)
  have Z61 : n0 ≤ h60.size := Nat.le_trans Z0 E60.1
  have K62 := K0.ext E60
  have V_b60 : Arv Z h60 b60 k60 (.object "com/example/redwing/redwing/core/NoticeState") (29 : Int32) [.null, .null, .null, .null, .null, .null, .null, .null, .null, .null, .null, .null, .null, .null, .null, .null, .null, .null, .null, .null, .null, .null, .null, .null, .null, .null, .null, .null, .null] .null := (Arv.new A60 (by decide)).pad (pad_rep [] .null 29)
  obtain ⟨T63, X63, e63, st63⟩ := getS2 X60 hx hZ hown (host := "") (Or.inl (hw _ (List.mem_of_getElem? (i := 2) rfl))) Via.refl e60 (own_sta_keep S0 K62 all0) (g := (mkF m 7 #[.val (.int p0), .unset, .unset, .unset, .unset, .unset, .unset] [(.int (0 : Int32)), (.ref b60), (.ref b60)])) rfl (hb hby at_7)
  obtain ⟨cl64, Ar64, q64, S64, Ng64, H64, G64⟩ := id V_b60
  have hin64 : ¬ ((0 : Int32) < 0 ∨ cl64.slots.size ≤ ((0 : Int32)).toNatClampNeg) := inb_of S64 ⟨by decide, by decide⟩
  obtain ⟨T64, h64, X64, e64, W64, st64⟩ := stR X63 hx hZ e63 Ar64 (j := (0 : Int32)) hin64 rfl (Sto.ofV Ar64 q64 O60 (Ins.self (E0.keep K62))) (g := (mkF m 10 #[.val (.int p0), .unset, .unset, .unset, .unset, .unset, .unset] [(.ref s0), (.int (0 : Int32)), (.ref b60), (.ref b60)])) rfl rfl (hb hby at_10)
  have V64 : Arv Z h64 b60 k60 (.object "com/example/redwing/redwing/core/NoticeState") (29 : Int32) [(.ref s0), .null, .null, .null, .null, .null, .null, .null, .null, .null, .null, .null, .null, .null, .null, .null, .null, .null, .null, .null, .null, .null, .null, .null, .null, .null, .null, .null, .null] .null := Arv.set Ar64 q64 S64 Ng64 H64 G64 rfl W64 0 rfl (Nat.le_of_ble_eq_true rfl)
  have Z65 : n0 ≤ h64.size := Nat.le_trans Z61 (Keep.of_wr W64).1
  have K66 := K62.wr W64 (Or.inr sz_b60)
  have N64 := Fr.snoc X64 N0 g_b60
  obtain ⟨T67, X67, e67, st67⟩ := getS2 X64 hx hZ hown (host := "") (Or.inl (hw _ (List.mem_of_getElem? (i := 6) rfl))) Via.refl e64 (own_sta_keep S1 K66 all0) (g := (mkF m 13 #[.val (.int p0), .unset, .unset, .unset, .unset, .unset, .unset] [(.int (1 : Int32)), (.ref b60), (.ref b60)])) rfl (hb hby at_13)
  obtain ⟨cl68, Ar68, q68, S68, Ng68, H68, G68⟩ := id V64
  have hin68 : ¬ ((1 : Int32) < 0 ∨ cl68.slots.size ≤ ((1 : Int32)).toNatClampNeg) := inb_of S68 ⟨by decide, by decide⟩
  obtain ⟨T68, h68, X68, e68, W68, st68⟩ := stR X67 hx hZ e67 Ar68 (j := (1 : Int32)) hin68 rfl (Sto.ofV Ar68 q68 O60 (Ins.self (E1.keep K66))) (g := (mkF m 16 #[.val (.int p0), .unset, .unset, .unset, .unset, .unset, .unset] [(.ref s1), (.int (1 : Int32)), (.ref b60), (.ref b60)])) rfl rfl (hb hby at_16)
  have V68 : Arv Z h68 b60 k60 (.object "com/example/redwing/redwing/core/NoticeState") (29 : Int32) [(.ref s0), (.ref s1), .null, .null, .null, .null, .null, .null, .null, .null, .null, .null, .null, .null, .null, .null, .null, .null, .null, .null, .null, .null, .null, .null, .null, .null, .null, .null, .null] .null := Arv.set Ar68 q68 S68 Ng68 H68 G68 rfl W68 1 rfl (Nat.le_of_ble_eq_true rfl)
  have Z69 : n0 ≤ h68.size := Nat.le_trans Z65 (Keep.of_wr W68).1
  have K70 := K66.wr W68 (Or.inr sz_b60)
  have N68 := Fr.snoc X68 N64 g_b60
  obtain ⟨T71, X71, e71, st71⟩ := getS2 X68 hx hZ hown (host := "") (Or.inl (hw _ (List.mem_of_getElem? (i := 8) rfl))) Via.refl e68 (own_sta_keep S2 K70 all0) (g := (mkF m 19 #[.val (.int p0), .unset, .unset, .unset, .unset, .unset, .unset] [(.int (2 : Int32)), (.ref b60), (.ref b60)])) rfl (hb hby at_19)
  obtain ⟨cl72, Ar72, q72, S72, Ng72, H72, G72⟩ := id V68
  have hin72 : ¬ ((2 : Int32) < 0 ∨ cl72.slots.size ≤ ((2 : Int32)).toNatClampNeg) := inb_of S72 ⟨by decide, by decide⟩
  obtain ⟨T72, h72, X72, e72, W72, st72⟩ := stR X71 hx hZ e71 Ar72 (j := (2 : Int32)) hin72 rfl (Sto.ofV Ar72 q72 O60 (Ins.self (E2.keep K70))) (g := (mkF m 22 #[.val (.int p0), .unset, .unset, .unset, .unset, .unset, .unset] [(.ref s2), (.int (2 : Int32)), (.ref b60), (.ref b60)])) rfl rfl (hb hby at_22)
  have V72 : Arv Z h72 b60 k60 (.object "com/example/redwing/redwing/core/NoticeState") (29 : Int32) [(.ref s0), (.ref s1), (.ref s2), .null, .null, .null, .null, .null, .null, .null, .null, .null, .null, .null, .null, .null, .null, .null, .null, .null, .null, .null, .null, .null, .null, .null, .null, .null, .null] .null := Arv.set Ar72 q72 S72 Ng72 H72 G72 rfl W72 2 rfl (Nat.le_of_ble_eq_true rfl)
  have Z73 : n0 ≤ h72.size := Nat.le_trans Z69 (Keep.of_wr W72).1
  have K74 := K70.wr W72 (Or.inr sz_b60)
  have N72 := Fr.snoc X72 N68 g_b60
  obtain ⟨T75, X75, e75, st75⟩ := getS2 X72 hx hZ hown (host := "") (Or.inl (hw _ (List.mem_of_getElem? (i := 10) rfl))) Via.refl e72 (own_sta_keep S3 K74 all0) (g := (mkF m 25 #[.val (.int p0), .unset, .unset, .unset, .unset, .unset, .unset] [(.int (3 : Int32)), (.ref b60), (.ref b60)])) rfl (hb hby at_25)
  obtain ⟨cl76, Ar76, q76, S76, Ng76, H76, G76⟩ := id V72
  have hin76 : ¬ ((3 : Int32) < 0 ∨ cl76.slots.size ≤ ((3 : Int32)).toNatClampNeg) := inb_of S76 ⟨by decide, by decide⟩
  obtain ⟨T76, h76, X76, e76, W76, st76⟩ := stR X75 hx hZ e75 Ar76 (j := (3 : Int32)) hin76 rfl (Sto.ofV Ar76 q76 O60 (Ins.self (E3.keep K74))) (g := (mkF m 28 #[.val (.int p0), .unset, .unset, .unset, .unset, .unset, .unset] [(.ref s3), (.int (3 : Int32)), (.ref b60), (.ref b60)])) rfl rfl (hb hby at_28)
  have V76 : Arv Z h76 b60 k60 (.object "com/example/redwing/redwing/core/NoticeState") (29 : Int32) [(.ref s0), (.ref s1), (.ref s2), (.ref s3), .null, .null, .null, .null, .null, .null, .null, .null, .null, .null, .null, .null, .null, .null, .null, .null, .null, .null, .null, .null, .null, .null, .null, .null, .null] .null := Arv.set Ar76 q76 S76 Ng76 H76 G76 rfl W76 3 rfl (Nat.le_of_ble_eq_true rfl)
  have Z77 : n0 ≤ h76.size := Nat.le_trans Z73 (Keep.of_wr W76).1
  have K78 := K74.wr W76 (Or.inr sz_b60)
  have N76 := Fr.snoc X76 N72 g_b60
  obtain ⟨T79, X79, e79, st79⟩ := getS2 X76 hx hZ hown (host := "") (Or.inl (hw _ (List.mem_of_getElem? (i := 12) rfl))) Via.refl e76 (own_sta_keep S4 K78 all0) (g := (mkF m 31 #[.val (.int p0), .unset, .unset, .unset, .unset, .unset, .unset] [(.int (4 : Int32)), (.ref b60), (.ref b60)])) rfl (hb hby at_31)
  have k80 : ∀ t, Steps p.tables e below (T79.setTop (mkF m 34 #[.val (.int p0), .unset, .unset, .unset, .unset, .unset, .unset] [(.ref s4), (.int (4 : Int32)), (.ref b60), (.ref b60)])) t → Steps p.tables e below (s₁.setTop (mkF m 0 #[.val (.int p0), .unset, .unset, .unset, .unset, .unset, .unset] [])) t := by
    intro t h
    show Steps p.tables e below (s₁.setTop (mkF m 0 #[.val (.int p0), .unset, .unset, .unset, .unset, .unset, .unset] [])) _
    refine XS.bipush X0.here hx rfl (hb hby at_0) ?_
    show Steps p.tables e below (s₁.setTop (mkF m 2 #[.val (.int p0), .unset, .unset, .unset, .unset, .unset, .unset] [(.int (29 : Int32))])) _
    refine st60 _ ?_
    show Steps p.tables e below (T60.setTop (mkF m 5 #[.val (.int p0), .unset, .unset, .unset, .unset, .unset, .unset] [(.ref b60)])) _
    refine XS.dup X60.here hx rfl (hb hby at_5) rfl rfl ?_
    show Steps p.tables e below (T60.setTop (mkF m 6 #[.val (.int p0), .unset, .unset, .unset, .unset, .unset, .unset] [(.ref b60), (.ref b60)])) _
    refine XS.iconst X60.here hx rfl (hb hby at_6) ?_
    show Steps p.tables e below (T60.setTop (mkF m 7 #[.val (.int p0), .unset, .unset, .unset, .unset, .unset, .unset] [(.int (0 : Int32)), (.ref b60), (.ref b60)])) _
    refine st63 _ ?_
    show Steps p.tables e below (T63.setTop (mkF m 10 #[.val (.int p0), .unset, .unset, .unset, .unset, .unset, .unset] [(.ref s0), (.int (0 : Int32)), (.ref b60), (.ref b60)])) _
    refine st64 _ ?_
    show Steps p.tables e below (T64.setTop (mkF m 11 #[.val (.int p0), .unset, .unset, .unset, .unset, .unset, .unset] [(.ref b60)])) _
    refine XS.dup X64.here hx rfl (hb hby at_11) rfl rfl ?_
    show Steps p.tables e below (T64.setTop (mkF m 12 #[.val (.int p0), .unset, .unset, .unset, .unset, .unset, .unset] [(.ref b60), (.ref b60)])) _
    refine XS.iconst X64.here hx rfl (hb hby at_12) ?_
    show Steps p.tables e below (T64.setTop (mkF m 13 #[.val (.int p0), .unset, .unset, .unset, .unset, .unset, .unset] [(.int (1 : Int32)), (.ref b60), (.ref b60)])) _
    refine st67 _ ?_
    show Steps p.tables e below (T67.setTop (mkF m 16 #[.val (.int p0), .unset, .unset, .unset, .unset, .unset, .unset] [(.ref s1), (.int (1 : Int32)), (.ref b60), (.ref b60)])) _
    refine st68 _ ?_
    show Steps p.tables e below (T68.setTop (mkF m 17 #[.val (.int p0), .unset, .unset, .unset, .unset, .unset, .unset] [(.ref b60)])) _
    refine XS.dup X68.here hx rfl (hb hby at_17) rfl rfl ?_
    show Steps p.tables e below (T68.setTop (mkF m 18 #[.val (.int p0), .unset, .unset, .unset, .unset, .unset, .unset] [(.ref b60), (.ref b60)])) _
    refine XS.iconst X68.here hx rfl (hb hby at_18) ?_
    show Steps p.tables e below (T68.setTop (mkF m 19 #[.val (.int p0), .unset, .unset, .unset, .unset, .unset, .unset] [(.int (2 : Int32)), (.ref b60), (.ref b60)])) _
    refine st71 _ ?_
    show Steps p.tables e below (T71.setTop (mkF m 22 #[.val (.int p0), .unset, .unset, .unset, .unset, .unset, .unset] [(.ref s2), (.int (2 : Int32)), (.ref b60), (.ref b60)])) _
    refine st72 _ ?_
    show Steps p.tables e below (T72.setTop (mkF m 23 #[.val (.int p0), .unset, .unset, .unset, .unset, .unset, .unset] [(.ref b60)])) _
    refine XS.dup X72.here hx rfl (hb hby at_23) rfl rfl ?_
    show Steps p.tables e below (T72.setTop (mkF m 24 #[.val (.int p0), .unset, .unset, .unset, .unset, .unset, .unset] [(.ref b60), (.ref b60)])) _
    refine XS.iconst X72.here hx rfl (hb hby at_24) ?_
    show Steps p.tables e below (T72.setTop (mkF m 25 #[.val (.int p0), .unset, .unset, .unset, .unset, .unset, .unset] [(.int (3 : Int32)), (.ref b60), (.ref b60)])) _
    refine st75 _ ?_
    show Steps p.tables e below (T75.setTop (mkF m 28 #[.val (.int p0), .unset, .unset, .unset, .unset, .unset, .unset] [(.ref s3), (.int (3 : Int32)), (.ref b60), (.ref b60)])) _
    refine st76 _ ?_
    show Steps p.tables e below (T76.setTop (mkF m 29 #[.val (.int p0), .unset, .unset, .unset, .unset, .unset, .unset] [(.ref b60)])) _
    refine XS.dup X76.here hx rfl (hb hby at_29) rfl rfl ?_
    show Steps p.tables e below (T76.setTop (mkF m 30 #[.val (.int p0), .unset, .unset, .unset, .unset, .unset, .unset] [(.ref b60), (.ref b60)])) _
    refine XS.iconst X76.here hx rfl (hb hby at_30) ?_
    show Steps p.tables e below (T76.setTop (mkF m 31 #[.val (.int p0), .unset, .unset, .unset, .unset, .unset, .unset] [(.int (4 : Int32)), (.ref b60), (.ref b60)])) _
    refine st79 _ ?_
    exact h
  obtain ⟨cl81, Ar81, q81, S81, Ng81, H81, G81⟩ := id V76
  have hin81 : ¬ ((4 : Int32) < 0 ∨ cl81.slots.size ≤ ((4 : Int32)).toNatClampNeg) := inb_of S81 ⟨by decide, by decide⟩
  obtain ⟨T81, h81, X81, e81, W81, st81⟩ := stR X79 hx hZ e79 Ar81 (j := (4 : Int32)) hin81 rfl (Sto.ofV Ar81 q81 O60 (Ins.self (E4.keep K78))) (g := (mkF m 34 #[.val (.int p0), .unset, .unset, .unset, .unset, .unset, .unset] [(.ref s4), (.int (4 : Int32)), (.ref b60), (.ref b60)])) rfl rfl (hb hby at_34)
  have V81 : Arv Z h81 b60 k60 (.object "com/example/redwing/redwing/core/NoticeState") (29 : Int32) [(.ref s0), (.ref s1), (.ref s2), (.ref s3), (.ref s4), .null, .null, .null, .null, .null, .null, .null, .null, .null, .null, .null, .null, .null, .null, .null, .null, .null, .null, .null, .null, .null, .null, .null, .null] .null := Arv.set Ar81 q81 S81 Ng81 H81 G81 rfl W81 4 rfl (Nat.le_of_ble_eq_true rfl)
  have Z82 : n0 ≤ h81.size := Nat.le_trans Z77 (Keep.of_wr W81).1
  have K83 := K78.wr W81 (Or.inr sz_b60)
  have N81 := Fr.snoc X81 N76 g_b60
  obtain ⟨T84, X84, e84, st84⟩ := getS2 X81 hx hZ hown (host := "") (Or.inl (hw _ (List.mem_of_getElem? (i := 14) rfl))) Via.refl e81 (own_sta_keep S5 K83 all0) (g := (mkF m 37 #[.val (.int p0), .unset, .unset, .unset, .unset, .unset, .unset] [(.int (5 : Int32)), (.ref b60), (.ref b60)])) rfl (hb hby at_37)
  obtain ⟨cl85, Ar85, q85, S85, Ng85, H85, G85⟩ := id V81
  have hin85 : ¬ ((5 : Int32) < 0 ∨ cl85.slots.size ≤ ((5 : Int32)).toNatClampNeg) := inb_of S85 ⟨by decide, by decide⟩
  obtain ⟨T85, h85, X85, e85, W85, st85⟩ := stR X84 hx hZ e84 Ar85 (j := (5 : Int32)) hin85 rfl (Sto.ofV Ar85 q85 O60 (Ins.self (E5.keep K83))) (g := (mkF m 40 #[.val (.int p0), .unset, .unset, .unset, .unset, .unset, .unset] [(.ref s5), (.int (5 : Int32)), (.ref b60), (.ref b60)])) rfl rfl (hb hby at_40)
  have V85 : Arv Z h85 b60 k60 (.object "com/example/redwing/redwing/core/NoticeState") (29 : Int32) [(.ref s0), (.ref s1), (.ref s2), (.ref s3), (.ref s4), (.ref s5), .null, .null, .null, .null, .null, .null, .null, .null, .null, .null, .null, .null, .null, .null, .null, .null, .null, .null, .null, .null, .null, .null, .null] .null := Arv.set Ar85 q85 S85 Ng85 H85 G85 rfl W85 5 rfl (Nat.le_of_ble_eq_true rfl)
  have Z86 : n0 ≤ h85.size := Nat.le_trans Z82 (Keep.of_wr W85).1
  have K87 := K83.wr W85 (Or.inr sz_b60)
  have N85 := Fr.snoc X85 N81 g_b60
  obtain ⟨T88, X88, e88, st88⟩ := getS2 X85 hx hZ hown (host := "") (Or.inl (hw _ (List.mem_of_getElem? (i := 16) rfl))) Via.refl e85 (own_sta_keep S6 K87 all0) (g := (mkF m 44 #[.val (.int p0), .unset, .unset, .unset, .unset, .unset, .unset] [(.int (6 : Int32)), (.ref b60), (.ref b60)])) rfl (hb hby at_44)
  obtain ⟨cl89, Ar89, q89, S89, Ng89, H89, G89⟩ := id V85
  have hin89 : ¬ ((6 : Int32) < 0 ∨ cl89.slots.size ≤ ((6 : Int32)).toNatClampNeg) := inb_of S89 ⟨by decide, by decide⟩
  obtain ⟨T89, h89, X89, e89, W89, st89⟩ := stR X88 hx hZ e88 Ar89 (j := (6 : Int32)) hin89 rfl (Sto.ofV Ar89 q89 O60 (Ins.self (E6.keep K87))) (g := (mkF m 47 #[.val (.int p0), .unset, .unset, .unset, .unset, .unset, .unset] [(.ref s6), (.int (6 : Int32)), (.ref b60), (.ref b60)])) rfl rfl (hb hby at_47)
  have V89 : Arv Z h89 b60 k60 (.object "com/example/redwing/redwing/core/NoticeState") (29 : Int32) [(.ref s0), (.ref s1), (.ref s2), (.ref s3), (.ref s4), (.ref s5), (.ref s6), .null, .null, .null, .null, .null, .null, .null, .null, .null, .null, .null, .null, .null, .null, .null, .null, .null, .null, .null, .null, .null, .null] .null := Arv.set Ar89 q89 S89 Ng89 H89 G89 rfl W89 6 rfl (Nat.le_of_ble_eq_true rfl)
  have Z90 : n0 ≤ h89.size := Nat.le_trans Z86 (Keep.of_wr W89).1
  have K91 := K87.wr W89 (Or.inr sz_b60)
  have N89 := Fr.snoc X89 N85 g_b60
  obtain ⟨T92, X92, e92, st92⟩ := getS2 X89 hx hZ hown (host := "") (Or.inl (hw _ (List.mem_of_getElem? (i := 18) rfl))) Via.refl e89 (own_sta_keep S7 K91 all0) (g := (mkF m 51 #[.val (.int p0), .unset, .unset, .unset, .unset, .unset, .unset] [(.int (7 : Int32)), (.ref b60), (.ref b60)])) rfl (hb hby at_51)
  obtain ⟨cl93, Ar93, q93, S93, Ng93, H93, G93⟩ := id V89
  have hin93 : ¬ ((7 : Int32) < 0 ∨ cl93.slots.size ≤ ((7 : Int32)).toNatClampNeg) := inb_of S93 ⟨by decide, by decide⟩
  obtain ⟨T93, h93, X93, e93, W93, st93⟩ := stR X92 hx hZ e92 Ar93 (j := (7 : Int32)) hin93 rfl (Sto.ofV Ar93 q93 O60 (Ins.self (E7.keep K91))) (g := (mkF m 54 #[.val (.int p0), .unset, .unset, .unset, .unset, .unset, .unset] [(.ref s7), (.int (7 : Int32)), (.ref b60), (.ref b60)])) rfl rfl (hb hby at_54)
  have V93 : Arv Z h93 b60 k60 (.object "com/example/redwing/redwing/core/NoticeState") (29 : Int32) [(.ref s0), (.ref s1), (.ref s2), (.ref s3), (.ref s4), (.ref s5), (.ref s6), (.ref s7), .null, .null, .null, .null, .null, .null, .null, .null, .null, .null, .null, .null, .null, .null, .null, .null, .null, .null, .null, .null, .null] .null := Arv.set Ar93 q93 S93 Ng93 H93 G93 rfl W93 7 rfl (Nat.le_of_ble_eq_true rfl)
  have Z94 : n0 ≤ h93.size := Nat.le_trans Z90 (Keep.of_wr W93).1
  have K95 := K91.wr W93 (Or.inr sz_b60)
  have N93 := Fr.snoc X93 N89 g_b60
  obtain ⟨T96, X96, e96, st96⟩ := getS2 X93 hx hZ hown (host := "") (Or.inl (hw _ (List.mem_of_getElem? (i := 20) rfl))) Via.refl e93 (own_sta_keep S8 K95 all0) (g := (mkF m 58 #[.val (.int p0), .unset, .unset, .unset, .unset, .unset, .unset] [(.int (8 : Int32)), (.ref b60), (.ref b60)])) rfl (hb hby at_58)
  obtain ⟨cl97, Ar97, q97, S97, Ng97, H97, G97⟩ := id V93
  have hin97 : ¬ ((8 : Int32) < 0 ∨ cl97.slots.size ≤ ((8 : Int32)).toNatClampNeg) := inb_of S97 ⟨by decide, by decide⟩
  obtain ⟨T97, h97, X97, e97, W97, st97⟩ := stR X96 hx hZ e96 Ar97 (j := (8 : Int32)) hin97 rfl (Sto.ofV Ar97 q97 O60 (Ins.self (E8.keep K95))) (g := (mkF m 61 #[.val (.int p0), .unset, .unset, .unset, .unset, .unset, .unset] [(.ref s8), (.int (8 : Int32)), (.ref b60), (.ref b60)])) rfl rfl (hb hby at_61)
  have V97 : Arv Z h97 b60 k60 (.object "com/example/redwing/redwing/core/NoticeState") (29 : Int32) [(.ref s0), (.ref s1), (.ref s2), (.ref s3), (.ref s4), (.ref s5), (.ref s6), (.ref s7), (.ref s8), .null, .null, .null, .null, .null, .null, .null, .null, .null, .null, .null, .null, .null, .null, .null, .null, .null, .null, .null, .null] .null := Arv.set Ar97 q97 S97 Ng97 H97 G97 rfl W97 8 rfl (Nat.le_of_ble_eq_true rfl)
  have Z98 : n0 ≤ h97.size := Nat.le_trans Z94 (Keep.of_wr W97).1
  have K99 := K95.wr W97 (Or.inr sz_b60)
  have N97 := Fr.snoc X97 N93 g_b60
  obtain ⟨T100, X100, e100, st100⟩ := getS2 X97 hx hZ hown (host := "") (Or.inl (hw _ (List.mem_of_getElem? (i := 22) rfl))) Via.refl e97 (own_sta_keep S9 K99 all0) (g := (mkF m 65 #[.val (.int p0), .unset, .unset, .unset, .unset, .unset, .unset] [(.int (9 : Int32)), (.ref b60), (.ref b60)])) rfl (hb hby at_65)
  obtain ⟨cl101, Ar101, q101, S101, Ng101, H101, G101⟩ := id V97
  have hin101 : ¬ ((9 : Int32) < 0 ∨ cl101.slots.size ≤ ((9 : Int32)).toNatClampNeg) := inb_of S101 ⟨by decide, by decide⟩
  obtain ⟨T101, h101, X101, e101, W101, st101⟩ := stR X100 hx hZ e100 Ar101 (j := (9 : Int32)) hin101 rfl (Sto.ofV Ar101 q101 O60 (Ins.self (E9.keep K99))) (g := (mkF m 68 #[.val (.int p0), .unset, .unset, .unset, .unset, .unset, .unset] [(.ref s9), (.int (9 : Int32)), (.ref b60), (.ref b60)])) rfl rfl (hb hby at_68)
  have V101 : Arv Z h101 b60 k60 (.object "com/example/redwing/redwing/core/NoticeState") (29 : Int32) [(.ref s0), (.ref s1), (.ref s2), (.ref s3), (.ref s4), (.ref s5), (.ref s6), (.ref s7), (.ref s8), (.ref s9), .null, .null, .null, .null, .null, .null, .null, .null, .null, .null, .null, .null, .null, .null, .null, .null, .null, .null, .null] .null := Arv.set Ar101 q101 S101 Ng101 H101 G101 rfl W101 9 rfl (Nat.le_of_ble_eq_true rfl)
  have Z102 : n0 ≤ h101.size := Nat.le_trans Z98 (Keep.of_wr W101).1
  have K103 := K99.wr W101 (Or.inr sz_b60)
  have N101 := Fr.snoc X101 N97 g_b60
  have k104 : ∀ t, Steps p.tables e below (T101.setTop (mkF m 69 #[.val (.int p0), .unset, .unset, .unset, .unset, .unset, .unset] [(.ref b60)])) t → Steps p.tables e below (s₁.setTop (mkF m 0 #[.val (.int p0), .unset, .unset, .unset, .unset, .unset, .unset] [])) t := by
    intro t h
    refine k80 t ?_
    show Steps p.tables e below (T79.setTop (mkF m 34 #[.val (.int p0), .unset, .unset, .unset, .unset, .unset, .unset] [(.ref s4), (.int (4 : Int32)), (.ref b60), (.ref b60)])) _
    refine st81 _ ?_
    show Steps p.tables e below (T81.setTop (mkF m 35 #[.val (.int p0), .unset, .unset, .unset, .unset, .unset, .unset] [(.ref b60)])) _
    refine XS.dup X81.here hx rfl (hb hby at_35) rfl rfl ?_
    show Steps p.tables e below (T81.setTop (mkF m 36 #[.val (.int p0), .unset, .unset, .unset, .unset, .unset, .unset] [(.ref b60), (.ref b60)])) _
    refine XS.iconst X81.here hx rfl (hb hby at_36) ?_
    show Steps p.tables e below (T81.setTop (mkF m 37 #[.val (.int p0), .unset, .unset, .unset, .unset, .unset, .unset] [(.int (5 : Int32)), (.ref b60), (.ref b60)])) _
    refine st84 _ ?_
    show Steps p.tables e below (T84.setTop (mkF m 40 #[.val (.int p0), .unset, .unset, .unset, .unset, .unset, .unset] [(.ref s5), (.int (5 : Int32)), (.ref b60), (.ref b60)])) _
    refine st85 _ ?_
    show Steps p.tables e below (T85.setTop (mkF m 41 #[.val (.int p0), .unset, .unset, .unset, .unset, .unset, .unset] [(.ref b60)])) _
    refine XS.dup X85.here hx rfl (hb hby at_41) rfl rfl ?_
    show Steps p.tables e below (T85.setTop (mkF m 42 #[.val (.int p0), .unset, .unset, .unset, .unset, .unset, .unset] [(.ref b60), (.ref b60)])) _
    refine XS.bipush X85.here hx rfl (hb hby at_42) ?_
    show Steps p.tables e below (T85.setTop (mkF m 44 #[.val (.int p0), .unset, .unset, .unset, .unset, .unset, .unset] [(.int (6 : Int32)), (.ref b60), (.ref b60)])) _
    refine st88 _ ?_
    show Steps p.tables e below (T88.setTop (mkF m 47 #[.val (.int p0), .unset, .unset, .unset, .unset, .unset, .unset] [(.ref s6), (.int (6 : Int32)), (.ref b60), (.ref b60)])) _
    refine st89 _ ?_
    show Steps p.tables e below (T89.setTop (mkF m 48 #[.val (.int p0), .unset, .unset, .unset, .unset, .unset, .unset] [(.ref b60)])) _
    refine XS.dup X89.here hx rfl (hb hby at_48) rfl rfl ?_
    show Steps p.tables e below (T89.setTop (mkF m 49 #[.val (.int p0), .unset, .unset, .unset, .unset, .unset, .unset] [(.ref b60), (.ref b60)])) _
    refine XS.bipush X89.here hx rfl (hb hby at_49) ?_
    show Steps p.tables e below (T89.setTop (mkF m 51 #[.val (.int p0), .unset, .unset, .unset, .unset, .unset, .unset] [(.int (7 : Int32)), (.ref b60), (.ref b60)])) _
    refine st92 _ ?_
    show Steps p.tables e below (T92.setTop (mkF m 54 #[.val (.int p0), .unset, .unset, .unset, .unset, .unset, .unset] [(.ref s7), (.int (7 : Int32)), (.ref b60), (.ref b60)])) _
    refine st93 _ ?_
    show Steps p.tables e below (T93.setTop (mkF m 55 #[.val (.int p0), .unset, .unset, .unset, .unset, .unset, .unset] [(.ref b60)])) _
    refine XS.dup X93.here hx rfl (hb hby at_55) rfl rfl ?_
    show Steps p.tables e below (T93.setTop (mkF m 56 #[.val (.int p0), .unset, .unset, .unset, .unset, .unset, .unset] [(.ref b60), (.ref b60)])) _
    refine XS.bipush X93.here hx rfl (hb hby at_56) ?_
    show Steps p.tables e below (T93.setTop (mkF m 58 #[.val (.int p0), .unset, .unset, .unset, .unset, .unset, .unset] [(.int (8 : Int32)), (.ref b60), (.ref b60)])) _
    refine st96 _ ?_
    show Steps p.tables e below (T96.setTop (mkF m 61 #[.val (.int p0), .unset, .unset, .unset, .unset, .unset, .unset] [(.ref s8), (.int (8 : Int32)), (.ref b60), (.ref b60)])) _
    refine st97 _ ?_
    show Steps p.tables e below (T97.setTop (mkF m 62 #[.val (.int p0), .unset, .unset, .unset, .unset, .unset, .unset] [(.ref b60)])) _
    refine XS.dup X97.here hx rfl (hb hby at_62) rfl rfl ?_
    show Steps p.tables e below (T97.setTop (mkF m 63 #[.val (.int p0), .unset, .unset, .unset, .unset, .unset, .unset] [(.ref b60), (.ref b60)])) _
    refine XS.bipush X97.here hx rfl (hb hby at_63) ?_
    show Steps p.tables e below (T97.setTop (mkF m 65 #[.val (.int p0), .unset, .unset, .unset, .unset, .unset, .unset] [(.int (9 : Int32)), (.ref b60), (.ref b60)])) _
    refine st100 _ ?_
    show Steps p.tables e below (T100.setTop (mkF m 68 #[.val (.int p0), .unset, .unset, .unset, .unset, .unset, .unset] [(.ref s9), (.int (9 : Int32)), (.ref b60), (.ref b60)])) _
    refine st101 _ ?_
    exact h
  obtain ⟨T105, X105, e105, st105⟩ := getS2 X101 hx hZ hown (host := "") (Or.inl (hw _ (List.mem_of_getElem? (i := 24) rfl))) Via.refl e101 (own_sta_keep S10 K103 all0) (g := (mkF m 72 #[.val (.int p0), .unset, .unset, .unset, .unset, .unset, .unset] [(.int (10 : Int32)), (.ref b60), (.ref b60)])) rfl (hb hby at_72)
  obtain ⟨cl106, Ar106, q106, S106, Ng106, H106, G106⟩ := id V101
  have hin106 : ¬ ((10 : Int32) < 0 ∨ cl106.slots.size ≤ ((10 : Int32)).toNatClampNeg) := inb_of S106 ⟨by decide, by decide⟩
  obtain ⟨T106, h106, X106, e106, W106, st106⟩ := stR X105 hx hZ e105 Ar106 (j := (10 : Int32)) hin106 rfl (Sto.ofV Ar106 q106 O60 (Ins.self (E10.keep K103))) (g := (mkF m 75 #[.val (.int p0), .unset, .unset, .unset, .unset, .unset, .unset] [(.ref s10), (.int (10 : Int32)), (.ref b60), (.ref b60)])) rfl rfl (hb hby at_75)
  have V106 : Arv Z h106 b60 k60 (.object "com/example/redwing/redwing/core/NoticeState") (29 : Int32) [(.ref s0), (.ref s1), (.ref s2), (.ref s3), (.ref s4), (.ref s5), (.ref s6), (.ref s7), (.ref s8), (.ref s9), (.ref s10), .null, .null, .null, .null, .null, .null, .null, .null, .null, .null, .null, .null, .null, .null, .null, .null, .null, .null] .null := Arv.set Ar106 q106 S106 Ng106 H106 G106 rfl W106 10 rfl (Nat.le_of_ble_eq_true rfl)
  have Z107 : n0 ≤ h106.size := Nat.le_trans Z102 (Keep.of_wr W106).1
  have K108 := K103.wr W106 (Or.inr sz_b60)
  have N106 := Fr.snoc X106 N101 g_b60
  obtain ⟨T109, X109, e109, st109⟩ := getS2 X106 hx hZ hown (host := "") (Or.inl (hw _ (List.mem_of_getElem? (i := 26) rfl))) Via.refl e106 (own_sta_keep S11 K108 all0) (g := (mkF m 79 #[.val (.int p0), .unset, .unset, .unset, .unset, .unset, .unset] [(.int (11 : Int32)), (.ref b60), (.ref b60)])) rfl (hb hby at_79)
  obtain ⟨cl110, Ar110, q110, S110, Ng110, H110, G110⟩ := id V106
  have hin110 : ¬ ((11 : Int32) < 0 ∨ cl110.slots.size ≤ ((11 : Int32)).toNatClampNeg) := inb_of S110 ⟨by decide, by decide⟩
  obtain ⟨T110, h110, X110, e110, W110, st110⟩ := stR X109 hx hZ e109 Ar110 (j := (11 : Int32)) hin110 rfl (Sto.ofV Ar110 q110 O60 (Ins.self (E11.keep K108))) (g := (mkF m 82 #[.val (.int p0), .unset, .unset, .unset, .unset, .unset, .unset] [(.ref s11), (.int (11 : Int32)), (.ref b60), (.ref b60)])) rfl rfl (hb hby at_82)
  have V110 : Arv Z h110 b60 k60 (.object "com/example/redwing/redwing/core/NoticeState") (29 : Int32) [(.ref s0), (.ref s1), (.ref s2), (.ref s3), (.ref s4), (.ref s5), (.ref s6), (.ref s7), (.ref s8), (.ref s9), (.ref s10), (.ref s11), .null, .null, .null, .null, .null, .null, .null, .null, .null, .null, .null, .null, .null, .null, .null, .null, .null] .null := Arv.set Ar110 q110 S110 Ng110 H110 G110 rfl W110 11 rfl (Nat.le_of_ble_eq_true rfl)
  have Z111 : n0 ≤ h110.size := Nat.le_trans Z107 (Keep.of_wr W110).1
  have K112 := K108.wr W110 (Or.inr sz_b60)
  have N110 := Fr.snoc X110 N106 g_b60
  obtain ⟨T113, X113, e113, st113⟩ := getS2 X110 hx hZ hown (host := "") (Or.inl (hw _ (List.mem_of_getElem? (i := 28) rfl))) Via.refl e110 (own_sta_keep S12 K112 all0) (g := (mkF m 86 #[.val (.int p0), .unset, .unset, .unset, .unset, .unset, .unset] [(.int (12 : Int32)), (.ref b60), (.ref b60)])) rfl (hb hby at_86)
  obtain ⟨cl114, Ar114, q114, S114, Ng114, H114, G114⟩ := id V110
  have hin114 : ¬ ((12 : Int32) < 0 ∨ cl114.slots.size ≤ ((12 : Int32)).toNatClampNeg) := inb_of S114 ⟨by decide, by decide⟩
  obtain ⟨T114, h114, X114, e114, W114, st114⟩ := stR X113 hx hZ e113 Ar114 (j := (12 : Int32)) hin114 rfl (Sto.ofV Ar114 q114 O60 (Ins.self (E12.keep K112))) (g := (mkF m 89 #[.val (.int p0), .unset, .unset, .unset, .unset, .unset, .unset] [(.ref s12), (.int (12 : Int32)), (.ref b60), (.ref b60)])) rfl rfl (hb hby at_89)
  have V114 : Arv Z h114 b60 k60 (.object "com/example/redwing/redwing/core/NoticeState") (29 : Int32) [(.ref s0), (.ref s1), (.ref s2), (.ref s3), (.ref s4), (.ref s5), (.ref s6), (.ref s7), (.ref s8), (.ref s9), (.ref s10), (.ref s11), (.ref s12), .null, .null, .null, .null, .null, .null, .null, .null, .null, .null, .null, .null, .null, .null, .null, .null] .null := Arv.set Ar114 q114 S114 Ng114 H114 G114 rfl W114 12 rfl (Nat.le_of_ble_eq_true rfl)
  have Z115 : n0 ≤ h114.size := Nat.le_trans Z111 (Keep.of_wr W114).1
  have K116 := K112.wr W114 (Or.inr sz_b60)
  have N114 := Fr.snoc X114 N110 g_b60
  obtain ⟨T117, X117, e117, st117⟩ := getS2 X114 hx hZ hown (host := "") (Or.inl (hw _ (List.mem_of_getElem? (i := 30) rfl))) Via.refl e114 (own_sta_keep S13 K116 all0) (g := (mkF m 93 #[.val (.int p0), .unset, .unset, .unset, .unset, .unset, .unset] [(.int (13 : Int32)), (.ref b60), (.ref b60)])) rfl (hb hby at_93)
  obtain ⟨cl118, Ar118, q118, S118, Ng118, H118, G118⟩ := id V114
  have hin118 : ¬ ((13 : Int32) < 0 ∨ cl118.slots.size ≤ ((13 : Int32)).toNatClampNeg) := inb_of S118 ⟨by decide, by decide⟩
  obtain ⟨T118, h118, X118, e118, W118, st118⟩ := stR X117 hx hZ e117 Ar118 (j := (13 : Int32)) hin118 rfl (Sto.ofV Ar118 q118 O60 (Ins.self (E13.keep K116))) (g := (mkF m 96 #[.val (.int p0), .unset, .unset, .unset, .unset, .unset, .unset] [(.ref s13), (.int (13 : Int32)), (.ref b60), (.ref b60)])) rfl rfl (hb hby at_96)
  have V118 : Arv Z h118 b60 k60 (.object "com/example/redwing/redwing/core/NoticeState") (29 : Int32) [(.ref s0), (.ref s1), (.ref s2), (.ref s3), (.ref s4), (.ref s5), (.ref s6), (.ref s7), (.ref s8), (.ref s9), (.ref s10), (.ref s11), (.ref s12), (.ref s13), .null, .null, .null, .null, .null, .null, .null, .null, .null, .null, .null, .null, .null, .null, .null] .null := Arv.set Ar118 q118 S118 Ng118 H118 G118 rfl W118 13 rfl (Nat.le_of_ble_eq_true rfl)
  have Z119 : n0 ≤ h118.size := Nat.le_trans Z115 (Keep.of_wr W118).1
  have K120 := K116.wr W118 (Or.inr sz_b60)
  have N118 := Fr.snoc X118 N114 g_b60
  obtain ⟨T121, X121, e121, st121⟩ := getS2 X118 hx hZ hown (host := "") (Or.inl (hw _ (List.mem_of_getElem? (i := 32) rfl))) Via.refl e118 (own_sta_keep S14 K120 all0) (g := (mkF m 100 #[.val (.int p0), .unset, .unset, .unset, .unset, .unset, .unset] [(.int (14 : Int32)), (.ref b60), (.ref b60)])) rfl (hb hby at_100)
  obtain ⟨cl122, Ar122, q122, S122, Ng122, H122, G122⟩ := id V118
  have hin122 : ¬ ((14 : Int32) < 0 ∨ cl122.slots.size ≤ ((14 : Int32)).toNatClampNeg) := inb_of S122 ⟨by decide, by decide⟩
  obtain ⟨T122, h122, X122, e122, W122, st122⟩ := stR X121 hx hZ e121 Ar122 (j := (14 : Int32)) hin122 rfl (Sto.ofV Ar122 q122 O60 (Ins.self (E14.keep K120))) (g := (mkF m 103 #[.val (.int p0), .unset, .unset, .unset, .unset, .unset, .unset] [(.ref s14), (.int (14 : Int32)), (.ref b60), (.ref b60)])) rfl rfl (hb hby at_103)
  have V122 : Arv Z h122 b60 k60 (.object "com/example/redwing/redwing/core/NoticeState") (29 : Int32) [(.ref s0), (.ref s1), (.ref s2), (.ref s3), (.ref s4), (.ref s5), (.ref s6), (.ref s7), (.ref s8), (.ref s9), (.ref s10), (.ref s11), (.ref s12), (.ref s13), (.ref s14), .null, .null, .null, .null, .null, .null, .null, .null, .null, .null, .null, .null, .null, .null] .null := Arv.set Ar122 q122 S122 Ng122 H122 G122 rfl W122 14 rfl (Nat.le_of_ble_eq_true rfl)
  have Z123 : n0 ≤ h122.size := Nat.le_trans Z119 (Keep.of_wr W122).1
  have K124 := K120.wr W122 (Or.inr sz_b60)
  have N122 := Fr.snoc X122 N118 g_b60
  have k125 : ∀ t, Steps p.tables e below (T122.setTop (mkF m 105 #[.val (.int p0), .unset, .unset, .unset, .unset, .unset, .unset] [(.ref b60), (.ref b60)])) t → Steps p.tables e below (s₁.setTop (mkF m 0 #[.val (.int p0), .unset, .unset, .unset, .unset, .unset, .unset] [])) t := by
    intro t h
    refine k104 t ?_
    show Steps p.tables e below (T101.setTop (mkF m 69 #[.val (.int p0), .unset, .unset, .unset, .unset, .unset, .unset] [(.ref b60)])) _
    refine XS.dup X101.here hx rfl (hb hby at_69) rfl rfl ?_
    show Steps p.tables e below (T101.setTop (mkF m 70 #[.val (.int p0), .unset, .unset, .unset, .unset, .unset, .unset] [(.ref b60), (.ref b60)])) _
    refine XS.bipush X101.here hx rfl (hb hby at_70) ?_
    show Steps p.tables e below (T101.setTop (mkF m 72 #[.val (.int p0), .unset, .unset, .unset, .unset, .unset, .unset] [(.int (10 : Int32)), (.ref b60), (.ref b60)])) _
    refine st105 _ ?_
    show Steps p.tables e below (T105.setTop (mkF m 75 #[.val (.int p0), .unset, .unset, .unset, .unset, .unset, .unset] [(.ref s10), (.int (10 : Int32)), (.ref b60), (.ref b60)])) _
    refine st106 _ ?_
    show Steps p.tables e below (T106.setTop (mkF m 76 #[.val (.int p0), .unset, .unset, .unset, .unset, .unset, .unset] [(.ref b60)])) _
    refine XS.dup X106.here hx rfl (hb hby at_76) rfl rfl ?_
    show Steps p.tables e below (T106.setTop (mkF m 77 #[.val (.int p0), .unset, .unset, .unset, .unset, .unset, .unset] [(.ref b60), (.ref b60)])) _
    refine XS.bipush X106.here hx rfl (hb hby at_77) ?_
    show Steps p.tables e below (T106.setTop (mkF m 79 #[.val (.int p0), .unset, .unset, .unset, .unset, .unset, .unset] [(.int (11 : Int32)), (.ref b60), (.ref b60)])) _
    refine st109 _ ?_
    show Steps p.tables e below (T109.setTop (mkF m 82 #[.val (.int p0), .unset, .unset, .unset, .unset, .unset, .unset] [(.ref s11), (.int (11 : Int32)), (.ref b60), (.ref b60)])) _
    refine st110 _ ?_
    show Steps p.tables e below (T110.setTop (mkF m 83 #[.val (.int p0), .unset, .unset, .unset, .unset, .unset, .unset] [(.ref b60)])) _
    refine XS.dup X110.here hx rfl (hb hby at_83) rfl rfl ?_
    show Steps p.tables e below (T110.setTop (mkF m 84 #[.val (.int p0), .unset, .unset, .unset, .unset, .unset, .unset] [(.ref b60), (.ref b60)])) _
    refine XS.bipush X110.here hx rfl (hb hby at_84) ?_
    show Steps p.tables e below (T110.setTop (mkF m 86 #[.val (.int p0), .unset, .unset, .unset, .unset, .unset, .unset] [(.int (12 : Int32)), (.ref b60), (.ref b60)])) _
    refine st113 _ ?_
    show Steps p.tables e below (T113.setTop (mkF m 89 #[.val (.int p0), .unset, .unset, .unset, .unset, .unset, .unset] [(.ref s12), (.int (12 : Int32)), (.ref b60), (.ref b60)])) _
    refine st114 _ ?_
    show Steps p.tables e below (T114.setTop (mkF m 90 #[.val (.int p0), .unset, .unset, .unset, .unset, .unset, .unset] [(.ref b60)])) _
    refine XS.dup X114.here hx rfl (hb hby at_90) rfl rfl ?_
    show Steps p.tables e below (T114.setTop (mkF m 91 #[.val (.int p0), .unset, .unset, .unset, .unset, .unset, .unset] [(.ref b60), (.ref b60)])) _
    refine XS.bipush X114.here hx rfl (hb hby at_91) ?_
    show Steps p.tables e below (T114.setTop (mkF m 93 #[.val (.int p0), .unset, .unset, .unset, .unset, .unset, .unset] [(.int (13 : Int32)), (.ref b60), (.ref b60)])) _
    refine st117 _ ?_
    show Steps p.tables e below (T117.setTop (mkF m 96 #[.val (.int p0), .unset, .unset, .unset, .unset, .unset, .unset] [(.ref s13), (.int (13 : Int32)), (.ref b60), (.ref b60)])) _
    refine st118 _ ?_
    show Steps p.tables e below (T118.setTop (mkF m 97 #[.val (.int p0), .unset, .unset, .unset, .unset, .unset, .unset] [(.ref b60)])) _
    refine XS.dup X118.here hx rfl (hb hby at_97) rfl rfl ?_
    show Steps p.tables e below (T118.setTop (mkF m 98 #[.val (.int p0), .unset, .unset, .unset, .unset, .unset, .unset] [(.ref b60), (.ref b60)])) _
    refine XS.bipush X118.here hx rfl (hb hby at_98) ?_
    show Steps p.tables e below (T118.setTop (mkF m 100 #[.val (.int p0), .unset, .unset, .unset, .unset, .unset, .unset] [(.int (14 : Int32)), (.ref b60), (.ref b60)])) _
    refine st121 _ ?_
    show Steps p.tables e below (T121.setTop (mkF m 103 #[.val (.int p0), .unset, .unset, .unset, .unset, .unset, .unset] [(.ref s14), (.int (14 : Int32)), (.ref b60), (.ref b60)])) _
    refine st122 _ ?_
    show Steps p.tables e below (T122.setTop (mkF m 104 #[.val (.int p0), .unset, .unset, .unset, .unset, .unset, .unset] [(.ref b60)])) _
    refine XS.dup X122.here hx rfl (hb hby at_104) rfl rfl ?_
    exact h
  obtain ⟨T126, X126, e126, st126⟩ := getS2 X122 hx hZ hown (host := "") (Or.inl (hw _ (List.mem_of_getElem? (i := 34) rfl))) Via.refl e122 (own_sta_keep S15 K124 all0) (g := (mkF m 107 #[.val (.int p0), .unset, .unset, .unset, .unset, .unset, .unset] [(.int (15 : Int32)), (.ref b60), (.ref b60)])) rfl (hb hby at_107)
  obtain ⟨cl127, Ar127, q127, S127, Ng127, H127, G127⟩ := id V122
  have hin127 : ¬ ((15 : Int32) < 0 ∨ cl127.slots.size ≤ ((15 : Int32)).toNatClampNeg) := inb_of S127 ⟨by decide, by decide⟩
  obtain ⟨T127, h127, X127, e127, W127, st127⟩ := stR X126 hx hZ e126 Ar127 (j := (15 : Int32)) hin127 rfl (Sto.ofV Ar127 q127 O60 (Ins.self (E15.keep K124))) (g := (mkF m 110 #[.val (.int p0), .unset, .unset, .unset, .unset, .unset, .unset] [(.ref s15), (.int (15 : Int32)), (.ref b60), (.ref b60)])) rfl rfl (hb hby at_110)
  have V127 : Arv Z h127 b60 k60 (.object "com/example/redwing/redwing/core/NoticeState") (29 : Int32) [(.ref s0), (.ref s1), (.ref s2), (.ref s3), (.ref s4), (.ref s5), (.ref s6), (.ref s7), (.ref s8), (.ref s9), (.ref s10), (.ref s11), (.ref s12), (.ref s13), (.ref s14), (.ref s15), .null, .null, .null, .null, .null, .null, .null, .null, .null, .null, .null, .null, .null] .null := Arv.set Ar127 q127 S127 Ng127 H127 G127 rfl W127 15 rfl (Nat.le_of_ble_eq_true rfl)
  have Z128 : n0 ≤ h127.size := Nat.le_trans Z123 (Keep.of_wr W127).1
  have K129 := K124.wr W127 (Or.inr sz_b60)
  have N127 := Fr.snoc X127 N122 g_b60
  obtain ⟨T130, X130, e130, st130⟩ := getS2 X127 hx hZ hown (host := "") (Or.inl (hw _ (List.mem_of_getElem? (i := 36) rfl))) Via.refl e127 (own_sta_keep S16 K129 all0) (g := (mkF m 114 #[.val (.int p0), .unset, .unset, .unset, .unset, .unset, .unset] [(.int (16 : Int32)), (.ref b60), (.ref b60)])) rfl (hb hby at_114)
  obtain ⟨cl131, Ar131, q131, S131, Ng131, H131, G131⟩ := id V127
  have hin131 : ¬ ((16 : Int32) < 0 ∨ cl131.slots.size ≤ ((16 : Int32)).toNatClampNeg) := inb_of S131 ⟨by decide, by decide⟩
  obtain ⟨T131, h131, X131, e131, W131, st131⟩ := stR X130 hx hZ e130 Ar131 (j := (16 : Int32)) hin131 rfl (Sto.ofV Ar131 q131 O60 (Ins.self (E16.keep K129))) (g := (mkF m 117 #[.val (.int p0), .unset, .unset, .unset, .unset, .unset, .unset] [(.ref s16), (.int (16 : Int32)), (.ref b60), (.ref b60)])) rfl rfl (hb hby at_117)
  have V131 : Arv Z h131 b60 k60 (.object "com/example/redwing/redwing/core/NoticeState") (29 : Int32) [(.ref s0), (.ref s1), (.ref s2), (.ref s3), (.ref s4), (.ref s5), (.ref s6), (.ref s7), (.ref s8), (.ref s9), (.ref s10), (.ref s11), (.ref s12), (.ref s13), (.ref s14), (.ref s15), (.ref s16), .null, .null, .null, .null, .null, .null, .null, .null, .null, .null, .null, .null] .null := Arv.set Ar131 q131 S131 Ng131 H131 G131 rfl W131 16 rfl (Nat.le_of_ble_eq_true rfl)
  have Z132 : n0 ≤ h131.size := Nat.le_trans Z128 (Keep.of_wr W131).1
  have K133 := K129.wr W131 (Or.inr sz_b60)
  have N131 := Fr.snoc X131 N127 g_b60
  obtain ⟨T134, X134, e134, st134⟩ := getS2 X131 hx hZ hown (host := "") (Or.inl (hw _ (List.mem_of_getElem? (i := 38) rfl))) Via.refl e131 (own_sta_keep S17 K133 all0) (g := (mkF m 121 #[.val (.int p0), .unset, .unset, .unset, .unset, .unset, .unset] [(.int (17 : Int32)), (.ref b60), (.ref b60)])) rfl (hb hby at_121)
  obtain ⟨cl135, Ar135, q135, S135, Ng135, H135, G135⟩ := id V131
  have hin135 : ¬ ((17 : Int32) < 0 ∨ cl135.slots.size ≤ ((17 : Int32)).toNatClampNeg) := inb_of S135 ⟨by decide, by decide⟩
  obtain ⟨T135, h135, X135, e135, W135, st135⟩ := stR X134 hx hZ e134 Ar135 (j := (17 : Int32)) hin135 rfl (Sto.ofV Ar135 q135 O60 (Ins.self (E17.keep K133))) (g := (mkF m 124 #[.val (.int p0), .unset, .unset, .unset, .unset, .unset, .unset] [(.ref s17), (.int (17 : Int32)), (.ref b60), (.ref b60)])) rfl rfl (hb hby at_124)
  have V135 : Arv Z h135 b60 k60 (.object "com/example/redwing/redwing/core/NoticeState") (29 : Int32) [(.ref s0), (.ref s1), (.ref s2), (.ref s3), (.ref s4), (.ref s5), (.ref s6), (.ref s7), (.ref s8), (.ref s9), (.ref s10), (.ref s11), (.ref s12), (.ref s13), (.ref s14), (.ref s15), (.ref s16), (.ref s17), .null, .null, .null, .null, .null, .null, .null, .null, .null, .null, .null] .null := Arv.set Ar135 q135 S135 Ng135 H135 G135 rfl W135 17 rfl (Nat.le_of_ble_eq_true rfl)
  have Z136 : n0 ≤ h135.size := Nat.le_trans Z132 (Keep.of_wr W135).1
  have K137 := K133.wr W135 (Or.inr sz_b60)
  have N135 := Fr.snoc X135 N131 g_b60
  obtain ⟨T138, X138, e138, st138⟩ := getS2 X135 hx hZ hown (host := "") (Or.inl (hw _ (List.mem_of_getElem? (i := 40) rfl))) Via.refl e135 (own_sta_keep S18 K137 all0) (g := (mkF m 128 #[.val (.int p0), .unset, .unset, .unset, .unset, .unset, .unset] [(.int (18 : Int32)), (.ref b60), (.ref b60)])) rfl (hb hby at_128)
  obtain ⟨cl139, Ar139, q139, S139, Ng139, H139, G139⟩ := id V135
  have hin139 : ¬ ((18 : Int32) < 0 ∨ cl139.slots.size ≤ ((18 : Int32)).toNatClampNeg) := inb_of S139 ⟨by decide, by decide⟩
  obtain ⟨T139, h139, X139, e139, W139, st139⟩ := stR X138 hx hZ e138 Ar139 (j := (18 : Int32)) hin139 rfl (Sto.ofV Ar139 q139 O60 (Ins.self (E18.keep K137))) (g := (mkF m 131 #[.val (.int p0), .unset, .unset, .unset, .unset, .unset, .unset] [(.ref s18), (.int (18 : Int32)), (.ref b60), (.ref b60)])) rfl rfl (hb hby at_131)
  have V139 : Arv Z h139 b60 k60 (.object "com/example/redwing/redwing/core/NoticeState") (29 : Int32) [(.ref s0), (.ref s1), (.ref s2), (.ref s3), (.ref s4), (.ref s5), (.ref s6), (.ref s7), (.ref s8), (.ref s9), (.ref s10), (.ref s11), (.ref s12), (.ref s13), (.ref s14), (.ref s15), (.ref s16), (.ref s17), (.ref s18), .null, .null, .null, .null, .null, .null, .null, .null, .null, .null] .null := Arv.set Ar139 q139 S139 Ng139 H139 G139 rfl W139 18 rfl (Nat.le_of_ble_eq_true rfl)
  have Z140 : n0 ≤ h139.size := Nat.le_trans Z136 (Keep.of_wr W139).1
  have K141 := K137.wr W139 (Or.inr sz_b60)
  have N139 := Fr.snoc X139 N135 g_b60
  obtain ⟨T142, X142, e142, st142⟩ := getS2 X139 hx hZ hown (host := "") (Or.inl (hw _ (List.mem_of_getElem? (i := 42) rfl))) Via.refl e139 (own_sta_keep S19 K141 all0) (g := (mkF m 135 #[.val (.int p0), .unset, .unset, .unset, .unset, .unset, .unset] [(.int (19 : Int32)), (.ref b60), (.ref b60)])) rfl (hb hby at_135)
  obtain ⟨cl143, Ar143, q143, S143, Ng143, H143, G143⟩ := id V139
  have hin143 : ¬ ((19 : Int32) < 0 ∨ cl143.slots.size ≤ ((19 : Int32)).toNatClampNeg) := inb_of S143 ⟨by decide, by decide⟩
  obtain ⟨T143, h143, X143, e143, W143, st143⟩ := stR X142 hx hZ e142 Ar143 (j := (19 : Int32)) hin143 rfl (Sto.ofV Ar143 q143 O60 (Ins.self (E19.keep K141))) (g := (mkF m 138 #[.val (.int p0), .unset, .unset, .unset, .unset, .unset, .unset] [(.ref s19), (.int (19 : Int32)), (.ref b60), (.ref b60)])) rfl rfl (hb hby at_138)
  have V143 : Arv Z h143 b60 k60 (.object "com/example/redwing/redwing/core/NoticeState") (29 : Int32) [(.ref s0), (.ref s1), (.ref s2), (.ref s3), (.ref s4), (.ref s5), (.ref s6), (.ref s7), (.ref s8), (.ref s9), (.ref s10), (.ref s11), (.ref s12), (.ref s13), (.ref s14), (.ref s15), (.ref s16), (.ref s17), (.ref s18), (.ref s19), .null, .null, .null, .null, .null, .null, .null, .null, .null] .null := Arv.set Ar143 q143 S143 Ng143 H143 G143 rfl W143 19 rfl (Nat.le_of_ble_eq_true rfl)
  have Z144 : n0 ≤ h143.size := Nat.le_trans Z140 (Keep.of_wr W143).1
  have K145 := K141.wr W143 (Or.inr sz_b60)
  have N143 := Fr.snoc X143 N139 g_b60
  have k146 : ∀ t, Steps p.tables e below (T143.setTop (mkF m 142 #[.val (.int p0), .unset, .unset, .unset, .unset, .unset, .unset] [(.int (20 : Int32)), (.ref b60), (.ref b60)])) t → Steps p.tables e below (s₁.setTop (mkF m 0 #[.val (.int p0), .unset, .unset, .unset, .unset, .unset, .unset] [])) t := by
    intro t h
    refine k125 t ?_
    show Steps p.tables e below (T122.setTop (mkF m 105 #[.val (.int p0), .unset, .unset, .unset, .unset, .unset, .unset] [(.ref b60), (.ref b60)])) _
    refine XS.bipush X122.here hx rfl (hb hby at_105) ?_
    show Steps p.tables e below (T122.setTop (mkF m 107 #[.val (.int p0), .unset, .unset, .unset, .unset, .unset, .unset] [(.int (15 : Int32)), (.ref b60), (.ref b60)])) _
    refine st126 _ ?_
    show Steps p.tables e below (T126.setTop (mkF m 110 #[.val (.int p0), .unset, .unset, .unset, .unset, .unset, .unset] [(.ref s15), (.int (15 : Int32)), (.ref b60), (.ref b60)])) _
    refine st127 _ ?_
    show Steps p.tables e below (T127.setTop (mkF m 111 #[.val (.int p0), .unset, .unset, .unset, .unset, .unset, .unset] [(.ref b60)])) _
    refine XS.dup X127.here hx rfl (hb hby at_111) rfl rfl ?_
    show Steps p.tables e below (T127.setTop (mkF m 112 #[.val (.int p0), .unset, .unset, .unset, .unset, .unset, .unset] [(.ref b60), (.ref b60)])) _
    refine XS.bipush X127.here hx rfl (hb hby at_112) ?_
    show Steps p.tables e below (T127.setTop (mkF m 114 #[.val (.int p0), .unset, .unset, .unset, .unset, .unset, .unset] [(.int (16 : Int32)), (.ref b60), (.ref b60)])) _
    refine st130 _ ?_
    show Steps p.tables e below (T130.setTop (mkF m 117 #[.val (.int p0), .unset, .unset, .unset, .unset, .unset, .unset] [(.ref s16), (.int (16 : Int32)), (.ref b60), (.ref b60)])) _
    refine st131 _ ?_
    show Steps p.tables e below (T131.setTop (mkF m 118 #[.val (.int p0), .unset, .unset, .unset, .unset, .unset, .unset] [(.ref b60)])) _
    refine XS.dup X131.here hx rfl (hb hby at_118) rfl rfl ?_
    show Steps p.tables e below (T131.setTop (mkF m 119 #[.val (.int p0), .unset, .unset, .unset, .unset, .unset, .unset] [(.ref b60), (.ref b60)])) _
    refine XS.bipush X131.here hx rfl (hb hby at_119) ?_
    show Steps p.tables e below (T131.setTop (mkF m 121 #[.val (.int p0), .unset, .unset, .unset, .unset, .unset, .unset] [(.int (17 : Int32)), (.ref b60), (.ref b60)])) _
    refine st134 _ ?_
    show Steps p.tables e below (T134.setTop (mkF m 124 #[.val (.int p0), .unset, .unset, .unset, .unset, .unset, .unset] [(.ref s17), (.int (17 : Int32)), (.ref b60), (.ref b60)])) _
    refine st135 _ ?_
    show Steps p.tables e below (T135.setTop (mkF m 125 #[.val (.int p0), .unset, .unset, .unset, .unset, .unset, .unset] [(.ref b60)])) _
    refine XS.dup X135.here hx rfl (hb hby at_125) rfl rfl ?_
    show Steps p.tables e below (T135.setTop (mkF m 126 #[.val (.int p0), .unset, .unset, .unset, .unset, .unset, .unset] [(.ref b60), (.ref b60)])) _
    refine XS.bipush X135.here hx rfl (hb hby at_126) ?_
    show Steps p.tables e below (T135.setTop (mkF m 128 #[.val (.int p0), .unset, .unset, .unset, .unset, .unset, .unset] [(.int (18 : Int32)), (.ref b60), (.ref b60)])) _
    refine st138 _ ?_
    show Steps p.tables e below (T138.setTop (mkF m 131 #[.val (.int p0), .unset, .unset, .unset, .unset, .unset, .unset] [(.ref s18), (.int (18 : Int32)), (.ref b60), (.ref b60)])) _
    refine st139 _ ?_
    show Steps p.tables e below (T139.setTop (mkF m 132 #[.val (.int p0), .unset, .unset, .unset, .unset, .unset, .unset] [(.ref b60)])) _
    refine XS.dup X139.here hx rfl (hb hby at_132) rfl rfl ?_
    show Steps p.tables e below (T139.setTop (mkF m 133 #[.val (.int p0), .unset, .unset, .unset, .unset, .unset, .unset] [(.ref b60), (.ref b60)])) _
    refine XS.bipush X139.here hx rfl (hb hby at_133) ?_
    show Steps p.tables e below (T139.setTop (mkF m 135 #[.val (.int p0), .unset, .unset, .unset, .unset, .unset, .unset] [(.int (19 : Int32)), (.ref b60), (.ref b60)])) _
    refine st142 _ ?_
    show Steps p.tables e below (T142.setTop (mkF m 138 #[.val (.int p0), .unset, .unset, .unset, .unset, .unset, .unset] [(.ref s19), (.int (19 : Int32)), (.ref b60), (.ref b60)])) _
    refine st143 _ ?_
    show Steps p.tables e below (T143.setTop (mkF m 139 #[.val (.int p0), .unset, .unset, .unset, .unset, .unset, .unset] [(.ref b60)])) _
    refine XS.dup X143.here hx rfl (hb hby at_139) rfl rfl ?_
    show Steps p.tables e below (T143.setTop (mkF m 140 #[.val (.int p0), .unset, .unset, .unset, .unset, .unset, .unset] [(.ref b60), (.ref b60)])) _
    refine XS.bipush X143.here hx rfl (hb hby at_140) ?_
    exact h
  obtain ⟨T147, X147, e147, st147⟩ := getS2 X143 hx hZ hown (host := "") (Or.inl (hw _ (List.mem_of_getElem? (i := 44) rfl))) Via.refl e143 (own_sta_keep S20 K145 all0) (g := (mkF m 142 #[.val (.int p0), .unset, .unset, .unset, .unset, .unset, .unset] [(.int (20 : Int32)), (.ref b60), (.ref b60)])) rfl (hb hby at_142)
  obtain ⟨cl148, Ar148, q148, S148, Ng148, H148, G148⟩ := id V143
  have hin148 : ¬ ((20 : Int32) < 0 ∨ cl148.slots.size ≤ ((20 : Int32)).toNatClampNeg) := inb_of S148 ⟨by decide, by decide⟩
  obtain ⟨T148, h148, X148, e148, W148, st148⟩ := stR X147 hx hZ e147 Ar148 (j := (20 : Int32)) hin148 rfl (Sto.ofV Ar148 q148 O60 (Ins.self (E20.keep K145))) (g := (mkF m 145 #[.val (.int p0), .unset, .unset, .unset, .unset, .unset, .unset] [(.ref s20), (.int (20 : Int32)), (.ref b60), (.ref b60)])) rfl rfl (hb hby at_145)
  have V148 : Arv Z h148 b60 k60 (.object "com/example/redwing/redwing/core/NoticeState") (29 : Int32) [(.ref s0), (.ref s1), (.ref s2), (.ref s3), (.ref s4), (.ref s5), (.ref s6), (.ref s7), (.ref s8), (.ref s9), (.ref s10), (.ref s11), (.ref s12), (.ref s13), (.ref s14), (.ref s15), (.ref s16), (.ref s17), (.ref s18), (.ref s19), (.ref s20), .null, .null, .null, .null, .null, .null, .null, .null] .null := Arv.set Ar148 q148 S148 Ng148 H148 G148 rfl W148 20 rfl (Nat.le_of_ble_eq_true rfl)
  have Z149 : n0 ≤ h148.size := Nat.le_trans Z144 (Keep.of_wr W148).1
  have K150 := K145.wr W148 (Or.inr sz_b60)
  have N148 := Fr.snoc X148 N143 g_b60
  obtain ⟨T151, X151, e151, st151⟩ := getS2 X148 hx hZ hown (host := "") (Or.inl (hw _ (List.mem_of_getElem? (i := 46) rfl))) Via.refl e148 (own_sta_keep S21 K150 all0) (g := (mkF m 149 #[.val (.int p0), .unset, .unset, .unset, .unset, .unset, .unset] [(.int (21 : Int32)), (.ref b60), (.ref b60)])) rfl (hb hby at_149)
  obtain ⟨cl152, Ar152, q152, S152, Ng152, H152, G152⟩ := id V148
  have hin152 : ¬ ((21 : Int32) < 0 ∨ cl152.slots.size ≤ ((21 : Int32)).toNatClampNeg) := inb_of S152 ⟨by decide, by decide⟩
  obtain ⟨T152, h152, X152, e152, W152, st152⟩ := stR X151 hx hZ e151 Ar152 (j := (21 : Int32)) hin152 rfl (Sto.ofV Ar152 q152 O60 (Ins.self (E21.keep K150))) (g := (mkF m 152 #[.val (.int p0), .unset, .unset, .unset, .unset, .unset, .unset] [(.ref s21), (.int (21 : Int32)), (.ref b60), (.ref b60)])) rfl rfl (hb hby at_152)
  have V152 : Arv Z h152 b60 k60 (.object "com/example/redwing/redwing/core/NoticeState") (29 : Int32) [(.ref s0), (.ref s1), (.ref s2), (.ref s3), (.ref s4), (.ref s5), (.ref s6), (.ref s7), (.ref s8), (.ref s9), (.ref s10), (.ref s11), (.ref s12), (.ref s13), (.ref s14), (.ref s15), (.ref s16), (.ref s17), (.ref s18), (.ref s19), (.ref s20), (.ref s21), .null, .null, .null, .null, .null, .null, .null] .null := Arv.set Ar152 q152 S152 Ng152 H152 G152 rfl W152 21 rfl (Nat.le_of_ble_eq_true rfl)
  have Z153 : n0 ≤ h152.size := Nat.le_trans Z149 (Keep.of_wr W152).1
  have K154 := K150.wr W152 (Or.inr sz_b60)
  have N152 := Fr.snoc X152 N148 g_b60
  obtain ⟨T155, X155, e155, st155⟩ := getS2 X152 hx hZ hown (host := "") (Or.inl (hw _ (List.mem_of_getElem? (i := 48) rfl))) Via.refl e152 (own_sta_keep S22 K154 all0) (g := (mkF m 156 #[.val (.int p0), .unset, .unset, .unset, .unset, .unset, .unset] [(.int (22 : Int32)), (.ref b60), (.ref b60)])) rfl (hb hby at_156)
  obtain ⟨cl156, Ar156, q156, S156, Ng156, H156, G156⟩ := id V152
  have hin156 : ¬ ((22 : Int32) < 0 ∨ cl156.slots.size ≤ ((22 : Int32)).toNatClampNeg) := inb_of S156 ⟨by decide, by decide⟩
  obtain ⟨T156, h156, X156, e156, W156, st156⟩ := stR X155 hx hZ e155 Ar156 (j := (22 : Int32)) hin156 rfl (Sto.ofV Ar156 q156 O60 (Ins.self (E22.keep K154))) (g := (mkF m 159 #[.val (.int p0), .unset, .unset, .unset, .unset, .unset, .unset] [(.ref s22), (.int (22 : Int32)), (.ref b60), (.ref b60)])) rfl rfl (hb hby at_159)
  have V156 : Arv Z h156 b60 k60 (.object "com/example/redwing/redwing/core/NoticeState") (29 : Int32) [(.ref s0), (.ref s1), (.ref s2), (.ref s3), (.ref s4), (.ref s5), (.ref s6), (.ref s7), (.ref s8), (.ref s9), (.ref s10), (.ref s11), (.ref s12), (.ref s13), (.ref s14), (.ref s15), (.ref s16), (.ref s17), (.ref s18), (.ref s19), (.ref s20), (.ref s21), (.ref s22), .null, .null, .null, .null, .null, .null] .null := Arv.set Ar156 q156 S156 Ng156 H156 G156 rfl W156 22 rfl (Nat.le_of_ble_eq_true rfl)
  have Z157 : n0 ≤ h156.size := Nat.le_trans Z153 (Keep.of_wr W156).1
  have K158 := K154.wr W156 (Or.inr sz_b60)
  have N156 := Fr.snoc X156 N152 g_b60
  obtain ⟨T159, X159, e159, st159⟩ := getS2 X156 hx hZ hown (host := "") (Or.inl (hw _ (List.mem_of_getElem? (i := 50) rfl))) Via.refl e156 (own_sta_keep S23 K158 all0) (g := (mkF m 163 #[.val (.int p0), .unset, .unset, .unset, .unset, .unset, .unset] [(.int (23 : Int32)), (.ref b60), (.ref b60)])) rfl (hb hby at_163)
  obtain ⟨cl160, Ar160, q160, S160, Ng160, H160, G160⟩ := id V156
  have hin160 : ¬ ((23 : Int32) < 0 ∨ cl160.slots.size ≤ ((23 : Int32)).toNatClampNeg) := inb_of S160 ⟨by decide, by decide⟩
  obtain ⟨T160, h160, X160, e160, W160, st160⟩ := stR X159 hx hZ e159 Ar160 (j := (23 : Int32)) hin160 rfl (Sto.ofV Ar160 q160 O60 (Ins.self (E23.keep K158))) (g := (mkF m 166 #[.val (.int p0), .unset, .unset, .unset, .unset, .unset, .unset] [(.ref s23), (.int (23 : Int32)), (.ref b60), (.ref b60)])) rfl rfl (hb hby at_166)
  have V160 : Arv Z h160 b60 k60 (.object "com/example/redwing/redwing/core/NoticeState") (29 : Int32) [(.ref s0), (.ref s1), (.ref s2), (.ref s3), (.ref s4), (.ref s5), (.ref s6), (.ref s7), (.ref s8), (.ref s9), (.ref s10), (.ref s11), (.ref s12), (.ref s13), (.ref s14), (.ref s15), (.ref s16), (.ref s17), (.ref s18), (.ref s19), (.ref s20), (.ref s21), (.ref s22), (.ref s23), .null, .null, .null, .null, .null] .null := Arv.set Ar160 q160 S160 Ng160 H160 G160 rfl W160 23 rfl (Nat.le_of_ble_eq_true rfl)
  have Z161 : n0 ≤ h160.size := Nat.le_trans Z157 (Keep.of_wr W160).1
  have K162 := K158.wr W160 (Or.inr sz_b60)
  have N160 := Fr.snoc X160 N156 g_b60
  obtain ⟨T163, X163, e163, st163⟩ := getS2 X160 hx hZ hown (host := "") (Or.inl (hw _ (List.mem_of_getElem? (i := 52) rfl))) Via.refl e160 (own_sta_keep S24 K162 all0) (g := (mkF m 170 #[.val (.int p0), .unset, .unset, .unset, .unset, .unset, .unset] [(.int (24 : Int32)), (.ref b60), (.ref b60)])) rfl (hb hby at_170)
  obtain ⟨cl164, Ar164, q164, S164, Ng164, H164, G164⟩ := id V160
  have hin164 : ¬ ((24 : Int32) < 0 ∨ cl164.slots.size ≤ ((24 : Int32)).toNatClampNeg) := inb_of S164 ⟨by decide, by decide⟩
  obtain ⟨T164, h164, X164, e164, W164, st164⟩ := stR X163 hx hZ e163 Ar164 (j := (24 : Int32)) hin164 rfl (Sto.ofV Ar164 q164 O60 (Ins.self (E24.keep K162))) (g := (mkF m 173 #[.val (.int p0), .unset, .unset, .unset, .unset, .unset, .unset] [(.ref s24), (.int (24 : Int32)), (.ref b60), (.ref b60)])) rfl rfl (hb hby at_173)
  have V164 : Arv Z h164 b60 k60 (.object "com/example/redwing/redwing/core/NoticeState") (29 : Int32) [(.ref s0), (.ref s1), (.ref s2), (.ref s3), (.ref s4), (.ref s5), (.ref s6), (.ref s7), (.ref s8), (.ref s9), (.ref s10), (.ref s11), (.ref s12), (.ref s13), (.ref s14), (.ref s15), (.ref s16), (.ref s17), (.ref s18), (.ref s19), (.ref s20), (.ref s21), (.ref s22), (.ref s23), (.ref s24), .null, .null, .null, .null] .null := Arv.set Ar164 q164 S164 Ng164 H164 G164 rfl W164 24 rfl (Nat.le_of_ble_eq_true rfl)
  have Z165 : n0 ≤ h164.size := Nat.le_trans Z161 (Keep.of_wr W164).1
  have K166 := K162.wr W164 (Or.inr sz_b60)
  have N164 := Fr.snoc X164 N160 g_b60
  obtain ⟨T167, X167, e167, st167⟩ := getS2 X164 hx hZ hown (host := "") (Or.inl (hw _ (List.mem_of_getElem? (i := 54) rfl))) Via.refl e164 (own_sta_keep S25 K166 all0) (g := (mkF m 177 #[.val (.int p0), .unset, .unset, .unset, .unset, .unset, .unset] [(.int (25 : Int32)), (.ref b60), (.ref b60)])) rfl (hb hby at_177)
  have k168 : ∀ t, Steps p.tables e below (T167.setTop (mkF m 180 #[.val (.int p0), .unset, .unset, .unset, .unset, .unset, .unset] [(.ref s25), (.int (25 : Int32)), (.ref b60), (.ref b60)])) t → Steps p.tables e below (s₁.setTop (mkF m 0 #[.val (.int p0), .unset, .unset, .unset, .unset, .unset, .unset] [])) t := by
    intro t h
    refine k146 t ?_
    show Steps p.tables e below (T143.setTop (mkF m 142 #[.val (.int p0), .unset, .unset, .unset, .unset, .unset, .unset] [(.int (20 : Int32)), (.ref b60), (.ref b60)])) _
    refine st147 _ ?_
    show Steps p.tables e below (T147.setTop (mkF m 145 #[.val (.int p0), .unset, .unset, .unset, .unset, .unset, .unset] [(.ref s20), (.int (20 : Int32)), (.ref b60), (.ref b60)])) _
    refine st148 _ ?_
    show Steps p.tables e below (T148.setTop (mkF m 146 #[.val (.int p0), .unset, .unset, .unset, .unset, .unset, .unset] [(.ref b60)])) _
    refine XS.dup X148.here hx rfl (hb hby at_146) rfl rfl ?_
    show Steps p.tables e below (T148.setTop (mkF m 147 #[.val (.int p0), .unset, .unset, .unset, .unset, .unset, .unset] [(.ref b60), (.ref b60)])) _
    refine XS.bipush X148.here hx rfl (hb hby at_147) ?_
    show Steps p.tables e below (T148.setTop (mkF m 149 #[.val (.int p0), .unset, .unset, .unset, .unset, .unset, .unset] [(.int (21 : Int32)), (.ref b60), (.ref b60)])) _
    refine st151 _ ?_
    show Steps p.tables e below (T151.setTop (mkF m 152 #[.val (.int p0), .unset, .unset, .unset, .unset, .unset, .unset] [(.ref s21), (.int (21 : Int32)), (.ref b60), (.ref b60)])) _
    refine st152 _ ?_
    show Steps p.tables e below (T152.setTop (mkF m 153 #[.val (.int p0), .unset, .unset, .unset, .unset, .unset, .unset] [(.ref b60)])) _
    refine XS.dup X152.here hx rfl (hb hby at_153) rfl rfl ?_
    show Steps p.tables e below (T152.setTop (mkF m 154 #[.val (.int p0), .unset, .unset, .unset, .unset, .unset, .unset] [(.ref b60), (.ref b60)])) _
    refine XS.bipush X152.here hx rfl (hb hby at_154) ?_
    show Steps p.tables e below (T152.setTop (mkF m 156 #[.val (.int p0), .unset, .unset, .unset, .unset, .unset, .unset] [(.int (22 : Int32)), (.ref b60), (.ref b60)])) _
    refine st155 _ ?_
    show Steps p.tables e below (T155.setTop (mkF m 159 #[.val (.int p0), .unset, .unset, .unset, .unset, .unset, .unset] [(.ref s22), (.int (22 : Int32)), (.ref b60), (.ref b60)])) _
    refine st156 _ ?_
    show Steps p.tables e below (T156.setTop (mkF m 160 #[.val (.int p0), .unset, .unset, .unset, .unset, .unset, .unset] [(.ref b60)])) _
    refine XS.dup X156.here hx rfl (hb hby at_160) rfl rfl ?_
    show Steps p.tables e below (T156.setTop (mkF m 161 #[.val (.int p0), .unset, .unset, .unset, .unset, .unset, .unset] [(.ref b60), (.ref b60)])) _
    refine XS.bipush X156.here hx rfl (hb hby at_161) ?_
    show Steps p.tables e below (T156.setTop (mkF m 163 #[.val (.int p0), .unset, .unset, .unset, .unset, .unset, .unset] [(.int (23 : Int32)), (.ref b60), (.ref b60)])) _
    refine st159 _ ?_
    show Steps p.tables e below (T159.setTop (mkF m 166 #[.val (.int p0), .unset, .unset, .unset, .unset, .unset, .unset] [(.ref s23), (.int (23 : Int32)), (.ref b60), (.ref b60)])) _
    refine st160 _ ?_
    show Steps p.tables e below (T160.setTop (mkF m 167 #[.val (.int p0), .unset, .unset, .unset, .unset, .unset, .unset] [(.ref b60)])) _
    refine XS.dup X160.here hx rfl (hb hby at_167) rfl rfl ?_
    show Steps p.tables e below (T160.setTop (mkF m 168 #[.val (.int p0), .unset, .unset, .unset, .unset, .unset, .unset] [(.ref b60), (.ref b60)])) _
    refine XS.bipush X160.here hx rfl (hb hby at_168) ?_
    show Steps p.tables e below (T160.setTop (mkF m 170 #[.val (.int p0), .unset, .unset, .unset, .unset, .unset, .unset] [(.int (24 : Int32)), (.ref b60), (.ref b60)])) _
    refine st163 _ ?_
    show Steps p.tables e below (T163.setTop (mkF m 173 #[.val (.int p0), .unset, .unset, .unset, .unset, .unset, .unset] [(.ref s24), (.int (24 : Int32)), (.ref b60), (.ref b60)])) _
    refine st164 _ ?_
    show Steps p.tables e below (T164.setTop (mkF m 174 #[.val (.int p0), .unset, .unset, .unset, .unset, .unset, .unset] [(.ref b60)])) _
    refine XS.dup X164.here hx rfl (hb hby at_174) rfl rfl ?_
    show Steps p.tables e below (T164.setTop (mkF m 175 #[.val (.int p0), .unset, .unset, .unset, .unset, .unset, .unset] [(.ref b60), (.ref b60)])) _
    refine XS.bipush X164.here hx rfl (hb hby at_175) ?_
    show Steps p.tables e below (T164.setTop (mkF m 177 #[.val (.int p0), .unset, .unset, .unset, .unset, .unset, .unset] [(.int (25 : Int32)), (.ref b60), (.ref b60)])) _
    refine st167 _ ?_
    exact h
  obtain ⟨cl169, Ar169, q169, S169, Ng169, H169, G169⟩ := id V164
  have hin169 : ¬ ((25 : Int32) < 0 ∨ cl169.slots.size ≤ ((25 : Int32)).toNatClampNeg) := inb_of S169 ⟨by decide, by decide⟩
  obtain ⟨T169, h169, X169, e169, W169, st169⟩ := stR X167 hx hZ e167 Ar169 (j := (25 : Int32)) hin169 rfl (Sto.ofV Ar169 q169 O60 (Ins.self (E25.keep K166))) (g := (mkF m 180 #[.val (.int p0), .unset, .unset, .unset, .unset, .unset, .unset] [(.ref s25), (.int (25 : Int32)), (.ref b60), (.ref b60)])) rfl rfl (hb hby at_180)
  have V169 : Arv Z h169 b60 k60 (.object "com/example/redwing/redwing/core/NoticeState") (29 : Int32) [(.ref s0), (.ref s1), (.ref s2), (.ref s3), (.ref s4), (.ref s5), (.ref s6), (.ref s7), (.ref s8), (.ref s9), (.ref s10), (.ref s11), (.ref s12), (.ref s13), (.ref s14), (.ref s15), (.ref s16), (.ref s17), (.ref s18), (.ref s19), (.ref s20), (.ref s21), (.ref s22), (.ref s23), (.ref s24), (.ref s25), .null, .null, .null] .null := Arv.set Ar169 q169 S169 Ng169 H169 G169 rfl W169 25 rfl (Nat.le_of_ble_eq_true rfl)
  have Z170 : n0 ≤ h169.size := Nat.le_trans Z165 (Keep.of_wr W169).1
  have K171 := K166.wr W169 (Or.inr sz_b60)
  have N169 := Fr.snoc X169 N164 g_b60
  obtain ⟨T172, X172, e172, st172⟩ := getS2 X169 hx hZ hown (host := "") (Or.inl (hw _ (List.mem_of_getElem? (i := 56) rfl))) Via.refl e169 (own_sta_keep S26 K171 all0) (g := (mkF m 184 #[.val (.int p0), .unset, .unset, .unset, .unset, .unset, .unset] [(.int (26 : Int32)), (.ref b60), (.ref b60)])) rfl (hb hby at_184)
  obtain ⟨cl173, Ar173, q173, S173, Ng173, H173, G173⟩ := id V169
  have hin173 : ¬ ((26 : Int32) < 0 ∨ cl173.slots.size ≤ ((26 : Int32)).toNatClampNeg) := inb_of S173 ⟨by decide, by decide⟩
  obtain ⟨T173, h173, X173, e173, W173, st173⟩ := stR X172 hx hZ e172 Ar173 (j := (26 : Int32)) hin173 rfl (Sto.ofV Ar173 q173 O60 (Ins.self (E26.keep K171))) (g := (mkF m 187 #[.val (.int p0), .unset, .unset, .unset, .unset, .unset, .unset] [(.ref s26), (.int (26 : Int32)), (.ref b60), (.ref b60)])) rfl rfl (hb hby at_187)
  have V173 : Arv Z h173 b60 k60 (.object "com/example/redwing/redwing/core/NoticeState") (29 : Int32) [(.ref s0), (.ref s1), (.ref s2), (.ref s3), (.ref s4), (.ref s5), (.ref s6), (.ref s7), (.ref s8), (.ref s9), (.ref s10), (.ref s11), (.ref s12), (.ref s13), (.ref s14), (.ref s15), (.ref s16), (.ref s17), (.ref s18), (.ref s19), (.ref s20), (.ref s21), (.ref s22), (.ref s23), (.ref s24), (.ref s25), (.ref s26), .null, .null] .null := Arv.set Ar173 q173 S173 Ng173 H173 G173 rfl W173 26 rfl (Nat.le_of_ble_eq_true rfl)
  have Z174 : n0 ≤ h173.size := Nat.le_trans Z170 (Keep.of_wr W173).1
  have K175 := K171.wr W173 (Or.inr sz_b60)
  have N173 := Fr.snoc X173 N169 g_b60
  obtain ⟨T176, X176, e176, st176⟩ := getS2 X173 hx hZ hown (host := "") (Or.inl (hw _ (List.mem_of_getElem? (i := 58) rfl))) Via.refl e173 (own_sta_keep S27 K175 all0) (g := (mkF m 191 #[.val (.int p0), .unset, .unset, .unset, .unset, .unset, .unset] [(.int (27 : Int32)), (.ref b60), (.ref b60)])) rfl (hb hby at_191)
  obtain ⟨cl177, Ar177, q177, S177, Ng177, H177, G177⟩ := id V173
  have hin177 : ¬ ((27 : Int32) < 0 ∨ cl177.slots.size ≤ ((27 : Int32)).toNatClampNeg) := inb_of S177 ⟨by decide, by decide⟩
  obtain ⟨T177, h177, X177, e177, W177, st177⟩ := stR X176 hx hZ e176 Ar177 (j := (27 : Int32)) hin177 rfl (Sto.ofV Ar177 q177 O60 (Ins.self (E27.keep K175))) (g := (mkF m 194 #[.val (.int p0), .unset, .unset, .unset, .unset, .unset, .unset] [(.ref s27), (.int (27 : Int32)), (.ref b60), (.ref b60)])) rfl rfl (hb hby at_194)
  have V177 : Arv Z h177 b60 k60 (.object "com/example/redwing/redwing/core/NoticeState") (29 : Int32) [(.ref s0), (.ref s1), (.ref s2), (.ref s3), (.ref s4), (.ref s5), (.ref s6), (.ref s7), (.ref s8), (.ref s9), (.ref s10), (.ref s11), (.ref s12), (.ref s13), (.ref s14), (.ref s15), (.ref s16), (.ref s17), (.ref s18), (.ref s19), (.ref s20), (.ref s21), (.ref s22), (.ref s23), (.ref s24), (.ref s25), (.ref s26), (.ref s27), .null] .null := Arv.set Ar177 q177 S177 Ng177 H177 G177 rfl W177 27 rfl (Nat.le_of_ble_eq_true rfl)
  have Z178 : n0 ≤ h177.size := Nat.le_trans Z174 (Keep.of_wr W177).1
  have K179 := K175.wr W177 (Or.inr sz_b60)
  have N177 := Fr.snoc X177 N173 g_b60
  obtain ⟨T180, X180, e180, st180⟩ := getS2 X177 hx hZ hown (host := "") (Or.inl (hw _ (List.mem_of_getElem? (i := 60) rfl))) Via.refl e177 (own_sta_keep S28 K179 all0) (g := (mkF m 198 #[.val (.int p0), .unset, .unset, .unset, .unset, .unset, .unset] [(.int (28 : Int32)), (.ref b60), (.ref b60)])) rfl (hb hby at_198)
  obtain ⟨cl181, Ar181, q181, S181, Ng181, H181, G181⟩ := id V177
  have hin181 : ¬ ((28 : Int32) < 0 ∨ cl181.slots.size ≤ ((28 : Int32)).toNatClampNeg) := inb_of S181 ⟨by decide, by decide⟩
  obtain ⟨T181, h181, X181, e181, W181, st181⟩ := stR X180 hx hZ e180 Ar181 (j := (28 : Int32)) hin181 rfl (Sto.ofV Ar181 q181 O60 (Ins.self (E28.keep K179))) (g := (mkF m 201 #[.val (.int p0), .unset, .unset, .unset, .unset, .unset, .unset] [(.ref s28), (.int (28 : Int32)), (.ref b60), (.ref b60)])) rfl rfl (hb hby at_201)
  have V181 : Arv Z h181 b60 k60 (.object "com/example/redwing/redwing/core/NoticeState") (29 : Int32) [(.ref s0), (.ref s1), (.ref s2), (.ref s3), (.ref s4), (.ref s5), (.ref s6), (.ref s7), (.ref s8), (.ref s9), (.ref s10), (.ref s11), (.ref s12), (.ref s13), (.ref s14), (.ref s15), (.ref s16), (.ref s17), (.ref s18), (.ref s19), (.ref s20), (.ref s21), (.ref s22), (.ref s23), (.ref s24), (.ref s25), (.ref s26), (.ref s27), (.ref s28)] .null := Arv.set Ar181 q181 S181 Ng181 H181 G181 rfl W181 28 rfl (Nat.le_of_ble_eq_true rfl)
  have Z182 : n0 ≤ h181.size := Nat.le_trans Z178 (Keep.of_wr W181).1
  have K183 := K179.wr W181 (Or.inr sz_b60)
  have N181 := Fr.snoc X181 N177 g_b60
  obtain ⟨T184, h184, k184, X184, e184, E184, A184, O184, st184⟩ := newR X181 hx hZ hown (hw _ (List.mem_of_getElem? (i := 0) rfl)) (hw _ (List.mem_of_getElem? (i := 1) rfl)) e181 (g := (mkF m 204 #[.val (.int p0), .val (.ref b60), .unset, .unset, .unset, .unset, .unset] [(.int (4 : Int32))])) rfl (hb hby at_204) rfl (by decide) (cap := 4) (by decide) (by decide) (by decide) (by decide)
  obtain ⟨b184, g184⟩ : ∃ z, z = h181.size := ⟨_, rfl⟩
  rw [← g184] at A184 st184
  have ne_b60_b184 : b60 ≠ b184 := Nat.ne_of_lt (Nat.lt_of_lt_of_le V181.lt (Nat.le_of_eq g184.symm))
  have g_b184 : n0 ≤ b184 := Nat.le_trans Z182 (Nat.le_of_eq g184.symm)
  have sz_b184 : h0.size ≤ b184 := Nat.le_trans K183.1 (Nat.le_of_eq g184.symm)
  have f185 := V181.ext E184
  have Z186 : n0 ≤ h184.size := Nat.le_trans Z182 E184.1
  have K187 := K183.ext E184
  have V_b184 : Arv Z h184 b184 k184 (.object "com/example/redwing/redwing/core/NoticeState") (4 : Int32) [.null, .null, .null, .null] .null := (Arv.new A184 (by decide)).pad (pad_rep [] .null 4)
  obtain ⟨T188, X188, e188, st188⟩ := getS2 X184 hx hZ hown (host := "") (Or.inl (hw _ (List.mem_of_getElem? (i := 2) rfl))) Via.refl e184 (own_sta_keep S0 K187 all0) (g := (mkF m 209 #[.val (.int p0), .val (.ref b60), .unset, .unset, .unset, .unset, .unset] [(.int (0 : Int32)), (.ref b184), (.ref b184)])) rfl (hb hby at_209)
  obtain ⟨cl189, Ar189, q189, S189, Ng189, H189, G189⟩ := id V_b184
  have hin189 : ¬ ((0 : Int32) < 0 ∨ cl189.slots.size ≤ ((0 : Int32)).toNatClampNeg) := inb_of S189 ⟨by decide, by decide⟩
  obtain ⟨T189, h189, X189, e189, W189, st189⟩ := stR X188 hx hZ e188 Ar189 (j := (0 : Int32)) hin189 rfl (Sto.ofV Ar189 q189 O184 (Ins.self (E0.keep K187))) (g := (mkF m 212 #[.val (.int p0), .val (.ref b60), .unset, .unset, .unset, .unset, .unset] [(.ref s0), (.int (0 : Int32)), (.ref b184), (.ref b184)])) rfl rfl (hb hby at_212)
  have V189 : Arv Z h189 b184 k184 (.object "com/example/redwing/redwing/core/NoticeState") (4 : Int32) [(.ref s0), .null, .null, .null] .null := Arv.set Ar189 q189 S189 Ng189 H189 G189 rfl W189 0 rfl (Nat.le_of_ble_eq_true rfl)
  have f190 := f185.other W189 ne_b60_b184
  have Z191 : n0 ≤ h189.size := Nat.le_trans Z186 (Keep.of_wr W189).1
  have K192 := K187.wr W189 (Or.inr sz_b184)
  have N189 := Fr.snoc X189 N181 g_b184
  have k193 : ∀ t, Steps p.tables e below (T189.setTop (mkF m 214 #[.val (.int p0), .val (.ref b60), .unset, .unset, .unset, .unset, .unset] [(.ref b184), (.ref b184)])) t → Steps p.tables e below (s₁.setTop (mkF m 0 #[.val (.int p0), .unset, .unset, .unset, .unset, .unset, .unset] [])) t := by
    intro t h
    refine k168 t ?_
    show Steps p.tables e below (T167.setTop (mkF m 180 #[.val (.int p0), .unset, .unset, .unset, .unset, .unset, .unset] [(.ref s25), (.int (25 : Int32)), (.ref b60), (.ref b60)])) _
    refine st169 _ ?_
    show Steps p.tables e below (T169.setTop (mkF m 181 #[.val (.int p0), .unset, .unset, .unset, .unset, .unset, .unset] [(.ref b60)])) _
    refine XS.dup X169.here hx rfl (hb hby at_181) rfl rfl ?_
    show Steps p.tables e below (T169.setTop (mkF m 182 #[.val (.int p0), .unset, .unset, .unset, .unset, .unset, .unset] [(.ref b60), (.ref b60)])) _
    refine XS.bipush X169.here hx rfl (hb hby at_182) ?_
    show Steps p.tables e below (T169.setTop (mkF m 184 #[.val (.int p0), .unset, .unset, .unset, .unset, .unset, .unset] [(.int (26 : Int32)), (.ref b60), (.ref b60)])) _
    refine st172 _ ?_
    show Steps p.tables e below (T172.setTop (mkF m 187 #[.val (.int p0), .unset, .unset, .unset, .unset, .unset, .unset] [(.ref s26), (.int (26 : Int32)), (.ref b60), (.ref b60)])) _
    refine st173 _ ?_
    show Steps p.tables e below (T173.setTop (mkF m 188 #[.val (.int p0), .unset, .unset, .unset, .unset, .unset, .unset] [(.ref b60)])) _
    refine XS.dup X173.here hx rfl (hb hby at_188) rfl rfl ?_
    show Steps p.tables e below (T173.setTop (mkF m 189 #[.val (.int p0), .unset, .unset, .unset, .unset, .unset, .unset] [(.ref b60), (.ref b60)])) _
    refine XS.bipush X173.here hx rfl (hb hby at_189) ?_
    show Steps p.tables e below (T173.setTop (mkF m 191 #[.val (.int p0), .unset, .unset, .unset, .unset, .unset, .unset] [(.int (27 : Int32)), (.ref b60), (.ref b60)])) _
    refine st176 _ ?_
    show Steps p.tables e below (T176.setTop (mkF m 194 #[.val (.int p0), .unset, .unset, .unset, .unset, .unset, .unset] [(.ref s27), (.int (27 : Int32)), (.ref b60), (.ref b60)])) _
    refine st177 _ ?_
    show Steps p.tables e below (T177.setTop (mkF m 195 #[.val (.int p0), .unset, .unset, .unset, .unset, .unset, .unset] [(.ref b60)])) _
    refine XS.dup X177.here hx rfl (hb hby at_195) rfl rfl ?_
    show Steps p.tables e below (T177.setTop (mkF m 196 #[.val (.int p0), .unset, .unset, .unset, .unset, .unset, .unset] [(.ref b60), (.ref b60)])) _
    refine XS.bipush X177.here hx rfl (hb hby at_196) ?_
    show Steps p.tables e below (T177.setTop (mkF m 198 #[.val (.int p0), .unset, .unset, .unset, .unset, .unset, .unset] [(.int (28 : Int32)), (.ref b60), (.ref b60)])) _
    refine st180 _ ?_
    show Steps p.tables e below (T180.setTop (mkF m 201 #[.val (.int p0), .unset, .unset, .unset, .unset, .unset, .unset] [(.ref s28), (.int (28 : Int32)), (.ref b60), (.ref b60)])) _
    refine st181 _ ?_
    show Steps p.tables e below (T181.setTop (mkF m 202 #[.val (.int p0), .unset, .unset, .unset, .unset, .unset, .unset] [(.ref b60)])) _
    refine XS.astoreN X181.here hx rfl (hb hby at_202) rfl rfl (l' := #[.val (.int p0), .val (.ref b60), .unset, .unset, .unset, .unset, .unset]) rfl ?_
    show Steps p.tables e below (T181.setTop (mkF m 203 #[.val (.int p0), .val (.ref b60), .unset, .unset, .unset, .unset, .unset] [])) _
    refine XS.iconst X181.here hx rfl (hb hby at_203) ?_
    show Steps p.tables e below (T181.setTop (mkF m 204 #[.val (.int p0), .val (.ref b60), .unset, .unset, .unset, .unset, .unset] [(.int (4 : Int32))])) _
    refine st184 _ ?_
    show Steps p.tables e below (T184.setTop (mkF m 207 #[.val (.int p0), .val (.ref b60), .unset, .unset, .unset, .unset, .unset] [(.ref b184)])) _
    refine XS.dup X184.here hx rfl (hb hby at_207) rfl rfl ?_
    show Steps p.tables e below (T184.setTop (mkF m 208 #[.val (.int p0), .val (.ref b60), .unset, .unset, .unset, .unset, .unset] [(.ref b184), (.ref b184)])) _
    refine XS.iconst X184.here hx rfl (hb hby at_208) ?_
    show Steps p.tables e below (T184.setTop (mkF m 209 #[.val (.int p0), .val (.ref b60), .unset, .unset, .unset, .unset, .unset] [(.int (0 : Int32)), (.ref b184), (.ref b184)])) _
    refine st188 _ ?_
    show Steps p.tables e below (T188.setTop (mkF m 212 #[.val (.int p0), .val (.ref b60), .unset, .unset, .unset, .unset, .unset] [(.ref s0), (.int (0 : Int32)), (.ref b184), (.ref b184)])) _
    refine st189 _ ?_
    show Steps p.tables e below (T189.setTop (mkF m 213 #[.val (.int p0), .val (.ref b60), .unset, .unset, .unset, .unset, .unset] [(.ref b184)])) _
    refine XS.dup X189.here hx rfl (hb hby at_213) rfl rfl ?_
    exact h
  obtain ⟨T194, X194, e194, st194⟩ := getS2 X189 hx hZ hown (host := "") (Or.inl (hw _ (List.mem_of_getElem? (i := 6) rfl))) Via.refl e189 (own_sta_keep S1 K192 all0) (g := (mkF m 215 #[.val (.int p0), .val (.ref b60), .unset, .unset, .unset, .unset, .unset] [(.int (1 : Int32)), (.ref b184), (.ref b184)])) rfl (hb hby at_215)
  obtain ⟨cl195, Ar195, q195, S195, Ng195, H195, G195⟩ := id V189
  have hin195 : ¬ ((1 : Int32) < 0 ∨ cl195.slots.size ≤ ((1 : Int32)).toNatClampNeg) := inb_of S195 ⟨by decide, by decide⟩
  obtain ⟨T195, h195, X195, e195, W195, st195⟩ := stR X194 hx hZ e194 Ar195 (j := (1 : Int32)) hin195 rfl (Sto.ofV Ar195 q195 O184 (Ins.self (E1.keep K192))) (g := (mkF m 218 #[.val (.int p0), .val (.ref b60), .unset, .unset, .unset, .unset, .unset] [(.ref s1), (.int (1 : Int32)), (.ref b184), (.ref b184)])) rfl rfl (hb hby at_218)
  have V195 : Arv Z h195 b184 k184 (.object "com/example/redwing/redwing/core/NoticeState") (4 : Int32) [(.ref s0), (.ref s1), .null, .null] .null := Arv.set Ar195 q195 S195 Ng195 H195 G195 rfl W195 1 rfl (Nat.le_of_ble_eq_true rfl)
  have f196 := f190.other W195 ne_b60_b184
  have Z197 : n0 ≤ h195.size := Nat.le_trans Z191 (Keep.of_wr W195).1
  have K198 := K192.wr W195 (Or.inr sz_b184)
  have N195 := Fr.snoc X195 N189 g_b184
  obtain ⟨T199, X199, e199, st199⟩ := getS2 X195 hx hZ hown (host := "") (Or.inl (hw _ (List.mem_of_getElem? (i := 8) rfl))) Via.refl e195 (own_sta_keep S2 K198 all0) (g := (mkF m 221 #[.val (.int p0), .val (.ref b60), .unset, .unset, .unset, .unset, .unset] [(.int (2 : Int32)), (.ref b184), (.ref b184)])) rfl (hb hby at_221)
  obtain ⟨cl200, Ar200, q200, S200, Ng200, H200, G200⟩ := id V195
  have hin200 : ¬ ((2 : Int32) < 0 ∨ cl200.slots.size ≤ ((2 : Int32)).toNatClampNeg) := inb_of S200 ⟨by decide, by decide⟩
  obtain ⟨T200, h200, X200, e200, W200, st200⟩ := stR X199 hx hZ e199 Ar200 (j := (2 : Int32)) hin200 rfl (Sto.ofV Ar200 q200 O184 (Ins.self (E2.keep K198))) (g := (mkF m 224 #[.val (.int p0), .val (.ref b60), .unset, .unset, .unset, .unset, .unset] [(.ref s2), (.int (2 : Int32)), (.ref b184), (.ref b184)])) rfl rfl (hb hby at_224)
  have V200 : Arv Z h200 b184 k184 (.object "com/example/redwing/redwing/core/NoticeState") (4 : Int32) [(.ref s0), (.ref s1), (.ref s2), .null] .null := Arv.set Ar200 q200 S200 Ng200 H200 G200 rfl W200 2 rfl (Nat.le_of_ble_eq_true rfl)
  have f201 := f196.other W200 ne_b60_b184
  have Z202 : n0 ≤ h200.size := Nat.le_trans Z197 (Keep.of_wr W200).1
  have K203 := K198.wr W200 (Or.inr sz_b184)
  have N200 := Fr.snoc X200 N195 g_b184
  obtain ⟨T204, X204, e204, st204⟩ := getS2 X200 hx hZ hown (host := "") (Or.inl (hw _ (List.mem_of_getElem? (i := 12) rfl))) Via.refl e200 (own_sta_keep S4 K203 all0) (g := (mkF m 227 #[.val (.int p0), .val (.ref b60), .unset, .unset, .unset, .unset, .unset] [(.int (3 : Int32)), (.ref b184), (.ref b184)])) rfl (hb hby at_227)
  obtain ⟨cl205, Ar205, q205, S205, Ng205, H205, G205⟩ := id V200
  have hin205 : ¬ ((3 : Int32) < 0 ∨ cl205.slots.size ≤ ((3 : Int32)).toNatClampNeg) := inb_of S205 ⟨by decide, by decide⟩
  obtain ⟨T205, h205, X205, e205, W205, st205⟩ := stR X204 hx hZ e204 Ar205 (j := (3 : Int32)) hin205 rfl (Sto.ofV Ar205 q205 O184 (Ins.self (E4.keep K203))) (g := (mkF m 230 #[.val (.int p0), .val (.ref b60), .unset, .unset, .unset, .unset, .unset] [(.ref s4), (.int (3 : Int32)), (.ref b184), (.ref b184)])) rfl rfl (hb hby at_230)
  have V205 : Arv Z h205 b184 k184 (.object "com/example/redwing/redwing/core/NoticeState") (4 : Int32) [(.ref s0), (.ref s1), (.ref s2), (.ref s4)] .null := Arv.set Ar205 q205 S205 Ng205 H205 G205 rfl W205 3 rfl (Nat.le_of_ble_eq_true rfl)
  have f206 := f201.other W205 ne_b60_b184
  have Z207 : n0 ≤ h205.size := Nat.le_trans Z202 (Keep.of_wr W205).1
  have K208 := K203.wr W205 (Or.inr sz_b184)
  have N205 := Fr.snoc X205 N200 g_b184
  obtain ⟨T209, h209, k209, X209, e209, E209, A209, O209, st209⟩ := newR X205 hx hZ hown (hw _ (List.mem_of_getElem? (i := 0) rfl)) (hw _ (List.mem_of_getElem? (i := 1) rfl)) e205 (g := (mkF m 234 #[.val (.int p0), .val (.ref b60), .val (.ref b184), .unset, .unset, .unset, .unset] [(.int (7 : Int32))])) rfl (hb hby at_234) rfl (by decide) (cap := 7) (by decide) (by decide) (by decide) (by decide)
  obtain ⟨b209, g209⟩ : ∃ z, z = h205.size := ⟨_, rfl⟩
  rw [← g209] at A209 st209
  have ne_b60_b209 : b60 ≠ b209 := Nat.ne_of_lt (Nat.lt_of_lt_of_le f206.lt (Nat.le_of_eq g209.symm))
  have ne_b184_b209 : b184 ≠ b209 := Nat.ne_of_lt (Nat.lt_of_lt_of_le V205.lt (Nat.le_of_eq g209.symm))
  have g_b209 : n0 ≤ b209 := Nat.le_trans Z207 (Nat.le_of_eq g209.symm)
  have sz_b209 : h0.size ≤ b209 := Nat.le_trans K208.1 (Nat.le_of_eq g209.symm)
  have f210 := f206.ext E209
  have f211 := V205.ext E209
  have Z212 : n0 ≤ h209.size := Nat.le_trans Z207 E209.1
  have K213 := K208.ext E209
  have V_b209 : Arv Z h209 b209 k209 (.object "com/example/redwing/redwing/core/NoticeState") (7 : Int32) [.null, .null, .null, .null, .null, .null, .null] .null := (Arv.new A209 (by decide)).pad (pad_rep [] .null 7)
  obtain ⟨T214, X214, e214, st214⟩ := getS2 X209 hx hZ hown (host := "") (Or.inl (hw _ (List.mem_of_getElem? (i := 14) rfl))) Via.refl e209 (own_sta_keep S5 K213 all0) (g := (mkF m 239 #[.val (.int p0), .val (.ref b60), .val (.ref b184), .unset, .unset, .unset, .unset] [(.int (0 : Int32)), (.ref b209), (.ref b209)])) rfl (hb hby at_239)
  obtain ⟨cl215, Ar215, q215, S215, Ng215, H215, G215⟩ := id V_b209
  have hin215 : ¬ ((0 : Int32) < 0 ∨ cl215.slots.size ≤ ((0 : Int32)).toNatClampNeg) := inb_of S215 ⟨by decide, by decide⟩
  obtain ⟨T215, h215, X215, e215, W215, st215⟩ := stR X214 hx hZ e214 Ar215 (j := (0 : Int32)) hin215 rfl (Sto.ofV Ar215 q215 O209 (Ins.self (E5.keep K213))) (g := (mkF m 242 #[.val (.int p0), .val (.ref b60), .val (.ref b184), .unset, .unset, .unset, .unset] [(.ref s5), (.int (0 : Int32)), (.ref b209), (.ref b209)])) rfl rfl (hb hby at_242)
  have V215 : Arv Z h215 b209 k209 (.object "com/example/redwing/redwing/core/NoticeState") (7 : Int32) [(.ref s5), .null, .null, .null, .null, .null, .null] .null := Arv.set Ar215 q215 S215 Ng215 H215 G215 rfl W215 0 rfl (Nat.le_of_ble_eq_true rfl)
  have f216 := f210.other W215 ne_b60_b209
  have f217 := f211.other W215 ne_b184_b209
  have Z218 : n0 ≤ h215.size := Nat.le_trans Z212 (Keep.of_wr W215).1
  have K219 := K213.wr W215 (Or.inr sz_b209)
  have N215 := Fr.snoc X215 N205 g_b209
  obtain ⟨T220, X220, e220, st220⟩ := getS2 X215 hx hZ hown (host := "") (Or.inl (hw _ (List.mem_of_getElem? (i := 16) rfl))) Via.refl e215 (own_sta_keep S6 K219 all0) (g := (mkF m 245 #[.val (.int p0), .val (.ref b60), .val (.ref b184), .unset, .unset, .unset, .unset] [(.int (1 : Int32)), (.ref b209), (.ref b209)])) rfl (hb hby at_245)
  have k221 : ∀ t, Steps p.tables e below (T220.setTop (mkF m 248 #[.val (.int p0), .val (.ref b60), .val (.ref b184), .unset, .unset, .unset, .unset] [(.ref s6), (.int (1 : Int32)), (.ref b209), (.ref b209)])) t → Steps p.tables e below (s₁.setTop (mkF m 0 #[.val (.int p0), .unset, .unset, .unset, .unset, .unset, .unset] [])) t := by
    intro t h
    refine k193 t ?_
    show Steps p.tables e below (T189.setTop (mkF m 214 #[.val (.int p0), .val (.ref b60), .unset, .unset, .unset, .unset, .unset] [(.ref b184), (.ref b184)])) _
    refine XS.iconst X189.here hx rfl (hb hby at_214) ?_
    show Steps p.tables e below (T189.setTop (mkF m 215 #[.val (.int p0), .val (.ref b60), .unset, .unset, .unset, .unset, .unset] [(.int (1 : Int32)), (.ref b184), (.ref b184)])) _
    refine st194 _ ?_
    show Steps p.tables e below (T194.setTop (mkF m 218 #[.val (.int p0), .val (.ref b60), .unset, .unset, .unset, .unset, .unset] [(.ref s1), (.int (1 : Int32)), (.ref b184), (.ref b184)])) _
    refine st195 _ ?_
    show Steps p.tables e below (T195.setTop (mkF m 219 #[.val (.int p0), .val (.ref b60), .unset, .unset, .unset, .unset, .unset] [(.ref b184)])) _
    refine XS.dup X195.here hx rfl (hb hby at_219) rfl rfl ?_
    show Steps p.tables e below (T195.setTop (mkF m 220 #[.val (.int p0), .val (.ref b60), .unset, .unset, .unset, .unset, .unset] [(.ref b184), (.ref b184)])) _
    refine XS.iconst X195.here hx rfl (hb hby at_220) ?_
    show Steps p.tables e below (T195.setTop (mkF m 221 #[.val (.int p0), .val (.ref b60), .unset, .unset, .unset, .unset, .unset] [(.int (2 : Int32)), (.ref b184), (.ref b184)])) _
    refine st199 _ ?_
    show Steps p.tables e below (T199.setTop (mkF m 224 #[.val (.int p0), .val (.ref b60), .unset, .unset, .unset, .unset, .unset] [(.ref s2), (.int (2 : Int32)), (.ref b184), (.ref b184)])) _
    refine st200 _ ?_
    show Steps p.tables e below (T200.setTop (mkF m 225 #[.val (.int p0), .val (.ref b60), .unset, .unset, .unset, .unset, .unset] [(.ref b184)])) _
    refine XS.dup X200.here hx rfl (hb hby at_225) rfl rfl ?_
    show Steps p.tables e below (T200.setTop (mkF m 226 #[.val (.int p0), .val (.ref b60), .unset, .unset, .unset, .unset, .unset] [(.ref b184), (.ref b184)])) _
    refine XS.iconst X200.here hx rfl (hb hby at_226) ?_
    show Steps p.tables e below (T200.setTop (mkF m 227 #[.val (.int p0), .val (.ref b60), .unset, .unset, .unset, .unset, .unset] [(.int (3 : Int32)), (.ref b184), (.ref b184)])) _
    refine st204 _ ?_
    show Steps p.tables e below (T204.setTop (mkF m 230 #[.val (.int p0), .val (.ref b60), .unset, .unset, .unset, .unset, .unset] [(.ref s4), (.int (3 : Int32)), (.ref b184), (.ref b184)])) _
    refine st205 _ ?_
    show Steps p.tables e below (T205.setTop (mkF m 231 #[.val (.int p0), .val (.ref b60), .unset, .unset, .unset, .unset, .unset] [(.ref b184)])) _
    refine XS.astoreN X205.here hx rfl (hb hby at_231) rfl rfl (l' := #[.val (.int p0), .val (.ref b60), .val (.ref b184), .unset, .unset, .unset, .unset]) rfl ?_
    show Steps p.tables e below (T205.setTop (mkF m 232 #[.val (.int p0), .val (.ref b60), .val (.ref b184), .unset, .unset, .unset, .unset] [])) _
    refine XS.bipush X205.here hx rfl (hb hby at_232) ?_
    show Steps p.tables e below (T205.setTop (mkF m 234 #[.val (.int p0), .val (.ref b60), .val (.ref b184), .unset, .unset, .unset, .unset] [(.int (7 : Int32))])) _
    refine st209 _ ?_
    show Steps p.tables e below (T209.setTop (mkF m 237 #[.val (.int p0), .val (.ref b60), .val (.ref b184), .unset, .unset, .unset, .unset] [(.ref b209)])) _
    refine XS.dup X209.here hx rfl (hb hby at_237) rfl rfl ?_
    show Steps p.tables e below (T209.setTop (mkF m 238 #[.val (.int p0), .val (.ref b60), .val (.ref b184), .unset, .unset, .unset, .unset] [(.ref b209), (.ref b209)])) _
    refine XS.iconst X209.here hx rfl (hb hby at_238) ?_
    show Steps p.tables e below (T209.setTop (mkF m 239 #[.val (.int p0), .val (.ref b60), .val (.ref b184), .unset, .unset, .unset, .unset] [(.int (0 : Int32)), (.ref b209), (.ref b209)])) _
    refine st214 _ ?_
    show Steps p.tables e below (T214.setTop (mkF m 242 #[.val (.int p0), .val (.ref b60), .val (.ref b184), .unset, .unset, .unset, .unset] [(.ref s5), (.int (0 : Int32)), (.ref b209), (.ref b209)])) _
    refine st215 _ ?_
    show Steps p.tables e below (T215.setTop (mkF m 243 #[.val (.int p0), .val (.ref b60), .val (.ref b184), .unset, .unset, .unset, .unset] [(.ref b209)])) _
    refine XS.dup X215.here hx rfl (hb hby at_243) rfl rfl ?_
    show Steps p.tables e below (T215.setTop (mkF m 244 #[.val (.int p0), .val (.ref b60), .val (.ref b184), .unset, .unset, .unset, .unset] [(.ref b209), (.ref b209)])) _
    refine XS.iconst X215.here hx rfl (hb hby at_244) ?_
    show Steps p.tables e below (T215.setTop (mkF m 245 #[.val (.int p0), .val (.ref b60), .val (.ref b184), .unset, .unset, .unset, .unset] [(.int (1 : Int32)), (.ref b209), (.ref b209)])) _
    refine st220 _ ?_
    exact h
  obtain ⟨cl222, Ar222, q222, S222, Ng222, H222, G222⟩ := id V215
  have hin222 : ¬ ((1 : Int32) < 0 ∨ cl222.slots.size ≤ ((1 : Int32)).toNatClampNeg) := inb_of S222 ⟨by decide, by decide⟩
  obtain ⟨T222, h222, X222, e222, W222, st222⟩ := stR X220 hx hZ e220 Ar222 (j := (1 : Int32)) hin222 rfl (Sto.ofV Ar222 q222 O209 (Ins.self (E6.keep K219))) (g := (mkF m 248 #[.val (.int p0), .val (.ref b60), .val (.ref b184), .unset, .unset, .unset, .unset] [(.ref s6), (.int (1 : Int32)), (.ref b209), (.ref b209)])) rfl rfl (hb hby at_248)
  have V222 : Arv Z h222 b209 k209 (.object "com/example/redwing/redwing/core/NoticeState") (7 : Int32) [(.ref s5), (.ref s6), .null, .null, .null, .null, .null] .null := Arv.set Ar222 q222 S222 Ng222 H222 G222 rfl W222 1 rfl (Nat.le_of_ble_eq_true rfl)
  have f223 := f216.other W222 ne_b60_b209
  have f224 := f217.other W222 ne_b184_b209
  have Z225 : n0 ≤ h222.size := Nat.le_trans Z218 (Keep.of_wr W222).1
  have K226 := K219.wr W222 (Or.inr sz_b209)
  have N222 := Fr.snoc X222 N215 g_b209
  obtain ⟨T227, X227, e227, st227⟩ := getS2 X222 hx hZ hown (host := "") (Or.inl (hw _ (List.mem_of_getElem? (i := 18) rfl))) Via.refl e222 (own_sta_keep S7 K226 all0) (g := (mkF m 251 #[.val (.int p0), .val (.ref b60), .val (.ref b184), .unset, .unset, .unset, .unset] [(.int (2 : Int32)), (.ref b209), (.ref b209)])) rfl (hb hby at_251)
  obtain ⟨cl228, Ar228, q228, S228, Ng228, H228, G228⟩ := id V222
  have hin228 : ¬ ((2 : Int32) < 0 ∨ cl228.slots.size ≤ ((2 : Int32)).toNatClampNeg) := inb_of S228 ⟨by decide, by decide⟩
  obtain ⟨T228, h228, X228, e228, W228, st228⟩ := stR X227 hx hZ e227 Ar228 (j := (2 : Int32)) hin228 rfl (Sto.ofV Ar228 q228 O209 (Ins.self (E7.keep K226))) (g := (mkF m 254 #[.val (.int p0), .val (.ref b60), .val (.ref b184), .unset, .unset, .unset, .unset] [(.ref s7), (.int (2 : Int32)), (.ref b209), (.ref b209)])) rfl rfl (hb hby at_254)
  have V228 : Arv Z h228 b209 k209 (.object "com/example/redwing/redwing/core/NoticeState") (7 : Int32) [(.ref s5), (.ref s6), (.ref s7), .null, .null, .null, .null] .null := Arv.set Ar228 q228 S228 Ng228 H228 G228 rfl W228 2 rfl (Nat.le_of_ble_eq_true rfl)
  have f229 := f223.other W228 ne_b60_b209
  have f230 := f224.other W228 ne_b184_b209
  have Z231 : n0 ≤ h228.size := Nat.le_trans Z225 (Keep.of_wr W228).1
  have K232 := K226.wr W228 (Or.inr sz_b209)
  have N228 := Fr.snoc X228 N222 g_b209
  obtain ⟨T233, X233, e233, st233⟩ := getS2 X228 hx hZ hown (host := "") (Or.inl (hw _ (List.mem_of_getElem? (i := 36) rfl))) Via.refl e228 (own_sta_keep S16 K232 all0) (g := (mkF m 257 #[.val (.int p0), .val (.ref b60), .val (.ref b184), .unset, .unset, .unset, .unset] [(.int (3 : Int32)), (.ref b209), (.ref b209)])) rfl (hb hby at_257)
  obtain ⟨cl234, Ar234, q234, S234, Ng234, H234, G234⟩ := id V228
  have hin234 : ¬ ((3 : Int32) < 0 ∨ cl234.slots.size ≤ ((3 : Int32)).toNatClampNeg) := inb_of S234 ⟨by decide, by decide⟩
  obtain ⟨T234, h234, X234, e234, W234, st234⟩ := stR X233 hx hZ e233 Ar234 (j := (3 : Int32)) hin234 rfl (Sto.ofV Ar234 q234 O209 (Ins.self (E16.keep K232))) (g := (mkF m 260 #[.val (.int p0), .val (.ref b60), .val (.ref b184), .unset, .unset, .unset, .unset] [(.ref s16), (.int (3 : Int32)), (.ref b209), (.ref b209)])) rfl rfl (hb hby at_260)
  have V234 : Arv Z h234 b209 k209 (.object "com/example/redwing/redwing/core/NoticeState") (7 : Int32) [(.ref s5), (.ref s6), (.ref s7), (.ref s16), .null, .null, .null] .null := Arv.set Ar234 q234 S234 Ng234 H234 G234 rfl W234 3 rfl (Nat.le_of_ble_eq_true rfl)
  have f235 := f229.other W234 ne_b60_b209
  have f236 := f230.other W234 ne_b184_b209
  have Z237 : n0 ≤ h234.size := Nat.le_trans Z231 (Keep.of_wr W234).1
  have K238 := K232.wr W234 (Or.inr sz_b209)
  have N234 := Fr.snoc X234 N228 g_b209
  obtain ⟨T239, X239, e239, st239⟩ := getS2 X234 hx hZ hown (host := "") (Or.inl (hw _ (List.mem_of_getElem? (i := 44) rfl))) Via.refl e234 (own_sta_keep S20 K238 all0) (g := (mkF m 263 #[.val (.int p0), .val (.ref b60), .val (.ref b184), .unset, .unset, .unset, .unset] [(.int (4 : Int32)), (.ref b209), (.ref b209)])) rfl (hb hby at_263)
  obtain ⟨cl240, Ar240, q240, S240, Ng240, H240, G240⟩ := id V234
  have hin240 : ¬ ((4 : Int32) < 0 ∨ cl240.slots.size ≤ ((4 : Int32)).toNatClampNeg) := inb_of S240 ⟨by decide, by decide⟩
  obtain ⟨T240, h240, X240, e240, W240, st240⟩ := stR X239 hx hZ e239 Ar240 (j := (4 : Int32)) hin240 rfl (Sto.ofV Ar240 q240 O209 (Ins.self (E20.keep K238))) (g := (mkF m 266 #[.val (.int p0), .val (.ref b60), .val (.ref b184), .unset, .unset, .unset, .unset] [(.ref s20), (.int (4 : Int32)), (.ref b209), (.ref b209)])) rfl rfl (hb hby at_266)
  have V240 : Arv Z h240 b209 k209 (.object "com/example/redwing/redwing/core/NoticeState") (7 : Int32) [(.ref s5), (.ref s6), (.ref s7), (.ref s16), (.ref s20), .null, .null] .null := Arv.set Ar240 q240 S240 Ng240 H240 G240 rfl W240 4 rfl (Nat.le_of_ble_eq_true rfl)
  have f241 := f235.other W240 ne_b60_b209
  have f242 := f236.other W240 ne_b184_b209
  have Z243 : n0 ≤ h240.size := Nat.le_trans Z237 (Keep.of_wr W240).1
  have K244 := K238.wr W240 (Or.inr sz_b209)
  have N240 := Fr.snoc X240 N234 g_b209
  obtain ⟨T245, X245, e245, st245⟩ := getS2 X240 hx hZ hown (host := "") (Or.inl (hw _ (List.mem_of_getElem? (i := 48) rfl))) Via.refl e240 (own_sta_keep S22 K244 all0) (g := (mkF m 269 #[.val (.int p0), .val (.ref b60), .val (.ref b184), .unset, .unset, .unset, .unset] [(.int (5 : Int32)), (.ref b209), (.ref b209)])) rfl (hb hby at_269)
  obtain ⟨cl246, Ar246, q246, S246, Ng246, H246, G246⟩ := id V240
  have hin246 : ¬ ((5 : Int32) < 0 ∨ cl246.slots.size ≤ ((5 : Int32)).toNatClampNeg) := inb_of S246 ⟨by decide, by decide⟩
  obtain ⟨T246, h246, X246, e246, W246, st246⟩ := stR X245 hx hZ e245 Ar246 (j := (5 : Int32)) hin246 rfl (Sto.ofV Ar246 q246 O209 (Ins.self (E22.keep K244))) (g := (mkF m 272 #[.val (.int p0), .val (.ref b60), .val (.ref b184), .unset, .unset, .unset, .unset] [(.ref s22), (.int (5 : Int32)), (.ref b209), (.ref b209)])) rfl rfl (hb hby at_272)
  have V246 : Arv Z h246 b209 k209 (.object "com/example/redwing/redwing/core/NoticeState") (7 : Int32) [(.ref s5), (.ref s6), (.ref s7), (.ref s16), (.ref s20), (.ref s22), .null] .null := Arv.set Ar246 q246 S246 Ng246 H246 G246 rfl W246 5 rfl (Nat.le_of_ble_eq_true rfl)
  have f247 := f241.other W246 ne_b60_b209
  have f248 := f242.other W246 ne_b184_b209
  have Z249 : n0 ≤ h246.size := Nat.le_trans Z243 (Keep.of_wr W246).1
  have K250 := K244.wr W246 (Or.inr sz_b209)
  have N246 := Fr.snoc X246 N240 g_b209
  obtain ⟨T251, X251, e251, st251⟩ := getS2 X246 hx hZ hown (host := "") (Or.inl (hw _ (List.mem_of_getElem? (i := 50) rfl))) Via.refl e246 (own_sta_keep S23 K250 all0) (g := (mkF m 276 #[.val (.int p0), .val (.ref b60), .val (.ref b184), .unset, .unset, .unset, .unset] [(.int (6 : Int32)), (.ref b209), (.ref b209)])) rfl (hb hby at_276)
  obtain ⟨cl252, Ar252, q252, S252, Ng252, H252, G252⟩ := id V246
  have hin252 : ¬ ((6 : Int32) < 0 ∨ cl252.slots.size ≤ ((6 : Int32)).toNatClampNeg) := inb_of S252 ⟨by decide, by decide⟩
  obtain ⟨T252, h252, X252, e252, W252, st252⟩ := stR X251 hx hZ e251 Ar252 (j := (6 : Int32)) hin252 rfl (Sto.ofV Ar252 q252 O209 (Ins.self (E23.keep K250))) (g := (mkF m 279 #[.val (.int p0), .val (.ref b60), .val (.ref b184), .unset, .unset, .unset, .unset] [(.ref s23), (.int (6 : Int32)), (.ref b209), (.ref b209)])) rfl rfl (hb hby at_279)
  have V252 : Arv Z h252 b209 k209 (.object "com/example/redwing/redwing/core/NoticeState") (7 : Int32) [(.ref s5), (.ref s6), (.ref s7), (.ref s16), (.ref s20), (.ref s22), (.ref s23)] .null := Arv.set Ar252 q252 S252 Ng252 H252 G252 rfl W252 6 rfl (Nat.le_of_ble_eq_true rfl)
  have f253 := f247.other W252 ne_b60_b209
  have f254 := f248.other W252 ne_b184_b209
  have Z255 : n0 ≤ h252.size := Nat.le_trans Z249 (Keep.of_wr W252).1
  have K256 := K250.wr W252 (Or.inr sz_b209)
  have N252 := Fr.snoc X252 N246 g_b209
  have k257 : ∀ t, Steps p.tables e below (T252.setTop (mkF m 280 #[.val (.int p0), .val (.ref b60), .val (.ref b184), .unset, .unset, .unset, .unset] [(.ref b209)])) t → Steps p.tables e below (s₁.setTop (mkF m 0 #[.val (.int p0), .unset, .unset, .unset, .unset, .unset, .unset] [])) t := by
    intro t h
    refine k221 t ?_
    show Steps p.tables e below (T220.setTop (mkF m 248 #[.val (.int p0), .val (.ref b60), .val (.ref b184), .unset, .unset, .unset, .unset] [(.ref s6), (.int (1 : Int32)), (.ref b209), (.ref b209)])) _
    refine st222 _ ?_
    show Steps p.tables e below (T222.setTop (mkF m 249 #[.val (.int p0), .val (.ref b60), .val (.ref b184), .unset, .unset, .unset, .unset] [(.ref b209)])) _
    refine XS.dup X222.here hx rfl (hb hby at_249) rfl rfl ?_
    show Steps p.tables e below (T222.setTop (mkF m 250 #[.val (.int p0), .val (.ref b60), .val (.ref b184), .unset, .unset, .unset, .unset] [(.ref b209), (.ref b209)])) _
    refine XS.iconst X222.here hx rfl (hb hby at_250) ?_
    show Steps p.tables e below (T222.setTop (mkF m 251 #[.val (.int p0), .val (.ref b60), .val (.ref b184), .unset, .unset, .unset, .unset] [(.int (2 : Int32)), (.ref b209), (.ref b209)])) _
    refine st227 _ ?_
    show Steps p.tables e below (T227.setTop (mkF m 254 #[.val (.int p0), .val (.ref b60), .val (.ref b184), .unset, .unset, .unset, .unset] [(.ref s7), (.int (2 : Int32)), (.ref b209), (.ref b209)])) _
    refine st228 _ ?_
    show Steps p.tables e below (T228.setTop (mkF m 255 #[.val (.int p0), .val (.ref b60), .val (.ref b184), .unset, .unset, .unset, .unset] [(.ref b209)])) _
    refine XS.dup X228.here hx rfl (hb hby at_255) rfl rfl ?_
    show Steps p.tables e below (T228.setTop (mkF m 256 #[.val (.int p0), .val (.ref b60), .val (.ref b184), .unset, .unset, .unset, .unset] [(.ref b209), (.ref b209)])) _
    refine XS.iconst X228.here hx rfl (hb hby at_256) ?_
    show Steps p.tables e below (T228.setTop (mkF m 257 #[.val (.int p0), .val (.ref b60), .val (.ref b184), .unset, .unset, .unset, .unset] [(.int (3 : Int32)), (.ref b209), (.ref b209)])) _
    refine st233 _ ?_
    show Steps p.tables e below (T233.setTop (mkF m 260 #[.val (.int p0), .val (.ref b60), .val (.ref b184), .unset, .unset, .unset, .unset] [(.ref s16), (.int (3 : Int32)), (.ref b209), (.ref b209)])) _
    refine st234 _ ?_
    show Steps p.tables e below (T234.setTop (mkF m 261 #[.val (.int p0), .val (.ref b60), .val (.ref b184), .unset, .unset, .unset, .unset] [(.ref b209)])) _
    refine XS.dup X234.here hx rfl (hb hby at_261) rfl rfl ?_
    show Steps p.tables e below (T234.setTop (mkF m 262 #[.val (.int p0), .val (.ref b60), .val (.ref b184), .unset, .unset, .unset, .unset] [(.ref b209), (.ref b209)])) _
    refine XS.iconst X234.here hx rfl (hb hby at_262) ?_
    show Steps p.tables e below (T234.setTop (mkF m 263 #[.val (.int p0), .val (.ref b60), .val (.ref b184), .unset, .unset, .unset, .unset] [(.int (4 : Int32)), (.ref b209), (.ref b209)])) _
    refine st239 _ ?_
    show Steps p.tables e below (T239.setTop (mkF m 266 #[.val (.int p0), .val (.ref b60), .val (.ref b184), .unset, .unset, .unset, .unset] [(.ref s20), (.int (4 : Int32)), (.ref b209), (.ref b209)])) _
    refine st240 _ ?_
    show Steps p.tables e below (T240.setTop (mkF m 267 #[.val (.int p0), .val (.ref b60), .val (.ref b184), .unset, .unset, .unset, .unset] [(.ref b209)])) _
    refine XS.dup X240.here hx rfl (hb hby at_267) rfl rfl ?_
    show Steps p.tables e below (T240.setTop (mkF m 268 #[.val (.int p0), .val (.ref b60), .val (.ref b184), .unset, .unset, .unset, .unset] [(.ref b209), (.ref b209)])) _
    refine XS.iconst X240.here hx rfl (hb hby at_268) ?_
    show Steps p.tables e below (T240.setTop (mkF m 269 #[.val (.int p0), .val (.ref b60), .val (.ref b184), .unset, .unset, .unset, .unset] [(.int (5 : Int32)), (.ref b209), (.ref b209)])) _
    refine st245 _ ?_
    show Steps p.tables e below (T245.setTop (mkF m 272 #[.val (.int p0), .val (.ref b60), .val (.ref b184), .unset, .unset, .unset, .unset] [(.ref s22), (.int (5 : Int32)), (.ref b209), (.ref b209)])) _
    refine st246 _ ?_
    show Steps p.tables e below (T246.setTop (mkF m 273 #[.val (.int p0), .val (.ref b60), .val (.ref b184), .unset, .unset, .unset, .unset] [(.ref b209)])) _
    refine XS.dup X246.here hx rfl (hb hby at_273) rfl rfl ?_
    show Steps p.tables e below (T246.setTop (mkF m 274 #[.val (.int p0), .val (.ref b60), .val (.ref b184), .unset, .unset, .unset, .unset] [(.ref b209), (.ref b209)])) _
    refine XS.bipush X246.here hx rfl (hb hby at_274) ?_
    show Steps p.tables e below (T246.setTop (mkF m 276 #[.val (.int p0), .val (.ref b60), .val (.ref b184), .unset, .unset, .unset, .unset] [(.int (6 : Int32)), (.ref b209), (.ref b209)])) _
    refine st251 _ ?_
    show Steps p.tables e below (T251.setTop (mkF m 279 #[.val (.int p0), .val (.ref b60), .val (.ref b184), .unset, .unset, .unset, .unset] [(.ref s23), (.int (6 : Int32)), (.ref b209), (.ref b209)])) _
    refine st252 _ ?_
    exact h
  obtain ⟨n, hn, en⟩ := own_modn p0 29 29 rfl (by decide)
  have k258 : ∀ t, Steps p.tables e below (T252.setTop (mkF m 290 #[.val (.int p0), .val (.ref b60), .val (.ref b184), .val (.ref b209), .val (.int ((p0 &&& (2147483647 : Int32)) % (29 : Int32))), .unset, .unset] [])) t → Steps p.tables e below (s₁.setTop (mkF m 0 #[.val (.int p0), .unset, .unset, .unset, .unset, .unset, .unset] [])) t := by
    intro t h
    refine k257 t ?_
    show Steps p.tables e below (T252.setTop (mkF m 280 #[.val (.int p0), .val (.ref b60), .val (.ref b184), .unset, .unset, .unset, .unset] [(.ref b209)])) _
    refine XS.astoreN X252.here hx rfl (hb hby at_280) rfl rfl (l' := #[.val (.int p0), .val (.ref b60), .val (.ref b184), .val (.ref b209), .unset, .unset, .unset]) rfl ?_
    show Steps p.tables e below (T252.setTop (mkF m 281 #[.val (.int p0), .val (.ref b60), .val (.ref b184), .val (.ref b209), .unset, .unset, .unset] [])) _
    refine XS.iloadN X252.here hx rfl (hb hby at_281) rfl ?_
    show Steps p.tables e below (T252.setTop (mkF m 282 #[.val (.int p0), .val (.ref b60), .val (.ref b184), .val (.ref b209), .unset, .unset, .unset] [(.int p0)])) _
    refine X252.ldcInt hx hown (mvT hZ (hw _ (List.mem_of_getElem? (i := 62) rfl))) (g := (mkF m 282 #[.val (.int p0), .val (.ref b60), .val (.ref b184), .val (.ref b209), .unset, .unset, .unset] [(.int p0)])) rfl (hb hby at_282) _ ?_
    show Steps p.tables e below (T252.setTop (mkF m 284 #[.val (.int p0), .val (.ref b60), .val (.ref b184), .val (.ref b209), .unset, .unset, .unset] [(.int (2147483647 : Int32)), (.int p0)])) _
    refine XS.iand X252.here hx rfl (hb hby at_284) rfl ?_
    show Steps p.tables e below (T252.setTop (mkF m 285 #[.val (.int p0), .val (.ref b60), .val (.ref b184), .val (.ref b209), .unset, .unset, .unset] [(.int (p0 &&& (2147483647 : Int32)))])) _
    refine XS.bipush X252.here hx rfl (hb hby at_285) ?_
    show Steps p.tables e below (T252.setTop (mkF m 287 #[.val (.int p0), .val (.ref b60), .val (.ref b184), .val (.ref b209), .unset, .unset, .unset] [(.int (29 : Int32)), (.int (p0 &&& (2147483647 : Int32)))])) _
    refine iremM (g := (mkF m 287 #[.val (.int p0), .val (.ref b60), .val (.ref b184), .val (.ref b209), .unset, .unset, .unset] [(.int (29 : Int32)), (.int (p0 &&& (2147483647 : Int32)))])) X252 hx rfl (hb hby at_287) rfl (by decide) ?_
    show Steps p.tables e below (T252.setTop (mkF m 288 #[.val (.int p0), .val (.ref b60), .val (.ref b184), .val (.ref b209), .unset, .unset, .unset] [(.int ((p0 &&& (2147483647 : Int32)) % (29 : Int32)))])) _
    refine XS.istore X252.here hx rfl (hb hby at_288) rfl (l' := #[.val (.int p0), .val (.ref b60), .val (.ref b184), .val (.ref b209), .val (.int ((p0 &&& (2147483647 : Int32)) % (29 : Int32))), .unset, .unset]) rfl ?_
    exact h
  have r259 : ((p0 &&& (2147483647 : Int32)) % (29 : Int32)) = (Int32.ofNat n) := en
  have k260 : ∀ t, Steps p.tables e below (T252.setTop (mkF m 290 #[.val (.int p0), .val (.ref b60), .val (.ref b184), .val (.ref b209), .val (.int (Int32.ofNat n)), .unset, .unset] [])) t → Steps p.tables e below (s₁.setTop (mkF m 0 #[.val (.int p0), .unset, .unset, .unset, .unset, .unset, .unset] [])) t := by first | (rw [← r259]; exact k258) | exact k258
  have key : ∀ n : Nat, n < 29 → ∃ (xs : Addr) (tv : Value), ([(.ref s0), (.ref s1), (.ref s2), (.ref s3), (.ref s4), (.ref s5), (.ref s6), (.ref s7), (.ref s8), (.ref s9), (.ref s10), (.ref s11), (.ref s12), (.ref s13), (.ref s14), (.ref s15), (.ref s16), (.ref s17), (.ref s18), (.ref s19), (.ref s20), (.ref s21), (.ref s22), (.ref s23), (.ref s24), (.ref s25), (.ref s26), (.ref s27), (.ref s28)] : List Value).getD n .null = .ref xs ∧ Exa Z h0 xs "com/example/redwing/redwing/core/NoticeState" ∧ Fld Z h0 xs "com/example/redwing/redwing/core/NoticeState" "tedStatus" "Ljava/lang/String;" tv ∧ ((n < 5 ∧ tv = .null) ∨ (¬ n < 5 ∧ ∃ y, tv = .ref y)) := by
    intro n hn
    refine (Nat.lt_succ_iff_lt_or_eq.mp hn).elim (fun hn => ?_) (fun q => ?_)
    rotate_left
    · subst q; exact ⟨s28, _, rfl, E28, F28, Or.inr ⟨by decide, _, rfl⟩⟩
    refine (Nat.lt_succ_iff_lt_or_eq.mp hn).elim (fun hn => ?_) (fun q => ?_)
    rotate_left
    · subst q; exact ⟨s27, _, rfl, E27, F27, Or.inr ⟨by decide, _, rfl⟩⟩
    refine (Nat.lt_succ_iff_lt_or_eq.mp hn).elim (fun hn => ?_) (fun q => ?_)
    rotate_left
    · subst q; exact ⟨s26, _, rfl, E26, F26, Or.inr ⟨by decide, _, rfl⟩⟩
    refine (Nat.lt_succ_iff_lt_or_eq.mp hn).elim (fun hn => ?_) (fun q => ?_)
    rotate_left
    · subst q; exact ⟨s25, _, rfl, E25, F25, Or.inr ⟨by decide, _, rfl⟩⟩
    refine (Nat.lt_succ_iff_lt_or_eq.mp hn).elim (fun hn => ?_) (fun q => ?_)
    rotate_left
    · subst q; exact ⟨s24, _, rfl, E24, F24, Or.inr ⟨by decide, _, rfl⟩⟩
    refine (Nat.lt_succ_iff_lt_or_eq.mp hn).elim (fun hn => ?_) (fun q => ?_)
    rotate_left
    · subst q; exact ⟨s23, _, rfl, E23, F23, Or.inr ⟨by decide, _, rfl⟩⟩
    refine (Nat.lt_succ_iff_lt_or_eq.mp hn).elim (fun hn => ?_) (fun q => ?_)
    rotate_left
    · subst q; exact ⟨s22, _, rfl, E22, F22, Or.inr ⟨by decide, _, rfl⟩⟩
    refine (Nat.lt_succ_iff_lt_or_eq.mp hn).elim (fun hn => ?_) (fun q => ?_)
    rotate_left
    · subst q; exact ⟨s21, _, rfl, E21, F21, Or.inr ⟨by decide, _, rfl⟩⟩
    refine (Nat.lt_succ_iff_lt_or_eq.mp hn).elim (fun hn => ?_) (fun q => ?_)
    rotate_left
    · subst q; exact ⟨s20, _, rfl, E20, F20, Or.inr ⟨by decide, _, rfl⟩⟩
    refine (Nat.lt_succ_iff_lt_or_eq.mp hn).elim (fun hn => ?_) (fun q => ?_)
    rotate_left
    · subst q; exact ⟨s19, _, rfl, E19, F19, Or.inr ⟨by decide, _, rfl⟩⟩
    refine (Nat.lt_succ_iff_lt_or_eq.mp hn).elim (fun hn => ?_) (fun q => ?_)
    rotate_left
    · subst q; exact ⟨s18, _, rfl, E18, F18, Or.inr ⟨by decide, _, rfl⟩⟩
    refine (Nat.lt_succ_iff_lt_or_eq.mp hn).elim (fun hn => ?_) (fun q => ?_)
    rotate_left
    · subst q; exact ⟨s17, _, rfl, E17, F17, Or.inr ⟨by decide, _, rfl⟩⟩
    refine (Nat.lt_succ_iff_lt_or_eq.mp hn).elim (fun hn => ?_) (fun q => ?_)
    rotate_left
    · subst q; exact ⟨s16, _, rfl, E16, F16, Or.inr ⟨by decide, _, rfl⟩⟩
    refine (Nat.lt_succ_iff_lt_or_eq.mp hn).elim (fun hn => ?_) (fun q => ?_)
    rotate_left
    · subst q; exact ⟨s15, _, rfl, E15, F15, Or.inr ⟨by decide, _, rfl⟩⟩
    refine (Nat.lt_succ_iff_lt_or_eq.mp hn).elim (fun hn => ?_) (fun q => ?_)
    rotate_left
    · subst q; exact ⟨s14, _, rfl, E14, F14, Or.inr ⟨by decide, _, rfl⟩⟩
    refine (Nat.lt_succ_iff_lt_or_eq.mp hn).elim (fun hn => ?_) (fun q => ?_)
    rotate_left
    · subst q; exact ⟨s13, _, rfl, E13, F13, Or.inr ⟨by decide, _, rfl⟩⟩
    refine (Nat.lt_succ_iff_lt_or_eq.mp hn).elim (fun hn => ?_) (fun q => ?_)
    rotate_left
    · subst q; exact ⟨s12, _, rfl, E12, F12, Or.inr ⟨by decide, _, rfl⟩⟩
    refine (Nat.lt_succ_iff_lt_or_eq.mp hn).elim (fun hn => ?_) (fun q => ?_)
    rotate_left
    · subst q; exact ⟨s11, _, rfl, E11, F11, Or.inr ⟨by decide, _, rfl⟩⟩
    refine (Nat.lt_succ_iff_lt_or_eq.mp hn).elim (fun hn => ?_) (fun q => ?_)
    rotate_left
    · subst q; exact ⟨s10, _, rfl, E10, F10, Or.inr ⟨by decide, _, rfl⟩⟩
    refine (Nat.lt_succ_iff_lt_or_eq.mp hn).elim (fun hn => ?_) (fun q => ?_)
    rotate_left
    · subst q; exact ⟨s9, _, rfl, E9, F9, Or.inr ⟨by decide, _, rfl⟩⟩
    refine (Nat.lt_succ_iff_lt_or_eq.mp hn).elim (fun hn => ?_) (fun q => ?_)
    rotate_left
    · subst q; exact ⟨s8, _, rfl, E8, F8, Or.inr ⟨by decide, _, rfl⟩⟩
    refine (Nat.lt_succ_iff_lt_or_eq.mp hn).elim (fun hn => ?_) (fun q => ?_)
    rotate_left
    · subst q; exact ⟨s7, _, rfl, E7, F7, Or.inr ⟨by decide, _, rfl⟩⟩
    refine (Nat.lt_succ_iff_lt_or_eq.mp hn).elim (fun hn => ?_) (fun q => ?_)
    rotate_left
    · subst q; exact ⟨s6, _, rfl, E6, F6, Or.inr ⟨by decide, _, rfl⟩⟩
    refine (Nat.lt_succ_iff_lt_or_eq.mp hn).elim (fun hn => ?_) (fun q => ?_)
    rotate_left
    · subst q; exact ⟨s5, _, rfl, E5, F5, Or.inr ⟨by decide, _, rfl⟩⟩
    refine (Nat.lt_succ_iff_lt_or_eq.mp hn).elim (fun hn => ?_) (fun q => ?_)
    rotate_left
    · subst q; exact ⟨s4, _, rfl, E4, F4, Or.inl ⟨by decide, rfl⟩⟩
    refine (Nat.lt_succ_iff_lt_or_eq.mp hn).elim (fun hn => ?_) (fun q => ?_)
    rotate_left
    · subst q; exact ⟨s3, _, rfl, E3, F3, Or.inl ⟨by decide, rfl⟩⟩
    refine (Nat.lt_succ_iff_lt_or_eq.mp hn).elim (fun hn => ?_) (fun q => ?_)
    rotate_left
    · subst q; exact ⟨s2, _, rfl, E2, F2, Or.inl ⟨by decide, rfl⟩⟩
    refine (Nat.lt_succ_iff_lt_or_eq.mp hn).elim (fun hn => ?_) (fun q => ?_)
    rotate_left
    · subst q; exact ⟨s1, _, rfl, E1, F1, Or.inl ⟨by decide, rfl⟩⟩
    refine (Nat.lt_succ_iff_lt_or_eq.mp hn).elim (fun hn => ?_) (fun q => ?_)
    rotate_left
    · subst q; exact ⟨s0, _, rfl, E0, F0, Or.inl ⟨by decide, rfl⟩⟩
    exact absurd hn (Nat.not_lt_zero _)
  obtain ⟨xs, tv, hx1, hx2, hx3, hx4⟩ := key n hn
  obtain ⟨cl261, Ar261, q261, S261, Ng261, H261, G261⟩ := id f253
  have hin261 : ¬ ((Int32.ofNat n) < 0 ∨ cl261.slots.size ≤ ((Int32.ofNat n)).toNatClampNeg) := inb_of S261 (own_inb hn (by decide) rfl)
  have k262 : ∀ t, Steps p.tables e below (T252.setTop (mkF m 296 #[.val (.int p0), .val (.ref b60), .val (.ref b184), .val (.ref b209), .val (.int (Int32.ofNat n)), .val (.ref xs), .unset] [])) t → Steps p.tables e below (s₁.setTop (mkF m 0 #[.val (.int p0), .unset, .unset, .unset, .unset, .unset, .unset] [])) t := by
    intro t h
    refine k260 t ?_
    show Steps p.tables e below (T252.setTop (mkF m 290 #[.val (.int p0), .val (.ref b60), .val (.ref b184), .val (.ref b209), .val (.int (Int32.ofNat n)), .unset, .unset] [])) _
    refine XS.aloadN X252.here hx rfl (hb hby at_290) rfl rfl ?_
    show Steps p.tables e below (T252.setTop (mkF m 291 #[.val (.int p0), .val (.ref b60), .val (.ref b184), .val (.ref b209), .val (.int (Int32.ofNat n)), .unset, .unset] [(.ref b60)])) _
    refine XS.iload X252.here hx rfl (hb hby at_291) rfl ?_
    show Steps p.tables e below (T252.setTop (mkF m 293 #[.val (.int p0), .val (.ref b60), .val (.ref b184), .val (.ref b209), .val (.int (Int32.ofNat n)), .unset, .unset] [(.int (Int32.ofNat n)), (.ref b60)])) _
    refine X252.aaload hx (j := (Int32.ofNat n)) (v := (.ref xs)) (by rw [e252]; exact Ar261.1) (State.isArrayOf_alike hZ.alike Ar261.2.1) rfl Ar261.2.2 hin261 (H261.at hin261 (by rw [clamp_of rfl (Nat.lt_trans hn (by decide))]; exact hx1)) (g := (mkF m 293 #[.val (.int p0), .val (.ref b60), .val (.ref b184), .val (.ref b209), .val (.int (Int32.ofNat n)), .unset, .unset] [(.int (Int32.ofNat n)), (.ref b60)])) rfl rfl (hb hby at_293) _ ?_
    show Steps p.tables e below (T252.setTop (mkF m 294 #[.val (.int p0), .val (.ref b60), .val (.ref b184), .val (.ref b209), .val (.int (Int32.ofNat n)), .unset, .unset] [(.ref xs)])) _
    refine XS.astore X252.here hx rfl (hb hby at_294) rfl rfl (l' := #[.val (.int p0), .val (.ref b60), .val (.ref b184), .val (.ref b209), .val (.int (Int32.ofNat n)), .val (.ref xs), .unset]) rfl ?_
    exact h
  rcases hx4 with ⟨hl5, rfl⟩ | ⟨hl5, y, rfl⟩
  · skip
    obtain ⟨cq263, kq263, q263a, q263b, q263c⟩ := isOf hZ e252 (hx2.keep K256)
    obtain ⟨_, _, ⟨T263, L263, k263, n263⟩, -, X263, ⟨Lc263, hQ263, l263, y263, z263⟩, st263⟩ := X252.virtualBack hx (y := (⟨"com/example/redwing/redwing/core/NoticeState", "defaultPath", "()Ljava/util/List;"⟩ : MethodName)) (z := (⟨"com/example/redwing/redwing/core/NoticeState", "defaultPath", "()Ljava/util/List;"⟩ : MethodName)) hown (mvT hZ (hw _ (List.mem_of_getElem? (i := 63) rfl))) (mvT hZ (hw _ (List.mem_of_getElem? (i := 64) rfl))) (notFace_of_selects (args := #[]) (mvT hZ (hw _ (List.mem_of_getElem? (i := 66) rfl)))) (mvT hZ (hw _ (List.mem_of_getElem? (i := 66) rfl))) (mvT hZ (hw _ (List.mem_of_getElem? (i := 65) rfl))) (by decide) (backOf (W := 0) (rmD0 l Z a0 hw [] xs 0 np h252 n0 Z255 (hx3.keep K256 nin0) (own_sta_keep Snp K256 all0)) hZ (hw _ (List.mem_of_getElem? (i := 67) rfl)) (hw _ (List.mem_of_getElem? (i := 3) rfl)) (by decide) (by decide)) q263a q263c (g := (mkF m 298 #[.val (.int p0), .val (.ref b60), .val (.ref b184), .val (.ref b209), .val (.int (Int32.ofNat n)), .val (.ref xs), .unset] [(.ref xs)])) rfl (by rw [hml]; rfl) (Steps.refl _) (argsL := []) (rest := []) (lenOf own_pd_3 rfl) rfl (by show 2 * 0 + _ ≤ _; exact Nat.le_of_eq rfl) (hb hby at_298) (fun _ _ => ⟨rfl, e252, (by decide : 3 + 0 ≤ _), (by decide : 40 + 0 ≤ _)⟩)
    dsimp only [Pt.U, Pt.locs, Pt.cells, Pt.slots] at X263 l263 y263 z263 st263 hQ263
    rw [l263, y263, z263] at X263
    obtain ⟨rfl, Nq263, eq263⟩ := hQ263
    have N263 := Fr.app N252 Nq263
    have k264 : ∀ t, Steps p.tables e below (T263.setTop (mkF m 306 #[.val (.int p0), .val (.ref b60), .val (.ref b184), .val (.ref b209), .val (.int (Int32.ofNat n)), .val (.ref xs), .val (.ref np)] [(.int (5 : Int32)), (.int (Int32.ofNat n))])) t → Steps p.tables e below (s₁.setTop (mkF m 0 #[.val (.int p0), .unset, .unset, .unset, .unset, .unset, .unset] [])) t := by
      intro t h
      refine k262 t ?_
      show Steps p.tables e below (T252.setTop (mkF m 296 #[.val (.int p0), .val (.ref b60), .val (.ref b184), .val (.ref b209), .val (.int (Int32.ofNat n)), .val (.ref xs), .unset] [])) _
      refine XS.aload X252.here hx rfl (hb hby at_296) rfl rfl ?_
      show Steps p.tables e below (T252.setTop (mkF m 298 #[.val (.int p0), .val (.ref b60), .val (.ref b184), .val (.ref b209), .val (.int (Int32.ofNat n)), .val (.ref xs), .unset] [(.ref xs)])) _
      refine st263.trans ?_
      show Steps p.tables e below (T263.setTop (mkF m 301 #[.val (.int p0), .val (.ref b60), .val (.ref b184), .val (.ref b209), .val (.int (Int32.ofNat n)), .val (.ref xs), .unset] [(.ref np)])) _
      refine XS.astore X263.here hx rfl (hb hby at_301) rfl rfl (l' := #[.val (.int p0), .val (.ref b60), .val (.ref b184), .val (.ref b209), .val (.int (Int32.ofNat n)), .val (.ref xs), .val (.ref np)]) rfl ?_
      show Steps p.tables e below (T263.setTop (mkF m 303 #[.val (.int p0), .val (.ref b60), .val (.ref b184), .val (.ref b209), .val (.int (Int32.ofNat n)), .val (.ref xs), .val (.ref np)] [])) _
      refine XS.iload X263.here hx rfl (hb hby at_303) rfl ?_
      show Steps p.tables e below (T263.setTop (mkF m 305 #[.val (.int p0), .val (.ref b60), .val (.ref b184), .val (.ref b209), .val (.int (Int32.ofNat n)), .val (.ref xs), .val (.ref np)] [(.int (Int32.ofNat n))])) _
      refine XS.iconst X263.here hx rfl (hb hby at_305) ?_
      exact h
    have b306_265 : (Int32.ofNat n) < (5 : Int32) := own_lt5 hn hl5
    obtain ⟨_, _, ⟨T266, L266, k266, n266⟩, -, X266, ⟨Lc266, hQ266, l266, y266, z266⟩, st266⟩ := Jvm.LawKit.callS X263 hx (y := (⟨"com/example/redwing/redwing/core/NoticeStateDefaultPathPinLaw", "same", "(Ljava/util/List;[Lcom/example/redwing/redwing/core/NoticeState;)Z"⟩ : MethodName)) hown (mvT hZ (hw _ (List.mem_of_getElem? (i := 72) rfl))) (mvT hZ (hw _ (List.mem_of_getElem? (i := 73) rfl))) (mvT hZ (hw _ (List.mem_of_getElem? (i := 74) rfl))) (mvT hZ (hw _ (List.mem_of_getElem? (i := 75) rfl))) (by decide) (backOf (W := 0) (rmE4 l Z a0 hw [] np b184 elnp knp k184 s0 s1 s2 s4 h252 n0 Z255 (Fnp.keep K256 nin0) (Vnp.keep K256 nin0) (Enp.keep K256) f254) hZ (hw _ (List.mem_of_getElem? (i := 75) rfl)) (hw _ (List.mem_of_getElem? (i := 74) rfl)) (by decide) (by decide)) (g := (mkF m 312 #[.val (.int p0), .val (.ref b60), .val (.ref b184), .val (.ref b209), .val (.int (Int32.ofNat n)), .val (.ref xs), .val (.ref np)] [(.ref b184), (.ref np)])) rfl (by rw [hml]; rfl) (argsL := [(.ref np), (.ref b184)]) (rest := []) (lenOf own_pd_4 rfl) rfl (by show 2 * 0 + _ ≤ _; exact Nat.le_of_eq rfl) (hb hby at_312) (fun _ _ => ⟨rfl, eq263, (by decide : 3 + 0 ≤ _), (by decide : 40 + 0 ≤ _)⟩)
    dsimp only [Pt.U, Pt.locs, Pt.cells, Pt.slots] at X266 l266 y266 z266 st266 hQ266
    rw [l266, y266, z266] at X266
    obtain ⟨rfl, Nq266, eq266⟩ := hQ266
    have N266 := Fr.app N263 Nq266
    have k267 : ∀ t, Steps p.tables e below (T266.setTop (mkF m 315 #[.val (.int p0), .val (.ref b60), .val (.ref b184), .val (.ref b209), .val (.int (Int32.ofNat n)), .val (.ref xs), .val (.ref np)] [(.int (1 : Int32))])) t → Steps p.tables e below (s₁.setTop (mkF m 0 #[.val (.int p0), .unset, .unset, .unset, .unset, .unset, .unset] [])) t := by
      intro t h
      refine k264 t ?_
      show Steps p.tables e below (T263.setTop (mkF m 306 #[.val (.int p0), .val (.ref b60), .val (.ref b184), .val (.ref b209), .val (.int (Int32.ofNat n)), .val (.ref xs), .val (.ref np)] [(.int (5 : Int32)), (.int (Int32.ofNat n))])) _
      refine XS.icmpNo X263.here hx rfl (hb hby at_306) rfl (tlt b306_265).2.1 ?_
      show Steps p.tables e below (T263.setTop (mkF m 309 #[.val (.int p0), .val (.ref b60), .val (.ref b184), .val (.ref b209), .val (.int (Int32.ofNat n)), .val (.ref xs), .val (.ref np)] [])) _
      refine XS.aload X263.here hx rfl (hb hby at_309) rfl rfl ?_
      show Steps p.tables e below (T263.setTop (mkF m 311 #[.val (.int p0), .val (.ref b60), .val (.ref b184), .val (.ref b209), .val (.int (Int32.ofNat n)), .val (.ref xs), .val (.ref np)] [(.ref np)])) _
      refine XS.aloadN X263.here hx rfl (hb hby at_311) rfl rfl ?_
      show Steps p.tables e below (T263.setTop (mkF m 312 #[.val (.int p0), .val (.ref b60), .val (.ref b184), .val (.ref b209), .val (.int (Int32.ofNat n)), .val (.ref xs), .val (.ref np)] [(.ref b184), (.ref np)])) _
      refine st266 _ ?_
      exact h
    obtain ⟨fs, hr, hrun, hended, hW, hsame⟩ := X266.leave (v := some (.int (1 : Int32))) (fun h => by rw [Bd.returns] at h; cases h) Bd.notSynchronized
    refine ⟨_, _, pre0 _ (k267 _ ?_), hrun, hended, _, _, rfl, ?_, ⟨_, rfl⟩, hW, hsame.mono (by decide) (by decide)⟩
    · exact retN X266 hx (t := .boolean) Bd.returns (by simp) (hb hby at_315) hr
    · show Q_rm0 Z _ _ _ _ _ _ _ _ _ _ _ _ _ _ _ _ _ _ _ _ _ _ _ _ _ _ _ _ _ _ _ _ _ _ _ _ _ _ _ _ _ _ _ _ h0 n0 _ T266.heap _
      rw [eq266]
      exact ⟨rfl, N266⟩
  · skip
    obtain ⟨cq268, kq268, q268a, q268b, q268c⟩ := isOf hZ e252 (hx2.keep K256)
    obtain ⟨_, _, ⟨T268, L268, k268, n268⟩, -, X268, ⟨Lc268, hQ268, l268, y268, z268⟩, st268⟩ := X252.virtualBack hx (y := (⟨"com/example/redwing/redwing/core/NoticeState", "defaultPath", "()Ljava/util/List;"⟩ : MethodName)) (z := (⟨"com/example/redwing/redwing/core/NoticeState", "defaultPath", "()Ljava/util/List;"⟩ : MethodName)) hown (mvT hZ (hw _ (List.mem_of_getElem? (i := 63) rfl))) (mvT hZ (hw _ (List.mem_of_getElem? (i := 64) rfl))) (notFace_of_selects (args := #[]) (mvT hZ (hw _ (List.mem_of_getElem? (i := 66) rfl)))) (mvT hZ (hw _ (List.mem_of_getElem? (i := 66) rfl))) (mvT hZ (hw _ (List.mem_of_getElem? (i := 65) rfl))) (by decide) (backOf (W := 0) (rmD1 l Z a0 hw [] xs y eu h252 n0 Z255 (hx3.keep K256 nin0) (own_sta_keep Seu K256 all0)) hZ (hw _ (List.mem_of_getElem? (i := 67) rfl)) (hw _ (List.mem_of_getElem? (i := 3) rfl)) (by decide) (by decide)) q268a q268c (g := (mkF m 298 #[.val (.int p0), .val (.ref b60), .val (.ref b184), .val (.ref b209), .val (.int (Int32.ofNat n)), .val (.ref xs), .unset] [(.ref xs)])) rfl (by rw [hml]; rfl) (Steps.refl _) (argsL := []) (rest := []) (lenOf own_pd_3 rfl) rfl (by show 2 * 0 + _ ≤ _; exact Nat.le_of_eq rfl) (hb hby at_298) (fun _ _ => ⟨rfl, e252, (by decide : 3 + 0 ≤ _), (by decide : 40 + 0 ≤ _)⟩)
    dsimp only [Pt.U, Pt.locs, Pt.cells, Pt.slots] at X268 l268 y268 z268 st268 hQ268
    rw [l268, y268, z268] at X268
    obtain ⟨rfl, Nq268, eq268⟩ := hQ268
    have N268 := Fr.app N252 Nq268
    have k269 : ∀ t, Steps p.tables e below (T268.setTop (mkF m 306 #[.val (.int p0), .val (.ref b60), .val (.ref b184), .val (.ref b209), .val (.int (Int32.ofNat n)), .val (.ref xs), .val (.ref eu)] [(.int (5 : Int32)), (.int (Int32.ofNat n))])) t → Steps p.tables e below (s₁.setTop (mkF m 0 #[.val (.int p0), .unset, .unset, .unset, .unset, .unset, .unset] [])) t := by
      intro t h
      refine k262 t ?_
      show Steps p.tables e below (T252.setTop (mkF m 296 #[.val (.int p0), .val (.ref b60), .val (.ref b184), .val (.ref b209), .val (.int (Int32.ofNat n)), .val (.ref xs), .unset] [])) _
      refine XS.aload X252.here hx rfl (hb hby at_296) rfl rfl ?_
      show Steps p.tables e below (T252.setTop (mkF m 298 #[.val (.int p0), .val (.ref b60), .val (.ref b184), .val (.ref b209), .val (.int (Int32.ofNat n)), .val (.ref xs), .unset] [(.ref xs)])) _
      refine st268.trans ?_
      show Steps p.tables e below (T268.setTop (mkF m 301 #[.val (.int p0), .val (.ref b60), .val (.ref b184), .val (.ref b209), .val (.int (Int32.ofNat n)), .val (.ref xs), .unset] [(.ref eu)])) _
      refine XS.astore X268.here hx rfl (hb hby at_301) rfl rfl (l' := #[.val (.int p0), .val (.ref b60), .val (.ref b184), .val (.ref b209), .val (.int (Int32.ofNat n)), .val (.ref xs), .val (.ref eu)]) rfl ?_
      show Steps p.tables e below (T268.setTop (mkF m 303 #[.val (.int p0), .val (.ref b60), .val (.ref b184), .val (.ref b209), .val (.int (Int32.ofNat n)), .val (.ref xs), .val (.ref eu)] [])) _
      refine XS.iload X268.here hx rfl (hb hby at_303) rfl ?_
      show Steps p.tables e below (T268.setTop (mkF m 305 #[.val (.int p0), .val (.ref b60), .val (.ref b184), .val (.ref b209), .val (.int (Int32.ofNat n)), .val (.ref xs), .val (.ref eu)] [(.int (Int32.ofNat n))])) _
      refine XS.iconst X268.here hx rfl (hb hby at_305) ?_
      exact h
    have b306_270 : ¬ ((Int32.ofNat n) < (5 : Int32)) := own_nlt5 hn hl5
    obtain ⟨_, _, ⟨T271, L271, k271, n271⟩, -, X271, ⟨Lc271, hQ271, l271, y271, z271⟩, st271⟩ := Jvm.LawKit.callS X268 hx (y := (⟨"com/example/redwing/redwing/core/NoticeStateDefaultPathPinLaw", "same", "(Ljava/util/List;[Lcom/example/redwing/redwing/core/NoticeState;)Z"⟩ : MethodName)) hown (mvT hZ (hw _ (List.mem_of_getElem? (i := 72) rfl))) (mvT hZ (hw _ (List.mem_of_getElem? (i := 73) rfl))) (mvT hZ (hw _ (List.mem_of_getElem? (i := 74) rfl))) (mvT hZ (hw _ (List.mem_of_getElem? (i := 75) rfl))) (by decide) (backOf (W := 0) (rmE7 l Z a0 hw [] eu b209 eleu keu k209 s5 s6 s7 s16 s20 s22 s23 h252 n0 Z255 (Feu.keep K256 nin0) (Veu.keep K256 nin0) (Eeu.keep K256) V252) hZ (hw _ (List.mem_of_getElem? (i := 75) rfl)) (hw _ (List.mem_of_getElem? (i := 74) rfl)) (by decide) (by decide)) (g := (mkF m 319 #[.val (.int p0), .val (.ref b60), .val (.ref b184), .val (.ref b209), .val (.int (Int32.ofNat n)), .val (.ref xs), .val (.ref eu)] [(.ref b209), (.ref eu)])) rfl (by rw [hml]; rfl) (argsL := [(.ref eu), (.ref b209)]) (rest := []) (lenOf own_pd_4 rfl) rfl (by show 2 * 0 + _ ≤ _; exact Nat.le_of_eq rfl) (hb hby at_319) (fun _ _ => ⟨rfl, eq268, (by decide : 3 + 0 ≤ _), (by decide : 40 + 0 ≤ _)⟩)
    dsimp only [Pt.U, Pt.locs, Pt.cells, Pt.slots] at X271 l271 y271 z271 st271 hQ271
    rw [l271, y271, z271] at X271
    obtain ⟨rfl, Nq271, eq271⟩ := hQ271
    have N271 := Fr.app N268 Nq271
    have k272 : ∀ t, Steps p.tables e below (T271.setTop (mkF m 322 #[.val (.int p0), .val (.ref b60), .val (.ref b184), .val (.ref b209), .val (.int (Int32.ofNat n)), .val (.ref xs), .val (.ref eu)] [(.int (1 : Int32))])) t → Steps p.tables e below (s₁.setTop (mkF m 0 #[.val (.int p0), .unset, .unset, .unset, .unset, .unset, .unset] [])) t := by
      intro t h
      refine k269 t ?_
      show Steps p.tables e below (T268.setTop (mkF m 306 #[.val (.int p0), .val (.ref b60), .val (.ref b184), .val (.ref b209), .val (.int (Int32.ofNat n)), .val (.ref xs), .val (.ref eu)] [(.int (5 : Int32)), (.int (Int32.ofNat n))])) _
      refine XS.icmpYes X268.here hx rfl (pc0 := 306) (pc' := 316) rfl (hb hby at_306) rfl (flt b306_270).2.1 (by decide) (by decide) ?_
      show Steps p.tables e below (T268.setTop (mkF m 316 #[.val (.int p0), .val (.ref b60), .val (.ref b184), .val (.ref b209), .val (.int (Int32.ofNat n)), .val (.ref xs), .val (.ref eu)] [])) _
      refine XS.aload X268.here hx rfl (hb hby at_316) rfl rfl ?_
      show Steps p.tables e below (T268.setTop (mkF m 318 #[.val (.int p0), .val (.ref b60), .val (.ref b184), .val (.ref b209), .val (.int (Int32.ofNat n)), .val (.ref xs), .val (.ref eu)] [(.ref eu)])) _
      refine XS.aloadN X268.here hx rfl (hb hby at_318) rfl rfl ?_
      show Steps p.tables e below (T268.setTop (mkF m 319 #[.val (.int p0), .val (.ref b60), .val (.ref b184), .val (.ref b209), .val (.int (Int32.ofNat n)), .val (.ref xs), .val (.ref eu)] [(.ref b209), (.ref eu)])) _
      refine st271 _ ?_
      exact h
    obtain ⟨fs, hr, hrun, hended, hW, hsame⟩ := X271.leave (v := some (.int (1 : Int32))) (fun h => by rw [Bd.returns] at h; cases h) Bd.notSynchronized
    refine ⟨_, _, pre0 _ (k272 _ ?_), hrun, hended, _, _, rfl, ?_, ⟨_, rfl⟩, hW, hsame.mono (by decide) (by decide)⟩
    · exact retN X271 hx (t := .boolean) Bd.returns (by simp) (hb hby at_322) hr
    · show Q_rm0 Z _ _ _ _ _ _ _ _ _ _ _ _ _ _ _ _ _ _ _ _ _ _ _ _ _ _ _ _ _ _ _ _ _ _ _ _ _ _ _ _ _ _ _ _ h0 n0 _ T271.heap _
      rw [eq271]
      exact ⟨rfl, N271⟩
set_option maxRecDepth 65536 in
set_option maxHeartbeats 40000000 in
theorem comes_1 {Post : Tables → Env → Array Value → State → Outcome → State → Prop} (hpost : ∀ tb e args s v u, (limb_1_1.after args s (.returned v) u = true ∧ limb_1_2.after args s (.returned v) u = true ∧ True) → FrameEnd s (.returned v) u (Jvm.fieldLocs frame_1_writes args s ++ Jvm.arrayLocs frame_1_arrays args s ++ Jvm.staticLocs frame_1_statics s) 16 192 → Post tb e args s (.returned v) u) :
    ArmFor flags0 classFile x code maxLocals ret World_1 tables_1 room_1 Calls_1 rest_1 Pre_1 Post := by
  intro l hfl _ _ p e ha hc hk s m args below hf hA hF happ hP
  obtain ⟨hcalls, hrest, hpre⟩ := hP
  obtain ⟨-, -, -, hnamed, -, -, -, hat⟩ := (Spec.applies_iff hf).mp happ
  obtain ⟨hg, hn⟩ := and_e (Cond.before_iff.mp (show (Jvm.Cond.and given_1 narrow_1).before args s = true from hpre))
  obtain ⟨g1, g2⟩ := and_e hg
  obtain ⟨w0, rfl⟩ : ∃ w0 : Value, args = #[w0] := by
    have hs : args.size = 1 := by simpa [Cond.value, given_1] using g1
    obtain ⟨L⟩ := args
    match L, hs with
    | [w0], _ => exact ⟨w0, rfl⟩
  have hw := fun d (hd : d ∈ tables_1) => atoms_spec (ws := Jvm.Cond.code x code maxLocals ret :: tables_1) hat d (List.mem_cons_of_mem _ hd)
  have hfit : Fit s := fun {y c} hc i hi => by
    obtain ⟨ha, rfl⟩ := Array.getElem?_eq_some_iff.mp hc
    have q := List.all_eq_true.mp ((Array.all_eq_true_iff_forall_mem.mp hF) _ (Array.getElem_mem ha)) i (List.mem_range.mpr hi)
    simpa [Array.getElem?_eq_getElem hi] using q
  obtain ⟨i0, ei0⟩ := is_v g2
  obtain rfl : w0 = (.int i0) := Option.some.inj ei0
  obtain ⟨hn0, ht0⟩ := and_e hn
  obtain ⟨hn1, ht1⟩ := and_e ht0
  obtain ⟨hn2, ht2⟩ := and_e ht1
  obtain ⟨hn3, ht3⟩ := and_e ht2
  obtain ⟨hn4, ht4⟩ := and_e ht3
  obtain ⟨hn5, ht5⟩ := and_e ht4
  obtain ⟨hn6, ht6⟩ := and_e ht5
  obtain ⟨hn7, ht7⟩ := and_e ht6
  obtain ⟨hn8, ht8⟩ := and_e ht7
  obtain ⟨hn9, ht9⟩ := and_e ht8
  obtain ⟨hn10, ht10⟩ := and_e ht9
  obtain ⟨hn11, ht11⟩ := and_e ht10
  obtain ⟨hn12, ht12⟩ := and_e ht11
  obtain ⟨hn13, ht13⟩ := and_e ht12
  obtain ⟨hn14, ht14⟩ := and_e ht13
  obtain ⟨hn15, ht15⟩ := and_e ht14
  obtain ⟨hn16, ht16⟩ := and_e ht15
  obtain ⟨hn17, ht17⟩ := and_e ht16
  obtain ⟨hn18, ht18⟩ := and_e ht17
  obtain ⟨hn19, ht19⟩ := and_e ht18
  obtain ⟨hn20, ht20⟩ := and_e ht19
  obtain ⟨hn21, ht21⟩ := and_e ht20
  obtain ⟨hn22, ht22⟩ := and_e ht21
  obtain ⟨hn23, ht23⟩ := and_e ht22
  obtain ⟨hn24, ht24⟩ := and_e ht23
  obtain ⟨hn25, ht25⟩ := and_e ht24
  obtain ⟨hn26, ht26⟩ := and_e ht25
  obtain ⟨hn27, ht27⟩ := and_e ht26
  obtain ⟨hn28, ht28⟩ := and_e ht27
  obtain ⟨hn29, ht29⟩ := and_e ht28
  obtain ⟨hn30, ht30⟩ := and_e ht29
  obtain ⟨hn31, ht31⟩ := and_e ht30
  obtain ⟨hn32, ht32⟩ := and_e ht31
  obtain ⟨hn33, ht33⟩ := and_e ht32
  obtain ⟨hn34, ht34⟩ := and_e ht33
  obtain ⟨hn35, ht35⟩ := and_e ht34
  obtain ⟨hn36, ht36⟩ := and_e ht35
  obtain ⟨hn37, ht37⟩ := and_e ht36
  obtain ⟨hn38, ht38⟩ := and_e ht37
  obtain ⟨hn39, ht39⟩ := and_e ht38
  obtain ⟨hn40, ht40⟩ := and_e ht39
  obtain ⟨hn41, ht41⟩ := and_e ht40
  obtain ⟨hn42, ht42⟩ := and_e ht41
  obtain ⟨hn43, ht43⟩ := and_e ht42
  obtain ⟨hn44, ht44⟩ := and_e ht43
  obtain ⟨hn45, ht45⟩ := and_e ht44
  obtain ⟨hn46, ht46⟩ := and_e ht45
  obtain ⟨hn47, ht47⟩ := and_e ht46
  obtain ⟨hn48, ht48⟩ := and_e ht47
  obtain ⟨hn49, ht49⟩ := and_e ht48
  obtain ⟨hn50, ht50⟩ := and_e ht49
  obtain ⟨hn51, ht51⟩ := and_e ht50
  obtain ⟨hn52, ht52⟩ := and_e ht51
  obtain ⟨hn53, ht53⟩ := and_e ht52
  obtain ⟨hn54, ht54⟩ := and_e ht53
  obtain ⟨hn55, ht55⟩ := and_e ht54
  obtain ⟨hn56, ht56⟩ := and_e ht55
  obtain ⟨hn57, ht57⟩ := and_e ht56
  obtain ⟨hn58, ht58⟩ := and_e ht57
  obtain ⟨hn59, ht59⟩ := and_e ht58
  obtain ⟨hn60, ht60⟩ := and_e ht59
  obtain ⟨hn61, ht61⟩ := and_e ht60
  obtain ⟨hn62, ht62⟩ := and_e ht61
  obtain ⟨hn63, ht63⟩ := and_e ht62
  obtain ⟨hn64, ht64⟩ := and_e ht63
  obtain ⟨hn65, ht65⟩ := and_e ht64
  obtain ⟨hn66, ht66⟩ := and_e ht65
  obtain ⟨hn67, ht67⟩ := and_e ht66
  obtain ⟨hn68, ht68⟩ := and_e ht67
  obtain ⟨hn69, ht69⟩ := and_e ht68
  obtain ⟨hn70, ht70⟩ := and_e ht69
  obtain ⟨hn71, ht71⟩ := and_e ht70
  obtain ⟨hn72, ht72⟩ := and_e ht71
  obtain ⟨hn73, ht73⟩ := and_e ht72
  have hn74 := ht73
  obtain ⟨s0, ev0⟩ := exa_v hn0
  have E0 := Exa.start ev0 hn0
  have S0 := Sta.start ev0 (Or.inr ⟨(hw _ (List.mem_of_getElem? (i := 3) rfl)), (hw _ (List.mem_of_getElem? (i := 4) rfl))⟩)
  obtain ⟨s1, ev1⟩ := exa_v hn1
  have E1 := Exa.start ev1 hn1
  have S1 := Sta.start ev1 (Or.inr ⟨(hw _ (List.mem_of_getElem? (i := 3) rfl)), (hw _ (List.mem_of_getElem? (i := 7) rfl))⟩)
  obtain ⟨s2, ev2⟩ := exa_v hn2
  have E2 := Exa.start ev2 hn2
  have S2 := Sta.start ev2 (Or.inr ⟨(hw _ (List.mem_of_getElem? (i := 3) rfl)), (hw _ (List.mem_of_getElem? (i := 9) rfl))⟩)
  obtain ⟨s3, ev3⟩ := exa_v hn3
  have E3 := Exa.start ev3 hn3
  have S3 := Sta.start ev3 (Or.inr ⟨(hw _ (List.mem_of_getElem? (i := 3) rfl)), (hw _ (List.mem_of_getElem? (i := 11) rfl))⟩)
  obtain ⟨s4, ev4⟩ := exa_v hn4
  have E4 := Exa.start ev4 hn4
  have S4 := Sta.start ev4 (Or.inr ⟨(hw _ (List.mem_of_getElem? (i := 3) rfl)), (hw _ (List.mem_of_getElem? (i := 13) rfl))⟩)
  obtain ⟨s5, ev5⟩ := exa_v hn5
  have E5 := Exa.start ev5 hn5
  have S5 := Sta.start ev5 (Or.inr ⟨(hw _ (List.mem_of_getElem? (i := 3) rfl)), (hw _ (List.mem_of_getElem? (i := 15) rfl))⟩)
  obtain ⟨s6, ev6⟩ := exa_v hn6
  have E6 := Exa.start ev6 hn6
  have S6 := Sta.start ev6 (Or.inr ⟨(hw _ (List.mem_of_getElem? (i := 3) rfl)), (hw _ (List.mem_of_getElem? (i := 17) rfl))⟩)
  obtain ⟨s7, ev7⟩ := exa_v hn7
  have E7 := Exa.start ev7 hn7
  have S7 := Sta.start ev7 (Or.inr ⟨(hw _ (List.mem_of_getElem? (i := 3) rfl)), (hw _ (List.mem_of_getElem? (i := 19) rfl))⟩)
  obtain ⟨s8, ev8⟩ := exa_v hn8
  have E8 := Exa.start ev8 hn8
  have S8 := Sta.start ev8 (Or.inr ⟨(hw _ (List.mem_of_getElem? (i := 3) rfl)), (hw _ (List.mem_of_getElem? (i := 21) rfl))⟩)
  obtain ⟨s9, ev9⟩ := exa_v hn9
  have E9 := Exa.start ev9 hn9
  have S9 := Sta.start ev9 (Or.inr ⟨(hw _ (List.mem_of_getElem? (i := 3) rfl)), (hw _ (List.mem_of_getElem? (i := 23) rfl))⟩)
  obtain ⟨s10, ev10⟩ := exa_v hn10
  have E10 := Exa.start ev10 hn10
  have S10 := Sta.start ev10 (Or.inr ⟨(hw _ (List.mem_of_getElem? (i := 3) rfl)), (hw _ (List.mem_of_getElem? (i := 25) rfl))⟩)
  obtain ⟨s11, ev11⟩ := exa_v hn11
  have E11 := Exa.start ev11 hn11
  have S11 := Sta.start ev11 (Or.inr ⟨(hw _ (List.mem_of_getElem? (i := 3) rfl)), (hw _ (List.mem_of_getElem? (i := 27) rfl))⟩)
  obtain ⟨s12, ev12⟩ := exa_v hn12
  have E12 := Exa.start ev12 hn12
  have S12 := Sta.start ev12 (Or.inr ⟨(hw _ (List.mem_of_getElem? (i := 3) rfl)), (hw _ (List.mem_of_getElem? (i := 29) rfl))⟩)
  obtain ⟨s13, ev13⟩ := exa_v hn13
  have E13 := Exa.start ev13 hn13
  have S13 := Sta.start ev13 (Or.inr ⟨(hw _ (List.mem_of_getElem? (i := 3) rfl)), (hw _ (List.mem_of_getElem? (i := 31) rfl))⟩)
  obtain ⟨s14, ev14⟩ := exa_v hn14
  have E14 := Exa.start ev14 hn14
  have S14 := Sta.start ev14 (Or.inr ⟨(hw _ (List.mem_of_getElem? (i := 3) rfl)), (hw _ (List.mem_of_getElem? (i := 33) rfl))⟩)
  obtain ⟨s15, ev15⟩ := exa_v hn15
  have E15 := Exa.start ev15 hn15
  have S15 := Sta.start ev15 (Or.inr ⟨(hw _ (List.mem_of_getElem? (i := 3) rfl)), (hw _ (List.mem_of_getElem? (i := 35) rfl))⟩)
  obtain ⟨s16, ev16⟩ := exa_v hn16
  have E16 := Exa.start ev16 hn16
  have S16 := Sta.start ev16 (Or.inr ⟨(hw _ (List.mem_of_getElem? (i := 3) rfl)), (hw _ (List.mem_of_getElem? (i := 37) rfl))⟩)
  obtain ⟨s17, ev17⟩ := exa_v hn17
  have E17 := Exa.start ev17 hn17
  have S17 := Sta.start ev17 (Or.inr ⟨(hw _ (List.mem_of_getElem? (i := 3) rfl)), (hw _ (List.mem_of_getElem? (i := 39) rfl))⟩)
  obtain ⟨s18, ev18⟩ := exa_v hn18
  have E18 := Exa.start ev18 hn18
  have S18 := Sta.start ev18 (Or.inr ⟨(hw _ (List.mem_of_getElem? (i := 3) rfl)), (hw _ (List.mem_of_getElem? (i := 41) rfl))⟩)
  obtain ⟨s19, ev19⟩ := exa_v hn19
  have E19 := Exa.start ev19 hn19
  have S19 := Sta.start ev19 (Or.inr ⟨(hw _ (List.mem_of_getElem? (i := 3) rfl)), (hw _ (List.mem_of_getElem? (i := 43) rfl))⟩)
  obtain ⟨s20, ev20⟩ := exa_v hn20
  have E20 := Exa.start ev20 hn20
  have S20 := Sta.start ev20 (Or.inr ⟨(hw _ (List.mem_of_getElem? (i := 3) rfl)), (hw _ (List.mem_of_getElem? (i := 45) rfl))⟩)
  obtain ⟨s21, ev21⟩ := exa_v hn21
  have E21 := Exa.start ev21 hn21
  have S21 := Sta.start ev21 (Or.inr ⟨(hw _ (List.mem_of_getElem? (i := 3) rfl)), (hw _ (List.mem_of_getElem? (i := 47) rfl))⟩)
  obtain ⟨s22, ev22⟩ := exa_v hn22
  have E22 := Exa.start ev22 hn22
  have S22 := Sta.start ev22 (Or.inr ⟨(hw _ (List.mem_of_getElem? (i := 3) rfl)), (hw _ (List.mem_of_getElem? (i := 49) rfl))⟩)
  obtain ⟨s23, ev23⟩ := exa_v hn23
  have E23 := Exa.start ev23 hn23
  have S23 := Sta.start ev23 (Or.inr ⟨(hw _ (List.mem_of_getElem? (i := 3) rfl)), (hw _ (List.mem_of_getElem? (i := 51) rfl))⟩)
  obtain ⟨s24, ev24⟩ := exa_v hn24
  have E24 := Exa.start ev24 hn24
  have S24 := Sta.start ev24 (Or.inr ⟨(hw _ (List.mem_of_getElem? (i := 3) rfl)), (hw _ (List.mem_of_getElem? (i := 53) rfl))⟩)
  obtain ⟨s25, ev25⟩ := exa_v hn25
  have E25 := Exa.start ev25 hn25
  have S25 := Sta.start ev25 (Or.inr ⟨(hw _ (List.mem_of_getElem? (i := 3) rfl)), (hw _ (List.mem_of_getElem? (i := 55) rfl))⟩)
  obtain ⟨s26, ev26⟩ := exa_v hn26
  have E26 := Exa.start ev26 hn26
  have S26 := Sta.start ev26 (Or.inr ⟨(hw _ (List.mem_of_getElem? (i := 3) rfl)), (hw _ (List.mem_of_getElem? (i := 57) rfl))⟩)
  obtain ⟨s27, ev27⟩ := exa_v hn27
  have E27 := Exa.start ev27 hn27
  have S27 := Sta.start ev27 (Or.inr ⟨(hw _ (List.mem_of_getElem? (i := 3) rfl)), (hw _ (List.mem_of_getElem? (i := 59) rfl))⟩)
  obtain ⟨s28, ev28⟩ := exa_v hn28
  have E28 := Exa.start ev28 hn28
  have S28 := Sta.start ev28 (Or.inr ⟨(hw _ (List.mem_of_getElem? (i := 3) rfl)), (hw _ (List.mem_of_getElem? (i := 61) rfl))⟩)
  have F0 := Fld.start ((fld_at ev0).symm.trans (null_v hn29))
  have F1 := Fld.start ((fld_at ev1).symm.trans (null_v hn56))
  have F2 := Fld.start ((fld_at ev2).symm.trans (null_v hn52))
  have F3 := Fld.start ((fld_at ev3).symm.trans (null_v hn37))
  have F4 := Fld.start ((fld_at ev4).symm.trans (null_v hn61))
  obtain ⟨y7, et7⟩ := exa_v hn51
  have F7 := Fld.start ((fld_at ev7).symm.trans et7)
  obtain ⟨y8, et8⟩ := exa_v hn55
  have F8 := Fld.start ((fld_at ev8).symm.trans et8)
  obtain ⟨y9, et9⟩ := exa_v hn69
  have F9 := Fld.start ((fld_at ev9).symm.trans et9)
  obtain ⟨y10, et10⟩ := exa_v hn59
  have F10 := Fld.start ((fld_at ev10).symm.trans et10)
  obtain ⟨y11, et11⟩ := exa_v hn53
  have F11 := Fld.start ((fld_at ev11).symm.trans et11)
  obtain ⟨y16, et16⟩ := exa_v hn50
  have F16 := Fld.start ((fld_at ev16).symm.trans et16)
  obtain ⟨y23, et23⟩ := exa_v hn38
  have F23 := Fld.start ((fld_at ev23).symm.trans et23)
  obtain ⟨y27, et27⟩ := exa_v hn54
  have F27 := Fld.start ((fld_at ev27).symm.trans et27)
  have F5 := Fld.start ((fld_at ev5).symm.trans (own_eq_ref et7 hn64))
  have F6 := Fld.start ((fld_at ev6).symm.trans (own_eq_ref et7 hn68))
  have F12 := Fld.start ((fld_at ev12).symm.trans (own_eq_ref et11 hn70))
  have F13 := Fld.start ((fld_at ev13).symm.trans (own_eq_ref et11 hn72))
  have F14 := Fld.start ((fld_at ev14).symm.trans (own_eq_ref et11 hn65))
  have F15 := Fld.start ((fld_at ev15).symm.trans (own_eq_ref et11 hn63))
  have F17 := Fld.start ((fld_at ev17).symm.trans (own_eq_ref et16 hn71))
  have F18 := Fld.start ((fld_at ev18).symm.trans (own_eq_ref et16 hn66))
  have F19 := Fld.start ((fld_at ev19).symm.trans (own_eq_ref et16 hn62))
  have F20 := Fld.start ((fld_at ev20).symm.trans (own_eq_ref et23 hn49))
  have F21 := Fld.start ((fld_at ev21).symm.trans (own_eq_ref et23 hn73))
  have F22 := Fld.start ((fld_at ev22).symm.trans (own_eq_ref et23 hn67))
  have F24 := Fld.start ((fld_at ev24).symm.trans (own_eq_ref et27 hn60))
  have F25 := Fld.start ((fld_at ev25).symm.trans (own_eq_ref et27 hn58))
  have F26 := Fld.start ((fld_at ev26).symm.trans (own_eq_ref et27 hn74))
  have F28 := Fld.start ((fld_at ev28).symm.trans (own_eq_ref et27 hn57))
  obtain ⟨np, evnp⟩ := exa_v hn30
  have Enp := Exa.start evnp hn30
  have Snp := Sta.start evnp (Or.inr ⟨(hw _ (List.mem_of_getElem? (i := 3) rfl)), (hw _ (List.mem_of_getElem? (i := 71) rfl))⟩)
  obtain ⟨elnp, eanp⟩ := arr_v hn31
  have Fnp := Fld.start ((fld_at evnp).symm.trans eanp)
  obtain ⟨clnp, Anp⟩ := Arr.start eanp hn31
  obtain ⟨sanp, sbnp⟩ := own_len eanp Anp hn32
  have Vnp : Arv s s.heap elnp clnp.cls (.object "java/lang/Object") (4 : Int32) [(.ref s0), (.ref s1), (.ref s2), (.ref s4)] .null := Arv.start hfit Anp sanp sbnp (by decide) rfl ⟨own_elem eanp Anp ev0 hn33, own_elem eanp Anp ev1 hn34, own_elem eanp Anp ev2 hn35, own_elem eanp Anp ev4 hn36, trivial⟩
  obtain ⟨eu, eveu⟩ := exa_v hn39
  have Eeu := Exa.start eveu hn39
  have Seu := Sta.start eveu (Or.inr ⟨(hw _ (List.mem_of_getElem? (i := 3) rfl)), (hw _ (List.mem_of_getElem? (i := 100) rfl))⟩)
  obtain ⟨eleu, eaeu⟩ := arr_v hn40
  have Feu := Fld.start ((fld_at eveu).symm.trans eaeu)
  obtain ⟨cleu, Aeu⟩ := Arr.start eaeu hn40
  obtain ⟨saeu, sbeu⟩ := own_len eaeu Aeu hn41
  have Veu : Arv s s.heap eleu cleu.cls (.object "java/lang/Object") (7 : Int32) [(.ref s5), (.ref s6), (.ref s7), (.ref s16), (.ref s20), (.ref s22), (.ref s23)] .null := Arv.start hfit Aeu saeu sbeu (by decide) rfl ⟨own_elem eaeu Aeu ev5 hn42, own_elem eaeu Aeu ev6 hn43, own_elem eaeu Aeu ev7 hn44, own_elem eaeu Aeu ev16 hn45, own_elem eaeu Aeu ev20 hn46, own_elem eaeu Aeu ev22 hn47, own_elem eaeu Aeu ev23 hn48, trivial⟩
  obtain ⟨n, o, h1, h2, h3, _, L, rfl, ⟨rfl, N⟩, hq⟩ := rm0 l s _ hw tables_1 i0 s0 s1 s2 s3 s4 s5 s6 s7 s8 s9 s10 s11 s12 s13 s14 s15 s16 s17 s18 s19 s20 s21 s22 s23 s24 s25 s26 s27 s28 y7 y8 y9 y10 y11 y16 y23 y27 np elnp clnp.cls eu eleu cleu.cls s.heap s.heap.size (Nat.le_refl _) S0 E0 F0 S1 E1 F1 S2 E2 F2 S3 E3 F3 S4 E4 F4 S5 E5 F5 S6 E6 F6 S7 E7 F7 S8 E8 F8 S9 E9 F9 S10 E10 F10 S11 E11 F11 S12 E12 F12 S13 E13 F13 S14 E14 F14 S15 E15 F15 S16 E16 F16 S17 E17 F17 S18 E18 F18 S19 E19 F19 S20 E20 F20 S21 E21 F21 S22 E22 F22 S23 E23 F23 S24 E24 F24 S25 E25 F25 S26 E26 F26 S27 E27 F27 S28 E28 F28 Snp Enp Fnp Vnp Seu Eeu Feu Veu p e ha hc hk s m _ below hf ((Spec.applies_iff_loose hf).mp happ).1 ⟨rfl, State.Warmed39.refl s, rfl⟩ trivial
  refine ⟨n, _, h1, h2, h3, hpost _ _ _ _ _ _ ⟨Cond.after_iff.mpr rfl, Cond.after_iff.mpr (eq_i res_at (Term.int_eval (1)) rfl), trivial⟩ ⟨hq.1, hq.2.1, (hq.2.2.sift fun y hy => Or.inr (N y hy)).mono (by decide) (by decide)⟩⟩
theorem main_1_1 : Claimed_1_1 := comes_1 fun _ _ _ _ _ _ h hF => ⟨h.1, hF⟩
theorem main_1_2 : Claimed_1_2 := comes_1 fun _ _ _ _ _ _ h hF => ⟨h.2.1, hF⟩
end Jvm.Pilot.@@N@@
namespace Jvm.Pilot.@@N@@
open Jvm Jvm.ClassFile Sem Op Lib Jvm.Free Jvm.Stand Jvm.Pilot.@@N@@.Jvm.D
/-! MADE BY PROGRAM (witnessworld.py) out of the Statement's table words and the real class files: 26 classes; the members and pool entries that the words name. The judged class is class 1, her method 3. -/
namespace start1
open Jvm.ClassFile
def u (s : String) : CpInfo := .utf8 (stringToUtf16 s)
/-- a pool by its gaps: so many unusable entries, then the entry; so many at the end -/
def gap : Nat → List CpInfo → List CpInfo
  | 0, r => r
  | n + 1, r => .unusable :: gap n r
def poolList (es : List (Nat × CpInfo)) (last : Nat) : List CpInfo := es.foldr (fun e r => gap e.1 (e.2 :: r)) (gap last [])
def pool (es : List (Nat × CpInfo)) (last : Nat) : Array CpInfo := ⟨poolList es last⟩
def fileOf (pool : Array CpInfo) (this : Nat) (attrs : Array Attribute := #[]) (ms : Array MethodInfo := #[]) (fl : Nat := 33) (sup : Nat := 0) (ifs : Array Nat := #[]) (fds : Array FieldInfo := #[]) : ClassFile where
  minorVersion := 0
  majorVersion := 65
  constantPool := pool
  accessFlags := fl
  thisClass := this
  superClass := sup
  interfaces := ifs
  fields := fds
  methods := ms
  attributes := attrs
def plain (name : String) (sup : Option ClassId) : Class where
  name := name
  kind := .ordinary
  loader := none
  accessFlags := 33
  super := sup
  interfaces := #[]
  cf := none
  fields := #[]
  methods := #[]
  instanceTypes := #[]
  staticTypes := #[]
  resolved := #[]
  callSites := []
  init := .initialized
  statics := none
  mirror := none

def pool0 : Array CpInfo := pool [(5, u "<init>"), (0, u "()V"), (1, .class_ 10), (1, u "java/lang/Object")] 113

def k0m0 : Method := { name := "<init>", desc := "()V", sig := { parameters := [], returnType := none }, accessFlags := 1, code := none }
/-- java/lang/Object -/
def k0 : Class := { plain "java/lang/Object" none with
  accessFlags := 33
  interfaces := #[]
  cf := some (fileOf pool0 8 #[] #[{ accessFlags := 1, nameIndex := 5, descriptorIndex := 6, attributes := #[] }] 33 0 #[] #[])
  fields := #[]
  methods := #[k0m0]
  instanceTypes := #[]
  staticTypes := #[]
  resolved := Array.replicate 124 none
  statics := none }

def pool1 : Array CpInfo := pool [(2, .class_ 4), (1, u "java/lang/Object"), (0, u "<init>"), (0, u "()V"), (0, .interfaceMethodref 8 9), (0, .class_ 10), (0, .nameAndType 11 12), (0, u "java/util/List"), (0, u "get"), (0, u "(I)Ljava/lang/Object;"), (0, .interfaceMethodref 8 14), (0, .nameAndType 15 16), (0, u "size"), (0, u "()I"), (0, .methodref 18 19), (0, .class_ 20), (0, .nameAndType 21 22), (0, u "com/example/redwing/redwing/core/NoticeStateDefaultPathPinLaw"), (0, u "at"), (0, u "(Ljava/util/List;[Lcom/example/redwing/redwing/core/NoticeState;I)Z"), (0, .class_ 24), (0, u "com/example/redwing/redwing/core/NoticeState"), (0, .fieldref 23 26), (0, .nameAndType 27 28), (0, u "NATIONAL_AWAITING_TRANSFER"), (0, u "Lcom/example/redwing/redwing/core/NoticeState;"), (0, .fieldref 23 30), (0, .nameAndType 31 28), (0, u "NATIONAL_PROCESSING"), (0, .fieldref 23 33), (0, .nameAndType 34 28), (0, u "NATIONAL_ACCEPTED"), (0, .fieldref 23 36), (0, .nameAndType 37 28), (0, u "NATIONAL_REJECTED"), (0, .fieldref 23 39), (0, .nameAndType 40 28), (0, u "NATIONAL_PUBLISHED"), (0, .fieldref 23 42), (0, .nameAndType 43 28), (0, u "EU_PENDING_AWAITING_TRANSFER"), (0, .fieldref 23 45), (0, .nameAndType 46 28), (0, u "EU_PENDING_PROCESSING"), (0, .fieldref 23 48), (0, .nameAndType 49 28), (0, u "EU_PENDING_PENDING"), (0, .fieldref 23 51), (0, .nameAndType 52 28), (0, u "EU_NO_RESPONSE_PENDING"), (0, .fieldref 23 54), (0, .nameAndType 55 28), (0, u "EU_NOT_SEND_INTERNAL_ERROR"), (0, .fieldref 23 57), (0, .nameAndType 58 28), (0, u "EU_REJECTED_INTERNAL_ERROR"), (0, .fieldref 23 60), (0, .nameAndType 61 28), (0, u "EU_STOPPED_NOT_SEND"), (0, .fieldref 23 63), (0, .nameAndType 64 28), (0, u "EU_STOPPED_ACCEPTED"), (0, .fieldref 23 66), (0, .nameAndType 67 28), (0, u "EU_STOPPED_PUBLISHED"), (0, .fieldref 23 69), (0, .nameAndType 70 28), (0, u "EU_STOPPED_NO_RESPONSE"), (0, .fieldref 23 72), (0, .nameAndType 73 28), (0, u "EU_STOPPED_STOPPED"), (0, .fieldref 23 75), (0, .nameAndType 76 28), (0, u "EU_ACCEPTED_PENDING"), (0, .fieldref 23 78), (0, .nameAndType 79 28), (0, u "EU_ACCEPTED_NO_RESPONSE"), (0, .fieldref 23 81), (0, .nameAndType 82 28), (0, u "EU_ACCEPTED_ACCEPTED"), (0, .fieldref 23 84), (0, .nameAndType 85 28), (0, u "EU_ACCEPTED_PUBLISHED"), (0, .fieldref 23 87), (0, .nameAndType 88 28), (0, u "EU_PUBLISHED_PENDING"), (0, .fieldref 23 90), (0, .nameAndType 91 28), (0, u "EU_PUBLISHED_NO_RESPONSE"), (0, .fieldref 23 93), (0, .nameAndType 94 28), (0, u "EU_PUBLISHED_ACCEPTED"), (0, .fieldref 23 96), (0, .nameAndType 97 28), (0, u "EU_PUBLISHED_PUBLISHED"), (0, .fieldref 23 99), (0, .nameAndType 100 28), (0, u "EU_MANUALLY_REJECTED_NOT_SEND"), (0, .fieldref 23 102), (0, .nameAndType 103 28), (0, u "EU_MANUALLY_REJECTED_ACCEPTED"), (0, .fieldref 23 105), (0, .nameAndType 106 28), (0, u "EU_MANUALLY_REJECTED_PUBLISHED"), (0, .fieldref 23 108), (0, .nameAndType 109 28), (0, u "EU_MANUALLY_REJECTED_NO_RESPONSE"), (0, .fieldref 23 111), (0, .nameAndType 112 28), (0, u "EU_MANUALLY_REJECTED_STOPPED"), (0, .integer 2147483647), (0, .methodref 23 115), (0, .nameAndType 116 117), (0, u "defaultPath"), (0, u "()Ljava/util/List;"), (0, .methodref 18 119), (0, .nameAndType 120 121), (0, u "same"), (0, u "(Ljava/util/List;[Lcom/example/redwing/redwing/core/NoticeState;)Z"), (6, u "law"), (0, u "(I)Z")] 4

def k1m0 : Method := { name := "<init>", desc := "()V", sig := { parameters := [], returnType := none }, accessFlags := 1, code := none }
def k1c1 : Code := { maxStack := 3, maxLocals := 3, code := method_2_code, exceptionTable := #[], attributes := #[] }
def k1m1 : Method := { name := "at", desc := "(Ljava/util/List;[Lcom/example/redwing/redwing/core/NoticeState;I)Z", sig := { parameters := [(.object "java/util/List"), (.array (.object "com/example/redwing/redwing/core/NoticeState")), .int], returnType := some .boolean }, accessFlags := 10, code := some k1c1 }
def k1c2 : Code := { maxStack := 3, maxLocals := 2, code := method_3_code, exceptionTable := #[], attributes := #[] }
def k1m2 : Method := { name := "same", desc := "(Ljava/util/List;[Lcom/example/redwing/redwing/core/NoticeState;)Z", sig := { parameters := [(.object "java/util/List"), (.array (.object "com/example/redwing/redwing/core/NoticeState"))], returnType := some .boolean }, accessFlags := 10, code := some k1c2 }
def k1c3 : Code := { maxStack := 4, maxLocals := 7, code := code, exceptionTable := #[], attributes := #[] }
def k1m3 : Method := { name := "law", desc := "(I)Z", sig := { parameters := [.int], returnType := some .boolean }, accessFlags := 9, code := some k1c3 }
/-- com/example/redwing/redwing/core/NoticeStateDefaultPathPinLaw -/
def k1 : Class := { plain "com/example/redwing/redwing/core/NoticeStateDefaultPathPinLaw" (some 0) with
  accessFlags := 49
  interfaces := #[]
  cf := some (fileOf pool1 18 #[] #[{ accessFlags := 1, nameIndex := 5, descriptorIndex := 6, attributes := #[] }, { accessFlags := 10, nameIndex := 21, descriptorIndex := 22, attributes := #[] }, { accessFlags := 10, nameIndex := 120, descriptorIndex := 121, attributes := #[] }, { accessFlags := 9, nameIndex := 128, descriptorIndex := 129, attributes := #[] }] 49 2 #[] #[])
  fields := #[]
  methods := #[k1m0, k1m1, k1m2, k1m3]
  instanceTypes := #[]
  staticTypes := #[]
  resolved := Array.replicate 134 none
  statics := none }

def pool2 : Array CpInfo := pool [(1, .class_ 2), (0, u "java/lang/constant/Constable"), (0, .class_ 4), (0, u "java/lang/Object")] 6

/-- java/lang/constant/Constable -/
def k2 : Class := { plain "java/lang/constant/Constable" (some 0) with
  accessFlags := 1537
  interfaces := #[]
  cf := some (fileOf pool2 1 #[] #[] 1537 3 #[] #[])
  fields := #[]
  methods := #[]
  instanceTypes := #[]
  staticTypes := #[]
  resolved := Array.replicate 11 none
  statics := none }

def pool3 : Array CpInfo := pool [(1, .class_ 2), (0, u "java/lang/Comparable"), (0, .class_ 4), (0, u "java/lang/Object")] 7

/-- java/lang/Comparable -/
def k3 : Class := { plain "java/lang/Comparable" (some 0) with
  accessFlags := 1537
  interfaces := #[]
  cf := some (fileOf pool3 1 #[] #[] 1537 3 #[] #[])
  fields := #[]
  methods := #[]
  instanceTypes := #[]
  staticTypes := #[]
  resolved := Array.replicate 12 none
  statics := none }

def pool4 : Array CpInfo := pool [(1, .class_ 2), (0, u "java/io/Serializable"), (0, .class_ 4), (0, u "java/lang/Object")] 2

/-- java/io/Serializable -/
def k4 : Class := { plain "java/io/Serializable" (some 0) with
  accessFlags := 1537
  interfaces := #[]
  cf := some (fileOf pool4 1 #[] #[] 1537 3 #[] #[])
  fields := #[]
  methods := #[]
  instanceTypes := #[]
  staticTypes := #[]
  resolved := Array.replicate 7 none
  statics := none }

def pool5 : Array CpInfo := pool [(2, .class_ 4), (1, u "java/lang/Enum"), (0, u "name"), (0, u "Ljava/lang/String;"), (2, u "ordinal"), (0, u "I"), (1, .class_ 14), (1, u "java/lang/Object"), (4, u "hash"), (86, .class_ 108), (1, u "java/lang/Enum$EnumDesc"), (2, .class_ 112), (0, u "java/lang/constant/Constable"), (0, .class_ 114), (0, u "java/lang/Comparable"), (0, .class_ 116), (0, u "java/io/Serializable")] 87

/-- java/lang/Enum -/
def k5 : Class := { plain "java/lang/Enum" (some 0) with
  accessFlags := 1057
  interfaces := #[2, 3, 4]
  cf := some (fileOf pool5 2 #[.nestMembers #[106]] #[] 1057 12 #[111, 113, 115] #[{ accessFlags := 18, nameIndex := 5, descriptorIndex := 6, attributes := #[] }, { accessFlags := 18, nameIndex := 9, descriptorIndex := 10, attributes := #[] }, { accessFlags := 2, nameIndex := 19, descriptorIndex := 10, attributes := #[] }])
  fields := #[{ name := "name", type := (.object "java/lang/String"), accessFlags := 18, slot := 0, constantValue := 0 }, { name := "ordinal", type := .int, accessFlags := 18, slot := 1, constantValue := 0 }, { name := "hash", type := .int, accessFlags := 2, slot := 2, constantValue := 0 }]
  methods := #[]
  instanceTypes := #[(.object "java/lang/String"), .int, .int]
  staticTypes := #[]
  resolved := Array.replicate 204 none
  statics := none }

def pool6 : Array CpInfo := pool [(1, .class_ 2), (0, u "com/example/redwing/redwing/core/NoticeState"), (2, u "NATIONAL_AWAITING_TRANSFER"), (0, u "Lcom/example/redwing/redwing/core/NoticeState;"), (2, u "NATIONAL_PROCESSING"), (2, u "NATIONAL_ACCEPTED"), (2, u "NATIONAL_REJECTED"), (2, u "NATIONAL_PUBLISHED"), (2, u "EU_PENDING_AWAITING_TRANSFER"), (2, u "EU_PENDING_PROCESSING"), (2, u "EU_PENDING_PENDING"), (2, u "EU_NO_RESPONSE_PENDING"), (2, u "EU_NOT_SEND_INTERNAL_ERROR"), (2, u "EU_REJECTED_INTERNAL_ERROR"), (2, u "EU_STOPPED_NOT_SEND"), (2, u "EU_STOPPED_ACCEPTED"), (2, u "EU_STOPPED_PUBLISHED"), (2, u "EU_STOPPED_NO_RESPONSE"), (2, u "EU_STOPPED_STOPPED"), (2, u "EU_ACCEPTED_PENDING"), (2, u "EU_ACCEPTED_NO_RESPONSE"), (2, u "EU_ACCEPTED_ACCEPTED"), (2, u "EU_ACCEPTED_PUBLISHED"), (2, u "EU_PUBLISHED_PENDING"), (2, u "EU_PUBLISHED_NO_RESPONSE"), (2, u "EU_PUBLISHED_ACCEPTED"), (2, u "EU_PUBLISHED_PUBLISHED"), (2, u "EU_MANUALLY_REJECTED_NOT_SEND"), (2, u "EU_MANUALLY_REJECTED_ACCEPTED"), (2, u "EU_MANUALLY_REJECTED_PUBLISHED"), (2, u "EU_MANUALLY_REJECTED_NO_RESPONSE"), (2, u "EU_MANUALLY_REJECTED_STOPPED"), (2, u "$VALUES"), (0, u "[Lcom/example/redwing/redwing/core/NoticeState;"), (6, .class_ 103), (1, u "java/lang/Enum"), (6, .fieldref 1 111), (0, .nameAndType 112 113), (0, u "tedStatus"), (0, u "Ljava/lang/String;"), (2, u "doeStatus"), (2, u "description"), (33, .fieldref 1 154), (0, .nameAndType 155 156), (0, u "NATIONAL_PATH"), (0, u "Ljava/util/List;"), (0, .fieldref 1 158), (0, .nameAndType 159 156), (0, u "EU_PATH"), (150, u "defaultPath"), (0, u "()Ljava/util/List;")] 34

def k6c0 : Code := { maxStack := 1, maxLocals := 1, code := prog_19_method_8_code, exceptionTable := #[], attributes := #[] }
def k6m0 : Method := { name := "defaultPath", desc := "()Ljava/util/List;", sig := { parameters := [], returnType := some (.object "java/util/List") }, accessFlags := 1, code := some k6c0 }
/-- com/example/redwing/redwing/core/NoticeState -/
def k6 : Class := { plain "com/example/redwing/redwing/core/NoticeState" (some 5) with
  accessFlags := 16433
  interfaces := #[]
  cf := some (fileOf pool6 1 #[] #[{ accessFlags := 1, nameIndex := 310, descriptorIndex := 311, attributes := #[] }] 16433 101 #[] #[{ accessFlags := 16409, nameIndex := 5, descriptorIndex := 6, attributes := #[] }, { accessFlags := 16409, nameIndex := 9, descriptorIndex := 6, attributes := #[] }, { accessFlags := 16409, nameIndex := 12, descriptorIndex := 6, attributes := #[] }, { accessFlags := 16409, nameIndex := 15, descriptorIndex := 6, attributes := #[] }, { accessFlags := 16409, nameIndex := 18, descriptorIndex := 6, attributes := #[] }, { accessFlags := 16409, nameIndex := 21, descriptorIndex := 6, attributes := #[] }, { accessFlags := 16409, nameIndex := 24, descriptorIndex := 6, attributes := #[] }, { accessFlags := 16409, nameIndex := 27, descriptorIndex := 6, attributes := #[] }, { accessFlags := 16409, nameIndex := 30, descriptorIndex := 6, attributes := #[] }, { accessFlags := 16409, nameIndex := 33, descriptorIndex := 6, attributes := #[] }, { accessFlags := 16409, nameIndex := 36, descriptorIndex := 6, attributes := #[] }, { accessFlags := 16409, nameIndex := 39, descriptorIndex := 6, attributes := #[] }, { accessFlags := 16409, nameIndex := 42, descriptorIndex := 6, attributes := #[] }, { accessFlags := 16409, nameIndex := 45, descriptorIndex := 6, attributes := #[] }, { accessFlags := 16409, nameIndex := 48, descriptorIndex := 6, attributes := #[] }, { accessFlags := 16409, nameIndex := 51, descriptorIndex := 6, attributes := #[] }, { accessFlags := 16409, nameIndex := 54, descriptorIndex := 6, attributes := #[] }, { accessFlags := 16409, nameIndex := 57, descriptorIndex := 6, attributes := #[] }, { accessFlags := 16409, nameIndex := 60, descriptorIndex := 6, attributes := #[] }, { accessFlags := 16409, nameIndex := 63, descriptorIndex := 6, attributes := #[] }, { accessFlags := 16409, nameIndex := 66, descriptorIndex := 6, attributes := #[] }, { accessFlags := 16409, nameIndex := 69, descriptorIndex := 6, attributes := #[] }, { accessFlags := 16409, nameIndex := 72, descriptorIndex := 6, attributes := #[] }, { accessFlags := 16409, nameIndex := 75, descriptorIndex := 6, attributes := #[] }, { accessFlags := 16409, nameIndex := 78, descriptorIndex := 6, attributes := #[] }, { accessFlags := 16409, nameIndex := 81, descriptorIndex := 6, attributes := #[] }, { accessFlags := 16409, nameIndex := 84, descriptorIndex := 6, attributes := #[] }, { accessFlags := 16409, nameIndex := 87, descriptorIndex := 6, attributes := #[] }, { accessFlags := 16409, nameIndex := 90, descriptorIndex := 6, attributes := #[] }, { accessFlags := 26, nameIndex := 155, descriptorIndex := 156, attributes := #[] }, { accessFlags := 26, nameIndex := 159, descriptorIndex := 156, attributes := #[] }, { accessFlags := 18, nameIndex := 112, descriptorIndex := 113, attributes := #[] }, { accessFlags := 18, nameIndex := 116, descriptorIndex := 113, attributes := #[] }, { accessFlags := 18, nameIndex := 119, descriptorIndex := 113, attributes := #[] }, { accessFlags := 4122, nameIndex := 93, descriptorIndex := 94, attributes := #[] }])
  fields := #[{ name := "NATIONAL_AWAITING_TRANSFER", type := (.object "com/example/redwing/redwing/core/NoticeState"), accessFlags := 16409, slot := 0, constantValue := 0 }, { name := "NATIONAL_PROCESSING", type := (.object "com/example/redwing/redwing/core/NoticeState"), accessFlags := 16409, slot := 1, constantValue := 0 }, { name := "NATIONAL_ACCEPTED", type := (.object "com/example/redwing/redwing/core/NoticeState"), accessFlags := 16409, slot := 2, constantValue := 0 }, { name := "NATIONAL_REJECTED", type := (.object "com/example/redwing/redwing/core/NoticeState"), accessFlags := 16409, slot := 3, constantValue := 0 }, { name := "NATIONAL_PUBLISHED", type := (.object "com/example/redwing/redwing/core/NoticeState"), accessFlags := 16409, slot := 4, constantValue := 0 }, { name := "EU_PENDING_AWAITING_TRANSFER", type := (.object "com/example/redwing/redwing/core/NoticeState"), accessFlags := 16409, slot := 5, constantValue := 0 }, { name := "EU_PENDING_PROCESSING", type := (.object "com/example/redwing/redwing/core/NoticeState"), accessFlags := 16409, slot := 6, constantValue := 0 }, { name := "EU_PENDING_PENDING", type := (.object "com/example/redwing/redwing/core/NoticeState"), accessFlags := 16409, slot := 7, constantValue := 0 }, { name := "EU_NO_RESPONSE_PENDING", type := (.object "com/example/redwing/redwing/core/NoticeState"), accessFlags := 16409, slot := 8, constantValue := 0 }, { name := "EU_NOT_SEND_INTERNAL_ERROR", type := (.object "com/example/redwing/redwing/core/NoticeState"), accessFlags := 16409, slot := 9, constantValue := 0 }, { name := "EU_REJECTED_INTERNAL_ERROR", type := (.object "com/example/redwing/redwing/core/NoticeState"), accessFlags := 16409, slot := 10, constantValue := 0 }, { name := "EU_STOPPED_NOT_SEND", type := (.object "com/example/redwing/redwing/core/NoticeState"), accessFlags := 16409, slot := 11, constantValue := 0 }, { name := "EU_STOPPED_ACCEPTED", type := (.object "com/example/redwing/redwing/core/NoticeState"), accessFlags := 16409, slot := 12, constantValue := 0 }, { name := "EU_STOPPED_PUBLISHED", type := (.object "com/example/redwing/redwing/core/NoticeState"), accessFlags := 16409, slot := 13, constantValue := 0 }, { name := "EU_STOPPED_NO_RESPONSE", type := (.object "com/example/redwing/redwing/core/NoticeState"), accessFlags := 16409, slot := 14, constantValue := 0 }, { name := "EU_STOPPED_STOPPED", type := (.object "com/example/redwing/redwing/core/NoticeState"), accessFlags := 16409, slot := 15, constantValue := 0 }, { name := "EU_ACCEPTED_PENDING", type := (.object "com/example/redwing/redwing/core/NoticeState"), accessFlags := 16409, slot := 16, constantValue := 0 }, { name := "EU_ACCEPTED_NO_RESPONSE", type := (.object "com/example/redwing/redwing/core/NoticeState"), accessFlags := 16409, slot := 17, constantValue := 0 }, { name := "EU_ACCEPTED_ACCEPTED", type := (.object "com/example/redwing/redwing/core/NoticeState"), accessFlags := 16409, slot := 18, constantValue := 0 }, { name := "EU_ACCEPTED_PUBLISHED", type := (.object "com/example/redwing/redwing/core/NoticeState"), accessFlags := 16409, slot := 19, constantValue := 0 }, { name := "EU_PUBLISHED_PENDING", type := (.object "com/example/redwing/redwing/core/NoticeState"), accessFlags := 16409, slot := 20, constantValue := 0 }, { name := "EU_PUBLISHED_NO_RESPONSE", type := (.object "com/example/redwing/redwing/core/NoticeState"), accessFlags := 16409, slot := 21, constantValue := 0 }, { name := "EU_PUBLISHED_ACCEPTED", type := (.object "com/example/redwing/redwing/core/NoticeState"), accessFlags := 16409, slot := 22, constantValue := 0 }, { name := "EU_PUBLISHED_PUBLISHED", type := (.object "com/example/redwing/redwing/core/NoticeState"), accessFlags := 16409, slot := 23, constantValue := 0 }, { name := "EU_MANUALLY_REJECTED_NOT_SEND", type := (.object "com/example/redwing/redwing/core/NoticeState"), accessFlags := 16409, slot := 24, constantValue := 0 }, { name := "EU_MANUALLY_REJECTED_ACCEPTED", type := (.object "com/example/redwing/redwing/core/NoticeState"), accessFlags := 16409, slot := 25, constantValue := 0 }, { name := "EU_MANUALLY_REJECTED_PUBLISHED", type := (.object "com/example/redwing/redwing/core/NoticeState"), accessFlags := 16409, slot := 26, constantValue := 0 }, { name := "EU_MANUALLY_REJECTED_NO_RESPONSE", type := (.object "com/example/redwing/redwing/core/NoticeState"), accessFlags := 16409, slot := 27, constantValue := 0 }, { name := "EU_MANUALLY_REJECTED_STOPPED", type := (.object "com/example/redwing/redwing/core/NoticeState"), accessFlags := 16409, slot := 28, constantValue := 0 }, { name := "NATIONAL_PATH", type := (.object "java/util/List"), accessFlags := 26, slot := 29, constantValue := 0 }, { name := "EU_PATH", type := (.object "java/util/List"), accessFlags := 26, slot := 30, constantValue := 0 }, { name := "tedStatus", type := (.object "java/lang/String"), accessFlags := 18, slot := 3, constantValue := 0 }, { name := "doeStatus", type := (.object "java/lang/String"), accessFlags := 18, slot := 4, constantValue := 0 }, { name := "description", type := (.object "java/lang/String"), accessFlags := 18, slot := 5, constantValue := 0 }, { name := "$VALUES", type := (.array (.object "com/example/redwing/redwing/core/NoticeState")), accessFlags := 4122, slot := 31, constantValue := 0 }]
  methods := #[k6m0]
  instanceTypes := #[(.object "java/lang/String"), .int, .int, (.object "java/lang/String"), (.object "java/lang/String"), (.object "java/lang/String")]
  staticTypes := #[(.object "com/example/redwing/redwing/core/NoticeState"), (.object "com/example/redwing/redwing/core/NoticeState"), (.object "com/example/redwing/redwing/core/NoticeState"), (.object "com/example/redwing/redwing/core/NoticeState"), (.object "com/example/redwing/redwing/core/NoticeState"), (.object "com/example/redwing/redwing/core/NoticeState"), (.object "com/example/redwing/redwing/core/NoticeState"), (.object "com/example/redwing/redwing/core/NoticeState"), (.object "com/example/redwing/redwing/core/NoticeState"), (.object "com/example/redwing/redwing/core/NoticeState"), (.object "com/example/redwing/redwing/core/NoticeState"), (.object "com/example/redwing/redwing/core/NoticeState"), (.object "com/example/redwing/redwing/core/NoticeState"), (.object "com/example/redwing/redwing/core/NoticeState"), (.object "com/example/redwing/redwing/core/NoticeState"), (.object "com/example/redwing/redwing/core/NoticeState"), (.object "com/example/redwing/redwing/core/NoticeState"), (.object "com/example/redwing/redwing/core/NoticeState"), (.object "com/example/redwing/redwing/core/NoticeState"), (.object "com/example/redwing/redwing/core/NoticeState"), (.object "com/example/redwing/redwing/core/NoticeState"), (.object "com/example/redwing/redwing/core/NoticeState"), (.object "com/example/redwing/redwing/core/NoticeState"), (.object "com/example/redwing/redwing/core/NoticeState"), (.object "com/example/redwing/redwing/core/NoticeState"), (.object "com/example/redwing/redwing/core/NoticeState"), (.object "com/example/redwing/redwing/core/NoticeState"), (.object "com/example/redwing/redwing/core/NoticeState"), (.object "com/example/redwing/redwing/core/NoticeState"), (.object "java/util/List"), (.object "java/util/List"), (.array (.object "com/example/redwing/redwing/core/NoticeState"))]
  resolved := Array.replicate 346 none
  statics := some 0 }

def pool7 : Array CpInfo := pool [(8, .class_ 10), (1, u "java/lang/Iterable"), (24, .class_ 36), (0, u "java/lang/Object")] 25

/-- java/lang/Iterable -/
def k7 : Class := { plain "java/lang/Iterable" (some 0) with
  accessFlags := 1537
  interfaces := #[]
  cf := some (fileOf pool7 8 #[] #[] 1537 35 #[] #[])
  fields := #[]
  methods := #[]
  instanceTypes := #[]
  staticTypes := #[]
  resolved := Array.replicate 62 none
  statics := none }

def pool8 : Array CpInfo := pool [(10, .class_ 12), (1, u "java/util/Collection"), (47, .class_ 61), (0, u "java/lang/Object"), (0, .class_ 63), (0, u "java/lang/Iterable")] 51

/-- java/util/Collection -/
def k8 : Class := { plain "java/util/Collection" (some 0) with
  accessFlags := 1537
  interfaces := #[7]
  cf := some (fileOf pool8 10 #[] #[] 1537 60 #[62] #[])
  fields := #[]
  methods := #[]
  instanceTypes := #[]
  staticTypes := #[]
  resolved := Array.replicate 115 none
  statics := none }

def pool9 : Array CpInfo := pool [(8, .class_ 10), (1, u "java/util/SequencedCollection"), (15, .class_ 27), (0, u "java/lang/Object"), (0, .class_ 29), (0, u "java/util/Collection")] 27

/-- java/util/SequencedCollection -/
def k9 : Class := { plain "java/util/SequencedCollection" (some 0) with
  accessFlags := 1537
  interfaces := #[8]
  cf := some (fileOf pool9 8 #[] #[] 1537 26 #[28] #[])
  fields := #[]
  methods := #[]
  instanceTypes := #[]
  staticTypes := #[]
  resolved := Array.replicate 57 none
  statics := none }

def pool10 : Array CpInfo := pool [(8, .class_ 10), (1, u "java/util/List"), (64, u "get"), (0, u "(I)Ljava/lang/Object;"), (2, u "size"), (0, u "()I"), (22, .class_ 104), (0, u "java/lang/Object"), (15, .class_ 121), (0, u "java/util/SequencedCollection")] 129

def k10m0 : Method := { name := "size", desc := "()I", sig := { parameters := [], returnType := some .int }, accessFlags := 1025, code := none }
def k10m1 : Method := { name := "get", desc := "(I)Ljava/lang/Object;", sig := { parameters := [.int], returnType := some (.object "java/lang/Object") }, accessFlags := 1025, code := none }
/-- java/util/List -/
def k10 : Class := { plain "java/util/List" (some 0) with
  accessFlags := 1537
  interfaces := #[9]
  cf := some (fileOf pool10 8 #[] #[{ accessFlags := 1025, nameIndex := 79, descriptorIndex := 80, attributes := #[] }, { accessFlags := 1025, nameIndex := 75, descriptorIndex := 76, attributes := #[] }] 1537 103 #[120] #[])
  fields := #[]
  methods := #[k10m0, k10m1]
  instanceTypes := #[]
  staticTypes := #[]
  resolved := Array.replicate 251 none
  statics := none }

def pool11 : Array CpInfo := pool [(2, .class_ 4), (1, u "java/lang/Object"), (0, u "<init>"), (0, u "()V"), (1, .class_ 10), (1, u "java/util/AbstractCollection"), (66, .class_ 78), (0, u "java/util/Collection")] 81

def k11m0 : Method := { name := "<init>", desc := "()V", sig := { parameters := [], returnType := none }, accessFlags := 4, code := none }
/-- java/util/AbstractCollection -/
def k11 : Class := { plain "java/util/AbstractCollection" (some 0) with
  accessFlags := 1057
  interfaces := #[8]
  cf := some (fileOf pool11 8 #[] #[{ accessFlags := 4, nameIndex := 5, descriptorIndex := 6, attributes := #[] }] 1057 2 #[77] #[])
  fields := #[]
  methods := #[k11m0]
  instanceTypes := #[]
  staticTypes := #[]
  resolved := Array.replicate 160 none
  statics := none }

def pool12 : Array CpInfo := pool [(2, .class_ 4), (1, u "java/util/AbstractCollection"), (0, u "<init>"), (0, u "()V"), (1, .class_ 10), (1, u "java/util/ImmutableCollections"), (2, .class_ 14), (0, u "java/util/ImmutableCollections$AbstractImmutableCollection")] 41

def k12m0 : Method := { name := "<init>", desc := "()V", sig := { parameters := [], returnType := none }, accessFlags := 0, code := none }
/-- java/util/ImmutableCollections$AbstractImmutableCollection -/
def k12 : Class := { plain "java/util/ImmutableCollections$AbstractImmutableCollection" (some 11) with
  accessFlags := 1056
  interfaces := #[]
  cf := some (fileOf pool12 13 #[.nestHost 8] #[{ accessFlags := 0, nameIndex := 5, descriptorIndex := 6, attributes := #[] }] 1056 2 #[] #[])
  fields := #[]
  methods := #[k12m0]
  instanceTypes := #[]
  staticTypes := #[]
  resolved := Array.replicate 56 none
  statics := none }

def pool13 : Array CpInfo := pool [(1, .class_ 2), (0, u "java/util/RandomAccess"), (0, .class_ 4), (0, u "java/lang/Object")] 2

/-- java/util/RandomAccess -/
def k13 : Class := { plain "java/util/RandomAccess" (some 0) with
  accessFlags := 1537
  interfaces := #[]
  cf := some (fileOf pool13 1 #[] #[] 1537 3 #[] #[])
  fields := #[]
  methods := #[]
  instanceTypes := #[]
  staticTypes := #[]
  resolved := Array.replicate 7 none
  statics := none }

def pool14 : Array CpInfo := pool [(2, .class_ 4), (1, u "java/util/ImmutableCollections$AbstractImmutableCollection"), (0, u "<init>"), (0, u "()V"), (1, .class_ 10), (1, u "java/util/ImmutableCollections"), (3, .class_ 16), (1, u "java/util/ImmutableCollections$AbstractImmutableList"), (60, .class_ 78), (0, u "java/util/List"), (45, .class_ 125), (0, u "java/util/RandomAccess")] 70

def k14m0 : Method := { name := "<init>", desc := "()V", sig := { parameters := [], returnType := none }, accessFlags := 0, code := none }
/-- java/util/ImmutableCollections$AbstractImmutableList -/
def k14 : Class := { plain "java/util/ImmutableCollections$AbstractImmutableList" (some 12) with
  accessFlags := 1056
  interfaces := #[10, 13]
  cf := some (fileOf pool14 14 #[.nestHost 8] #[{ accessFlags := 0, nameIndex := 5, descriptorIndex := 6, attributes := #[] }] 1056 2 #[77, 124] #[])
  fields := #[]
  methods := #[k14m0]
  instanceTypes := #[]
  staticTypes := #[]
  resolved := Array.replicate 196 none
  statics := none }

def pool15 : Array CpInfo := pool [(2, .class_ 4), (1, u "java/util/ImmutableCollections$AbstractImmutableList"), (2, .fieldref 8 9), (0, .class_ 10), (0, .nameAndType 11 12), (0, u "java/util/ImmutableCollections$ListN"), (0, u "elements"), (0, u "[Ljava/lang/Object;"), (2, u "allowNulls"), (0, u "Z"), (42, .class_ 60), (0, u "java/io/Serializable"), (16, u "size"), (0, u "()I"), (0, u "get"), (0, u "(I)Ljava/lang/Object;"), (33, .class_ 115), (0, u "java/util/ImmutableCollections")] 3

def k15c0 : Code := { maxStack := 1, maxLocals := 1, code := jdk_45_method_3_code, exceptionTable := #[], attributes := #[] }
def k15m0 : Method := { name := "size", desc := "()I", sig := { parameters := [], returnType := some .int }, accessFlags := 1, code := some k15c0 }
def k15c1 : Code := { maxStack := 2, maxLocals := 2, code := jdk_45_method_4_code, exceptionTable := #[], attributes := #[] }
def k15m1 : Method := { name := "get", desc := "(I)Ljava/lang/Object;", sig := { parameters := [.int], returnType := some (.object "java/lang/Object") }, accessFlags := 1, code := some k15c1 }
/-- java/util/ImmutableCollections$ListN -/
def k15 : Class := { plain "java/util/ImmutableCollections$ListN" (some 14) with
  accessFlags := 48
  interfaces := #[4]
  cf := some (fileOf pool15 8 #[.nestHost 114] #[{ accessFlags := 1, nameIndex := 77, descriptorIndex := 78, attributes := #[] }, { accessFlags := 1, nameIndex := 79, descriptorIndex := 80, attributes := #[] }] 48 2 #[59] #[{ accessFlags := 18, nameIndex := 11, descriptorIndex := 12, attributes := #[] }, { accessFlags := 18, nameIndex := 15, descriptorIndex := 16, attributes := #[] }])
  fields := #[{ name := "elements", type := (.array (.object "java/lang/Object")), accessFlags := 18, slot := 0, constantValue := 0 }, { name := "allowNulls", type := .boolean, accessFlags := 18, slot := 1, constantValue := 0 }]
  methods := #[k15m0, k15m1]
  instanceTypes := #[(.array (.object "java/lang/Object")), .boolean]
  staticTypes := #[]
  resolved := Array.replicate 119 none
  statics := none }

def pool16 : Array CpInfo := pool [(2, .class_ 4), (1, u "java/lang/CharSequence"), (42, .class_ 48), (0, u "java/lang/CharSequence$1CodePointIterator"), (10, .class_ 60), (0, u "java/lang/CharSequence$1CharIterator"), (5, .class_ 67), (0, u "java/lang/Object")] 63

/-- java/lang/CharSequence -/
def k16 : Class := { plain "java/lang/CharSequence" (some 0) with
  accessFlags := 1537
  interfaces := #[]
  cf := some (fileOf pool16 2 #[.nestMembers #[47, 59]] #[] 1537 66 #[] #[])
  fields := #[]
  methods := #[]
  instanceTypes := #[]
  staticTypes := #[]
  resolved := Array.replicate 131 none
  statics := none }

def pool17 : Array CpInfo := pool [(1, .class_ 2), (0, u "java/lang/constant/ConstantDesc"), (0, .class_ 4), (0, u "java/lang/Object")] 32

/-- java/lang/constant/ConstantDesc -/
def k17 : Class := { plain "java/lang/constant/ConstantDesc" (some 0) with
  accessFlags := 1537
  interfaces := #[]
  cf := some (fileOf pool17 1 #[] #[] 1537 3 #[] #[])
  fields := #[]
  methods := #[]
  instanceTypes := #[]
  staticTypes := #[]
  resolved := Array.replicate 37 none
  statics := none }

def pool18 : Array CpInfo := pool [(2, .class_ 4), (1, u "java/lang/Object"), (0, u "<init>"), (0, u "()V"), (3, .class_ 12), (1, u "java/lang/String"), (0, u "value"), (0, u "[B"), (2, u "coder"), (0, u "B"), (2, u "hash"), (0, u "I"), (2, u "hashIsZero"), (0, u "Z"), (13, u "COMPACT_STRINGS"), (534, .class_ 576), (0, u "java/lang/CharSequence"), (22, u "CASE_INSENSITIVE_ORDER"), (0, u "Ljava/util/Comparator;"), (500, u "serialPersistentFields"), (0, u "[Ljava/io/ObjectStreamField;"), (0, .class_ 1104), (0, u "java/lang/String$CaseInsensitiveComparator"), (1, .class_ 1107), (0, u "java/io/Serializable"), (0, .class_ 1109), (0, u "java/lang/Comparable"), (0, .class_ 1111), (0, u "java/lang/constant/Constable"), (0, .class_ 1113), (0, u "java/lang/constant/ConstantDesc"), (2, u "serialVersionUID"), (0, u "J"), (3, u "REPL"), (0, u "C"), (2, u "LATIN1"), (1, u "UTF16")] 323

def k18m0 : Method := { name := "<init>", desc := "()V", sig := { parameters := [], returnType := none }, accessFlags := 1, code := none }
/-- java/lang/String -/
def k18 : Class := { plain "java/lang/String" (some 0) with
  accessFlags := 49
  interfaces := #[4, 3, 16, 2, 17]
  cf := some (fileOf pool18 10 #[.nestMembers #[1103]] #[{ accessFlags := 1, nameIndex := 5, descriptorIndex := 6, attributes := #[] }] 49 2 #[1106, 1108, 575, 1110, 1112] #[{ accessFlags := 18, nameIndex := 13, descriptorIndex := 14, attributes := #[] }, { accessFlags := 18, nameIndex := 17, descriptorIndex := 18, attributes := #[] }, { accessFlags := 2, nameIndex := 21, descriptorIndex := 22, attributes := #[] }, { accessFlags := 2, nameIndex := 25, descriptorIndex := 26, attributes := #[] }, { accessFlags := 26, nameIndex := 1116, descriptorIndex := 1117, attributes := #[] }, { accessFlags := 24, nameIndex := 40, descriptorIndex := 26, attributes := #[] }, { accessFlags := 26, nameIndex := 1101, descriptorIndex := 1102, attributes := #[] }, { accessFlags := 26, nameIndex := 1121, descriptorIndex := 1122, attributes := #[] }, { accessFlags := 25, nameIndex := 599, descriptorIndex := 600, attributes := #[] }, { accessFlags := 24, nameIndex := 1125, descriptorIndex := 18, attributes := #[] }, { accessFlags := 24, nameIndex := 1127, descriptorIndex := 18, attributes := #[] }])
  fields := #[{ name := "value", type := (.array .byte), accessFlags := 18, slot := 0, constantValue := 0 }, { name := "coder", type := .byte, accessFlags := 18, slot := 1, constantValue := 0 }, { name := "hash", type := .int, accessFlags := 2, slot := 2, constantValue := 0 }, { name := "hashIsZero", type := .boolean, accessFlags := 2, slot := 3, constantValue := 0 }, { name := "serialVersionUID", type := .long, accessFlags := 26, slot := 0, constantValue := 0 }, { name := "COMPACT_STRINGS", type := .boolean, accessFlags := 24, slot := 1, constantValue := 0 }, { name := "serialPersistentFields", type := (.array (.object "java/io/ObjectStreamField")), accessFlags := 26, slot := 2, constantValue := 0 }, { name := "REPL", type := .char, accessFlags := 26, slot := 3, constantValue := 0 }, { name := "CASE_INSENSITIVE_ORDER", type := (.object "java/util/Comparator"), accessFlags := 25, slot := 4, constantValue := 0 }, { name := "LATIN1", type := .byte, accessFlags := 24, slot := 5, constantValue := 0 }, { name := "UTF16", type := .byte, accessFlags := 24, slot := 6, constantValue := 0 }]
  methods := #[k18m0]
  instanceTypes := #[(.array .byte), .byte, .int, .boolean]
  staticTypes := #[.long, .boolean, (.array (.object "java/io/ObjectStreamField")), .char, (.object "java/util/Comparator"), .byte, .byte]
  resolved := Array.replicate 1451 none
  statics := none }

def pool19 : Array CpInfo := pool [(1, u "java/lang/Cloneable"), (0, .class_ 1), (0, u "java/lang/Object"), (0, .class_ 3)] 3

/-- java/lang/Cloneable -/
def k19 : Class := { plain "java/lang/Cloneable" (some 0) with
  accessFlags := 1537
  interfaces := #[]
  cf := some (fileOf pool19 2 #[] #[] 1537 4 #[] #[])
  fields := #[]
  methods := #[]
  instanceTypes := #[]
  staticTypes := #[]
  resolved := Array.replicate 8 none
  statics := none }

/-- the primitive byte -/
def k20 : Class := { plain "byte" none with kind := .primitive 'B', accessFlags := 0x411 }
/-- [B -/
def k21 : Class := { plain "[B" (some 0) with kind := .array 20 .byte, interfaces := #[19, 4], accessFlags := 1041 }

/-- the primitive int -/
def k22 : Class := { plain "int" none with kind := .primitive 'I', accessFlags := 0x411 }
/-- [I -/
def k23 : Class := { plain "[I" (some 0) with kind := .array 22 .int, interfaces := #[19, 4], accessFlags := 1041 }

/-- [Lcom/example/redwing/redwing/core/NoticeState; -/
def k24 : Class := { plain "[Lcom/example/redwing/redwing/core/NoticeState;" (some 0) with kind := .array 6 (.object "com/example/redwing/redwing/core/NoticeState"), interfaces := #[19, 4], accessFlags := 1041 }

/-- [Ljava/lang/Object; -/
def k25 : Class := { plain "[Ljava/lang/Object;" (some 0) with kind := .array 0 (.object "java/lang/Object"), interfaces := #[19, 4], accessFlags := 1041 }

def heap : Heap := #[{ cls := 6, slots := #[.ref 6, .ref 7, .ref 8, .ref 9, .ref 10, .ref 11, .ref 12, .ref 13, .ref 14, .ref 15, .ref 16, .ref 17, .ref 18, .ref 19, .ref 20, .ref 21, .ref 22, .ref 23, .ref 24, .ref 25, .ref 26, .ref 27, .ref 28, .ref 29, .ref 30, .ref 31, .ref 32, .ref 33, .ref 34, .ref 4, .ref 5, .null], vm := .statics 6 },
  { cls := 25, slots := #[.ref 6, .ref 7, .ref 8, .ref 10], vm := .none },
  { cls := 25, slots := #[.ref 11, .ref 12, .ref 13, .ref 22, .ref 26, .ref 28, .ref 29], vm := .none },
  { cls := 18, slots := #[.null, .int 0, .int 0, .int 0], vm := .none },
  { cls := 15, slots := #[.ref 1, .int 0], vm := .none },
  { cls := 15, slots := #[.ref 2, .int 0], vm := .none },
  { cls := 6, slots := #[.null, .int 0, .int 0, .null, .null, .null], vm := .none },
  { cls := 6, slots := #[.null, .int 1, .int 0, .null, .null, .null], vm := .none },
  { cls := 6, slots := #[.null, .int 2, .int 0, .null, .null, .null], vm := .none },
  { cls := 6, slots := #[.null, .int 3, .int 0, .null, .null, .null], vm := .none },
  { cls := 6, slots := #[.null, .int 4, .int 0, .null, .null, .null], vm := .none },
  { cls := 6, slots := #[.null, .int 5, .int 0, .ref 3, .null, .null], vm := .none },
  { cls := 6, slots := #[.null, .int 6, .int 0, .ref 3, .null, .null], vm := .none },
  { cls := 6, slots := #[.null, .int 7, .int 0, .ref 3, .null, .null], vm := .none },
  { cls := 6, slots := #[.null, .int 8, .int 0, .ref 3, .null, .null], vm := .none },
  { cls := 6, slots := #[.null, .int 9, .int 0, .ref 3, .null, .null], vm := .none },
  { cls := 6, slots := #[.null, .int 10, .int 0, .ref 3, .null, .null], vm := .none },
  { cls := 6, slots := #[.null, .int 11, .int 0, .ref 3, .null, .null], vm := .none },
  { cls := 6, slots := #[.null, .int 12, .int 0, .ref 3, .null, .null], vm := .none },
  { cls := 6, slots := #[.null, .int 13, .int 0, .ref 3, .null, .null], vm := .none },
  { cls := 6, slots := #[.null, .int 14, .int 0, .ref 3, .null, .null], vm := .none },
  { cls := 6, slots := #[.null, .int 15, .int 0, .ref 3, .null, .null], vm := .none },
  { cls := 6, slots := #[.null, .int 16, .int 0, .ref 3, .null, .null], vm := .none },
  { cls := 6, slots := #[.null, .int 17, .int 0, .ref 3, .null, .null], vm := .none },
  { cls := 6, slots := #[.null, .int 18, .int 0, .ref 3, .null, .null], vm := .none },
  { cls := 6, slots := #[.null, .int 19, .int 0, .ref 3, .null, .null], vm := .none },
  { cls := 6, slots := #[.null, .int 20, .int 0, .ref 3, .null, .null], vm := .none },
  { cls := 6, slots := #[.null, .int 21, .int 0, .ref 3, .null, .null], vm := .none },
  { cls := 6, slots := #[.null, .int 22, .int 0, .ref 3, .null, .null], vm := .none },
  { cls := 6, slots := #[.null, .int 23, .int 0, .ref 3, .null, .null], vm := .none },
  { cls := 6, slots := #[.null, .int 24, .int 0, .ref 3, .null, .null], vm := .none },
  { cls := 6, slots := #[.null, .int 25, .int 0, .ref 3, .null, .null], vm := .none },
  { cls := 6, slots := #[.null, .int 26, .int 0, .ref 3, .null, .null], vm := .none },
  { cls := 6, slots := #[.null, .int 27, .int 0, .ref 3, .null, .null], vm := .none },
  { cls := 6, slots := #[.null, .int 28, .int 0, .ref 3, .null, .null], vm := .none }]
def classes : Array Class := #[k0, k1, k2, k3, k4, k5, k6, k7, k8, k9, k10, k11, k12, k13, k14, k15, k16, k17, k18, k19, k20, k21, k22, k23, k24, k25]
def interned : List (Array UInt16 × Addr) := []
def slotsUsed : Nat := 225
def theMethod : MethodId := ⟨1, 3⟩
def args0 : Array Value := #[.int 5]
def aboutOver (below : List Frame) : State where
  vm := { classes := classes, interned := interned.toArray }
  heap := heap
  slotsUsed := slotsUsed
  threads := #[{ frames := .invoking theMethod args0 :: below }]
def below0 : List Frame := [.native { method := ⟨0, 0⟩, args := #[] }]
def about1 : State := aboutOver below0
def p0 : Program := .bare "" "" ""
def e0 : Env := launch0.env 0 0 0
theorem w_frames : about1.frames = Frame.invoking theMethod args0 :: below0 := rfl
set_option maxRecDepth 65536 in
theorem w_args : argsFit about1.vm theMethod args0 = true := by decide +kernel
set_option maxRecDepth 65536 in
theorem w_heap : heapFits about1 = true := by decide +kernel
set_option maxRecDepth 65536 in
theorem w_runnable : about1.curStatus? = some .runnable := by decide +kernel
set_option maxRecDepth 65536 in
theorem w_alone : about1.alone = true := by decide +kernel
set_option maxRecDepth 65536 in
theorem w_named : about1.methodNamed? x = some theMethod := by decide +kernel
set_option maxRecDepth 65536 in
theorem w_hears : about1.hears theMethod below0 = true := by decide +kernel
set_option maxRecDepth 65536 in
theorem w_ripe : about1.ripe theMethod args0 below0 = true := by decide +kernel
theorem w_running : about1.status = .running := rfl
set_option maxRecDepth 65536 in
theorem w_room : about1.hasRoom e0.platform room_1 = true :=
  launch0.hasRoom_least _ room_1 (by decide +kernel) (by decide +kernel) (by decide +kernel) (by decide +kernel) (by decide +kernel) (by decide +kernel)
theorem allAtoms_all (ts : List Jvm.Cond) (a : Array Jvm.Value) (st : Jvm.State) : (allAtoms ts).before a st = ts.all (fun c => c.before a st) := by
  induction ts with
  | nil => rfl
  | cons c t ih =>
    show (Jvm.Cond.and c (allAtoms t)).before a st = _
    rw [Jvm.Cond.before_and, ih, List.all_cons]
def words1 : List Jvm.Cond := Jvm.Cond.code x code maxLocals ret :: tables_1
/-- a 'code' word, met by the world's own term for the bytes: nothing is compared byte by byte -/
theorem code_word {y : MethodName} {bytes : ByteArray} {mx : Nat} {rt : Option FieldType} {a : Array Value} {s : State} {m : MethodId} {meth : Method} {c : Code} (h1 : s.methodNamed? y = some m) (h2 : s.vm.method? m = some meth) (h3 : meth.code = some c) (h4 : c.code = bytes)
    (h5 : (c.maxLocals == mx && c.exceptionTable.isEmpty && decide (c.maxStack ≤ mostOperands) && decide (meth.sig.returnType = rt) && !meth.locks && decide (parseMethodDescriptor y.desc = some meth.sig)) = true) : (Jvm.Cond.code y bytes mx rt).before a s = true := by
  simp only [Bool.and_eq_true, beq_iff_eq, Bool.not_eq_true', decide_eq_true_eq] at h5
  obtain ⟨⟨⟨⟨⟨g1, g2⟩, g3⟩, g4⟩, g5⟩, g6⟩ := h5
  simp [Cond.before, Cond.holds, Cond.value, h1, h2, h3, h4, g1, g2, g3, g4, g5, g6]
def isCode : Jvm.Cond → Bool
  | .code _ _ _ _ => true
  | _ => false
theorem all_split {L : List Jvm.Cond} {P : Jvm.Cond → Bool} (h1 : L.all (fun c => isCode c || P c) = true) (h2 : ∀ c ∈ L.filter isCode, P c = true) : L.all P = true := by
  refine List.all_eq_true.mpr fun c hc => ?_
  have h := List.all_eq_true.mp h1 c hc
  rcases Bool.eq_false_or_eq_true (isCode c) with hi | hi
  · exact h2 c (List.mem_filter.mpr ⟨hc, hi⟩)
  · simpa [hi] using h
set_option maxRecDepth 65536 in
theorem w_c0 : (Jvm.Cond.code x code maxLocals ret).before args0 about1 = true := code_word (m := ⟨1, 3⟩) (meth := k1m3) (c := k1c3) (by decide +kernel) rfl rfl rfl (by decide +kernel)
set_option maxRecDepth 65536 in
theorem w_c1 : (Jvm.Cond.code ({ cls := "com/example/redwing/redwing/core/NoticeState", name := "defaultPath", desc := "()Ljava/util/List;" } : Jvm.MethodName) prog_19_method_8_code (1 : Nat) (Option.some (Jvm.ClassFile.FieldType.object "java/util/List"))).before args0 about1 = true := code_word (m := ⟨6, 0⟩) (meth := k6m0) (c := k6c0) (by decide +kernel) rfl rfl rfl (by decide +kernel)
set_option maxRecDepth 65536 in
theorem w_c2 : (Jvm.Cond.code ({ cls := "com/example/redwing/redwing/core/NoticeStateDefaultPathPinLaw", name := "same", desc := "(Ljava/util/List;[Lcom/example/redwing/redwing/core/NoticeState;)Z" } : Jvm.MethodName) method_3_code (2 : Nat) (Option.some Jvm.ClassFile.FieldType.boolean)).before args0 about1 = true := code_word (m := ⟨1, 2⟩) (meth := k1m2) (c := k1c2) (by decide +kernel) rfl rfl rfl (by decide +kernel)
set_option maxRecDepth 65536 in
theorem w_c3 : (Jvm.Cond.code ({ cls := "java/util/ImmutableCollections$ListN", name := "size", desc := "()I" } : Jvm.MethodName) jdk_45_method_3_code (1 : Nat) (Option.some Jvm.ClassFile.FieldType.int)).before args0 about1 = true := code_word (m := ⟨15, 0⟩) (meth := k15m0) (c := k15c0) (by decide +kernel) rfl rfl rfl (by decide +kernel)
set_option maxRecDepth 65536 in
theorem w_c4 : (Jvm.Cond.code ({ cls := "com/example/redwing/redwing/core/NoticeStateDefaultPathPinLaw", name := "at", desc := "(Ljava/util/List;[Lcom/example/redwing/redwing/core/NoticeState;I)Z" } : Jvm.MethodName) method_2_code (3 : Nat) (Option.some Jvm.ClassFile.FieldType.boolean)).before args0 about1 = true := code_word (m := ⟨1, 1⟩) (meth := k1m1) (c := k1c1) (by decide +kernel) rfl rfl rfl (by decide +kernel)
set_option maxRecDepth 65536 in
theorem w_c5 : (Jvm.Cond.code ({ cls := "java/util/ImmutableCollections$ListN", name := "get", desc := "(I)Ljava/lang/Object;" } : Jvm.MethodName) jdk_45_method_4_code (2 : Nat) (Option.some (Jvm.ClassFile.FieldType.object "java/lang/Object"))).before args0 about1 = true := code_word (m := ⟨15, 1⟩) (meth := k15m1) (c := k15c1) (by decide +kernel) rfl rfl rfl (by decide +kernel)
def codes1 : List Jvm.Cond := [Jvm.Cond.code x code maxLocals ret, Jvm.Cond.code ({ cls := "com/example/redwing/redwing/core/NoticeState", name := "defaultPath", desc := "()Ljava/util/List;" } : Jvm.MethodName) prog_19_method_8_code (1 : Nat) (Option.some (Jvm.ClassFile.FieldType.object "java/util/List")), Jvm.Cond.code ({ cls := "com/example/redwing/redwing/core/NoticeStateDefaultPathPinLaw", name := "same", desc := "(Ljava/util/List;[Lcom/example/redwing/redwing/core/NoticeState;)Z" } : Jvm.MethodName) method_3_code (2 : Nat) (Option.some Jvm.ClassFile.FieldType.boolean), Jvm.Cond.code ({ cls := "java/util/ImmutableCollections$ListN", name := "size", desc := "()I" } : Jvm.MethodName) jdk_45_method_3_code (1 : Nat) (Option.some Jvm.ClassFile.FieldType.int), Jvm.Cond.code ({ cls := "com/example/redwing/redwing/core/NoticeStateDefaultPathPinLaw", name := "at", desc := "(Ljava/util/List;[Lcom/example/redwing/redwing/core/NoticeState;I)Z" } : Jvm.MethodName) method_2_code (3 : Nat) (Option.some Jvm.ClassFile.FieldType.boolean), Jvm.Cond.code ({ cls := "java/util/ImmutableCollections$ListN", name := "get", desc := "(I)Ljava/lang/Object;" } : Jvm.MethodName) jdk_45_method_4_code (2 : Nat) (Option.some (Jvm.ClassFile.FieldType.object "java/lang/Object"))]
set_option maxRecDepth 65536 in
theorem codes_eq : words1.filter isCode = codes1 := rfl
theorem w_codes : ∀ c ∈ words1.filter isCode, c.before args0 about1 = true := by
  rw [codes_eq]
  intro c hc
  simp only [codes1, List.mem_cons, List.not_mem_nil, or_false] at hc
  rcases hc with rfl | rfl | rfl | rfl | rfl | rfl
  · exact w_c0
  · exact w_c1
  · exact w_c2
  · exact w_c3
  · exact w_c4
  · exact w_c5
set_option maxRecDepth 65536 in
theorem w_t1 : (words1.take 24).all (fun c => isCode c || c.before args0 about1) = true := by decide +kernel
set_option maxRecDepth 65536 in
theorem w_t2 : ((words1.drop 24).take 24).all (fun c => isCode c || c.before args0 about1) = true := by decide +kernel
set_option maxRecDepth 65536 in
theorem w_t3 : (((words1.drop 24).drop 24).take 24).all (fun c => isCode c || c.before args0 about1) = true := by decide +kernel
set_option maxRecDepth 65536 in
theorem w_t4 : ((((words1.drop 24).drop 24).drop 24).take 24).all (fun c => isCode c || c.before args0 about1) = true := by decide +kernel
set_option maxRecDepth 65536 in
theorem w_t5 : ((((words1.drop 24).drop 24).drop 24).drop 24).all (fun c => isCode c || c.before args0 about1) = true := by decide +kernel
theorem w_tables : (allAtoms (Jvm.Cond.code x code maxLocals ret :: tables_1)).before args0 about1 = true := by
  rw [allAtoms_all]
  show words1.all (fun c => c.before args0 about1) = true
  refine all_split ?_ w_codes
  rw [← List.take_append_drop 24 words1, List.all_append, w_t1, ← List.take_append_drop 24 (words1.drop 24), List.all_append, w_t2, ← List.take_append_drop 24 ((words1.drop 24).drop 24), List.all_append, w_t3, ← List.take_append_drop 24 (((words1.drop 24).drop 24).drop 24), List.all_append, w_t4, w_t5]
  rfl
set_option maxRecDepth 65536 in
theorem w_case : (Jvm.Cond.and given_1 narrow_1).before args0 about1 = true := by decide +kernel
theorem w_applies : (headSpec (Jvm.Cond.code x code maxLocals ret :: tables_1) room_1).applies x e0.platform about1 = true :=
  (Spec.applies_iff w_frames).mpr ⟨w_running, w_runnable, w_alone, w_named, w_hears, w_ripe, w_room, w_tables⟩
theorem atStart : AtStart classFile x code maxLocals ret World_1 tables_1 room_1 Calls_1 rest_1 Pre_1 launch0 p0 e0 about1 theMethod args0 below0 :=
  ⟨lists_1, trivial, launch0.admits_env _ _ _, launch0.least_env, fairChoices_fair.cas, fairChoices_fair.clock, w_frames, w_args, w_heap, w_applies, trivial, trivial, w_case⟩
end start1
theorem witness_1 : WitnessClaimed_1 := ⟨start1.p0, start1.e0, start1.about1, start1.theMethod, start1.args0, start1.below0, start1.atStart⟩
end Jvm.Pilot.@@N@@
