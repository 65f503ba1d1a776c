import JvmDerived
import JvmDerived.Pilot.@@N@@Statement
import JvmDerived.Pilot.@@N@@Code
set_option linter.unusedVariables false
set_option linter.unusedSimpArgs false
namespace Jvm.RoadKit
open Sem ClassFile Op Lib Jvm.Stand Jvm.Free Jvm.LawKit
section New
variable {p : Program} {l : Launch} {e : Env} {R : Room} {s : State} {m : MethodId} {args : Array Value} {below : List Frame} {meth : Method} {c : Code} {T : State} {locs : List Loc} {cells slots : Nat}
theorem retI (X : Stand p l e R s m args below meth c T locs cells slots) (hx : p.tables.exec = Jvm.exec) {pc : Nat} {Ls : Array Slot} {z : Int32} {rest : List Value} (hret : meth.sig.returnType = some .int) (hd : decode c.code pc = .ok (.ireturn, 1)) {fs : List Frame}
    (hl : ∀ (f : JFrame) (acts : List Action), f.method = m → f.locked = none → f.entered = [] → (doReturn e (T.setTop f) acts (some (.int z))).1 = T.setFrames fs) : Steps p.tables e below (T.setTop (mkF m pc Ls (.int z :: rest))) (T.setFrames fs) := by
  have hm' : T.vm.method? m = some meth := X.method'
  have hn : narrow .int (.int z) = .int z := rfl
  show Steps p.tables e below (T.setTop { method := m, pc := pc, locals := Ls, stack := _ :: rest, locked := none }) _
  jvm_step X.here [X.here.top, hx, hd, hm', hret, hn]
  first | (intro acts; rw [hl _ acts rfl rfl rfl]) | rw [hl _ _ rfl rfl rfl]
  exact Steps.refl _
theorem own_dupX2 (X : Stand p l e R s m args below meth c T locs cells slots) (hx : p.tables.exec = Jvm.exec) {pc : Nat} {Ls : Array Slot} {x y z : Value} {rest : List Value} (hd : decode c.code pc = .ok (.dup_x2, 1)) (h1 : x.category = 1) (h2 : y.category = 1) (h3 : z.category = 1) {target : State}
    (k : Steps p.tables e below (T.setTop (mkF m (pc + 1) Ls (x :: y :: z :: x :: rest))) target) : Steps p.tables e below (T.setTop (mkF m pc Ls (x :: y :: z :: rest))) target := by
  show Steps p.tables e below (T.setTop { method := m, pc := pc, locals := Ls, stack := x :: y :: z :: rest, locked := none }) _
  jvm_step X.here [X.here.top, hx, hd, h1, h2, h3]
  exact k
end New
end Jvm.RoadKit
namespace Jvm.Pilot.@@N@@
open Jvm Jvm.ClassFile Sem Op Lib Jvm.Free Jvm.Stand Jvm.LawKit Jvm.RoadKit Bundle Jvm.Pilot.@@N@@.Jvm.D

def own_IA (Z : State) (h : Heap) (a : Addr) (n : Nat) (f : Nat → Int32) : Prop := ∃ cl : Cell, Arr Z h a cl .int ∧ cl.slots.size = n ∧ ∀ j, j < n → cl.slots[j]? = some (.int (f j))
section IA
variable {Z : State} {h h' : Heap} {a b : Addr} {n i sl : Nat} {f g : Nat → Int32} {x j : Int32} {v : Value} {ws : List Addr}
theorem own_IA.lt (F : own_IA Z h a n f) : a < h.size := by obtain ⟨cl, A, -⟩ := F; exact A.lt
theorem own_IA.ext (F : own_IA Z h a n f) (E : Ext h h') : own_IA Z h' a n f := by obtain ⟨cl, A, r⟩ := F; exact ⟨cl, A.ext E, r⟩
theorem own_IA.other (F : own_IA Z h b n f) (W : Wr h h' a sl v) (q : b ≠ a) : own_IA Z h' b n f := by obtain ⟨cl, A, r⟩ := F; exact ⟨cl, A.other W q, r⟩
theorem own_IA.keep (F : own_IA Z h a n f) (K : Keep h h' ws) (q : a ∉ ws) : own_IA Z h' a n f := by obtain ⟨cl, A, r⟩ := F; exact ⟨cl, ⟨K.2.1 a cl A.1 q, A.2⟩, r⟩
theorem own_IA.congr (F : own_IA Z h a n f) (q : ∀ j, j < n → f j = g j) : own_IA Z h a n g := by
  obtain ⟨cl, A, S, H⟩ := F
  exact ⟨cl, A, S, fun j hj => by rw [← q j hj]; exact H j hj⟩
theorem own_IA.at (F : own_IA Z h a n f) (hj : j = Int32.ofNat i) (hi : i < n) (hn : n < 2 ^ 31) : ∃ cl : Cell, Arr Z h a cl .int ∧ ¬ (j < 0 ∨ cl.slots.size ≤ j.toNatClampNeg) ∧ cl.slots[j.toNatClampNeg]? = some (.int (f i)) := by
  obtain ⟨cl, A, S, H⟩ := F
  refine ⟨cl, A, by rw [S]; exact within hj hi hn, ?_⟩
  rw [clamp_of hj (Nat.lt_trans hi hn)]
  exact H i hi
theorem own_IA.set (F : own_IA Z h a n f) (W : Wr h h' a j.toNatClampNeg (.int x)) (hj : j = Int32.ofNat i) (hi : i < n) (hn : n < 2 ^ 31) : own_IA Z h' a n (fun k => if k = i then x else f k) := by
  obtain ⟨cl, A, S, H⟩ := F
  refine ⟨_, A.same W, by rw [sz_set]; exact S, fun k hk => ?_⟩
  rw [clamp_of hj (Nat.lt_trans hi hn)]
  show (cl.slots.setIfInBounds i (.int x))[k]? = some (Value.int (if k = i then x else f k))
  by_cases e : k = i
  · subst e
    rw [Array.getElem?_setIfInBounds_self_of_lt (by omega), if_pos rfl]
  · rw [Array.getElem?_setIfInBounds_ne (fun q => e q.symm), if_neg e]
    exact H k hk
theorem own_IA.len (F : own_IA Z h a n f) : ∃ cl : Cell, Arr Z h a cl .int ∧ cl.slots.size.toInt32 = Int32.ofNat n := by
  obtain ⟨cl, A, S, -⟩ := F
  exact ⟨cl, A, by rw [S]⟩
theorem own_IA.ofV {k : ClassId} {z : Int32} {vs : List Int32} (V : Arv Z h a k .int z (vs.map Value.int) (.int 0)) (hz : z.toNatClampNeg = n) : own_IA Z h a n (fun j => vs.getD j 0) := by
  obtain ⟨cl, A, -, S, -, H, -⟩ := V
  refine ⟨cl, A, by rw [S]; exact hz, fun j hj => ?_⟩
  rw [H j (by rw [S, hz]; exact hj)]
  congr 1
  clear H hj S hz
  induction vs generalizing j with
  | nil => rfl
  | cons y t ih => cases j with
    | zero => rfl
    | succ k => exact ih k
theorem own_fitC {cl : Cell} (A : Arr Z h a cl .int) (hi : ∀ (i : Nat) (v : Value), cl.slots[i]? = some v → ∃ x, v = Value.int x) : FitC Z cl := fun i v hv => by
  obtain ⟨x, rfl⟩ := hi i v hv
  obtain ⟨hs, k, hk, comp, hkind⟩ := A.2.1
  have e : Z.slotType? cl.cls .none i = some .int := by simp [State.slotType?, hk, hkind]
  simp [State.fitsSlot, e, fits]
theorem own_inc (i : Nat) : Int32.ofNat i + 1 = Int32.ofNat (i + 1) := (inc_ofNat i).symm
theorem own_lt {i n : Nat} (h : i < n) (hn : n < 2 ^ 31) : Int32.ofNat i < Int32.ofNat n := by
  rw [Int32.lt_iff_toInt_lt, toInt_of rfl (Nat.lt_trans h hn), toInt_of rfl hn]; omega
theorem own_nlt {i n : Nat} (h : n ≤ i) (hn : i < 2 ^ 31) : ¬ Int32.ofNat i < Int32.ofNat n := by
  rw [Int32.lt_iff_toInt_lt, toInt_of rfl hn, toInt_of rfl (Nat.lt_of_le_of_lt h hn)]; omega
end IA
section IAlaws
variable {p : Program} {l : Launch} {e : Env} {R : Room} {s : State} {m : MethodId} {args : Array Value} {below : List Frame} {meth : Method} {c : Code} {T : State} {locs : List Loc} {cells slots : Nat} {Z : State} {a0 : Array Value} {h : Heap}
set_option maxHeartbeats 2000000 in
theorem own_newI (X : Stand p l e R s m args below meth c T locs cells slots) (hx : p.tables.exec = Jvm.exec) (hZ : Z.Warmed39 s.vm) (w : (Jvm.Cond.arrayClass .int).before a0 Z = true) (eT : T.heap = h) {g : JFrame} (hg : g.method = m) (hd : decode c.code g.pc = .ok (.newarray .int, 2)) {z : Int32} {rest : List Value} (hs : g.stack = .int z :: rest)
    {nn cap : Nat} (hz : z = Int32.ofNat nn) (hcap : nn ≤ cap) (hb : cap ≤ 65536) (hc : cells + 1 ≤ R.cells) (hl : slots + cap ≤ R.slots) :
    ∃ T' h', Stand p l e R s m args below meth c T' locs (cells + 1) (slots + cap) ∧ T'.heap = h' ∧ Ext h h' ∧ own_IA Z h' h.size nn (fun _ => 0) ∧ Exa Z h' h.size "[I" ∧
      ∀ target, Steps p.tables e below (T'.setTop { g with pc := g.pc + 2, stack := .ref h.size :: rest }) target → Steps p.tables e below (T.setTop g) target := by
  have hn : z.toNatClampNeg = nn := clamp_of hz (by omega)
  have hneg : ¬ z < 0 := fun q => by
    rw [Int32.lt_iff_toInt_lt, toInt_of hz (by omega)] at q
    have q0 : (0 : Int32).toInt = 0 := rfl
    omega
  obtain ⟨cA, kA, comp, h1, h2, h3, X', st⟩ := X.newarrayPrim hx (atype := .int) (mvA hZ w) hg hd hs hneg (by rw [hn]; show nn * 4 ≤ _; omega) hc (by rw [hn]; omega)
  subst eT
  rw [hZ.alike.findClass] at h1
  obtain ⟨kZ, z1, -⟩ := Vm.findClass_spec h1
  obtain ⟨k', z2, z3⟩ := hZ.alike.2.2 _ _ z1
  cases h2.symm.trans z2
  have hk : kZ.kind = .array comp .int := (congrArg Class.kind z3).symm.trans h3
  refine ⟨_, T.heap.push { cls := cA, slots := Array.replicate z.toNatClampNeg (defaultValue (newarray.typeOf .int)), vm := .none }, X'.more (Nat.le_refl _) (by rw [hn]; omega), rfl, ?_, ⟨_, ⟨Array.getElem?_push_size, ⟨by simp, kZ, z1, comp, hk⟩, by simp⟩, ?_, fun j hj => ?_⟩, ⟨_, kZ, Array.getElem?_push_size, h1, z1, rfl, fun q => ?_⟩, st⟩
  · refine ⟨by simp, fun a c q => ?_⟩
    rw [Array.getElem?_push_lt (Array.getElem?_eq_some_iff.mp q).1]; exact (Array.getElem?_eq_getElem _).symm.trans q
  · show (Array.replicate z.toNatClampNeg (defaultValue (newarray.typeOf .int))).size = nn
    rw [Array.size_replicate, hn]
  · show (Array.replicate z.toNatClampNeg (defaultValue (newarray.typeOf .int)))[j]? = _
    rw [hn, Array.getElem?_replicate, if_pos hj]; rfl
  · rw [hk] at q; cases q
theorem own_cloneI (X : Stand p l e R s m args below meth c T locs cells slots) (hx : p.tables.exec = Jvm.exec) (hZ : Z.Warmed39 s.vm) {own : String} {index : Nat} (hown : s.vm.findClass own = some m.cls)
    (w1 : (Jvm.Cond.methodLink own index ⟨"[I", "clone", "()Ljava/lang/Object;"⟩).before a0 Z = true) (w2 : (Jvm.Cond.sameMethod "[I" "java/lang/Object" "clone" "()Ljava/lang/Object;").before a0 Z = true) (w3 : (Jvm.Cond.native ⟨"java/lang/Object", "clone", "()Ljava/lang/Object;"⟩).before a0 Z = true)
    (w4 : (Jvm.Cond.instanceMethod ⟨"java/lang/Object", "clone", "()Ljava/lang/Object;"⟩).before a0 Z = true) (w5 : (Jvm.Cond.selects "[I" ⟨"[I", "clone", "()Ljava/lang/Object;"⟩ ⟨"java/lang/Object", "clone", "()Ljava/lang/Object;"⟩).before a0 Z = true) (w6 : (Jvm.Cond.castable "[I" "java/lang/Cloneable").before a0 Z = true)
    (eT : T.heap = h) {a : Addr} {n : Nat} {f : Nat → Int32} (F : own_IA Z h a n f) (E : Exa Z h a "[I") {g : JFrame} (hg : g.method = m) (hsize : g.locals.size = c.maxLocals) {rest : List Value} (hs : g.stack = .ref a :: rest) (hd : decode c.code g.pc = .ok (.invokevirtual index, 3))
    (hf : 1 ≤ R.frames) {W cap : Nat} (hW : 2 * g.monitorRoom + (rest.map fun v => v.category).sum ≤ W) (hl : W + 14 ≤ R.locals) (hcap : n ≤ cap) (hc : cells + 1 ≤ R.cells) (hsl : slots + cap ≤ R.slots) :
    ∃ T' h', Stand p l e R s m args below meth c T' locs (cells + 1) (slots + cap) ∧ T'.heap = h' ∧ Ext h h' ∧ own_IA Z h' h.size n f ∧ Exa Z h' h.size "[I" ∧
      ∀ target, Steps p.tables e below (T'.setTop { g with pc := g.pc + 3, stack := .ref h.size :: rest }) target → Steps p.tables e below (T.setTop g) target := by
  obtain ⟨cl, A, S, H⟩ := F
  have hi : ∀ (i : Nat) (v : Value), cl.slots[i]? = some v → ∃ x, v = Value.int x := fun i v hv => by
    have hlt := (Array.getElem?_eq_some_iff.mp hv).1
    exact ⟨f i, Option.some.inj (hv.symm.trans (H i (by omega)))⟩
  obtain ⟨T', h', X', e', E', A', B', st⟩ := cloneA X hx hZ hown w1 w2 w3 w4 w5 w6 eT A E (own_fitC A hi) hg hsize hs hd hf hW hl (cap := cap) (by omega) hc hsl
  exact ⟨T', h', X', e', E', ⟨_, A', S, H⟩, B', st⟩
end IAlaws

def own_C (kk : Nat → Nat) : Nat → Nat → Nat
  | 0, _ => 0
  | i + 1, j => own_C kk i j + (if kk i + 1 = j then 1 else 0)
def own_A (kk : Nat → Nat) : Nat → Nat → Nat
  | 0, _ => 0
  | i + 1, j => own_A kk i j + (if kk i < j then 1 else 0)
def own_B (kk : Nat → Nat) : Nat → Nat → Nat
  | 0, _ => 0
  | i + 1, j => own_B kk i j + (if kk i = j then 1 else 0)
theorem own_A_zero (kk : Nat → Nat) (n : Nat) : own_A kk n 0 = own_C kk n 0 := by
  induction n with
  | zero => rfl
  | succ n ih => simp [own_A, own_C, ih]
theorem own_A_step (kk : Nat → Nat) (n v : Nat) : own_A kk n (v + 1) = own_A kk n v + own_C kk n (v + 1) := by
  induction n with
  | zero => rfl
  | succ n ih =>
    simp only [own_A, own_C, ih]
    by_cases a : kk n < v
    · rw [if_pos (by omega), if_pos a, if_neg (by omega)]; omega
    · by_cases b : kk n = v
      · rw [if_pos (by omega), if_neg a, if_pos (by omega)]; omega
      · rw [if_neg (by omega), if_neg a, if_neg (by omega)]; omega
theorem own_B_C (kk : Nat → Nat) (n v : Nat) : own_C kk n (v + 1) = own_B kk n v := by
  induction n with
  | zero => rfl
  | succ n ih => simp only [own_B, own_C, ih, Nat.add_right_cancel_iff]
theorem own_A_le (kk : Nat → Nat) (n v : Nat) : own_A kk n v ≤ n := by
  induction n with
  | zero => exact Nat.le_refl _
  | succ n ih => simp only [own_A]; split <;> omega
theorem own_B_mono (kk : Nat → Nat) {t n v : Nat} (h : t ≤ n) : own_B kk t v ≤ own_B kk n v := by
  induction n with
  | zero => rw [Nat.le_zero.mp h]; exact Nat.le_refl _
  | succ n ih =>
    by_cases e : t = n + 1
    · rw [e]; exact Nat.le_refl _
    · have := ih (by omega); simp only [own_B]; omega
theorem own_B_lt (kk : Nat → Nat) {t n v : Nat} (h : t < n) (hv : kk t = v) : own_B kk t v < own_B kk n v := by
  have h1 : own_B kk (t + 1) v = own_B kk t v + 1 := by simp [own_B, hv]
  have h2 := own_B_mono kk (v := v) (show t + 1 ≤ n from h)
  omega
theorem own_pos (kk : Nat → Nat) {t n : Nat} (h : t < n) : own_A kk n (kk t) + own_B kk t (kk t) < own_A kk n (kk t + 1) := by
  rw [own_A_step, own_B_C]
  have := own_B_lt kk h rfl
  omega
theorem own_pos_lt (kk : Nat → Nat) {t n : Nat} (h : t < n) : own_A kk n (kk t) + own_B kk t (kk t) < n := Nat.lt_of_lt_of_le (own_pos kk h) (own_A_le kk n _)
def own_M (kk : Nat → Nat) (n : Nat) : Nat → Nat → Nat
  | 0, _ => 0
  | t + 1, j => if j = own_A kk n (kk t) + own_B kk t (kk t) then t else own_M kk n t j
theorem own_km2 (k : Nat) : Int32.ofNat k - 1 + 2 = Int32.ofNat (k + 1) := by
  rw [inc_ofNat]
  apply Int32.toBitVec_inj.mp
  simp only [Int32.toBitVec_add, Int32.toBitVec_sub]
  generalize (Int32.ofNat k).toBitVec = b
  have e1 : (1 : Int32).toBitVec = 1#32 := rfl
  have e2 : (2 : Int32).toBitVec = 2#32 := rfl
  rw [e1, e2]
  bv_omega
theorem own_km1 (k : Nat) : Int32.ofNat k - 1 + 1 = Int32.ofNat k := by
  apply Int32.toBitVec_inj.mp
  simp only [Int32.toBitVec_add, Int32.toBitVec_sub]
  generalize (Int32.ofNat k).toBitVec = b
  have e1 : (1 : Int32).toBitVec = 1#32 := rfl
  rw [e1]
  bv_omega
theorem own_dec {g : Nat} (h : 1 ≤ g) : Int32.ofNat g - 1 = Int32.ofNat (g - 1) := by
  obtain ⟨k, rfl⟩ : ∃ k, g = k + 1 := ⟨g - 1, by omega⟩
  exact dec_ofNat k
theorem own_add2 (G : Nat) : Int32.ofNat G + 2 = Int32.ofNat (G + 2) := (inc2_ofNat G).symm
theorem own_ofadd (a b : Nat) : Int32.ofNat a + Int32.ofNat b = Int32.ofNat (a + b) := (Int32.ofNat_add a b).symm
theorem own_C_step (kk : Nat → Nat) (i j : Nat) : (if j = kk i + 1 then Int32.ofNat (own_C kk i (kk i + 1)) + 1 else Int32.ofNat (own_C kk i j)) = Int32.ofNat (own_C kk (i + 1) j) := by
  by_cases h : j = kk i + 1
  · subst h
    rw [if_pos rfl, own_inc]
    simp [own_C]
  · rw [if_neg h]
    simp only [own_C]
    rw [if_neg (fun q => h q.symm)]; rfl
theorem own_P_init (kk : Nat → Nat) (n j : Nat) : Int32.ofNat (own_C kk n j) = Int32.ofNat (if j < 1 then own_A kk n j else own_C kk n j) := by
  by_cases h : j < 1
  · obtain rfl : j = 0 := by omega
    rw [if_pos h, own_A_zero]
  · rw [if_neg h]
theorem own_P_step (kk : Nat → Nat) (n g j : Nat) (hg : 1 ≤ g) : (if j = g then Int32.ofNat (if g < g then own_A kk n g else own_C kk n g) + Int32.ofNat (if g - 1 < g then own_A kk n (g - 1) else own_C kk n (g - 1)) else Int32.ofNat (if j < g then own_A kk n j else own_C kk n j)) = Int32.ofNat (if j < g + 1 then own_A kk n j else own_C kk n j) := by
  by_cases h : j = g
  · subst h
    rw [if_pos rfl, if_neg (by omega), if_pos (by omega), if_pos (by omega), own_ofadd]
    obtain ⟨k, rfl⟩ : ∃ k, j = k + 1 := ⟨j - 1, by omega⟩
    rw [own_A_step, Nat.add_sub_cancel, Nat.add_comm]
  · rw [if_neg h]
    by_cases q : j < g
    · rw [if_pos q, if_pos (by omega)]
    · rw [if_neg q, if_neg (by omega)]
theorem own_P_end (kk : Nat → Nat) (n m j : Nat) (h : j < m) : Int32.ofNat (if j < m then own_A kk n j else own_C kk n j) = Int32.ofNat (own_A kk n j) := by rw [if_pos h]
theorem own_F_step (kk : Nat → Nat) (n t j : Nat) : (if j = kk t then Int32.ofNat (own_A kk n (kk t) + own_B kk t (kk t)) + 1 else Int32.ofNat (own_A kk n j + own_B kk t j)) = Int32.ofNat (own_A kk n j + own_B kk (t + 1) j) := by
  by_cases h : j = kk t
  · subst h
    rw [if_pos rfl, own_inc]
    simp [own_B, Nat.add_assoc]
  · rw [if_neg h]
    simp only [own_B]
    rw [if_neg (fun q => h q.symm)]; rfl
theorem own_M_step (kk : Nat → Nat) (n t j : Nat) : (if j = own_A kk n (kk t) + own_B kk t (kk t) then Int32.ofNat t else Int32.ofNat (own_M kk n t j)) = Int32.ofNat (own_M kk n (t + 1) j) := by
  simp only [own_M]
  split <;> rfl

theorem own_A_mono (kk : Nat → Nat) (n : Nat) {v w : Nat} (h : v ≤ w) : own_A kk n v ≤ own_A kk n w := by
  induction n with
  | zero => exact Nat.le_refl _
  | succ n ih =>
    simp only [own_A]
    by_cases a : kk n < v
    · rw [if_pos a, if_pos (by omega)]; omega
    · rw [if_neg a]; split <;> omega
theorem own_pos_ne (kk : Nat → Nat) {n t N : Nat} (h : n < t) (ht : t < N) : own_A kk N (kk n) + own_B kk n (kk n) ≠ own_A kk N (kk t) + own_B kk t (kk t) := by
  rcases Nat.lt_trichotomy (kk n) (kk t) with q | q | q
  · have h1 := own_pos kk (Nat.lt_trans h ht)
    have h2 := own_A_mono kk N (show kk n + 1 ≤ kk t from q)
    omega
  · have h1 := own_B_lt kk h rfl
    rw [← q]
    omega
  · have h1 := own_pos kk ht
    have h2 := own_A_mono kk N (show kk t + 1 ≤ kk n from q)
    omega
theorem own_M_at (kk : Nat → Nat) {n N : Nat} : ∀ t, n < t → t ≤ N → own_M kk N t (own_A kk N (kk n) + own_B kk n (kk n)) = n := by
  intro t
  induction t with
  | zero => intro h; omega
  | succ t ih =>
    intro h ht
    simp only [own_M]
    by_cases e : n = t
    · subst e; rw [if_pos rfl]
    · rw [if_neg (own_pos_ne kk (by omega) (by omega))]
      exact ih (by omega) (by omega)
theorem own_keyeq {a b : Nat} (ha : a < 1000) (hb : b < 1000) : Int32.ofNat a - 1 = Int32.ofNat b - 1 ↔ a = b := by
  constructor
  · intro h
    have h1 := congrArg (fun z : Int32 => z + 1) h
    simp only [own_km1] at h1
    have h2 := congrArg Int32.toInt h1
    rw [toInt_of rfl (by omega), toInt_of rfl (by omega)] at h2
    omega
  · intro h; rw [h]
theorem own_nz {G : Nat} (h : G < 1000) : Int32.ofNat (G + 1) ≠ 0 := fun q => by
  have h2 := congrArg Int32.toInt q
  rw [toInt_of rfl (by omega)] at h2
  have h0 : (0 : Int32).toInt = 0 := rfl
  omega

theorem own_mask (x m : Int32) (k : Nat) (hk : k ≤ 31) (hm : m.toBitVec.toNat = 2 ^ k - 1) : ∃ n : Nat, n < 2 ^ k ∧ x &&& m = Int32.ofNat n := by
  have h := c_mask x m k hk hm
  have hp : (0 : Int) < ((2 ^ k : Nat) : Int) := by have := Nat.two_pow_pos k; omega
  have h0 := Int.emod_nonneg x.toInt (Int.ne_of_gt hp)
  have h1 := Int.emod_lt_of_pos x.toInt hp
  have h31 : (2 ^ k : Nat) ≤ 2 ^ 31 := Nat.pow_le_pow_right (by decide) hk
  refine ⟨(x.toInt % ((2 ^ k : Nat) : Int)).toNat, by omega, ?_⟩
  apply Int32.toInt_inj.mp
  rw [h, Int32.toInt_ofNat_of_lt (by omega)]
  omega

theorem own_modn (x y : Int32) (d : Nat) (hy : y.toInt = d) (hd : 0 < d) : ∃ n : Nat, n < d ∧ (x &&& 2147483647) % y = Int32.ofNat n := by
  have h := c_mask x 2147483647 31 (by decide) (by decide)
  have h0 : 0 ≤ (x &&& 2147483647).toInt := by rw [h]; omega
  have hr := (c_irem (x &&& 2147483647) y d hy).1 h0
  have hr32 := rng32 y
  have hb0 := Int.emod_nonneg (x &&& 2147483647).toInt (show (d : Int) ≠ 0 by omega)
  have hb1 := Int.emod_lt_of_pos (x &&& 2147483647).toInt (show (0 : Int) < d by omega)
  refine ⟨((x &&& 2147483647).toInt % (d : Int)).toNat, by omega, ?_⟩
  apply Int32.toInt_inj.mp
  rw [hr, Int32.toInt_ofNat_of_lt (by omega)]
  omega

def own_eq (a b : Int32) : Int32 := if a = b then 1 else 0
theorem own_255 (x : Int32) (M : Nat) (hM : 0 < M) (hM2 : M < 1000) : ∃ n : Nat, n < M ∧ (x &&& 255) % Int32.ofNat M = Int32.ofNat n := by
  have h := c_mask x 255 8 (by decide) (by decide)
  have h0 : 0 ≤ (x &&& 255).toInt := by rw [h]; omega
  have hr := (c_irem (x &&& 255) (Int32.ofNat M) M (toInt_of rfl (by omega))).1 h0
  have hb0 := Int.emod_nonneg (x &&& 255).toInt (show (M : Int) ≠ 0 by omega)
  have hb1 := Int.emod_lt_of_pos (x &&& 255).toInt (show (0 : Int) < M by omega)
  refine ⟨((x &&& 255).toInt % (M : Int)).toNat, by omega, ?_⟩
  apply Int32.toInt_inj.mp
  rw [hr, toInt_of (c := ((x &&& 255).toInt % (M : Int)).toNat) rfl (by omega)]
  omega
theorem own_eq_nat {a b : Nat} (ha : a < 1000) (hb : b < 1000) : own_eq (Int32.ofNat a - 1) (Int32.ofNat b - 1) = Int32.ofNat (if a = b then 1 else 0) := by
  unfold own_eq
  by_cases h : a = b
  · rw [if_pos (by rw [h]), if_pos h]; rfl
  · rw [if_neg (fun q => h ((own_keyeq ha hb).mp q)), if_neg h]; rfl
theorem own_sub (a b : Nat) : Int32.ofNat (a + b) - Int32.ofNat a = Int32.ofNat b := by
  rw [← own_ofadd]
  apply Int32.toBitVec_inj.mp
  simp only [Int32.toBitVec_add, Int32.toBitVec_sub]
  generalize (Int32.ofNat a).toBitVec = x
  generalize (Int32.ofNat b).toBitVec = y
  bv_omega
theorem own_count (n1 n2 n3 n4 n5 n6 nq : Nat) (h1 : n1 < 1000) (h2 : n2 < 1000) (h3 : n3 < 1000) (h4 : n4 < 1000) (h5 : n5 < 1000) (h6 : n6 < 1000) (hq : nq < 1000) :
    Int32.ofNat (own_A (fun j => [n1, n2, n3, n4, n5, n6].getD j 0) 6 (nq + 1)) - Int32.ofNat (own_A (fun j => [n1, n2, n3, n4, n5, n6].getD j 0) 6 nq) = (((((own_eq (Int32.ofNat n1 - 1) (Int32.ofNat nq - 1) + own_eq (Int32.ofNat n2 - 1) (Int32.ofNat nq - 1)) + own_eq (Int32.ofNat n3 - 1) (Int32.ofNat nq - 1)) + own_eq (Int32.ofNat n4 - 1) (Int32.ofNat nq - 1)) + own_eq (Int32.ofNat n5 - 1) (Int32.ofNat nq - 1)) + own_eq (Int32.ofNat n6 - 1) (Int32.ofNat nq - 1)) := by
  rw [own_A_step, own_sub, own_B_C, own_eq_nat h1 hq, own_eq_nat h2 hq, own_eq_nat h3 hq, own_eq_nat h4 hq, own_eq_nat h5 hq, own_eq_nat h6 hq, own_ofadd, own_ofadd, own_ofadd, own_ofadd, own_ofadd]
  congr 1
  simp [own_B]

theorem own_d1_0 : decode method_2_code 0 = .ok (.lload_n 0, 1) := by decide +kernel
theorem own_d1_1 : decode method_2_code 1 = .ok (.iload_n 2, 1) := by decide +kernel
theorem own_d1_2 : decode method_2_code 2 = .ok (.lushr, 1) := by decide +kernel
theorem own_d1_3 : decode method_2_code 3 = .ok (.l2i, 1) := by decide +kernel
theorem own_d1_4 : decode method_2_code 4 = .ok (.sipush 255, 3) := by decide +kernel
theorem own_d1_7 : decode method_2_code 7 = .ok (.iand, 1) := by decide +kernel
theorem own_d1_8 : decode method_2_code 8 = .ok (.iload_n 3, 1) := by decide +kernel
theorem own_d1_9 : decode method_2_code 9 = .ok (.irem, 1) := by decide +kernel
theorem own_d1_10 : decode method_2_code 10 = .ok (.iconst 1, 1) := by decide +kernel
theorem own_d1_11 : decode method_2_code 11 = .ok (.isub, 1) := by decide +kernel
theorem own_d1_12 : decode method_2_code 12 = .ok (.ireturn, 1) := by decide +kernel
theorem own_d2_0 : decode method_3_code 0 = .ok (.iload_n 0, 1) := by decide +kernel
theorem own_d2_1 : decode method_3_code 1 = .ok (.iload_n 1, 1) := by decide +kernel
theorem own_d2_2 : decode method_3_code 2 = .ok (.if_icmp .ne 7, 3) := by decide +kernel
theorem own_d2_5 : decode method_3_code 5 = .ok (.iconst 1, 1) := by decide +kernel
theorem own_d2_6 : decode method_3_code 6 = .ok (.goto 4, 3) := by decide +kernel
theorem own_d2_9 : decode method_3_code 9 = .ok (.iconst 0, 1) := by decide +kernel
theorem own_d2_10 : decode method_3_code 10 = .ok (.ireturn, 1) := by decide +kernel
theorem own_d3_0 : decode prog_17_method_1_code 0 = .ok (.aload_n 0, 1) := by decide +kernel
theorem own_d3_1 : decode prog_17_method_1_code 1 = .ok (.invokespecial 1, 3) := by decide +kernel
theorem own_d3_4 : decode prog_17_method_1_code 4 = .ok (.aload_n 0, 1) := by decide +kernel
theorem own_d3_5 : decode prog_17_method_1_code 5 = .ok (.iload_n 2, 1) := by decide +kernel
theorem own_d3_6 : decode prog_17_method_1_code 6 = .ok (.iconst 2, 1) := by decide +kernel
theorem own_d3_7 : decode prog_17_method_1_code 7 = .ok (.iadd, 1) := by decide +kernel
theorem own_d3_8 : decode prog_17_method_1_code 8 = .ok (.newarray .int, 2) := by decide +kernel
theorem own_d3_10 : decode prog_17_method_1_code 10 = .ok (.putfield 7, 3) := by decide +kernel
theorem own_d3_13 : decode prog_17_method_1_code 13 = .ok (.aload_n 1, 1) := by decide +kernel
theorem own_d3_14 : decode prog_17_method_1_code 14 = .ok (.astore_n 3, 1) := by decide +kernel
theorem own_d3_15 : decode prog_17_method_1_code 15 = .ok (.aload_n 3, 1) := by decide +kernel
theorem own_d3_16 : decode prog_17_method_1_code 16 = .ok (.arraylength, 1) := by decide +kernel
theorem own_d3_17 : decode prog_17_method_1_code 17 = .ok (.istore 4, 2) := by decide +kernel
theorem own_d3_19 : decode prog_17_method_1_code 19 = .ok (.iconst 0, 1) := by decide +kernel
theorem own_d3_20 : decode prog_17_method_1_code 20 = .ok (.istore 5, 2) := by decide +kernel
theorem own_d3_22 : decode prog_17_method_1_code 22 = .ok (.iload 5, 2) := by decide +kernel
theorem own_d3_24 : decode prog_17_method_1_code 24 = .ok (.iload 4, 2) := by decide +kernel
theorem own_d3_26 : decode prog_17_method_1_code 26 = .ok (.if_icmp .ge 28, 3) := by decide +kernel
theorem own_d3_29 : decode prog_17_method_1_code 29 = .ok (.aload_n 3, 1) := by decide +kernel
theorem own_d3_30 : decode prog_17_method_1_code 30 = .ok (.iload 5, 2) := by decide +kernel
theorem own_d3_32 : decode prog_17_method_1_code 32 = .ok (.iaload, 1) := by decide +kernel
theorem own_d3_33 : decode prog_17_method_1_code 33 = .ok (.istore 6, 2) := by decide +kernel
theorem own_d3_35 : decode prog_17_method_1_code 35 = .ok (.aload_n 0, 1) := by decide +kernel
theorem own_d3_36 : decode prog_17_method_1_code 36 = .ok (.getfield 7, 3) := by decide +kernel
theorem own_d3_39 : decode prog_17_method_1_code 39 = .ok (.iload 6, 2) := by decide +kernel
theorem own_d3_41 : decode prog_17_method_1_code 41 = .ok (.iconst 2, 1) := by decide +kernel
theorem own_d3_42 : decode prog_17_method_1_code 42 = .ok (.iadd, 1) := by decide +kernel
theorem own_d3_43 : decode prog_17_method_1_code 43 = .ok (.dup2, 1) := by decide +kernel
theorem own_d3_44 : decode prog_17_method_1_code 44 = .ok (.iaload, 1) := by decide +kernel
theorem own_d3_45 : decode prog_17_method_1_code 45 = .ok (.iconst 1, 1) := by decide +kernel
theorem own_d3_46 : decode prog_17_method_1_code 46 = .ok (.iadd, 1) := by decide +kernel
theorem own_d3_47 : decode prog_17_method_1_code 47 = .ok (.iastore, 1) := by decide +kernel
theorem own_d3_48 : decode prog_17_method_1_code 48 = .ok (.iinc 5 1, 3) := by decide +kernel
theorem own_d3_51 : decode prog_17_method_1_code 51 = .ok (.goto (-29), 3) := by decide +kernel
theorem own_d3_54 : decode prog_17_method_1_code 54 = .ok (.iconst 1, 1) := by decide +kernel
theorem own_d3_55 : decode prog_17_method_1_code 55 = .ok (.istore_n 3, 1) := by decide +kernel
theorem own_d3_56 : decode prog_17_method_1_code 56 = .ok (.iload_n 3, 1) := by decide +kernel
theorem own_d3_57 : decode prog_17_method_1_code 57 = .ok (.aload_n 0, 1) := by decide +kernel
theorem own_d3_58 : decode prog_17_method_1_code 58 = .ok (.getfield 7, 3) := by decide +kernel
theorem own_d3_61 : decode prog_17_method_1_code 61 = .ok (.arraylength, 1) := by decide +kernel
theorem own_d3_62 : decode prog_17_method_1_code 62 = .ok (.if_icmp .ge 26, 3) := by decide +kernel
theorem own_d3_65 : decode prog_17_method_1_code 65 = .ok (.aload_n 0, 1) := by decide +kernel
theorem own_d3_66 : decode prog_17_method_1_code 66 = .ok (.getfield 7, 3) := by decide +kernel
theorem own_d3_69 : decode prog_17_method_1_code 69 = .ok (.iload_n 3, 1) := by decide +kernel
theorem own_d3_70 : decode prog_17_method_1_code 70 = .ok (.dup2, 1) := by decide +kernel
theorem own_d3_71 : decode prog_17_method_1_code 71 = .ok (.iaload, 1) := by decide +kernel
theorem own_d3_72 : decode prog_17_method_1_code 72 = .ok (.aload_n 0, 1) := by decide +kernel
theorem own_d3_73 : decode prog_17_method_1_code 73 = .ok (.getfield 7, 3) := by decide +kernel
theorem own_d3_76 : decode prog_17_method_1_code 76 = .ok (.iload_n 3, 1) := by decide +kernel
theorem own_d3_77 : decode prog_17_method_1_code 77 = .ok (.iconst 1, 1) := by decide +kernel
theorem own_d3_78 : decode prog_17_method_1_code 78 = .ok (.isub, 1) := by decide +kernel
theorem own_d3_79 : decode prog_17_method_1_code 79 = .ok (.iaload, 1) := by decide +kernel
theorem own_d3_80 : decode prog_17_method_1_code 80 = .ok (.iadd, 1) := by decide +kernel
theorem own_d3_81 : decode prog_17_method_1_code 81 = .ok (.iastore, 1) := by decide +kernel
theorem own_d3_82 : decode prog_17_method_1_code 82 = .ok (.iinc 3 1, 3) := by decide +kernel
theorem own_d3_85 : decode prog_17_method_1_code 85 = .ok (.goto (-29), 3) := by decide +kernel
theorem own_d3_88 : decode prog_17_method_1_code 88 = .ok (.aload_n 0, 1) := by decide +kernel
theorem own_d3_89 : decode prog_17_method_1_code 89 = .ok (.aload_n 1, 1) := by decide +kernel
theorem own_d3_90 : decode prog_17_method_1_code 90 = .ok (.arraylength, 1) := by decide +kernel
theorem own_d3_91 : decode prog_17_method_1_code 91 = .ok (.newarray .int, 2) := by decide +kernel
theorem own_d3_93 : decode prog_17_method_1_code 93 = .ok (.putfield 13, 3) := by decide +kernel
theorem own_d3_96 : decode prog_17_method_1_code 96 = .ok (.aload_n 0, 1) := by decide +kernel
theorem own_d3_97 : decode prog_17_method_1_code 97 = .ok (.getfield 7, 3) := by decide +kernel
theorem own_d3_100 : decode prog_17_method_1_code 100 = .ok (.invokevirtual 16, 3) := by decide +kernel
theorem own_d3_103 : decode prog_17_method_1_code 103 = .ok (.checkcast 17, 3) := by decide +kernel
theorem own_d3_106 : decode prog_17_method_1_code 106 = .ok (.astore_n 3, 1) := by decide +kernel
theorem own_d3_107 : decode prog_17_method_1_code 107 = .ok (.iconst 0, 1) := by decide +kernel
theorem own_d3_108 : decode prog_17_method_1_code 108 = .ok (.istore 4, 2) := by decide +kernel
theorem own_d3_110 : decode prog_17_method_1_code 110 = .ok (.iload 4, 2) := by decide +kernel
theorem own_d3_112 : decode prog_17_method_1_code 112 = .ok (.aload_n 1, 1) := by decide +kernel
theorem own_d3_113 : decode prog_17_method_1_code 113 = .ok (.arraylength, 1) := by decide +kernel
theorem own_d3_114 : decode prog_17_method_1_code 114 = .ok (.if_icmp .ge 29, 3) := by decide +kernel
theorem own_d3_117 : decode prog_17_method_1_code 117 = .ok (.aload_n 0, 1) := by decide +kernel
theorem own_d3_118 : decode prog_17_method_1_code 118 = .ok (.getfield 13, 3) := by decide +kernel
theorem own_d3_121 : decode prog_17_method_1_code 121 = .ok (.aload_n 3, 1) := by decide +kernel
theorem own_d3_122 : decode prog_17_method_1_code 122 = .ok (.aload_n 1, 1) := by decide +kernel
theorem own_d3_123 : decode prog_17_method_1_code 123 = .ok (.iload 4, 2) := by decide +kernel
theorem own_d3_125 : decode prog_17_method_1_code 125 = .ok (.iaload, 1) := by decide +kernel
theorem own_d3_126 : decode prog_17_method_1_code 126 = .ok (.iconst 1, 1) := by decide +kernel
theorem own_d3_127 : decode prog_17_method_1_code 127 = .ok (.iadd, 1) := by decide +kernel
theorem own_d3_128 : decode prog_17_method_1_code 128 = .ok (.dup2, 1) := by decide +kernel
theorem own_d3_129 : decode prog_17_method_1_code 129 = .ok (.iaload, 1) := by decide +kernel
theorem own_d3_130 : decode prog_17_method_1_code 130 = .ok (.dup_x2, 1) := by decide +kernel
theorem own_d3_131 : decode prog_17_method_1_code 131 = .ok (.iconst 1, 1) := by decide +kernel
theorem own_d3_132 : decode prog_17_method_1_code 132 = .ok (.iadd, 1) := by decide +kernel
theorem own_d3_133 : decode prog_17_method_1_code 133 = .ok (.iastore, 1) := by decide +kernel
theorem own_d3_134 : decode prog_17_method_1_code 134 = .ok (.iload 4, 2) := by decide +kernel
theorem own_d3_136 : decode prog_17_method_1_code 136 = .ok (.iastore, 1) := by decide +kernel
theorem own_d3_137 : decode prog_17_method_1_code 137 = .ok (.iinc 4 1, 3) := by decide +kernel
theorem own_d3_140 : decode prog_17_method_1_code 140 = .ok (.goto (-30), 3) := by decide +kernel
theorem own_d3_143 : decode prog_17_method_1_code 143 = .ok (.return_, 1) := by decide +kernel
theorem own_d5_0 : decode prog_17_method_2_code 0 = .ok (.aload_n 0, 1) := by decide +kernel
theorem own_d5_1 : decode prog_17_method_2_code 1 = .ok (.getfield 7, 3) := by decide +kernel
theorem own_d5_4 : decode prog_17_method_2_code 4 = .ok (.iload_n 1, 1) := by decide +kernel
theorem own_d5_5 : decode prog_17_method_2_code 5 = .ok (.iconst 2, 1) := by decide +kernel
theorem own_d5_6 : decode prog_17_method_2_code 6 = .ok (.iadd, 1) := by decide +kernel
theorem own_d5_7 : decode prog_17_method_2_code 7 = .ok (.iaload, 1) := by decide +kernel
theorem own_d5_8 : decode prog_17_method_2_code 8 = .ok (.aload_n 0, 1) := by decide +kernel
theorem own_d5_9 : decode prog_17_method_2_code 9 = .ok (.getfield 7, 3) := by decide +kernel
theorem own_d5_12 : decode prog_17_method_2_code 12 = .ok (.iload_n 1, 1) := by decide +kernel
theorem own_d5_13 : decode prog_17_method_2_code 13 = .ok (.iconst 1, 1) := by decide +kernel
theorem own_d5_14 : decode prog_17_method_2_code 14 = .ok (.iadd, 1) := by decide +kernel
theorem own_d5_15 : decode prog_17_method_2_code 15 = .ok (.iaload, 1) := by decide +kernel
theorem own_d5_16 : decode prog_17_method_2_code 16 = .ok (.isub, 1) := by decide +kernel
theorem own_d5_17 : decode prog_17_method_2_code 17 = .ok (.ireturn, 1) := by decide +kernel
theorem own_pn_0 : plainName "com/example/planwright/planwright/io/Grouping" = true := by first | (simp [plainName, overriddenIn]; done) | decide +kernel
theorem own_ef_0 (m : MethodId) (x0 : Addr) (x1 : Addr) (x2 : Int32) : entryFrame m #[(.ref x0), (.ref x1), (.int x2)] 7 = mkF m 0 #[.val (.ref x0), .val (.ref x1), .val (.int x2), .unset, .unset, .unset, .unset] [] := by first | (simp [entryFrame, mkF, argsToLocals, Value.category]; done) | rfl
theorem own_pn_1 : plainName "com/example/planwright/planwright/io/GroupingCountPinLaw" = true := by first | (simp [plainName, overriddenIn]; done) | decide +kernel
theorem own_ef_1 (m : MethodId) (x0 : Int64) (x1 : Int32) (x2 : Int32) : entryFrame m #[(.long x0), (.int x1), (.int x2)] 4 = mkF m 0 #[.val (.long x0), .second, .val (.int x1), .val (.int x2)] [] := by first | (simp [entryFrame, mkF, argsToLocals, Value.category]; done) | rfl
theorem own_ef_2 (m : MethodId) (x0 : Int32) (x1 : Int32) : entryFrame m #[(.int x0), (.int x1)] 2 = mkF m 0 #[.val (.int x0), .val (.int x1)] [] := by first | (simp [entryFrame, mkF, argsToLocals, Value.category]; done) | rfl
theorem own_ef_3 (m : MethodId) (x0 : Addr) (x1 : Int32) : entryFrame m #[(.ref x0), (.int x1)] 2 = mkF m 0 #[.val (.ref x0), .val (.int x1)] [] := by first | (simp [entryFrame, mkF, argsToLocals, Value.category]; done) | rfl
theorem own_ef_4 (m : MethodId) (x0 : Int32) (x1 : Int64) (x2 : Int32) : entryFrame m #[(.int x0), (.long x1), (.int x2)] maxLocals = mkF m 0 #[.val (.int x0), .val (.long x1), .second, .val (.int x2), .unset, .unset, .unset, .unset, .unset, .unset] [] := by first | (simp [entryFrame, mkF, argsToLocals, Value.category, maxLocals]; done) | rfl
theorem own_pd_0 : parseMethodDescriptor "(JII)I" = some ⟨[.long, .int, .int], some .int⟩ := by decide +kernel
theorem own_pd_1 : parseMethodDescriptor "(II)I" = some ⟨[.int, .int], some .int⟩ := by decide +kernel
theorem own_pd_2 : parseMethodDescriptor "([II)V" = some ⟨[(.array .int), .int], none⟩ := by decide +kernel
theorem own_pd_3 : parseMethodDescriptor "(I)I" = some ⟨[.int], some .int⟩ := by decide +kernel
def Q_rmI (Z : State) (r0 : Addr) (r1 : Addr) (p2 : Int32) (G : Nat) (kk : Nat → Nat) (h0 : Heap) (n0 : Nat) (v : Option Value) (h : Heap) (L : List Loc) : Prop := v = none ∧ Fr n0 L ∧ Keep h0 h [r0] ∧ ∃ (b1 b2 : Addr), Fld Z h r0 "com/example/planwright/planwright/io/Grouping" "starts" "[I" (.ref b1) ∧ own_IA Z h b1 (G + 2) (fun j => Int32.ofNat (own_A kk 6 j)) ∧ Fld Z h r0 "com/example/planwright/planwright/io/Grouping" "members" "[I" (.ref b2) ∧ own_IA Z h b2 6 (fun j => Int32.ofNat (own_M kk 6 6 j))
set_option maxRecDepth 65536 in
set_option maxHeartbeats 40000000 in
theorem rmI (l : Launch) (Z : State) (a0 : Array Value) (hw : ∀ d ∈ tables_1, d.before a0 Z = true) (ws : List Jvm.Cond) (r0 : Addr) (r1 : Addr) (p2 : Int32) (G : Nat) (kk : Nat → Nat) (h0 : Heap) (n0 : Nat) (Z0 : n0 ≤ h0.size) (F1 : Fld Z h0 r0 "com/example/planwright/planwright/io/Grouping" "starts" "[I" .null) (F2 : Fld Z h0 r0 "com/example/planwright/planwright/io/Grouping" "members" "[I" .null) (E1 : Exa Z h0 r0 "com/example/planwright/planwright/io/Grouping") (A1 : own_IA Z h0 r1 6 (fun j => Int32.ofNat (kk j) - 1)) (g_r0 : n0 ≤ r0) (ne01 : r0 ≠ r1) (hG : p2 = Int32.ofNat G) (hG1 : G ≤ 15) (hk : ∀ j, j < 6 → kk j ≤ G) :
    MetFree l (⟨"com/example/planwright/planwright/io/Grouping", "<init>", "([II)V"⟩ : MethodName) (head1 (Jvm.Cond.code (⟨"com/example/planwright/planwright/io/Grouping", "<init>", "([II)V"⟩ : MethodName) prog_17_method_1_code 7 none :: ws) ({ frames := 1, cells := 3, slots := 40, locals := 14 } : Room)) (fun a U => a = #[(.ref r0), (.ref r1), (.int p2)] ∧ Z.Warmed39 U.vm ∧ U.heap = h0) (fun _ _ _ _ _ => True) (fun _ U o U' => ∃ v L, o = .returned v ∧ Q_rmI Z r0 r1 p2 G kk h0 n0 v U'.heap L ∧ FrameEnd U o U' L ({ frames := 1, cells := 3, slots := 40, locals := 14 } : Room).cells ({ frames := 1, cells := 3, slots := 40, locals := 14 } : Room).slots) := by
  refine MetFree.of_bodySF (plainFor_of_name own_pn_0) hisR ?_
  intro p e s m args below meth c s₁ Bd hml0 hP hK
  obtain ⟨rfl, hZ, hh⟩ := hP
  have hx := Bd.exec
  have hby := Bd.bytes
  have hml : c.maxLocals = 7 := hml0
  have hown : s.vm.findClass "com/example/planwright/planwright/io/Grouping" = some m.cls := findClass_of_methodNamed Bd.named
  have hnm := (name_of_methodNamed Bd.named Bd.method).1
  have X0 : Stand p l e ({ frames := 1, cells := 3, slots := 40, locals := 14 } : Room) s m #[(.ref r0), (.ref r1), (.int p2)] below meth c s₁ [] 0 0 := Stand.of_body Bd
  have e0 : s₁.heap = h0 := by rw [← hh, Bd.state]; rfl
  have N0 := Fr.nil n0
  have K0 : Keep h0 h0 [r0] := Keep.refl h0 _
  have pre0 : ∀ t, Steps p.tables e below (s₁.setTop (mkF m 0 #[.val (.ref r0), .val (.ref r1), .val (.int p2), .unset, .unset, .unset, .unset] [])) t → Steps p.tables e below (s₁.setTop (entryFrame m #[(.ref r0), (.ref r1), (.int p2)] 7)) t := fun t k => castTop (own_ef_0 m r0 r1 p2) k
  obtain ⟨T1, X1, e1, st1⟩ := initO X0 hx hZ hown (hw _ (List.mem_of_getElem? (i := 15) rfl)) (hw _ (List.mem_of_getElem? (i := 16) rfl)) (hw _ (List.mem_of_getElem? (i := 17) rfl)) e0 (g := (mkF m 1 #[.val (.ref r0), .val (.ref r1), .val (.int p2), .unset, .unset, .unset, .unset] [(.ref r0)])) rfl (by rw [hml]; rfl) rfl (hb hby own_d3_1) (by decide) (W := 0) (by show 2 * 0 + _ ≤ _; exact Nat.le_of_eq rfl) (by decide)
  obtain ⟨T2, h2, X2, e2, E2, V2, A2, st2⟩ := own_newI X1 hx hZ (hw _ (List.mem_of_getElem? (i := 0) rfl)) e1 (g := (mkF m 8 #[.val (.ref r0), .val (.ref r1), .val (.int p2), .unset, .unset, .unset, .unset] [(.int (p2 + (2 : Int32))), (.ref r0)])) rfl (hb hby own_d3_8) rfl (nn := (G + 2)) (cap := 17) (by rw [hG]; exact own_add2 G) (by omega) (by decide) (by decide) (by decide)
  obtain ⟨b2, g2⟩ : ∃ z, z = h0.size := ⟨_, rfl⟩
  rw [← g2] at V2 A2 st2
  have ne_r0_b2 : r0 ≠ b2 := Nat.ne_of_lt (Nat.lt_of_lt_of_le F1.lt (Nat.le_of_eq g2.symm))
  have ne_r1_b2 : r1 ≠ b2 := Nat.ne_of_lt (Nat.lt_of_lt_of_le A1.lt (Nat.le_of_eq g2.symm))
  have g_b2 : n0 ≤ b2 := Nat.le_trans Z0 (Nat.le_of_eq g2.symm)
  have sz_b2 : h0.size ≤ b2 := Nat.le_trans K0.1 (Nat.le_of_eq g2.symm)
  have f3 := F1.ext E2
  have f4 := F2.ext E2
  have f5 := E1.ext E2
  have f6 := A1.ext E2
  have Z7 : n0 ≤ h2.size := Nat.le_trans Z0 E2.1
  have K8 := K0.ext E2
  obtain ⟨T9, h9, X9, e9, W9, st9⟩ := putF X2 hx hZ hown (host := "") (Or.inl (hw _ (List.mem_of_getElem? (i := 18) rfl))) Via.refl e2 f3 f5 (Or.inr ⟨(hw _ (List.mem_of_getElem? (i := 19) rfl)), rfl, hnm⟩) (hw _ (List.mem_of_getElem? (i := 10) rfl)) (ty := (.array .int)) (by decide) rfl rfl (g := (mkF m 10 #[.val (.ref r0), .val (.ref r1), .val (.int p2), .unset, .unset, .unset, .unset] [(.ref b2), (.ref r0)])) rfl rfl (hb hby own_d3_10)
  have f10 := f3.same W9
  have f11 := f4.other W9 (Or.inr (slot_ne (Or.inr (hw _ (List.mem_of_getElem? (i := 21) rfl))) (Or.inr (hw _ (List.mem_of_getElem? (i := 19) rfl))) (by decide) (t := (.array .int)) (t' := (.array .int)) (by decide) (by decide)))
  have f12 := f5.wr W9
  have f13 := f6.other W9 (Ne.symm ne01)
  have f14 := V2.other W9 (Ne.symm ne_r0_b2)
  have f15 := A2.wr W9
  have Z16 : n0 ≤ h9.size := Nat.le_trans Z7 (Keep.of_wr W9).1
  have K17 := K8.wr W9 (Or.inl (List.mem_of_getElem? (i := 0) rfl))
  have N9 := Fr.snoc X9 N0 g_r0
  obtain ⟨cl18, Ar18, hl18⟩ := f13.len
  have k19 : ∀ t, Steps p.tables e below (T9.setTop (mkF m 22 #[.val (.ref r0), .val (.ref r1), .val (.int p2), .val (.ref r1), .val (.int (Int32.ofNat (6))), .val (.int (0 : Int32)), .unset] [])) t → Steps p.tables e below (s₁.setTop (mkF m 0 #[.val (.ref r0), .val (.ref r1), .val (.int p2), .unset, .unset, .unset, .unset] [])) t := by
    intro t h
    show Steps p.tables e below (s₁.setTop (mkF m 0 #[.val (.ref r0), .val (.ref r1), .val (.int p2), .unset, .unset, .unset, .unset] [])) _
    refine XS.aloadN X0.here hx rfl (hb hby own_d3_0) rfl rfl ?_
    show Steps p.tables e below (s₁.setTop (mkF m 1 #[.val (.ref r0), .val (.ref r1), .val (.int p2), .unset, .unset, .unset, .unset] [(.ref r0)])) _
    refine st1 _ ?_
    show Steps p.tables e below (T1.setTop (mkF m 4 #[.val (.ref r0), .val (.ref r1), .val (.int p2), .unset, .unset, .unset, .unset] [])) _
    refine XS.aloadN X1.here hx rfl (hb hby own_d3_4) rfl rfl ?_
    show Steps p.tables e below (T1.setTop (mkF m 5 #[.val (.ref r0), .val (.ref r1), .val (.int p2), .unset, .unset, .unset, .unset] [(.ref r0)])) _
    refine XS.iloadN X1.here hx rfl (hb hby own_d3_5) rfl ?_
    show Steps p.tables e below (T1.setTop (mkF m 6 #[.val (.ref r0), .val (.ref r1), .val (.int p2), .unset, .unset, .unset, .unset] [(.int p2), (.ref r0)])) _
    refine XS.iconst X1.here hx rfl (hb hby own_d3_6) ?_
    show Steps p.tables e below (T1.setTop (mkF m 7 #[.val (.ref r0), .val (.ref r1), .val (.int p2), .unset, .unset, .unset, .unset] [(.int (2 : Int32)), (.int p2), (.ref r0)])) _
    refine XS.iadd X1.here hx rfl (hb hby own_d3_7) rfl ?_
    show Steps p.tables e below (T1.setTop (mkF m 8 #[.val (.ref r0), .val (.ref r1), .val (.int p2), .unset, .unset, .unset, .unset] [(.int (p2 + (2 : Int32))), (.ref r0)])) _
    refine st2 _ ?_
    show Steps p.tables e below (T2.setTop (mkF m 10 #[.val (.ref r0), .val (.ref r1), .val (.int p2), .unset, .unset, .unset, .unset] [(.ref b2), (.ref r0)])) _
    refine st9 _ ?_
    show Steps p.tables e below (T9.setTop (mkF m 13 #[.val (.ref r0), .val (.ref r1), .val (.int p2), .unset, .unset, .unset, .unset] [])) _
    refine XS.aloadN X9.here hx rfl (hb hby own_d3_13) rfl rfl ?_
    show Steps p.tables e below (T9.setTop (mkF m 14 #[.val (.ref r0), .val (.ref r1), .val (.int p2), .unset, .unset, .unset, .unset] [(.ref r1)])) _
    refine XS.astoreN X9.here hx rfl (hb hby own_d3_14) rfl rfl (l' := #[.val (.ref r0), .val (.ref r1), .val (.int p2), .val (.ref r1), .unset, .unset, .unset]) rfl ?_
    show Steps p.tables e below (T9.setTop (mkF m 15 #[.val (.ref r0), .val (.ref r1), .val (.int p2), .val (.ref r1), .unset, .unset, .unset] [])) _
    refine XS.aloadN X9.here hx rfl (hb hby own_d3_15) rfl rfl ?_
    show Steps p.tables e below (T9.setTop (mkF m 16 #[.val (.ref r0), .val (.ref r1), .val (.int p2), .val (.ref r1), .unset, .unset, .unset] [(.ref r1)])) _
    refine X9.arraylength hx (by rw [e9]; exact Ar18.1) (State.isArrayOf_alike hZ.alike Ar18.2.1) (g := (mkF m 16 #[.val (.ref r0), .val (.ref r1), .val (.int p2), .val (.ref r1), .unset, .unset, .unset] [(.ref r1)])) rfl rfl (hb hby own_d3_16) _ ?_
    rw [hl18]
    show Steps p.tables e below (T9.setTop (mkF m 17 #[.val (.ref r0), .val (.ref r1), .val (.int p2), .val (.ref r1), .unset, .unset, .unset] [(.int (Int32.ofNat (6)))])) _
    refine XS.istore X9.here hx rfl (hb hby own_d3_17) rfl (l' := #[.val (.ref r0), .val (.ref r1), .val (.int p2), .val (.ref r1), .val (.int (Int32.ofNat (6))), .unset, .unset]) rfl ?_
    show Steps p.tables e below (T9.setTop (mkF m 19 #[.val (.ref r0), .val (.ref r1), .val (.int p2), .val (.ref r1), .val (.int (Int32.ofNat (6))), .unset, .unset] [])) _
    refine XS.iconst X9.here hx rfl (hb hby own_d3_19) ?_
    show Steps p.tables e below (T9.setTop (mkF m 20 #[.val (.ref r0), .val (.ref r1), .val (.int p2), .val (.ref r1), .val (.int (Int32.ofNat (6))), .unset, .unset] [(.int (0 : Int32))])) _
    refine XS.istore X9.here hx rfl (hb hby own_d3_20) rfl (l' := #[.val (.ref r0), .val (.ref r1), .val (.int p2), .val (.ref r1), .val (.int (Int32.ofNat (6))), .val (.int (0 : Int32)), .unset]) rfl ?_
    exact h
  have r20 : (0 : Int32) = (Int32.ofNat 0) := rfl
  have k21 : ∀ t, Steps p.tables e below (T9.setTop (mkF m 22 #[.val (.ref r0), .val (.ref r1), .val (.int p2), .val (.ref r1), .val (.int (Int32.ofNat (6))), .val (.int (Int32.ofNat 0)), .unset] [])) t → Steps p.tables e below (s₁.setTop (mkF m 0 #[.val (.ref r0), .val (.ref r1), .val (.int p2), .unset, .unset, .unset, .unset] [])) t := by first | (rw [← r20]; exact k19) | exact k19
  have lp22 : ∀ (d : Nat) (i : Nat) (s6 : Slot), i + d = 6 → (One s6) → ∀ (T : State) (h : Heap) (L : List Loc), Stand p l e ({ frames := 1, cells := 3, slots := 40, locals := 14 } : Room) s m #[(.ref r0), (.ref r1), (.int p2)] below meth c T L 1 17 → T.heap = h → Fr n0 L → n0 ≤ h.size → Keep h0 h [r0] → Exa Z h r0 "com/example/planwright/planwright/io/Grouping" → Fld Z h r0 "com/example/planwright/planwright/io/Grouping" "starts" "[I" (.ref b2) → Fld Z h r0 "com/example/planwright/planwright/io/Grouping" "members" "[I" .null → own_IA Z h r1 (6) (fun j => Int32.ofNat (kk j) - 1) → own_IA Z h b2 ((G + 2)) (fun j => Int32.ofNat (own_C kk i j)) → Exa Z h b2 "[I" → ∃ (T' : State) (h' : Heap) (L' : List Loc) (s6' : Slot), (One s6') ∧ Stand p l e ({ frames := 1, cells := 3, slots := 40, locals := 14 } : Room) s m #[(.ref r0), (.ref r1), (.int p2)] below meth c T' L' 1 17 ∧ T'.heap = h' ∧ Fr n0 L' ∧ n0 ≤ h'.size ∧ Keep h0 h' [r0] ∧ Exa Z h' r0 "com/example/planwright/planwright/io/Grouping" ∧ Fld Z h' r0 "com/example/planwright/planwright/io/Grouping" "starts" "[I" (.ref b2) ∧ Fld Z h' r0 "com/example/planwright/planwright/io/Grouping" "members" "[I" .null ∧ own_IA Z h' r1 (6) (fun j => Int32.ofNat (kk j) - 1) ∧ own_IA Z h' b2 ((G + 2)) (fun j => Int32.ofNat (own_C kk (6) j)) ∧ Exa Z h' b2 "[I" ∧ ∀ t, Steps p.tables e below (T'.setTop (mkF m 54 #[.val (.ref r0), .val (.ref r1), .val (.int p2), .val (.ref r1), .val (.int (Int32.ofNat (6))), .val (.int (Int32.ofNat (6))), s6'] [])) t → Steps p.tables e below (T.setTop (mkF m 22 #[.val (.ref r0), .val (.ref r1), .val (.int p2), .val (.ref r1), .val (.int (Int32.ofNat (6))), .val (.int (Int32.ofNat i)), s6] [])) t := by
    intro d
    induction d with
    | zero =>
      intro i s6 hd hs6 T h L X hE hN hZZ hK hf0 hf1 hf2 hf3 hf4 hf5
      have hi : i = 6 := by omega
      subst hi
      have k23 : ∀ t, Steps p.tables e below (T.setTop (mkF m 26 #[.val (.ref r0), .val (.ref r1), .val (.int p2), .val (.ref r1), .val (.int (Int32.ofNat (6))), .val (.int (Int32.ofNat (6))), s6] [(.int (Int32.ofNat (6))), (.int (Int32.ofNat (6)))])) t → Steps p.tables e below (T.setTop (mkF m 22 #[.val (.ref r0), .val (.ref r1), .val (.int p2), .val (.ref r1), .val (.int (Int32.ofNat (6))), .val (.int (Int32.ofNat (6))), s6] [])) t := by
        intro t h
        show Steps p.tables e below (T.setTop (mkF m 22 #[.val (.ref r0), .val (.ref r1), .val (.int p2), .val (.ref r1), .val (.int (Int32.ofNat (6))), .val (.int (Int32.ofNat (6))), s6] [])) _
        refine XS.iload X.here hx rfl (hb hby own_d3_22) rfl ?_
        show Steps p.tables e below (T.setTop (mkF m 24 #[.val (.ref r0), .val (.ref r1), .val (.int p2), .val (.ref r1), .val (.int (Int32.ofNat (6))), .val (.int (Int32.ofNat (6))), s6] [(.int (Int32.ofNat (6)))])) _
        refine XS.iload X.here hx rfl (hb hby own_d3_24) rfl ?_
        exact h
      have b26_24 : ¬ ((Int32.ofNat (6)) < (Int32.ofNat (6))) := own_nlt (by omega) (by decide)
      have k25 : ∀ t, Steps p.tables e below (T.setTop (mkF m 54 #[.val (.ref r0), .val (.ref r1), .val (.int p2), .val (.ref r1), .val (.int (Int32.ofNat (6))), .val (.int (Int32.ofNat (6))), s6] [])) t → Steps p.tables e below (T.setTop (mkF m 22 #[.val (.ref r0), .val (.ref r1), .val (.int p2), .val (.ref r1), .val (.int (Int32.ofNat (6))), .val (.int (Int32.ofNat (6))), s6] [])) t := by
        intro t h
        refine k23 t ?_
        show Steps p.tables e below (T.setTop (mkF m 26 #[.val (.ref r0), .val (.ref r1), .val (.int p2), .val (.ref r1), .val (.int (Int32.ofNat (6))), .val (.int (Int32.ofNat (6))), s6] [(.int (Int32.ofNat (6))), (.int (Int32.ofNat (6)))])) _
        refine XS.icmpYes X.here hx rfl (pc0 := 26) (pc' := 54) rfl (hb hby own_d3_26) rfl (flt b26_24).2.1 (by decide) (by decide) ?_
        exact h
      exact ⟨T, _, _, s6, hs6, X, hE, hN, hZZ, hK, hf0, hf1, hf2, hf3, hf4, hf5, k25⟩
    | succ d ih =>
      intro i s6 hd hs6 T h L X hE hN hZZ hK hf0 hf1 hf2 hf3 hf4 hf5
      have k26 : ∀ t, Steps p.tables e below (T.setTop (mkF m 26 #[.val (.ref r0), .val (.ref r1), .val (.int p2), .val (.ref r1), .val (.int (Int32.ofNat (6))), .val (.int (Int32.ofNat i)), s6] [(.int (Int32.ofNat (6))), (.int (Int32.ofNat i))])) t → Steps p.tables e below (T.setTop (mkF m 22 #[.val (.ref r0), .val (.ref r1), .val (.int p2), .val (.ref r1), .val (.int (Int32.ofNat (6))), .val (.int (Int32.ofNat i)), s6] [])) t := by
        intro t h
        show Steps p.tables e below (T.setTop (mkF m 22 #[.val (.ref r0), .val (.ref r1), .val (.int p2), .val (.ref r1), .val (.int (Int32.ofNat (6))), .val (.int (Int32.ofNat i)), s6] [])) _
        refine XS.iload X.here hx rfl (hb hby own_d3_22) rfl ?_
        show Steps p.tables e below (T.setTop (mkF m 24 #[.val (.ref r0), .val (.ref r1), .val (.int p2), .val (.ref r1), .val (.int (Int32.ofNat (6))), .val (.int (Int32.ofNat i)), s6] [(.int (Int32.ofNat i))])) _
        refine XS.iload X.here hx rfl (hb hby own_d3_24) rfl ?_
        exact h
      have b26_27 : (Int32.ofNat i) < (Int32.ofNat (6)) := own_lt (by omega) (by decide)
      obtain ⟨cl28, Ar28, hin28, hat28⟩ := own_IA.at (i := i) (j := (Int32.ofNat i)) hf3 rfl (by omega) (by decide)
      obtain ⟨T29, X29, e29, st29⟩ := getF X hx hZ hown (host := "") (Or.inl (hw _ (List.mem_of_getElem? (i := 18) rfl))) Via.refl hE hf1 (g := (mkF m 36 #[.val (.ref r0), .val (.ref r1), .val (.int p2), .val (.ref r1), .val (.int (Int32.ofNat (6))), .val (.int (Int32.ofNat i)), .val (.int (Int32.ofNat (kk i) - 1))] [(.ref r0)])) rfl rfl (hb hby own_d3_36)
      obtain ⟨cl30, Ar30, hin30, hat30⟩ := own_IA.at (i := (kk i + 1)) (j := ((Int32.ofNat (kk i) - 1) + (2 : Int32))) hf4 (own_km2 _) (by have := hk i (by omega); omega) (by omega)
      obtain ⟨cl31, Ar31, hin31, hat31⟩ := own_IA.at (i := (kk i + 1)) (j := ((Int32.ofNat (kk i) - 1) + (2 : Int32))) hf4 (own_km2 _) (by have := hk i (by omega); omega) (by omega)
      obtain ⟨T31, h31, X31, e31, W31, st31⟩ := stI X29 hx hZ e29 Ar31 (j := ((Int32.ofNat (kk i) - 1) + (2 : Int32))) hin31 (g := (mkF m 47 #[.val (.ref r0), .val (.ref r1), .val (.int p2), .val (.ref r1), .val (.int (Int32.ofNat (6))), .val (.int (Int32.ofNat i)), .val (.int (Int32.ofNat (kk i) - 1))] [(.int ((Int32.ofNat (own_C kk i (kk i + 1))) + (1 : Int32))), (.int ((Int32.ofNat (kk i) - 1) + (2 : Int32))), (.ref b2)])) rfl rfl (hb hby own_d3_47)
      have V31 := own_IA.set hf4 W31 (own_km2 _) (by have := hk i (by omega); omega) (by omega)
      have f32 := hf0.wr W31
      have f33 := hf1.other W31 (Or.inl ne_r0_b2)
      have f34 := hf2.other W31 (Or.inl ne_r0_b2)
      have f35 := hf3.other W31 ne_r1_b2
      have f36 := hf5.wr W31
      have Z37 : n0 ≤ h31.size := Nat.le_trans hZZ (Keep.of_wr W31).1
      have K38 := hK.wr W31 (Or.inr sz_b2)
      have N31 := Fr.snoc X31 hN g_b2
      have k39 : ∀ t, Steps p.tables e below (T31.setTop (mkF m 22 #[.val (.ref r0), .val (.ref r1), .val (.int p2), .val (.ref r1), .val (.int (Int32.ofNat (6))), .val (.int ((Int32.ofNat i) + (1 : Int32))), .val (.int (Int32.ofNat (kk i) - 1))] [])) t → Steps p.tables e below (T.setTop (mkF m 22 #[.val (.ref r0), .val (.ref r1), .val (.int p2), .val (.ref r1), .val (.int (Int32.ofNat (6))), .val (.int (Int32.ofNat i)), s6] [])) t := by
        intro t h
        refine k26 t ?_
        show Steps p.tables e below (T.setTop (mkF m 26 #[.val (.ref r0), .val (.ref r1), .val (.int p2), .val (.ref r1), .val (.int (Int32.ofNat (6))), .val (.int (Int32.ofNat i)), s6] [(.int (Int32.ofNat (6))), (.int (Int32.ofNat i))])) _
        refine XS.icmpNo X.here hx rfl (hb hby own_d3_26) rfl (tlt b26_27).2.1 ?_
        show Steps p.tables e below (T.setTop (mkF m 29 #[.val (.ref r0), .val (.ref r1), .val (.int p2), .val (.ref r1), .val (.int (Int32.ofNat (6))), .val (.int (Int32.ofNat i)), s6] [])) _
        refine XS.aloadN X.here hx rfl (hb hby own_d3_29) rfl rfl ?_
        show Steps p.tables e below (T.setTop (mkF m 30 #[.val (.ref r0), .val (.ref r1), .val (.int p2), .val (.ref r1), .val (.int (Int32.ofNat (6))), .val (.int (Int32.ofNat i)), s6] [(.ref r1)])) _
        refine XS.iload X.here hx rfl (hb hby own_d3_30) rfl ?_
        show Steps p.tables e below (T.setTop (mkF m 32 #[.val (.ref r0), .val (.ref r1), .val (.int p2), .val (.ref r1), .val (.int (Int32.ofNat (6))), .val (.int (Int32.ofNat i)), s6] [(.int (Int32.ofNat i)), (.ref r1)])) _
        refine X.iaload hx (j := (Int32.ofNat i)) (v := (.int (Int32.ofNat (kk i) - 1))) (by rw [hE]; exact Ar28.1) (State.isArrayOf_alike hZ.alike Ar28.2.1) Ar28.2.2 hin28 hat28 (g := (mkF m 32 #[.val (.ref r0), .val (.ref r1), .val (.int p2), .val (.ref r1), .val (.int (Int32.ofNat (6))), .val (.int (Int32.ofNat i)), s6] [(.int (Int32.ofNat i)), (.ref r1)])) rfl rfl (hb hby own_d3_32) _ ?_
        show Steps p.tables e below (T.setTop (mkF m 33 #[.val (.ref r0), .val (.ref r1), .val (.int p2), .val (.ref r1), .val (.int (Int32.ofNat (6))), .val (.int (Int32.ofNat i)), s6] [(.int (Int32.ofNat (kk i) - 1))])) _
        refine XS.istoreS X.here hx rfl (hb hby own_d3_33) rfl rfl hs6 ?_
        show Steps p.tables e below (T.setTop (mkF m 35 #[.val (.ref r0), .val (.ref r1), .val (.int p2), .val (.ref r1), .val (.int (Int32.ofNat (6))), .val (.int (Int32.ofNat i)), .val (.int (Int32.ofNat (kk i) - 1))] [])) _
        refine XS.aloadN X.here hx rfl (hb hby own_d3_35) rfl rfl ?_
        show Steps p.tables e below (T.setTop (mkF m 36 #[.val (.ref r0), .val (.ref r1), .val (.int p2), .val (.ref r1), .val (.int (Int32.ofNat (6))), .val (.int (Int32.ofNat i)), .val (.int (Int32.ofNat (kk i) - 1))] [(.ref r0)])) _
        refine st29 _ ?_
        show Steps p.tables e below (T29.setTop (mkF m 39 #[.val (.ref r0), .val (.ref r1), .val (.int p2), .val (.ref r1), .val (.int (Int32.ofNat (6))), .val (.int (Int32.ofNat i)), .val (.int (Int32.ofNat (kk i) - 1))] [(.ref b2)])) _
        refine XS.iload X29.here hx rfl (hb hby own_d3_39) rfl ?_
        show Steps p.tables e below (T29.setTop (mkF m 41 #[.val (.ref r0), .val (.ref r1), .val (.int p2), .val (.ref r1), .val (.int (Int32.ofNat (6))), .val (.int (Int32.ofNat i)), .val (.int (Int32.ofNat (kk i) - 1))] [(.int (Int32.ofNat (kk i) - 1)), (.ref b2)])) _
        refine XS.iconst X29.here hx rfl (hb hby own_d3_41) ?_
        show Steps p.tables e below (T29.setTop (mkF m 42 #[.val (.ref r0), .val (.ref r1), .val (.int p2), .val (.ref r1), .val (.int (Int32.ofNat (6))), .val (.int (Int32.ofNat i)), .val (.int (Int32.ofNat (kk i) - 1))] [(.int (2 : Int32)), (.int (Int32.ofNat (kk i) - 1)), (.ref b2)])) _
        refine XS.iadd X29.here hx rfl (hb hby own_d3_42) rfl ?_
        show Steps p.tables e below (T29.setTop (mkF m 43 #[.val (.ref r0), .val (.ref r1), .val (.int p2), .val (.ref r1), .val (.int (Int32.ofNat (6))), .val (.int (Int32.ofNat i)), .val (.int (Int32.ofNat (kk i) - 1))] [(.int ((Int32.ofNat (kk i) - 1) + (2 : Int32))), (.ref b2)])) _
        refine XT.dup2 X29.here hx rfl (hb hby own_d3_43) rfl rfl rfl ?_
        show Steps p.tables e below (T29.setTop (mkF m 44 #[.val (.ref r0), .val (.ref r1), .val (.int p2), .val (.ref r1), .val (.int (Int32.ofNat (6))), .val (.int (Int32.ofNat i)), .val (.int (Int32.ofNat (kk i) - 1))] [(.int ((Int32.ofNat (kk i) - 1) + (2 : Int32))), (.ref b2), (.int ((Int32.ofNat (kk i) - 1) + (2 : Int32))), (.ref b2)])) _
        refine X29.iaload hx (j := ((Int32.ofNat (kk i) - 1) + (2 : Int32))) (v := (.int (Int32.ofNat (own_C kk i (kk i + 1))))) (by rw [e29]; exact Ar30.1) (State.isArrayOf_alike hZ.alike Ar30.2.1) Ar30.2.2 hin30 hat30 (g := (mkF m 44 #[.val (.ref r0), .val (.ref r1), .val (.int p2), .val (.ref r1), .val (.int (Int32.ofNat (6))), .val (.int (Int32.ofNat i)), .val (.int (Int32.ofNat (kk i) - 1))] [(.int ((Int32.ofNat (kk i) - 1) + (2 : Int32))), (.ref b2), (.int ((Int32.ofNat (kk i) - 1) + (2 : Int32))), (.ref b2)])) rfl rfl (hb hby own_d3_44) _ ?_
        show Steps p.tables e below (T29.setTop (mkF m 45 #[.val (.ref r0), .val (.ref r1), .val (.int p2), .val (.ref r1), .val (.int (Int32.ofNat (6))), .val (.int (Int32.ofNat i)), .val (.int (Int32.ofNat (kk i) - 1))] [(.int (Int32.ofNat (own_C kk i (kk i + 1)))), (.int ((Int32.ofNat (kk i) - 1) + (2 : Int32))), (.ref b2)])) _
        refine XS.iconst X29.here hx rfl (hb hby own_d3_45) ?_
        show Steps p.tables e below (T29.setTop (mkF m 46 #[.val (.ref r0), .val (.ref r1), .val (.int p2), .val (.ref r1), .val (.int (Int32.ofNat (6))), .val (.int (Int32.ofNat i)), .val (.int (Int32.ofNat (kk i) - 1))] [(.int (1 : Int32)), (.int (Int32.ofNat (own_C kk i (kk i + 1)))), (.int ((Int32.ofNat (kk i) - 1) + (2 : Int32))), (.ref b2)])) _
        refine XS.iadd X29.here hx rfl (hb hby own_d3_46) rfl ?_
        show Steps p.tables e below (T29.setTop (mkF m 47 #[.val (.ref r0), .val (.ref r1), .val (.int p2), .val (.ref r1), .val (.int (Int32.ofNat (6))), .val (.int (Int32.ofNat i)), .val (.int (Int32.ofNat (kk i) - 1))] [(.int ((Int32.ofNat (own_C kk i (kk i + 1))) + (1 : Int32))), (.int ((Int32.ofNat (kk i) - 1) + (2 : Int32))), (.ref b2)])) _
        refine st31 _ ?_
        show Steps p.tables e below (T31.setTop (mkF m 48 #[.val (.ref r0), .val (.ref r1), .val (.int p2), .val (.ref r1), .val (.int (Int32.ofNat (6))), .val (.int (Int32.ofNat i)), .val (.int (Int32.ofNat (kk i) - 1))] [])) _
        refine XS.iinc X31.here hx rfl (hb hby own_d3_48) rfl (l' := #[.val (.ref r0), .val (.ref r1), .val (.int p2), .val (.ref r1), .val (.int (Int32.ofNat (6))), .val (.int ((Int32.ofNat i) + (1 : Int32))), .val (.int (Int32.ofNat (kk i) - 1))]) rfl ?_
        show Steps p.tables e below (T31.setTop (mkF m 51 #[.val (.ref r0), .val (.ref r1), .val (.int p2), .val (.ref r1), .val (.int (Int32.ofNat (6))), .val (.int ((Int32.ofNat i) + (1 : Int32))), .val (.int (Int32.ofNat (kk i) - 1))] [])) _
        refine XS.goto X31.here hx rfl (pc0 := 51) (pc' := 22) rfl (hb hby own_d3_51) (by decide) (by decide) ?_
        exact h
      have r40 : ((Int32.ofNat i) + (1 : Int32)) = (Int32.ofNat (i + 1)) := own_inc i
      have k41 : ∀ t, Steps p.tables e below (T31.setTop (mkF m 22 #[.val (.ref r0), .val (.ref r1), .val (.int p2), .val (.ref r1), .val (.int (Int32.ofNat (6))), .val (.int (Int32.ofNat (i + 1))), .val (.int (Int32.ofNat (kk i) - 1))] [])) t → Steps p.tables e below (T.setTop (mkF m 22 #[.val (.ref r0), .val (.ref r1), .val (.int p2), .val (.ref r1), .val (.int (Int32.ofNat (6))), .val (.int (Int32.ofNat i)), s6] [])) t := by first | (rw [← r40]; exact k39) | exact k39
      obtain ⟨T42, h42, L42, o42s6, ho42hs6, X42, e42, N42, Z42, K42, f42_0, f42_1, f42_2, f42_3, f42_4, f42_5, k42⟩ := ih (i + 1) (.val (.int (Int32.ofNat (kk i) - 1))) (by omega) (One.val rfl) T31 _ _ X31 e31 N31 Z37 K38 (f32) (f33) (f34) (f35) (own_IA.congr V31 (fun j _ => own_C_step kk i j)) (f36)
      exact ⟨T42, h42, L42, o42s6, ho42hs6, X42, e42, N42, Z42, K42, f42_0, f42_1, f42_2, f42_3, f42_4, f42_5, fun t q => k41 t (k42 t q)⟩
  obtain ⟨T43, h43, L43, s643, hs643, X43, e43, N43, Z43, K43, f43_0, f43_1, f43_2, f43_3, f43_4, f43_5, k43⟩ := lp22 (6) 0 .unset (by first | rfl | omega) One.u T9 _ _ X9 e9 N9 Z16 K17 (f12) (f10) (f11) (f13) (own_IA.congr f14 (fun _ _ => rfl)) (f15)
  have k44 : ∀ t, Steps p.tables e below (T43.setTop (mkF m 54 #[.val (.ref r0), .val (.ref r1), .val (.int p2), .val (.ref r1), .val (.int (Int32.ofNat (6))), .val (.int (Int32.ofNat (6))), s643] [])) t → Steps p.tables e below (s₁.setTop (mkF m 0 #[.val (.ref r0), .val (.ref r1), .val (.int p2), .unset, .unset, .unset, .unset] [])) t := fun t q => k21 t (k43 t q)
  have k45 : ∀ t, Steps p.tables e below (T43.setTop (mkF m 56 #[.val (.ref r0), .val (.ref r1), .val (.int p2), .val (.int (1 : Int32)), .val (.int (Int32.ofNat (6))), .val (.int (Int32.ofNat (6))), s643] [])) t → Steps p.tables e below (s₁.setTop (mkF m 0 #[.val (.ref r0), .val (.ref r1), .val (.int p2), .unset, .unset, .unset, .unset] [])) t := by
    intro t h
    refine k44 t ?_
    show Steps p.tables e below (T43.setTop (mkF m 54 #[.val (.ref r0), .val (.ref r1), .val (.int p2), .val (.ref r1), .val (.int (Int32.ofNat (6))), .val (.int (Int32.ofNat (6))), s643] [])) _
    refine XS.iconst X43.here hx rfl (hb hby own_d3_54) ?_
    show Steps p.tables e below (T43.setTop (mkF m 55 #[.val (.ref r0), .val (.ref r1), .val (.int p2), .val (.ref r1), .val (.int (Int32.ofNat (6))), .val (.int (Int32.ofNat (6))), s643] [(.int (1 : Int32))])) _
    refine XS.istoreN X43.here hx rfl (hb hby own_d3_55) rfl (l' := #[.val (.ref r0), .val (.ref r1), .val (.int p2), .val (.int (1 : Int32)), .val (.int (Int32.ofNat (6))), .val (.int (Int32.ofNat (6))), s643]) rfl ?_
    exact h
  have r46 : (1 : Int32) = (Int32.ofNat 1) := rfl
  have k47 : ∀ t, Steps p.tables e below (T43.setTop (mkF m 56 #[.val (.ref r0), .val (.ref r1), .val (.int p2), .val (.int (Int32.ofNat 1)), .val (.int (Int32.ofNat (6))), .val (.int (Int32.ofNat (6))), s643] [])) t → Steps p.tables e below (s₁.setTop (mkF m 0 #[.val (.ref r0), .val (.ref r1), .val (.int p2), .unset, .unset, .unset, .unset] [])) t := by first | (rw [← r46]; exact k45) | exact k45
  have lp48 : ∀ (d : Nat) (g : Nat), g + d = G + 2 → (1 ≤ g) → ∀ (T : State) (h : Heap) (L : List Loc), Stand p l e ({ frames := 1, cells := 3, slots := 40, locals := 14 } : Room) s m #[(.ref r0), (.ref r1), (.int p2)] below meth c T L 1 17 → T.heap = h → Fr n0 L → n0 ≤ h.size → Keep h0 h [r0] → Exa Z h r0 "com/example/planwright/planwright/io/Grouping" → Fld Z h r0 "com/example/planwright/planwright/io/Grouping" "starts" "[I" (.ref b2) → Fld Z h r0 "com/example/planwright/planwright/io/Grouping" "members" "[I" .null → own_IA Z h r1 (6) (fun j => Int32.ofNat (kk j) - 1) → own_IA Z h b2 ((G + 2)) (fun j => Int32.ofNat (if j < g then own_A kk 6 j else own_C kk 6 j)) → Exa Z h b2 "[I" → ∃ (T' : State) (h' : Heap) (L' : List Loc), Stand p l e ({ frames := 1, cells := 3, slots := 40, locals := 14 } : Room) s m #[(.ref r0), (.ref r1), (.int p2)] below meth c T' L' 1 17 ∧ T'.heap = h' ∧ Fr n0 L' ∧ n0 ≤ h'.size ∧ Keep h0 h' [r0] ∧ Exa Z h' r0 "com/example/planwright/planwright/io/Grouping" ∧ Fld Z h' r0 "com/example/planwright/planwright/io/Grouping" "starts" "[I" (.ref b2) ∧ Fld Z h' r0 "com/example/planwright/planwright/io/Grouping" "members" "[I" .null ∧ own_IA Z h' r1 (6) (fun j => Int32.ofNat (kk j) - 1) ∧ own_IA Z h' b2 ((G + 2)) (fun j => Int32.ofNat (if j < (G + 2) then own_A kk 6 j else own_C kk 6 j)) ∧ Exa Z h' b2 "[I" ∧ ∀ t, Steps p.tables e below (T'.setTop (mkF m 88 #[.val (.ref r0), .val (.ref r1), .val (.int p2), .val (.int (Int32.ofNat (G + 2))), .val (.int (Int32.ofNat (6))), .val (.int (Int32.ofNat (6))), s643] [])) t → Steps p.tables e below (T.setTop (mkF m 56 #[.val (.ref r0), .val (.ref r1), .val (.int p2), .val (.int (Int32.ofNat g)), .val (.int (Int32.ofNat (6))), .val (.int (Int32.ofNat (6))), s643] [])) t := by
    intro d
    induction d with
    | zero =>
      intro g hd hg1 T h L X hE hN hZZ hK hf0 hf1 hf2 hf3 hf4 hf5
      have hi : g = G + 2 := by omega
      subst hi
      obtain ⟨T49, X49, e49, st49⟩ := getF X hx hZ hown (host := "") (Or.inl (hw _ (List.mem_of_getElem? (i := 18) rfl))) Via.refl hE hf1 (g := (mkF m 58 #[.val (.ref r0), .val (.ref r1), .val (.int p2), .val (.int (Int32.ofNat (G + 2))), .val (.int (Int32.ofNat (6))), .val (.int (Int32.ofNat (6))), s643] [(.ref r0), (.int (Int32.ofNat (G + 2)))])) rfl rfl (hb hby own_d3_58)
      obtain ⟨cl50, Ar50, hl50⟩ := hf4.len
      have k51 : ∀ t, Steps p.tables e below (T49.setTop (mkF m 62 #[.val (.ref r0), .val (.ref r1), .val (.int p2), .val (.int (Int32.ofNat (G + 2))), .val (.int (Int32.ofNat (6))), .val (.int (Int32.ofNat (6))), s643] [(.int (Int32.ofNat ((G + 2)))), (.int (Int32.ofNat (G + 2)))])) t → Steps p.tables e below (T.setTop (mkF m 56 #[.val (.ref r0), .val (.ref r1), .val (.int p2), .val (.int (Int32.ofNat (G + 2))), .val (.int (Int32.ofNat (6))), .val (.int (Int32.ofNat (6))), s643] [])) t := by
        intro t h
        show Steps p.tables e below (T.setTop (mkF m 56 #[.val (.ref r0), .val (.ref r1), .val (.int p2), .val (.int (Int32.ofNat (G + 2))), .val (.int (Int32.ofNat (6))), .val (.int (Int32.ofNat (6))), s643] [])) _
        refine XS.iloadN X.here hx rfl (hb hby own_d3_56) rfl ?_
        show Steps p.tables e below (T.setTop (mkF m 57 #[.val (.ref r0), .val (.ref r1), .val (.int p2), .val (.int (Int32.ofNat (G + 2))), .val (.int (Int32.ofNat (6))), .val (.int (Int32.ofNat (6))), s643] [(.int (Int32.ofNat (G + 2)))])) _
        refine XS.aloadN X.here hx rfl (hb hby own_d3_57) rfl rfl ?_
        show Steps p.tables e below (T.setTop (mkF m 58 #[.val (.ref r0), .val (.ref r1), .val (.int p2), .val (.int (Int32.ofNat (G + 2))), .val (.int (Int32.ofNat (6))), .val (.int (Int32.ofNat (6))), s643] [(.ref r0), (.int (Int32.ofNat (G + 2)))])) _
        refine st49 _ ?_
        show Steps p.tables e below (T49.setTop (mkF m 61 #[.val (.ref r0), .val (.ref r1), .val (.int p2), .val (.int (Int32.ofNat (G + 2))), .val (.int (Int32.ofNat (6))), .val (.int (Int32.ofNat (6))), s643] [(.ref b2), (.int (Int32.ofNat (G + 2)))])) _
        refine X49.arraylength hx (by rw [e49]; exact Ar50.1) (State.isArrayOf_alike hZ.alike Ar50.2.1) (g := (mkF m 61 #[.val (.ref r0), .val (.ref r1), .val (.int p2), .val (.int (Int32.ofNat (G + 2))), .val (.int (Int32.ofNat (6))), .val (.int (Int32.ofNat (6))), s643] [(.ref b2), (.int (Int32.ofNat (G + 2)))])) rfl rfl (hb hby own_d3_61) _ ?_
        rw [hl50]
        exact h
      have b62_52 : ¬ ((Int32.ofNat (G + 2)) < (Int32.ofNat ((G + 2)))) := own_nlt (by omega) (by omega)
      have k53 : ∀ t, Steps p.tables e below (T49.setTop (mkF m 88 #[.val (.ref r0), .val (.ref r1), .val (.int p2), .val (.int (Int32.ofNat (G + 2))), .val (.int (Int32.ofNat (6))), .val (.int (Int32.ofNat (6))), s643] [])) t → Steps p.tables e below (T.setTop (mkF m 56 #[.val (.ref r0), .val (.ref r1), .val (.int p2), .val (.int (Int32.ofNat (G + 2))), .val (.int (Int32.ofNat (6))), .val (.int (Int32.ofNat (6))), s643] [])) t := by
        intro t h
        refine k51 t ?_
        show Steps p.tables e below (T49.setTop (mkF m 62 #[.val (.ref r0), .val (.ref r1), .val (.int p2), .val (.int (Int32.ofNat (G + 2))), .val (.int (Int32.ofNat (6))), .val (.int (Int32.ofNat (6))), s643] [(.int (Int32.ofNat ((G + 2)))), (.int (Int32.ofNat (G + 2)))])) _
        refine XS.icmpYes X49.here hx rfl (pc0 := 62) (pc' := 88) rfl (hb hby own_d3_62) rfl (flt b62_52).2.1 (by decide) (by decide) ?_
        exact h
      exact ⟨T49, _, _, X49, e49, hN, hZZ, hK, hf0, hf1, hf2, hf3, hf4, hf5, k53⟩
    | succ d ih =>
      intro g hd hg1 T h L X hE hN hZZ hK hf0 hf1 hf2 hf3 hf4 hf5
      obtain ⟨T54, X54, e54, st54⟩ := getF X hx hZ hown (host := "") (Or.inl (hw _ (List.mem_of_getElem? (i := 18) rfl))) Via.refl hE hf1 (g := (mkF m 58 #[.val (.ref r0), .val (.ref r1), .val (.int p2), .val (.int (Int32.ofNat g)), .val (.int (Int32.ofNat (6))), .val (.int (Int32.ofNat (6))), s643] [(.ref r0), (.int (Int32.ofNat g))])) rfl rfl (hb hby own_d3_58)
      obtain ⟨cl55, Ar55, hl55⟩ := hf4.len
      have k56 : ∀ t, Steps p.tables e below (T54.setTop (mkF m 62 #[.val (.ref r0), .val (.ref r1), .val (.int p2), .val (.int (Int32.ofNat g)), .val (.int (Int32.ofNat (6))), .val (.int (Int32.ofNat (6))), s643] [(.int (Int32.ofNat ((G + 2)))), (.int (Int32.ofNat g))])) t → Steps p.tables e below (T.setTop (mkF m 56 #[.val (.ref r0), .val (.ref r1), .val (.int p2), .val (.int (Int32.ofNat g)), .val (.int (Int32.ofNat (6))), .val (.int (Int32.ofNat (6))), s643] [])) t := by
        intro t h
        show Steps p.tables e below (T.setTop (mkF m 56 #[.val (.ref r0), .val (.ref r1), .val (.int p2), .val (.int (Int32.ofNat g)), .val (.int (Int32.ofNat (6))), .val (.int (Int32.ofNat (6))), s643] [])) _
        refine XS.iloadN X.here hx rfl (hb hby own_d3_56) rfl ?_
        show Steps p.tables e below (T.setTop (mkF m 57 #[.val (.ref r0), .val (.ref r1), .val (.int p2), .val (.int (Int32.ofNat g)), .val (.int (Int32.ofNat (6))), .val (.int (Int32.ofNat (6))), s643] [(.int (Int32.ofNat g))])) _
        refine XS.aloadN X.here hx rfl (hb hby own_d3_57) rfl rfl ?_
        show Steps p.tables e below (T.setTop (mkF m 58 #[.val (.ref r0), .val (.ref r1), .val (.int p2), .val (.int (Int32.ofNat g)), .val (.int (Int32.ofNat (6))), .val (.int (Int32.ofNat (6))), s643] [(.ref r0), (.int (Int32.ofNat g))])) _
        refine st54 _ ?_
        show Steps p.tables e below (T54.setTop (mkF m 61 #[.val (.ref r0), .val (.ref r1), .val (.int p2), .val (.int (Int32.ofNat g)), .val (.int (Int32.ofNat (6))), .val (.int (Int32.ofNat (6))), s643] [(.ref b2), (.int (Int32.ofNat g))])) _
        refine X54.arraylength hx (by rw [e54]; exact Ar55.1) (State.isArrayOf_alike hZ.alike Ar55.2.1) (g := (mkF m 61 #[.val (.ref r0), .val (.ref r1), .val (.int p2), .val (.int (Int32.ofNat g)), .val (.int (Int32.ofNat (6))), .val (.int (Int32.ofNat (6))), s643] [(.ref b2), (.int (Int32.ofNat g))])) rfl rfl (hb hby own_d3_61) _ ?_
        rw [hl55]
        exact h
      have b62_57 : (Int32.ofNat g) < (Int32.ofNat ((G + 2))) := own_lt (by omega) (by omega)
      obtain ⟨T58, X58, e58, st58⟩ := getF X54 hx hZ hown (host := "") (Or.inl (hw _ (List.mem_of_getElem? (i := 18) rfl))) Via.refl e54 hf1 (g := (mkF m 66 #[.val (.ref r0), .val (.ref r1), .val (.int p2), .val (.int (Int32.ofNat g)), .val (.int (Int32.ofNat (6))), .val (.int (Int32.ofNat (6))), s643] [(.ref r0)])) rfl rfl (hb hby own_d3_66)
      obtain ⟨cl59, Ar59, hin59, hat59⟩ := own_IA.at (i := g) (j := (Int32.ofNat g)) hf4 rfl (by omega) (by omega)
      obtain ⟨T60, X60, e60, st60⟩ := getF X58 hx hZ hown (host := "") (Or.inl (hw _ (List.mem_of_getElem? (i := 18) rfl))) Via.refl e58 hf1 (g := (mkF m 73 #[.val (.ref r0), .val (.ref r1), .val (.int p2), .val (.int (Int32.ofNat g)), .val (.int (Int32.ofNat (6))), .val (.int (Int32.ofNat (6))), s643] [(.ref r0), (.int (Int32.ofNat (if g < g then own_A kk 6 (g) else own_C kk 6 (g)))), (.int (Int32.ofNat g)), (.ref b2)])) rfl rfl (hb hby own_d3_73)
      obtain ⟨cl61, Ar61, hin61, hat61⟩ := own_IA.at (i := (g - 1)) (j := ((Int32.ofNat g) - (1 : Int32))) hf4 (own_dec hg1) (by omega) (by omega)
      obtain ⟨cl62, Ar62, hin62, hat62⟩ := own_IA.at (i := g) (j := (Int32.ofNat g)) hf4 rfl (by omega) (by omega)
      obtain ⟨T62, h62, X62, e62, W62, st62⟩ := stI X60 hx hZ e60 Ar62 (j := (Int32.ofNat g)) hin62 (g := (mkF m 81 #[.val (.ref r0), .val (.ref r1), .val (.int p2), .val (.int (Int32.ofNat g)), .val (.int (Int32.ofNat (6))), .val (.int (Int32.ofNat (6))), s643] [(.int ((Int32.ofNat (if g < g then own_A kk 6 (g) else own_C kk 6 (g))) + (Int32.ofNat (if g - 1 < g then own_A kk 6 (g - 1) else own_C kk 6 (g - 1))))), (.int (Int32.ofNat g)), (.ref b2)])) rfl rfl (hb hby own_d3_81)
      have V62 := own_IA.set hf4 W62 rfl (by omega) (by omega)
      have f63 := hf0.wr W62
      have f64 := hf1.other W62 (Or.inl ne_r0_b2)
      have f65 := hf2.other W62 (Or.inl ne_r0_b2)
      have f66 := hf3.other W62 ne_r1_b2
      have f67 := hf5.wr W62
      have Z68 : n0 ≤ h62.size := Nat.le_trans hZZ (Keep.of_wr W62).1
      have K69 := hK.wr W62 (Or.inr sz_b2)
      have N62 := Fr.snoc X62 hN g_b2
      have k70 : ∀ t, Steps p.tables e below (T62.setTop (mkF m 56 #[.val (.ref r0), .val (.ref r1), .val (.int p2), .val (.int ((Int32.ofNat g) + (1 : Int32))), .val (.int (Int32.ofNat (6))), .val (.int (Int32.ofNat (6))), s643] [])) t → Steps p.tables e below (T.setTop (mkF m 56 #[.val (.ref r0), .val (.ref r1), .val (.int p2), .val (.int (Int32.ofNat g)), .val (.int (Int32.ofNat (6))), .val (.int (Int32.ofNat (6))), s643] [])) t := by
        intro t h
        refine k56 t ?_
        show Steps p.tables e below (T54.setTop (mkF m 62 #[.val (.ref r0), .val (.ref r1), .val (.int p2), .val (.int (Int32.ofNat g)), .val (.int (Int32.ofNat (6))), .val (.int (Int32.ofNat (6))), s643] [(.int (Int32.ofNat ((G + 2)))), (.int (Int32.ofNat g))])) _
        refine XS.icmpNo X54.here hx rfl (hb hby own_d3_62) rfl (tlt b62_57).2.1 ?_
        show Steps p.tables e below (T54.setTop (mkF m 65 #[.val (.ref r0), .val (.ref r1), .val (.int p2), .val (.int (Int32.ofNat g)), .val (.int (Int32.ofNat (6))), .val (.int (Int32.ofNat (6))), s643] [])) _
        refine XS.aloadN X54.here hx rfl (hb hby own_d3_65) rfl rfl ?_
        show Steps p.tables e below (T54.setTop (mkF m 66 #[.val (.ref r0), .val (.ref r1), .val (.int p2), .val (.int (Int32.ofNat g)), .val (.int (Int32.ofNat (6))), .val (.int (Int32.ofNat (6))), s643] [(.ref r0)])) _
        refine st58 _ ?_
        show Steps p.tables e below (T58.setTop (mkF m 69 #[.val (.ref r0), .val (.ref r1), .val (.int p2), .val (.int (Int32.ofNat g)), .val (.int (Int32.ofNat (6))), .val (.int (Int32.ofNat (6))), s643] [(.ref b2)])) _
        refine XS.iloadN X58.here hx rfl (hb hby own_d3_69) rfl ?_
        show Steps p.tables e below (T58.setTop (mkF m 70 #[.val (.ref r0), .val (.ref r1), .val (.int p2), .val (.int (Int32.ofNat g)), .val (.int (Int32.ofNat (6))), .val (.int (Int32.ofNat (6))), s643] [(.int (Int32.ofNat g)), (.ref b2)])) _
        refine XT.dup2 X58.here hx rfl (hb hby own_d3_70) rfl rfl rfl ?_
        show Steps p.tables e below (T58.setTop (mkF m 71 #[.val (.ref r0), .val (.ref r1), .val (.int p2), .val (.int (Int32.ofNat g)), .val (.int (Int32.ofNat (6))), .val (.int (Int32.ofNat (6))), s643] [(.int (Int32.ofNat g)), (.ref b2), (.int (Int32.ofNat g)), (.ref b2)])) _
        refine X58.iaload hx (j := (Int32.ofNat g)) (v := (.int (Int32.ofNat (if g < g then own_A kk 6 (g) else own_C kk 6 (g))))) (by rw [e58]; exact Ar59.1) (State.isArrayOf_alike hZ.alike Ar59.2.1) Ar59.2.2 hin59 hat59 (g := (mkF m 71 #[.val (.ref r0), .val (.ref r1), .val (.int p2), .val (.int (Int32.ofNat g)), .val (.int (Int32.ofNat (6))), .val (.int (Int32.ofNat (6))), s643] [(.int (Int32.ofNat g)), (.ref b2), (.int (Int32.ofNat g)), (.ref b2)])) rfl rfl (hb hby own_d3_71) _ ?_
        show Steps p.tables e below (T58.setTop (mkF m 72 #[.val (.ref r0), .val (.ref r1), .val (.int p2), .val (.int (Int32.ofNat g)), .val (.int (Int32.ofNat (6))), .val (.int (Int32.ofNat (6))), s643] [(.int (Int32.ofNat (if g < g then own_A kk 6 (g) else own_C kk 6 (g)))), (.int (Int32.ofNat g)), (.ref b2)])) _
        refine XS.aloadN X58.here hx rfl (hb hby own_d3_72) rfl rfl ?_
        show Steps p.tables e below (T58.setTop (mkF m 73 #[.val (.ref r0), .val (.ref r1), .val (.int p2), .val (.int (Int32.ofNat g)), .val (.int (Int32.ofNat (6))), .val (.int (Int32.ofNat (6))), s643] [(.ref r0), (.int (Int32.ofNat (if g < g then own_A kk 6 (g) else own_C kk 6 (g)))), (.int (Int32.ofNat g)), (.ref b2)])) _
        refine st60 _ ?_
        show Steps p.tables e below (T60.setTop (mkF m 76 #[.val (.ref r0), .val (.ref r1), .val (.int p2), .val (.int (Int32.ofNat g)), .val (.int (Int32.ofNat (6))), .val (.int (Int32.ofNat (6))), s643] [(.ref b2), (.int (Int32.ofNat (if g < g then own_A kk 6 (g) else own_C kk 6 (g)))), (.int (Int32.ofNat g)), (.ref b2)])) _
        refine XS.iloadN X60.here hx rfl (hb hby own_d3_76) rfl ?_
        show Steps p.tables e below (T60.setTop (mkF m 77 #[.val (.ref r0), .val (.ref r1), .val (.int p2), .val (.int (Int32.ofNat g)), .val (.int (Int32.ofNat (6))), .val (.int (Int32.ofNat (6))), s643] [(.int (Int32.ofNat g)), (.ref b2), (.int (Int32.ofNat (if g < g then own_A kk 6 (g) else own_C kk 6 (g)))), (.int (Int32.ofNat g)), (.ref b2)])) _
        refine XS.iconst X60.here hx rfl (hb hby own_d3_77) ?_
        show Steps p.tables e below (T60.setTop (mkF m 78 #[.val (.ref r0), .val (.ref r1), .val (.int p2), .val (.int (Int32.ofNat g)), .val (.int (Int32.ofNat (6))), .val (.int (Int32.ofNat (6))), s643] [(.int (1 : Int32)), (.int (Int32.ofNat g)), (.ref b2), (.int (Int32.ofNat (if g < g then own_A kk 6 (g) else own_C kk 6 (g)))), (.int (Int32.ofNat g)), (.ref b2)])) _
        refine XS.isub X60.here hx rfl (hb hby own_d3_78) rfl ?_
        show Steps p.tables e below (T60.setTop (mkF m 79 #[.val (.ref r0), .val (.ref r1), .val (.int p2), .val (.int (Int32.ofNat g)), .val (.int (Int32.ofNat (6))), .val (.int (Int32.ofNat (6))), s643] [(.int ((Int32.ofNat g) - (1 : Int32))), (.ref b2), (.int (Int32.ofNat (if g < g then own_A kk 6 (g) else own_C kk 6 (g)))), (.int (Int32.ofNat g)), (.ref b2)])) _
        refine X60.iaload hx (j := ((Int32.ofNat g) - (1 : Int32))) (v := (.int (Int32.ofNat (if g - 1 < g then own_A kk 6 (g - 1) else own_C kk 6 (g - 1))))) (by rw [e60]; exact Ar61.1) (State.isArrayOf_alike hZ.alike Ar61.2.1) Ar61.2.2 hin61 hat61 (g := (mkF m 79 #[.val (.ref r0), .val (.ref r1), .val (.int p2), .val (.int (Int32.ofNat g)), .val (.int (Int32.ofNat (6))), .val (.int (Int32.ofNat (6))), s643] [(.int ((Int32.ofNat g) - (1 : Int32))), (.ref b2), (.int (Int32.ofNat (if g < g then own_A kk 6 (g) else own_C kk 6 (g)))), (.int (Int32.ofNat g)), (.ref b2)])) rfl rfl (hb hby own_d3_79) _ ?_
        show Steps p.tables e below (T60.setTop (mkF m 80 #[.val (.ref r0), .val (.ref r1), .val (.int p2), .val (.int (Int32.ofNat g)), .val (.int (Int32.ofNat (6))), .val (.int (Int32.ofNat (6))), s643] [(.int (Int32.ofNat (if g - 1 < g then own_A kk 6 (g - 1) else own_C kk 6 (g - 1)))), (.int (Int32.ofNat (if g < g then own_A kk 6 (g) else own_C kk 6 (g)))), (.int (Int32.ofNat g)), (.ref b2)])) _
        refine XS.iadd X60.here hx rfl (hb hby own_d3_80) rfl ?_
        show Steps p.tables e below (T60.setTop (mkF m 81 #[.val (.ref r0), .val (.ref r1), .val (.int p2), .val (.int (Int32.ofNat g)), .val (.int (Int32.ofNat (6))), .val (.int (Int32.ofNat (6))), s643] [(.int ((Int32.ofNat (if g < g then own_A kk 6 (g) else own_C kk 6 (g))) + (Int32.ofNat (if g - 1 < g then own_A kk 6 (g - 1) else own_C kk 6 (g - 1))))), (.int (Int32.ofNat g)), (.ref b2)])) _
        refine st62 _ ?_
        show Steps p.tables e below (T62.setTop (mkF m 82 #[.val (.ref r0), .val (.ref r1), .val (.int p2), .val (.int (Int32.ofNat g)), .val (.int (Int32.ofNat (6))), .val (.int (Int32.ofNat (6))), s643] [])) _
        refine XS.iinc X62.here hx rfl (hb hby own_d3_82) rfl (l' := #[.val (.ref r0), .val (.ref r1), .val (.int p2), .val (.int ((Int32.ofNat g) + (1 : Int32))), .val (.int (Int32.ofNat (6))), .val (.int (Int32.ofNat (6))), s643]) rfl ?_
        show Steps p.tables e below (T62.setTop (mkF m 85 #[.val (.ref r0), .val (.ref r1), .val (.int p2), .val (.int ((Int32.ofNat g) + (1 : Int32))), .val (.int (Int32.ofNat (6))), .val (.int (Int32.ofNat (6))), s643] [])) _
        refine XS.goto X62.here hx rfl (pc0 := 85) (pc' := 56) rfl (hb hby own_d3_85) (by decide) (by decide) ?_
        exact h
      have r71 : ((Int32.ofNat g) + (1 : Int32)) = (Int32.ofNat (g + 1)) := own_inc g
      have k72 : ∀ t, Steps p.tables e below (T62.setTop (mkF m 56 #[.val (.ref r0), .val (.ref r1), .val (.int p2), .val (.int (Int32.ofNat (g + 1))), .val (.int (Int32.ofNat (6))), .val (.int (Int32.ofNat (6))), s643] [])) t → Steps p.tables e below (T.setTop (mkF m 56 #[.val (.ref r0), .val (.ref r1), .val (.int p2), .val (.int (Int32.ofNat g)), .val (.int (Int32.ofNat (6))), .val (.int (Int32.ofNat (6))), s643] [])) t := by first | (rw [← r71]; exact k70) | exact k70
      obtain ⟨T73, h73, L73, X73, e73, N73, Z73, K73, f73_0, f73_1, f73_2, f73_3, f73_4, f73_5, k73⟩ := ih (g + 1) (by omega) (by omega) T62 _ _ X62 e62 N62 Z68 K69 (f63) (f64) (f65) (f66) (own_IA.congr V62 (fun j _ => own_P_step kk 6 g j hg1)) (f67)
      exact ⟨T73, h73, L73, X73, e73, N73, Z73, K73, f73_0, f73_1, f73_2, f73_3, f73_4, f73_5, fun t q => k72 t (k73 t q)⟩
  obtain ⟨T74, h74, L74, X74, e74, N74, Z74, K74, f74_0, f74_1, f74_2, f74_3, f74_4, f74_5, k74⟩ := lp48 (G + 1) 1 (by first | rfl | omega) (Nat.le_refl 1) T43 _ _ X43 e43 N43 Z43 K43 (f43_0) (f43_1) (f43_2) (f43_3) (own_IA.congr f43_4 (fun j _ => own_P_init kk 6 j)) (f43_5)
  have k75 : ∀ t, Steps p.tables e below (T74.setTop (mkF m 88 #[.val (.ref r0), .val (.ref r1), .val (.int p2), .val (.int (Int32.ofNat (G + 2))), .val (.int (Int32.ofNat (6))), .val (.int (Int32.ofNat (6))), s643] [])) t → Steps p.tables e below (s₁.setTop (mkF m 0 #[.val (.ref r0), .val (.ref r1), .val (.int p2), .unset, .unset, .unset, .unset] [])) t := fun t q => k47 t (k74 t q)
  have f76 := own_IA.congr (g := fun j => Int32.ofNat (own_A kk 6 j)) f74_4 (fun j hj => own_P_end kk 6 _ j hj)
  obtain ⟨cl77, Ar77, hl77⟩ := f74_3.len
  obtain ⟨T78, h78, X78, e78, E78, V78, A78, st78⟩ := own_newI X74 hx hZ (hw _ (List.mem_of_getElem? (i := 0) rfl)) e74 (g := (mkF m 91 #[.val (.ref r0), .val (.ref r1), .val (.int p2), .val (.int (Int32.ofNat (G + 2))), .val (.int (Int32.ofNat (6))), .val (.int (Int32.ofNat (6))), s643] [(.int (Int32.ofNat (6))), (.ref r0)])) rfl (hb hby own_d3_91) rfl (nn := 6) (cap := 6) rfl (by decide) (by decide) (by decide) (by decide)
  obtain ⟨b78, g78⟩ : ∃ z, z = h74.size := ⟨_, rfl⟩
  rw [← g78] at V78 A78 st78
  have ne_r0_b78 : r0 ≠ b78 := Nat.ne_of_lt (Nat.lt_of_lt_of_le f74_0.lt (Nat.le_of_eq g78.symm))
  have ne_r1_b78 : r1 ≠ b78 := Nat.ne_of_lt (Nat.lt_of_lt_of_le f74_3.lt (Nat.le_of_eq g78.symm))
  have ne_b2_b78 : b2 ≠ b78 := Nat.ne_of_lt (Nat.lt_of_lt_of_le f76.lt (Nat.le_of_eq g78.symm))
  have g_b78 : n0 ≤ b78 := Nat.le_trans Z74 (Nat.le_of_eq g78.symm)
  have sz_b78 : h0.size ≤ b78 := Nat.le_trans K74.1 (Nat.le_of_eq g78.symm)
  have f79 := f74_0.ext E78
  have f80 := f74_1.ext E78
  have f81 := f74_2.ext E78
  have f82 := f74_3.ext E78
  have f83 := f76.ext E78
  have f84 := f74_5.ext E78
  have Z85 : n0 ≤ h78.size := Nat.le_trans Z74 E78.1
  have K86 := K74.ext E78
  obtain ⟨T87, h87, X87, e87, W87, st87⟩ := putF X78 hx hZ hown (host := "") (Or.inl (hw _ (List.mem_of_getElem? (i := 20) rfl))) Via.refl e78 f81 f79 (Or.inr ⟨(hw _ (List.mem_of_getElem? (i := 21) rfl)), rfl, hnm⟩) (hw _ (List.mem_of_getElem? (i := 10) rfl)) (ty := (.array .int)) (by decide) rfl rfl (g := (mkF m 93 #[.val (.ref r0), .val (.ref r1), .val (.int p2), .val (.int (Int32.ofNat (G + 2))), .val (.int (Int32.ofNat (6))), .val (.int (Int32.ofNat (6))), s643] [(.ref b78), (.ref r0)])) rfl rfl (hb hby own_d3_93)
  have f88 := f81.same W87
  have f89 := f79.wr W87
  have f90 := f80.other W87 (Or.inr (slot_ne (Or.inr (hw _ (List.mem_of_getElem? (i := 19) rfl))) (Or.inr (hw _ (List.mem_of_getElem? (i := 21) rfl))) (by decide) (t := (.array .int)) (t' := (.array .int)) (by decide) (by decide)))
  have f91 := f82.other W87 (Ne.symm ne01)
  have f92 := f83.other W87 (Ne.symm ne_r0_b2)
  have f93 := f84.wr W87
  have f94 := V78.other W87 (Ne.symm ne_r0_b78)
  have f95 := A78.wr W87
  have Z96 : n0 ≤ h87.size := Nat.le_trans Z85 (Keep.of_wr W87).1
  have K97 := K86.wr W87 (Or.inl (List.mem_of_getElem? (i := 0) rfl))
  have N87 := Fr.snoc X87 N74 g_r0
  obtain ⟨T98, X98, e98, st98⟩ := getF X87 hx hZ hown (host := "") (Or.inl (hw _ (List.mem_of_getElem? (i := 18) rfl))) Via.refl e87 f90 (g := (mkF m 97 #[.val (.ref r0), .val (.ref r1), .val (.int p2), .val (.int (Int32.ofNat (G + 2))), .val (.int (Int32.ofNat (6))), .val (.int (Int32.ofNat (6))), s643] [(.ref r0)])) rfl rfl (hb hby own_d3_97)
  obtain ⟨T99, h99, X99, e99, E99, V99, A99, st99⟩ := own_cloneI X98 hx hZ hown (hw _ (List.mem_of_getElem? (i := 22) rfl)) (hw _ (List.mem_of_getElem? (i := 23) rfl)) (hw _ (List.mem_of_getElem? (i := 27) rfl)) (hw _ (List.mem_of_getElem? (i := 25) rfl)) (hw _ (List.mem_of_getElem? (i := 26) rfl)) (hw _ (List.mem_of_getElem? (i := 28) rfl)) e98 f92 f93 (g := (mkF m 100 #[.val (.ref r0), .val (.ref r1), .val (.int p2), .val (.int (Int32.ofNat (G + 2))), .val (.int (Int32.ofNat (6))), .val (.int (Int32.ofNat (6))), s643] [(.ref b2)])) rfl (by rw [hml]; rfl) rfl (hb hby own_d3_100) (by decide) (W := 0) (cap := 17) (by show 2 * 0 + _ ≤ _; exact Nat.le_of_eq rfl) (by decide) (by omega) (by decide) (by decide)
  obtain ⟨b99, g99⟩ : ∃ z, z = h87.size := ⟨_, rfl⟩
  rw [← g99] at V99 A99 st99
  have ne_r0_b99 : r0 ≠ b99 := Nat.ne_of_lt (Nat.lt_of_lt_of_le f89.lt (Nat.le_of_eq g99.symm))
  have ne_r1_b99 : r1 ≠ b99 := Nat.ne_of_lt (Nat.lt_of_lt_of_le f91.lt (Nat.le_of_eq g99.symm))
  have ne_b2_b99 : b2 ≠ b99 := Nat.ne_of_lt (Nat.lt_of_lt_of_le f92.lt (Nat.le_of_eq g99.symm))
  have ne_b78_b99 : b78 ≠ b99 := Nat.ne_of_lt (Nat.lt_of_lt_of_le f94.lt (Nat.le_of_eq g99.symm))
  have g_b99 : n0 ≤ b99 := Nat.le_trans Z96 (Nat.le_of_eq g99.symm)
  have sz_b99 : h0.size ≤ b99 := Nat.le_trans K97.1 (Nat.le_of_eq g99.symm)
  have f100 := f89.ext E99
  have f101 := f90.ext E99
  have f102 := f91.ext E99
  have f103 := f92.ext E99
  have f104 := f93.ext E99
  have f105 := f94.ext E99
  have f106 := f95.ext E99
  have f107 := f88.ext E99
  have Z108 : n0 ≤ h99.size := Nat.le_trans Z96 E99.1
  have K109 := K97.ext E99
  obtain ⟨T110, X110, e110, st110⟩ := castY X99 hx hZ hown (hw _ (List.mem_of_getElem? (i := 29) rfl)) e99 (Ins.self A99) (g := (mkF m 103 #[.val (.ref r0), .val (.ref r1), .val (.int p2), .val (.int (Int32.ofNat (G + 2))), .val (.int (Int32.ofNat (6))), .val (.int (Int32.ofNat (6))), s643] [(.ref b99)])) rfl rfl (hb hby own_d3_103)
  have k111 : ∀ t, Steps p.tables e below (T110.setTop (mkF m 110 #[.val (.ref r0), .val (.ref r1), .val (.int p2), .val (.ref b99), .val (.int (0 : Int32)), .val (.int (Int32.ofNat (6))), s643] [])) t → Steps p.tables e below (s₁.setTop (mkF m 0 #[.val (.ref r0), .val (.ref r1), .val (.int p2), .unset, .unset, .unset, .unset] [])) t := by
    intro t h
    refine k75 t ?_
    show Steps p.tables e below (T74.setTop (mkF m 88 #[.val (.ref r0), .val (.ref r1), .val (.int p2), .val (.int (Int32.ofNat (G + 2))), .val (.int (Int32.ofNat (6))), .val (.int (Int32.ofNat (6))), s643] [])) _
    refine XS.aloadN X74.here hx rfl (hb hby own_d3_88) rfl rfl ?_
    show Steps p.tables e below (T74.setTop (mkF m 89 #[.val (.ref r0), .val (.ref r1), .val (.int p2), .val (.int (Int32.ofNat (G + 2))), .val (.int (Int32.ofNat (6))), .val (.int (Int32.ofNat (6))), s643] [(.ref r0)])) _
    refine XS.aloadN X74.here hx rfl (hb hby own_d3_89) rfl rfl ?_
    show Steps p.tables e below (T74.setTop (mkF m 90 #[.val (.ref r0), .val (.ref r1), .val (.int p2), .val (.int (Int32.ofNat (G + 2))), .val (.int (Int32.ofNat (6))), .val (.int (Int32.ofNat (6))), s643] [(.ref r1), (.ref r0)])) _
    refine X74.arraylength hx (by rw [e74]; exact Ar77.1) (State.isArrayOf_alike hZ.alike Ar77.2.1) (g := (mkF m 90 #[.val (.ref r0), .val (.ref r1), .val (.int p2), .val (.int (Int32.ofNat (G + 2))), .val (.int (Int32.ofNat (6))), .val (.int (Int32.ofNat (6))), s643] [(.ref r1), (.ref r0)])) rfl rfl (hb hby own_d3_90) _ ?_
    rw [hl77]
    show Steps p.tables e below (T74.setTop (mkF m 91 #[.val (.ref r0), .val (.ref r1), .val (.int p2), .val (.int (Int32.ofNat (G + 2))), .val (.int (Int32.ofNat (6))), .val (.int (Int32.ofNat (6))), s643] [(.int (Int32.ofNat (6))), (.ref r0)])) _
    refine st78 _ ?_
    show Steps p.tables e below (T78.setTop (mkF m 93 #[.val (.ref r0), .val (.ref r1), .val (.int p2), .val (.int (Int32.ofNat (G + 2))), .val (.int (Int32.ofNat (6))), .val (.int (Int32.ofNat (6))), s643] [(.ref b78), (.ref r0)])) _
    refine st87 _ ?_
    show Steps p.tables e below (T87.setTop (mkF m 96 #[.val (.ref r0), .val (.ref r1), .val (.int p2), .val (.int (Int32.ofNat (G + 2))), .val (.int (Int32.ofNat (6))), .val (.int (Int32.ofNat (6))), s643] [])) _
    refine XS.aloadN X87.here hx rfl (hb hby own_d3_96) rfl rfl ?_
    show Steps p.tables e below (T87.setTop (mkF m 97 #[.val (.ref r0), .val (.ref r1), .val (.int p2), .val (.int (Int32.ofNat (G + 2))), .val (.int (Int32.ofNat (6))), .val (.int (Int32.ofNat (6))), s643] [(.ref r0)])) _
    refine st98 _ ?_
    show Steps p.tables e below (T98.setTop (mkF m 100 #[.val (.ref r0), .val (.ref r1), .val (.int p2), .val (.int (Int32.ofNat (G + 2))), .val (.int (Int32.ofNat (6))), .val (.int (Int32.ofNat (6))), s643] [(.ref b2)])) _
    refine st99 _ ?_
    show Steps p.tables e below (T99.setTop (mkF m 103 #[.val (.ref r0), .val (.ref r1), .val (.int p2), .val (.int (Int32.ofNat (G + 2))), .val (.int (Int32.ofNat (6))), .val (.int (Int32.ofNat (6))), s643] [(.ref b99)])) _
    refine st110 _ ?_
    show Steps p.tables e below (T110.setTop (mkF m 106 #[.val (.ref r0), .val (.ref r1), .val (.int p2), .val (.int (Int32.ofNat (G + 2))), .val (.int (Int32.ofNat (6))), .val (.int (Int32.ofNat (6))), s643] [(.ref b99)])) _
    refine XS.astoreN X110.here hx rfl (hb hby own_d3_106) rfl rfl (l' := #[.val (.ref r0), .val (.ref r1), .val (.int p2), .val (.ref b99), .val (.int (Int32.ofNat (6))), .val (.int (Int32.ofNat (6))), s643]) rfl ?_
    show Steps p.tables e below (T110.setTop (mkF m 107 #[.val (.ref r0), .val (.ref r1), .val (.int p2), .val (.ref b99), .val (.int (Int32.ofNat (6))), .val (.int (Int32.ofNat (6))), s643] [])) _
    refine XS.iconst X110.here hx rfl (hb hby own_d3_107) ?_
    show Steps p.tables e below (T110.setTop (mkF m 108 #[.val (.ref r0), .val (.ref r1), .val (.int p2), .val (.ref b99), .val (.int (Int32.ofNat (6))), .val (.int (Int32.ofNat (6))), s643] [(.int (0 : Int32))])) _
    refine XS.istore X110.here hx rfl (hb hby own_d3_108) rfl (l' := #[.val (.ref r0), .val (.ref r1), .val (.int p2), .val (.ref b99), .val (.int (0 : Int32)), .val (.int (Int32.ofNat (6))), s643]) rfl ?_
    exact h
  have r112 : (0 : Int32) = (Int32.ofNat 0) := rfl
  have k113 : ∀ t, Steps p.tables e below (T110.setTop (mkF m 110 #[.val (.ref r0), .val (.ref r1), .val (.int p2), .val (.ref b99), .val (.int (Int32.ofNat 0)), .val (.int (Int32.ofNat (6))), s643] [])) t → Steps p.tables e below (s₁.setTop (mkF m 0 #[.val (.ref r0), .val (.ref r1), .val (.int p2), .unset, .unset, .unset, .unset] [])) t := by first | (rw [← r112]; exact k111) | exact k111
  have lp114 : ∀ (d : Nat) (u : Nat), u + d = 6 → ∀ (T : State) (h : Heap) (L : List Loc), Stand p l e ({ frames := 1, cells := 3, slots := 40, locals := 14 } : Room) s m #[(.ref r0), (.ref r1), (.int p2)] below meth c T L 3 40 → T.heap = h → Fr n0 L → n0 ≤ h.size → Keep h0 h [r0] → Exa Z h r0 "com/example/planwright/planwright/io/Grouping" → Fld Z h r0 "com/example/planwright/planwright/io/Grouping" "starts" "[I" (.ref b2) → Fld Z h r0 "com/example/planwright/planwright/io/Grouping" "members" "[I" (.ref b78) → own_IA Z h r1 (6) (fun j => Int32.ofNat (kk j) - 1) → own_IA Z h b2 ((G + 2)) (fun j => Int32.ofNat (own_A kk 6 j)) → own_IA Z h b78 (6) (fun j => Int32.ofNat (own_M kk 6 u j)) → own_IA Z h b99 ((G + 2)) (fun j => Int32.ofNat (own_A kk 6 j + own_B kk u j)) → ∃ (T' : State) (h' : Heap) (L' : List Loc), Stand p l e ({ frames := 1, cells := 3, slots := 40, locals := 14 } : Room) s m #[(.ref r0), (.ref r1), (.int p2)] below meth c T' L' 3 40 ∧ T'.heap = h' ∧ Fr n0 L' ∧ n0 ≤ h'.size ∧ Keep h0 h' [r0] ∧ Exa Z h' r0 "com/example/planwright/planwright/io/Grouping" ∧ Fld Z h' r0 "com/example/planwright/planwright/io/Grouping" "starts" "[I" (.ref b2) ∧ Fld Z h' r0 "com/example/planwright/planwright/io/Grouping" "members" "[I" (.ref b78) ∧ own_IA Z h' r1 (6) (fun j => Int32.ofNat (kk j) - 1) ∧ own_IA Z h' b2 ((G + 2)) (fun j => Int32.ofNat (own_A kk 6 j)) ∧ own_IA Z h' b78 (6) (fun j => Int32.ofNat (own_M kk 6 (6) j)) ∧ own_IA Z h' b99 ((G + 2)) (fun j => Int32.ofNat (own_A kk 6 j + own_B kk (6) j)) ∧ ∀ t, Steps p.tables e below (T'.setTop (mkF m 143 #[.val (.ref r0), .val (.ref r1), .val (.int p2), .val (.ref b99), .val (.int (Int32.ofNat (6))), .val (.int (Int32.ofNat (6))), s643] [])) t → Steps p.tables e below (T.setTop (mkF m 110 #[.val (.ref r0), .val (.ref r1), .val (.int p2), .val (.ref b99), .val (.int (Int32.ofNat u)), .val (.int (Int32.ofNat (6))), s643] [])) t := by
    intro d
    induction d with
    | zero =>
      intro u hd  T h L X hE hN hZZ hK hf0 hf1 hf2 hf3 hf4 hf5 hf6
      have hi : u = 6 := by omega
      subst hi
      obtain ⟨cl115, Ar115, hl115⟩ := hf3.len
      have k116 : ∀ t, Steps p.tables e below (T.setTop (mkF m 114 #[.val (.ref r0), .val (.ref r1), .val (.int p2), .val (.ref b99), .val (.int (Int32.ofNat (6))), .val (.int (Int32.ofNat (6))), s643] [(.int (Int32.ofNat (6))), (.int (Int32.ofNat (6)))])) t → Steps p.tables e below (T.setTop (mkF m 110 #[.val (.ref r0), .val (.ref r1), .val (.int p2), .val (.ref b99), .val (.int (Int32.ofNat (6))), .val (.int (Int32.ofNat (6))), s643] [])) t := by
        intro t h
        show Steps p.tables e below (T.setTop (mkF m 110 #[.val (.ref r0), .val (.ref r1), .val (.int p2), .val (.ref b99), .val (.int (Int32.ofNat (6))), .val (.int (Int32.ofNat (6))), s643] [])) _
        refine XS.iload X.here hx rfl (hb hby own_d3_110) rfl ?_
        show Steps p.tables e below (T.setTop (mkF m 112 #[.val (.ref r0), .val (.ref r1), .val (.int p2), .val (.ref b99), .val (.int (Int32.ofNat (6))), .val (.int (Int32.ofNat (6))), s643] [(.int (Int32.ofNat (6)))])) _
        refine XS.aloadN X.here hx rfl (hb hby own_d3_112) rfl rfl ?_
        show Steps p.tables e below (T.setTop (mkF m 113 #[.val (.ref r0), .val (.ref r1), .val (.int p2), .val (.ref b99), .val (.int (Int32.ofNat (6))), .val (.int (Int32.ofNat (6))), s643] [(.ref r1), (.int (Int32.ofNat (6)))])) _
        refine X.arraylength hx (by rw [hE]; exact Ar115.1) (State.isArrayOf_alike hZ.alike Ar115.2.1) (g := (mkF m 113 #[.val (.ref r0), .val (.ref r1), .val (.int p2), .val (.ref b99), .val (.int (Int32.ofNat (6))), .val (.int (Int32.ofNat (6))), s643] [(.ref r1), (.int (Int32.ofNat (6)))])) rfl rfl (hb hby own_d3_113) _ ?_
        rw [hl115]
        exact h
      have b114_117 : ¬ ((Int32.ofNat (6)) < (Int32.ofNat (6))) := own_nlt (by omega) (by decide)
      have k118 : ∀ t, Steps p.tables e below (T.setTop (mkF m 143 #[.val (.ref r0), .val (.ref r1), .val (.int p2), .val (.ref b99), .val (.int (Int32.ofNat (6))), .val (.int (Int32.ofNat (6))), s643] [])) t → Steps p.tables e below (T.setTop (mkF m 110 #[.val (.ref r0), .val (.ref r1), .val (.int p2), .val (.ref b99), .val (.int (Int32.ofNat (6))), .val (.int (Int32.ofNat (6))), s643] [])) t := by
        intro t h
        refine k116 t ?_
        show Steps p.tables e below (T.setTop (mkF m 114 #[.val (.ref r0), .val (.ref r1), .val (.int p2), .val (.ref b99), .val (.int (Int32.ofNat (6))), .val (.int (Int32.ofNat (6))), s643] [(.int (Int32.ofNat (6))), (.int (Int32.ofNat (6)))])) _
        refine XS.icmpYes X.here hx rfl (pc0 := 114) (pc' := 143) rfl (hb hby own_d3_114) rfl (flt b114_117).2.1 (by decide) (by decide) ?_
        exact h
      exact ⟨T, _, _, X, hE, hN, hZZ, hK, hf0, hf1, hf2, hf3, hf4, hf5, hf6, k118⟩
    | succ d ih =>
      intro u hd  T h L X hE hN hZZ hK hf0 hf1 hf2 hf3 hf4 hf5 hf6
      obtain ⟨cl119, Ar119, hl119⟩ := hf3.len
      have k120 : ∀ t, Steps p.tables e below (T.setTop (mkF m 114 #[.val (.ref r0), .val (.ref r1), .val (.int p2), .val (.ref b99), .val (.int (Int32.ofNat u)), .val (.int (Int32.ofNat (6))), s643] [(.int (Int32.ofNat (6))), (.int (Int32.ofNat u))])) t → Steps p.tables e below (T.setTop (mkF m 110 #[.val (.ref r0), .val (.ref r1), .val (.int p2), .val (.ref b99), .val (.int (Int32.ofNat u)), .val (.int (Int32.ofNat (6))), s643] [])) t := by
        intro t h
        show Steps p.tables e below (T.setTop (mkF m 110 #[.val (.ref r0), .val (.ref r1), .val (.int p2), .val (.ref b99), .val (.int (Int32.ofNat u)), .val (.int (Int32.ofNat (6))), s643] [])) _
        refine XS.iload X.here hx rfl (hb hby own_d3_110) rfl ?_
        show Steps p.tables e below (T.setTop (mkF m 112 #[.val (.ref r0), .val (.ref r1), .val (.int p2), .val (.ref b99), .val (.int (Int32.ofNat u)), .val (.int (Int32.ofNat (6))), s643] [(.int (Int32.ofNat u))])) _
        refine XS.aloadN X.here hx rfl (hb hby own_d3_112) rfl rfl ?_
        show Steps p.tables e below (T.setTop (mkF m 113 #[.val (.ref r0), .val (.ref r1), .val (.int p2), .val (.ref b99), .val (.int (Int32.ofNat u)), .val (.int (Int32.ofNat (6))), s643] [(.ref r1), (.int (Int32.ofNat u))])) _
        refine X.arraylength hx (by rw [hE]; exact Ar119.1) (State.isArrayOf_alike hZ.alike Ar119.2.1) (g := (mkF m 113 #[.val (.ref r0), .val (.ref r1), .val (.int p2), .val (.ref b99), .val (.int (Int32.ofNat u)), .val (.int (Int32.ofNat (6))), s643] [(.ref r1), (.int (Int32.ofNat u))])) rfl rfl (hb hby own_d3_113) _ ?_
        rw [hl119]
        exact h
      have b114_121 : (Int32.ofNat u) < (Int32.ofNat (6)) := own_lt (by omega) (by decide)
      obtain ⟨T122, X122, e122, st122⟩ := getF X hx hZ hown (host := "") (Or.inl (hw _ (List.mem_of_getElem? (i := 20) rfl))) Via.refl hE hf2 (g := (mkF m 118 #[.val (.ref r0), .val (.ref r1), .val (.int p2), .val (.ref b99), .val (.int (Int32.ofNat u)), .val (.int (Int32.ofNat (6))), s643] [(.ref r0)])) rfl rfl (hb hby own_d3_118)
      obtain ⟨cl123, Ar123, hin123, hat123⟩ := own_IA.at (i := u) (j := (Int32.ofNat u)) hf3 rfl (by omega) (by decide)
      have k124 : ∀ t, Steps p.tables e below (T122.setTop (mkF m 128 #[.val (.ref r0), .val (.ref r1), .val (.int p2), .val (.ref b99), .val (.int (Int32.ofNat u)), .val (.int (Int32.ofNat (6))), s643] [(.int ((Int32.ofNat (kk u) - 1) + (1 : Int32))), (.ref b99), (.ref b78)])) t → Steps p.tables e below (T.setTop (mkF m 110 #[.val (.ref r0), .val (.ref r1), .val (.int p2), .val (.ref b99), .val (.int (Int32.ofNat u)), .val (.int (Int32.ofNat (6))), s643] [])) t := by
        intro t h
        refine k120 t ?_
        show Steps p.tables e below (T.setTop (mkF m 114 #[.val (.ref r0), .val (.ref r1), .val (.int p2), .val (.ref b99), .val (.int (Int32.ofNat u)), .val (.int (Int32.ofNat (6))), s643] [(.int (Int32.ofNat (6))), (.int (Int32.ofNat u))])) _
        refine XS.icmpNo X.here hx rfl (hb hby own_d3_114) rfl (tlt b114_121).2.1 ?_
        show Steps p.tables e below (T.setTop (mkF m 117 #[.val (.ref r0), .val (.ref r1), .val (.int p2), .val (.ref b99), .val (.int (Int32.ofNat u)), .val (.int (Int32.ofNat (6))), s643] [])) _
        refine XS.aloadN X.here hx rfl (hb hby own_d3_117) rfl rfl ?_
        show Steps p.tables e below (T.setTop (mkF m 118 #[.val (.ref r0), .val (.ref r1), .val (.int p2), .val (.ref b99), .val (.int (Int32.ofNat u)), .val (.int (Int32.ofNat (6))), s643] [(.ref r0)])) _
        refine st122 _ ?_
        show Steps p.tables e below (T122.setTop (mkF m 121 #[.val (.ref r0), .val (.ref r1), .val (.int p2), .val (.ref b99), .val (.int (Int32.ofNat u)), .val (.int (Int32.ofNat (6))), s643] [(.ref b78)])) _
        refine XS.aloadN X122.here hx rfl (hb hby own_d3_121) rfl rfl ?_
        show Steps p.tables e below (T122.setTop (mkF m 122 #[.val (.ref r0), .val (.ref r1), .val (.int p2), .val (.ref b99), .val (.int (Int32.ofNat u)), .val (.int (Int32.ofNat (6))), s643] [(.ref b99), (.ref b78)])) _
        refine XS.aloadN X122.here hx rfl (hb hby own_d3_122) rfl rfl ?_
        show Steps p.tables e below (T122.setTop (mkF m 123 #[.val (.ref r0), .val (.ref r1), .val (.int p2), .val (.ref b99), .val (.int (Int32.ofNat u)), .val (.int (Int32.ofNat (6))), s643] [(.ref r1), (.ref b99), (.ref b78)])) _
        refine XS.iload X122.here hx rfl (hb hby own_d3_123) rfl ?_
        show Steps p.tables e below (T122.setTop (mkF m 125 #[.val (.ref r0), .val (.ref r1), .val (.int p2), .val (.ref b99), .val (.int (Int32.ofNat u)), .val (.int (Int32.ofNat (6))), s643] [(.int (Int32.ofNat u)), (.ref r1), (.ref b99), (.ref b78)])) _
        refine X122.iaload hx (j := (Int32.ofNat u)) (v := (.int (Int32.ofNat (kk u) - 1))) (by rw [e122]; exact Ar123.1) (State.isArrayOf_alike hZ.alike Ar123.2.1) Ar123.2.2 hin123 hat123 (g := (mkF m 125 #[.val (.ref r0), .val (.ref r1), .val (.int p2), .val (.ref b99), .val (.int (Int32.ofNat u)), .val (.int (Int32.ofNat (6))), s643] [(.int (Int32.ofNat u)), (.ref r1), (.ref b99), (.ref b78)])) rfl rfl (hb hby own_d3_125) _ ?_
        show Steps p.tables e below (T122.setTop (mkF m 126 #[.val (.ref r0), .val (.ref r1), .val (.int p2), .val (.ref b99), .val (.int (Int32.ofNat u)), .val (.int (Int32.ofNat (6))), s643] [(.int (Int32.ofNat (kk u) - 1)), (.ref b99), (.ref b78)])) _
        refine XS.iconst X122.here hx rfl (hb hby own_d3_126) ?_
        show Steps p.tables e below (T122.setTop (mkF m 127 #[.val (.ref r0), .val (.ref r1), .val (.int p2), .val (.ref b99), .val (.int (Int32.ofNat u)), .val (.int (Int32.ofNat (6))), s643] [(.int (1 : Int32)), (.int (Int32.ofNat (kk u) - 1)), (.ref b99), (.ref b78)])) _
        refine XS.iadd X122.here hx rfl (hb hby own_d3_127) rfl ?_
        exact h
      have r125 : ((Int32.ofNat (kk u) - 1) + (1 : Int32)) = (Int32.ofNat (kk u)) := own_km1 _
      have k126 : ∀ t, Steps p.tables e below (T122.setTop (mkF m 128 #[.val (.ref r0), .val (.ref r1), .val (.int p2), .val (.ref b99), .val (.int (Int32.ofNat u)), .val (.int (Int32.ofNat (6))), s643] [(.int (Int32.ofNat (kk u))), (.ref b99), (.ref b78)])) t → Steps p.tables e below (T.setTop (mkF m 110 #[.val (.ref r0), .val (.ref r1), .val (.int p2), .val (.ref b99), .val (.int (Int32.ofNat u)), .val (.int (Int32.ofNat (6))), s643] [])) t := by first | (rw [← r125]; exact k124) | exact k124
      obtain ⟨cl127, Ar127, hin127, hat127⟩ := own_IA.at (i := (kk u)) (j := (Int32.ofNat (kk u))) hf6 rfl (by have := hk u (by omega); omega) (by omega)
      obtain ⟨cl128, Ar128, hin128, hat128⟩ := own_IA.at (i := (kk u)) (j := (Int32.ofNat (kk u))) hf6 rfl (by have := hk u (by omega); omega) (by omega)
      obtain ⟨T128, h128, X128, e128, W128, st128⟩ := stI X122 hx hZ e122 Ar128 (j := (Int32.ofNat (kk u))) hin128 (g := (mkF m 133 #[.val (.ref r0), .val (.ref r1), .val (.int p2), .val (.ref b99), .val (.int (Int32.ofNat u)), .val (.int (Int32.ofNat (6))), s643] [(.int ((Int32.ofNat (own_A kk 6 (kk u) + own_B kk u (kk u))) + (1 : Int32))), (.int (Int32.ofNat (kk u))), (.ref b99), (.int (Int32.ofNat (own_A kk 6 (kk u) + own_B kk u (kk u)))), (.ref b78)])) rfl rfl (hb hby own_d3_133)
      have V128 := own_IA.set hf6 W128 rfl (by have := hk u (by omega); omega) (by omega)
      have f129 := hf0.wr W128
      have f130 := hf1.other W128 (Or.inl ne_r0_b99)
      have f131 := hf2.other W128 (Or.inl ne_r0_b99)
      have f132 := hf3.other W128 ne_r1_b99
      have f133 := hf4.other W128 ne_b2_b99
      have f134 := hf5.other W128 ne_b78_b99
      have Z135 : n0 ≤ h128.size := Nat.le_trans hZZ (Keep.of_wr W128).1
      have K136 := hK.wr W128 (Or.inr sz_b99)
      have N128 := Fr.snoc X128 hN g_b99
      obtain ⟨cl137, Ar137, hin137, hat137⟩ := own_IA.at (i := (own_A kk 6 (kk u) + own_B kk u (kk u))) (j := (Int32.ofNat (own_A kk 6 (kk u) + own_B kk u (kk u)))) f134 rfl (own_pos_lt kk (by omega)) (by decide)
      obtain ⟨T137, h137, X137, e137, W137, st137⟩ := stI X128 hx hZ e128 Ar137 (j := (Int32.ofNat (own_A kk 6 (kk u) + own_B kk u (kk u)))) hin137 (g := (mkF m 136 #[.val (.ref r0), .val (.ref r1), .val (.int p2), .val (.ref b99), .val (.int (Int32.ofNat u)), .val (.int (Int32.ofNat (6))), s643] [(.int (Int32.ofNat u)), (.int (Int32.ofNat (own_A kk 6 (kk u) + own_B kk u (kk u)))), (.ref b78)])) rfl rfl (hb hby own_d3_136)
      have V137 := own_IA.set f134 W137 rfl (own_pos_lt kk (by omega)) (by decide)
      have f138 := f129.wr W137
      have f139 := f130.other W137 (Or.inl ne_r0_b78)
      have f140 := f131.other W137 (Or.inl ne_r0_b78)
      have f141 := f132.other W137 ne_r1_b78
      have f142 := f133.other W137 ne_b2_b78
      have f143 := V128.other W137 (Ne.symm ne_b78_b99)
      have Z144 : n0 ≤ h137.size := Nat.le_trans Z135 (Keep.of_wr W137).1
      have K145 := K136.wr W137 (Or.inr sz_b78)
      have N137 := Fr.snoc X137 N128 g_b78
      have k146 : ∀ t, Steps p.tables e below (T137.setTop (mkF m 110 #[.val (.ref r0), .val (.ref r1), .val (.int p2), .val (.ref b99), .val (.int ((Int32.ofNat u) + (1 : Int32))), .val (.int (Int32.ofNat (6))), s643] [])) t → Steps p.tables e below (T.setTop (mkF m 110 #[.val (.ref r0), .val (.ref r1), .val (.int p2), .val (.ref b99), .val (.int (Int32.ofNat u)), .val (.int (Int32.ofNat (6))), s643] [])) t := by
        intro t h
        refine k126 t ?_
        show Steps p.tables e below (T122.setTop (mkF m 128 #[.val (.ref r0), .val (.ref r1), .val (.int p2), .val (.ref b99), .val (.int (Int32.ofNat u)), .val (.int (Int32.ofNat (6))), s643] [(.int (Int32.ofNat (kk u))), (.ref b99), (.ref b78)])) _
        refine XT.dup2 X122.here hx rfl (hb hby own_d3_128) rfl rfl rfl ?_
        show Steps p.tables e below (T122.setTop (mkF m 129 #[.val (.ref r0), .val (.ref r1), .val (.int p2), .val (.ref b99), .val (.int (Int32.ofNat u)), .val (.int (Int32.ofNat (6))), s643] [(.int (Int32.ofNat (kk u))), (.ref b99), (.int (Int32.ofNat (kk u))), (.ref b99), (.ref b78)])) _
        refine X122.iaload hx (j := (Int32.ofNat (kk u))) (v := (.int (Int32.ofNat (own_A kk 6 (kk u) + own_B kk u (kk u))))) (by rw [e122]; exact Ar127.1) (State.isArrayOf_alike hZ.alike Ar127.2.1) Ar127.2.2 hin127 hat127 (g := (mkF m 129 #[.val (.ref r0), .val (.ref r1), .val (.int p2), .val (.ref b99), .val (.int (Int32.ofNat u)), .val (.int (Int32.ofNat (6))), s643] [(.int (Int32.ofNat (kk u))), (.ref b99), (.int (Int32.ofNat (kk u))), (.ref b99), (.ref b78)])) rfl rfl (hb hby own_d3_129) _ ?_
        show Steps p.tables e below (T122.setTop (mkF m 130 #[.val (.ref r0), .val (.ref r1), .val (.int p2), .val (.ref b99), .val (.int (Int32.ofNat u)), .val (.int (Int32.ofNat (6))), s643] [(.int (Int32.ofNat (own_A kk 6 (kk u) + own_B kk u (kk u)))), (.int (Int32.ofNat (kk u))), (.ref b99), (.ref b78)])) _
        refine own_dupX2 X122 hx (hb hby own_d3_130) rfl rfl rfl ?_
        show Steps p.tables e below (T122.setTop (mkF m 131 #[.val (.ref r0), .val (.ref r1), .val (.int p2), .val (.ref b99), .val (.int (Int32.ofNat u)), .val (.int (Int32.ofNat (6))), s643] [(.int (Int32.ofNat (own_A kk 6 (kk u) + own_B kk u (kk u)))), (.int (Int32.ofNat (kk u))), (.ref b99), (.int (Int32.ofNat (own_A kk 6 (kk u) + own_B kk u (kk u)))), (.ref b78)])) _
        refine XS.iconst X122.here hx rfl (hb hby own_d3_131) ?_
        show Steps p.tables e below (T122.setTop (mkF m 132 #[.val (.ref r0), .val (.ref r1), .val (.int p2), .val (.ref b99), .val (.int (Int32.ofNat u)), .val (.int (Int32.ofNat (6))), s643] [(.int (1 : Int32)), (.int (Int32.ofNat (own_A kk 6 (kk u) + own_B kk u (kk u)))), (.int (Int32.ofNat (kk u))), (.ref b99), (.int (Int32.ofNat (own_A kk 6 (kk u) + own_B kk u (kk u)))), (.ref b78)])) _
        refine XS.iadd X122.here hx rfl (hb hby own_d3_132) rfl ?_
        show Steps p.tables e below (T122.setTop (mkF m 133 #[.val (.ref r0), .val (.ref r1), .val (.int p2), .val (.ref b99), .val (.int (Int32.ofNat u)), .val (.int (Int32.ofNat (6))), s643] [(.int ((Int32.ofNat (own_A kk 6 (kk u) + own_B kk u (kk u))) + (1 : Int32))), (.int (Int32.ofNat (kk u))), (.ref b99), (.int (Int32.ofNat (own_A kk 6 (kk u) + own_B kk u (kk u)))), (.ref b78)])) _
        refine st128 _ ?_
        show Steps p.tables e below (T128.setTop (mkF m 134 #[.val (.ref r0), .val (.ref r1), .val (.int p2), .val (.ref b99), .val (.int (Int32.ofNat u)), .val (.int (Int32.ofNat (6))), s643] [(.int (Int32.ofNat (own_A kk 6 (kk u) + own_B kk u (kk u)))), (.ref b78)])) _
        refine XS.iload X128.here hx rfl (hb hby own_d3_134) rfl ?_
        show Steps p.tables e below (T128.setTop (mkF m 136 #[.val (.ref r0), .val (.ref r1), .val (.int p2), .val (.ref b99), .val (.int (Int32.ofNat u)), .val (.int (Int32.ofNat (6))), s643] [(.int (Int32.ofNat u)), (.int (Int32.ofNat (own_A kk 6 (kk u) + own_B kk u (kk u)))), (.ref b78)])) _
        refine st137 _ ?_
        show Steps p.tables e below (T137.setTop (mkF m 137 #[.val (.ref r0), .val (.ref r1), .val (.int p2), .val (.ref b99), .val (.int (Int32.ofNat u)), .val (.int (Int32.ofNat (6))), s643] [])) _
        refine XS.iinc X137.here hx rfl (hb hby own_d3_137) rfl (l' := #[.val (.ref r0), .val (.ref r1), .val (.int p2), .val (.ref b99), .val (.int ((Int32.ofNat u) + (1 : Int32))), .val (.int (Int32.ofNat (6))), s643]) rfl ?_
        show Steps p.tables e below (T137.setTop (mkF m 140 #[.val (.ref r0), .val (.ref r1), .val (.int p2), .val (.ref b99), .val (.int ((Int32.ofNat u) + (1 : Int32))), .val (.int (Int32.ofNat (6))), s643] [])) _
        refine XS.goto X137.here hx rfl (pc0 := 140) (pc' := 110) rfl (hb hby own_d3_140) (by decide) (by decide) ?_
        exact h
      have r147 : ((Int32.ofNat u) + (1 : Int32)) = (Int32.ofNat (u + 1)) := own_inc u
      have k148 : ∀ t, Steps p.tables e below (T137.setTop (mkF m 110 #[.val (.ref r0), .val (.ref r1), .val (.int p2), .val (.ref b99), .val (.int (Int32.ofNat (u + 1))), .val (.int (Int32.ofNat (6))), s643] [])) t → Steps p.tables e below (T.setTop (mkF m 110 #[.val (.ref r0), .val (.ref r1), .val (.int p2), .val (.ref b99), .val (.int (Int32.ofNat u)), .val (.int (Int32.ofNat (6))), s643] [])) t := by first | (rw [← r147]; exact k146) | exact k146
      obtain ⟨T149, h149, L149, X149, e149, N149, Z149, K149, f149_0, f149_1, f149_2, f149_3, f149_4, f149_5, f149_6, k149⟩ := ih (u + 1) (by omega)  T137 _ _ X137 e137 N137 Z144 K145 (f138) (f139) (f140) (f141) (f142) (own_IA.congr V137 (fun j _ => own_M_step kk 6 u j)) (own_IA.congr f143 (fun j _ => own_F_step kk 6 u j))
      exact ⟨T149, h149, L149, X149, e149, N149, Z149, K149, f149_0, f149_1, f149_2, f149_3, f149_4, f149_5, f149_6, fun t q => k148 t (k149 t q)⟩
  obtain ⟨T150, h150, L150, X150, e150, N150, Z150, K150, f150_0, f150_1, f150_2, f150_3, f150_4, f150_5, f150_6, k150⟩ := lp114 (6) 0 (by first | rfl | omega)  T110 _ _ X110 e110 N87 Z108 K109 (f100) (f101) (f107) (f102) (f103) (own_IA.congr f105 (fun _ _ => rfl)) (own_IA.congr V99 (fun _ _ => rfl))
  have k151 : ∀ t, Steps p.tables e below (T150.setTop (mkF m 143 #[.val (.ref r0), .val (.ref r1), .val (.int p2), .val (.ref b99), .val (.int (Int32.ofNat (6))), .val (.int (Int32.ofNat (6))), s643] [])) t → Steps p.tables e below (s₁.setTop (mkF m 0 #[.val (.ref r0), .val (.ref r1), .val (.int p2), .unset, .unset, .unset, .unset] [])) t := fun t q => k113 t (k150 t q)
  obtain ⟨fs, hr, hrun, hended, hW, hsame⟩ := X150.leave (v := none) (fun _ => rfl) Bd.notSynchronized
  refine ⟨_, _, pre0 _ (k151 _ ?_), hrun, hended, _, _, rfl, ?_, ⟨_, rfl⟩, hW, hsame.mono (by decide) (by decide)⟩
  · exact X150.returnOut hx Bd.returns (hb hby own_d3_143) hr
  · show Q_rmI Z _ _ _ _ _ h0 n0 _ T150.heap _
    rw [e150]
    exact ⟨rfl, N150, K150, b2, b78, f150_1, f150_4, f150_2, f150_5⟩
def Q_rmK (Z : State) (q0 : Int64) (p1 : Int32) (p2 : Int32) (M : Nat) (h0 : Heap) (n0 : Nat) (v : Option Value) (h : Heap) (L : List Loc) : Prop := ∃ n : Nat, n < M ∧ v = some (.int (Int32.ofNat n - 1)) ∧ Fr n0 L ∧ h = h0
set_option maxRecDepth 65536 in
set_option maxHeartbeats 40000000 in
theorem rmK (l : Launch) (Z : State) (a0 : Array Value) (hw : ∀ d ∈ tables_1, d.before a0 Z = true) (ws : List Jvm.Cond) (q0 : Int64) (p1 : Int32) (p2 : Int32) (M : Nat) (h0 : Heap) (n0 : Nat) (Z0 : n0 ≤ h0.size) (hm : p2 = Int32.ofNat M) (hM : 0 < M) (hM2 : M < 1000) :
    MetFree l (⟨"com/example/planwright/planwright/io/GroupingCountPinLaw", "key", "(JII)I"⟩ : MethodName) (head1 (Jvm.Cond.code (⟨"com/example/planwright/planwright/io/GroupingCountPinLaw", "key", "(JII)I"⟩ : MethodName) method_2_code 4 (some .int) :: ws) ({ frames := 0, cells := 0, slots := 0, locals := 0 } : Room)) (fun a U => a = #[(.long q0), (.int p1), (.int p2)] ∧ Z.Warmed39 U.vm ∧ U.heap = h0) (fun _ _ _ _ _ => True) (fun _ U o U' => ∃ v L, o = .returned v ∧ Q_rmK Z q0 p1 p2 M h0 n0 v U'.heap L ∧ FrameEnd U o U' L ({ frames := 0, cells := 0, slots := 0, locals := 0 } : Room).cells ({ frames := 0, cells := 0, slots := 0, locals := 0 } : Room).slots) := by
  refine MetFree.of_bodySF (plainFor_of_name own_pn_1) hisR ?_
  intro p e s m args below meth c s₁ Bd hml0 hP hK
  obtain ⟨rfl, hZ, hh⟩ := hP
  have hx := Bd.exec
  have hby := Bd.bytes
  have hml : c.maxLocals = 4 := hml0
  have hown : s.vm.findClass "com/example/planwright/planwright/io/GroupingCountPinLaw" = some m.cls := findClass_of_methodNamed Bd.named
  have hnm := (name_of_methodNamed Bd.named Bd.method).1
  have X0 : Stand p l e ({ frames := 0, cells := 0, slots := 0, locals := 0 } : Room) s m #[(.long q0), (.int p1), (.int p2)] below meth c s₁ [] 0 0 := Stand.of_body Bd
  have e0 : s₁.heap = h0 := by rw [← hh, Bd.state]; rfl
  have N0 := Fr.nil n0
  have K0 : Keep h0 h0 [] := Keep.refl h0 _
  have pre0 : ∀ t, Steps p.tables e below (s₁.setTop (mkF m 0 #[.val (.long q0), .second, .val (.int p1), .val (.int p2)] [])) t → Steps p.tables e below (s₁.setTop (entryFrame m #[(.long q0), (.int p1), (.int p2)] 4)) t := fun t k => castTop (own_ef_1 m q0 p1 p2) k
  have k152 : ∀ t, Steps p.tables e below (s₁.setTop (mkF m 12 #[.val (.long q0), .second, .val (.int p1), .val (.int p2)] [(.int ((((((q0.toUInt64 >>> (p1 &&& 0x3f).toInt64.toUInt64).toInt64).toInt32) &&& (255 : Int32)) % p2) - (1 : Int32)))])) t → Steps p.tables e below (s₁.setTop (mkF m 0 #[.val (.long q0), .second, .val (.int p1), .val (.int p2)] [])) t := by
    intro t h
    show Steps p.tables e below (s₁.setTop (mkF m 0 #[.val (.long q0), .second, .val (.int p1), .val (.int p2)] [])) _
    refine XS.lloadN X0.here hx rfl (hb hby own_d1_0) rfl ?_
    show Steps p.tables e below (s₁.setTop (mkF m 1 #[.val (.long q0), .second, .val (.int p1), .val (.int p2)] [(.long q0)])) _
    refine XS.iloadN X0.here hx rfl (hb hby own_d1_1) rfl ?_
    show Steps p.tables e below (s₁.setTop (mkF m 2 #[.val (.long q0), .second, .val (.int p1), .val (.int p2)] [(.int p1), (.long q0)])) _
    refine XS.lushr X0.here hx rfl (hb hby own_d1_2) rfl ?_
    show Steps p.tables e below (s₁.setTop (mkF m 3 #[.val (.long q0), .second, .val (.int p1), .val (.int p2)] [(.long ((q0.toUInt64 >>> (p1 &&& 0x3f).toInt64.toUInt64).toInt64))])) _
    refine XS.l2i X0.here hx rfl (hb hby own_d1_3) rfl ?_
    show Steps p.tables e below (s₁.setTop (mkF m 4 #[.val (.long q0), .second, .val (.int p1), .val (.int p2)] [(.int (((q0.toUInt64 >>> (p1 &&& 0x3f).toInt64.toUInt64).toInt64).toInt32))])) _
    refine XS.sipush X0.here hx rfl (hb hby own_d1_4) ?_
    show Steps p.tables e below (s₁.setTop (mkF m 7 #[.val (.long q0), .second, .val (.int p1), .val (.int p2)] [(.int (255 : Int32)), (.int (((q0.toUInt64 >>> (p1 &&& 0x3f).toInt64.toUInt64).toInt64).toInt32))])) _
    refine XS.iand X0.here hx rfl (hb hby own_d1_7) rfl ?_
    show Steps p.tables e below (s₁.setTop (mkF m 8 #[.val (.long q0), .second, .val (.int p1), .val (.int p2)] [(.int ((((q0.toUInt64 >>> (p1 &&& 0x3f).toInt64.toUInt64).toInt64).toInt32) &&& (255 : Int32)))])) _
    refine XS.iloadN X0.here hx rfl (hb hby own_d1_8) rfl ?_
    show Steps p.tables e below (s₁.setTop (mkF m 9 #[.val (.long q0), .second, .val (.int p1), .val (.int p2)] [(.int p2), (.int ((((q0.toUInt64 >>> (p1 &&& 0x3f).toInt64.toUInt64).toInt64).toInt32) &&& (255 : Int32)))])) _
    refine iremM (g := (mkF m 9 #[.val (.long q0), .second, .val (.int p1), .val (.int p2)] [(.int p2), (.int ((((q0.toUInt64 >>> (p1 &&& 0x3f).toInt64.toUInt64).toInt64).toInt32) &&& (255 : Int32)))])) X0 hx rfl (hb hby own_d1_9) rfl (by rw [hm]; obtain ⟨k, rfl⟩ : ∃ k, M = k + 1 := ⟨M - 1, by omega⟩; exact own_nz (by omega)) ?_
    show Steps p.tables e below (s₁.setTop (mkF m 10 #[.val (.long q0), .second, .val (.int p1), .val (.int p2)] [(.int (((((q0.toUInt64 >>> (p1 &&& 0x3f).toInt64.toUInt64).toInt64).toInt32) &&& (255 : Int32)) % p2))])) _
    refine XS.iconst X0.here hx rfl (hb hby own_d1_10) ?_
    show Steps p.tables e below (s₁.setTop (mkF m 11 #[.val (.long q0), .second, .val (.int p1), .val (.int p2)] [(.int (1 : Int32)), (.int (((((q0.toUInt64 >>> (p1 &&& 0x3f).toInt64.toUInt64).toInt64).toInt32) &&& (255 : Int32)) % p2))])) _
    refine XS.isub X0.here hx rfl (hb hby own_d1_11) rfl ?_
    exact h
  obtain ⟨fs, hr, hrun, hended, hW, hsame⟩ := X0.leave (v := some (.int ((((((q0.toUInt64 >>> (p1 &&& 0x3f).toInt64.toUInt64).toInt64).toInt32) &&& (255 : Int32)) % p2) - (1 : Int32)))) (fun h => by rw [Bd.returns] at h; cases h) Bd.notSynchronized
  refine ⟨_, _, pre0 _ (k152 _ ?_), hrun, hended, _, _, rfl, ?_, ⟨_, rfl⟩, hW, hsame.mono (by decide) (by decide)⟩
  · exact retI X0 hx Bd.returns (hb hby own_d1_12) hr
  · show Q_rmK Z _ _ _ _ h0 n0 _ s₁.heap _
    rw [e0]
    obtain ⟨n, hn, en⟩ := own_255 (((q0.toUInt64 >>> (p1 &&& 0x3f).toInt64.toUInt64).toInt64).toInt32) M hM hM2
    rw [← hm] at en
    exact ⟨n, hn, congrArg (fun z : Int32 => some (Value.int (z - 1))) en, N0, rfl⟩
def Q_rmE (Z : State) (p0 : Int32) (p1 : Int32) (h0 : Heap) (n0 : Nat) (v : Option Value) (h : Heap) (L : List Loc) : Prop := v = some (.int (own_eq p0 p1)) ∧ Fr n0 L ∧ h = h0
set_option maxRecDepth 65536 in
set_option maxHeartbeats 40000000 in
theorem rmE (l : Launch) (Z : State) (a0 : Array Value) (hw : ∀ d ∈ tables_1, d.before a0 Z = true) (ws : List Jvm.Cond) (p0 : Int32) (p1 : Int32) (h0 : Heap) (n0 : Nat) (Z0 : n0 ≤ h0.size) :
    MetFree l (⟨"com/example/planwright/planwright/io/GroupingCountPinLaw", "eq", "(II)I"⟩ : MethodName) (head1 (Jvm.Cond.code (⟨"com/example/planwright/planwright/io/GroupingCountPinLaw", "eq", "(II)I"⟩ : MethodName) method_3_code 2 (some .int) :: ws) ({ frames := 0, cells := 0, slots := 0, locals := 0 } : Room)) (fun a U => a = #[(.int p0), (.int p1)] ∧ Z.Warmed39 U.vm ∧ U.heap = h0) (fun _ _ _ _ _ => True) (fun _ U o U' => ∃ v L, o = .returned v ∧ Q_rmE Z p0 p1 h0 n0 v U'.heap L ∧ FrameEnd U o U' L ({ frames := 0, cells := 0, slots := 0, locals := 0 } : Room).cells ({ frames := 0, cells := 0, slots := 0, locals := 0 } : Room).slots) := by
  refine MetFree.of_bodySF (plainFor_of_name own_pn_1) hisR ?_
  intro p e s m args below meth c s₁ Bd hml0 hP hK
  obtain ⟨rfl, hZ, hh⟩ := hP
  have hx := Bd.exec
  have hby := Bd.bytes
  have hml : c.maxLocals = 2 := hml0
  have hown : s.vm.findClass "com/example/planwright/planwright/io/GroupingCountPinLaw" = some m.cls := findClass_of_methodNamed Bd.named
  have hnm := (name_of_methodNamed Bd.named Bd.method).1
  have X0 : Stand p l e ({ frames := 0, cells := 0, slots := 0, locals := 0 } : Room) s m #[(.int p0), (.int p1)] below meth c s₁ [] 0 0 := Stand.of_body Bd
  have e0 : s₁.heap = h0 := by rw [← hh, Bd.state]; rfl
  have N0 := Fr.nil n0
  have K0 : Keep h0 h0 [] := Keep.refl h0 _
  have pre0 : ∀ t, Steps p.tables e below (s₁.setTop (mkF m 0 #[.val (.int p0), .val (.int p1)] [])) t → Steps p.tables e below (s₁.setTop (entryFrame m #[(.int p0), (.int p1)] 2)) t := fun t k => castTop (own_ef_2 m p0 p1) k
  have k153 : ∀ t, Steps p.tables e below (s₁.setTop (mkF m 2 #[.val (.int p0), .val (.int p1)] [(.int p1), (.int p0)])) t → Steps p.tables e below (s₁.setTop (mkF m 0 #[.val (.int p0), .val (.int p1)] [])) t := by
    intro t h
    show Steps p.tables e below (s₁.setTop (mkF m 0 #[.val (.int p0), .val (.int p1)] [])) _
    refine XS.iloadN X0.here hx rfl (hb hby own_d2_0) rfl ?_
    show Steps p.tables e below (s₁.setTop (mkF m 1 #[.val (.int p0), .val (.int p1)] [(.int p0)])) _
    refine XS.iloadN X0.here hx rfl (hb hby own_d2_1) rfl ?_
    exact h
  by_cases c2_154 : p0 = p1
  · skip
    have k155 : ∀ t, Steps p.tables e below (s₁.setTop (mkF m 10 #[.val (.int p0), .val (.int p1)] [(.int (1 : Int32))])) t → Steps p.tables e below (s₁.setTop (mkF m 0 #[.val (.int p0), .val (.int p1)] [])) t := by
      intro t h
      refine k153 t ?_
      show Steps p.tables e below (s₁.setTop (mkF m 2 #[.val (.int p0), .val (.int p1)] [(.int p1), (.int p0)])) _
      refine XS.icmpNo X0.here hx rfl (hb hby own_d2_2) rfl (teq c2_154).2 ?_
      show Steps p.tables e below (s₁.setTop (mkF m 5 #[.val (.int p0), .val (.int p1)] [])) _
      refine XS.iconst X0.here hx rfl (hb hby own_d2_5) ?_
      show Steps p.tables e below (s₁.setTop (mkF m 6 #[.val (.int p0), .val (.int p1)] [(.int (1 : Int32))])) _
      refine XS.goto X0.here hx rfl (pc0 := 6) (pc' := 10) rfl (hb hby own_d2_6) (by decide) (by decide) ?_
      exact h
    obtain ⟨fs, hr, hrun, hended, hW, hsame⟩ := X0.leave (v := some (.int (1 : Int32))) (fun h => by rw [Bd.returns] at h; cases h) Bd.notSynchronized
    refine ⟨_, _, pre0 _ (k155 _ ?_), hrun, hended, _, _, rfl, ?_, ⟨_, rfl⟩, hW, hsame.mono (by decide) (by decide)⟩
    · exact retI X0 hx Bd.returns (hb hby own_d2_10) hr
    · show Q_rmE Z _ _ h0 n0 _ s₁.heap _
      rw [e0]
      exact ⟨congrArg (fun z : Int32 => some (Value.int z)) (by first | (simp only [own_eq, c2_154, ↓reduceIte]; done) | (simp [own_eq, c2_154]; done)), N0, rfl⟩
  · skip
    have k156 : ∀ t, Steps p.tables e below (s₁.setTop (mkF m 10 #[.val (.int p0), .val (.int p1)] [(.int (0 : Int32))])) t → Steps p.tables e below (s₁.setTop (mkF m 0 #[.val (.int p0), .val (.int p1)] [])) t := by
      intro t h
      refine k153 t ?_
      show Steps p.tables e below (s₁.setTop (mkF m 2 #[.val (.int p0), .val (.int p1)] [(.int p1), (.int p0)])) _
      refine XS.icmpYes X0.here hx rfl (pc0 := 2) (pc' := 9) rfl (hb hby own_d2_2) rfl (feq c2_154).2 (by decide) (by decide) ?_
      show Steps p.tables e below (s₁.setTop (mkF m 9 #[.val (.int p0), .val (.int p1)] [])) _
      refine XS.iconst X0.here hx rfl (hb hby own_d2_9) ?_
      exact h
    obtain ⟨fs, hr, hrun, hended, hW, hsame⟩ := X0.leave (v := some (.int (0 : Int32))) (fun h => by rw [Bd.returns] at h; cases h) Bd.notSynchronized
    refine ⟨_, _, pre0 _ (k156 _ ?_), hrun, hended, _, _, rfl, ?_, ⟨_, rfl⟩, hW, hsame.mono (by decide) (by decide)⟩
    · exact retI X0 hx Bd.returns (hb hby own_d2_10) hr
    · show Q_rmE Z _ _ h0 n0 _ s₁.heap _
      rw [e0]
      exact ⟨congrArg (fun z : Int32 => some (Value.int z)) (by first | (simp only [own_eq, c2_154, ↓reduceIte]; done) | (simp [own_eq, c2_154]; done)), N0, rfl⟩
def Q_rmC (Z : State) (r0 : Addr) (p1 : Int32) (b1 : Addr) (n1 : Nat) (f1 : Nat → Int32) (i1 : Nat) (i2 : Nat) (h0 : Heap) (n0 : Nat) (v : Option Value) (h : Heap) (L : List Loc) : Prop := v = some (.int (f1 i2 - f1 i1)) ∧ Fr n0 L ∧ h = h0
set_option maxRecDepth 65536 in
set_option maxHeartbeats 40000000 in
theorem rmC (l : Launch) (Z : State) (a0 : Array Value) (hw : ∀ d ∈ tables_1, d.before a0 Z = true) (ws : List Jvm.Cond) (r0 : Addr) (p1 : Int32) (b1 : Addr) (n1 : Nat) (f1 : Nat → Int32) (i1 : Nat) (i2 : Nat) (h0 : Heap) (n0 : Nat) (Z0 : n0 ≤ h0.size) (F1 : Fld Z h0 r0 "com/example/planwright/planwright/io/Grouping" "starts" "[I" (.ref b1)) (A1 : own_IA Z h0 b1 n1 f1) (hn1 : n1 < 2 ^ 31) (h1 : p1 + 1 = Int32.ofNat i1) (h2 : p1 + 2 = Int32.ofNat i2) (l1 : i1 < n1) (l2 : i2 < n1) :
    MetFree l (⟨"com/example/planwright/planwright/io/Grouping", "count", "(I)I"⟩ : MethodName) (head1 (Jvm.Cond.code (⟨"com/example/planwright/planwright/io/Grouping", "count", "(I)I"⟩ : MethodName) prog_17_method_2_code 2 (some .int) :: ws) ({ frames := 0, cells := 0, slots := 0, locals := 0 } : Room)) (fun a U => a = #[(.ref r0), (.int p1)] ∧ Z.Warmed39 U.vm ∧ U.heap = h0) (fun _ _ _ _ _ => True) (fun _ U o U' => ∃ v L, o = .returned v ∧ Q_rmC Z r0 p1 b1 n1 f1 i1 i2 h0 n0 v U'.heap L ∧ FrameEnd U o U' L ({ frames := 0, cells := 0, slots := 0, locals := 0 } : Room).cells ({ frames := 0, cells := 0, slots := 0, locals := 0 } : Room).slots) := by
  refine MetFree.of_bodySF (plainFor_of_name own_pn_0) hisR ?_
  intro p e s m args below meth c s₁ Bd hml0 hP hK
  obtain ⟨rfl, hZ, hh⟩ := hP
  have hx := Bd.exec
  have hby := Bd.bytes
  have hml : c.maxLocals = 2 := hml0
  have hown : s.vm.findClass "com/example/planwright/planwright/io/Grouping" = some m.cls := findClass_of_methodNamed Bd.named
  have hnm := (name_of_methodNamed Bd.named Bd.method).1
  have X0 : Stand p l e ({ frames := 0, cells := 0, slots := 0, locals := 0 } : Room) s m #[(.ref r0), (.int p1)] below meth c s₁ [] 0 0 := Stand.of_body Bd
  have e0 : s₁.heap = h0 := by rw [← hh, Bd.state]; rfl
  have N0 := Fr.nil n0
  have K0 : Keep h0 h0 [] := Keep.refl h0 _
  have pre0 : ∀ t, Steps p.tables e below (s₁.setTop (mkF m 0 #[.val (.ref r0), .val (.int p1)] [])) t → Steps p.tables e below (s₁.setTop (entryFrame m #[(.ref r0), (.int p1)] 2)) t := fun t k => castTop (own_ef_3 m r0 p1) k
  obtain ⟨T157, X157, e157, st157⟩ := getF X0 hx hZ hown (host := "") (Or.inl (hw _ (List.mem_of_getElem? (i := 18) rfl))) Via.refl e0 F1 (g := (mkF m 1 #[.val (.ref r0), .val (.int p1)] [(.ref r0)])) rfl rfl (hb hby own_d5_1)
  obtain ⟨cl158, Ar158, hin158, hat158⟩ := own_IA.at (i := i2) (j := (p1 + (2 : Int32))) A1 h2 l2 hn1
  obtain ⟨T159, X159, e159, st159⟩ := getF X157 hx hZ hown (host := "") (Or.inl (hw _ (List.mem_of_getElem? (i := 18) rfl))) Via.refl e157 F1 (g := (mkF m 9 #[.val (.ref r0), .val (.int p1)] [(.ref r0), (.int (f1 i2))])) rfl rfl (hb hby own_d5_9)
  obtain ⟨cl160, Ar160, hin160, hat160⟩ := own_IA.at (i := i1) (j := (p1 + (1 : Int32))) A1 h1 l1 hn1
  have k161 : ∀ t, Steps p.tables e below (T159.setTop (mkF m 17 #[.val (.ref r0), .val (.int p1)] [(.int ((f1 i2) - (f1 i1)))])) t → Steps p.tables e below (s₁.setTop (mkF m 0 #[.val (.ref r0), .val (.int p1)] [])) t := by
    intro t h
    show Steps p.tables e below (s₁.setTop (mkF m 0 #[.val (.ref r0), .val (.int p1)] [])) _
    refine XS.aloadN X0.here hx rfl (hb hby own_d5_0) rfl rfl ?_
    show Steps p.tables e below (s₁.setTop (mkF m 1 #[.val (.ref r0), .val (.int p1)] [(.ref r0)])) _
    refine st157 _ ?_
    show Steps p.tables e below (T157.setTop (mkF m 4 #[.val (.ref r0), .val (.int p1)] [(.ref b1)])) _
    refine XS.iloadN X157.here hx rfl (hb hby own_d5_4) rfl ?_
    show Steps p.tables e below (T157.setTop (mkF m 5 #[.val (.ref r0), .val (.int p1)] [(.int p1), (.ref b1)])) _
    refine XS.iconst X157.here hx rfl (hb hby own_d5_5) ?_
    show Steps p.tables e below (T157.setTop (mkF m 6 #[.val (.ref r0), .val (.int p1)] [(.int (2 : Int32)), (.int p1), (.ref b1)])) _
    refine XS.iadd X157.here hx rfl (hb hby own_d5_6) rfl ?_
    show Steps p.tables e below (T157.setTop (mkF m 7 #[.val (.ref r0), .val (.int p1)] [(.int (p1 + (2 : Int32))), (.ref b1)])) _
    refine X157.iaload hx (j := (p1 + (2 : Int32))) (v := (.int (f1 i2))) (by rw [e157]; exact Ar158.1) (State.isArrayOf_alike hZ.alike Ar158.2.1) Ar158.2.2 hin158 hat158 (g := (mkF m 7 #[.val (.ref r0), .val (.int p1)] [(.int (p1 + (2 : Int32))), (.ref b1)])) rfl rfl (hb hby own_d5_7) _ ?_
    show Steps p.tables e below (T157.setTop (mkF m 8 #[.val (.ref r0), .val (.int p1)] [(.int (f1 i2))])) _
    refine XS.aloadN X157.here hx rfl (hb hby own_d5_8) rfl rfl ?_
    show Steps p.tables e below (T157.setTop (mkF m 9 #[.val (.ref r0), .val (.int p1)] [(.ref r0), (.int (f1 i2))])) _
    refine st159 _ ?_
    show Steps p.tables e below (T159.setTop (mkF m 12 #[.val (.ref r0), .val (.int p1)] [(.ref b1), (.int (f1 i2))])) _
    refine XS.iloadN X159.here hx rfl (hb hby own_d5_12) rfl ?_
    show Steps p.tables e below (T159.setTop (mkF m 13 #[.val (.ref r0), .val (.int p1)] [(.int p1), (.ref b1), (.int (f1 i2))])) _
    refine XS.iconst X159.here hx rfl (hb hby own_d5_13) ?_
    show Steps p.tables e below (T159.setTop (mkF m 14 #[.val (.ref r0), .val (.int p1)] [(.int (1 : Int32)), (.int p1), (.ref b1), (.int (f1 i2))])) _
    refine XS.iadd X159.here hx rfl (hb hby own_d5_14) rfl ?_
    show Steps p.tables e below (T159.setTop (mkF m 15 #[.val (.ref r0), .val (.int p1)] [(.int (p1 + (1 : Int32))), (.ref b1), (.int (f1 i2))])) _
    refine X159.iaload hx (j := (p1 + (1 : Int32))) (v := (.int (f1 i1))) (by rw [e159]; exact Ar160.1) (State.isArrayOf_alike hZ.alike Ar160.2.1) Ar160.2.2 hin160 hat160 (g := (mkF m 15 #[.val (.ref r0), .val (.int p1)] [(.int (p1 + (1 : Int32))), (.ref b1), (.int (f1 i2))])) rfl rfl (hb hby own_d5_15) _ ?_
    show Steps p.tables e below (T159.setTop (mkF m 16 #[.val (.ref r0), .val (.int p1)] [(.int (f1 i1)), (.int (f1 i2))])) _
    refine XS.isub X159.here hx rfl (hb hby own_d5_16) rfl ?_
    exact h
  obtain ⟨fs, hr, hrun, hended, hW, hsame⟩ := X159.leave (v := some (.int ((f1 i2) - (f1 i1)))) (fun h => by rw [Bd.returns] at h; cases h) Bd.notSynchronized
  refine ⟨_, _, pre0 _ (k161 _ ?_), hrun, hended, _, _, rfl, ?_, ⟨_, rfl⟩, hW, hsame.mono (by decide) (by decide)⟩
  · exact retI X159 hx Bd.returns (hb hby own_d5_17) hr
  · show Q_rmC Z _ _ _ _ _ _ _ h0 n0 _ T159.heap _
    rw [e159]
    exact ⟨congrArg (fun z : Int32 => some (Value.int z)) (rfl), N0, rfl⟩
def Q_rm0 (Z : State) (p0 : Int32) (q1 : Int64) (p2 : Int32) (h0 : Heap) (n0 : Nat) (v : Option Value) (h : Heap) (L : List Loc) : Prop := v = some (.int 1) ∧ Fr n0 L
set_option maxRecDepth 65536 in
set_option maxHeartbeats 40000000 in
theorem rm0 (l : Launch) (Z : State) (a0 : Array Value) (hw : ∀ d ∈ tables_1, d.before a0 Z = true) (ws : List Jvm.Cond) (p0 : Int32) (q1 : Int64) (p2 : Int32) (h0 : Heap) (n0 : Nat) (Z0 : n0 ≤ h0.size) :
    MetFree l x (head1 (Jvm.Cond.code x code maxLocals ret :: ws) room_1) (fun a U => a = #[(.int p0), (.long q1), (.int p2)] ∧ Z.Warmed39 U.vm ∧ U.heap = h0) (fun _ _ _ _ _ => True) (fun _ U o U' => ∃ v L, o = .returned v ∧ Q_rm0 Z p0 q1 p2 h0 n0 v U'.heap L ∧ FrameEnd U o U' L 5 48) := by
  refine MetFree.of_bodySF (plainFor_of_name own_pn_1) hisR ?_
  intro p e s m args below meth c s₁ Bd hml0 hP hK
  obtain ⟨rfl, hZ, hh⟩ := hP
  have hx := Bd.exec
  have hby := Bd.bytes
  have hml : c.maxLocals = 10 := hml0
  have hown : s.vm.findClass "com/example/planwright/planwright/io/GroupingCountPinLaw" = some m.cls := findClass_of_methodNamed Bd.named
  have hnm := (name_of_methodNamed Bd.named Bd.method).1
  have X0 : Stand p l e room_1 s m #[(.int p0), (.long q1), (.int p2)] below meth c s₁ [] 0 0 := Stand.of_body Bd
  have e0 : s₁.heap = h0 := by rw [← hh, Bd.state]; rfl
  have N0 := Fr.nil n0
  have K0 : Keep h0 h0 [] := Keep.refl h0 _
  have pre0 : ∀ t, Steps p.tables e below (s₁.setTop (mkF m 0 #[.val (.int p0), .val (.long q1), .second, .val (.int p2), .unset, .unset, .unset, .unset, .unset, .unset] [])) t → Steps p.tables e below (s₁.setTop (entryFrame m #[(.int p0), (.long q1), (.int p2)] maxLocals)) t := fun t k => castTop (own_ef_4 m p0 q1 p2) k
  obtain ⟨G, hG', eG⟩ := own_mask p0 15 4 (by decide) (by decide)
  have k162 : ∀ t, Steps p.tables e below (s₁.setTop (mkF m 6 #[.val (.int p0), .val (.long q1), .second, .val (.int p2), .val (.int (p0 &&& (15 : Int32))), .unset, .unset, .unset, .unset, .unset] [])) t → Steps p.tables e below (s₁.setTop (mkF m 0 #[.val (.int p0), .val (.long q1), .second, .val (.int p2), .unset, .unset, .unset, .unset, .unset, .unset] [])) t := by
    intro t h
    show Steps p.tables e below (s₁.setTop (mkF m 0 #[.val (.int p0), .val (.long q1), .second, .val (.int p2), .unset, .unset, .unset, .unset, .unset, .unset] [])) _
    refine XS.iloadN X0.here hx rfl (hb hby at_0) rfl ?_
    show Steps p.tables e below (s₁.setTop (mkF m 1 #[.val (.int p0), .val (.long q1), .second, .val (.int p2), .unset, .unset, .unset, .unset, .unset, .unset] [(.int p0)])) _
    refine XS.bipush X0.here hx rfl (hb hby at_1) ?_
    show Steps p.tables e below (s₁.setTop (mkF m 3 #[.val (.int p0), .val (.long q1), .second, .val (.int p2), .unset, .unset, .unset, .unset, .unset, .unset] [(.int (15 : Int32)), (.int p0)])) _
    refine XS.iand X0.here hx rfl (hb hby at_3) rfl ?_
    show Steps p.tables e below (s₁.setTop (mkF m 4 #[.val (.int p0), .val (.long q1), .second, .val (.int p2), .unset, .unset, .unset, .unset, .unset, .unset] [(.int (p0 &&& (15 : Int32)))])) _
    refine XS.istore X0.here hx rfl (hb hby at_4) rfl (l' := #[.val (.int p0), .val (.long q1), .second, .val (.int p2), .val (.int (p0 &&& (15 : Int32))), .unset, .unset, .unset, .unset, .unset]) rfl ?_
    exact h
  have r163 : (p0 &&& (15 : Int32)) = (Int32.ofNat G) := eG
  have k164 : ∀ t, Steps p.tables e below (s₁.setTop (mkF m 6 #[.val (.int p0), .val (.long q1), .second, .val (.int p2), .val (.int (Int32.ofNat G)), .unset, .unset, .unset, .unset, .unset] [])) t → Steps p.tables e below (s₁.setTop (mkF m 0 #[.val (.int p0), .val (.long q1), .second, .val (.int p2), .unset, .unset, .unset, .unset, .unset, .unset] [])) t := by first | (rw [← r163]; exact k162) | exact k162
  have k165 : ∀ t, Steps p.tables e below (s₁.setTop (mkF m 12 #[.val (.int p0), .val (.long q1), .second, .val (.int p2), .val (.int (Int32.ofNat G)), .val (.int ((Int32.ofNat G) + (1 : Int32))), .unset, .unset, .unset, .unset] [])) t → Steps p.tables e below (s₁.setTop (mkF m 0 #[.val (.int p0), .val (.long q1), .second, .val (.int p2), .unset, .unset, .unset, .unset, .unset, .unset] [])) t := by
    intro t h
    refine k164 t ?_
    show Steps p.tables e below (s₁.setTop (mkF m 6 #[.val (.int p0), .val (.long q1), .second, .val (.int p2), .val (.int (Int32.ofNat G)), .unset, .unset, .unset, .unset, .unset] [])) _
    refine XS.iload X0.here hx rfl (hb hby at_6) rfl ?_
    show Steps p.tables e below (s₁.setTop (mkF m 8 #[.val (.int p0), .val (.long q1), .second, .val (.int p2), .val (.int (Int32.ofNat G)), .unset, .unset, .unset, .unset, .unset] [(.int (Int32.ofNat G))])) _
    refine XS.iconst X0.here hx rfl (hb hby at_8) ?_
    show Steps p.tables e below (s₁.setTop (mkF m 9 #[.val (.int p0), .val (.long q1), .second, .val (.int p2), .val (.int (Int32.ofNat G)), .unset, .unset, .unset, .unset, .unset] [(.int (1 : Int32)), (.int (Int32.ofNat G))])) _
    refine XS.iadd X0.here hx rfl (hb hby at_9) rfl ?_
    show Steps p.tables e below (s₁.setTop (mkF m 10 #[.val (.int p0), .val (.long q1), .second, .val (.int p2), .val (.int (Int32.ofNat G)), .unset, .unset, .unset, .unset, .unset] [(.int ((Int32.ofNat G) + (1 : Int32)))])) _
    refine XS.istore X0.here hx rfl (hb hby at_10) rfl (l' := #[.val (.int p0), .val (.long q1), .second, .val (.int p2), .val (.int (Int32.ofNat G)), .val (.int ((Int32.ofNat G) + (1 : Int32))), .unset, .unset, .unset, .unset]) rfl ?_
    exact h
  have r166 : ((Int32.ofNat G) + (1 : Int32)) = (Int32.ofNat (G + 1)) := own_inc G
  have k167 : ∀ t, Steps p.tables e below (s₁.setTop (mkF m 12 #[.val (.int p0), .val (.long q1), .second, .val (.int p2), .val (.int (Int32.ofNat G)), .val (.int (Int32.ofNat (G + 1))), .unset, .unset, .unset, .unset] [])) t → Steps p.tables e below (s₁.setTop (mkF m 0 #[.val (.int p0), .val (.long q1), .second, .val (.int p2), .unset, .unset, .unset, .unset, .unset, .unset] [])) t := by first | (rw [← r166]; exact k165) | exact k165
  obtain ⟨T168, h168, k168, X168, e168, E168, A168, st168⟩ := newP X0 hx hZ (hw _ (List.mem_of_getElem? (i := 0) rfl)) e0 (g := (mkF m 14 #[.val (.int p0), .val (.long q1), .second, .val (.int p2), .val (.int (Int32.ofNat G)), .val (.int (Int32.ofNat (G + 1))), .unset, .unset, .unset, .unset] [(.int (6 : Int32))])) rfl (hb hby at_14) rfl (by decide) (cap := 6) (by decide) (by decide) (by decide) (by decide)
  obtain ⟨b168, g168⟩ : ∃ z, z = h0.size := ⟨_, rfl⟩
  rw [← g168] at A168 st168
  have g_b168 : n0 ≤ b168 := Nat.le_trans Z0 (Nat.le_of_eq g168.symm)
  have sz_b168 : h0.size ≤ b168 := Nat.le_trans K0.1 (Nat.le_of_eq g168.symm)
  have Z169 : n0 ≤ h168.size := Nat.le_trans Z0 E168.1
  have K170 := K0.ext E168
  have V_b168 : Arv Z h168 b168 k168 .int (6 : Int32) [(.int (0 : Int32)), (.int (0 : Int32)), (.int (0 : Int32)), (.int (0 : Int32)), (.int (0 : Int32)), (.int (0 : Int32))] (.int (0 : Int32)) := (Arv.new A168 (by decide)).pad (pad_rep [] (.int (0 : Int32)) 6)
  obtain ⟨_, _, ⟨T171, L171, k171, n171⟩, -, X171, ⟨Lc171, hQ171, l171, y171, z171⟩, st171⟩ := Jvm.LawKit.callS X168 hx (y := (⟨"com/example/planwright/planwright/io/GroupingCountPinLaw", "key", "(JII)I"⟩ : MethodName)) hown (mvT hZ (hw _ (List.mem_of_getElem? (i := 1) rfl))) (mvT hZ (hw _ (List.mem_of_getElem? (i := 2) rfl))) (mvT hZ (hw _ (List.mem_of_getElem? (i := 3) rfl))) (mvT hZ (hw _ (List.mem_of_getElem? (i := 4) rfl))) (by decide) (backOf (W := 2) (rmK l Z a0 hw [] q1 (0 : Int32) (Int32.ofNat (G + 1)) (G + 1) h168 n0 Z169 rfl (by omega) (by omega)) hZ (hw _ (List.mem_of_getElem? (i := 4) rfl)) (hw _ (List.mem_of_getElem? (i := 3) rfl)) (by decide) (by decide)) (g := (mkF m 25 #[.val (.int p0), .val (.long q1), .second, .val (.int p2), .val (.int (Int32.ofNat G)), .val (.int (Int32.ofNat (G + 1))), .val (.ref b168), .unset, .unset, .unset] [(.int (Int32.ofNat (G + 1))), (.int (0 : Int32)), (.long q1), (.int (0 : Int32)), (.ref b168)])) rfl (by rw [hml]; rfl) (argsL := [(.long q1), (.int (0 : Int32)), (.int (Int32.ofNat (G + 1)))]) (rest := [(.int (0 : Int32)), (.ref b168)]) (lenOf own_pd_0 rfl) rfl (by show 2 * 0 + _ ≤ _; exact Nat.le_of_eq rfl) (hb hby at_25) (fun _ _ => ⟨rfl, e168, (by decide : 1 + 0 ≤ _), (by decide : 6 + 0 ≤ _)⟩)
  dsimp only [Pt.U, Pt.locs, Pt.cells, Pt.slots] at X171 l171 y171 z171 st171 hQ171
  subst l171 y171 z171
  obtain ⟨n171k, hn171k, rfl, Nq171, eq171⟩ := hQ171
  have N171 := Fr.app N0 Nq171
  obtain ⟨cl172, Ar172, q172, S172, Ng172, H172, G172⟩ := id V_b168
  have hin172 : ¬ ((0 : Int32) < 0 ∨ cl172.slots.size ≤ ((0 : Int32)).toNatClampNeg) := inb_of S172 ⟨by decide, by decide⟩
  obtain ⟨T172, h172, X172, e172, W172, st172⟩ := stI X171 hx hZ eq171 Ar172 (j := (0 : Int32)) hin172 (g := (mkF m 28 #[.val (.int p0), .val (.long q1), .second, .val (.int p2), .val (.int (Int32.ofNat G)), .val (.int (Int32.ofNat (G + 1))), .val (.ref b168), .unset, .unset, .unset] [(.int (Int32.ofNat n171k - 1)), (.int (0 : Int32)), (.ref b168)])) rfl rfl (hb hby at_28)
  have V172 : Arv Z h172 b168 k168 .int (6 : Int32) [(.int (Int32.ofNat n171k - 1)), (.int (0 : Int32)), (.int (0 : Int32)), (.int (0 : Int32)), (.int (0 : Int32)), (.int (0 : Int32))] (.int (0 : Int32)) := Arv.set Ar172 q172 S172 Ng172 H172 G172 rfl W172 0 rfl (Nat.le_of_ble_eq_true rfl)
  have Z173 : n0 ≤ h172.size := Nat.le_trans Z169 (Keep.of_wr W172).1
  have K174 := K170.wr W172 (Or.inr sz_b168)
  have N172 := Fr.snoc X172 N171 g_b168
  obtain ⟨_, _, ⟨T175, L175, k175, n175⟩, -, X175, ⟨Lc175, hQ175, l175, y175, z175⟩, st175⟩ := Jvm.LawKit.callS X172 hx (y := (⟨"com/example/planwright/planwright/io/GroupingCountPinLaw", "key", "(JII)I"⟩ : MethodName)) hown (mvT hZ (hw _ (List.mem_of_getElem? (i := 1) rfl))) (mvT hZ (hw _ (List.mem_of_getElem? (i := 2) rfl))) (mvT hZ (hw _ (List.mem_of_getElem? (i := 3) rfl))) (mvT hZ (hw _ (List.mem_of_getElem? (i := 4) rfl))) (by decide) (backOf (W := 2) (rmK l Z a0 hw [] q1 (8 : Int32) (Int32.ofNat (G + 1)) (G + 1) h172 n0 Z173 rfl (by omega) (by omega)) hZ (hw _ (List.mem_of_getElem? (i := 4) rfl)) (hw _ (List.mem_of_getElem? (i := 3) rfl)) (by decide) (by decide)) (g := (mkF m 37 #[.val (.int p0), .val (.long q1), .second, .val (.int p2), .val (.int (Int32.ofNat G)), .val (.int (Int32.ofNat (G + 1))), .val (.ref b168), .unset, .unset, .unset] [(.int (Int32.ofNat (G + 1))), (.int (8 : Int32)), (.long q1), (.int (1 : Int32)), (.ref b168)])) rfl (by rw [hml]; rfl) (argsL := [(.long q1), (.int (8 : Int32)), (.int (Int32.ofNat (G + 1)))]) (rest := [(.int (1 : Int32)), (.ref b168)]) (lenOf own_pd_0 rfl) rfl (by show 2 * 0 + _ ≤ _; exact Nat.le_of_eq rfl) (hb hby at_37) (fun _ _ => ⟨rfl, e172, (by decide : 1 + 0 ≤ _), (by decide : 6 + 0 ≤ _)⟩)
  dsimp only [Pt.U, Pt.locs, Pt.cells, Pt.slots] at X175 l175 y175 z175 st175 hQ175
  subst l175 y175 z175
  obtain ⟨n175k, hn175k, rfl, Nq175, eq175⟩ := hQ175
  have N175 := Fr.app N172 Nq175
  obtain ⟨cl176, Ar176, q176, S176, Ng176, H176, G176⟩ := id V172
  have hin176 : ¬ ((1 : Int32) < 0 ∨ cl176.slots.size ≤ ((1 : Int32)).toNatClampNeg) := inb_of S176 ⟨by decide, by decide⟩
  obtain ⟨T176, h176, X176, e176, W176, st176⟩ := stI X175 hx hZ eq175 Ar176 (j := (1 : Int32)) hin176 (g := (mkF m 40 #[.val (.int p0), .val (.long q1), .second, .val (.int p2), .val (.int (Int32.ofNat G)), .val (.int (Int32.ofNat (G + 1))), .val (.ref b168), .unset, .unset, .unset] [(.int (Int32.ofNat n175k - 1)), (.int (1 : Int32)), (.ref b168)])) rfl rfl (hb hby at_40)
  have V176 : Arv Z h176 b168 k168 .int (6 : Int32) [(.int (Int32.ofNat n171k - 1)), (.int (Int32.ofNat n175k - 1)), (.int (0 : Int32)), (.int (0 : Int32)), (.int (0 : Int32)), (.int (0 : Int32))] (.int (0 : Int32)) := Arv.set Ar176 q176 S176 Ng176 H176 G176 rfl W176 1 rfl (Nat.le_of_ble_eq_true rfl)
  have Z177 : n0 ≤ h176.size := Nat.le_trans Z173 (Keep.of_wr W176).1
  have K178 := K174.wr W176 (Or.inr sz_b168)
  have N176 := Fr.snoc X176 N175 g_b168
  have k179 : ∀ t, Steps p.tables e below (T176.setTop (mkF m 47 #[.val (.int p0), .val (.long q1), .second, .val (.int p2), .val (.int (Int32.ofNat G)), .val (.int (Int32.ofNat (G + 1))), .val (.ref b168), .unset, .unset, .unset] [(.int (16 : Int32)), (.long q1), (.int (2 : Int32)), (.ref b168)])) t → Steps p.tables e below (s₁.setTop (mkF m 0 #[.val (.int p0), .val (.long q1), .second, .val (.int p2), .unset, .unset, .unset, .unset, .unset, .unset] [])) t := by
    intro t h
    refine k167 t ?_
    show Steps p.tables e below (s₁.setTop (mkF m 12 #[.val (.int p0), .val (.long q1), .second, .val (.int p2), .val (.int (Int32.ofNat G)), .val (.int (Int32.ofNat (G + 1))), .unset, .unset, .unset, .unset] [])) _
    refine XS.bipush X0.here hx rfl (hb hby at_12) ?_
    show Steps p.tables e below (s₁.setTop (mkF m 14 #[.val (.int p0), .val (.long q1), .second, .val (.int p2), .val (.int (Int32.ofNat G)), .val (.int (Int32.ofNat (G + 1))), .unset, .unset, .unset, .unset] [(.int (6 : Int32))])) _
    refine st168 _ ?_
    show Steps p.tables e below (T168.setTop (mkF m 16 #[.val (.int p0), .val (.long q1), .second, .val (.int p2), .val (.int (Int32.ofNat G)), .val (.int (Int32.ofNat (G + 1))), .unset, .unset, .unset, .unset] [(.ref b168)])) _
    refine XS.astore X168.here hx rfl (hb hby at_16) rfl rfl (l' := #[.val (.int p0), .val (.long q1), .second, .val (.int p2), .val (.int (Int32.ofNat G)), .val (.int (Int32.ofNat (G + 1))), .val (.ref b168), .unset, .unset, .unset]) rfl ?_
    show Steps p.tables e below (T168.setTop (mkF m 18 #[.val (.int p0), .val (.long q1), .second, .val (.int p2), .val (.int (Int32.ofNat G)), .val (.int (Int32.ofNat (G + 1))), .val (.ref b168), .unset, .unset, .unset] [])) _
    refine XS.aload X168.here hx rfl (hb hby at_18) rfl rfl ?_
    show Steps p.tables e below (T168.setTop (mkF m 20 #[.val (.int p0), .val (.long q1), .second, .val (.int p2), .val (.int (Int32.ofNat G)), .val (.int (Int32.ofNat (G + 1))), .val (.ref b168), .unset, .unset, .unset] [(.ref b168)])) _
    refine XS.iconst X168.here hx rfl (hb hby at_20) ?_
    show Steps p.tables e below (T168.setTop (mkF m 21 #[.val (.int p0), .val (.long q1), .second, .val (.int p2), .val (.int (Int32.ofNat G)), .val (.int (Int32.ofNat (G + 1))), .val (.ref b168), .unset, .unset, .unset] [(.int (0 : Int32)), (.ref b168)])) _
    refine XS.lloadN X168.here hx rfl (hb hby at_21) rfl ?_
    show Steps p.tables e below (T168.setTop (mkF m 22 #[.val (.int p0), .val (.long q1), .second, .val (.int p2), .val (.int (Int32.ofNat G)), .val (.int (Int32.ofNat (G + 1))), .val (.ref b168), .unset, .unset, .unset] [(.long q1), (.int (0 : Int32)), (.ref b168)])) _
    refine XS.iconst X168.here hx rfl (hb hby at_22) ?_
    show Steps p.tables e below (T168.setTop (mkF m 23 #[.val (.int p0), .val (.long q1), .second, .val (.int p2), .val (.int (Int32.ofNat G)), .val (.int (Int32.ofNat (G + 1))), .val (.ref b168), .unset, .unset, .unset] [(.int (0 : Int32)), (.long q1), (.int (0 : Int32)), (.ref b168)])) _
    refine XS.iload X168.here hx rfl (hb hby at_23) rfl ?_
    show Steps p.tables e below (T168.setTop (mkF m 25 #[.val (.int p0), .val (.long q1), .second, .val (.int p2), .val (.int (Int32.ofNat G)), .val (.int (Int32.ofNat (G + 1))), .val (.ref b168), .unset, .unset, .unset] [(.int (Int32.ofNat (G + 1))), (.int (0 : Int32)), (.long q1), (.int (0 : Int32)), (.ref b168)])) _
    refine st171 _ ?_
    show Steps p.tables e below (T171.setTop (mkF m 28 #[.val (.int p0), .val (.long q1), .second, .val (.int p2), .val (.int (Int32.ofNat G)), .val (.int (Int32.ofNat (G + 1))), .val (.ref b168), .unset, .unset, .unset] [(.int (Int32.ofNat n171k - 1)), (.int (0 : Int32)), (.ref b168)])) _
    refine st172 _ ?_
    show Steps p.tables e below (T172.setTop (mkF m 29 #[.val (.int p0), .val (.long q1), .second, .val (.int p2), .val (.int (Int32.ofNat G)), .val (.int (Int32.ofNat (G + 1))), .val (.ref b168), .unset, .unset, .unset] [])) _
    refine XS.aload X172.here hx rfl (hb hby at_29) rfl rfl ?_
    show Steps p.tables e below (T172.setTop (mkF m 31 #[.val (.int p0), .val (.long q1), .second, .val (.int p2), .val (.int (Int32.ofNat G)), .val (.int (Int32.ofNat (G + 1))), .val (.ref b168), .unset, .unset, .unset] [(.ref b168)])) _
    refine XS.iconst X172.here hx rfl (hb hby at_31) ?_
    show Steps p.tables e below (T172.setTop (mkF m 32 #[.val (.int p0), .val (.long q1), .second, .val (.int p2), .val (.int (Int32.ofNat G)), .val (.int (Int32.ofNat (G + 1))), .val (.ref b168), .unset, .unset, .unset] [(.int (1 : Int32)), (.ref b168)])) _
    refine XS.lloadN X172.here hx rfl (hb hby at_32) rfl ?_
    show Steps p.tables e below (T172.setTop (mkF m 33 #[.val (.int p0), .val (.long q1), .second, .val (.int p2), .val (.int (Int32.ofNat G)), .val (.int (Int32.ofNat (G + 1))), .val (.ref b168), .unset, .unset, .unset] [(.long q1), (.int (1 : Int32)), (.ref b168)])) _
    refine XS.bipush X172.here hx rfl (hb hby at_33) ?_
    show Steps p.tables e below (T172.setTop (mkF m 35 #[.val (.int p0), .val (.long q1), .second, .val (.int p2), .val (.int (Int32.ofNat G)), .val (.int (Int32.ofNat (G + 1))), .val (.ref b168), .unset, .unset, .unset] [(.int (8 : Int32)), (.long q1), (.int (1 : Int32)), (.ref b168)])) _
    refine XS.iload X172.here hx rfl (hb hby at_35) rfl ?_
    show Steps p.tables e below (T172.setTop (mkF m 37 #[.val (.int p0), .val (.long q1), .second, .val (.int p2), .val (.int (Int32.ofNat G)), .val (.int (Int32.ofNat (G + 1))), .val (.ref b168), .unset, .unset, .unset] [(.int (Int32.ofNat (G + 1))), (.int (8 : Int32)), (.long q1), (.int (1 : Int32)), (.ref b168)])) _
    refine st175 _ ?_
    show Steps p.tables e below (T175.setTop (mkF m 40 #[.val (.int p0), .val (.long q1), .second, .val (.int p2), .val (.int (Int32.ofNat G)), .val (.int (Int32.ofNat (G + 1))), .val (.ref b168), .unset, .unset, .unset] [(.int (Int32.ofNat n175k - 1)), (.int (1 : Int32)), (.ref b168)])) _
    refine st176 _ ?_
    show Steps p.tables e below (T176.setTop (mkF m 41 #[.val (.int p0), .val (.long q1), .second, .val (.int p2), .val (.int (Int32.ofNat G)), .val (.int (Int32.ofNat (G + 1))), .val (.ref b168), .unset, .unset, .unset] [])) _
    refine XS.aload X176.here hx rfl (hb hby at_41) rfl rfl ?_
    show Steps p.tables e below (T176.setTop (mkF m 43 #[.val (.int p0), .val (.long q1), .second, .val (.int p2), .val (.int (Int32.ofNat G)), .val (.int (Int32.ofNat (G + 1))), .val (.ref b168), .unset, .unset, .unset] [(.ref b168)])) _
    refine XS.iconst X176.here hx rfl (hb hby at_43) ?_
    show Steps p.tables e below (T176.setTop (mkF m 44 #[.val (.int p0), .val (.long q1), .second, .val (.int p2), .val (.int (Int32.ofNat G)), .val (.int (Int32.ofNat (G + 1))), .val (.ref b168), .unset, .unset, .unset] [(.int (2 : Int32)), (.ref b168)])) _
    refine XS.lloadN X176.here hx rfl (hb hby at_44) rfl ?_
    show Steps p.tables e below (T176.setTop (mkF m 45 #[.val (.int p0), .val (.long q1), .second, .val (.int p2), .val (.int (Int32.ofNat G)), .val (.int (Int32.ofNat (G + 1))), .val (.ref b168), .unset, .unset, .unset] [(.long q1), (.int (2 : Int32)), (.ref b168)])) _
    refine XS.bipush X176.here hx rfl (hb hby at_45) ?_
    exact h
  obtain ⟨_, _, ⟨T180, L180, k180, n180⟩, -, X180, ⟨Lc180, hQ180, l180, y180, z180⟩, st180⟩ := Jvm.LawKit.callS X176 hx (y := (⟨"com/example/planwright/planwright/io/GroupingCountPinLaw", "key", "(JII)I"⟩ : MethodName)) hown (mvT hZ (hw _ (List.mem_of_getElem? (i := 1) rfl))) (mvT hZ (hw _ (List.mem_of_getElem? (i := 2) rfl))) (mvT hZ (hw _ (List.mem_of_getElem? (i := 3) rfl))) (mvT hZ (hw _ (List.mem_of_getElem? (i := 4) rfl))) (by decide) (backOf (W := 2) (rmK l Z a0 hw [] q1 (16 : Int32) (Int32.ofNat (G + 1)) (G + 1) h176 n0 Z177 rfl (by omega) (by omega)) hZ (hw _ (List.mem_of_getElem? (i := 4) rfl)) (hw _ (List.mem_of_getElem? (i := 3) rfl)) (by decide) (by decide)) (g := (mkF m 49 #[.val (.int p0), .val (.long q1), .second, .val (.int p2), .val (.int (Int32.ofNat G)), .val (.int (Int32.ofNat (G + 1))), .val (.ref b168), .unset, .unset, .unset] [(.int (Int32.ofNat (G + 1))), (.int (16 : Int32)), (.long q1), (.int (2 : Int32)), (.ref b168)])) rfl (by rw [hml]; rfl) (argsL := [(.long q1), (.int (16 : Int32)), (.int (Int32.ofNat (G + 1)))]) (rest := [(.int (2 : Int32)), (.ref b168)]) (lenOf own_pd_0 rfl) rfl (by show 2 * 0 + _ ≤ _; exact Nat.le_of_eq rfl) (hb hby at_49) (fun _ _ => ⟨rfl, e176, (by decide : 1 + 0 ≤ _), (by decide : 6 + 0 ≤ _)⟩)
  dsimp only [Pt.U, Pt.locs, Pt.cells, Pt.slots] at X180 l180 y180 z180 st180 hQ180
  subst l180 y180 z180
  obtain ⟨n180k, hn180k, rfl, Nq180, eq180⟩ := hQ180
  have N180 := Fr.app N176 Nq180
  obtain ⟨cl181, Ar181, q181, S181, Ng181, H181, G181⟩ := id V176
  have hin181 : ¬ ((2 : Int32) < 0 ∨ cl181.slots.size ≤ ((2 : Int32)).toNatClampNeg) := inb_of S181 ⟨by decide, by decide⟩
  obtain ⟨T181, h181, X181, e181, W181, st181⟩ := stI X180 hx hZ eq180 Ar181 (j := (2 : Int32)) hin181 (g := (mkF m 52 #[.val (.int p0), .val (.long q1), .second, .val (.int p2), .val (.int (Int32.ofNat G)), .val (.int (Int32.ofNat (G + 1))), .val (.ref b168), .unset, .unset, .unset] [(.int (Int32.ofNat n180k - 1)), (.int (2 : Int32)), (.ref b168)])) rfl rfl (hb hby at_52)
  have V181 : Arv Z h181 b168 k168 .int (6 : Int32) [(.int (Int32.ofNat n171k - 1)), (.int (Int32.ofNat n175k - 1)), (.int (Int32.ofNat n180k - 1)), (.int (0 : Int32)), (.int (0 : Int32)), (.int (0 : Int32))] (.int (0 : Int32)) := Arv.set Ar181 q181 S181 Ng181 H181 G181 rfl W181 2 rfl (Nat.le_of_ble_eq_true rfl)
  have Z182 : n0 ≤ h181.size := Nat.le_trans Z177 (Keep.of_wr W181).1
  have K183 := K178.wr W181 (Or.inr sz_b168)
  have N181 := Fr.snoc X181 N180 g_b168
  obtain ⟨_, _, ⟨T184, L184, k184, n184⟩, -, X184, ⟨Lc184, hQ184, l184, y184, z184⟩, st184⟩ := Jvm.LawKit.callS X181 hx (y := (⟨"com/example/planwright/planwright/io/GroupingCountPinLaw", "key", "(JII)I"⟩ : MethodName)) hown (mvT hZ (hw _ (List.mem_of_getElem? (i := 1) rfl))) (mvT hZ (hw _ (List.mem_of_getElem? (i := 2) rfl))) (mvT hZ (hw _ (List.mem_of_getElem? (i := 3) rfl))) (mvT hZ (hw _ (List.mem_of_getElem? (i := 4) rfl))) (by decide) (backOf (W := 2) (rmK l Z a0 hw [] q1 (24 : Int32) (Int32.ofNat (G + 1)) (G + 1) h181 n0 Z182 rfl (by omega) (by omega)) hZ (hw _ (List.mem_of_getElem? (i := 4) rfl)) (hw _ (List.mem_of_getElem? (i := 3) rfl)) (by decide) (by decide)) (g := (mkF m 61 #[.val (.int p0), .val (.long q1), .second, .val (.int p2), .val (.int (Int32.ofNat G)), .val (.int (Int32.ofNat (G + 1))), .val (.ref b168), .unset, .unset, .unset] [(.int (Int32.ofNat (G + 1))), (.int (24 : Int32)), (.long q1), (.int (3 : Int32)), (.ref b168)])) rfl (by rw [hml]; rfl) (argsL := [(.long q1), (.int (24 : Int32)), (.int (Int32.ofNat (G + 1)))]) (rest := [(.int (3 : Int32)), (.ref b168)]) (lenOf own_pd_0 rfl) rfl (by show 2 * 0 + _ ≤ _; exact Nat.le_of_eq rfl) (hb hby at_61) (fun _ _ => ⟨rfl, e181, (by decide : 1 + 0 ≤ _), (by decide : 6 + 0 ≤ _)⟩)
  dsimp only [Pt.U, Pt.locs, Pt.cells, Pt.slots] at X184 l184 y184 z184 st184 hQ184
  subst l184 y184 z184
  obtain ⟨n184k, hn184k, rfl, Nq184, eq184⟩ := hQ184
  have N184 := Fr.app N181 Nq184
  obtain ⟨cl185, Ar185, q185, S185, Ng185, H185, G185⟩ := id V181
  have hin185 : ¬ ((3 : Int32) < 0 ∨ cl185.slots.size ≤ ((3 : Int32)).toNatClampNeg) := inb_of S185 ⟨by decide, by decide⟩
  obtain ⟨T185, h185, X185, e185, W185, st185⟩ := stI X184 hx hZ eq184 Ar185 (j := (3 : Int32)) hin185 (g := (mkF m 64 #[.val (.int p0), .val (.long q1), .second, .val (.int p2), .val (.int (Int32.ofNat G)), .val (.int (Int32.ofNat (G + 1))), .val (.ref b168), .unset, .unset, .unset] [(.int (Int32.ofNat n184k - 1)), (.int (3 : Int32)), (.ref b168)])) rfl rfl (hb hby at_64)
  have V185 : Arv Z h185 b168 k168 .int (6 : Int32) [(.int (Int32.ofNat n171k - 1)), (.int (Int32.ofNat n175k - 1)), (.int (Int32.ofNat n180k - 1)), (.int (Int32.ofNat n184k - 1)), (.int (0 : Int32)), (.int (0 : Int32))] (.int (0 : Int32)) := Arv.set Ar185 q185 S185 Ng185 H185 G185 rfl W185 3 rfl (Nat.le_of_ble_eq_true rfl)
  have Z186 : n0 ≤ h185.size := Nat.le_trans Z182 (Keep.of_wr W185).1
  have K187 := K183.wr W185 (Or.inr sz_b168)
  have N185 := Fr.snoc X185 N184 g_b168
  obtain ⟨_, _, ⟨T188, L188, k188, n188⟩, -, X188, ⟨Lc188, hQ188, l188, y188, z188⟩, st188⟩ := Jvm.LawKit.callS X185 hx (y := (⟨"com/example/planwright/planwright/io/GroupingCountPinLaw", "key", "(JII)I"⟩ : MethodName)) hown (mvT hZ (hw _ (List.mem_of_getElem? (i := 1) rfl))) (mvT hZ (hw _ (List.mem_of_getElem? (i := 2) rfl))) (mvT hZ (hw _ (List.mem_of_getElem? (i := 3) rfl))) (mvT hZ (hw _ (List.mem_of_getElem? (i := 4) rfl))) (by decide) (backOf (W := 2) (rmK l Z a0 hw [] q1 (32 : Int32) (Int32.ofNat (G + 1)) (G + 1) h185 n0 Z186 rfl (by omega) (by omega)) hZ (hw _ (List.mem_of_getElem? (i := 4) rfl)) (hw _ (List.mem_of_getElem? (i := 3) rfl)) (by decide) (by decide)) (g := (mkF m 73 #[.val (.int p0), .val (.long q1), .second, .val (.int p2), .val (.int (Int32.ofNat G)), .val (.int (Int32.ofNat (G + 1))), .val (.ref b168), .unset, .unset, .unset] [(.int (Int32.ofNat (G + 1))), (.int (32 : Int32)), (.long q1), (.int (4 : Int32)), (.ref b168)])) rfl (by rw [hml]; rfl) (argsL := [(.long q1), (.int (32 : Int32)), (.int (Int32.ofNat (G + 1)))]) (rest := [(.int (4 : Int32)), (.ref b168)]) (lenOf own_pd_0 rfl) rfl (by show 2 * 0 + _ ≤ _; exact Nat.le_of_eq rfl) (hb hby at_73) (fun _ _ => ⟨rfl, e185, (by decide : 1 + 0 ≤ _), (by decide : 6 + 0 ≤ _)⟩)
  dsimp only [Pt.U, Pt.locs, Pt.cells, Pt.slots] at X188 l188 y188 z188 st188 hQ188
  subst l188 y188 z188
  obtain ⟨n188k, hn188k, rfl, Nq188, eq188⟩ := hQ188
  have N188 := Fr.app N185 Nq188
  obtain ⟨cl189, Ar189, q189, S189, Ng189, H189, G189⟩ := id V185
  have hin189 : ¬ ((4 : Int32) < 0 ∨ cl189.slots.size ≤ ((4 : Int32)).toNatClampNeg) := inb_of S189 ⟨by decide, by decide⟩
  obtain ⟨T189, h189, X189, e189, W189, st189⟩ := stI X188 hx hZ eq188 Ar189 (j := (4 : Int32)) hin189 (g := (mkF m 76 #[.val (.int p0), .val (.long q1), .second, .val (.int p2), .val (.int (Int32.ofNat G)), .val (.int (Int32.ofNat (G + 1))), .val (.ref b168), .unset, .unset, .unset] [(.int (Int32.ofNat n188k - 1)), (.int (4 : Int32)), (.ref b168)])) rfl rfl (hb hby at_76)
  have V189 : Arv Z h189 b168 k168 .int (6 : Int32) [(.int (Int32.ofNat n171k - 1)), (.int (Int32.ofNat n175k - 1)), (.int (Int32.ofNat n180k - 1)), (.int (Int32.ofNat n184k - 1)), (.int (Int32.ofNat n188k - 1)), (.int (0 : Int32))] (.int (0 : Int32)) := Arv.set Ar189 q189 S189 Ng189 H189 G189 rfl W189 4 rfl (Nat.le_of_ble_eq_true rfl)
  have Z190 : n0 ≤ h189.size := Nat.le_trans Z186 (Keep.of_wr W189).1
  have K191 := K187.wr W189 (Or.inr sz_b168)
  have N189 := Fr.snoc X189 N188 g_b168
  have k192 : ∀ t, Steps p.tables e below (T189.setTop (mkF m 83 #[.val (.int p0), .val (.long q1), .second, .val (.int p2), .val (.int (Int32.ofNat G)), .val (.int (Int32.ofNat (G + 1))), .val (.ref b168), .unset, .unset, .unset] [(.int (40 : Int32)), (.long q1), (.int (5 : Int32)), (.ref b168)])) t → Steps p.tables e below (s₁.setTop (mkF m 0 #[.val (.int p0), .val (.long q1), .second, .val (.int p2), .unset, .unset, .unset, .unset, .unset, .unset] [])) t := by
    intro t h
    refine k179 t ?_
    show Steps p.tables e below (T176.setTop (mkF m 47 #[.val (.int p0), .val (.long q1), .second, .val (.int p2), .val (.int (Int32.ofNat G)), .val (.int (Int32.ofNat (G + 1))), .val (.ref b168), .unset, .unset, .unset] [(.int (16 : Int32)), (.long q1), (.int (2 : Int32)), (.ref b168)])) _
    refine XS.iload X176.here hx rfl (hb hby at_47) rfl ?_
    show Steps p.tables e below (T176.setTop (mkF m 49 #[.val (.int p0), .val (.long q1), .second, .val (.int p2), .val (.int (Int32.ofNat G)), .val (.int (Int32.ofNat (G + 1))), .val (.ref b168), .unset, .unset, .unset] [(.int (Int32.ofNat (G + 1))), (.int (16 : Int32)), (.long q1), (.int (2 : Int32)), (.ref b168)])) _
    refine st180 _ ?_
    show Steps p.tables e below (T180.setTop (mkF m 52 #[.val (.int p0), .val (.long q1), .second, .val (.int p2), .val (.int (Int32.ofNat G)), .val (.int (Int32.ofNat (G + 1))), .val (.ref b168), .unset, .unset, .unset] [(.int (Int32.ofNat n180k - 1)), (.int (2 : Int32)), (.ref b168)])) _
    refine st181 _ ?_
    show Steps p.tables e below (T181.setTop (mkF m 53 #[.val (.int p0), .val (.long q1), .second, .val (.int p2), .val (.int (Int32.ofNat G)), .val (.int (Int32.ofNat (G + 1))), .val (.ref b168), .unset, .unset, .unset] [])) _
    refine XS.aload X181.here hx rfl (hb hby at_53) rfl rfl ?_
    show Steps p.tables e below (T181.setTop (mkF m 55 #[.val (.int p0), .val (.long q1), .second, .val (.int p2), .val (.int (Int32.ofNat G)), .val (.int (Int32.ofNat (G + 1))), .val (.ref b168), .unset, .unset, .unset] [(.ref b168)])) _
    refine XS.iconst X181.here hx rfl (hb hby at_55) ?_
    show Steps p.tables e below (T181.setTop (mkF m 56 #[.val (.int p0), .val (.long q1), .second, .val (.int p2), .val (.int (Int32.ofNat G)), .val (.int (Int32.ofNat (G + 1))), .val (.ref b168), .unset, .unset, .unset] [(.int (3 : Int32)), (.ref b168)])) _
    refine XS.lloadN X181.here hx rfl (hb hby at_56) rfl ?_
    show Steps p.tables e below (T181.setTop (mkF m 57 #[.val (.int p0), .val (.long q1), .second, .val (.int p2), .val (.int (Int32.ofNat G)), .val (.int (Int32.ofNat (G + 1))), .val (.ref b168), .unset, .unset, .unset] [(.long q1), (.int (3 : Int32)), (.ref b168)])) _
    refine XS.bipush X181.here hx rfl (hb hby at_57) ?_
    show Steps p.tables e below (T181.setTop (mkF m 59 #[.val (.int p0), .val (.long q1), .second, .val (.int p2), .val (.int (Int32.ofNat G)), .val (.int (Int32.ofNat (G + 1))), .val (.ref b168), .unset, .unset, .unset] [(.int (24 : Int32)), (.long q1), (.int (3 : Int32)), (.ref b168)])) _
    refine XS.iload X181.here hx rfl (hb hby at_59) rfl ?_
    show Steps p.tables e below (T181.setTop (mkF m 61 #[.val (.int p0), .val (.long q1), .second, .val (.int p2), .val (.int (Int32.ofNat G)), .val (.int (Int32.ofNat (G + 1))), .val (.ref b168), .unset, .unset, .unset] [(.int (Int32.ofNat (G + 1))), (.int (24 : Int32)), (.long q1), (.int (3 : Int32)), (.ref b168)])) _
    refine st184 _ ?_
    show Steps p.tables e below (T184.setTop (mkF m 64 #[.val (.int p0), .val (.long q1), .second, .val (.int p2), .val (.int (Int32.ofNat G)), .val (.int (Int32.ofNat (G + 1))), .val (.ref b168), .unset, .unset, .unset] [(.int (Int32.ofNat n184k - 1)), (.int (3 : Int32)), (.ref b168)])) _
    refine st185 _ ?_
    show Steps p.tables e below (T185.setTop (mkF m 65 #[.val (.int p0), .val (.long q1), .second, .val (.int p2), .val (.int (Int32.ofNat G)), .val (.int (Int32.ofNat (G + 1))), .val (.ref b168), .unset, .unset, .unset] [])) _
    refine XS.aload X185.here hx rfl (hb hby at_65) rfl rfl ?_
    show Steps p.tables e below (T185.setTop (mkF m 67 #[.val (.int p0), .val (.long q1), .second, .val (.int p2), .val (.int (Int32.ofNat G)), .val (.int (Int32.ofNat (G + 1))), .val (.ref b168), .unset, .unset, .unset] [(.ref b168)])) _
    refine XS.iconst X185.here hx rfl (hb hby at_67) ?_
    show Steps p.tables e below (T185.setTop (mkF m 68 #[.val (.int p0), .val (.long q1), .second, .val (.int p2), .val (.int (Int32.ofNat G)), .val (.int (Int32.ofNat (G + 1))), .val (.ref b168), .unset, .unset, .unset] [(.int (4 : Int32)), (.ref b168)])) _
    refine XS.lloadN X185.here hx rfl (hb hby at_68) rfl ?_
    show Steps p.tables e below (T185.setTop (mkF m 69 #[.val (.int p0), .val (.long q1), .second, .val (.int p2), .val (.int (Int32.ofNat G)), .val (.int (Int32.ofNat (G + 1))), .val (.ref b168), .unset, .unset, .unset] [(.long q1), (.int (4 : Int32)), (.ref b168)])) _
    refine XS.bipush X185.here hx rfl (hb hby at_69) ?_
    show Steps p.tables e below (T185.setTop (mkF m 71 #[.val (.int p0), .val (.long q1), .second, .val (.int p2), .val (.int (Int32.ofNat G)), .val (.int (Int32.ofNat (G + 1))), .val (.ref b168), .unset, .unset, .unset] [(.int (32 : Int32)), (.long q1), (.int (4 : Int32)), (.ref b168)])) _
    refine XS.iload X185.here hx rfl (hb hby at_71) rfl ?_
    show Steps p.tables e below (T185.setTop (mkF m 73 #[.val (.int p0), .val (.long q1), .second, .val (.int p2), .val (.int (Int32.ofNat G)), .val (.int (Int32.ofNat (G + 1))), .val (.ref b168), .unset, .unset, .unset] [(.int (Int32.ofNat (G + 1))), (.int (32 : Int32)), (.long q1), (.int (4 : Int32)), (.ref b168)])) _
    refine st188 _ ?_
    show Steps p.tables e below (T188.setTop (mkF m 76 #[.val (.int p0), .val (.long q1), .second, .val (.int p2), .val (.int (Int32.ofNat G)), .val (.int (Int32.ofNat (G + 1))), .val (.ref b168), .unset, .unset, .unset] [(.int (Int32.ofNat n188k - 1)), (.int (4 : Int32)), (.ref b168)])) _
    refine st189 _ ?_
    show Steps p.tables e below (T189.setTop (mkF m 77 #[.val (.int p0), .val (.long q1), .second, .val (.int p2), .val (.int (Int32.ofNat G)), .val (.int (Int32.ofNat (G + 1))), .val (.ref b168), .unset, .unset, .unset] [])) _
    refine XS.aload X189.here hx rfl (hb hby at_77) rfl rfl ?_
    show Steps p.tables e below (T189.setTop (mkF m 79 #[.val (.int p0), .val (.long q1), .second, .val (.int p2), .val (.int (Int32.ofNat G)), .val (.int (Int32.ofNat (G + 1))), .val (.ref b168), .unset, .unset, .unset] [(.ref b168)])) _
    refine XS.iconst X189.here hx rfl (hb hby at_79) ?_
    show Steps p.tables e below (T189.setTop (mkF m 80 #[.val (.int p0), .val (.long q1), .second, .val (.int p2), .val (.int (Int32.ofNat G)), .val (.int (Int32.ofNat (G + 1))), .val (.ref b168), .unset, .unset, .unset] [(.int (5 : Int32)), (.ref b168)])) _
    refine XS.lloadN X189.here hx rfl (hb hby at_80) rfl ?_
    show Steps p.tables e below (T189.setTop (mkF m 81 #[.val (.int p0), .val (.long q1), .second, .val (.int p2), .val (.int (Int32.ofNat G)), .val (.int (Int32.ofNat (G + 1))), .val (.ref b168), .unset, .unset, .unset] [(.long q1), (.int (5 : Int32)), (.ref b168)])) _
    refine XS.bipush X189.here hx rfl (hb hby at_81) ?_
    exact h
  obtain ⟨_, _, ⟨T193, L193, k193, n193⟩, -, X193, ⟨Lc193, hQ193, l193, y193, z193⟩, st193⟩ := Jvm.LawKit.callS X189 hx (y := (⟨"com/example/planwright/planwright/io/GroupingCountPinLaw", "key", "(JII)I"⟩ : MethodName)) hown (mvT hZ (hw _ (List.mem_of_getElem? (i := 1) rfl))) (mvT hZ (hw _ (List.mem_of_getElem? (i := 2) rfl))) (mvT hZ (hw _ (List.mem_of_getElem? (i := 3) rfl))) (mvT hZ (hw _ (List.mem_of_getElem? (i := 4) rfl))) (by decide) (backOf (W := 2) (rmK l Z a0 hw [] q1 (40 : Int32) (Int32.ofNat (G + 1)) (G + 1) h189 n0 Z190 rfl (by omega) (by omega)) hZ (hw _ (List.mem_of_getElem? (i := 4) rfl)) (hw _ (List.mem_of_getElem? (i := 3) rfl)) (by decide) (by decide)) (g := (mkF m 85 #[.val (.int p0), .val (.long q1), .second, .val (.int p2), .val (.int (Int32.ofNat G)), .val (.int (Int32.ofNat (G + 1))), .val (.ref b168), .unset, .unset, .unset] [(.int (Int32.ofNat (G + 1))), (.int (40 : Int32)), (.long q1), (.int (5 : Int32)), (.ref b168)])) rfl (by rw [hml]; rfl) (argsL := [(.long q1), (.int (40 : Int32)), (.int (Int32.ofNat (G + 1)))]) (rest := [(.int (5 : Int32)), (.ref b168)]) (lenOf own_pd_0 rfl) rfl (by show 2 * 0 + _ ≤ _; exact Nat.le_of_eq rfl) (hb hby at_85) (fun _ _ => ⟨rfl, e189, (by decide : 1 + 0 ≤ _), (by decide : 6 + 0 ≤ _)⟩)
  dsimp only [Pt.U, Pt.locs, Pt.cells, Pt.slots] at X193 l193 y193 z193 st193 hQ193
  subst l193 y193 z193
  obtain ⟨n193k, hn193k, rfl, Nq193, eq193⟩ := hQ193
  have N193 := Fr.app N189 Nq193
  obtain ⟨cl194, Ar194, q194, S194, Ng194, H194, G194⟩ := id V189
  have hin194 : ¬ ((5 : Int32) < 0 ∨ cl194.slots.size ≤ ((5 : Int32)).toNatClampNeg) := inb_of S194 ⟨by decide, by decide⟩
  obtain ⟨T194, h194, X194, e194, W194, st194⟩ := stI X193 hx hZ eq193 Ar194 (j := (5 : Int32)) hin194 (g := (mkF m 88 #[.val (.int p0), .val (.long q1), .second, .val (.int p2), .val (.int (Int32.ofNat G)), .val (.int (Int32.ofNat (G + 1))), .val (.ref b168), .unset, .unset, .unset] [(.int (Int32.ofNat n193k - 1)), (.int (5 : Int32)), (.ref b168)])) rfl rfl (hb hby at_88)
  have V194 : Arv Z h194 b168 k168 .int (6 : Int32) [(.int (Int32.ofNat n171k - 1)), (.int (Int32.ofNat n175k - 1)), (.int (Int32.ofNat n180k - 1)), (.int (Int32.ofNat n184k - 1)), (.int (Int32.ofNat n188k - 1)), (.int (Int32.ofNat n193k - 1))] (.int (0 : Int32)) := Arv.set Ar194 q194 S194 Ng194 H194 G194 rfl W194 5 rfl (Nat.le_of_ble_eq_true rfl)
  have Z195 : n0 ≤ h194.size := Nat.le_trans Z190 (Keep.of_wr W194).1
  have K196 := K191.wr W194 (Or.inr sz_b168)
  have N194 := Fr.snoc X194 N193 g_b168
  obtain ⟨nq, hnq, enq⟩ := own_modn p2 (Int32.ofNat (G + 1)) (G + 1) (toInt_of rfl (by omega)) (by omega)
  have k197 : ∀ t, Steps p.tables e below (T194.setTop (mkF m 100 #[.val (.int p0), .val (.long q1), .second, .val (.int p2), .val (.int (Int32.ofNat G)), .val (.int (Int32.ofNat (G + 1))), .val (.ref b168), .val (.int (((p2 &&& (2147483647 : Int32)) % (Int32.ofNat (G + 1))) - (1 : Int32))), .unset, .unset] [])) t → Steps p.tables e below (s₁.setTop (mkF m 0 #[.val (.int p0), .val (.long q1), .second, .val (.int p2), .unset, .unset, .unset, .unset, .unset, .unset] [])) t := by
    intro t h
    refine k192 t ?_
    show Steps p.tables e below (T189.setTop (mkF m 83 #[.val (.int p0), .val (.long q1), .second, .val (.int p2), .val (.int (Int32.ofNat G)), .val (.int (Int32.ofNat (G + 1))), .val (.ref b168), .unset, .unset, .unset] [(.int (40 : Int32)), (.long q1), (.int (5 : Int32)), (.ref b168)])) _
    refine XS.iload X189.here hx rfl (hb hby at_83) rfl ?_
    show Steps p.tables e below (T189.setTop (mkF m 85 #[.val (.int p0), .val (.long q1), .second, .val (.int p2), .val (.int (Int32.ofNat G)), .val (.int (Int32.ofNat (G + 1))), .val (.ref b168), .unset, .unset, .unset] [(.int (Int32.ofNat (G + 1))), (.int (40 : Int32)), (.long q1), (.int (5 : Int32)), (.ref b168)])) _
    refine st193 _ ?_
    show Steps p.tables e below (T193.setTop (mkF m 88 #[.val (.int p0), .val (.long q1), .second, .val (.int p2), .val (.int (Int32.ofNat G)), .val (.int (Int32.ofNat (G + 1))), .val (.ref b168), .unset, .unset, .unset] [(.int (Int32.ofNat n193k - 1)), (.int (5 : Int32)), (.ref b168)])) _
    refine st194 _ ?_
    show Steps p.tables e below (T194.setTop (mkF m 89 #[.val (.int p0), .val (.long q1), .second, .val (.int p2), .val (.int (Int32.ofNat G)), .val (.int (Int32.ofNat (G + 1))), .val (.ref b168), .unset, .unset, .unset] [])) _
    refine XS.iloadN X194.here hx rfl (hb hby at_89) rfl ?_
    show Steps p.tables e below (T194.setTop (mkF m 90 #[.val (.int p0), .val (.long q1), .second, .val (.int p2), .val (.int (Int32.ofNat G)), .val (.int (Int32.ofNat (G + 1))), .val (.ref b168), .unset, .unset, .unset] [(.int p2)])) _
    refine X194.ldcInt hx hown (mvT hZ (hw _ (List.mem_of_getElem? (i := 5) rfl))) (g := (mkF m 90 #[.val (.int p0), .val (.long q1), .second, .val (.int p2), .val (.int (Int32.ofNat G)), .val (.int (Int32.ofNat (G + 1))), .val (.ref b168), .unset, .unset, .unset] [(.int p2)])) rfl (hb hby at_90) _ ?_
    show Steps p.tables e below (T194.setTop (mkF m 92 #[.val (.int p0), .val (.long q1), .second, .val (.int p2), .val (.int (Int32.ofNat G)), .val (.int (Int32.ofNat (G + 1))), .val (.ref b168), .unset, .unset, .unset] [(.int (2147483647 : Int32)), (.int p2)])) _
    refine XS.iand X194.here hx rfl (hb hby at_92) rfl ?_
    show Steps p.tables e below (T194.setTop (mkF m 93 #[.val (.int p0), .val (.long q1), .second, .val (.int p2), .val (.int (Int32.ofNat G)), .val (.int (Int32.ofNat (G + 1))), .val (.ref b168), .unset, .unset, .unset] [(.int (p2 &&& (2147483647 : Int32)))])) _
    refine XS.iload X194.here hx rfl (hb hby at_93) rfl ?_
    show Steps p.tables e below (T194.setTop (mkF m 95 #[.val (.int p0), .val (.long q1), .second, .val (.int p2), .val (.int (Int32.ofNat G)), .val (.int (Int32.ofNat (G + 1))), .val (.ref b168), .unset, .unset, .unset] [(.int (Int32.ofNat (G + 1))), (.int (p2 &&& (2147483647 : Int32)))])) _
    refine iremM (g := (mkF m 95 #[.val (.int p0), .val (.long q1), .second, .val (.int p2), .val (.int (Int32.ofNat G)), .val (.int (Int32.ofNat (G + 1))), .val (.ref b168), .unset, .unset, .unset] [(.int (Int32.ofNat (G + 1))), (.int (p2 &&& (2147483647 : Int32)))])) X194 hx rfl (hb hby at_95) rfl (own_nz (by omega)) ?_
    show Steps p.tables e below (T194.setTop (mkF m 96 #[.val (.int p0), .val (.long q1), .second, .val (.int p2), .val (.int (Int32.ofNat G)), .val (.int (Int32.ofNat (G + 1))), .val (.ref b168), .unset, .unset, .unset] [(.int ((p2 &&& (2147483647 : Int32)) % (Int32.ofNat (G + 1))))])) _
    refine XS.iconst X194.here hx rfl (hb hby at_96) ?_
    show Steps p.tables e below (T194.setTop (mkF m 97 #[.val (.int p0), .val (.long q1), .second, .val (.int p2), .val (.int (Int32.ofNat G)), .val (.int (Int32.ofNat (G + 1))), .val (.ref b168), .unset, .unset, .unset] [(.int (1 : Int32)), (.int ((p2 &&& (2147483647 : Int32)) % (Int32.ofNat (G + 1))))])) _
    refine XS.isub X194.here hx rfl (hb hby at_97) rfl ?_
    show Steps p.tables e below (T194.setTop (mkF m 98 #[.val (.int p0), .val (.long q1), .second, .val (.int p2), .val (.int (Int32.ofNat G)), .val (.int (Int32.ofNat (G + 1))), .val (.ref b168), .unset, .unset, .unset] [(.int (((p2 &&& (2147483647 : Int32)) % (Int32.ofNat (G + 1))) - (1 : Int32)))])) _
    refine XS.istore X194.here hx rfl (hb hby at_98) rfl (l' := #[.val (.int p0), .val (.long q1), .second, .val (.int p2), .val (.int (Int32.ofNat G)), .val (.int (Int32.ofNat (G + 1))), .val (.ref b168), .val (.int (((p2 &&& (2147483647 : Int32)) % (Int32.ofNat (G + 1))) - (1 : Int32))), .unset, .unset]) rfl ?_
    exact h
  have r198 : ((p2 &&& (2147483647 : Int32)) % (Int32.ofNat (G + 1))) = (Int32.ofNat nq) := enq
  have k199 : ∀ t, Steps p.tables e below (T194.setTop (mkF m 100 #[.val (.int p0), .val (.long q1), .second, .val (.int p2), .val (.int (Int32.ofNat G)), .val (.int (Int32.ofNat (G + 1))), .val (.ref b168), .val (.int ((Int32.ofNat nq) - (1 : Int32))), .unset, .unset] [])) t → Steps p.tables e below (s₁.setTop (mkF m 0 #[.val (.int p0), .val (.long q1), .second, .val (.int p2), .unset, .unset, .unset, .unset, .unset, .unset] [])) t := by first | (rw [← r198]; exact k197) | exact k197
  obtain ⟨cl200, Ar200, q200, S200, Ng200, H200, G200⟩ := id V194
  have hin200 : ¬ ((0 : Int32) < 0 ∨ cl200.slots.size ≤ ((0 : Int32)).toNatClampNeg) := inb_of S200 ⟨by decide, by decide⟩
  obtain ⟨_, _, ⟨T201, L201, k201, n201⟩, -, X201, ⟨Lc201, hQ201, l201, y201, z201⟩, st201⟩ := Jvm.LawKit.callS X194 hx (y := (⟨"com/example/planwright/planwright/io/GroupingCountPinLaw", "eq", "(II)I"⟩ : MethodName)) hown (mvT hZ (hw _ (List.mem_of_getElem? (i := 6) rfl))) (mvT hZ (hw _ (List.mem_of_getElem? (i := 7) rfl))) (mvT hZ (hw _ (List.mem_of_getElem? (i := 3) rfl))) (mvT hZ (hw _ (List.mem_of_getElem? (i := 8) rfl))) (by decide) (backOf (W := 0) (rmE l Z a0 hw [] (Int32.ofNat n171k - 1) (Int32.ofNat nq - 1)  h194 n0 Z195 ) hZ (hw _ (List.mem_of_getElem? (i := 8) rfl)) (hw _ (List.mem_of_getElem? (i := 3) rfl)) (by decide) (by decide)) (g := (mkF m 106 #[.val (.int p0), .val (.long q1), .second, .val (.int p2), .val (.int (Int32.ofNat G)), .val (.int (Int32.ofNat (G + 1))), .val (.ref b168), .val (.int (Int32.ofNat nq - 1)), .unset, .unset] [(.int (Int32.ofNat nq - 1)), (.int (Int32.ofNat n171k - 1))])) rfl (by rw [hml]; rfl) (argsL := [(.int (Int32.ofNat n171k - 1)), (.int (Int32.ofNat nq - 1))]) (rest := []) (lenOf own_pd_1 rfl) rfl (by show 2 * 0 + _ ≤ _; exact Nat.le_of_eq rfl) (hb hby at_106) (fun _ _ => ⟨rfl, e194, (by decide : 1 + 0 ≤ _), (by decide : 6 + 0 ≤ _)⟩)
  dsimp only [Pt.U, Pt.locs, Pt.cells, Pt.slots] at X201 l201 y201 z201 st201 hQ201
  subst l201 y201 z201
  obtain ⟨rfl, Nq201, eq201⟩ := hQ201
  have N201 := Fr.app N194 Nq201
  obtain ⟨cl202, Ar202, q202, S202, Ng202, H202, G202⟩ := id V194
  have hin202 : ¬ ((1 : Int32) < 0 ∨ cl202.slots.size ≤ ((1 : Int32)).toNatClampNeg) := inb_of S202 ⟨by decide, by decide⟩
  obtain ⟨_, _, ⟨T203, L203, k203, n203⟩, -, X203, ⟨Lc203, hQ203, l203, y203, z203⟩, st203⟩ := Jvm.LawKit.callS X201 hx (y := (⟨"com/example/planwright/planwright/io/GroupingCountPinLaw", "eq", "(II)I"⟩ : MethodName)) hown (mvT hZ (hw _ (List.mem_of_getElem? (i := 6) rfl))) (mvT hZ (hw _ (List.mem_of_getElem? (i := 7) rfl))) (mvT hZ (hw _ (List.mem_of_getElem? (i := 3) rfl))) (mvT hZ (hw _ (List.mem_of_getElem? (i := 8) rfl))) (by decide) (backOf (W := 1) (rmE l Z a0 hw [] (Int32.ofNat n175k - 1) (Int32.ofNat nq - 1)  h194 n0 Z195 ) hZ (hw _ (List.mem_of_getElem? (i := 8) rfl)) (hw _ (List.mem_of_getElem? (i := 3) rfl)) (by decide) (by decide)) (g := (mkF m 115 #[.val (.int p0), .val (.long q1), .second, .val (.int p2), .val (.int (Int32.ofNat G)), .val (.int (Int32.ofNat (G + 1))), .val (.ref b168), .val (.int (Int32.ofNat nq - 1)), .unset, .unset] [(.int (Int32.ofNat nq - 1)), (.int (Int32.ofNat n175k - 1)), (.int (own_eq (Int32.ofNat n171k - 1) (Int32.ofNat nq - 1)))])) rfl (by rw [hml]; rfl) (argsL := [(.int (Int32.ofNat n175k - 1)), (.int (Int32.ofNat nq - 1))]) (rest := [(.int (own_eq (Int32.ofNat n171k - 1) (Int32.ofNat nq - 1)))]) (lenOf own_pd_1 rfl) rfl (by show 2 * 0 + _ ≤ _; exact Nat.le_of_eq rfl) (hb hby at_115) (fun _ _ => ⟨rfl, eq201, (by decide : 1 + 0 ≤ _), (by decide : 6 + 0 ≤ _)⟩)
  dsimp only [Pt.U, Pt.locs, Pt.cells, Pt.slots] at X203 l203 y203 z203 st203 hQ203
  subst l203 y203 z203
  obtain ⟨rfl, Nq203, eq203⟩ := hQ203
  have N203 := Fr.app N201 Nq203
  obtain ⟨cl204, Ar204, q204, S204, Ng204, H204, G204⟩ := id V194
  have hin204 : ¬ ((2 : Int32) < 0 ∨ cl204.slots.size ≤ ((2 : Int32)).toNatClampNeg) := inb_of S204 ⟨by decide, by decide⟩
  obtain ⟨_, _, ⟨T205, L205, k205, n205⟩, -, X205, ⟨Lc205, hQ205, l205, y205, z205⟩, st205⟩ := Jvm.LawKit.callS X203 hx (y := (⟨"com/example/planwright/planwright/io/GroupingCountPinLaw", "eq", "(II)I"⟩ : MethodName)) hown (mvT hZ (hw _ (List.mem_of_getElem? (i := 6) rfl))) (mvT hZ (hw _ (List.mem_of_getElem? (i := 7) rfl))) (mvT hZ (hw _ (List.mem_of_getElem? (i := 3) rfl))) (mvT hZ (hw _ (List.mem_of_getElem? (i := 8) rfl))) (by decide) (backOf (W := 1) (rmE l Z a0 hw [] (Int32.ofNat n180k - 1) (Int32.ofNat nq - 1)  h194 n0 Z195 ) hZ (hw _ (List.mem_of_getElem? (i := 8) rfl)) (hw _ (List.mem_of_getElem? (i := 3) rfl)) (by decide) (by decide)) (g := (mkF m 125 #[.val (.int p0), .val (.long q1), .second, .val (.int p2), .val (.int (Int32.ofNat G)), .val (.int (Int32.ofNat (G + 1))), .val (.ref b168), .val (.int (Int32.ofNat nq - 1)), .unset, .unset] [(.int (Int32.ofNat nq - 1)), (.int (Int32.ofNat n180k - 1)), (.int ((own_eq (Int32.ofNat n171k - 1) (Int32.ofNat nq - 1)) + (own_eq (Int32.ofNat n175k - 1) (Int32.ofNat nq - 1))))])) rfl (by rw [hml]; rfl) (argsL := [(.int (Int32.ofNat n180k - 1)), (.int (Int32.ofNat nq - 1))]) (rest := [(.int ((own_eq (Int32.ofNat n171k - 1) (Int32.ofNat nq - 1)) + (own_eq (Int32.ofNat n175k - 1) (Int32.ofNat nq - 1))))]) (lenOf own_pd_1 rfl) rfl (by show 2 * 0 + _ ≤ _; exact Nat.le_of_eq rfl) (hb hby at_125) (fun _ _ => ⟨rfl, eq203, (by decide : 1 + 0 ≤ _), (by decide : 6 + 0 ≤ _)⟩)
  dsimp only [Pt.U, Pt.locs, Pt.cells, Pt.slots] at X205 l205 y205 z205 st205 hQ205
  subst l205 y205 z205
  obtain ⟨rfl, Nq205, eq205⟩ := hQ205
  have N205 := Fr.app N203 Nq205
  obtain ⟨cl206, Ar206, q206, S206, Ng206, H206, G206⟩ := id V194
  have hin206 : ¬ ((3 : Int32) < 0 ∨ cl206.slots.size ≤ ((3 : Int32)).toNatClampNeg) := inb_of S206 ⟨by decide, by decide⟩
  have k207 : ∀ t, Steps p.tables e below (T205.setTop (mkF m 135 #[.val (.int p0), .val (.long q1), .second, .val (.int p2), .val (.int (Int32.ofNat G)), .val (.int (Int32.ofNat (G + 1))), .val (.ref b168), .val (.int (Int32.ofNat nq - 1)), .unset, .unset] [(.int (Int32.ofNat nq - 1)), (.int (Int32.ofNat n184k - 1)), (.int (((own_eq (Int32.ofNat n171k - 1) (Int32.ofNat nq - 1)) + (own_eq (Int32.ofNat n175k - 1) (Int32.ofNat nq - 1))) + (own_eq (Int32.ofNat n180k - 1) (Int32.ofNat nq - 1))))])) t → Steps p.tables e below (s₁.setTop (mkF m 0 #[.val (.int p0), .val (.long q1), .second, .val (.int p2), .unset, .unset, .unset, .unset, .unset, .unset] [])) t := by
    intro t h
    refine k199 t ?_
    show Steps p.tables e below (T194.setTop (mkF m 100 #[.val (.int p0), .val (.long q1), .second, .val (.int p2), .val (.int (Int32.ofNat G)), .val (.int (Int32.ofNat (G + 1))), .val (.ref b168), .val (.int (Int32.ofNat nq - 1)), .unset, .unset] [])) _
    refine XS.aload X194.here hx rfl (hb hby at_100) rfl rfl ?_
    show Steps p.tables e below (T194.setTop (mkF m 102 #[.val (.int p0), .val (.long q1), .second, .val (.int p2), .val (.int (Int32.ofNat G)), .val (.int (Int32.ofNat (G + 1))), .val (.ref b168), .val (.int (Int32.ofNat nq - 1)), .unset, .unset] [(.ref b168)])) _
    refine XS.iconst X194.here hx rfl (hb hby at_102) ?_
    show Steps p.tables e below (T194.setTop (mkF m 103 #[.val (.int p0), .val (.long q1), .second, .val (.int p2), .val (.int (Int32.ofNat G)), .val (.int (Int32.ofNat (G + 1))), .val (.ref b168), .val (.int (Int32.ofNat nq - 1)), .unset, .unset] [(.int (0 : Int32)), (.ref b168)])) _
    refine X194.iaload hx (j := (0 : Int32)) (v := (.int (Int32.ofNat n171k - 1))) (by rw [e194]; exact Ar200.1) (State.isArrayOf_alike hZ.alike Ar200.2.1) Ar200.2.2 hin200 (H200.at hin200 rfl) (g := (mkF m 103 #[.val (.int p0), .val (.long q1), .second, .val (.int p2), .val (.int (Int32.ofNat G)), .val (.int (Int32.ofNat (G + 1))), .val (.ref b168), .val (.int (Int32.ofNat nq - 1)), .unset, .unset] [(.int (0 : Int32)), (.ref b168)])) rfl rfl (hb hby at_103) _ ?_
    show Steps p.tables e below (T194.setTop (mkF m 104 #[.val (.int p0), .val (.long q1), .second, .val (.int p2), .val (.int (Int32.ofNat G)), .val (.int (Int32.ofNat (G + 1))), .val (.ref b168), .val (.int (Int32.ofNat nq - 1)), .unset, .unset] [(.int (Int32.ofNat n171k - 1))])) _
    refine XS.iload X194.here hx rfl (hb hby at_104) rfl ?_
    show Steps p.tables e below (T194.setTop (mkF m 106 #[.val (.int p0), .val (.long q1), .second, .val (.int p2), .val (.int (Int32.ofNat G)), .val (.int (Int32.ofNat (G + 1))), .val (.ref b168), .val (.int (Int32.ofNat nq - 1)), .unset, .unset] [(.int (Int32.ofNat nq - 1)), (.int (Int32.ofNat n171k - 1))])) _
    refine st201 _ ?_
    show Steps p.tables e below (T201.setTop (mkF m 109 #[.val (.int p0), .val (.long q1), .second, .val (.int p2), .val (.int (Int32.ofNat G)), .val (.int (Int32.ofNat (G + 1))), .val (.ref b168), .val (.int (Int32.ofNat nq - 1)), .unset, .unset] [(.int (own_eq (Int32.ofNat n171k - 1) (Int32.ofNat nq - 1)))])) _
    refine XS.aload X201.here hx rfl (hb hby at_109) rfl rfl ?_
    show Steps p.tables e below (T201.setTop (mkF m 111 #[.val (.int p0), .val (.long q1), .second, .val (.int p2), .val (.int (Int32.ofNat G)), .val (.int (Int32.ofNat (G + 1))), .val (.ref b168), .val (.int (Int32.ofNat nq - 1)), .unset, .unset] [(.ref b168), (.int (own_eq (Int32.ofNat n171k - 1) (Int32.ofNat nq - 1)))])) _
    refine XS.iconst X201.here hx rfl (hb hby at_111) ?_
    show Steps p.tables e below (T201.setTop (mkF m 112 #[.val (.int p0), .val (.long q1), .second, .val (.int p2), .val (.int (Int32.ofNat G)), .val (.int (Int32.ofNat (G + 1))), .val (.ref b168), .val (.int (Int32.ofNat nq - 1)), .unset, .unset] [(.int (1 : Int32)), (.ref b168), (.int (own_eq (Int32.ofNat n171k - 1) (Int32.ofNat nq - 1)))])) _
    refine X201.iaload hx (j := (1 : Int32)) (v := (.int (Int32.ofNat n175k - 1))) (by rw [eq201]; exact Ar202.1) (State.isArrayOf_alike hZ.alike Ar202.2.1) Ar202.2.2 hin202 (H202.at hin202 rfl) (g := (mkF m 112 #[.val (.int p0), .val (.long q1), .second, .val (.int p2), .val (.int (Int32.ofNat G)), .val (.int (Int32.ofNat (G + 1))), .val (.ref b168), .val (.int (Int32.ofNat nq - 1)), .unset, .unset] [(.int (1 : Int32)), (.ref b168), (.int (own_eq (Int32.ofNat n171k - 1) (Int32.ofNat nq - 1)))])) rfl rfl (hb hby at_112) _ ?_
    show Steps p.tables e below (T201.setTop (mkF m 113 #[.val (.int p0), .val (.long q1), .second, .val (.int p2), .val (.int (Int32.ofNat G)), .val (.int (Int32.ofNat (G + 1))), .val (.ref b168), .val (.int (Int32.ofNat nq - 1)), .unset, .unset] [(.int (Int32.ofNat n175k - 1)), (.int (own_eq (Int32.ofNat n171k - 1) (Int32.ofNat nq - 1)))])) _
    refine XS.iload X201.here hx rfl (hb hby at_113) rfl ?_
    show Steps p.tables e below (T201.setTop (mkF m 115 #[.val (.int p0), .val (.long q1), .second, .val (.int p2), .val (.int (Int32.ofNat G)), .val (.int (Int32.ofNat (G + 1))), .val (.ref b168), .val (.int (Int32.ofNat nq - 1)), .unset, .unset] [(.int (Int32.ofNat nq - 1)), (.int (Int32.ofNat n175k - 1)), (.int (own_eq (Int32.ofNat n171k - 1) (Int32.ofNat nq - 1)))])) _
    refine st203 _ ?_
    show Steps p.tables e below (T203.setTop (mkF m 118 #[.val (.int p0), .val (.long q1), .second, .val (.int p2), .val (.int (Int32.ofNat G)), .val (.int (Int32.ofNat (G + 1))), .val (.ref b168), .val (.int (Int32.ofNat nq - 1)), .unset, .unset] [(.int (own_eq (Int32.ofNat n175k - 1) (Int32.ofNat nq - 1))), (.int (own_eq (Int32.ofNat n171k - 1) (Int32.ofNat nq - 1)))])) _
    refine XS.iadd X203.here hx rfl (hb hby at_118) rfl ?_
    show Steps p.tables e below (T203.setTop (mkF m 119 #[.val (.int p0), .val (.long q1), .second, .val (.int p2), .val (.int (Int32.ofNat G)), .val (.int (Int32.ofNat (G + 1))), .val (.ref b168), .val (.int (Int32.ofNat nq - 1)), .unset, .unset] [(.int ((own_eq (Int32.ofNat n171k - 1) (Int32.ofNat nq - 1)) + (own_eq (Int32.ofNat n175k - 1) (Int32.ofNat nq - 1))))])) _
    refine XS.aload X203.here hx rfl (hb hby at_119) rfl rfl ?_
    show Steps p.tables e below (T203.setTop (mkF m 121 #[.val (.int p0), .val (.long q1), .second, .val (.int p2), .val (.int (Int32.ofNat G)), .val (.int (Int32.ofNat (G + 1))), .val (.ref b168), .val (.int (Int32.ofNat nq - 1)), .unset, .unset] [(.ref b168), (.int ((own_eq (Int32.ofNat n171k - 1) (Int32.ofNat nq - 1)) + (own_eq (Int32.ofNat n175k - 1) (Int32.ofNat nq - 1))))])) _
    refine XS.iconst X203.here hx rfl (hb hby at_121) ?_
    show Steps p.tables e below (T203.setTop (mkF m 122 #[.val (.int p0), .val (.long q1), .second, .val (.int p2), .val (.int (Int32.ofNat G)), .val (.int (Int32.ofNat (G + 1))), .val (.ref b168), .val (.int (Int32.ofNat nq - 1)), .unset, .unset] [(.int (2 : Int32)), (.ref b168), (.int ((own_eq (Int32.ofNat n171k - 1) (Int32.ofNat nq - 1)) + (own_eq (Int32.ofNat n175k - 1) (Int32.ofNat nq - 1))))])) _
    refine X203.iaload hx (j := (2 : Int32)) (v := (.int (Int32.ofNat n180k - 1))) (by rw [eq203]; exact Ar204.1) (State.isArrayOf_alike hZ.alike Ar204.2.1) Ar204.2.2 hin204 (H204.at hin204 rfl) (g := (mkF m 122 #[.val (.int p0), .val (.long q1), .second, .val (.int p2), .val (.int (Int32.ofNat G)), .val (.int (Int32.ofNat (G + 1))), .val (.ref b168), .val (.int (Int32.ofNat nq - 1)), .unset, .unset] [(.int (2 : Int32)), (.ref b168), (.int ((own_eq (Int32.ofNat n171k - 1) (Int32.ofNat nq - 1)) + (own_eq (Int32.ofNat n175k - 1) (Int32.ofNat nq - 1))))])) rfl rfl (hb hby at_122) _ ?_
    show Steps p.tables e below (T203.setTop (mkF m 123 #[.val (.int p0), .val (.long q1), .second, .val (.int p2), .val (.int (Int32.ofNat G)), .val (.int (Int32.ofNat (G + 1))), .val (.ref b168), .val (.int (Int32.ofNat nq - 1)), .unset, .unset] [(.int (Int32.ofNat n180k - 1)), (.int ((own_eq (Int32.ofNat n171k - 1) (Int32.ofNat nq - 1)) + (own_eq (Int32.ofNat n175k - 1) (Int32.ofNat nq - 1))))])) _
    refine XS.iload X203.here hx rfl (hb hby at_123) rfl ?_
    show Steps p.tables e below (T203.setTop (mkF m 125 #[.val (.int p0), .val (.long q1), .second, .val (.int p2), .val (.int (Int32.ofNat G)), .val (.int (Int32.ofNat (G + 1))), .val (.ref b168), .val (.int (Int32.ofNat nq - 1)), .unset, .unset] [(.int (Int32.ofNat nq - 1)), (.int (Int32.ofNat n180k - 1)), (.int ((own_eq (Int32.ofNat n171k - 1) (Int32.ofNat nq - 1)) + (own_eq (Int32.ofNat n175k - 1) (Int32.ofNat nq - 1))))])) _
    refine st205 _ ?_
    show Steps p.tables e below (T205.setTop (mkF m 128 #[.val (.int p0), .val (.long q1), .second, .val (.int p2), .val (.int (Int32.ofNat G)), .val (.int (Int32.ofNat (G + 1))), .val (.ref b168), .val (.int (Int32.ofNat nq - 1)), .unset, .unset] [(.int (own_eq (Int32.ofNat n180k - 1) (Int32.ofNat nq - 1))), (.int ((own_eq (Int32.ofNat n171k - 1) (Int32.ofNat nq - 1)) + (own_eq (Int32.ofNat n175k - 1) (Int32.ofNat nq - 1))))])) _
    refine XS.iadd X205.here hx rfl (hb hby at_128) rfl ?_
    show Steps p.tables e below (T205.setTop (mkF m 129 #[.val (.int p0), .val (.long q1), .second, .val (.int p2), .val (.int (Int32.ofNat G)), .val (.int (Int32.ofNat (G + 1))), .val (.ref b168), .val (.int (Int32.ofNat nq - 1)), .unset, .unset] [(.int (((own_eq (Int32.ofNat n171k - 1) (Int32.ofNat nq - 1)) + (own_eq (Int32.ofNat n175k - 1) (Int32.ofNat nq - 1))) + (own_eq (Int32.ofNat n180k - 1) (Int32.ofNat nq - 1))))])) _
    refine XS.aload X205.here hx rfl (hb hby at_129) rfl rfl ?_
    show Steps p.tables e below (T205.setTop (mkF m 131 #[.val (.int p0), .val (.long q1), .second, .val (.int p2), .val (.int (Int32.ofNat G)), .val (.int (Int32.ofNat (G + 1))), .val (.ref b168), .val (.int (Int32.ofNat nq - 1)), .unset, .unset] [(.ref b168), (.int (((own_eq (Int32.ofNat n171k - 1) (Int32.ofNat nq - 1)) + (own_eq (Int32.ofNat n175k - 1) (Int32.ofNat nq - 1))) + (own_eq (Int32.ofNat n180k - 1) (Int32.ofNat nq - 1))))])) _
    refine XS.iconst X205.here hx rfl (hb hby at_131) ?_
    show Steps p.tables e below (T205.setTop (mkF m 132 #[.val (.int p0), .val (.long q1), .second, .val (.int p2), .val (.int (Int32.ofNat G)), .val (.int (Int32.ofNat (G + 1))), .val (.ref b168), .val (.int (Int32.ofNat nq - 1)), .unset, .unset] [(.int (3 : Int32)), (.ref b168), (.int (((own_eq (Int32.ofNat n171k - 1) (Int32.ofNat nq - 1)) + (own_eq (Int32.ofNat n175k - 1) (Int32.ofNat nq - 1))) + (own_eq (Int32.ofNat n180k - 1) (Int32.ofNat nq - 1))))])) _
    refine X205.iaload hx (j := (3 : Int32)) (v := (.int (Int32.ofNat n184k - 1))) (by rw [eq205]; exact Ar206.1) (State.isArrayOf_alike hZ.alike Ar206.2.1) Ar206.2.2 hin206 (H206.at hin206 rfl) (g := (mkF m 132 #[.val (.int p0), .val (.long q1), .second, .val (.int p2), .val (.int (Int32.ofNat G)), .val (.int (Int32.ofNat (G + 1))), .val (.ref b168), .val (.int (Int32.ofNat nq - 1)), .unset, .unset] [(.int (3 : Int32)), (.ref b168), (.int (((own_eq (Int32.ofNat n171k - 1) (Int32.ofNat nq - 1)) + (own_eq (Int32.ofNat n175k - 1) (Int32.ofNat nq - 1))) + (own_eq (Int32.ofNat n180k - 1) (Int32.ofNat nq - 1))))])) rfl rfl (hb hby at_132) _ ?_
    show Steps p.tables e below (T205.setTop (mkF m 133 #[.val (.int p0), .val (.long q1), .second, .val (.int p2), .val (.int (Int32.ofNat G)), .val (.int (Int32.ofNat (G + 1))), .val (.ref b168), .val (.int (Int32.ofNat nq - 1)), .unset, .unset] [(.int (Int32.ofNat n184k - 1)), (.int (((own_eq (Int32.ofNat n171k - 1) (Int32.ofNat nq - 1)) + (own_eq (Int32.ofNat n175k - 1) (Int32.ofNat nq - 1))) + (own_eq (Int32.ofNat n180k - 1) (Int32.ofNat nq - 1))))])) _
    refine XS.iload X205.here hx rfl (hb hby at_133) rfl ?_
    exact h
  obtain ⟨_, _, ⟨T208, L208, k208, n208⟩, -, X208, ⟨Lc208, hQ208, l208, y208, z208⟩, st208⟩ := Jvm.LawKit.callS X205 hx (y := (⟨"com/example/planwright/planwright/io/GroupingCountPinLaw", "eq", "(II)I"⟩ : MethodName)) hown (mvT hZ (hw _ (List.mem_of_getElem? (i := 6) rfl))) (mvT hZ (hw _ (List.mem_of_getElem? (i := 7) rfl))) (mvT hZ (hw _ (List.mem_of_getElem? (i := 3) rfl))) (mvT hZ (hw _ (List.mem_of_getElem? (i := 8) rfl))) (by decide) (backOf (W := 1) (rmE l Z a0 hw [] (Int32.ofNat n184k - 1) (Int32.ofNat nq - 1)  h194 n0 Z195 ) hZ (hw _ (List.mem_of_getElem? (i := 8) rfl)) (hw _ (List.mem_of_getElem? (i := 3) rfl)) (by decide) (by decide)) (g := (mkF m 135 #[.val (.int p0), .val (.long q1), .second, .val (.int p2), .val (.int (Int32.ofNat G)), .val (.int (Int32.ofNat (G + 1))), .val (.ref b168), .val (.int (Int32.ofNat nq - 1)), .unset, .unset] [(.int (Int32.ofNat nq - 1)), (.int (Int32.ofNat n184k - 1)), (.int (((own_eq (Int32.ofNat n171k - 1) (Int32.ofNat nq - 1)) + (own_eq (Int32.ofNat n175k - 1) (Int32.ofNat nq - 1))) + (own_eq (Int32.ofNat n180k - 1) (Int32.ofNat nq - 1))))])) rfl (by rw [hml]; rfl) (argsL := [(.int (Int32.ofNat n184k - 1)), (.int (Int32.ofNat nq - 1))]) (rest := [(.int (((own_eq (Int32.ofNat n171k - 1) (Int32.ofNat nq - 1)) + (own_eq (Int32.ofNat n175k - 1) (Int32.ofNat nq - 1))) + (own_eq (Int32.ofNat n180k - 1) (Int32.ofNat nq - 1))))]) (lenOf own_pd_1 rfl) rfl (by show 2 * 0 + _ ≤ _; exact Nat.le_of_eq rfl) (hb hby at_135) (fun _ _ => ⟨rfl, eq205, (by decide : 1 + 0 ≤ _), (by decide : 6 + 0 ≤ _)⟩)
  dsimp only [Pt.U, Pt.locs, Pt.cells, Pt.slots] at X208 l208 y208 z208 st208 hQ208
  subst l208 y208 z208
  obtain ⟨rfl, Nq208, eq208⟩ := hQ208
  have N208 := Fr.app N205 Nq208
  obtain ⟨cl209, Ar209, q209, S209, Ng209, H209, G209⟩ := id V194
  have hin209 : ¬ ((4 : Int32) < 0 ∨ cl209.slots.size ≤ ((4 : Int32)).toNatClampNeg) := inb_of S209 ⟨by decide, by decide⟩
  obtain ⟨_, _, ⟨T210, L210, k210, n210⟩, -, X210, ⟨Lc210, hQ210, l210, y210, z210⟩, st210⟩ := Jvm.LawKit.callS X208 hx (y := (⟨"com/example/planwright/planwright/io/GroupingCountPinLaw", "eq", "(II)I"⟩ : MethodName)) hown (mvT hZ (hw _ (List.mem_of_getElem? (i := 6) rfl))) (mvT hZ (hw _ (List.mem_of_getElem? (i := 7) rfl))) (mvT hZ (hw _ (List.mem_of_getElem? (i := 3) rfl))) (mvT hZ (hw _ (List.mem_of_getElem? (i := 8) rfl))) (by decide) (backOf (W := 1) (rmE l Z a0 hw [] (Int32.ofNat n188k - 1) (Int32.ofNat nq - 1)  h194 n0 Z195 ) hZ (hw _ (List.mem_of_getElem? (i := 8) rfl)) (hw _ (List.mem_of_getElem? (i := 3) rfl)) (by decide) (by decide)) (g := (mkF m 145 #[.val (.int p0), .val (.long q1), .second, .val (.int p2), .val (.int (Int32.ofNat G)), .val (.int (Int32.ofNat (G + 1))), .val (.ref b168), .val (.int (Int32.ofNat nq - 1)), .unset, .unset] [(.int (Int32.ofNat nq - 1)), (.int (Int32.ofNat n188k - 1)), (.int ((((own_eq (Int32.ofNat n171k - 1) (Int32.ofNat nq - 1)) + (own_eq (Int32.ofNat n175k - 1) (Int32.ofNat nq - 1))) + (own_eq (Int32.ofNat n180k - 1) (Int32.ofNat nq - 1))) + (own_eq (Int32.ofNat n184k - 1) (Int32.ofNat nq - 1))))])) rfl (by rw [hml]; rfl) (argsL := [(.int (Int32.ofNat n188k - 1)), (.int (Int32.ofNat nq - 1))]) (rest := [(.int ((((own_eq (Int32.ofNat n171k - 1) (Int32.ofNat nq - 1)) + (own_eq (Int32.ofNat n175k - 1) (Int32.ofNat nq - 1))) + (own_eq (Int32.ofNat n180k - 1) (Int32.ofNat nq - 1))) + (own_eq (Int32.ofNat n184k - 1) (Int32.ofNat nq - 1))))]) (lenOf own_pd_1 rfl) rfl (by show 2 * 0 + _ ≤ _; exact Nat.le_of_eq rfl) (hb hby at_145) (fun _ _ => ⟨rfl, eq208, (by decide : 1 + 0 ≤ _), (by decide : 6 + 0 ≤ _)⟩)
  dsimp only [Pt.U, Pt.locs, Pt.cells, Pt.slots] at X210 l210 y210 z210 st210 hQ210
  subst l210 y210 z210
  obtain ⟨rfl, Nq210, eq210⟩ := hQ210
  have N210 := Fr.app N208 Nq210
  obtain ⟨cl211, Ar211, q211, S211, Ng211, H211, G211⟩ := id V194
  have hin211 : ¬ ((5 : Int32) < 0 ∨ cl211.slots.size ≤ ((5 : Int32)).toNatClampNeg) := inb_of S211 ⟨by decide, by decide⟩
  obtain ⟨_, _, ⟨T212, L212, k212, n212⟩, -, X212, ⟨Lc212, hQ212, l212, y212, z212⟩, st212⟩ := Jvm.LawKit.callS X210 hx (y := (⟨"com/example/planwright/planwright/io/GroupingCountPinLaw", "eq", "(II)I"⟩ : MethodName)) hown (mvT hZ (hw _ (List.mem_of_getElem? (i := 6) rfl))) (mvT hZ (hw _ (List.mem_of_getElem? (i := 7) rfl))) (mvT hZ (hw _ (List.mem_of_getElem? (i := 3) rfl))) (mvT hZ (hw _ (List.mem_of_getElem? (i := 8) rfl))) (by decide) (backOf (W := 1) (rmE l Z a0 hw [] (Int32.ofNat n193k - 1) (Int32.ofNat nq - 1)  h194 n0 Z195 ) hZ (hw _ (List.mem_of_getElem? (i := 8) rfl)) (hw _ (List.mem_of_getElem? (i := 3) rfl)) (by decide) (by decide)) (g := (mkF m 155 #[.val (.int p0), .val (.long q1), .second, .val (.int p2), .val (.int (Int32.ofNat G)), .val (.int (Int32.ofNat (G + 1))), .val (.ref b168), .val (.int (Int32.ofNat nq - 1)), .unset, .unset] [(.int (Int32.ofNat nq - 1)), (.int (Int32.ofNat n193k - 1)), (.int (((((own_eq (Int32.ofNat n171k - 1) (Int32.ofNat nq - 1)) + (own_eq (Int32.ofNat n175k - 1) (Int32.ofNat nq - 1))) + (own_eq (Int32.ofNat n180k - 1) (Int32.ofNat nq - 1))) + (own_eq (Int32.ofNat n184k - 1) (Int32.ofNat nq - 1))) + (own_eq (Int32.ofNat n188k - 1) (Int32.ofNat nq - 1))))])) rfl (by rw [hml]; rfl) (argsL := [(.int (Int32.ofNat n193k - 1)), (.int (Int32.ofNat nq - 1))]) (rest := [(.int (((((own_eq (Int32.ofNat n171k - 1) (Int32.ofNat nq - 1)) + (own_eq (Int32.ofNat n175k - 1) (Int32.ofNat nq - 1))) + (own_eq (Int32.ofNat n180k - 1) (Int32.ofNat nq - 1))) + (own_eq (Int32.ofNat n184k - 1) (Int32.ofNat nq - 1))) + (own_eq (Int32.ofNat n188k - 1) (Int32.ofNat nq - 1))))]) (lenOf own_pd_1 rfl) rfl (by show 2 * 0 + _ ≤ _; exact Nat.le_of_eq rfl) (hb hby at_155) (fun _ _ => ⟨rfl, eq210, (by decide : 1 + 0 ≤ _), (by decide : 6 + 0 ≤ _)⟩)
  dsimp only [Pt.U, Pt.locs, Pt.cells, Pt.slots] at X212 l212 y212 z212 st212 hQ212
  subst l212 y212 z212
  obtain ⟨rfl, Nq212, eq212⟩ := hQ212
  have N212 := Fr.app N210 Nq212
  obtain ⟨T213, h213, X213, e213, E213, A213, D213, -, st213⟩ := newO X212 hx hZ hown (hw _ (List.mem_of_getElem? (i := 9) rfl)) (hw _ (List.mem_of_getElem? (i := 10) rfl)) (hw _ (List.mem_of_getElem? (i := 11) rfl)) eq212 (g := (mkF m 161 #[.val (.int p0), .val (.long q1), .second, .val (.int p2), .val (.int (Int32.ofNat G)), .val (.int (Int32.ofNat (G + 1))), .val (.ref b168), .val (.int (Int32.ofNat nq - 1)), .val (.int ((((((own_eq (Int32.ofNat n171k - 1) (Int32.ofNat nq - 1)) + (own_eq (Int32.ofNat n175k - 1) (Int32.ofNat nq - 1))) + (own_eq (Int32.ofNat n180k - 1) (Int32.ofNat nq - 1))) + (own_eq (Int32.ofNat n184k - 1) (Int32.ofNat nq - 1))) + (own_eq (Int32.ofNat n188k - 1) (Int32.ofNat nq - 1))) + (own_eq (Int32.ofNat n193k - 1) (Int32.ofNat nq - 1)))), .unset] [])) rfl (hb hby at_161) (by decide) (by decide)
  obtain ⟨b213, g213⟩ : ∃ z, z = h194.size := ⟨_, rfl⟩
  rw [← g213] at A213 D213 st213
  have ne_b168_b213 : b168 ≠ b213 := Nat.ne_of_lt (Nat.lt_of_lt_of_le V194.lt (Nat.le_of_eq g213.symm))
  have g_b213 : n0 ≤ b213 := Nat.le_trans Z195 (Nat.le_of_eq g213.symm)
  have sz_b213 : h0.size ≤ b213 := Nat.le_trans K196.1 (Nat.le_of_eq g213.symm)
  have f214 := V194.ext E213
  have Z215 : n0 ≤ h213.size := Nat.le_trans Z195 E213.1
  have K216 := K196.ext E213
  have f217 : Fld Z h213 b213 "com/example/planwright/planwright/io/Grouping" "starts" "[I" .null := D213 (Or.inr (hw _ (List.mem_of_getElem? (i := 19) rfl))) (ty := (.array .int)) (by decide)
  have f218 : Fld Z h213 b213 "com/example/planwright/planwright/io/Grouping" "members" "[I" .null := D213 (Or.inr (hw _ (List.mem_of_getElem? (i := 21) rfl))) (ty := (.array .int)) (by decide)
  have f220 : own_IA Z h213 b168 6 (fun j => Int32.ofNat ((fun j => [n171k, n175k, n180k, n184k, n188k, n193k].getD j 0) j) - 1) := own_IA.congr (own_IA.ofV (vs := [(Int32.ofNat n171k - 1), (Int32.ofNat n175k - 1), (Int32.ofNat n180k - 1), (Int32.ofNat n184k - 1), (Int32.ofNat n188k - 1), (Int32.ofNat n193k - 1)]) f214 rfl) (fun j hj => match j, hj with | 0, _ => rfl | 1, _ => rfl | 2, _ => rfl | 3, _ => rfl | 4, _ => rfl | 5, _ => rfl)
  obtain ⟨_, _, ⟨T219, L219, k219, n219⟩, -, X219, ⟨Lc219, hQ219, l219, y219, z219⟩, st219⟩ := X213.specialBack hx (y := (⟨"com/example/planwright/planwright/io/Grouping", "<init>", "([II)V"⟩ : MethodName)) rfl hown (mvT hZ (hw _ (List.mem_of_getElem? (i := 12) rfl))) (mvT hZ (hw _ (List.mem_of_getElem? (i := 13) rfl))) (mvT hZ (hw _ (List.mem_of_getElem? (i := 14) rfl))) (by decide) (backOf (W := 1) (rmI l Z a0 hw [] b213 b168 (Int32.ofNat G) G (fun j => [n171k, n175k, n180k, n184k, n188k, n193k].getD j 0) h213 n0 Z215 f217 f218 A213 f220 g_b213 (Ne.symm ne_b168_b213) rfl (by omega) (fun j hj => match j, hj with | 0, _ => Nat.le_of_lt_succ hn171k | 1, _ => Nat.le_of_lt_succ hn175k | 2, _ => Nat.le_of_lt_succ hn180k | 3, _ => Nat.le_of_lt_succ hn184k | 4, _ => Nat.le_of_lt_succ hn188k | 5, _ => Nat.le_of_lt_succ hn193k)) hZ (hw _ (List.mem_of_getElem? (i := 14) rfl)) (hw _ (List.mem_of_getElem? (i := 11) rfl)) (by decide) (by decide)) (g := (mkF m 169 #[.val (.int p0), .val (.long q1), .second, .val (.int p2), .val (.int (Int32.ofNat G)), .val (.int (Int32.ofNat (G + 1))), .val (.ref b168), .val (.int (Int32.ofNat nq - 1)), .val (.int ((((((own_eq (Int32.ofNat n171k - 1) (Int32.ofNat nq - 1)) + (own_eq (Int32.ofNat n175k - 1) (Int32.ofNat nq - 1))) + (own_eq (Int32.ofNat n180k - 1) (Int32.ofNat nq - 1))) + (own_eq (Int32.ofNat n184k - 1) (Int32.ofNat nq - 1))) + (own_eq (Int32.ofNat n188k - 1) (Int32.ofNat nq - 1))) + (own_eq (Int32.ofNat n193k - 1) (Int32.ofNat nq - 1)))), .unset] [(.int (Int32.ofNat G)), (.ref b168), (.ref b213), (.ref b213)])) rfl (by rw [hml]; rfl) (Steps.refl _) (a := b213) (argsL := [(.ref b168), (.int (Int32.ofNat G))]) (rest := [(.ref b213)]) (lenOf own_pd_2 rfl) rfl (by show 2 * 0 + _ ≤ _; exact Nat.le_of_eq rfl) (hb hby at_169) (fun _ _ => ⟨rfl, e213, (by decide : 2 + 3 ≤ _), (by decide : 8 + 40 ≤ _)⟩)
  dsimp only [Pt.U, Pt.locs, Pt.cells, Pt.slots] at X219 l219 y219 z219 st219 hQ219
  subst l219 y219 z219
  obtain ⟨rfl, Nq219, Kq219, ba219, bb219, Fa219, Aa219, Fb219, Ab219⟩ := hQ219
  have N219 := Fr.app N212 Nq219
  have f221 := f214.keep Kq219 (ninS ne_b168_b213 nin0)
  have f222 := A213.keep Kq219
  have Z223 : n0 ≤ T219.heap.size := Nat.le_trans Z215 Kq219.1
  have K224 := K216.trans Kq219 (allS (Or.inr sz_b213) all0)
  have k225 : ∀ t, Steps p.tables e below (T219.setTop (mkF m 174 #[.val (.int p0), .val (.long q1), .second, .val (.int p2), .val (.int (Int32.ofNat G)), .val (.int (Int32.ofNat (G + 1))), .val (.ref b168), .val (.int (Int32.ofNat nq - 1)), .val (.int ((((((own_eq (Int32.ofNat n171k - 1) (Int32.ofNat nq - 1)) + (own_eq (Int32.ofNat n175k - 1) (Int32.ofNat nq - 1))) + (own_eq (Int32.ofNat n180k - 1) (Int32.ofNat nq - 1))) + (own_eq (Int32.ofNat n184k - 1) (Int32.ofNat nq - 1))) + (own_eq (Int32.ofNat n188k - 1) (Int32.ofNat nq - 1))) + (own_eq (Int32.ofNat n193k - 1) (Int32.ofNat nq - 1)))), .val (.ref b213)] [])) t → Steps p.tables e below (s₁.setTop (mkF m 0 #[.val (.int p0), .val (.long q1), .second, .val (.int p2), .unset, .unset, .unset, .unset, .unset, .unset] [])) t := by
    intro t h
    refine k207 t ?_
    show Steps p.tables e below (T205.setTop (mkF m 135 #[.val (.int p0), .val (.long q1), .second, .val (.int p2), .val (.int (Int32.ofNat G)), .val (.int (Int32.ofNat (G + 1))), .val (.ref b168), .val (.int (Int32.ofNat nq - 1)), .unset, .unset] [(.int (Int32.ofNat nq - 1)), (.int (Int32.ofNat n184k - 1)), (.int (((own_eq (Int32.ofNat n171k - 1) (Int32.ofNat nq - 1)) + (own_eq (Int32.ofNat n175k - 1) (Int32.ofNat nq - 1))) + (own_eq (Int32.ofNat n180k - 1) (Int32.ofNat nq - 1))))])) _
    refine st208 _ ?_
    show Steps p.tables e below (T208.setTop (mkF m 138 #[.val (.int p0), .val (.long q1), .second, .val (.int p2), .val (.int (Int32.ofNat G)), .val (.int (Int32.ofNat (G + 1))), .val (.ref b168), .val (.int (Int32.ofNat nq - 1)), .unset, .unset] [(.int (own_eq (Int32.ofNat n184k - 1) (Int32.ofNat nq - 1))), (.int (((own_eq (Int32.ofNat n171k - 1) (Int32.ofNat nq - 1)) + (own_eq (Int32.ofNat n175k - 1) (Int32.ofNat nq - 1))) + (own_eq (Int32.ofNat n180k - 1) (Int32.ofNat nq - 1))))])) _
    refine XS.iadd X208.here hx rfl (hb hby at_138) rfl ?_
    show Steps p.tables e below (T208.setTop (mkF m 139 #[.val (.int p0), .val (.long q1), .second, .val (.int p2), .val (.int (Int32.ofNat G)), .val (.int (Int32.ofNat (G + 1))), .val (.ref b168), .val (.int (Int32.ofNat nq - 1)), .unset, .unset] [(.int ((((own_eq (Int32.ofNat n171k - 1) (Int32.ofNat nq - 1)) + (own_eq (Int32.ofNat n175k - 1) (Int32.ofNat nq - 1))) + (own_eq (Int32.ofNat n180k - 1) (Int32.ofNat nq - 1))) + (own_eq (Int32.ofNat n184k - 1) (Int32.ofNat nq - 1))))])) _
    refine XS.aload X208.here hx rfl (hb hby at_139) rfl rfl ?_
    show Steps p.tables e below (T208.setTop (mkF m 141 #[.val (.int p0), .val (.long q1), .second, .val (.int p2), .val (.int (Int32.ofNat G)), .val (.int (Int32.ofNat (G + 1))), .val (.ref b168), .val (.int (Int32.ofNat nq - 1)), .unset, .unset] [(.ref b168), (.int ((((own_eq (Int32.ofNat n171k - 1) (Int32.ofNat nq - 1)) + (own_eq (Int32.ofNat n175k - 1) (Int32.ofNat nq - 1))) + (own_eq (Int32.ofNat n180k - 1) (Int32.ofNat nq - 1))) + (own_eq (Int32.ofNat n184k - 1) (Int32.ofNat nq - 1))))])) _
    refine XS.iconst X208.here hx rfl (hb hby at_141) ?_
    show Steps p.tables e below (T208.setTop (mkF m 142 #[.val (.int p0), .val (.long q1), .second, .val (.int p2), .val (.int (Int32.ofNat G)), .val (.int (Int32.ofNat (G + 1))), .val (.ref b168), .val (.int (Int32.ofNat nq - 1)), .unset, .unset] [(.int (4 : Int32)), (.ref b168), (.int ((((own_eq (Int32.ofNat n171k - 1) (Int32.ofNat nq - 1)) + (own_eq (Int32.ofNat n175k - 1) (Int32.ofNat nq - 1))) + (own_eq (Int32.ofNat n180k - 1) (Int32.ofNat nq - 1))) + (own_eq (Int32.ofNat n184k - 1) (Int32.ofNat nq - 1))))])) _
    refine X208.iaload hx (j := (4 : Int32)) (v := (.int (Int32.ofNat n188k - 1))) (by rw [eq208]; exact Ar209.1) (State.isArrayOf_alike hZ.alike Ar209.2.1) Ar209.2.2 hin209 (H209.at hin209 rfl) (g := (mkF m 142 #[.val (.int p0), .val (.long q1), .second, .val (.int p2), .val (.int (Int32.ofNat G)), .val (.int (Int32.ofNat (G + 1))), .val (.ref b168), .val (.int (Int32.ofNat nq - 1)), .unset, .unset] [(.int (4 : Int32)), (.ref b168), (.int ((((own_eq (Int32.ofNat n171k - 1) (Int32.ofNat nq - 1)) + (own_eq (Int32.ofNat n175k - 1) (Int32.ofNat nq - 1))) + (own_eq (Int32.ofNat n180k - 1) (Int32.ofNat nq - 1))) + (own_eq (Int32.ofNat n184k - 1) (Int32.ofNat nq - 1))))])) rfl rfl (hb hby at_142) _ ?_
    show Steps p.tables e below (T208.setTop (mkF m 143 #[.val (.int p0), .val (.long q1), .second, .val (.int p2), .val (.int (Int32.ofNat G)), .val (.int (Int32.ofNat (G + 1))), .val (.ref b168), .val (.int (Int32.ofNat nq - 1)), .unset, .unset] [(.int (Int32.ofNat n188k - 1)), (.int ((((own_eq (Int32.ofNat n171k - 1) (Int32.ofNat nq - 1)) + (own_eq (Int32.ofNat n175k - 1) (Int32.ofNat nq - 1))) + (own_eq (Int32.ofNat n180k - 1) (Int32.ofNat nq - 1))) + (own_eq (Int32.ofNat n184k - 1) (Int32.ofNat nq - 1))))])) _
    refine XS.iload X208.here hx rfl (hb hby at_143) rfl ?_
    show Steps p.tables e below (T208.setTop (mkF m 145 #[.val (.int p0), .val (.long q1), .second, .val (.int p2), .val (.int (Int32.ofNat G)), .val (.int (Int32.ofNat (G + 1))), .val (.ref b168), .val (.int (Int32.ofNat nq - 1)), .unset, .unset] [(.int (Int32.ofNat nq - 1)), (.int (Int32.ofNat n188k - 1)), (.int ((((own_eq (Int32.ofNat n171k - 1) (Int32.ofNat nq - 1)) + (own_eq (Int32.ofNat n175k - 1) (Int32.ofNat nq - 1))) + (own_eq (Int32.ofNat n180k - 1) (Int32.ofNat nq - 1))) + (own_eq (Int32.ofNat n184k - 1) (Int32.ofNat nq - 1))))])) _
    refine st210 _ ?_
    show Steps p.tables e below (T210.setTop (mkF m 148 #[.val (.int p0), .val (.long q1), .second, .val (.int p2), .val (.int (Int32.ofNat G)), .val (.int (Int32.ofNat (G + 1))), .val (.ref b168), .val (.int (Int32.ofNat nq - 1)), .unset, .unset] [(.int (own_eq (Int32.ofNat n188k - 1) (Int32.ofNat nq - 1))), (.int ((((own_eq (Int32.ofNat n171k - 1) (Int32.ofNat nq - 1)) + (own_eq (Int32.ofNat n175k - 1) (Int32.ofNat nq - 1))) + (own_eq (Int32.ofNat n180k - 1) (Int32.ofNat nq - 1))) + (own_eq (Int32.ofNat n184k - 1) (Int32.ofNat nq - 1))))])) _
    refine XS.iadd X210.here hx rfl (hb hby at_148) rfl ?_
    show Steps p.tables e below (T210.setTop (mkF m 149 #[.val (.int p0), .val (.long q1), .second, .val (.int p2), .val (.int (Int32.ofNat G)), .val (.int (Int32.ofNat (G + 1))), .val (.ref b168), .val (.int (Int32.ofNat nq - 1)), .unset, .unset] [(.int (((((own_eq (Int32.ofNat n171k - 1) (Int32.ofNat nq - 1)) + (own_eq (Int32.ofNat n175k - 1) (Int32.ofNat nq - 1))) + (own_eq (Int32.ofNat n180k - 1) (Int32.ofNat nq - 1))) + (own_eq (Int32.ofNat n184k - 1) (Int32.ofNat nq - 1))) + (own_eq (Int32.ofNat n188k - 1) (Int32.ofNat nq - 1))))])) _
    refine XS.aload X210.here hx rfl (hb hby at_149) rfl rfl ?_
    show Steps p.tables e below (T210.setTop (mkF m 151 #[.val (.int p0), .val (.long q1), .second, .val (.int p2), .val (.int (Int32.ofNat G)), .val (.int (Int32.ofNat (G + 1))), .val (.ref b168), .val (.int (Int32.ofNat nq - 1)), .unset, .unset] [(.ref b168), (.int (((((own_eq (Int32.ofNat n171k - 1) (Int32.ofNat nq - 1)) + (own_eq (Int32.ofNat n175k - 1) (Int32.ofNat nq - 1))) + (own_eq (Int32.ofNat n180k - 1) (Int32.ofNat nq - 1))) + (own_eq (Int32.ofNat n184k - 1) (Int32.ofNat nq - 1))) + (own_eq (Int32.ofNat n188k - 1) (Int32.ofNat nq - 1))))])) _
    refine XS.iconst X210.here hx rfl (hb hby at_151) ?_
    show Steps p.tables e below (T210.setTop (mkF m 152 #[.val (.int p0), .val (.long q1), .second, .val (.int p2), .val (.int (Int32.ofNat G)), .val (.int (Int32.ofNat (G + 1))), .val (.ref b168), .val (.int (Int32.ofNat nq - 1)), .unset, .unset] [(.int (5 : Int32)), (.ref b168), (.int (((((own_eq (Int32.ofNat n171k - 1) (Int32.ofNat nq - 1)) + (own_eq (Int32.ofNat n175k - 1) (Int32.ofNat nq - 1))) + (own_eq (Int32.ofNat n180k - 1) (Int32.ofNat nq - 1))) + (own_eq (Int32.ofNat n184k - 1) (Int32.ofNat nq - 1))) + (own_eq (Int32.ofNat n188k - 1) (Int32.ofNat nq - 1))))])) _
    refine X210.iaload hx (j := (5 : Int32)) (v := (.int (Int32.ofNat n193k - 1))) (by rw [eq210]; exact Ar211.1) (State.isArrayOf_alike hZ.alike Ar211.2.1) Ar211.2.2 hin211 (H211.at hin211 rfl) (g := (mkF m 152 #[.val (.int p0), .val (.long q1), .second, .val (.int p2), .val (.int (Int32.ofNat G)), .val (.int (Int32.ofNat (G + 1))), .val (.ref b168), .val (.int (Int32.ofNat nq - 1)), .unset, .unset] [(.int (5 : Int32)), (.ref b168), (.int (((((own_eq (Int32.ofNat n171k - 1) (Int32.ofNat nq - 1)) + (own_eq (Int32.ofNat n175k - 1) (Int32.ofNat nq - 1))) + (own_eq (Int32.ofNat n180k - 1) (Int32.ofNat nq - 1))) + (own_eq (Int32.ofNat n184k - 1) (Int32.ofNat nq - 1))) + (own_eq (Int32.ofNat n188k - 1) (Int32.ofNat nq - 1))))])) rfl rfl (hb hby at_152) _ ?_
    show Steps p.tables e below (T210.setTop (mkF m 153 #[.val (.int p0), .val (.long q1), .second, .val (.int p2), .val (.int (Int32.ofNat G)), .val (.int (Int32.ofNat (G + 1))), .val (.ref b168), .val (.int (Int32.ofNat nq - 1)), .unset, .unset] [(.int (Int32.ofNat n193k - 1)), (.int (((((own_eq (Int32.ofNat n171k - 1) (Int32.ofNat nq - 1)) + (own_eq (Int32.ofNat n175k - 1) (Int32.ofNat nq - 1))) + (own_eq (Int32.ofNat n180k - 1) (Int32.ofNat nq - 1))) + (own_eq (Int32.ofNat n184k - 1) (Int32.ofNat nq - 1))) + (own_eq (Int32.ofNat n188k - 1) (Int32.ofNat nq - 1))))])) _
    refine XS.iload X210.here hx rfl (hb hby at_153) rfl ?_
    show Steps p.tables e below (T210.setTop (mkF m 155 #[.val (.int p0), .val (.long q1), .second, .val (.int p2), .val (.int (Int32.ofNat G)), .val (.int (Int32.ofNat (G + 1))), .val (.ref b168), .val (.int (Int32.ofNat nq - 1)), .unset, .unset] [(.int (Int32.ofNat nq - 1)), (.int (Int32.ofNat n193k - 1)), (.int (((((own_eq (Int32.ofNat n171k - 1) (Int32.ofNat nq - 1)) + (own_eq (Int32.ofNat n175k - 1) (Int32.ofNat nq - 1))) + (own_eq (Int32.ofNat n180k - 1) (Int32.ofNat nq - 1))) + (own_eq (Int32.ofNat n184k - 1) (Int32.ofNat nq - 1))) + (own_eq (Int32.ofNat n188k - 1) (Int32.ofNat nq - 1))))])) _
    refine st212 _ ?_
    show Steps p.tables e below (T212.setTop (mkF m 158 #[.val (.int p0), .val (.long q1), .second, .val (.int p2), .val (.int (Int32.ofNat G)), .val (.int (Int32.ofNat (G + 1))), .val (.ref b168), .val (.int (Int32.ofNat nq - 1)), .unset, .unset] [(.int (own_eq (Int32.ofNat n193k - 1) (Int32.ofNat nq - 1))), (.int (((((own_eq (Int32.ofNat n171k - 1) (Int32.ofNat nq - 1)) + (own_eq (Int32.ofNat n175k - 1) (Int32.ofNat nq - 1))) + (own_eq (Int32.ofNat n180k - 1) (Int32.ofNat nq - 1))) + (own_eq (Int32.ofNat n184k - 1) (Int32.ofNat nq - 1))) + (own_eq (Int32.ofNat n188k - 1) (Int32.ofNat nq - 1))))])) _
    refine XS.iadd X212.here hx rfl (hb hby at_158) rfl ?_
    show Steps p.tables e below (T212.setTop (mkF m 159 #[.val (.int p0), .val (.long q1), .second, .val (.int p2), .val (.int (Int32.ofNat G)), .val (.int (Int32.ofNat (G + 1))), .val (.ref b168), .val (.int (Int32.ofNat nq - 1)), .unset, .unset] [(.int ((((((own_eq (Int32.ofNat n171k - 1) (Int32.ofNat nq - 1)) + (own_eq (Int32.ofNat n175k - 1) (Int32.ofNat nq - 1))) + (own_eq (Int32.ofNat n180k - 1) (Int32.ofNat nq - 1))) + (own_eq (Int32.ofNat n184k - 1) (Int32.ofNat nq - 1))) + (own_eq (Int32.ofNat n188k - 1) (Int32.ofNat nq - 1))) + (own_eq (Int32.ofNat n193k - 1) (Int32.ofNat nq - 1))))])) _
    refine XS.istore X212.here hx rfl (hb hby at_159) rfl (l' := #[.val (.int p0), .val (.long q1), .second, .val (.int p2), .val (.int (Int32.ofNat G)), .val (.int (Int32.ofNat (G + 1))), .val (.ref b168), .val (.int (Int32.ofNat nq - 1)), .val (.int ((((((own_eq (Int32.ofNat n171k - 1) (Int32.ofNat nq - 1)) + (own_eq (Int32.ofNat n175k - 1) (Int32.ofNat nq - 1))) + (own_eq (Int32.ofNat n180k - 1) (Int32.ofNat nq - 1))) + (own_eq (Int32.ofNat n184k - 1) (Int32.ofNat nq - 1))) + (own_eq (Int32.ofNat n188k - 1) (Int32.ofNat nq - 1))) + (own_eq (Int32.ofNat n193k - 1) (Int32.ofNat nq - 1)))), .unset]) rfl ?_
    show Steps p.tables e below (T212.setTop (mkF m 161 #[.val (.int p0), .val (.long q1), .second, .val (.int p2), .val (.int (Int32.ofNat G)), .val (.int (Int32.ofNat (G + 1))), .val (.ref b168), .val (.int (Int32.ofNat nq - 1)), .val (.int ((((((own_eq (Int32.ofNat n171k - 1) (Int32.ofNat nq - 1)) + (own_eq (Int32.ofNat n175k - 1) (Int32.ofNat nq - 1))) + (own_eq (Int32.ofNat n180k - 1) (Int32.ofNat nq - 1))) + (own_eq (Int32.ofNat n184k - 1) (Int32.ofNat nq - 1))) + (own_eq (Int32.ofNat n188k - 1) (Int32.ofNat nq - 1))) + (own_eq (Int32.ofNat n193k - 1) (Int32.ofNat nq - 1)))), .unset] [])) _
    refine st213 _ ?_
    show Steps p.tables e below (T213.setTop (mkF m 164 #[.val (.int p0), .val (.long q1), .second, .val (.int p2), .val (.int (Int32.ofNat G)), .val (.int (Int32.ofNat (G + 1))), .val (.ref b168), .val (.int (Int32.ofNat nq - 1)), .val (.int ((((((own_eq (Int32.ofNat n171k - 1) (Int32.ofNat nq - 1)) + (own_eq (Int32.ofNat n175k - 1) (Int32.ofNat nq - 1))) + (own_eq (Int32.ofNat n180k - 1) (Int32.ofNat nq - 1))) + (own_eq (Int32.ofNat n184k - 1) (Int32.ofNat nq - 1))) + (own_eq (Int32.ofNat n188k - 1) (Int32.ofNat nq - 1))) + (own_eq (Int32.ofNat n193k - 1) (Int32.ofNat nq - 1)))), .unset] [(.ref b213)])) _
    refine XS.dup X213.here hx rfl (hb hby at_164) rfl rfl ?_
    show Steps p.tables e below (T213.setTop (mkF m 165 #[.val (.int p0), .val (.long q1), .second, .val (.int p2), .val (.int (Int32.ofNat G)), .val (.int (Int32.ofNat (G + 1))), .val (.ref b168), .val (.int (Int32.ofNat nq - 1)), .val (.int ((((((own_eq (Int32.ofNat n171k - 1) (Int32.ofNat nq - 1)) + (own_eq (Int32.ofNat n175k - 1) (Int32.ofNat nq - 1))) + (own_eq (Int32.ofNat n180k - 1) (Int32.ofNat nq - 1))) + (own_eq (Int32.ofNat n184k - 1) (Int32.ofNat nq - 1))) + (own_eq (Int32.ofNat n188k - 1) (Int32.ofNat nq - 1))) + (own_eq (Int32.ofNat n193k - 1) (Int32.ofNat nq - 1)))), .unset] [(.ref b213), (.ref b213)])) _
    refine XS.aload X213.here hx rfl (hb hby at_165) rfl rfl ?_
    show Steps p.tables e below (T213.setTop (mkF m 167 #[.val (.int p0), .val (.long q1), .second, .val (.int p2), .val (.int (Int32.ofNat G)), .val (.int (Int32.ofNat (G + 1))), .val (.ref b168), .val (.int (Int32.ofNat nq - 1)), .val (.int ((((((own_eq (Int32.ofNat n171k - 1) (Int32.ofNat nq - 1)) + (own_eq (Int32.ofNat n175k - 1) (Int32.ofNat nq - 1))) + (own_eq (Int32.ofNat n180k - 1) (Int32.ofNat nq - 1))) + (own_eq (Int32.ofNat n184k - 1) (Int32.ofNat nq - 1))) + (own_eq (Int32.ofNat n188k - 1) (Int32.ofNat nq - 1))) + (own_eq (Int32.ofNat n193k - 1) (Int32.ofNat nq - 1)))), .unset] [(.ref b168), (.ref b213), (.ref b213)])) _
    refine XS.iload X213.here hx rfl (hb hby at_167) rfl ?_
    show Steps p.tables e below (T213.setTop (mkF m 169 #[.val (.int p0), .val (.long q1), .second, .val (.int p2), .val (.int (Int32.ofNat G)), .val (.int (Int32.ofNat (G + 1))), .val (.ref b168), .val (.int (Int32.ofNat nq - 1)), .val (.int ((((((own_eq (Int32.ofNat n171k - 1) (Int32.ofNat nq - 1)) + (own_eq (Int32.ofNat n175k - 1) (Int32.ofNat nq - 1))) + (own_eq (Int32.ofNat n180k - 1) (Int32.ofNat nq - 1))) + (own_eq (Int32.ofNat n184k - 1) (Int32.ofNat nq - 1))) + (own_eq (Int32.ofNat n188k - 1) (Int32.ofNat nq - 1))) + (own_eq (Int32.ofNat n193k - 1) (Int32.ofNat nq - 1)))), .unset] [(.int (Int32.ofNat G)), (.ref b168), (.ref b213), (.ref b213)])) _
    refine st219.trans ?_
    show Steps p.tables e below (T219.setTop (mkF m 172 #[.val (.int p0), .val (.long q1), .second, .val (.int p2), .val (.int (Int32.ofNat G)), .val (.int (Int32.ofNat (G + 1))), .val (.ref b168), .val (.int (Int32.ofNat nq - 1)), .val (.int ((((((own_eq (Int32.ofNat n171k - 1) (Int32.ofNat nq - 1)) + (own_eq (Int32.ofNat n175k - 1) (Int32.ofNat nq - 1))) + (own_eq (Int32.ofNat n180k - 1) (Int32.ofNat nq - 1))) + (own_eq (Int32.ofNat n184k - 1) (Int32.ofNat nq - 1))) + (own_eq (Int32.ofNat n188k - 1) (Int32.ofNat nq - 1))) + (own_eq (Int32.ofNat n193k - 1) (Int32.ofNat nq - 1)))), .unset] [(.ref b213)])) _
    refine XS.astore X219.here hx rfl (hb hby at_172) rfl rfl (l' := #[.val (.int p0), .val (.long q1), .second, .val (.int p2), .val (.int (Int32.ofNat G)), .val (.int (Int32.ofNat (G + 1))), .val (.ref b168), .val (.int (Int32.ofNat nq - 1)), .val (.int ((((((own_eq (Int32.ofNat n171k - 1) (Int32.ofNat nq - 1)) + (own_eq (Int32.ofNat n175k - 1) (Int32.ofNat nq - 1))) + (own_eq (Int32.ofNat n180k - 1) (Int32.ofNat nq - 1))) + (own_eq (Int32.ofNat n184k - 1) (Int32.ofNat nq - 1))) + (own_eq (Int32.ofNat n188k - 1) (Int32.ofNat nq - 1))) + (own_eq (Int32.ofNat n193k - 1) (Int32.ofNat nq - 1)))), .val (.ref b213)]) rfl ?_
    exact h
  obtain ⟨cq226, kq226, q226a, q226b, q226c⟩ := isOf hZ rfl f222
  obtain ⟨_, _, ⟨T226, L226, k226, n226⟩, -, X226, ⟨Lc226, hQ226, l226, y226, z226⟩, st226⟩ := X219.virtualBack hx (y := (⟨"com/example/planwright/planwright/io/Grouping", "count", "(I)I"⟩ : MethodName)) (z := (⟨"com/example/planwright/planwright/io/Grouping", "count", "(I)I"⟩ : MethodName)) hown (mvT hZ (hw _ (List.mem_of_getElem? (i := 31) rfl))) (mvT hZ (hw _ (List.mem_of_getElem? (i := 32) rfl))) (notFace_of_selects (args := #[]) (mvT hZ (hw _ (List.mem_of_getElem? (i := 34) rfl)))) (mvT hZ (hw _ (List.mem_of_getElem? (i := 34) rfl))) (mvT hZ (hw _ (List.mem_of_getElem? (i := 33) rfl))) (by decide) (backOf (W := 0) (rmC l Z a0 hw [] b213 (Int32.ofNat nq - 1) ba219 (G + 2) (fun j => Int32.ofNat (own_A (fun j => [n171k, n175k, n180k, n184k, n188k, n193k].getD j 0) 6 j)) nq (nq + 1) T219.heap n0 Z223 Fa219 Aa219 (by omega) (own_km1 nq) (own_km2 nq) (by omega) (by omega)) hZ (hw _ (List.mem_of_getElem? (i := 35) rfl)) (hw _ (List.mem_of_getElem? (i := 11) rfl)) (by decide) (by decide)) q226a q226c (g := (mkF m 178 #[.val (.int p0), .val (.long q1), .second, .val (.int p2), .val (.int (Int32.ofNat G)), .val (.int (Int32.ofNat (G + 1))), .val (.ref b168), .val (.int (Int32.ofNat nq - 1)), .val (.int ((((((own_eq (Int32.ofNat n171k - 1) (Int32.ofNat nq - 1)) + (own_eq (Int32.ofNat n175k - 1) (Int32.ofNat nq - 1))) + (own_eq (Int32.ofNat n180k - 1) (Int32.ofNat nq - 1))) + (own_eq (Int32.ofNat n184k - 1) (Int32.ofNat nq - 1))) + (own_eq (Int32.ofNat n188k - 1) (Int32.ofNat nq - 1))) + (own_eq (Int32.ofNat n193k - 1) (Int32.ofNat nq - 1)))), .val (.ref b213)] [(.int (Int32.ofNat nq - 1)), (.ref b213)])) rfl (by rw [hml]; rfl) (Steps.refl _) (argsL := [(.int (Int32.ofNat nq - 1))]) (rest := []) (lenOf own_pd_3 rfl) rfl (by show 2 * 0 + _ ≤ _; exact Nat.le_of_eq rfl) (hb hby at_178) (fun _ _ => ⟨rfl, rfl, (by decide : 5 + 0 ≤ _), (by decide : 48 + 0 ≤ _)⟩)
  dsimp only [Pt.U, Pt.locs, Pt.cells, Pt.slots] at X226 l226 y226 z226 st226 hQ226
  subst l226 y226 z226
  obtain ⟨rfl, Nq226, eq226⟩ := hQ226
  have N226 := Fr.app N219 Nq226
  have k227 : ∀ t, Steps p.tables e below (T226.setTop (mkF m 183 #[.val (.int p0), .val (.long q1), .second, .val (.int p2), .val (.int (Int32.ofNat G)), .val (.int (Int32.ofNat (G + 1))), .val (.ref b168), .val (.int (Int32.ofNat nq - 1)), .val (.int ((((((own_eq (Int32.ofNat n171k - 1) (Int32.ofNat nq - 1)) + (own_eq (Int32.ofNat n175k - 1) (Int32.ofNat nq - 1))) + (own_eq (Int32.ofNat n180k - 1) (Int32.ofNat nq - 1))) + (own_eq (Int32.ofNat n184k - 1) (Int32.ofNat nq - 1))) + (own_eq (Int32.ofNat n188k - 1) (Int32.ofNat nq - 1))) + (own_eq (Int32.ofNat n193k - 1) (Int32.ofNat nq - 1)))), .val (.ref b213)] [(.int ((((((own_eq (Int32.ofNat n171k - 1) (Int32.ofNat nq - 1)) + (own_eq (Int32.ofNat n175k - 1) (Int32.ofNat nq - 1))) + (own_eq (Int32.ofNat n180k - 1) (Int32.ofNat nq - 1))) + (own_eq (Int32.ofNat n184k - 1) (Int32.ofNat nq - 1))) + (own_eq (Int32.ofNat n188k - 1) (Int32.ofNat nq - 1))) + (own_eq (Int32.ofNat n193k - 1) (Int32.ofNat nq - 1)))), (.int (Int32.ofNat (own_A (fun j => [n171k, n175k, n180k, n184k, n188k, n193k].getD j 0) 6 (nq + 1)) - Int32.ofNat (own_A (fun j => [n171k, n175k, n180k, n184k, n188k, n193k].getD j 0) 6 nq)))])) t → Steps p.tables e below (s₁.setTop (mkF m 0 #[.val (.int p0), .val (.long q1), .second, .val (.int p2), .unset, .unset, .unset, .unset, .unset, .unset] [])) t := by
    intro t h
    refine k225 t ?_
    show Steps p.tables e below (T219.setTop (mkF m 174 #[.val (.int p0), .val (.long q1), .second, .val (.int p2), .val (.int (Int32.ofNat G)), .val (.int (Int32.ofNat (G + 1))), .val (.ref b168), .val (.int (Int32.ofNat nq - 1)), .val (.int ((((((own_eq (Int32.ofNat n171k - 1) (Int32.ofNat nq - 1)) + (own_eq (Int32.ofNat n175k - 1) (Int32.ofNat nq - 1))) + (own_eq (Int32.ofNat n180k - 1) (Int32.ofNat nq - 1))) + (own_eq (Int32.ofNat n184k - 1) (Int32.ofNat nq - 1))) + (own_eq (Int32.ofNat n188k - 1) (Int32.ofNat nq - 1))) + (own_eq (Int32.ofNat n193k - 1) (Int32.ofNat nq - 1)))), .val (.ref b213)] [])) _
    refine XS.aload X219.here hx rfl (hb hby at_174) rfl rfl ?_
    show Steps p.tables e below (T219.setTop (mkF m 176 #[.val (.int p0), .val (.long q1), .second, .val (.int p2), .val (.int (Int32.ofNat G)), .val (.int (Int32.ofNat (G + 1))), .val (.ref b168), .val (.int (Int32.ofNat nq - 1)), .val (.int ((((((own_eq (Int32.ofNat n171k - 1) (Int32.ofNat nq - 1)) + (own_eq (Int32.ofNat n175k - 1) (Int32.ofNat nq - 1))) + (own_eq (Int32.ofNat n180k - 1) (Int32.ofNat nq - 1))) + (own_eq (Int32.ofNat n184k - 1) (Int32.ofNat nq - 1))) + (own_eq (Int32.ofNat n188k - 1) (Int32.ofNat nq - 1))) + (own_eq (Int32.ofNat n193k - 1) (Int32.ofNat nq - 1)))), .val (.ref b213)] [(.ref b213)])) _
    refine XS.iload X219.here hx rfl (hb hby at_176) rfl ?_
    show Steps p.tables e below (T219.setTop (mkF m 178 #[.val (.int p0), .val (.long q1), .second, .val (.int p2), .val (.int (Int32.ofNat G)), .val (.int (Int32.ofNat (G + 1))), .val (.ref b168), .val (.int (Int32.ofNat nq - 1)), .val (.int ((((((own_eq (Int32.ofNat n171k - 1) (Int32.ofNat nq - 1)) + (own_eq (Int32.ofNat n175k - 1) (Int32.ofNat nq - 1))) + (own_eq (Int32.ofNat n180k - 1) (Int32.ofNat nq - 1))) + (own_eq (Int32.ofNat n184k - 1) (Int32.ofNat nq - 1))) + (own_eq (Int32.ofNat n188k - 1) (Int32.ofNat nq - 1))) + (own_eq (Int32.ofNat n193k - 1) (Int32.ofNat nq - 1)))), .val (.ref b213)] [(.int (Int32.ofNat nq - 1)), (.ref b213)])) _
    refine st226.trans ?_
    show Steps p.tables e below (T226.setTop (mkF m 181 #[.val (.int p0), .val (.long q1), .second, .val (.int p2), .val (.int (Int32.ofNat G)), .val (.int (Int32.ofNat (G + 1))), .val (.ref b168), .val (.int (Int32.ofNat nq - 1)), .val (.int ((((((own_eq (Int32.ofNat n171k - 1) (Int32.ofNat nq - 1)) + (own_eq (Int32.ofNat n175k - 1) (Int32.ofNat nq - 1))) + (own_eq (Int32.ofNat n180k - 1) (Int32.ofNat nq - 1))) + (own_eq (Int32.ofNat n184k - 1) (Int32.ofNat nq - 1))) + (own_eq (Int32.ofNat n188k - 1) (Int32.ofNat nq - 1))) + (own_eq (Int32.ofNat n193k - 1) (Int32.ofNat nq - 1)))), .val (.ref b213)] [(.int (Int32.ofNat (own_A (fun j => [n171k, n175k, n180k, n184k, n188k, n193k].getD j 0) 6 (nq + 1)) - Int32.ofNat (own_A (fun j => [n171k, n175k, n180k, n184k, n188k, n193k].getD j 0) 6 nq)))])) _
    refine XS.iload X226.here hx rfl (hb hby at_181) rfl ?_
    exact h
  have b183_228 : (Int32.ofNat (own_A (fun j => [n171k, n175k, n180k, n184k, n188k, n193k].getD j 0) 6 (nq + 1)) - Int32.ofNat (own_A (fun j => [n171k, n175k, n180k, n184k, n188k, n193k].getD j 0) 6 nq)) = ((((((own_eq (Int32.ofNat n171k - 1) (Int32.ofNat nq - 1)) + (own_eq (Int32.ofNat n175k - 1) (Int32.ofNat nq - 1))) + (own_eq (Int32.ofNat n180k - 1) (Int32.ofNat nq - 1))) + (own_eq (Int32.ofNat n184k - 1) (Int32.ofNat nq - 1))) + (own_eq (Int32.ofNat n188k - 1) (Int32.ofNat nq - 1))) + (own_eq (Int32.ofNat n193k - 1) (Int32.ofNat nq - 1))) := own_count _ _ _ _ _ _ _ (by omega) (by omega) (by omega) (by omega) (by omega) (by omega) (by omega)
  have k229 : ∀ t, Steps p.tables e below (T226.setTop (mkF m 191 #[.val (.int p0), .val (.long q1), .second, .val (.int p2), .val (.int (Int32.ofNat G)), .val (.int (Int32.ofNat (G + 1))), .val (.ref b168), .val (.int (Int32.ofNat nq - 1)), .val (.int ((((((own_eq (Int32.ofNat n171k - 1) (Int32.ofNat nq - 1)) + (own_eq (Int32.ofNat n175k - 1) (Int32.ofNat nq - 1))) + (own_eq (Int32.ofNat n180k - 1) (Int32.ofNat nq - 1))) + (own_eq (Int32.ofNat n184k - 1) (Int32.ofNat nq - 1))) + (own_eq (Int32.ofNat n188k - 1) (Int32.ofNat nq - 1))) + (own_eq (Int32.ofNat n193k - 1) (Int32.ofNat nq - 1)))), .val (.ref b213)] [(.int (1 : Int32))])) t → Steps p.tables e below (s₁.setTop (mkF m 0 #[.val (.int p0), .val (.long q1), .second, .val (.int p2), .unset, .unset, .unset, .unset, .unset, .unset] [])) t := by
    intro t h
    refine k227 t ?_
    show Steps p.tables e below (T226.setTop (mkF m 183 #[.val (.int p0), .val (.long q1), .second, .val (.int p2), .val (.int (Int32.ofNat G)), .val (.int (Int32.ofNat (G + 1))), .val (.ref b168), .val (.int (Int32.ofNat nq - 1)), .val (.int ((((((own_eq (Int32.ofNat n171k - 1) (Int32.ofNat nq - 1)) + (own_eq (Int32.ofNat n175k - 1) (Int32.ofNat nq - 1))) + (own_eq (Int32.ofNat n180k - 1) (Int32.ofNat nq - 1))) + (own_eq (Int32.ofNat n184k - 1) (Int32.ofNat nq - 1))) + (own_eq (Int32.ofNat n188k - 1) (Int32.ofNat nq - 1))) + (own_eq (Int32.ofNat n193k - 1) (Int32.ofNat nq - 1)))), .val (.ref b213)] [(.int ((((((own_eq (Int32.ofNat n171k - 1) (Int32.ofNat nq - 1)) + (own_eq (Int32.ofNat n175k - 1) (Int32.ofNat nq - 1))) + (own_eq (Int32.ofNat n180k - 1) (Int32.ofNat nq - 1))) + (own_eq (Int32.ofNat n184k - 1) (Int32.ofNat nq - 1))) + (own_eq (Int32.ofNat n188k - 1) (Int32.ofNat nq - 1))) + (own_eq (Int32.ofNat n193k - 1) (Int32.ofNat nq - 1)))), (.int (Int32.ofNat (own_A (fun j => [n171k, n175k, n180k, n184k, n188k, n193k].getD j 0) 6 (nq + 1)) - Int32.ofNat (own_A (fun j => [n171k, n175k, n180k, n184k, n188k, n193k].getD j 0) 6 nq)))])) _
    refine XS.icmpNo X226.here hx rfl (hb hby at_183) rfl (teq b183_228).2 ?_
    show Steps p.tables e below (T226.setTop (mkF m 186 #[.val (.int p0), .val (.long q1), .second, .val (.int p2), .val (.int (Int32.ofNat G)), .val (.int (Int32.ofNat (G + 1))), .val (.ref b168), .val (.int (Int32.ofNat nq - 1)), .val (.int ((((((own_eq (Int32.ofNat n171k - 1) (Int32.ofNat nq - 1)) + (own_eq (Int32.ofNat n175k - 1) (Int32.ofNat nq - 1))) + (own_eq (Int32.ofNat n180k - 1) (Int32.ofNat nq - 1))) + (own_eq (Int32.ofNat n184k - 1) (Int32.ofNat nq - 1))) + (own_eq (Int32.ofNat n188k - 1) (Int32.ofNat nq - 1))) + (own_eq (Int32.ofNat n193k - 1) (Int32.ofNat nq - 1)))), .val (.ref b213)] [])) _
    refine XS.iconst X226.here hx rfl (hb hby at_186) ?_
    show Steps p.tables e below (T226.setTop (mkF m 187 #[.val (.int p0), .val (.long q1), .second, .val (.int p2), .val (.int (Int32.ofNat G)), .val (.int (Int32.ofNat (G + 1))), .val (.ref b168), .val (.int (Int32.ofNat nq - 1)), .val (.int ((((((own_eq (Int32.ofNat n171k - 1) (Int32.ofNat nq - 1)) + (own_eq (Int32.ofNat n175k - 1) (Int32.ofNat nq - 1))) + (own_eq (Int32.ofNat n180k - 1) (Int32.ofNat nq - 1))) + (own_eq (Int32.ofNat n184k - 1) (Int32.ofNat nq - 1))) + (own_eq (Int32.ofNat n188k - 1) (Int32.ofNat nq - 1))) + (own_eq (Int32.ofNat n193k - 1) (Int32.ofNat nq - 1)))), .val (.ref b213)] [(.int (1 : Int32))])) _
    refine XS.goto X226.here hx rfl (pc0 := 187) (pc' := 191) rfl (hb hby at_187) (by decide) (by decide) ?_
    exact h
  obtain ⟨fs, hr, hrun, hended, hW, hsame⟩ := X226.leave (v := some (.int (1 : Int32))) (fun h => by rw [Bd.returns] at h; cases h) Bd.notSynchronized
  refine ⟨_, _, pre0 _ (k229 _ ?_), hrun, hended, _, _, rfl, ?_, ⟨_, rfl⟩, hW, hsame.mono (by decide) (by decide)⟩
  · exact retN X226 hx (t := .boolean) Bd.returns (by simp) (hb hby at_191) hr
  · show Q_rm0 Z _ _ _ h0 n0 _ T226.heap _
    rw [eq226]
    exact ⟨rfl, N226⟩
set_option maxRecDepth 65536 in
set_option maxHeartbeats 40000000 in
theorem comes_1 {Post : Tables → Env → Array Value → State → Outcome → State → Prop} (hpost : ∀ tb e args s v u, (limb_1_1.after args s (.returned v) u = true ∧ limb_1_2.after args s (.returned v) u = true ∧ True) → FrameEnd s (.returned v) u (Jvm.fieldLocs frame_1_writes args s ++ Jvm.arrayLocs frame_1_arrays args s ++ Jvm.staticLocs frame_1_statics s) 24 192 → Post tb e args s (.returned v) u) :
    ArmFor flags0 classFile x code maxLocals ret World_1 tables_1 room_1 Calls_1 rest_1 Pre_1 Post := by
  intro l hfl _ _ p e ha hc hk s m args below hf hA hF happ hP
  obtain ⟨hcalls, hrest, hpre⟩ := hP
  obtain ⟨-, -, -, hnamed, -, -, -, hat⟩ := (Spec.applies_iff hf).mp happ
  obtain ⟨hg, hn⟩ := and_e (Cond.before_iff.mp (show (Jvm.Cond.and given_1 narrow_1).before args s = true from hpre))
  obtain ⟨g1, g2⟩ := and_e hg
  obtain ⟨g3, g4⟩ := and_e g2
  obtain ⟨g5, g6⟩ := and_e g4
  obtain ⟨w0, w1, w2, rfl⟩ : ∃ w0 w1 w2 : Value, args = #[w0, w1, w2] := by
    have hs : args.size = 3 := by simpa [Cond.value, given_1] using g1
    obtain ⟨L⟩ := args
    match L, hs with
    | [w0, w1, w2], _ => exact ⟨w0, w1, w2, rfl⟩
  have hw := fun d (hd : d ∈ tables_1) => atoms_spec (ws := Jvm.Cond.code x code maxLocals ret :: tables_1) hat d (List.mem_cons_of_mem _ hd)
  have hfit : Fit s := fun {y c} hc i hi => by
    obtain ⟨ha, rfl⟩ := Array.getElem?_eq_some_iff.mp hc
    have q := List.all_eq_true.mp ((Array.all_eq_true_iff_forall_mem.mp hF) _ (Array.getElem_mem ha)) i (List.mem_range.mpr hi)
    simpa [Array.getElem?_eq_getElem hi] using q
  obtain ⟨i0, ei0⟩ := is_v g3
  obtain rfl : w0 = (.int i0) := Option.some.inj ei0
  obtain ⟨i1, ei1⟩ := isL_v g5
  obtain rfl : w1 = (.long i1) := Option.some.inj ei1
  obtain ⟨i2, ei2⟩ := is_v g6
  obtain rfl : w2 = (.int i2) := Option.some.inj ei2
  obtain ⟨n, o, h1, h2, h3, _, L, rfl, ⟨rfl, N⟩, hq⟩ := rm0 l s _ hw tables_1 i0 i1 i2  s.heap s.heap.size (Nat.le_refl _)  p e ha hc hk s m _ below hf ((Spec.applies_iff_loose hf).mp happ).1 ⟨rfl, State.Warmed39.refl s, rfl⟩ trivial
  refine ⟨n, _, h1, h2, h3, hpost _ _ _ _ _ _ ⟨Cond.after_iff.mpr rfl, Cond.after_iff.mpr (eq_i res_at (Term.int_eval (1)) rfl), trivial⟩ ⟨hq.1, hq.2.1, (hq.2.2.sift fun y hy => Or.inr (N y hy)).mono (by decide) (by decide)⟩⟩
theorem main_1_1 : Claimed_1_1 := comes_1 fun _ _ _ _ _ _ h hF => ⟨h.1, hF⟩
theorem main_1_2 : Claimed_1_2 := comes_1 fun _ _ _ _ _ _ h hF => ⟨h.2.1, hF⟩
end Jvm.Pilot.@@N@@
namespace Jvm.Pilot.@@N@@
open Jvm Jvm.ClassFile Sem Op Lib Jvm.Free Jvm.Stand Jvm.Pilot.@@N@@.Jvm.D
/-! MADE BY PROGRAM (witnessworld.py) out of the Statement's table words and the real class files: 9 classes; the members and pool entries that the words name. The judged class is class 1, her method 3. -/
namespace start1
open Jvm.ClassFile
def u (s : String) : CpInfo := .utf8 (stringToUtf16 s)
/-- a pool by its gaps: so many unusable entries, then the entry; so many at the end -/
def gap : Nat → List CpInfo → List CpInfo
  | 0, r => r
  | n + 1, r => .unusable :: gap n r
def poolList (es : List (Nat × CpInfo)) (last : Nat) : List CpInfo := es.foldr (fun e r => gap e.1 (e.2 :: r)) (gap last [])
def pool (es : List (Nat × CpInfo)) (last : Nat) : Array CpInfo := ⟨poolList es last⟩
def fileOf (pool : Array CpInfo) (this : Nat) (attrs : Array Attribute := #[]) (ms : Array MethodInfo := #[]) (fl : Nat := 33) (sup : Nat := 0) (ifs : Array Nat := #[]) (fds : Array FieldInfo := #[]) : ClassFile where
  minorVersion := 0
  majorVersion := 65
  constantPool := pool
  accessFlags := fl
  thisClass := this
  superClass := sup
  interfaces := ifs
  fields := fds
  methods := ms
  attributes := attrs
def plain (name : String) (sup : Option ClassId) : Class where
  name := name
  kind := .ordinary
  loader := none
  accessFlags := 33
  super := sup
  interfaces := #[]
  cf := none
  fields := #[]
  methods := #[]
  instanceTypes := #[]
  staticTypes := #[]
  resolved := #[]
  callSites := []
  init := .initialized
  statics := none
  mirror := none

def pool0 : Array CpInfo := pool [(5, u "<init>"), (0, u "()V"), (1, .class_ 10), (1, u "java/lang/Object"), (85, u "clone"), (0, u "()Ljava/lang/Object;")] 26

def k0c0 : Code := { maxStack := 0, maxLocals := 1, code := object_method_1_code, exceptionTable := #[], attributes := #[] }
def k0m0 : Method := { name := "<init>", desc := "()V", sig := { parameters := [], returnType := none }, accessFlags := 1, code := some k0c0 }
def k0m1 : Method := { name := "clone", desc := "()Ljava/lang/Object;", sig := { parameters := [], returnType := some (.object "java/lang/Object") }, accessFlags := 260, code := none }
/-- java/lang/Object -/
def k0 : Class := { plain "java/lang/Object" none with
  accessFlags := 33
  interfaces := #[]
  cf := some (fileOf pool0 8 #[] #[{ accessFlags := 1, nameIndex := 5, descriptorIndex := 6, attributes := #[] }, { accessFlags := 260, nameIndex := 96, descriptorIndex := 97, attributes := #[] }] 33 0 #[] #[])
  fields := #[]
  methods := #[k0m0, k0m1]
  instanceTypes := #[]
  staticTypes := #[]
  resolved := Array.replicate 124 none
  statics := none }

def pool1 : Array CpInfo := pool [(2, .class_ 4), (1, u "java/lang/Object"), (0, u "<init>"), (0, u "()V"), (0, .methodref 8 9), (0, .class_ 10), (0, .nameAndType 11 12), (0, u "com/example/planwright/planwright/io/GroupingCountPinLaw"), (0, u "key"), (0, u "(JII)I"), (0, .integer 2147483647), (0, .methodref 8 15), (0, .nameAndType 16 17), (0, u "eq"), (0, u "(II)I"), (0, .class_ 19), (0, u "com/example/planwright/planwright/io/Grouping"), (0, .methodref 18 21), (0, .nameAndType 5 22), (0, u "([II)V"), (0, .methodref 18 24), (0, .nameAndType 25 26), (0, u "count"), (0, u "(I)I"), (3, u "law"), (0, u "(IJI)Z")] 4

def k1m0 : Method := { name := "<init>", desc := "()V", sig := { parameters := [], returnType := none }, accessFlags := 1, code := none }
def k1c1 : Code := { maxStack := 3, maxLocals := 4, code := method_2_code, exceptionTable := #[], attributes := #[] }
def k1m1 : Method := { name := "key", desc := "(JII)I", sig := { parameters := [.long, .int, .int], returnType := some .int }, accessFlags := 10, code := some k1c1 }
def k1c2 : Code := { maxStack := 2, maxLocals := 2, code := method_3_code, exceptionTable := #[], attributes := #[] }
def k1m2 : Method := { name := "eq", desc := "(II)I", sig := { parameters := [.int, .int], returnType := some .int }, accessFlags := 10, code := some k1c2 }
def k1c3 : Code := { maxStack := 6, maxLocals := 10, code := code, exceptionTable := #[], attributes := #[] }
def k1m3 : Method := { name := "law", desc := "(IJI)Z", sig := { parameters := [.int, .long, .int], returnType := some .boolean }, accessFlags := 9, code := some k1c3 }
/-- com/example/planwright/planwright/io/GroupingCountPinLaw -/
def k1 : Class := { plain "com/example/planwright/planwright/io/GroupingCountPinLaw" (some 0) with
  accessFlags := 49
  interfaces := #[]
  cf := some (fileOf pool1 8 #[] #[{ accessFlags := 1, nameIndex := 5, descriptorIndex := 6, attributes := #[] }, { accessFlags := 10, nameIndex := 11, descriptorIndex := 12, attributes := #[] }, { accessFlags := 10, nameIndex := 16, descriptorIndex := 17, attributes := #[] }, { accessFlags := 9, nameIndex := 30, descriptorIndex := 31, attributes := #[] }] 49 2 #[] #[])
  fields := #[]
  methods := #[k1m0, k1m1, k1m2, k1m3]
  instanceTypes := #[]
  staticTypes := #[]
  resolved := Array.replicate 36 none
  statics := none }

def pool2 : Array CpInfo := pool [(1, .methodref 2 3), (0, .class_ 4), (0, .nameAndType 5 6), (0, u "java/lang/Object"), (0, u "<init>"), (0, u "()V"), (0, .fieldref 8 9), (0, .class_ 10), (0, .nameAndType 11 12), (0, u "com/example/planwright/planwright/io/Grouping"), (0, u "starts"), (0, u "[I"), (0, .fieldref 8 14), (0, .nameAndType 15 12), (0, u "members"), (0, .methodref 17 18), (0, .class_ 12), (0, .nameAndType 19 20), (0, u "clone"), (0, u "()Ljava/lang/Object;"), (0, u "([II)V"), (3, u "count"), (0, u "(I)I")] 4

def k2c0 : Code := { maxStack := 6, maxLocals := 7, code := prog_17_method_1_code, exceptionTable := #[], attributes := #[] }
def k2m0 : Method := { name := "<init>", desc := "([II)V", sig := { parameters := [(.array .int), .int], returnType := none }, accessFlags := 0, code := some k2c0 }
def k2c1 : Code := { maxStack := 4, maxLocals := 2, code := prog_17_method_2_code, exceptionTable := #[], attributes := #[] }
def k2m1 : Method := { name := "count", desc := "(I)I", sig := { parameters := [.int], returnType := some .int }, accessFlags := 0, code := some k2c1 }
/-- com/example/planwright/planwright/io/Grouping -/
def k2 : Class := { plain "com/example/planwright/planwright/io/Grouping" (some 0) with
  accessFlags := 48
  interfaces := #[]
  cf := some (fileOf pool2 8 #[] #[{ accessFlags := 0, nameIndex := 5, descriptorIndex := 21, attributes := #[] }, { accessFlags := 0, nameIndex := 25, descriptorIndex := 26, attributes := #[] }] 48 2 #[] #[{ accessFlags := 18, nameIndex := 11, descriptorIndex := 12, attributes := #[] }, { accessFlags := 18, nameIndex := 15, descriptorIndex := 12, attributes := #[] }])
  fields := #[{ name := "starts", type := (.array .int), accessFlags := 18, slot := 0, constantValue := 0 }, { name := "members", type := (.array .int), accessFlags := 18, slot := 1, constantValue := 0 }]
  methods := #[k2m0, k2m1]
  instanceTypes := #[(.array .int), (.array .int)]
  staticTypes := #[]
  resolved := Array.replicate 31 none
  statics := none }

def pool3 : Array CpInfo := pool [(1, .class_ 2), (0, u "java/lang/Cloneable"), (0, .class_ 4), (0, u "java/lang/Object")] 2

/-- java/lang/Cloneable -/
def k3 : Class := { plain "java/lang/Cloneable" (some 0) with
  accessFlags := 1537
  interfaces := #[]
  cf := some (fileOf pool3 1 #[] #[] 1537 3 #[] #[])
  fields := #[]
  methods := #[]
  instanceTypes := #[]
  staticTypes := #[]
  resolved := Array.replicate 7 none
  statics := none }

def pool4 : Array CpInfo := pool [(1, u "java/io/Serializable"), (0, .class_ 1), (0, u "java/lang/Object"), (0, .class_ 3)] 3

/-- java/io/Serializable -/
def k4 : Class := { plain "java/io/Serializable" (some 0) with
  accessFlags := 1537
  interfaces := #[]
  cf := some (fileOf pool4 2 #[] #[] 1537 4 #[] #[])
  fields := #[]
  methods := #[]
  instanceTypes := #[]
  staticTypes := #[]
  resolved := Array.replicate 8 none
  statics := none }

/-- the primitive byte -/
def k5 : Class := { plain "byte" none with kind := .primitive 'B', accessFlags := 0x411 }
/-- [B -/
def k6 : Class := { plain "[B" (some 0) with kind := .array 5 .byte, interfaces := #[3, 4], accessFlags := 1041 }

/-- the primitive int -/
def k7 : Class := { plain "int" none with kind := .primitive 'I', accessFlags := 0x411 }
/-- [I -/
def k8 : Class := { plain "[I" (some 0) with kind := .array 7 .int, interfaces := #[3, 4], accessFlags := 1041 }

def heap : Heap := #[]
def classes : Array Class := #[k0, k1, k2, k3, k4, k5, k6, k7, k8]
def interned : List (Array UInt16 × Addr) := []
def slotsUsed : Nat := 0
def theMethod : MethodId := ⟨1, 3⟩
def args0 : Array Value := #[.int 5, .long 77, .int 3]
def aboutOver (below : List Frame) : State where
  vm := { classes := classes, interned := interned.toArray }
  heap := heap
  slotsUsed := slotsUsed
  threads := #[{ frames := .invoking theMethod args0 :: below }]
def below0 : List Frame := [.native { method := ⟨0, 0⟩, args := #[] }]
def about1 : State := aboutOver below0
def p0 : Program := .bare "" "" ""
def e0 : Env := launch0.env 0 0 0
theorem w_frames : about1.frames = Frame.invoking theMethod args0 :: below0 := rfl
set_option maxRecDepth 65536 in
theorem w_args : argsFit about1.vm theMethod args0 = true := by decide +kernel
set_option maxRecDepth 65536 in
theorem w_heap : heapFits about1 = true := by decide +kernel
set_option maxRecDepth 65536 in
theorem w_runnable : about1.curStatus? = some .runnable := by decide +kernel
set_option maxRecDepth 65536 in
theorem w_alone : about1.alone = true := by decide +kernel
set_option maxRecDepth 65536 in
theorem w_named : about1.methodNamed? x = some theMethod := by decide +kernel
set_option maxRecDepth 65536 in
theorem w_hears : about1.hears theMethod below0 = true := by decide +kernel
set_option maxRecDepth 65536 in
theorem w_ripe : about1.ripe theMethod args0 below0 = true := by decide +kernel
theorem w_running : about1.status = .running := rfl
set_option maxRecDepth 65536 in
theorem w_room : about1.hasRoom e0.platform room_1 = true :=
  launch0.hasRoom_least _ room_1 (by decide +kernel) (by decide +kernel) (by decide +kernel) (by decide +kernel) (by decide +kernel) (by decide +kernel)
theorem allAtoms_all (ts : List Jvm.Cond) (a : Array Jvm.Value) (st : Jvm.State) : (allAtoms ts).before a st = ts.all (fun c => c.before a st) := by
  induction ts with
  | nil => rfl
  | cons c t ih =>
    show (Jvm.Cond.and c (allAtoms t)).before a st = _
    rw [Jvm.Cond.before_and, ih, List.all_cons]
def words1 : List Jvm.Cond := Jvm.Cond.code x code maxLocals ret :: tables_1
/-- a 'code' word, met by the world's own term for the bytes: nothing is compared byte by byte -/
theorem code_word {y : MethodName} {bytes : ByteArray} {mx : Nat} {rt : Option FieldType} {a : Array Value} {s : State} {m : MethodId} {meth : Method} {c : Code} (h1 : s.methodNamed? y = some m) (h2 : s.vm.method? m = some meth) (h3 : meth.code = some c) (h4 : c.code = bytes)
    (h5 : (c.maxLocals == mx && c.exceptionTable.isEmpty && decide (c.maxStack ≤ mostOperands) && decide (meth.sig.returnType = rt) && !meth.locks && decide (parseMethodDescriptor y.desc = some meth.sig)) = true) : (Jvm.Cond.code y bytes mx rt).before a s = true := by
  simp only [Bool.and_eq_true, beq_iff_eq, Bool.not_eq_true', decide_eq_true_eq] at h5
  obtain ⟨⟨⟨⟨⟨g1, g2⟩, g3⟩, g4⟩, g5⟩, g6⟩ := h5
  simp [Cond.before, Cond.holds, Cond.value, h1, h2, h3, h4, g1, g2, g3, g4, g5, g6]
def isCode : Jvm.Cond → Bool
  | .code _ _ _ _ => true
  | _ => false
theorem all_split {L : List Jvm.Cond} {P : Jvm.Cond → Bool} (h1 : L.all (fun c => isCode c || P c) = true) (h2 : ∀ c ∈ L.filter isCode, P c = true) : L.all P = true := by
  refine List.all_eq_true.mpr fun c hc => ?_
  have h := List.all_eq_true.mp h1 c hc
  rcases Bool.eq_false_or_eq_true (isCode c) with hi | hi
  · exact h2 c (List.mem_filter.mpr ⟨hc, hi⟩)
  · simpa [hi] using h
set_option maxRecDepth 65536 in
theorem w_c0 : (Jvm.Cond.code x code maxLocals ret).before args0 about1 = true := code_word (m := ⟨1, 3⟩) (meth := k1m3) (c := k1c3) (by decide +kernel) rfl rfl rfl (by decide +kernel)
set_option maxRecDepth 65536 in
theorem w_c1 : (Jvm.Cond.code ({ cls := "com/example/planwright/planwright/io/GroupingCountPinLaw", name := "key", desc := "(JII)I" } : Jvm.MethodName) method_2_code (4 : Nat) (Option.some Jvm.ClassFile.FieldType.int)).before args0 about1 = true := code_word (m := ⟨1, 1⟩) (meth := k1m1) (c := k1c1) (by decide +kernel) rfl rfl rfl (by decide +kernel)
set_option maxRecDepth 65536 in
theorem w_c2 : (Jvm.Cond.code ({ cls := "com/example/planwright/planwright/io/GroupingCountPinLaw", name := "eq", desc := "(II)I" } : Jvm.MethodName) method_3_code (2 : Nat) (Option.some Jvm.ClassFile.FieldType.int)).before args0 about1 = true := code_word (m := ⟨1, 2⟩) (meth := k1m2) (c := k1c2) (by decide +kernel) rfl rfl rfl (by decide +kernel)
set_option maxRecDepth 65536 in
theorem w_c3 : (Jvm.Cond.code ({ cls := "com/example/planwright/planwright/io/Grouping", name := "<init>", desc := "([II)V" } : Jvm.MethodName) prog_17_method_1_code (7 : Nat) (Option.none : Option Jvm.ClassFile.FieldType)).before args0 about1 = true := code_word (m := ⟨2, 0⟩) (meth := k2m0) (c := k2c0) (by decide +kernel) rfl rfl rfl (by decide +kernel)
set_option maxRecDepth 65536 in
theorem w_c4 : (Jvm.Cond.code ({ cls := "java/lang/Object", name := "<init>", desc := "()V" } : Jvm.MethodName) object_method_1_code (1 : Nat) (Option.none : Option Jvm.ClassFile.FieldType)).before args0 about1 = true := code_word (m := ⟨0, 0⟩) (meth := k0m0) (c := k0c0) (by decide +kernel) rfl rfl rfl (by decide +kernel)
set_option maxRecDepth 65536 in
theorem w_c5 : (Jvm.Cond.code ({ cls := "com/example/planwright/planwright/io/Grouping", name := "count", desc := "(I)I" } : Jvm.MethodName) prog_17_method_2_code (2 : Nat) (Option.some Jvm.ClassFile.FieldType.int)).before args0 about1 = true := code_word (m := ⟨2, 1⟩) (meth := k2m1) (c := k2c1) (by decide +kernel) rfl rfl rfl (by decide +kernel)
def codes1 : List Jvm.Cond := [Jvm.Cond.code x code maxLocals ret, Jvm.Cond.code ({ cls := "com/example/planwright/planwright/io/GroupingCountPinLaw", name := "key", desc := "(JII)I" } : Jvm.MethodName) method_2_code (4 : Nat) (Option.some Jvm.ClassFile.FieldType.int), Jvm.Cond.code ({ cls := "com/example/planwright/planwright/io/GroupingCountPinLaw", name := "eq", desc := "(II)I" } : Jvm.MethodName) method_3_code (2 : Nat) (Option.some Jvm.ClassFile.FieldType.int), Jvm.Cond.code ({ cls := "com/example/planwright/planwright/io/Grouping", name := "<init>", desc := "([II)V" } : Jvm.MethodName) prog_17_method_1_code (7 : Nat) (Option.none : Option Jvm.ClassFile.FieldType), Jvm.Cond.code ({ cls := "java/lang/Object", name := "<init>", desc := "()V" } : Jvm.MethodName) object_method_1_code (1 : Nat) (Option.none : Option Jvm.ClassFile.FieldType), Jvm.Cond.code ({ cls := "com/example/planwright/planwright/io/Grouping", name := "count", desc := "(I)I" } : Jvm.MethodName) prog_17_method_2_code (2 : Nat) (Option.some Jvm.ClassFile.FieldType.int)]
set_option maxRecDepth 65536 in
theorem codes_eq : words1.filter isCode = codes1 := rfl
theorem w_codes : ∀ c ∈ words1.filter isCode, c.before args0 about1 = true := by
  rw [codes_eq]
  intro c hc
  simp only [codes1, List.mem_cons, List.not_mem_nil, or_false] at hc
  rcases hc with rfl | rfl | rfl | rfl | rfl | rfl
  · exact w_c0
  · exact w_c1
  · exact w_c2
  · exact w_c3
  · exact w_c4
  · exact w_c5
set_option maxRecDepth 65536 in
theorem w_t1 : (words1.take 24).all (fun c => isCode c || c.before args0 about1) = true := by decide +kernel
set_option maxRecDepth 65536 in
theorem w_t2 : (words1.drop 24).all (fun c => isCode c || c.before args0 about1) = true := by decide +kernel
theorem w_tables : (allAtoms (Jvm.Cond.code x code maxLocals ret :: tables_1)).before args0 about1 = true := by
  rw [allAtoms_all]
  show words1.all (fun c => c.before args0 about1) = true
  refine all_split ?_ w_codes
  rw [← List.take_append_drop 24 words1, List.all_append, w_t1, w_t2]
  rfl
set_option maxRecDepth 65536 in
theorem w_case : (Jvm.Cond.and given_1 narrow_1).before args0 about1 = true := by decide +kernel
theorem w_applies : (headSpec (Jvm.Cond.code x code maxLocals ret :: tables_1) room_1).applies x e0.platform about1 = true :=
  (Spec.applies_iff w_frames).mpr ⟨w_running, w_runnable, w_alone, w_named, w_hears, w_ripe, w_room, w_tables⟩
theorem atStart : AtStart classFile x code maxLocals ret World_1 tables_1 room_1 Calls_1 rest_1 Pre_1 launch0 p0 e0 about1 theMethod args0 below0 :=
  ⟨lists_1, trivial, launch0.admits_env _ _ _, launch0.least_env, fairChoices_fair.cas, fairChoices_fair.clock, w_frames, w_args, w_heap, w_applies, trivial, trivial, w_case⟩
end start1
theorem witness_1 : WitnessClaimed_1 := ⟨start1.p0, start1.e0, start1.about1, start1.theMethod, start1.args0, start1.below0, start1.atStart⟩
end Jvm.Pilot.@@N@@
