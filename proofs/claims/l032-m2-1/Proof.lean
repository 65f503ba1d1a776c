import JvmDerived
import JvmDerived.Pilot.@@N@@Statement
import JvmDerived.Pilot.@@N@@Code
set_option linter.unusedVariables false
set_option linter.unusedSimpArgs false
namespace Jvm.RoadKit
open Sem ClassFile Op Lib Jvm.Stand Jvm.Free Jvm.LawKit
section New
variable {p : Program} {l : Launch} {e : Env} {R : Room} {s : State} {m : MethodId} {args : Array Value} {below : List Frame} {meth : Method} {c : Code} {T : State} {locs : List Loc} {cells slots : Nat}
theorem retI (X : Stand p l e R s m args below meth c T locs cells slots) (hx : p.tables.exec = Jvm.exec) {pc : Nat} {Ls : Array Slot} {z : Int32} {rest : List Value} (hret : meth.sig.returnType = some .int) (hd : decode c.code pc = .ok (.ireturn, 1)) {fs : List Frame}
    (hl : ∀ (f : JFrame) (acts : List Action), f.method = m → f.locked = none → f.entered = [] → (doReturn e (T.setTop f) acts (some (.int z))).1 = T.setFrames fs) : Steps p.tables e below (T.setTop (mkF m pc Ls (.int z :: rest))) (T.setFrames fs) := by
  have hm' : T.vm.method? m = some meth := X.method'
  have hn : narrow .int (.int z) = .int z := rfl
  show Steps p.tables e below (T.setTop { method := m, pc := pc, locals := Ls, stack := _ :: rest, locked := none }) _
  jvm_step X.here [X.here.top, hx, hd, hm', hret, hn]
  first | (intro acts; rw [hl _ acts rfl rfl rfl]) | rw [hl _ _ rfl rfl rfl]
  exact Steps.refl _
theorem own_dupX2 (X : Stand p l e R s m args below meth c T locs cells slots) (hx : p.tables.exec = Jvm.exec) {pc : Nat} {Ls : Array Slot} {x y z : Value} {rest : List Value} (hd : decode c.code pc = .ok (.dup_x2, 1)) (h1 : x.category = 1) (h2 : y.category = 1) (h3 : z.category = 1) {target : State}
    (k : Steps p.tables e below (T.setTop (mkF m (pc + 1) Ls (x :: y :: z :: x :: rest))) target) : Steps p.tables e below (T.setTop (mkF m pc Ls (x :: y :: z :: rest))) target := by
  show Steps p.tables e below (T.setTop { method := m, pc := pc, locals := Ls, stack := x :: y :: z :: rest, locked := none }) _
  jvm_step X.here [X.here.top, hx, hd, h1, h2, h3]
  exact k
end New
end Jvm.RoadKit
namespace Jvm.Pilot.@@N@@
open Jvm Jvm.ClassFile Sem Op Lib Jvm.Free Jvm.Stand Jvm.LawKit Jvm.RoadKit Bundle Jvm.Pilot.@@N@@.Jvm.D

def own_IA (Z : State) (h : Heap) (a : Addr) (n : Nat) (f : Nat → Int32) : Prop := ∃ cl : Cell, Arr Z h a cl .int ∧ cl.slots.size = n ∧ ∀ j, j < n → cl.slots[j]? = some (.int (f j))
section IA
variable {Z : State} {h h' : Heap} {a b : Addr} {n i sl : Nat} {f g : Nat → Int32} {x j : Int32} {v : Value} {ws : List Addr}
theorem own_IA.lt (F : own_IA Z h a n f) : a < h.size := by obtain ⟨cl, A, -⟩ := F; exact A.lt
theorem own_IA.ext (F : own_IA Z h a n f) (E : Ext h h') : own_IA Z h' a n f := by obtain ⟨cl, A, r⟩ := F; exact ⟨cl, A.ext E, r⟩
theorem own_IA.other (F : own_IA Z h b n f) (W : Wr h h' a sl v) (q : b ≠ a) : own_IA Z h' b n f := by obtain ⟨cl, A, r⟩ := F; exact ⟨cl, A.other W q, r⟩
theorem own_IA.keep (F : own_IA Z h a n f) (K : Keep h h' ws) (q : a ∉ ws) : own_IA Z h' a n f := by obtain ⟨cl, A, r⟩ := F; exact ⟨cl, ⟨K.2.1 a cl A.1 q, A.2⟩, r⟩
theorem own_IA.congr (F : own_IA Z h a n f) (q : ∀ j, j < n → f j = g j) : own_IA Z h a n g := by
  obtain ⟨cl, A, S, H⟩ := F
  exact ⟨cl, A, S, fun j hj => by rw [← q j hj]; exact H j hj⟩
theorem own_IA.at (F : own_IA Z h a n f) (hj : j = Int32.ofNat i) (hi : i < n) (hn : n < 2 ^ 31) : ∃ cl : Cell, Arr Z h a cl .int ∧ ¬ (j < 0 ∨ cl.slots.size ≤ j.toNatClampNeg) ∧ cl.slots[j.toNatClampNeg]? = some (.int (f i)) := by
  obtain ⟨cl, A, S, H⟩ := F
  refine ⟨cl, A, by rw [S]; exact within hj hi hn, ?_⟩
  rw [clamp_of hj (Nat.lt_trans hi hn)]
  exact H i hi
theorem own_IA.set (F : own_IA Z h a n f) (W : Wr h h' a j.toNatClampNeg (.int x)) (hj : j = Int32.ofNat i) (hi : i < n) (hn : n < 2 ^ 31) : own_IA Z h' a n (fun k => if k = i then x else f k) := by
  obtain ⟨cl, A, S, H⟩ := F
  refine ⟨_, A.same W, by rw [sz_set]; exact S, fun k hk => ?_⟩
  rw [clamp_of hj (Nat.lt_trans hi hn)]
  show (cl.slots.setIfInBounds i (.int x))[k]? = some (Value.int (if k = i then x else f k))
  by_cases e : k = i
  · subst e
    rw [Array.getElem?_setIfInBounds_self_of_lt (by omega), if_pos rfl]
  · rw [Array.getElem?_setIfInBounds_ne (fun q => e q.symm), if_neg e]
    exact H k hk
theorem own_IA.len (F : own_IA Z h a n f) : ∃ cl : Cell, Arr Z h a cl .int ∧ cl.slots.size.toInt32 = Int32.ofNat n := by
  obtain ⟨cl, A, S, -⟩ := F
  exact ⟨cl, A, by rw [S]⟩
theorem own_IA.ofV {k : ClassId} {z : Int32} {vs : List Int32} (V : Arv Z h a k .int z (vs.map Value.int) (.int 0)) (hz : z.toNatClampNeg = n) : own_IA Z h a n (fun j => vs.getD j 0) := by
  obtain ⟨cl, A, -, S, -, H, -⟩ := V
  refine ⟨cl, A, by rw [S]; exact hz, fun j hj => ?_⟩
  rw [H j (by rw [S, hz]; exact hj)]
  congr 1
  clear H hj S hz
  induction vs generalizing j with
  | nil => rfl
  | cons y t ih => cases j with
    | zero => rfl
    | succ k => exact ih k
theorem own_fitC {cl : Cell} (A : Arr Z h a cl .int) (hi : ∀ (i : Nat) (v : Value), cl.slots[i]? = some v → ∃ x, v = Value.int x) : FitC Z cl := fun i v hv => by
  obtain ⟨x, rfl⟩ := hi i v hv
  obtain ⟨hs, k, hk, comp, hkind⟩ := A.2.1
  have e : Z.slotType? cl.cls .none i = some .int := by simp [State.slotType?, hk, hkind]
  simp [State.fitsSlot, e, fits]
theorem own_inc (i : Nat) : Int32.ofNat i + 1 = Int32.ofNat (i + 1) := (inc_ofNat i).symm
theorem own_lt {i n : Nat} (h : i < n) (hn : n < 2 ^ 31) : Int32.ofNat i < Int32.ofNat n := by
  rw [Int32.lt_iff_toInt_lt, toInt_of rfl (Nat.lt_trans h hn), toInt_of rfl hn]; omega
theorem own_nlt {i n : Nat} (h : n ≤ i) (hn : i < 2 ^ 31) : ¬ Int32.ofNat i < Int32.ofNat n := by
  rw [Int32.lt_iff_toInt_lt, toInt_of rfl hn, toInt_of rfl (Nat.lt_of_le_of_lt h hn)]; omega
end IA
section IAlaws
variable {p : Program} {l : Launch} {e : Env} {R : Room} {s : State} {m : MethodId} {args : Array Value} {below : List Frame} {meth : Method} {c : Code} {T : State} {locs : List Loc} {cells slots : Nat} {Z : State} {a0 : Array Value} {h : Heap}
set_option maxHeartbeats 2000000 in
theorem own_newI (X : Stand p l e R s m args below meth c T locs cells slots) (hx : p.tables.exec = Jvm.exec) (hZ : Z.Warmed39 s.vm) (w : (Jvm.Cond.arrayClass .int).before a0 Z = true) (eT : T.heap = h) {g : JFrame} (hg : g.method = m) (hd : decode c.code g.pc = .ok (.newarray .int, 2)) {z : Int32} {rest : List Value} (hs : g.stack = .int z :: rest)
    {nn cap : Nat} (hz : z = Int32.ofNat nn) (hcap : nn ≤ cap) (hb : cap ≤ 65536) (hc : cells + 1 ≤ R.cells) (hl : slots + cap ≤ R.slots) :
    ∃ T' h', Stand p l e R s m args below meth c T' locs (cells + 1) (slots + cap) ∧ T'.heap = h' ∧ Ext h h' ∧ own_IA Z h' h.size nn (fun _ => 0) ∧ Exa Z h' h.size "[I" ∧
      ∀ target, Steps p.tables e below (T'.setTop { g with pc := g.pc + 2, stack := .ref h.size :: rest }) target → Steps p.tables e below (T.setTop g) target := by
  have hn : z.toNatClampNeg = nn := clamp_of hz (by omega)
  have hneg : ¬ z < 0 := fun q => by
    rw [Int32.lt_iff_toInt_lt, toInt_of hz (by omega)] at q
    have q0 : (0 : Int32).toInt = 0 := rfl
    omega
  obtain ⟨cA, kA, comp, h1, h2, h3, X', st⟩ := X.newarrayPrim hx (atype := .int) (mvA hZ w) hg hd hs hneg (by rw [hn]; show nn * 4 ≤ _; omega) hc (by rw [hn]; omega)
  subst eT
  rw [hZ.alike.findClass] at h1
  obtain ⟨kZ, z1, -⟩ := Vm.findClass_spec h1
  obtain ⟨k', z2, z3⟩ := hZ.alike.2.2 _ _ z1
  cases h2.symm.trans z2
  have hk : kZ.kind = .array comp .int := (congrArg Class.kind z3).symm.trans h3
  refine ⟨_, T.heap.push { cls := cA, slots := Array.replicate z.toNatClampNeg (defaultValue (newarray.typeOf .int)), vm := .none }, X'.more (Nat.le_refl _) (by rw [hn]; omega), rfl, ?_, ⟨_, ⟨Array.getElem?_push_size, ⟨by simp, kZ, z1, comp, hk⟩, by simp⟩, ?_, fun j hj => ?_⟩, ⟨_, kZ, Array.getElem?_push_size, h1, z1, rfl, fun q => ?_⟩, st⟩
  · refine ⟨by simp, fun a c q => ?_⟩
    rw [Array.getElem?_push_lt (Array.getElem?_eq_some_iff.mp q).1]; exact (Array.getElem?_eq_getElem _).symm.trans q
  · show (Array.replicate z.toNatClampNeg (defaultValue (newarray.typeOf .int))).size = nn
    rw [Array.size_replicate, hn]
  · show (Array.replicate z.toNatClampNeg (defaultValue (newarray.typeOf .int)))[j]? = _
    rw [hn, Array.getElem?_replicate, if_pos hj]; rfl
  · rw [hk] at q; cases q
theorem own_cloneI (X : Stand p l e R s m args below meth c T locs cells slots) (hx : p.tables.exec = Jvm.exec) (hZ : Z.Warmed39 s.vm) {own : String} {index : Nat} (hown : s.vm.findClass own = some m.cls)
    (w1 : (Jvm.Cond.methodLink own index ⟨"[I", "clone", "()Ljava/lang/Object;"⟩).before a0 Z = true) (w2 : (Jvm.Cond.sameMethod "[I" "java/lang/Object" "clone" "()Ljava/lang/Object;").before a0 Z = true) (w3 : (Jvm.Cond.native ⟨"java/lang/Object", "clone", "()Ljava/lang/Object;"⟩).before a0 Z = true)
    (w4 : (Jvm.Cond.instanceMethod ⟨"java/lang/Object", "clone", "()Ljava/lang/Object;"⟩).before a0 Z = true) (w5 : (Jvm.Cond.selects "[I" ⟨"[I", "clone", "()Ljava/lang/Object;"⟩ ⟨"java/lang/Object", "clone", "()Ljava/lang/Object;"⟩).before a0 Z = true) (w6 : (Jvm.Cond.castable "[I" "java/lang/Cloneable").before a0 Z = true)
    (eT : T.heap = h) {a : Addr} {n : Nat} {f : Nat → Int32} (F : own_IA Z h a n f) (E : Exa Z h a "[I") {g : JFrame} (hg : g.method = m) (hsize : g.locals.size = c.maxLocals) {rest : List Value} (hs : g.stack = .ref a :: rest) (hd : decode c.code g.pc = .ok (.invokevirtual index, 3))
    (hf : 1 ≤ R.frames) {W cap : Nat} (hW : 2 * g.monitorRoom + (rest.map fun v => v.category).sum ≤ W) (hl : W + 14 ≤ R.locals) (hcap : n ≤ cap) (hc : cells + 1 ≤ R.cells) (hsl : slots + cap ≤ R.slots) :
    ∃ T' h', Stand p l e R s m args below meth c T' locs (cells + 1) (slots + cap) ∧ T'.heap = h' ∧ Ext h h' ∧ own_IA Z h' h.size n f ∧ Exa Z h' h.size "[I" ∧
      ∀ target, Steps p.tables e below (T'.setTop { g with pc := g.pc + 3, stack := .ref h.size :: rest }) target → Steps p.tables e below (T.setTop g) target := by
  obtain ⟨cl, A, S, H⟩ := F
  have hi : ∀ (i : Nat) (v : Value), cl.slots[i]? = some v → ∃ x, v = Value.int x := fun i v hv => by
    have hlt := (Array.getElem?_eq_some_iff.mp hv).1
    exact ⟨f i, Option.some.inj (hv.symm.trans (H i (by omega)))⟩
  obtain ⟨T', h', X', e', E', A', B', st⟩ := cloneA X hx hZ hown w1 w2 w3 w4 w5 w6 eT A E (own_fitC A hi) hg hsize hs hd hf hW hl (cap := cap) (by omega) hc hsl
  exact ⟨T', h', X', e', E', ⟨_, A', S, H⟩, B', st⟩
end IAlaws

def own_C (kk : Nat → Nat) : Nat → Nat → Nat
  | 0, _ => 0
  | i + 1, j => own_C kk i j + (if kk i + 1 = j then 1 else 0)
def own_A (kk : Nat → Nat) : Nat → Nat → Nat
  | 0, _ => 0
  | i + 1, j => own_A kk i j + (if kk i < j then 1 else 0)
def own_B (kk : Nat → Nat) : Nat → Nat → Nat
  | 0, _ => 0
  | i + 1, j => own_B kk i j + (if kk i = j then 1 else 0)
theorem own_A_zero (kk : Nat → Nat) (n : Nat) : own_A kk n 0 = own_C kk n 0 := by
  induction n with
  | zero => rfl
  | succ n ih => simp [own_A, own_C, ih]
theorem own_A_step (kk : Nat → Nat) (n v : Nat) : own_A kk n (v + 1) = own_A kk n v + own_C kk n (v + 1) := by
  induction n with
  | zero => rfl
  | succ n ih =>
    simp only [own_A, own_C, ih]
    by_cases a : kk n < v
    · rw [if_pos (by omega), if_pos a, if_neg (by omega)]; omega
    · by_cases b : kk n = v
      · rw [if_pos (by omega), if_neg a, if_pos (by omega)]; omega
      · rw [if_neg (by omega), if_neg a, if_neg (by omega)]; omega
theorem own_B_C (kk : Nat → Nat) (n v : Nat) : own_C kk n (v + 1) = own_B kk n v := by
  induction n with
  | zero => rfl
  | succ n ih => simp only [own_B, own_C, ih, Nat.add_right_cancel_iff]
theorem own_A_le (kk : Nat → Nat) (n v : Nat) : own_A kk n v ≤ n := by
  induction n with
  | zero => exact Nat.le_refl _
  | succ n ih => simp only [own_A]; split <;> omega
theorem own_B_mono (kk : Nat → Nat) {t n v : Nat} (h : t ≤ n) : own_B kk t v ≤ own_B kk n v := by
  induction n with
  | zero => rw [Nat.le_zero.mp h]; exact Nat.le_refl _
  | succ n ih =>
    by_cases e : t = n + 1
    · rw [e]; exact Nat.le_refl _
    · have := ih (by omega); simp only [own_B]; omega
theorem own_B_lt (kk : Nat → Nat) {t n v : Nat} (h : t < n) (hv : kk t = v) : own_B kk t v < own_B kk n v := by
  have h1 : own_B kk (t + 1) v = own_B kk t v + 1 := by simp [own_B, hv]
  have h2 := own_B_mono kk (v := v) (show t + 1 ≤ n from h)
  omega
theorem own_pos (kk : Nat → Nat) {t n : Nat} (h : t < n) : own_A kk n (kk t) + own_B kk t (kk t) < own_A kk n (kk t + 1) := by
  rw [own_A_step, own_B_C]
  have := own_B_lt kk h rfl
  omega
theorem own_pos_lt (kk : Nat → Nat) {t n : Nat} (h : t < n) : own_A kk n (kk t) + own_B kk t (kk t) < n := Nat.lt_of_lt_of_le (own_pos kk h) (own_A_le kk n _)
def own_M (kk : Nat → Nat) (n : Nat) : Nat → Nat → Nat
  | 0, _ => 0
  | t + 1, j => if j = own_A kk n (kk t) + own_B kk t (kk t) then t else own_M kk n t j
theorem own_km2 (k : Nat) : Int32.ofNat k - 1 + 2 = Int32.ofNat (k + 1) := by
  rw [inc_ofNat]
  apply Int32.toBitVec_inj.mp
  simp only [Int32.toBitVec_add, Int32.toBitVec_sub]
  generalize (Int32.ofNat k).toBitVec = b
  have e1 : (1 : Int32).toBitVec = 1#32 := rfl
  have e2 : (2 : Int32).toBitVec = 2#32 := rfl
  rw [e1, e2]
  bv_omega
theorem own_km1 (k : Nat) : Int32.ofNat k - 1 + 1 = Int32.ofNat k := by
  apply Int32.toBitVec_inj.mp
  simp only [Int32.toBitVec_add, Int32.toBitVec_sub]
  generalize (Int32.ofNat k).toBitVec = b
  have e1 : (1 : Int32).toBitVec = 1#32 := rfl
  rw [e1]
  bv_omega
theorem own_dec {g : Nat} (h : 1 ≤ g) : Int32.ofNat g - 1 = Int32.ofNat (g - 1) := by
  obtain ⟨k, rfl⟩ : ∃ k, g = k + 1 := ⟨g - 1, by omega⟩
  exact dec_ofNat k
theorem own_add2 (G : Nat) : Int32.ofNat G + 2 = Int32.ofNat (G + 2) := (inc2_ofNat G).symm
theorem own_ofadd (a b : Nat) : Int32.ofNat a + Int32.ofNat b = Int32.ofNat (a + b) := (Int32.ofNat_add a b).symm
theorem own_C_step (kk : Nat → Nat) (i j : Nat) : (if j = kk i + 1 then Int32.ofNat (own_C kk i (kk i + 1)) + 1 else Int32.ofNat (own_C kk i j)) = Int32.ofNat (own_C kk (i + 1) j) := by
  by_cases h : j = kk i + 1
  · subst h
    rw [if_pos rfl, own_inc]
    simp [own_C]
  · rw [if_neg h]
    simp only [own_C]
    rw [if_neg (fun q => h q.symm)]; rfl
theorem own_P_init (kk : Nat → Nat) (n j : Nat) : Int32.ofNat (own_C kk n j) = Int32.ofNat (if j < 1 then own_A kk n j else own_C kk n j) := by
  by_cases h : j < 1
  · obtain rfl : j = 0 := by omega
    rw [if_pos h, own_A_zero]
  · rw [if_neg h]
theorem own_P_step (kk : Nat → Nat) (n g j : Nat) (hg : 1 ≤ g) : (if j = g then Int32.ofNat (if g < g then own_A kk n g else own_C kk n g) + Int32.ofNat (if g - 1 < g then own_A kk n (g - 1) else own_C kk n (g - 1)) else Int32.ofNat (if j < g then own_A kk n j else own_C kk n j)) = Int32.ofNat (if j < g + 1 then own_A kk n j else own_C kk n j) := by
  by_cases h : j = g
  · subst h
    rw [if_pos rfl, if_neg (by omega), if_pos (by omega), if_pos (by omega), own_ofadd]
    obtain ⟨k, rfl⟩ : ∃ k, j = k + 1 := ⟨j - 1, by omega⟩
    rw [own_A_step, Nat.add_sub_cancel, Nat.add_comm]
  · rw [if_neg h]
    by_cases q : j < g
    · rw [if_pos q, if_pos (by omega)]
    · rw [if_neg q, if_neg (by omega)]
theorem own_P_end (kk : Nat → Nat) (n m j : Nat) (h : j < m) : Int32.ofNat (if j < m then own_A kk n j else own_C kk n j) = Int32.ofNat (own_A kk n j) := by rw [if_pos h]
theorem own_F_step (kk : Nat → Nat) (n t j : Nat) : (if j = kk t then Int32.ofNat (own_A kk n (kk t) + own_B kk t (kk t)) + 1 else Int32.ofNat (own_A kk n j + own_B kk t j)) = Int32.ofNat (own_A kk n j + own_B kk (t + 1) j) := by
  by_cases h : j = kk t
  · subst h
    rw [if_pos rfl, own_inc]
    simp [own_B, Nat.add_assoc]
  · rw [if_neg h]
    simp only [own_B]
    rw [if_neg (fun q => h q.symm)]; rfl
theorem own_M_step (kk : Nat → Nat) (n t j : Nat) : (if j = own_A kk n (kk t) + own_B kk t (kk t) then Int32.ofNat t else Int32.ofNat (own_M kk n t j)) = Int32.ofNat (own_M kk n (t + 1) j) := by
  simp only [own_M]
  split <;> rfl

theorem own_A_mono (kk : Nat → Nat) (n : Nat) {v w : Nat} (h : v ≤ w) : own_A kk n v ≤ own_A kk n w := by
  induction n with
  | zero => exact Nat.le_refl _
  | succ n ih =>
    simp only [own_A]
    by_cases a : kk n < v
    · rw [if_pos a, if_pos (by omega)]; omega
    · rw [if_neg a]; split <;> omega
theorem own_pos_ne (kk : Nat → Nat) {n t N : Nat} (h : n < t) (ht : t < N) : own_A kk N (kk n) + own_B kk n (kk n) ≠ own_A kk N (kk t) + own_B kk t (kk t) := by
  rcases Nat.lt_trichotomy (kk n) (kk t) with q | q | q
  · have h1 := own_pos kk (Nat.lt_trans h ht)
    have h2 := own_A_mono kk N (show kk n + 1 ≤ kk t from q)
    omega
  · have h1 := own_B_lt kk h rfl
    rw [← q]
    omega
  · have h1 := own_pos kk ht
    have h2 := own_A_mono kk N (show kk t + 1 ≤ kk n from q)
    omega
theorem own_M_at (kk : Nat → Nat) {n N : Nat} : ∀ t, n < t → t ≤ N → own_M kk N t (own_A kk N (kk n) + own_B kk n (kk n)) = n := by
  intro t
  induction t with
  | zero => intro h; omega
  | succ t ih =>
    intro h ht
    simp only [own_M]
    by_cases e : n = t
    · subst e; rw [if_pos rfl]
    · rw [if_neg (own_pos_ne kk (by omega) (by omega))]
      exact ih (by omega) (by omega)
theorem own_keyeq {a b : Nat} (ha : a < 1000) (hb : b < 1000) : Int32.ofNat a - 1 = Int32.ofNat b - 1 ↔ a = b := by
  constructor
  · intro h
    have h1 := congrArg (fun z : Int32 => z + 1) h
    simp only [own_km1] at h1
    have h2 := congrArg Int32.toInt h1
    rw [toInt_of rfl (by omega), toInt_of rfl (by omega)] at h2
    omega
  · intro h; rw [h]
theorem own_nz {G : Nat} (h : G < 1000) : Int32.ofNat (G + 1) ≠ 0 := fun q => by
  have h2 := congrArg Int32.toInt q
  rw [toInt_of rfl (by omega)] at h2
  have h0 : (0 : Int32).toInt = 0 := rfl
  omega

theorem own_mask (x m : Int32) (k : Nat) (hk : k ≤ 31) (hm : m.toBitVec.toNat = 2 ^ k - 1) : ∃ n : Nat, n < 2 ^ k ∧ x &&& m = Int32.ofNat n := by
  have h := c_mask x m k hk hm
  have hp : (0 : Int) < ((2 ^ k : Nat) : Int) := by have := Nat.two_pow_pos k; omega
  have h0 := Int.emod_nonneg x.toInt (Int.ne_of_gt hp)
  have h1 := Int.emod_lt_of_pos x.toInt hp
  have h31 : (2 ^ k : Nat) ≤ 2 ^ 31 := Nat.pow_le_pow_right (by decide) hk
  refine ⟨(x.toInt % ((2 ^ k : Nat) : Int)).toNat, by omega, ?_⟩
  apply Int32.toInt_inj.mp
  rw [h, Int32.toInt_ofNat_of_lt (by omega)]
  omega

theorem own_modn (x y : Int32) (d : Nat) (hy : y.toInt = d) (hd : 0 < d) : ∃ n : Nat, n < d ∧ (x &&& 2147483647) % y = Int32.ofNat n := by
  have h := c_mask x 2147483647 31 (by decide) (by decide)
  have h0 : 0 ≤ (x &&& 2147483647).toInt := by rw [h]; omega
  have hr := (c_irem (x &&& 2147483647) y d hy).1 h0
  have hr32 := rng32 y
  have hb0 := Int.emod_nonneg (x &&& 2147483647).toInt (show (d : Int) ≠ 0 by omega)
  have hb1 := Int.emod_lt_of_pos (x &&& 2147483647).toInt (show (0 : Int) < d by omega)
  refine ⟨((x &&& 2147483647).toInt % (d : Int)).toNat, by omega, ?_⟩
  apply Int32.toInt_inj.mp
  rw [hr, Int32.toInt_ofNat_of_lt (by omega)]
  omega

theorem own_four (x : Int32) : x &&& 3 = 0 ∨ x &&& 3 = 1 ∨ x &&& 3 = 2 ∨ x &&& 3 = 3 := by
  obtain ⟨n, hn, e⟩ := own_mask x 3 2 (by decide) (by decide)
  rw [e]
  match n, hn with
  | 0, _ => exact Or.inl rfl
  | 1, _ => exact Or.inr (Or.inl rfl)
  | 2, _ => exact Or.inr (Or.inr (Or.inl rfl))
  | 3, _ => exact Or.inr (Or.inr (Or.inr rfl))

theorem own_d1_0 : decode method_2_code 0 = .ok (.iload_n 0, 1) := by decide +kernel
theorem own_d1_1 : decode method_2_code 1 = .ok (.ldc 7, 2) := by decide +kernel
theorem own_d1_3 : decode method_2_code 3 = .ok (.iand, 1) := by decide +kernel
theorem own_d1_4 : decode method_2_code 4 = .ok (.iload_n 1, 1) := by decide +kernel
theorem own_d1_5 : decode method_2_code 5 = .ok (.iconst 1, 1) := by decide +kernel
theorem own_d1_6 : decode method_2_code 6 = .ok (.iadd, 1) := by decide +kernel
theorem own_d1_7 : decode method_2_code 7 = .ok (.irem, 1) := by decide +kernel
theorem own_d1_8 : decode method_2_code 8 = .ok (.iconst 1, 1) := by decide +kernel
theorem own_d1_9 : decode method_2_code 9 = .ok (.isub, 1) := by decide +kernel
theorem own_d1_10 : decode method_2_code 10 = .ok (.ireturn, 1) := by decide +kernel
theorem own_d2_0 : decode prog_17_method_1_code 0 = .ok (.aload_n 0, 1) := by decide +kernel
theorem own_d2_1 : decode prog_17_method_1_code 1 = .ok (.invokespecial 1, 3) := by decide +kernel
theorem own_d2_4 : decode prog_17_method_1_code 4 = .ok (.aload_n 0, 1) := by decide +kernel
theorem own_d2_5 : decode prog_17_method_1_code 5 = .ok (.iload_n 2, 1) := by decide +kernel
theorem own_d2_6 : decode prog_17_method_1_code 6 = .ok (.iconst 2, 1) := by decide +kernel
theorem own_d2_7 : decode prog_17_method_1_code 7 = .ok (.iadd, 1) := by decide +kernel
theorem own_d2_8 : decode prog_17_method_1_code 8 = .ok (.newarray .int, 2) := by decide +kernel
theorem own_d2_10 : decode prog_17_method_1_code 10 = .ok (.putfield 7, 3) := by decide +kernel
theorem own_d2_13 : decode prog_17_method_1_code 13 = .ok (.aload_n 1, 1) := by decide +kernel
theorem own_d2_14 : decode prog_17_method_1_code 14 = .ok (.astore_n 3, 1) := by decide +kernel
theorem own_d2_15 : decode prog_17_method_1_code 15 = .ok (.aload_n 3, 1) := by decide +kernel
theorem own_d2_16 : decode prog_17_method_1_code 16 = .ok (.arraylength, 1) := by decide +kernel
theorem own_d2_17 : decode prog_17_method_1_code 17 = .ok (.istore 4, 2) := by decide +kernel
theorem own_d2_19 : decode prog_17_method_1_code 19 = .ok (.iconst 0, 1) := by decide +kernel
theorem own_d2_20 : decode prog_17_method_1_code 20 = .ok (.istore 5, 2) := by decide +kernel
theorem own_d2_22 : decode prog_17_method_1_code 22 = .ok (.iload 5, 2) := by decide +kernel
theorem own_d2_24 : decode prog_17_method_1_code 24 = .ok (.iload 4, 2) := by decide +kernel
theorem own_d2_26 : decode prog_17_method_1_code 26 = .ok (.if_icmp .ge 28, 3) := by decide +kernel
theorem own_d2_29 : decode prog_17_method_1_code 29 = .ok (.aload_n 3, 1) := by decide +kernel
theorem own_d2_30 : decode prog_17_method_1_code 30 = .ok (.iload 5, 2) := by decide +kernel
theorem own_d2_32 : decode prog_17_method_1_code 32 = .ok (.iaload, 1) := by decide +kernel
theorem own_d2_33 : decode prog_17_method_1_code 33 = .ok (.istore 6, 2) := by decide +kernel
theorem own_d2_35 : decode prog_17_method_1_code 35 = .ok (.aload_n 0, 1) := by decide +kernel
theorem own_d2_36 : decode prog_17_method_1_code 36 = .ok (.getfield 7, 3) := by decide +kernel
theorem own_d2_39 : decode prog_17_method_1_code 39 = .ok (.iload 6, 2) := by decide +kernel
theorem own_d2_41 : decode prog_17_method_1_code 41 = .ok (.iconst 2, 1) := by decide +kernel
theorem own_d2_42 : decode prog_17_method_1_code 42 = .ok (.iadd, 1) := by decide +kernel
theorem own_d2_43 : decode prog_17_method_1_code 43 = .ok (.dup2, 1) := by decide +kernel
theorem own_d2_44 : decode prog_17_method_1_code 44 = .ok (.iaload, 1) := by decide +kernel
theorem own_d2_45 : decode prog_17_method_1_code 45 = .ok (.iconst 1, 1) := by decide +kernel
theorem own_d2_46 : decode prog_17_method_1_code 46 = .ok (.iadd, 1) := by decide +kernel
theorem own_d2_47 : decode prog_17_method_1_code 47 = .ok (.iastore, 1) := by decide +kernel
theorem own_d2_48 : decode prog_17_method_1_code 48 = .ok (.iinc 5 1, 3) := by decide +kernel
theorem own_d2_51 : decode prog_17_method_1_code 51 = .ok (.goto (-29), 3) := by decide +kernel
theorem own_d2_54 : decode prog_17_method_1_code 54 = .ok (.iconst 1, 1) := by decide +kernel
theorem own_d2_55 : decode prog_17_method_1_code 55 = .ok (.istore_n 3, 1) := by decide +kernel
theorem own_d2_56 : decode prog_17_method_1_code 56 = .ok (.iload_n 3, 1) := by decide +kernel
theorem own_d2_57 : decode prog_17_method_1_code 57 = .ok (.aload_n 0, 1) := by decide +kernel
theorem own_d2_58 : decode prog_17_method_1_code 58 = .ok (.getfield 7, 3) := by decide +kernel
theorem own_d2_61 : decode prog_17_method_1_code 61 = .ok (.arraylength, 1) := by decide +kernel
theorem own_d2_62 : decode prog_17_method_1_code 62 = .ok (.if_icmp .ge 26, 3) := by decide +kernel
theorem own_d2_65 : decode prog_17_method_1_code 65 = .ok (.aload_n 0, 1) := by decide +kernel
theorem own_d2_66 : decode prog_17_method_1_code 66 = .ok (.getfield 7, 3) := by decide +kernel
theorem own_d2_69 : decode prog_17_method_1_code 69 = .ok (.iload_n 3, 1) := by decide +kernel
theorem own_d2_70 : decode prog_17_method_1_code 70 = .ok (.dup2, 1) := by decide +kernel
theorem own_d2_71 : decode prog_17_method_1_code 71 = .ok (.iaload, 1) := by decide +kernel
theorem own_d2_72 : decode prog_17_method_1_code 72 = .ok (.aload_n 0, 1) := by decide +kernel
theorem own_d2_73 : decode prog_17_method_1_code 73 = .ok (.getfield 7, 3) := by decide +kernel
theorem own_d2_76 : decode prog_17_method_1_code 76 = .ok (.iload_n 3, 1) := by decide +kernel
theorem own_d2_77 : decode prog_17_method_1_code 77 = .ok (.iconst 1, 1) := by decide +kernel
theorem own_d2_78 : decode prog_17_method_1_code 78 = .ok (.isub, 1) := by decide +kernel
theorem own_d2_79 : decode prog_17_method_1_code 79 = .ok (.iaload, 1) := by decide +kernel
theorem own_d2_80 : decode prog_17_method_1_code 80 = .ok (.iadd, 1) := by decide +kernel
theorem own_d2_81 : decode prog_17_method_1_code 81 = .ok (.iastore, 1) := by decide +kernel
theorem own_d2_82 : decode prog_17_method_1_code 82 = .ok (.iinc 3 1, 3) := by decide +kernel
theorem own_d2_85 : decode prog_17_method_1_code 85 = .ok (.goto (-29), 3) := by decide +kernel
theorem own_d2_88 : decode prog_17_method_1_code 88 = .ok (.aload_n 0, 1) := by decide +kernel
theorem own_d2_89 : decode prog_17_method_1_code 89 = .ok (.aload_n 1, 1) := by decide +kernel
theorem own_d2_90 : decode prog_17_method_1_code 90 = .ok (.arraylength, 1) := by decide +kernel
theorem own_d2_91 : decode prog_17_method_1_code 91 = .ok (.newarray .int, 2) := by decide +kernel
theorem own_d2_93 : decode prog_17_method_1_code 93 = .ok (.putfield 13, 3) := by decide +kernel
theorem own_d2_96 : decode prog_17_method_1_code 96 = .ok (.aload_n 0, 1) := by decide +kernel
theorem own_d2_97 : decode prog_17_method_1_code 97 = .ok (.getfield 7, 3) := by decide +kernel
theorem own_d2_100 : decode prog_17_method_1_code 100 = .ok (.invokevirtual 16, 3) := by decide +kernel
theorem own_d2_103 : decode prog_17_method_1_code 103 = .ok (.checkcast 17, 3) := by decide +kernel
theorem own_d2_106 : decode prog_17_method_1_code 106 = .ok (.astore_n 3, 1) := by decide +kernel
theorem own_d2_107 : decode prog_17_method_1_code 107 = .ok (.iconst 0, 1) := by decide +kernel
theorem own_d2_108 : decode prog_17_method_1_code 108 = .ok (.istore 4, 2) := by decide +kernel
theorem own_d2_110 : decode prog_17_method_1_code 110 = .ok (.iload 4, 2) := by decide +kernel
theorem own_d2_112 : decode prog_17_method_1_code 112 = .ok (.aload_n 1, 1) := by decide +kernel
theorem own_d2_113 : decode prog_17_method_1_code 113 = .ok (.arraylength, 1) := by decide +kernel
theorem own_d2_114 : decode prog_17_method_1_code 114 = .ok (.if_icmp .ge 29, 3) := by decide +kernel
theorem own_d2_117 : decode prog_17_method_1_code 117 = .ok (.aload_n 0, 1) := by decide +kernel
theorem own_d2_118 : decode prog_17_method_1_code 118 = .ok (.getfield 13, 3) := by decide +kernel
theorem own_d2_121 : decode prog_17_method_1_code 121 = .ok (.aload_n 3, 1) := by decide +kernel
theorem own_d2_122 : decode prog_17_method_1_code 122 = .ok (.aload_n 1, 1) := by decide +kernel
theorem own_d2_123 : decode prog_17_method_1_code 123 = .ok (.iload 4, 2) := by decide +kernel
theorem own_d2_125 : decode prog_17_method_1_code 125 = .ok (.iaload, 1) := by decide +kernel
theorem own_d2_126 : decode prog_17_method_1_code 126 = .ok (.iconst 1, 1) := by decide +kernel
theorem own_d2_127 : decode prog_17_method_1_code 127 = .ok (.iadd, 1) := by decide +kernel
theorem own_d2_128 : decode prog_17_method_1_code 128 = .ok (.dup2, 1) := by decide +kernel
theorem own_d2_129 : decode prog_17_method_1_code 129 = .ok (.iaload, 1) := by decide +kernel
theorem own_d2_130 : decode prog_17_method_1_code 130 = .ok (.dup_x2, 1) := by decide +kernel
theorem own_d2_131 : decode prog_17_method_1_code 131 = .ok (.iconst 1, 1) := by decide +kernel
theorem own_d2_132 : decode prog_17_method_1_code 132 = .ok (.iadd, 1) := by decide +kernel
theorem own_d2_133 : decode prog_17_method_1_code 133 = .ok (.iastore, 1) := by decide +kernel
theorem own_d2_134 : decode prog_17_method_1_code 134 = .ok (.iload 4, 2) := by decide +kernel
theorem own_d2_136 : decode prog_17_method_1_code 136 = .ok (.iastore, 1) := by decide +kernel
theorem own_d2_137 : decode prog_17_method_1_code 137 = .ok (.iinc 4 1, 3) := by decide +kernel
theorem own_d2_140 : decode prog_17_method_1_code 140 = .ok (.goto (-30), 3) := by decide +kernel
theorem own_d2_143 : decode prog_17_method_1_code 143 = .ok (.return_, 1) := by decide +kernel
theorem own_d4_0 : decode prog_17_method_3_code 0 = .ok (.aload_n 0, 1) := by decide +kernel
theorem own_d4_1 : decode prog_17_method_3_code 1 = .ok (.getfield 13, 3) := by decide +kernel
theorem own_d4_4 : decode prog_17_method_3_code 4 = .ok (.aload_n 0, 1) := by decide +kernel
theorem own_d4_5 : decode prog_17_method_3_code 5 = .ok (.getfield 7, 3) := by decide +kernel
theorem own_d4_8 : decode prog_17_method_3_code 8 = .ok (.iload_n 1, 1) := by decide +kernel
theorem own_d4_9 : decode prog_17_method_3_code 9 = .ok (.iconst 1, 1) := by decide +kernel
theorem own_d4_10 : decode prog_17_method_3_code 10 = .ok (.iadd, 1) := by decide +kernel
theorem own_d4_11 : decode prog_17_method_3_code 11 = .ok (.iaload, 1) := by decide +kernel
theorem own_d4_12 : decode prog_17_method_3_code 12 = .ok (.iload_n 2, 1) := by decide +kernel
theorem own_d4_13 : decode prog_17_method_3_code 13 = .ok (.iadd, 1) := by decide +kernel
theorem own_d4_14 : decode prog_17_method_3_code 14 = .ok (.iaload, 1) := by decide +kernel
theorem own_d4_15 : decode prog_17_method_3_code 15 = .ok (.ireturn, 1) := by decide +kernel
theorem own_pn_0 : plainName "com/example/planwright/planwright/io/Grouping" = true := by first | (simp [plainName, overriddenIn]; done) | decide +kernel
theorem own_ef_0 (m : MethodId) (x0 : Addr) (x1 : Addr) (x2 : Int32) : entryFrame m #[(.ref x0), (.ref x1), (.int x2)] 7 = mkF m 0 #[.val (.ref x0), .val (.ref x1), .val (.int x2), .unset, .unset, .unset, .unset] [] := by first | (simp [entryFrame, mkF, argsToLocals, Value.category]; done) | rfl
theorem own_pn_1 : plainName "com/example/planwright/planwright/io/GroupingMemberPinLaw" = true := by first | (simp [plainName, overriddenIn]; done) | decide +kernel
theorem own_ef_1 (m : MethodId) (x0 : Int32) (x1 : Int32) : entryFrame m #[(.int x0), (.int x1)] 2 = mkF m 0 #[.val (.int x0), .val (.int x1)] [] := by first | (simp [entryFrame, mkF, argsToLocals, Value.category]; done) | rfl
theorem own_ef_2 (m : MethodId) (x0 : Addr) (x1 : Int32) (x2 : Int32) : entryFrame m #[(.ref x0), (.int x1), (.int x2)] 3 = mkF m 0 #[.val (.ref x0), .val (.int x1), .val (.int x2)] [] := by first | (simp [entryFrame, mkF, argsToLocals, Value.category]; done) | rfl
theorem own_ef_3 (m : MethodId) (x0 : Int32) (x1 : Int32) (x2 : Int32) (x3 : Int32) (x4 : Int32) (x5 : Int32) : entryFrame m #[(.int x0), (.int x1), (.int x2), (.int x3), (.int x4), (.int x5)] maxLocals = mkF m 0 #[.val (.int x0), .val (.int x1), .val (.int x2), .val (.int x3), .val (.int x4), .val (.int x5), .unset, .unset, .unset, .unset, .unset, .unset] [] := by first | (simp [entryFrame, mkF, argsToLocals, Value.category, maxLocals]; done) | rfl
theorem own_pd_0 : parseMethodDescriptor "(II)I" = some ⟨[.int, .int], some .int⟩ := by decide +kernel
theorem own_pd_1 : parseMethodDescriptor "([II)V" = some ⟨[(.array .int), .int], none⟩ := by decide +kernel
def Q_rmI (Z : State) (r0 : Addr) (r1 : Addr) (p2 : Int32) (G : Nat) (kk : Nat → Nat) (h0 : Heap) (n0 : Nat) (v : Option Value) (h : Heap) (L : List Loc) : Prop := v = none ∧ Fr n0 L ∧ Keep h0 h [r0] ∧ ∃ (b1 b2 : Addr), Fld Z h r0 "com/example/planwright/planwright/io/Grouping" "starts" "[I" (.ref b1) ∧ own_IA Z h b1 (G + 2) (fun j => Int32.ofNat (own_A kk 4 j)) ∧ Fld Z h r0 "com/example/planwright/planwright/io/Grouping" "members" "[I" (.ref b2) ∧ own_IA Z h b2 4 (fun j => Int32.ofNat (own_M kk 4 4 j))
set_option maxRecDepth 65536 in
set_option maxHeartbeats 40000000 in
theorem rmI (l : Launch) (Z : State) (a0 : Array Value) (hw : ∀ d ∈ tables_1, d.before a0 Z = true) (ws : List Jvm.Cond) (r0 : Addr) (r1 : Addr) (p2 : Int32) (G : Nat) (kk : Nat → Nat) (h0 : Heap) (n0 : Nat) (Z0 : n0 ≤ h0.size) (F1 : Fld Z h0 r0 "com/example/planwright/planwright/io/Grouping" "starts" "[I" .null) (F2 : Fld Z h0 r0 "com/example/planwright/planwright/io/Grouping" "members" "[I" .null) (E1 : Exa Z h0 r0 "com/example/planwright/planwright/io/Grouping") (A1 : own_IA Z h0 r1 4 (fun j => Int32.ofNat (kk j) - 1)) (g_r0 : n0 ≤ r0) (ne01 : r0 ≠ r1) (hG : p2 = Int32.ofNat G) (hG1 : G ≤ 3) (hk : ∀ j, j < 4 → kk j ≤ G) :
    MetFree l (⟨"com/example/planwright/planwright/io/Grouping", "<init>", "([II)V"⟩ : MethodName) (head1 (Jvm.Cond.code (⟨"com/example/planwright/planwright/io/Grouping", "<init>", "([II)V"⟩ : MethodName) prog_17_method_1_code 7 none :: ws) ({ frames := 1, cells := 3, slots := 14, locals := 14 } : Room)) (fun a U => a = #[(.ref r0), (.ref r1), (.int p2)] ∧ Z.Warmed39 U.vm ∧ U.heap = h0) (fun _ _ _ _ _ => True) (fun _ U o U' => ∃ v L, o = .returned v ∧ Q_rmI Z r0 r1 p2 G kk h0 n0 v U'.heap L ∧ FrameEnd U o U' L ({ frames := 1, cells := 3, slots := 14, locals := 14 } : Room).cells ({ frames := 1, cells := 3, slots := 14, locals := 14 } : Room).slots) := by
  refine MetFree.of_bodySF (plainFor_of_name own_pn_0) hisR ?_
  intro p e s m args below meth c s₁ Bd hml0 hP hK
  obtain ⟨rfl, hZ, hh⟩ := hP
  have hx := Bd.exec
  have hby := Bd.bytes
  have hml : c.maxLocals = 7 := hml0
  have hown : s.vm.findClass "com/example/planwright/planwright/io/Grouping" = some m.cls := findClass_of_methodNamed Bd.named
  have hnm := (name_of_methodNamed Bd.named Bd.method).1
  have X0 : Stand p l e ({ frames := 1, cells := 3, slots := 14, locals := 14 } : Room) s m #[(.ref r0), (.ref r1), (.int p2)] below meth c s₁ [] 0 0 := Stand.of_body Bd
  have e0 : s₁.heap = h0 := by rw [← hh, Bd.state]; rfl
  have N0 := Fr.nil n0
  have K0 : Keep h0 h0 [r0] := Keep.refl h0 _
  have pre0 : ∀ t, Steps p.tables e below (s₁.setTop (mkF m 0 #[.val (.ref r0), .val (.ref r1), .val (.int p2), .unset, .unset, .unset, .unset] [])) t → Steps p.tables e below (s₁.setTop (entryFrame m #[(.ref r0), (.ref r1), (.int p2)] 7)) t := fun t k => castTop (own_ef_0 m r0 r1 p2) k
  obtain ⟨T1, X1, e1, st1⟩ := initO X0 hx hZ hown (hw _ (List.mem_of_getElem? (i := 12) rfl)) (hw _ (List.mem_of_getElem? (i := 13) rfl)) (hw _ (List.mem_of_getElem? (i := 14) rfl)) e0 (g := (mkF m 1 #[.val (.ref r0), .val (.ref r1), .val (.int p2), .unset, .unset, .unset, .unset] [(.ref r0)])) rfl (by rw [hml]; rfl) rfl (hb hby own_d2_1) (by decide) (W := 0) (by show 2 * 0 + _ ≤ _; exact Nat.le_of_eq rfl) (by decide)
  obtain ⟨T2, h2, X2, e2, E2, V2, A2, st2⟩ := own_newI X1 hx hZ (hw _ (List.mem_of_getElem? (i := 0) rfl)) e1 (g := (mkF m 8 #[.val (.ref r0), .val (.ref r1), .val (.int p2), .unset, .unset, .unset, .unset] [(.int (p2 + (2 : Int32))), (.ref r0)])) rfl (hb hby own_d2_8) rfl (nn := (G + 2)) (cap := 5) (by rw [hG]; exact own_add2 G) (by omega) (by decide) (by decide) (by decide)
  obtain ⟨b2, g2⟩ : ∃ z, z = h0.size := ⟨_, rfl⟩
  rw [← g2] at V2 A2 st2
  have ne_r0_b2 : r0 ≠ b2 := Nat.ne_of_lt (Nat.lt_of_lt_of_le F1.lt (Nat.le_of_eq g2.symm))
  have ne_r1_b2 : r1 ≠ b2 := Nat.ne_of_lt (Nat.lt_of_lt_of_le A1.lt (Nat.le_of_eq g2.symm))
  have g_b2 : n0 ≤ b2 := Nat.le_trans Z0 (Nat.le_of_eq g2.symm)
  have sz_b2 : h0.size ≤ b2 := Nat.le_trans K0.1 (Nat.le_of_eq g2.symm)
  have f3 := F1.ext E2
  have f4 := F2.ext E2
  have f5 := E1.ext E2
  have f6 := A1.ext E2
  have Z7 : n0 ≤ h2.size := Nat.le_trans Z0 E2.1
  have K8 := K0.ext E2
  obtain ⟨T9, h9, X9, e9, W9, st9⟩ := putF X2 hx hZ hown (host := "") (Or.inl (hw _ (List.mem_of_getElem? (i := 15) rfl))) Via.refl e2 f3 f5 (Or.inr ⟨(hw _ (List.mem_of_getElem? (i := 16) rfl)), rfl, hnm⟩) (hw _ (List.mem_of_getElem? (i := 7) rfl)) (ty := (.array .int)) (by decide) rfl rfl (g := (mkF m 10 #[.val (.ref r0), .val (.ref r1), .val (.int p2), .unset, .unset, .unset, .unset] [(.ref b2), (.ref r0)])) rfl rfl (hb hby own_d2_10)
  have f10 := f3.same W9
  have f11 := f4.other W9 (Or.inr (slot_ne (Or.inr (hw _ (List.mem_of_getElem? (i := 18) rfl))) (Or.inr (hw _ (List.mem_of_getElem? (i := 16) rfl))) (by decide) (t := (.array .int)) (t' := (.array .int)) (by decide) (by decide)))
  have f12 := f5.wr W9
  have f13 := f6.other W9 (Ne.symm ne01)
  have f14 := V2.other W9 (Ne.symm ne_r0_b2)
  have f15 := A2.wr W9
  have Z16 : n0 ≤ h9.size := Nat.le_trans Z7 (Keep.of_wr W9).1
  have K17 := K8.wr W9 (Or.inl (List.mem_of_getElem? (i := 0) rfl))
  have N9 := Fr.snoc X9 N0 g_r0
  obtain ⟨cl18, Ar18, hl18⟩ := f13.len
  have k19 : ∀ t, Steps p.tables e below (T9.setTop (mkF m 22 #[.val (.ref r0), .val (.ref r1), .val (.int p2), .val (.ref r1), .val (.int (Int32.ofNat (4))), .val (.int (0 : Int32)), .unset] [])) t → Steps p.tables e below (s₁.setTop (mkF m 0 #[.val (.ref r0), .val (.ref r1), .val (.int p2), .unset, .unset, .unset, .unset] [])) t := by
    intro t h
    show Steps p.tables e below (s₁.setTop (mkF m 0 #[.val (.ref r0), .val (.ref r1), .val (.int p2), .unset, .unset, .unset, .unset] [])) _
    refine XS.aloadN X0.here hx rfl (hb hby own_d2_0) rfl rfl ?_
    show Steps p.tables e below (s₁.setTop (mkF m 1 #[.val (.ref r0), .val (.ref r1), .val (.int p2), .unset, .unset, .unset, .unset] [(.ref r0)])) _
    refine st1 _ ?_
    show Steps p.tables e below (T1.setTop (mkF m 4 #[.val (.ref r0), .val (.ref r1), .val (.int p2), .unset, .unset, .unset, .unset] [])) _
    refine XS.aloadN X1.here hx rfl (hb hby own_d2_4) rfl rfl ?_
    show Steps p.tables e below (T1.setTop (mkF m 5 #[.val (.ref r0), .val (.ref r1), .val (.int p2), .unset, .unset, .unset, .unset] [(.ref r0)])) _
    refine XS.iloadN X1.here hx rfl (hb hby own_d2_5) rfl ?_
    show Steps p.tables e below (T1.setTop (mkF m 6 #[.val (.ref r0), .val (.ref r1), .val (.int p2), .unset, .unset, .unset, .unset] [(.int p2), (.ref r0)])) _
    refine XS.iconst X1.here hx rfl (hb hby own_d2_6) ?_
    show Steps p.tables e below (T1.setTop (mkF m 7 #[.val (.ref r0), .val (.ref r1), .val (.int p2), .unset, .unset, .unset, .unset] [(.int (2 : Int32)), (.int p2), (.ref r0)])) _
    refine XS.iadd X1.here hx rfl (hb hby own_d2_7) rfl ?_
    show Steps p.tables e below (T1.setTop (mkF m 8 #[.val (.ref r0), .val (.ref r1), .val (.int p2), .unset, .unset, .unset, .unset] [(.int (p2 + (2 : Int32))), (.ref r0)])) _
    refine st2 _ ?_
    show Steps p.tables e below (T2.setTop (mkF m 10 #[.val (.ref r0), .val (.ref r1), .val (.int p2), .unset, .unset, .unset, .unset] [(.ref b2), (.ref r0)])) _
    refine st9 _ ?_
    show Steps p.tables e below (T9.setTop (mkF m 13 #[.val (.ref r0), .val (.ref r1), .val (.int p2), .unset, .unset, .unset, .unset] [])) _
    refine XS.aloadN X9.here hx rfl (hb hby own_d2_13) rfl rfl ?_
    show Steps p.tables e below (T9.setTop (mkF m 14 #[.val (.ref r0), .val (.ref r1), .val (.int p2), .unset, .unset, .unset, .unset] [(.ref r1)])) _
    refine XS.astoreN X9.here hx rfl (hb hby own_d2_14) rfl rfl (l' := #[.val (.ref r0), .val (.ref r1), .val (.int p2), .val (.ref r1), .unset, .unset, .unset]) rfl ?_
    show Steps p.tables e below (T9.setTop (mkF m 15 #[.val (.ref r0), .val (.ref r1), .val (.int p2), .val (.ref r1), .unset, .unset, .unset] [])) _
    refine XS.aloadN X9.here hx rfl (hb hby own_d2_15) rfl rfl ?_
    show Steps p.tables e below (T9.setTop (mkF m 16 #[.val (.ref r0), .val (.ref r1), .val (.int p2), .val (.ref r1), .unset, .unset, .unset] [(.ref r1)])) _
    refine X9.arraylength hx (by rw [e9]; exact Ar18.1) (State.isArrayOf_alike hZ.alike Ar18.2.1) (g := (mkF m 16 #[.val (.ref r0), .val (.ref r1), .val (.int p2), .val (.ref r1), .unset, .unset, .unset] [(.ref r1)])) rfl rfl (hb hby own_d2_16) _ ?_
    rw [hl18]
    show Steps p.tables e below (T9.setTop (mkF m 17 #[.val (.ref r0), .val (.ref r1), .val (.int p2), .val (.ref r1), .unset, .unset, .unset] [(.int (Int32.ofNat (4)))])) _
    refine XS.istore X9.here hx rfl (hb hby own_d2_17) rfl (l' := #[.val (.ref r0), .val (.ref r1), .val (.int p2), .val (.ref r1), .val (.int (Int32.ofNat (4))), .unset, .unset]) rfl ?_
    show Steps p.tables e below (T9.setTop (mkF m 19 #[.val (.ref r0), .val (.ref r1), .val (.int p2), .val (.ref r1), .val (.int (Int32.ofNat (4))), .unset, .unset] [])) _
    refine XS.iconst X9.here hx rfl (hb hby own_d2_19) ?_
    show Steps p.tables e below (T9.setTop (mkF m 20 #[.val (.ref r0), .val (.ref r1), .val (.int p2), .val (.ref r1), .val (.int (Int32.ofNat (4))), .unset, .unset] [(.int (0 : Int32))])) _
    refine XS.istore X9.here hx rfl (hb hby own_d2_20) rfl (l' := #[.val (.ref r0), .val (.ref r1), .val (.int p2), .val (.ref r1), .val (.int (Int32.ofNat (4))), .val (.int (0 : Int32)), .unset]) rfl ?_
    exact h
  have r20 : (0 : Int32) = (Int32.ofNat 0) := rfl
  have k21 : ∀ t, Steps p.tables e below (T9.setTop (mkF m 22 #[.val (.ref r0), .val (.ref r1), .val (.int p2), .val (.ref r1), .val (.int (Int32.ofNat (4))), .val (.int (Int32.ofNat 0)), .unset] [])) t → Steps p.tables e below (s₁.setTop (mkF m 0 #[.val (.ref r0), .val (.ref r1), .val (.int p2), .unset, .unset, .unset, .unset] [])) t := by first | (rw [← r20]; exact k19) | exact k19
  have lp22 : ∀ (d : Nat) (i : Nat) (s6 : Slot), i + d = 4 → (One s6) → ∀ (T : State) (h : Heap) (L : List Loc), Stand p l e ({ frames := 1, cells := 3, slots := 14, locals := 14 } : Room) s m #[(.ref r0), (.ref r1), (.int p2)] below meth c T L 1 5 → T.heap = h → Fr n0 L → n0 ≤ h.size → Keep h0 h [r0] → Exa Z h r0 "com/example/planwright/planwright/io/Grouping" → Fld Z h r0 "com/example/planwright/planwright/io/Grouping" "starts" "[I" (.ref b2) → Fld Z h r0 "com/example/planwright/planwright/io/Grouping" "members" "[I" .null → own_IA Z h r1 (4) (fun j => Int32.ofNat (kk j) - 1) → own_IA Z h b2 ((G + 2)) (fun j => Int32.ofNat (own_C kk i j)) → Exa Z h b2 "[I" → ∃ (T' : State) (h' : Heap) (L' : List Loc) (s6' : Slot), (One s6') ∧ Stand p l e ({ frames := 1, cells := 3, slots := 14, locals := 14 } : Room) s m #[(.ref r0), (.ref r1), (.int p2)] below meth c T' L' 1 5 ∧ T'.heap = h' ∧ Fr n0 L' ∧ n0 ≤ h'.size ∧ Keep h0 h' [r0] ∧ Exa Z h' r0 "com/example/planwright/planwright/io/Grouping" ∧ Fld Z h' r0 "com/example/planwright/planwright/io/Grouping" "starts" "[I" (.ref b2) ∧ Fld Z h' r0 "com/example/planwright/planwright/io/Grouping" "members" "[I" .null ∧ own_IA Z h' r1 (4) (fun j => Int32.ofNat (kk j) - 1) ∧ own_IA Z h' b2 ((G + 2)) (fun j => Int32.ofNat (own_C kk (4) j)) ∧ Exa Z h' b2 "[I" ∧ ∀ t, Steps p.tables e below (T'.setTop (mkF m 54 #[.val (.ref r0), .val (.ref r1), .val (.int p2), .val (.ref r1), .val (.int (Int32.ofNat (4))), .val (.int (Int32.ofNat (4))), s6'] [])) t → Steps p.tables e below (T.setTop (mkF m 22 #[.val (.ref r0), .val (.ref r1), .val (.int p2), .val (.ref r1), .val (.int (Int32.ofNat (4))), .val (.int (Int32.ofNat i)), s6] [])) t := by
    intro d
    induction d with
    | zero =>
      intro i s6 hd hs6 T h L X hE hN hZZ hK hf0 hf1 hf2 hf3 hf4 hf5
      have hi : i = 4 := by omega
      subst hi
      have k23 : ∀ t, Steps p.tables e below (T.setTop (mkF m 26 #[.val (.ref r0), .val (.ref r1), .val (.int p2), .val (.ref r1), .val (.int (Int32.ofNat (4))), .val (.int (Int32.ofNat (4))), s6] [(.int (Int32.ofNat (4))), (.int (Int32.ofNat (4)))])) t → Steps p.tables e below (T.setTop (mkF m 22 #[.val (.ref r0), .val (.ref r1), .val (.int p2), .val (.ref r1), .val (.int (Int32.ofNat (4))), .val (.int (Int32.ofNat (4))), s6] [])) t := by
        intro t h
        show Steps p.tables e below (T.setTop (mkF m 22 #[.val (.ref r0), .val (.ref r1), .val (.int p2), .val (.ref r1), .val (.int (Int32.ofNat (4))), .val (.int (Int32.ofNat (4))), s6] [])) _
        refine XS.iload X.here hx rfl (hb hby own_d2_22) rfl ?_
        show Steps p.tables e below (T.setTop (mkF m 24 #[.val (.ref r0), .val (.ref r1), .val (.int p2), .val (.ref r1), .val (.int (Int32.ofNat (4))), .val (.int (Int32.ofNat (4))), s6] [(.int (Int32.ofNat (4)))])) _
        refine XS.iload X.here hx rfl (hb hby own_d2_24) rfl ?_
        exact h
      have b26_24 : ¬ ((Int32.ofNat (4)) < (Int32.ofNat (4))) := own_nlt (by omega) (by decide)
      have k25 : ∀ t, Steps p.tables e below (T.setTop (mkF m 54 #[.val (.ref r0), .val (.ref r1), .val (.int p2), .val (.ref r1), .val (.int (Int32.ofNat (4))), .val (.int (Int32.ofNat (4))), s6] [])) t → Steps p.tables e below (T.setTop (mkF m 22 #[.val (.ref r0), .val (.ref r1), .val (.int p2), .val (.ref r1), .val (.int (Int32.ofNat (4))), .val (.int (Int32.ofNat (4))), s6] [])) t := by
        intro t h
        refine k23 t ?_
        show Steps p.tables e below (T.setTop (mkF m 26 #[.val (.ref r0), .val (.ref r1), .val (.int p2), .val (.ref r1), .val (.int (Int32.ofNat (4))), .val (.int (Int32.ofNat (4))), s6] [(.int (Int32.ofNat (4))), (.int (Int32.ofNat (4)))])) _
        refine XS.icmpYes X.here hx rfl (pc0 := 26) (pc' := 54) rfl (hb hby own_d2_26) rfl (flt b26_24).2.1 (by decide) (by decide) ?_
        exact h
      exact ⟨T, _, _, s6, hs6, X, hE, hN, hZZ, hK, hf0, hf1, hf2, hf3, hf4, hf5, k25⟩
    | succ d ih =>
      intro i s6 hd hs6 T h L X hE hN hZZ hK hf0 hf1 hf2 hf3 hf4 hf5
      have k26 : ∀ t, Steps p.tables e below (T.setTop (mkF m 26 #[.val (.ref r0), .val (.ref r1), .val (.int p2), .val (.ref r1), .val (.int (Int32.ofNat (4))), .val (.int (Int32.ofNat i)), s6] [(.int (Int32.ofNat (4))), (.int (Int32.ofNat i))])) t → Steps p.tables e below (T.setTop (mkF m 22 #[.val (.ref r0), .val (.ref r1), .val (.int p2), .val (.ref r1), .val (.int (Int32.ofNat (4))), .val (.int (Int32.ofNat i)), s6] [])) t := by
        intro t h
        show Steps p.tables e below (T.setTop (mkF m 22 #[.val (.ref r0), .val (.ref r1), .val (.int p2), .val (.ref r1), .val (.int (Int32.ofNat (4))), .val (.int (Int32.ofNat i)), s6] [])) _
        refine XS.iload X.here hx rfl (hb hby own_d2_22) rfl ?_
        show Steps p.tables e below (T.setTop (mkF m 24 #[.val (.ref r0), .val (.ref r1), .val (.int p2), .val (.ref r1), .val (.int (Int32.ofNat (4))), .val (.int (Int32.ofNat i)), s6] [(.int (Int32.ofNat i))])) _
        refine XS.iload X.here hx rfl (hb hby own_d2_24) rfl ?_
        exact h
      have b26_27 : (Int32.ofNat i) < (Int32.ofNat (4)) := own_lt (by omega) (by decide)
      obtain ⟨cl28, Ar28, hin28, hat28⟩ := own_IA.at (i := i) (j := (Int32.ofNat i)) hf3 rfl (by omega) (by decide)
      obtain ⟨T29, X29, e29, st29⟩ := getF X hx hZ hown (host := "") (Or.inl (hw _ (List.mem_of_getElem? (i := 15) rfl))) Via.refl hE hf1 (g := (mkF m 36 #[.val (.ref r0), .val (.ref r1), .val (.int p2), .val (.ref r1), .val (.int (Int32.ofNat (4))), .val (.int (Int32.ofNat i)), .val (.int (Int32.ofNat (kk i) - 1))] [(.ref r0)])) rfl rfl (hb hby own_d2_36)
      obtain ⟨cl30, Ar30, hin30, hat30⟩ := own_IA.at (i := (kk i + 1)) (j := ((Int32.ofNat (kk i) - 1) + (2 : Int32))) hf4 (own_km2 _) (by have := hk i (by omega); omega) (by omega)
      obtain ⟨cl31, Ar31, hin31, hat31⟩ := own_IA.at (i := (kk i + 1)) (j := ((Int32.ofNat (kk i) - 1) + (2 : Int32))) hf4 (own_km2 _) (by have := hk i (by omega); omega) (by omega)
      obtain ⟨T31, h31, X31, e31, W31, st31⟩ := stI X29 hx hZ e29 Ar31 (j := ((Int32.ofNat (kk i) - 1) + (2 : Int32))) hin31 (g := (mkF m 47 #[.val (.ref r0), .val (.ref r1), .val (.int p2), .val (.ref r1), .val (.int (Int32.ofNat (4))), .val (.int (Int32.ofNat i)), .val (.int (Int32.ofNat (kk i) - 1))] [(.int ((Int32.ofNat (own_C kk i (kk i + 1))) + (1 : Int32))), (.int ((Int32.ofNat (kk i) - 1) + (2 : Int32))), (.ref b2)])) rfl rfl (hb hby own_d2_47)
      have V31 := own_IA.set hf4 W31 (own_km2 _) (by have := hk i (by omega); omega) (by omega)
      have f32 := hf0.wr W31
      have f33 := hf1.other W31 (Or.inl ne_r0_b2)
      have f34 := hf2.other W31 (Or.inl ne_r0_b2)
      have f35 := hf3.other W31 ne_r1_b2
      have f36 := hf5.wr W31
      have Z37 : n0 ≤ h31.size := Nat.le_trans hZZ (Keep.of_wr W31).1
      have K38 := hK.wr W31 (Or.inr sz_b2)
      have N31 := Fr.snoc X31 hN g_b2
      have k39 : ∀ t, Steps p.tables e below (T31.setTop (mkF m 22 #[.val (.ref r0), .val (.ref r1), .val (.int p2), .val (.ref r1), .val (.int (Int32.ofNat (4))), .val (.int ((Int32.ofNat i) + (1 : Int32))), .val (.int (Int32.ofNat (kk i) - 1))] [])) t → Steps p.tables e below (T.setTop (mkF m 22 #[.val (.ref r0), .val (.ref r1), .val (.int p2), .val (.ref r1), .val (.int (Int32.ofNat (4))), .val (.int (Int32.ofNat i)), s6] [])) t := by
        intro t h
        refine k26 t ?_
        show Steps p.tables e below (T.setTop (mkF m 26 #[.val (.ref r0), .val (.ref r1), .val (.int p2), .val (.ref r1), .val (.int (Int32.ofNat (4))), .val (.int (Int32.ofNat i)), s6] [(.int (Int32.ofNat (4))), (.int (Int32.ofNat i))])) _
        refine XS.icmpNo X.here hx rfl (hb hby own_d2_26) rfl (tlt b26_27).2.1 ?_
        show Steps p.tables e below (T.setTop (mkF m 29 #[.val (.ref r0), .val (.ref r1), .val (.int p2), .val (.ref r1), .val (.int (Int32.ofNat (4))), .val (.int (Int32.ofNat i)), s6] [])) _
        refine XS.aloadN X.here hx rfl (hb hby own_d2_29) rfl rfl ?_
        show Steps p.tables e below (T.setTop (mkF m 30 #[.val (.ref r0), .val (.ref r1), .val (.int p2), .val (.ref r1), .val (.int (Int32.ofNat (4))), .val (.int (Int32.ofNat i)), s6] [(.ref r1)])) _
        refine XS.iload X.here hx rfl (hb hby own_d2_30) rfl ?_
        show Steps p.tables e below (T.setTop (mkF m 32 #[.val (.ref r0), .val (.ref r1), .val (.int p2), .val (.ref r1), .val (.int (Int32.ofNat (4))), .val (.int (Int32.ofNat i)), s6] [(.int (Int32.ofNat i)), (.ref r1)])) _
        refine X.iaload hx (j := (Int32.ofNat i)) (v := (.int (Int32.ofNat (kk i) - 1))) (by rw [hE]; exact Ar28.1) (State.isArrayOf_alike hZ.alike Ar28.2.1) Ar28.2.2 hin28 hat28 (g := (mkF m 32 #[.val (.ref r0), .val (.ref r1), .val (.int p2), .val (.ref r1), .val (.int (Int32.ofNat (4))), .val (.int (Int32.ofNat i)), s6] [(.int (Int32.ofNat i)), (.ref r1)])) rfl rfl (hb hby own_d2_32) _ ?_
        show Steps p.tables e below (T.setTop (mkF m 33 #[.val (.ref r0), .val (.ref r1), .val (.int p2), .val (.ref r1), .val (.int (Int32.ofNat (4))), .val (.int (Int32.ofNat i)), s6] [(.int (Int32.ofNat (kk i) - 1))])) _
        refine XS.istoreS X.here hx rfl (hb hby own_d2_33) rfl rfl hs6 ?_
        show Steps p.tables e below (T.setTop (mkF m 35 #[.val (.ref r0), .val (.ref r1), .val (.int p2), .val (.ref r1), .val (.int (Int32.ofNat (4))), .val (.int (Int32.ofNat i)), .val (.int (Int32.ofNat (kk i) - 1))] [])) _
        refine XS.aloadN X.here hx rfl (hb hby own_d2_35) rfl rfl ?_
        show Steps p.tables e below (T.setTop (mkF m 36 #[.val (.ref r0), .val (.ref r1), .val (.int p2), .val (.ref r1), .val (.int (Int32.ofNat (4))), .val (.int (Int32.ofNat i)), .val (.int (Int32.ofNat (kk i) - 1))] [(.ref r0)])) _
        refine st29 _ ?_
        show Steps p.tables e below (T29.setTop (mkF m 39 #[.val (.ref r0), .val (.ref r1), .val (.int p2), .val (.ref r1), .val (.int (Int32.ofNat (4))), .val (.int (Int32.ofNat i)), .val (.int (Int32.ofNat (kk i) - 1))] [(.ref b2)])) _
        refine XS.iload X29.here hx rfl (hb hby own_d2_39) rfl ?_
        show Steps p.tables e below (T29.setTop (mkF m 41 #[.val (.ref r0), .val (.ref r1), .val (.int p2), .val (.ref r1), .val (.int (Int32.ofNat (4))), .val (.int (Int32.ofNat i)), .val (.int (Int32.ofNat (kk i) - 1))] [(.int (Int32.ofNat (kk i) - 1)), (.ref b2)])) _
        refine XS.iconst X29.here hx rfl (hb hby own_d2_41) ?_
        show Steps p.tables e below (T29.setTop (mkF m 42 #[.val (.ref r0), .val (.ref r1), .val (.int p2), .val (.ref r1), .val (.int (Int32.ofNat (4))), .val (.int (Int32.ofNat i)), .val (.int (Int32.ofNat (kk i) - 1))] [(.int (2 : Int32)), (.int (Int32.ofNat (kk i) - 1)), (.ref b2)])) _
        refine XS.iadd X29.here hx rfl (hb hby own_d2_42) rfl ?_
        show Steps p.tables e below (T29.setTop (mkF m 43 #[.val (.ref r0), .val (.ref r1), .val (.int p2), .val (.ref r1), .val (.int (Int32.ofNat (4))), .val (.int (Int32.ofNat i)), .val (.int (Int32.ofNat (kk i) - 1))] [(.int ((Int32.ofNat (kk i) - 1) + (2 : Int32))), (.ref b2)])) _
        refine XT.dup2 X29.here hx rfl (hb hby own_d2_43) rfl rfl rfl ?_
        show Steps p.tables e below (T29.setTop (mkF m 44 #[.val (.ref r0), .val (.ref r1), .val (.int p2), .val (.ref r1), .val (.int (Int32.ofNat (4))), .val (.int (Int32.ofNat i)), .val (.int (Int32.ofNat (kk i) - 1))] [(.int ((Int32.ofNat (kk i) - 1) + (2 : Int32))), (.ref b2), (.int ((Int32.ofNat (kk i) - 1) + (2 : Int32))), (.ref b2)])) _
        refine X29.iaload hx (j := ((Int32.ofNat (kk i) - 1) + (2 : Int32))) (v := (.int (Int32.ofNat (own_C kk i (kk i + 1))))) (by rw [e29]; exact Ar30.1) (State.isArrayOf_alike hZ.alike Ar30.2.1) Ar30.2.2 hin30 hat30 (g := (mkF m 44 #[.val (.ref r0), .val (.ref r1), .val (.int p2), .val (.ref r1), .val (.int (Int32.ofNat (4))), .val (.int (Int32.ofNat i)), .val (.int (Int32.ofNat (kk i) - 1))] [(.int ((Int32.ofNat (kk i) - 1) + (2 : Int32))), (.ref b2), (.int ((Int32.ofNat (kk i) - 1) + (2 : Int32))), (.ref b2)])) rfl rfl (hb hby own_d2_44) _ ?_
        show Steps p.tables e below (T29.setTop (mkF m 45 #[.val (.ref r0), .val (.ref r1), .val (.int p2), .val (.ref r1), .val (.int (Int32.ofNat (4))), .val (.int (Int32.ofNat i)), .val (.int (Int32.ofNat (kk i) - 1))] [(.int (Int32.ofNat (own_C kk i (kk i + 1)))), (.int ((Int32.ofNat (kk i) - 1) + (2 : Int32))), (.ref b2)])) _
        refine XS.iconst X29.here hx rfl (hb hby own_d2_45) ?_
        show Steps p.tables e below (T29.setTop (mkF m 46 #[.val (.ref r0), .val (.ref r1), .val (.int p2), .val (.ref r1), .val (.int (Int32.ofNat (4))), .val (.int (Int32.ofNat i)), .val (.int (Int32.ofNat (kk i) - 1))] [(.int (1 : Int32)), (.int (Int32.ofNat (own_C kk i (kk i + 1)))), (.int ((Int32.ofNat (kk i) - 1) + (2 : Int32))), (.ref b2)])) _
        refine XS.iadd X29.here hx rfl (hb hby own_d2_46) rfl ?_
        show Steps p.tables e below (T29.setTop (mkF m 47 #[.val (.ref r0), .val (.ref r1), .val (.int p2), .val (.ref r1), .val (.int (Int32.ofNat (4))), .val (.int (Int32.ofNat i)), .val (.int (Int32.ofNat (kk i) - 1))] [(.int ((Int32.ofNat (own_C kk i (kk i + 1))) + (1 : Int32))), (.int ((Int32.ofNat (kk i) - 1) + (2 : Int32))), (.ref b2)])) _
        refine st31 _ ?_
        show Steps p.tables e below (T31.setTop (mkF m 48 #[.val (.ref r0), .val (.ref r1), .val (.int p2), .val (.ref r1), .val (.int (Int32.ofNat (4))), .val (.int (Int32.ofNat i)), .val (.int (Int32.ofNat (kk i) - 1))] [])) _
        refine XS.iinc X31.here hx rfl (hb hby own_d2_48) rfl (l' := #[.val (.ref r0), .val (.ref r1), .val (.int p2), .val (.ref r1), .val (.int (Int32.ofNat (4))), .val (.int ((Int32.ofNat i) + (1 : Int32))), .val (.int (Int32.ofNat (kk i) - 1))]) rfl ?_
        show Steps p.tables e below (T31.setTop (mkF m 51 #[.val (.ref r0), .val (.ref r1), .val (.int p2), .val (.ref r1), .val (.int (Int32.ofNat (4))), .val (.int ((Int32.ofNat i) + (1 : Int32))), .val (.int (Int32.ofNat (kk i) - 1))] [])) _
        refine XS.goto X31.here hx rfl (pc0 := 51) (pc' := 22) rfl (hb hby own_d2_51) (by decide) (by decide) ?_
        exact h
      have r40 : ((Int32.ofNat i) + (1 : Int32)) = (Int32.ofNat (i + 1)) := own_inc i
      have k41 : ∀ t, Steps p.tables e below (T31.setTop (mkF m 22 #[.val (.ref r0), .val (.ref r1), .val (.int p2), .val (.ref r1), .val (.int (Int32.ofNat (4))), .val (.int (Int32.ofNat (i + 1))), .val (.int (Int32.ofNat (kk i) - 1))] [])) t → Steps p.tables e below (T.setTop (mkF m 22 #[.val (.ref r0), .val (.ref r1), .val (.int p2), .val (.ref r1), .val (.int (Int32.ofNat (4))), .val (.int (Int32.ofNat i)), s6] [])) t := by first | (rw [← r40]; exact k39) | exact k39
      obtain ⟨T42, h42, L42, o42s6, ho42hs6, X42, e42, N42, Z42, K42, f42_0, f42_1, f42_2, f42_3, f42_4, f42_5, k42⟩ := ih (i + 1) (.val (.int (Int32.ofNat (kk i) - 1))) (by omega) (One.val rfl) T31 _ _ X31 e31 N31 Z37 K38 (f32) (f33) (f34) (f35) (own_IA.congr V31 (fun j _ => own_C_step kk i j)) (f36)
      exact ⟨T42, h42, L42, o42s6, ho42hs6, X42, e42, N42, Z42, K42, f42_0, f42_1, f42_2, f42_3, f42_4, f42_5, fun t q => k41 t (k42 t q)⟩
  obtain ⟨T43, h43, L43, s643, hs643, X43, e43, N43, Z43, K43, f43_0, f43_1, f43_2, f43_3, f43_4, f43_5, k43⟩ := lp22 (4) 0 .unset (by first | rfl | omega) One.u T9 _ _ X9 e9 N9 Z16 K17 (f12) (f10) (f11) (f13) (own_IA.congr f14 (fun _ _ => rfl)) (f15)
  have k44 : ∀ t, Steps p.tables e below (T43.setTop (mkF m 54 #[.val (.ref r0), .val (.ref r1), .val (.int p2), .val (.ref r1), .val (.int (Int32.ofNat (4))), .val (.int (Int32.ofNat (4))), s643] [])) t → Steps p.tables e below (s₁.setTop (mkF m 0 #[.val (.ref r0), .val (.ref r1), .val (.int p2), .unset, .unset, .unset, .unset] [])) t := fun t q => k21 t (k43 t q)
  have k45 : ∀ t, Steps p.tables e below (T43.setTop (mkF m 56 #[.val (.ref r0), .val (.ref r1), .val (.int p2), .val (.int (1 : Int32)), .val (.int (Int32.ofNat (4))), .val (.int (Int32.ofNat (4))), s643] [])) t → Steps p.tables e below (s₁.setTop (mkF m 0 #[.val (.ref r0), .val (.ref r1), .val (.int p2), .unset, .unset, .unset, .unset] [])) t := by
    intro t h
    refine k44 t ?_
    show Steps p.tables e below (T43.setTop (mkF m 54 #[.val (.ref r0), .val (.ref r1), .val (.int p2), .val (.ref r1), .val (.int (Int32.ofNat (4))), .val (.int (Int32.ofNat (4))), s643] [])) _
    refine XS.iconst X43.here hx rfl (hb hby own_d2_54) ?_
    show Steps p.tables e below (T43.setTop (mkF m 55 #[.val (.ref r0), .val (.ref r1), .val (.int p2), .val (.ref r1), .val (.int (Int32.ofNat (4))), .val (.int (Int32.ofNat (4))), s643] [(.int (1 : Int32))])) _
    refine XS.istoreN X43.here hx rfl (hb hby own_d2_55) rfl (l' := #[.val (.ref r0), .val (.ref r1), .val (.int p2), .val (.int (1 : Int32)), .val (.int (Int32.ofNat (4))), .val (.int (Int32.ofNat (4))), s643]) rfl ?_
    exact h
  have r46 : (1 : Int32) = (Int32.ofNat 1) := rfl
  have k47 : ∀ t, Steps p.tables e below (T43.setTop (mkF m 56 #[.val (.ref r0), .val (.ref r1), .val (.int p2), .val (.int (Int32.ofNat 1)), .val (.int (Int32.ofNat (4))), .val (.int (Int32.ofNat (4))), s643] [])) t → Steps p.tables e below (s₁.setTop (mkF m 0 #[.val (.ref r0), .val (.ref r1), .val (.int p2), .unset, .unset, .unset, .unset] [])) t := by first | (rw [← r46]; exact k45) | exact k45
  have lp48 : ∀ (d : Nat) (g : Nat), g + d = G + 2 → (1 ≤ g) → ∀ (T : State) (h : Heap) (L : List Loc), Stand p l e ({ frames := 1, cells := 3, slots := 14, locals := 14 } : Room) s m #[(.ref r0), (.ref r1), (.int p2)] below meth c T L 1 5 → T.heap = h → Fr n0 L → n0 ≤ h.size → Keep h0 h [r0] → Exa Z h r0 "com/example/planwright/planwright/io/Grouping" → Fld Z h r0 "com/example/planwright/planwright/io/Grouping" "starts" "[I" (.ref b2) → Fld Z h r0 "com/example/planwright/planwright/io/Grouping" "members" "[I" .null → own_IA Z h r1 (4) (fun j => Int32.ofNat (kk j) - 1) → own_IA Z h b2 ((G + 2)) (fun j => Int32.ofNat (if j < g then own_A kk 4 j else own_C kk 4 j)) → Exa Z h b2 "[I" → ∃ (T' : State) (h' : Heap) (L' : List Loc), Stand p l e ({ frames := 1, cells := 3, slots := 14, locals := 14 } : Room) s m #[(.ref r0), (.ref r1), (.int p2)] below meth c T' L' 1 5 ∧ T'.heap = h' ∧ Fr n0 L' ∧ n0 ≤ h'.size ∧ Keep h0 h' [r0] ∧ Exa Z h' r0 "com/example/planwright/planwright/io/Grouping" ∧ Fld Z h' r0 "com/example/planwright/planwright/io/Grouping" "starts" "[I" (.ref b2) ∧ Fld Z h' r0 "com/example/planwright/planwright/io/Grouping" "members" "[I" .null ∧ own_IA Z h' r1 (4) (fun j => Int32.ofNat (kk j) - 1) ∧ own_IA Z h' b2 ((G + 2)) (fun j => Int32.ofNat (if j < (G + 2) then own_A kk 4 j else own_C kk 4 j)) ∧ Exa Z h' b2 "[I" ∧ ∀ t, Steps p.tables e below (T'.setTop (mkF m 88 #[.val (.ref r0), .val (.ref r1), .val (.int p2), .val (.int (Int32.ofNat (G + 2))), .val (.int (Int32.ofNat (4))), .val (.int (Int32.ofNat (4))), s643] [])) t → Steps p.tables e below (T.setTop (mkF m 56 #[.val (.ref r0), .val (.ref r1), .val (.int p2), .val (.int (Int32.ofNat g)), .val (.int (Int32.ofNat (4))), .val (.int (Int32.ofNat (4))), s643] [])) t := by
    intro d
    induction d with
    | zero =>
      intro g hd hg1 T h L X hE hN hZZ hK hf0 hf1 hf2 hf3 hf4 hf5
      have hi : g = G + 2 := by omega
      subst hi
      obtain ⟨T49, X49, e49, st49⟩ := getF X hx hZ hown (host := "") (Or.inl (hw _ (List.mem_of_getElem? (i := 15) rfl))) Via.refl hE hf1 (g := (mkF m 58 #[.val (.ref r0), .val (.ref r1), .val (.int p2), .val (.int (Int32.ofNat (G + 2))), .val (.int (Int32.ofNat (4))), .val (.int (Int32.ofNat (4))), s643] [(.ref r0), (.int (Int32.ofNat (G + 2)))])) rfl rfl (hb hby own_d2_58)
      obtain ⟨cl50, Ar50, hl50⟩ := hf4.len
      have k51 : ∀ t, Steps p.tables e below (T49.setTop (mkF m 62 #[.val (.ref r0), .val (.ref r1), .val (.int p2), .val (.int (Int32.ofNat (G + 2))), .val (.int (Int32.ofNat (4))), .val (.int (Int32.ofNat (4))), s643] [(.int (Int32.ofNat ((G + 2)))), (.int (Int32.ofNat (G + 2)))])) t → Steps p.tables e below (T.setTop (mkF m 56 #[.val (.ref r0), .val (.ref r1), .val (.int p2), .val (.int (Int32.ofNat (G + 2))), .val (.int (Int32.ofNat (4))), .val (.int (Int32.ofNat (4))), s643] [])) t := by
        intro t h
        show Steps p.tables e below (T.setTop (mkF m 56 #[.val (.ref r0), .val (.ref r1), .val (.int p2), .val (.int (Int32.ofNat (G + 2))), .val (.int (Int32.ofNat (4))), .val (.int (Int32.ofNat (4))), s643] [])) _
        refine XS.iloadN X.here hx rfl (hb hby own_d2_56) rfl ?_
        show Steps p.tables e below (T.setTop (mkF m 57 #[.val (.ref r0), .val (.ref r1), .val (.int p2), .val (.int (Int32.ofNat (G + 2))), .val (.int (Int32.ofNat (4))), .val (.int (Int32.ofNat (4))), s643] [(.int (Int32.ofNat (G + 2)))])) _
        refine XS.aloadN X.here hx rfl (hb hby own_d2_57) rfl rfl ?_
        show Steps p.tables e below (T.setTop (mkF m 58 #[.val (.ref r0), .val (.ref r1), .val (.int p2), .val (.int (Int32.ofNat (G + 2))), .val (.int (Int32.ofNat (4))), .val (.int (Int32.ofNat (4))), s643] [(.ref r0), (.int (Int32.ofNat (G + 2)))])) _
        refine st49 _ ?_
        show Steps p.tables e below (T49.setTop (mkF m 61 #[.val (.ref r0), .val (.ref r1), .val (.int p2), .val (.int (Int32.ofNat (G + 2))), .val (.int (Int32.ofNat (4))), .val (.int (Int32.ofNat (4))), s643] [(.ref b2), (.int (Int32.ofNat (G + 2)))])) _
        refine X49.arraylength hx (by rw [e49]; exact Ar50.1) (State.isArrayOf_alike hZ.alike Ar50.2.1) (g := (mkF m 61 #[.val (.ref r0), .val (.ref r1), .val (.int p2), .val (.int (Int32.ofNat (G + 2))), .val (.int (Int32.ofNat (4))), .val (.int (Int32.ofNat (4))), s643] [(.ref b2), (.int (Int32.ofNat (G + 2)))])) rfl rfl (hb hby own_d2_61) _ ?_
        rw [hl50]
        exact h
      have b62_52 : ¬ ((Int32.ofNat (G + 2)) < (Int32.ofNat ((G + 2)))) := own_nlt (by omega) (by omega)
      have k53 : ∀ t, Steps p.tables e below (T49.setTop (mkF m 88 #[.val (.ref r0), .val (.ref r1), .val (.int p2), .val (.int (Int32.ofNat (G + 2))), .val (.int (Int32.ofNat (4))), .val (.int (Int32.ofNat (4))), s643] [])) t → Steps p.tables e below (T.setTop (mkF m 56 #[.val (.ref r0), .val (.ref r1), .val (.int p2), .val (.int (Int32.ofNat (G + 2))), .val (.int (Int32.ofNat (4))), .val (.int (Int32.ofNat (4))), s643] [])) t := by
        intro t h
        refine k51 t ?_
        show Steps p.tables e below (T49.setTop (mkF m 62 #[.val (.ref r0), .val (.ref r1), .val (.int p2), .val (.int (Int32.ofNat (G + 2))), .val (.int (Int32.ofNat (4))), .val (.int (Int32.ofNat (4))), s643] [(.int (Int32.ofNat ((G + 2)))), (.int (Int32.ofNat (G + 2)))])) _
        refine XS.icmpYes X49.here hx rfl (pc0 := 62) (pc' := 88) rfl (hb hby own_d2_62) rfl (flt b62_52).2.1 (by decide) (by decide) ?_
        exact h
      exact ⟨T49, _, _, X49, e49, hN, hZZ, hK, hf0, hf1, hf2, hf3, hf4, hf5, k53⟩
    | succ d ih =>
      intro g hd hg1 T h L X hE hN hZZ hK hf0 hf1 hf2 hf3 hf4 hf5
      obtain ⟨T54, X54, e54, st54⟩ := getF X hx hZ hown (host := "") (Or.inl (hw _ (List.mem_of_getElem? (i := 15) rfl))) Via.refl hE hf1 (g := (mkF m 58 #[.val (.ref r0), .val (.ref r1), .val (.int p2), .val (.int (Int32.ofNat g)), .val (.int (Int32.ofNat (4))), .val (.int (Int32.ofNat (4))), s643] [(.ref r0), (.int (Int32.ofNat g))])) rfl rfl (hb hby own_d2_58)
      obtain ⟨cl55, Ar55, hl55⟩ := hf4.len
      have k56 : ∀ t, Steps p.tables e below (T54.setTop (mkF m 62 #[.val (.ref r0), .val (.ref r1), .val (.int p2), .val (.int (Int32.ofNat g)), .val (.int (Int32.ofNat (4))), .val (.int (Int32.ofNat (4))), s643] [(.int (Int32.ofNat ((G + 2)))), (.int (Int32.ofNat g))])) t → Steps p.tables e below (T.setTop (mkF m 56 #[.val (.ref r0), .val (.ref r1), .val (.int p2), .val (.int (Int32.ofNat g)), .val (.int (Int32.ofNat (4))), .val (.int (Int32.ofNat (4))), s643] [])) t := by
        intro t h
        show Steps p.tables e below (T.setTop (mkF m 56 #[.val (.ref r0), .val (.ref r1), .val (.int p2), .val (.int (Int32.ofNat g)), .val (.int (Int32.ofNat (4))), .val (.int (Int32.ofNat (4))), s643] [])) _
        refine XS.iloadN X.here hx rfl (hb hby own_d2_56) rfl ?_
        show Steps p.tables e below (T.setTop (mkF m 57 #[.val (.ref r0), .val (.ref r1), .val (.int p2), .val (.int (Int32.ofNat g)), .val (.int (Int32.ofNat (4))), .val (.int (Int32.ofNat (4))), s643] [(.int (Int32.ofNat g))])) _
        refine XS.aloadN X.here hx rfl (hb hby own_d2_57) rfl rfl ?_
        show Steps p.tables e below (T.setTop (mkF m 58 #[.val (.ref r0), .val (.ref r1), .val (.int p2), .val (.int (Int32.ofNat g)), .val (.int (Int32.ofNat (4))), .val (.int (Int32.ofNat (4))), s643] [(.ref r0), (.int (Int32.ofNat g))])) _
        refine st54 _ ?_
        show Steps p.tables e below (T54.setTop (mkF m 61 #[.val (.ref r0), .val (.ref r1), .val (.int p2), .val (.int (Int32.ofNat g)), .val (.int (Int32.ofNat (4))), .val (.int (Int32.ofNat (4))), s643] [(.ref b2), (.int (Int32.ofNat g))])) _
        refine X54.arraylength hx (by rw [e54]; exact Ar55.1) (State.isArrayOf_alike hZ.alike Ar55.2.1) (g := (mkF m 61 #[.val (.ref r0), .val (.ref r1), .val (.int p2), .val (.int (Int32.ofNat g)), .val (.int (Int32.ofNat (4))), .val (.int (Int32.ofNat (4))), s643] [(.ref b2), (.int (Int32.ofNat g))])) rfl rfl (hb hby own_d2_61) _ ?_
        rw [hl55]
        exact h
      have b62_57 : (Int32.ofNat g) < (Int32.ofNat ((G + 2))) := own_lt (by omega) (by omega)
      obtain ⟨T58, X58, e58, st58⟩ := getF X54 hx hZ hown (host := "") (Or.inl (hw _ (List.mem_of_getElem? (i := 15) rfl))) Via.refl e54 hf1 (g := (mkF m 66 #[.val (.ref r0), .val (.ref r1), .val (.int p2), .val (.int (Int32.ofNat g)), .val (.int (Int32.ofNat (4))), .val (.int (Int32.ofNat (4))), s643] [(.ref r0)])) rfl rfl (hb hby own_d2_66)
      obtain ⟨cl59, Ar59, hin59, hat59⟩ := own_IA.at (i := g) (j := (Int32.ofNat g)) hf4 rfl (by omega) (by omega)
      obtain ⟨T60, X60, e60, st60⟩ := getF X58 hx hZ hown (host := "") (Or.inl (hw _ (List.mem_of_getElem? (i := 15) rfl))) Via.refl e58 hf1 (g := (mkF m 73 #[.val (.ref r0), .val (.ref r1), .val (.int p2), .val (.int (Int32.ofNat g)), .val (.int (Int32.ofNat (4))), .val (.int (Int32.ofNat (4))), s643] [(.ref r0), (.int (Int32.ofNat (if g < g then own_A kk 4 (g) else own_C kk 4 (g)))), (.int (Int32.ofNat g)), (.ref b2)])) rfl rfl (hb hby own_d2_73)
      obtain ⟨cl61, Ar61, hin61, hat61⟩ := own_IA.at (i := (g - 1)) (j := ((Int32.ofNat g) - (1 : Int32))) hf4 (own_dec hg1) (by omega) (by omega)
      obtain ⟨cl62, Ar62, hin62, hat62⟩ := own_IA.at (i := g) (j := (Int32.ofNat g)) hf4 rfl (by omega) (by omega)
      obtain ⟨T62, h62, X62, e62, W62, st62⟩ := stI X60 hx hZ e60 Ar62 (j := (Int32.ofNat g)) hin62 (g := (mkF m 81 #[.val (.ref r0), .val (.ref r1), .val (.int p2), .val (.int (Int32.ofNat g)), .val (.int (Int32.ofNat (4))), .val (.int (Int32.ofNat (4))), s643] [(.int ((Int32.ofNat (if g < g then own_A kk 4 (g) else own_C kk 4 (g))) + (Int32.ofNat (if g - 1 < g then own_A kk 4 (g - 1) else own_C kk 4 (g - 1))))), (.int (Int32.ofNat g)), (.ref b2)])) rfl rfl (hb hby own_d2_81)
      have V62 := own_IA.set hf4 W62 rfl (by omega) (by omega)
      have f63 := hf0.wr W62
      have f64 := hf1.other W62 (Or.inl ne_r0_b2)
      have f65 := hf2.other W62 (Or.inl ne_r0_b2)
      have f66 := hf3.other W62 ne_r1_b2
      have f67 := hf5.wr W62
      have Z68 : n0 ≤ h62.size := Nat.le_trans hZZ (Keep.of_wr W62).1
      have K69 := hK.wr W62 (Or.inr sz_b2)
      have N62 := Fr.snoc X62 hN g_b2
      have k70 : ∀ t, Steps p.tables e below (T62.setTop (mkF m 56 #[.val (.ref r0), .val (.ref r1), .val (.int p2), .val (.int ((Int32.ofNat g) + (1 : Int32))), .val (.int (Int32.ofNat (4))), .val (.int (Int32.ofNat (4))), s643] [])) t → Steps p.tables e below (T.setTop (mkF m 56 #[.val (.ref r0), .val (.ref r1), .val (.int p2), .val (.int (Int32.ofNat g)), .val (.int (Int32.ofNat (4))), .val (.int (Int32.ofNat (4))), s643] [])) t := by
        intro t h
        refine k56 t ?_
        show Steps p.tables e below (T54.setTop (mkF m 62 #[.val (.ref r0), .val (.ref r1), .val (.int p2), .val (.int (Int32.ofNat g)), .val (.int (Int32.ofNat (4))), .val (.int (Int32.ofNat (4))), s643] [(.int (Int32.ofNat ((G + 2)))), (.int (Int32.ofNat g))])) _
        refine XS.icmpNo X54.here hx rfl (hb hby own_d2_62) rfl (tlt b62_57).2.1 ?_
        show Steps p.tables e below (T54.setTop (mkF m 65 #[.val (.ref r0), .val (.ref r1), .val (.int p2), .val (.int (Int32.ofNat g)), .val (.int (Int32.ofNat (4))), .val (.int (Int32.ofNat (4))), s643] [])) _
        refine XS.aloadN X54.here hx rfl (hb hby own_d2_65) rfl rfl ?_
        show Steps p.tables e below (T54.setTop (mkF m 66 #[.val (.ref r0), .val (.ref r1), .val (.int p2), .val (.int (Int32.ofNat g)), .val (.int (Int32.ofNat (4))), .val (.int (Int32.ofNat (4))), s643] [(.ref r0)])) _
        refine st58 _ ?_
        show Steps p.tables e below (T58.setTop (mkF m 69 #[.val (.ref r0), .val (.ref r1), .val (.int p2), .val (.int (Int32.ofNat g)), .val (.int (Int32.ofNat (4))), .val (.int (Int32.ofNat (4))), s643] [(.ref b2)])) _
        refine XS.iloadN X58.here hx rfl (hb hby own_d2_69) rfl ?_
        show Steps p.tables e below (T58.setTop (mkF m 70 #[.val (.ref r0), .val (.ref r1), .val (.int p2), .val (.int (Int32.ofNat g)), .val (.int (Int32.ofNat (4))), .val (.int (Int32.ofNat (4))), s643] [(.int (Int32.ofNat g)), (.ref b2)])) _
        refine XT.dup2 X58.here hx rfl (hb hby own_d2_70) rfl rfl rfl ?_
        show Steps p.tables e below (T58.setTop (mkF m 71 #[.val (.ref r0), .val (.ref r1), .val (.int p2), .val (.int (Int32.ofNat g)), .val (.int (Int32.ofNat (4))), .val (.int (Int32.ofNat (4))), s643] [(.int (Int32.ofNat g)), (.ref b2), (.int (Int32.ofNat g)), (.ref b2)])) _
        refine X58.iaload hx (j := (Int32.ofNat g)) (v := (.int (Int32.ofNat (if g < g then own_A kk 4 (g) else own_C kk 4 (g))))) (by rw [e58]; exact Ar59.1) (State.isArrayOf_alike hZ.alike Ar59.2.1) Ar59.2.2 hin59 hat59 (g := (mkF m 71 #[.val (.ref r0), .val (.ref r1), .val (.int p2), .val (.int (Int32.ofNat g)), .val (.int (Int32.ofNat (4))), .val (.int (Int32.ofNat (4))), s643] [(.int (Int32.ofNat g)), (.ref b2), (.int (Int32.ofNat g)), (.ref b2)])) rfl rfl (hb hby own_d2_71) _ ?_
        show Steps p.tables e below (T58.setTop (mkF m 72 #[.val (.ref r0), .val (.ref r1), .val (.int p2), .val (.int (Int32.ofNat g)), .val (.int (Int32.ofNat (4))), .val (.int (Int32.ofNat (4))), s643] [(.int (Int32.ofNat (if g < g then own_A kk 4 (g) else own_C kk 4 (g)))), (.int (Int32.ofNat g)), (.ref b2)])) _
        refine XS.aloadN X58.here hx rfl (hb hby own_d2_72) rfl rfl ?_
        show Steps p.tables e below (T58.setTop (mkF m 73 #[.val (.ref r0), .val (.ref r1), .val (.int p2), .val (.int (Int32.ofNat g)), .val (.int (Int32.ofNat (4))), .val (.int (Int32.ofNat (4))), s643] [(.ref r0), (.int (Int32.ofNat (if g < g then own_A kk 4 (g) else own_C kk 4 (g)))), (.int (Int32.ofNat g)), (.ref b2)])) _
        refine st60 _ ?_
        show Steps p.tables e below (T60.setTop (mkF m 76 #[.val (.ref r0), .val (.ref r1), .val (.int p2), .val (.int (Int32.ofNat g)), .val (.int (Int32.ofNat (4))), .val (.int (Int32.ofNat (4))), s643] [(.ref b2), (.int (Int32.ofNat (if g < g then own_A kk 4 (g) else own_C kk 4 (g)))), (.int (Int32.ofNat g)), (.ref b2)])) _
        refine XS.iloadN X60.here hx rfl (hb hby own_d2_76) rfl ?_
        show Steps p.tables e below (T60.setTop (mkF m 77 #[.val (.ref r0), .val (.ref r1), .val (.int p2), .val (.int (Int32.ofNat g)), .val (.int (Int32.ofNat (4))), .val (.int (Int32.ofNat (4))), s643] [(.int (Int32.ofNat g)), (.ref b2), (.int (Int32.ofNat (if g < g then own_A kk 4 (g) else own_C kk 4 (g)))), (.int (Int32.ofNat g)), (.ref b2)])) _
        refine XS.iconst X60.here hx rfl (hb hby own_d2_77) ?_
        show Steps p.tables e below (T60.setTop (mkF m 78 #[.val (.ref r0), .val (.ref r1), .val (.int p2), .val (.int (Int32.ofNat g)), .val (.int (Int32.ofNat (4))), .val (.int (Int32.ofNat (4))), s643] [(.int (1 : Int32)), (.int (Int32.ofNat g)), (.ref b2), (.int (Int32.ofNat (if g < g then own_A kk 4 (g) else own_C kk 4 (g)))), (.int (Int32.ofNat g)), (.ref b2)])) _
        refine XS.isub X60.here hx rfl (hb hby own_d2_78) rfl ?_
        show Steps p.tables e below (T60.setTop (mkF m 79 #[.val (.ref r0), .val (.ref r1), .val (.int p2), .val (.int (Int32.ofNat g)), .val (.int (Int32.ofNat (4))), .val (.int (Int32.ofNat (4))), s643] [(.int ((Int32.ofNat g) - (1 : Int32))), (.ref b2), (.int (Int32.ofNat (if g < g then own_A kk 4 (g) else own_C kk 4 (g)))), (.int (Int32.ofNat g)), (.ref b2)])) _
        refine X60.iaload hx (j := ((Int32.ofNat g) - (1 : Int32))) (v := (.int (Int32.ofNat (if g - 1 < g then own_A kk 4 (g - 1) else own_C kk 4 (g - 1))))) (by rw [e60]; exact Ar61.1) (State.isArrayOf_alike hZ.alike Ar61.2.1) Ar61.2.2 hin61 hat61 (g := (mkF m 79 #[.val (.ref r0), .val (.ref r1), .val (.int p2), .val (.int (Int32.ofNat g)), .val (.int (Int32.ofNat (4))), .val (.int (Int32.ofNat (4))), s643] [(.int ((Int32.ofNat g) - (1 : Int32))), (.ref b2), (.int (Int32.ofNat (if g < g then own_A kk 4 (g) else own_C kk 4 (g)))), (.int (Int32.ofNat g)), (.ref b2)])) rfl rfl (hb hby own_d2_79) _ ?_
        show Steps p.tables e below (T60.setTop (mkF m 80 #[.val (.ref r0), .val (.ref r1), .val (.int p2), .val (.int (Int32.ofNat g)), .val (.int (Int32.ofNat (4))), .val (.int (Int32.ofNat (4))), s643] [(.int (Int32.ofNat (if g - 1 < g then own_A kk 4 (g - 1) else own_C kk 4 (g - 1)))), (.int (Int32.ofNat (if g < g then own_A kk 4 (g) else own_C kk 4 (g)))), (.int (Int32.ofNat g)), (.ref b2)])) _
        refine XS.iadd X60.here hx rfl (hb hby own_d2_80) rfl ?_
        show Steps p.tables e below (T60.setTop (mkF m 81 #[.val (.ref r0), .val (.ref r1), .val (.int p2), .val (.int (Int32.ofNat g)), .val (.int (Int32.ofNat (4))), .val (.int (Int32.ofNat (4))), s643] [(.int ((Int32.ofNat (if g < g then own_A kk 4 (g) else own_C kk 4 (g))) + (Int32.ofNat (if g - 1 < g then own_A kk 4 (g - 1) else own_C kk 4 (g - 1))))), (.int (Int32.ofNat g)), (.ref b2)])) _
        refine st62 _ ?_
        show Steps p.tables e below (T62.setTop (mkF m 82 #[.val (.ref r0), .val (.ref r1), .val (.int p2), .val (.int (Int32.ofNat g)), .val (.int (Int32.ofNat (4))), .val (.int (Int32.ofNat (4))), s643] [])) _
        refine XS.iinc X62.here hx rfl (hb hby own_d2_82) rfl (l' := #[.val (.ref r0), .val (.ref r1), .val (.int p2), .val (.int ((Int32.ofNat g) + (1 : Int32))), .val (.int (Int32.ofNat (4))), .val (.int (Int32.ofNat (4))), s643]) rfl ?_
        show Steps p.tables e below (T62.setTop (mkF m 85 #[.val (.ref r0), .val (.ref r1), .val (.int p2), .val (.int ((Int32.ofNat g) + (1 : Int32))), .val (.int (Int32.ofNat (4))), .val (.int (Int32.ofNat (4))), s643] [])) _
        refine XS.goto X62.here hx rfl (pc0 := 85) (pc' := 56) rfl (hb hby own_d2_85) (by decide) (by decide) ?_
        exact h
      have r71 : ((Int32.ofNat g) + (1 : Int32)) = (Int32.ofNat (g + 1)) := own_inc g
      have k72 : ∀ t, Steps p.tables e below (T62.setTop (mkF m 56 #[.val (.ref r0), .val (.ref r1), .val (.int p2), .val (.int (Int32.ofNat (g + 1))), .val (.int (Int32.ofNat (4))), .val (.int (Int32.ofNat (4))), s643] [])) t → Steps p.tables e below (T.setTop (mkF m 56 #[.val (.ref r0), .val (.ref r1), .val (.int p2), .val (.int (Int32.ofNat g)), .val (.int (Int32.ofNat (4))), .val (.int (Int32.ofNat (4))), s643] [])) t := by first | (rw [← r71]; exact k70) | exact k70
      obtain ⟨T73, h73, L73, X73, e73, N73, Z73, K73, f73_0, f73_1, f73_2, f73_3, f73_4, f73_5, k73⟩ := ih (g + 1) (by omega) (by omega) T62 _ _ X62 e62 N62 Z68 K69 (f63) (f64) (f65) (f66) (own_IA.congr V62 (fun j _ => own_P_step kk 4 g j hg1)) (f67)
      exact ⟨T73, h73, L73, X73, e73, N73, Z73, K73, f73_0, f73_1, f73_2, f73_3, f73_4, f73_5, fun t q => k72 t (k73 t q)⟩
  obtain ⟨T74, h74, L74, X74, e74, N74, Z74, K74, f74_0, f74_1, f74_2, f74_3, f74_4, f74_5, k74⟩ := lp48 (G + 1) 1 (by first | rfl | omega) (Nat.le_refl 1) T43 _ _ X43 e43 N43 Z43 K43 (f43_0) (f43_1) (f43_2) (f43_3) (own_IA.congr f43_4 (fun j _ => own_P_init kk 4 j)) (f43_5)
  have k75 : ∀ t, Steps p.tables e below (T74.setTop (mkF m 88 #[.val (.ref r0), .val (.ref r1), .val (.int p2), .val (.int (Int32.ofNat (G + 2))), .val (.int (Int32.ofNat (4))), .val (.int (Int32.ofNat (4))), s643] [])) t → Steps p.tables e below (s₁.setTop (mkF m 0 #[.val (.ref r0), .val (.ref r1), .val (.int p2), .unset, .unset, .unset, .unset] [])) t := fun t q => k47 t (k74 t q)
  have f76 := own_IA.congr (g := fun j => Int32.ofNat (own_A kk 4 j)) f74_4 (fun j hj => own_P_end kk 4 _ j hj)
  obtain ⟨cl77, Ar77, hl77⟩ := f74_3.len
  obtain ⟨T78, h78, X78, e78, E78, V78, A78, st78⟩ := own_newI X74 hx hZ (hw _ (List.mem_of_getElem? (i := 0) rfl)) e74 (g := (mkF m 91 #[.val (.ref r0), .val (.ref r1), .val (.int p2), .val (.int (Int32.ofNat (G + 2))), .val (.int (Int32.ofNat (4))), .val (.int (Int32.ofNat (4))), s643] [(.int (Int32.ofNat (4))), (.ref r0)])) rfl (hb hby own_d2_91) rfl (nn := 4) (cap := 4) rfl (by decide) (by decide) (by decide) (by decide)
  obtain ⟨b78, g78⟩ : ∃ z, z = h74.size := ⟨_, rfl⟩
  rw [← g78] at V78 A78 st78
  have ne_r0_b78 : r0 ≠ b78 := Nat.ne_of_lt (Nat.lt_of_lt_of_le f74_0.lt (Nat.le_of_eq g78.symm))
  have ne_r1_b78 : r1 ≠ b78 := Nat.ne_of_lt (Nat.lt_of_lt_of_le f74_3.lt (Nat.le_of_eq g78.symm))
  have ne_b2_b78 : b2 ≠ b78 := Nat.ne_of_lt (Nat.lt_of_lt_of_le f76.lt (Nat.le_of_eq g78.symm))
  have g_b78 : n0 ≤ b78 := Nat.le_trans Z74 (Nat.le_of_eq g78.symm)
  have sz_b78 : h0.size ≤ b78 := Nat.le_trans K74.1 (Nat.le_of_eq g78.symm)
  have f79 := f74_0.ext E78
  have f80 := f74_1.ext E78
  have f81 := f74_2.ext E78
  have f82 := f74_3.ext E78
  have f83 := f76.ext E78
  have f84 := f74_5.ext E78
  have Z85 : n0 ≤ h78.size := Nat.le_trans Z74 E78.1
  have K86 := K74.ext E78
  obtain ⟨T87, h87, X87, e87, W87, st87⟩ := putF X78 hx hZ hown (host := "") (Or.inl (hw _ (List.mem_of_getElem? (i := 17) rfl))) Via.refl e78 f81 f79 (Or.inr ⟨(hw _ (List.mem_of_getElem? (i := 18) rfl)), rfl, hnm⟩) (hw _ (List.mem_of_getElem? (i := 7) rfl)) (ty := (.array .int)) (by decide) rfl rfl (g := (mkF m 93 #[.val (.ref r0), .val (.ref r1), .val (.int p2), .val (.int (Int32.ofNat (G + 2))), .val (.int (Int32.ofNat (4))), .val (.int (Int32.ofNat (4))), s643] [(.ref b78), (.ref r0)])) rfl rfl (hb hby own_d2_93)
  have f88 := f81.same W87
  have f89 := f79.wr W87
  have f90 := f80.other W87 (Or.inr (slot_ne (Or.inr (hw _ (List.mem_of_getElem? (i := 16) rfl))) (Or.inr (hw _ (List.mem_of_getElem? (i := 18) rfl))) (by decide) (t := (.array .int)) (t' := (.array .int)) (by decide) (by decide)))
  have f91 := f82.other W87 (Ne.symm ne01)
  have f92 := f83.other W87 (Ne.symm ne_r0_b2)
  have f93 := f84.wr W87
  have f94 := V78.other W87 (Ne.symm ne_r0_b78)
  have f95 := A78.wr W87
  have Z96 : n0 ≤ h87.size := Nat.le_trans Z85 (Keep.of_wr W87).1
  have K97 := K86.wr W87 (Or.inl (List.mem_of_getElem? (i := 0) rfl))
  have N87 := Fr.snoc X87 N74 g_r0
  obtain ⟨T98, X98, e98, st98⟩ := getF X87 hx hZ hown (host := "") (Or.inl (hw _ (List.mem_of_getElem? (i := 15) rfl))) Via.refl e87 f90 (g := (mkF m 97 #[.val (.ref r0), .val (.ref r1), .val (.int p2), .val (.int (Int32.ofNat (G + 2))), .val (.int (Int32.ofNat (4))), .val (.int (Int32.ofNat (4))), s643] [(.ref r0)])) rfl rfl (hb hby own_d2_97)
  obtain ⟨T99, h99, X99, e99, E99, V99, A99, st99⟩ := own_cloneI X98 hx hZ hown (hw _ (List.mem_of_getElem? (i := 19) rfl)) (hw _ (List.mem_of_getElem? (i := 20) rfl)) (hw _ (List.mem_of_getElem? (i := 24) rfl)) (hw _ (List.mem_of_getElem? (i := 22) rfl)) (hw _ (List.mem_of_getElem? (i := 23) rfl)) (hw _ (List.mem_of_getElem? (i := 25) rfl)) e98 f92 f93 (g := (mkF m 100 #[.val (.ref r0), .val (.ref r1), .val (.int p2), .val (.int (Int32.ofNat (G + 2))), .val (.int (Int32.ofNat (4))), .val (.int (Int32.ofNat (4))), s643] [(.ref b2)])) rfl (by rw [hml]; rfl) rfl (hb hby own_d2_100) (by decide) (W := 0) (cap := 5) (by show 2 * 0 + _ ≤ _; exact Nat.le_of_eq rfl) (by decide) (by omega) (by decide) (by decide)
  obtain ⟨b99, g99⟩ : ∃ z, z = h87.size := ⟨_, rfl⟩
  rw [← g99] at V99 A99 st99
  have ne_r0_b99 : r0 ≠ b99 := Nat.ne_of_lt (Nat.lt_of_lt_of_le f89.lt (Nat.le_of_eq g99.symm))
  have ne_r1_b99 : r1 ≠ b99 := Nat.ne_of_lt (Nat.lt_of_lt_of_le f91.lt (Nat.le_of_eq g99.symm))
  have ne_b2_b99 : b2 ≠ b99 := Nat.ne_of_lt (Nat.lt_of_lt_of_le f92.lt (Nat.le_of_eq g99.symm))
  have ne_b78_b99 : b78 ≠ b99 := Nat.ne_of_lt (Nat.lt_of_lt_of_le f94.lt (Nat.le_of_eq g99.symm))
  have g_b99 : n0 ≤ b99 := Nat.le_trans Z96 (Nat.le_of_eq g99.symm)
  have sz_b99 : h0.size ≤ b99 := Nat.le_trans K97.1 (Nat.le_of_eq g99.symm)
  have f100 := f89.ext E99
  have f101 := f90.ext E99
  have f102 := f91.ext E99
  have f103 := f92.ext E99
  have f104 := f93.ext E99
  have f105 := f94.ext E99
  have f106 := f95.ext E99
  have f107 := f88.ext E99
  have Z108 : n0 ≤ h99.size := Nat.le_trans Z96 E99.1
  have K109 := K97.ext E99
  obtain ⟨T110, X110, e110, st110⟩ := castY X99 hx hZ hown (hw _ (List.mem_of_getElem? (i := 26) rfl)) e99 (Ins.self A99) (g := (mkF m 103 #[.val (.ref r0), .val (.ref r1), .val (.int p2), .val (.int (Int32.ofNat (G + 2))), .val (.int (Int32.ofNat (4))), .val (.int (Int32.ofNat (4))), s643] [(.ref b99)])) rfl rfl (hb hby own_d2_103)
  have k111 : ∀ t, Steps p.tables e below (T110.setTop (mkF m 110 #[.val (.ref r0), .val (.ref r1), .val (.int p2), .val (.ref b99), .val (.int (0 : Int32)), .val (.int (Int32.ofNat (4))), s643] [])) t → Steps p.tables e below (s₁.setTop (mkF m 0 #[.val (.ref r0), .val (.ref r1), .val (.int p2), .unset, .unset, .unset, .unset] [])) t := by
    intro t h
    refine k75 t ?_
    show Steps p.tables e below (T74.setTop (mkF m 88 #[.val (.ref r0), .val (.ref r1), .val (.int p2), .val (.int (Int32.ofNat (G + 2))), .val (.int (Int32.ofNat (4))), .val (.int (Int32.ofNat (4))), s643] [])) _
    refine XS.aloadN X74.here hx rfl (hb hby own_d2_88) rfl rfl ?_
    show Steps p.tables e below (T74.setTop (mkF m 89 #[.val (.ref r0), .val (.ref r1), .val (.int p2), .val (.int (Int32.ofNat (G + 2))), .val (.int (Int32.ofNat (4))), .val (.int (Int32.ofNat (4))), s643] [(.ref r0)])) _
    refine XS.aloadN X74.here hx rfl (hb hby own_d2_89) rfl rfl ?_
    show Steps p.tables e below (T74.setTop (mkF m 90 #[.val (.ref r0), .val (.ref r1), .val (.int p2), .val (.int (Int32.ofNat (G + 2))), .val (.int (Int32.ofNat (4))), .val (.int (Int32.ofNat (4))), s643] [(.ref r1), (.ref r0)])) _
    refine X74.arraylength hx (by rw [e74]; exact Ar77.1) (State.isArrayOf_alike hZ.alike Ar77.2.1) (g := (mkF m 90 #[.val (.ref r0), .val (.ref r1), .val (.int p2), .val (.int (Int32.ofNat (G + 2))), .val (.int (Int32.ofNat (4))), .val (.int (Int32.ofNat (4))), s643] [(.ref r1), (.ref r0)])) rfl rfl (hb hby own_d2_90) _ ?_
    rw [hl77]
    show Steps p.tables e below (T74.setTop (mkF m 91 #[.val (.ref r0), .val (.ref r1), .val (.int p2), .val (.int (Int32.ofNat (G + 2))), .val (.int (Int32.ofNat (4))), .val (.int (Int32.ofNat (4))), s643] [(.int (Int32.ofNat (4))), (.ref r0)])) _
    refine st78 _ ?_
    show Steps p.tables e below (T78.setTop (mkF m 93 #[.val (.ref r0), .val (.ref r1), .val (.int p2), .val (.int (Int32.ofNat (G + 2))), .val (.int (Int32.ofNat (4))), .val (.int (Int32.ofNat (4))), s643] [(.ref b78), (.ref r0)])) _
    refine st87 _ ?_
    show Steps p.tables e below (T87.setTop (mkF m 96 #[.val (.ref r0), .val (.ref r1), .val (.int p2), .val (.int (Int32.ofNat (G + 2))), .val (.int (Int32.ofNat (4))), .val (.int (Int32.ofNat (4))), s643] [])) _
    refine XS.aloadN X87.here hx rfl (hb hby own_d2_96) rfl rfl ?_
    show Steps p.tables e below (T87.setTop (mkF m 97 #[.val (.ref r0), .val (.ref r1), .val (.int p2), .val (.int (Int32.ofNat (G + 2))), .val (.int (Int32.ofNat (4))), .val (.int (Int32.ofNat (4))), s643] [(.ref r0)])) _
    refine st98 _ ?_
    show Steps p.tables e below (T98.setTop (mkF m 100 #[.val (.ref r0), .val (.ref r1), .val (.int p2), .val (.int (Int32.ofNat (G + 2))), .val (.int (Int32.ofNat (4))), .val (.int (Int32.ofNat (4))), s643] [(.ref b2)])) _
    refine st99 _ ?_
    show Steps p.tables e below (T99.setTop (mkF m 103 #[.val (.ref r0), .val (.ref r1), .val (.int p2), .val (.int (Int32.ofNat (G + 2))), .val (.int (Int32.ofNat (4))), .val (.int (Int32.ofNat (4))), s643] [(.ref b99)])) _
    refine st110 _ ?_
    show Steps p.tables e below (T110.setTop (mkF m 106 #[.val (.ref r0), .val (.ref r1), .val (.int p2), .val (.int (Int32.ofNat (G + 2))), .val (.int (Int32.ofNat (4))), .val (.int (Int32.ofNat (4))), s643] [(.ref b99)])) _
    refine XS.astoreN X110.here hx rfl (hb hby own_d2_106) rfl rfl (l' := #[.val (.ref r0), .val (.ref r1), .val (.int p2), .val (.ref b99), .val (.int (Int32.ofNat (4))), .val (.int (Int32.ofNat (4))), s643]) rfl ?_
    show Steps p.tables e below (T110.setTop (mkF m 107 #[.val (.ref r0), .val (.ref r1), .val (.int p2), .val (.ref b99), .val (.int (Int32.ofNat (4))), .val (.int (Int32.ofNat (4))), s643] [])) _
    refine XS.iconst X110.here hx rfl (hb hby own_d2_107) ?_
    show Steps p.tables e below (T110.setTop (mkF m 108 #[.val (.ref r0), .val (.ref r1), .val (.int p2), .val (.ref b99), .val (.int (Int32.ofNat (4))), .val (.int (Int32.ofNat (4))), s643] [(.int (0 : Int32))])) _
    refine XS.istore X110.here hx rfl (hb hby own_d2_108) rfl (l' := #[.val (.ref r0), .val (.ref r1), .val (.int p2), .val (.ref b99), .val (.int (0 : Int32)), .val (.int (Int32.ofNat (4))), s643]) rfl ?_
    exact h
  have r112 : (0 : Int32) = (Int32.ofNat 0) := rfl
  have k113 : ∀ t, Steps p.tables e below (T110.setTop (mkF m 110 #[.val (.ref r0), .val (.ref r1), .val (.int p2), .val (.ref b99), .val (.int (Int32.ofNat 0)), .val (.int (Int32.ofNat (4))), s643] [])) t → Steps p.tables e below (s₁.setTop (mkF m 0 #[.val (.ref r0), .val (.ref r1), .val (.int p2), .unset, .unset, .unset, .unset] [])) t := by first | (rw [← r112]; exact k111) | exact k111
  have lp114 : ∀ (d : Nat) (u : Nat), u + d = 4 → ∀ (T : State) (h : Heap) (L : List Loc), Stand p l e ({ frames := 1, cells := 3, slots := 14, locals := 14 } : Room) s m #[(.ref r0), (.ref r1), (.int p2)] below meth c T L 3 14 → T.heap = h → Fr n0 L → n0 ≤ h.size → Keep h0 h [r0] → Exa Z h r0 "com/example/planwright/planwright/io/Grouping" → Fld Z h r0 "com/example/planwright/planwright/io/Grouping" "starts" "[I" (.ref b2) → Fld Z h r0 "com/example/planwright/planwright/io/Grouping" "members" "[I" (.ref b78) → own_IA Z h r1 (4) (fun j => Int32.ofNat (kk j) - 1) → own_IA Z h b2 ((G + 2)) (fun j => Int32.ofNat (own_A kk 4 j)) → own_IA Z h b78 (4) (fun j => Int32.ofNat (own_M kk 4 u j)) → own_IA Z h b99 ((G + 2)) (fun j => Int32.ofNat (own_A kk 4 j + own_B kk u j)) → ∃ (T' : State) (h' : Heap) (L' : List Loc), Stand p l e ({ frames := 1, cells := 3, slots := 14, locals := 14 } : Room) s m #[(.ref r0), (.ref r1), (.int p2)] below meth c T' L' 3 14 ∧ T'.heap = h' ∧ Fr n0 L' ∧ n0 ≤ h'.size ∧ Keep h0 h' [r0] ∧ Exa Z h' r0 "com/example/planwright/planwright/io/Grouping" ∧ Fld Z h' r0 "com/example/planwright/planwright/io/Grouping" "starts" "[I" (.ref b2) ∧ Fld Z h' r0 "com/example/planwright/planwright/io/Grouping" "members" "[I" (.ref b78) ∧ own_IA Z h' r1 (4) (fun j => Int32.ofNat (kk j) - 1) ∧ own_IA Z h' b2 ((G + 2)) (fun j => Int32.ofNat (own_A kk 4 j)) ∧ own_IA Z h' b78 (4) (fun j => Int32.ofNat (own_M kk 4 (4) j)) ∧ own_IA Z h' b99 ((G + 2)) (fun j => Int32.ofNat (own_A kk 4 j + own_B kk (4) j)) ∧ ∀ t, Steps p.tables e below (T'.setTop (mkF m 143 #[.val (.ref r0), .val (.ref r1), .val (.int p2), .val (.ref b99), .val (.int (Int32.ofNat (4))), .val (.int (Int32.ofNat (4))), s643] [])) t → Steps p.tables e below (T.setTop (mkF m 110 #[.val (.ref r0), .val (.ref r1), .val (.int p2), .val (.ref b99), .val (.int (Int32.ofNat u)), .val (.int (Int32.ofNat (4))), s643] [])) t := by
    intro d
    induction d with
    | zero =>
      intro u hd  T h L X hE hN hZZ hK hf0 hf1 hf2 hf3 hf4 hf5 hf6
      have hi : u = 4 := by omega
      subst hi
      obtain ⟨cl115, Ar115, hl115⟩ := hf3.len
      have k116 : ∀ t, Steps p.tables e below (T.setTop (mkF m 114 #[.val (.ref r0), .val (.ref r1), .val (.int p2), .val (.ref b99), .val (.int (Int32.ofNat (4))), .val (.int (Int32.ofNat (4))), s643] [(.int (Int32.ofNat (4))), (.int (Int32.ofNat (4)))])) t → Steps p.tables e below (T.setTop (mkF m 110 #[.val (.ref r0), .val (.ref r1), .val (.int p2), .val (.ref b99), .val (.int (Int32.ofNat (4))), .val (.int (Int32.ofNat (4))), s643] [])) t := by
        intro t h
        show Steps p.tables e below (T.setTop (mkF m 110 #[.val (.ref r0), .val (.ref r1), .val (.int p2), .val (.ref b99), .val (.int (Int32.ofNat (4))), .val (.int (Int32.ofNat (4))), s643] [])) _
        refine XS.iload X.here hx rfl (hb hby own_d2_110) rfl ?_
        show Steps p.tables e below (T.setTop (mkF m 112 #[.val (.ref r0), .val (.ref r1), .val (.int p2), .val (.ref b99), .val (.int (Int32.ofNat (4))), .val (.int (Int32.ofNat (4))), s643] [(.int (Int32.ofNat (4)))])) _
        refine XS.aloadN X.here hx rfl (hb hby own_d2_112) rfl rfl ?_
        show Steps p.tables e below (T.setTop (mkF m 113 #[.val (.ref r0), .val (.ref r1), .val (.int p2), .val (.ref b99), .val (.int (Int32.ofNat (4))), .val (.int (Int32.ofNat (4))), s643] [(.ref r1), (.int (Int32.ofNat (4)))])) _
        refine X.arraylength hx (by rw [hE]; exact Ar115.1) (State.isArrayOf_alike hZ.alike Ar115.2.1) (g := (mkF m 113 #[.val (.ref r0), .val (.ref r1), .val (.int p2), .val (.ref b99), .val (.int (Int32.ofNat (4))), .val (.int (Int32.ofNat (4))), s643] [(.ref r1), (.int (Int32.ofNat (4)))])) rfl rfl (hb hby own_d2_113) _ ?_
        rw [hl115]
        exact h
      have b114_117 : ¬ ((Int32.ofNat (4)) < (Int32.ofNat (4))) := own_nlt (by omega) (by decide)
      have k118 : ∀ t, Steps p.tables e below (T.setTop (mkF m 143 #[.val (.ref r0), .val (.ref r1), .val (.int p2), .val (.ref b99), .val (.int (Int32.ofNat (4))), .val (.int (Int32.ofNat (4))), s643] [])) t → Steps p.tables e below (T.setTop (mkF m 110 #[.val (.ref r0), .val (.ref r1), .val (.int p2), .val (.ref b99), .val (.int (Int32.ofNat (4))), .val (.int (Int32.ofNat (4))), s643] [])) t := by
        intro t h
        refine k116 t ?_
        show Steps p.tables e below (T.setTop (mkF m 114 #[.val (.ref r0), .val (.ref r1), .val (.int p2), .val (.ref b99), .val (.int (Int32.ofNat (4))), .val (.int (Int32.ofNat (4))), s643] [(.int (Int32.ofNat (4))), (.int (Int32.ofNat (4)))])) _
        refine XS.icmpYes X.here hx rfl (pc0 := 114) (pc' := 143) rfl (hb hby own_d2_114) rfl (flt b114_117).2.1 (by decide) (by decide) ?_
        exact h
      exact ⟨T, _, _, X, hE, hN, hZZ, hK, hf0, hf1, hf2, hf3, hf4, hf5, hf6, k118⟩
    | succ d ih =>
      intro u hd  T h L X hE hN hZZ hK hf0 hf1 hf2 hf3 hf4 hf5 hf6
      obtain ⟨cl119, Ar119, hl119⟩ := hf3.len
      have k120 : ∀ t, Steps p.tables e below (T.setTop (mkF m 114 #[.val (.ref r0), .val (.ref r1), .val (.int p2), .val (.ref b99), .val (.int (Int32.ofNat u)), .val (.int (Int32.ofNat (4))), s643] [(.int (Int32.ofNat (4))), (.int (Int32.ofNat u))])) t → Steps p.tables e below (T.setTop (mkF m 110 #[.val (.ref r0), .val (.ref r1), .val (.int p2), .val (.ref b99), .val (.int (Int32.ofNat u)), .val (.int (Int32.ofNat (4))), s643] [])) t := by
        intro t h
        show Steps p.tables e below (T.setTop (mkF m 110 #[.val (.ref r0), .val (.ref r1), .val (.int p2), .val (.ref b99), .val (.int (Int32.ofNat u)), .val (.int (Int32.ofNat (4))), s643] [])) _
        refine XS.iload X.here hx rfl (hb hby own_d2_110) rfl ?_
        show Steps p.tables e below (T.setTop (mkF m 112 #[.val (.ref r0), .val (.ref r1), .val (.int p2), .val (.ref b99), .val (.int (Int32.ofNat u)), .val (.int (Int32.ofNat (4))), s643] [(.int (Int32.ofNat u))])) _
        refine XS.aloadN X.here hx rfl (hb hby own_d2_112) rfl rfl ?_
        show Steps p.tables e below (T.setTop (mkF m 113 #[.val (.ref r0), .val (.ref r1), .val (.int p2), .val (.ref b99), .val (.int (Int32.ofNat u)), .val (.int (Int32.ofNat (4))), s643] [(.ref r1), (.int (Int32.ofNat u))])) _
        refine X.arraylength hx (by rw [hE]; exact Ar119.1) (State.isArrayOf_alike hZ.alike Ar119.2.1) (g := (mkF m 113 #[.val (.ref r0), .val (.ref r1), .val (.int p2), .val (.ref b99), .val (.int (Int32.ofNat u)), .val (.int (Int32.ofNat (4))), s643] [(.ref r1), (.int (Int32.ofNat u))])) rfl rfl (hb hby own_d2_113) _ ?_
        rw [hl119]
        exact h
      have b114_121 : (Int32.ofNat u) < (Int32.ofNat (4)) := own_lt (by omega) (by decide)
      obtain ⟨T122, X122, e122, st122⟩ := getF X hx hZ hown (host := "") (Or.inl (hw _ (List.mem_of_getElem? (i := 17) rfl))) Via.refl hE hf2 (g := (mkF m 118 #[.val (.ref r0), .val (.ref r1), .val (.int p2), .val (.ref b99), .val (.int (Int32.ofNat u)), .val (.int (Int32.ofNat (4))), s643] [(.ref r0)])) rfl rfl (hb hby own_d2_118)
      obtain ⟨cl123, Ar123, hin123, hat123⟩ := own_IA.at (i := u) (j := (Int32.ofNat u)) hf3 rfl (by omega) (by decide)
      have k124 : ∀ t, Steps p.tables e below (T122.setTop (mkF m 128 #[.val (.ref r0), .val (.ref r1), .val (.int p2), .val (.ref b99), .val (.int (Int32.ofNat u)), .val (.int (Int32.ofNat (4))), s643] [(.int ((Int32.ofNat (kk u) - 1) + (1 : Int32))), (.ref b99), (.ref b78)])) t → Steps p.tables e below (T.setTop (mkF m 110 #[.val (.ref r0), .val (.ref r1), .val (.int p2), .val (.ref b99), .val (.int (Int32.ofNat u)), .val (.int (Int32.ofNat (4))), s643] [])) t := by
        intro t h
        refine k120 t ?_
        show Steps p.tables e below (T.setTop (mkF m 114 #[.val (.ref r0), .val (.ref r1), .val (.int p2), .val (.ref b99), .val (.int (Int32.ofNat u)), .val (.int (Int32.ofNat (4))), s643] [(.int (Int32.ofNat (4))), (.int (Int32.ofNat u))])) _
        refine XS.icmpNo X.here hx rfl (hb hby own_d2_114) rfl (tlt b114_121).2.1 ?_
        show Steps p.tables e below (T.setTop (mkF m 117 #[.val (.ref r0), .val (.ref r1), .val (.int p2), .val (.ref b99), .val (.int (Int32.ofNat u)), .val (.int (Int32.ofNat (4))), s643] [])) _
        refine XS.aloadN X.here hx rfl (hb hby own_d2_117) rfl rfl ?_
        show Steps p.tables e below (T.setTop (mkF m 118 #[.val (.ref r0), .val (.ref r1), .val (.int p2), .val (.ref b99), .val (.int (Int32.ofNat u)), .val (.int (Int32.ofNat (4))), s643] [(.ref r0)])) _
        refine st122 _ ?_
        show Steps p.tables e below (T122.setTop (mkF m 121 #[.val (.ref r0), .val (.ref r1), .val (.int p2), .val (.ref b99), .val (.int (Int32.ofNat u)), .val (.int (Int32.ofNat (4))), s643] [(.ref b78)])) _
        refine XS.aloadN X122.here hx rfl (hb hby own_d2_121) rfl rfl ?_
        show Steps p.tables e below (T122.setTop (mkF m 122 #[.val (.ref r0), .val (.ref r1), .val (.int p2), .val (.ref b99), .val (.int (Int32.ofNat u)), .val (.int (Int32.ofNat (4))), s643] [(.ref b99), (.ref b78)])) _
        refine XS.aloadN X122.here hx rfl (hb hby own_d2_122) rfl rfl ?_
        show Steps p.tables e below (T122.setTop (mkF m 123 #[.val (.ref r0), .val (.ref r1), .val (.int p2), .val (.ref b99), .val (.int (Int32.ofNat u)), .val (.int (Int32.ofNat (4))), s643] [(.ref r1), (.ref b99), (.ref b78)])) _
        refine XS.iload X122.here hx rfl (hb hby own_d2_123) rfl ?_
        show Steps p.tables e below (T122.setTop (mkF m 125 #[.val (.ref r0), .val (.ref r1), .val (.int p2), .val (.ref b99), .val (.int (Int32.ofNat u)), .val (.int (Int32.ofNat (4))), s643] [(.int (Int32.ofNat u)), (.ref r1), (.ref b99), (.ref b78)])) _
        refine X122.iaload hx (j := (Int32.ofNat u)) (v := (.int (Int32.ofNat (kk u) - 1))) (by rw [e122]; exact Ar123.1) (State.isArrayOf_alike hZ.alike Ar123.2.1) Ar123.2.2 hin123 hat123 (g := (mkF m 125 #[.val (.ref r0), .val (.ref r1), .val (.int p2), .val (.ref b99), .val (.int (Int32.ofNat u)), .val (.int (Int32.ofNat (4))), s643] [(.int (Int32.ofNat u)), (.ref r1), (.ref b99), (.ref b78)])) rfl rfl (hb hby own_d2_125) _ ?_
        show Steps p.tables e below (T122.setTop (mkF m 126 #[.val (.ref r0), .val (.ref r1), .val (.int p2), .val (.ref b99), .val (.int (Int32.ofNat u)), .val (.int (Int32.ofNat (4))), s643] [(.int (Int32.ofNat (kk u) - 1)), (.ref b99), (.ref b78)])) _
        refine XS.iconst X122.here hx rfl (hb hby own_d2_126) ?_
        show Steps p.tables e below (T122.setTop (mkF m 127 #[.val (.ref r0), .val (.ref r1), .val (.int p2), .val (.ref b99), .val (.int (Int32.ofNat u)), .val (.int (Int32.ofNat (4))), s643] [(.int (1 : Int32)), (.int (Int32.ofNat (kk u) - 1)), (.ref b99), (.ref b78)])) _
        refine XS.iadd X122.here hx rfl (hb hby own_d2_127) rfl ?_
        exact h
      have r125 : ((Int32.ofNat (kk u) - 1) + (1 : Int32)) = (Int32.ofNat (kk u)) := own_km1 _
      have k126 : ∀ t, Steps p.tables e below (T122.setTop (mkF m 128 #[.val (.ref r0), .val (.ref r1), .val (.int p2), .val (.ref b99), .val (.int (Int32.ofNat u)), .val (.int (Int32.ofNat (4))), s643] [(.int (Int32.ofNat (kk u))), (.ref b99), (.ref b78)])) t → Steps p.tables e below (T.setTop (mkF m 110 #[.val (.ref r0), .val (.ref r1), .val (.int p2), .val (.ref b99), .val (.int (Int32.ofNat u)), .val (.int (Int32.ofNat (4))), s643] [])) t := by first | (rw [← r125]; exact k124) | exact k124
      obtain ⟨cl127, Ar127, hin127, hat127⟩ := own_IA.at (i := (kk u)) (j := (Int32.ofNat (kk u))) hf6 rfl (by have := hk u (by omega); omega) (by omega)
      obtain ⟨cl128, Ar128, hin128, hat128⟩ := own_IA.at (i := (kk u)) (j := (Int32.ofNat (kk u))) hf6 rfl (by have := hk u (by omega); omega) (by omega)
      obtain ⟨T128, h128, X128, e128, W128, st128⟩ := stI X122 hx hZ e122 Ar128 (j := (Int32.ofNat (kk u))) hin128 (g := (mkF m 133 #[.val (.ref r0), .val (.ref r1), .val (.int p2), .val (.ref b99), .val (.int (Int32.ofNat u)), .val (.int (Int32.ofNat (4))), s643] [(.int ((Int32.ofNat (own_A kk 4 (kk u) + own_B kk u (kk u))) + (1 : Int32))), (.int (Int32.ofNat (kk u))), (.ref b99), (.int (Int32.ofNat (own_A kk 4 (kk u) + own_B kk u (kk u)))), (.ref b78)])) rfl rfl (hb hby own_d2_133)
      have V128 := own_IA.set hf6 W128 rfl (by have := hk u (by omega); omega) (by omega)
      have f129 := hf0.wr W128
      have f130 := hf1.other W128 (Or.inl ne_r0_b99)
      have f131 := hf2.other W128 (Or.inl ne_r0_b99)
      have f132 := hf3.other W128 ne_r1_b99
      have f133 := hf4.other W128 ne_b2_b99
      have f134 := hf5.other W128 ne_b78_b99
      have Z135 : n0 ≤ h128.size := Nat.le_trans hZZ (Keep.of_wr W128).1
      have K136 := hK.wr W128 (Or.inr sz_b99)
      have N128 := Fr.snoc X128 hN g_b99
      obtain ⟨cl137, Ar137, hin137, hat137⟩ := own_IA.at (i := (own_A kk 4 (kk u) + own_B kk u (kk u))) (j := (Int32.ofNat (own_A kk 4 (kk u) + own_B kk u (kk u)))) f134 rfl (own_pos_lt kk (by omega)) (by decide)
      obtain ⟨T137, h137, X137, e137, W137, st137⟩ := stI X128 hx hZ e128 Ar137 (j := (Int32.ofNat (own_A kk 4 (kk u) + own_B kk u (kk u)))) hin137 (g := (mkF m 136 #[.val (.ref r0), .val (.ref r1), .val (.int p2), .val (.ref b99), .val (.int (Int32.ofNat u)), .val (.int (Int32.ofNat (4))), s643] [(.int (Int32.ofNat u)), (.int (Int32.ofNat (own_A kk 4 (kk u) + own_B kk u (kk u)))), (.ref b78)])) rfl rfl (hb hby own_d2_136)
      have V137 := own_IA.set f134 W137 rfl (own_pos_lt kk (by omega)) (by decide)
      have f138 := f129.wr W137
      have f139 := f130.other W137 (Or.inl ne_r0_b78)
      have f140 := f131.other W137 (Or.inl ne_r0_b78)
      have f141 := f132.other W137 ne_r1_b78
      have f142 := f133.other W137 ne_b2_b78
      have f143 := V128.other W137 (Ne.symm ne_b78_b99)
      have Z144 : n0 ≤ h137.size := Nat.le_trans Z135 (Keep.of_wr W137).1
      have K145 := K136.wr W137 (Or.inr sz_b78)
      have N137 := Fr.snoc X137 N128 g_b78
      have k146 : ∀ t, Steps p.tables e below (T137.setTop (mkF m 110 #[.val (.ref r0), .val (.ref r1), .val (.int p2), .val (.ref b99), .val (.int ((Int32.ofNat u) + (1 : Int32))), .val (.int (Int32.ofNat (4))), s643] [])) t → Steps p.tables e below (T.setTop (mkF m 110 #[.val (.ref r0), .val (.ref r1), .val (.int p2), .val (.ref b99), .val (.int (Int32.ofNat u)), .val (.int (Int32.ofNat (4))), s643] [])) t := by
        intro t h
        refine k126 t ?_
        show Steps p.tables e below (T122.setTop (mkF m 128 #[.val (.ref r0), .val (.ref r1), .val (.int p2), .val (.ref b99), .val (.int (Int32.ofNat u)), .val (.int (Int32.ofNat (4))), s643] [(.int (Int32.ofNat (kk u))), (.ref b99), (.ref b78)])) _
        refine XT.dup2 X122.here hx rfl (hb hby own_d2_128) rfl rfl rfl ?_
        show Steps p.tables e below (T122.setTop (mkF m 129 #[.val (.ref r0), .val (.ref r1), .val (.int p2), .val (.ref b99), .val (.int (Int32.ofNat u)), .val (.int (Int32.ofNat (4))), s643] [(.int (Int32.ofNat (kk u))), (.ref b99), (.int (Int32.ofNat (kk u))), (.ref b99), (.ref b78)])) _
        refine X122.iaload hx (j := (Int32.ofNat (kk u))) (v := (.int (Int32.ofNat (own_A kk 4 (kk u) + own_B kk u (kk u))))) (by rw [e122]; exact Ar127.1) (State.isArrayOf_alike hZ.alike Ar127.2.1) Ar127.2.2 hin127 hat127 (g := (mkF m 129 #[.val (.ref r0), .val (.ref r1), .val (.int p2), .val (.ref b99), .val (.int (Int32.ofNat u)), .val (.int (Int32.ofNat (4))), s643] [(.int (Int32.ofNat (kk u))), (.ref b99), (.int (Int32.ofNat (kk u))), (.ref b99), (.ref b78)])) rfl rfl (hb hby own_d2_129) _ ?_
        show Steps p.tables e below (T122.setTop (mkF m 130 #[.val (.ref r0), .val (.ref r1), .val (.int p2), .val (.ref b99), .val (.int (Int32.ofNat u)), .val (.int (Int32.ofNat (4))), s643] [(.int (Int32.ofNat (own_A kk 4 (kk u) + own_B kk u (kk u)))), (.int (Int32.ofNat (kk u))), (.ref b99), (.ref b78)])) _
        refine own_dupX2 X122 hx (hb hby own_d2_130) rfl rfl rfl ?_
        show Steps p.tables e below (T122.setTop (mkF m 131 #[.val (.ref r0), .val (.ref r1), .val (.int p2), .val (.ref b99), .val (.int (Int32.ofNat u)), .val (.int (Int32.ofNat (4))), s643] [(.int (Int32.ofNat (own_A kk 4 (kk u) + own_B kk u (kk u)))), (.int (Int32.ofNat (kk u))), (.ref b99), (.int (Int32.ofNat (own_A kk 4 (kk u) + own_B kk u (kk u)))), (.ref b78)])) _
        refine XS.iconst X122.here hx rfl (hb hby own_d2_131) ?_
        show Steps p.tables e below (T122.setTop (mkF m 132 #[.val (.ref r0), .val (.ref r1), .val (.int p2), .val (.ref b99), .val (.int (Int32.ofNat u)), .val (.int (Int32.ofNat (4))), s643] [(.int (1 : Int32)), (.int (Int32.ofNat (own_A kk 4 (kk u) + own_B kk u (kk u)))), (.int (Int32.ofNat (kk u))), (.ref b99), (.int (Int32.ofNat (own_A kk 4 (kk u) + own_B kk u (kk u)))), (.ref b78)])) _
        refine XS.iadd X122.here hx rfl (hb hby own_d2_132) rfl ?_
        show Steps p.tables e below (T122.setTop (mkF m 133 #[.val (.ref r0), .val (.ref r1), .val (.int p2), .val (.ref b99), .val (.int (Int32.ofNat u)), .val (.int (Int32.ofNat (4))), s643] [(.int ((Int32.ofNat (own_A kk 4 (kk u) + own_B kk u (kk u))) + (1 : Int32))), (.int (Int32.ofNat (kk u))), (.ref b99), (.int (Int32.ofNat (own_A kk 4 (kk u) + own_B kk u (kk u)))), (.ref b78)])) _
        refine st128 _ ?_
        show Steps p.tables e below (T128.setTop (mkF m 134 #[.val (.ref r0), .val (.ref r1), .val (.int p2), .val (.ref b99), .val (.int (Int32.ofNat u)), .val (.int (Int32.ofNat (4))), s643] [(.int (Int32.ofNat (own_A kk 4 (kk u) + own_B kk u (kk u)))), (.ref b78)])) _
        refine XS.iload X128.here hx rfl (hb hby own_d2_134) rfl ?_
        show Steps p.tables e below (T128.setTop (mkF m 136 #[.val (.ref r0), .val (.ref r1), .val (.int p2), .val (.ref b99), .val (.int (Int32.ofNat u)), .val (.int (Int32.ofNat (4))), s643] [(.int (Int32.ofNat u)), (.int (Int32.ofNat (own_A kk 4 (kk u) + own_B kk u (kk u)))), (.ref b78)])) _
        refine st137 _ ?_
        show Steps p.tables e below (T137.setTop (mkF m 137 #[.val (.ref r0), .val (.ref r1), .val (.int p2), .val (.ref b99), .val (.int (Int32.ofNat u)), .val (.int (Int32.ofNat (4))), s643] [])) _
        refine XS.iinc X137.here hx rfl (hb hby own_d2_137) rfl (l' := #[.val (.ref r0), .val (.ref r1), .val (.int p2), .val (.ref b99), .val (.int ((Int32.ofNat u) + (1 : Int32))), .val (.int (Int32.ofNat (4))), s643]) rfl ?_
        show Steps p.tables e below (T137.setTop (mkF m 140 #[.val (.ref r0), .val (.ref r1), .val (.int p2), .val (.ref b99), .val (.int ((Int32.ofNat u) + (1 : Int32))), .val (.int (Int32.ofNat (4))), s643] [])) _
        refine XS.goto X137.here hx rfl (pc0 := 140) (pc' := 110) rfl (hb hby own_d2_140) (by decide) (by decide) ?_
        exact h
      have r147 : ((Int32.ofNat u) + (1 : Int32)) = (Int32.ofNat (u + 1)) := own_inc u
      have k148 : ∀ t, Steps p.tables e below (T137.setTop (mkF m 110 #[.val (.ref r0), .val (.ref r1), .val (.int p2), .val (.ref b99), .val (.int (Int32.ofNat (u + 1))), .val (.int (Int32.ofNat (4))), s643] [])) t → Steps p.tables e below (T.setTop (mkF m 110 #[.val (.ref r0), .val (.ref r1), .val (.int p2), .val (.ref b99), .val (.int (Int32.ofNat u)), .val (.int (Int32.ofNat (4))), s643] [])) t := by first | (rw [← r147]; exact k146) | exact k146
      obtain ⟨T149, h149, L149, X149, e149, N149, Z149, K149, f149_0, f149_1, f149_2, f149_3, f149_4, f149_5, f149_6, k149⟩ := ih (u + 1) (by omega)  T137 _ _ X137 e137 N137 Z144 K145 (f138) (f139) (f140) (f141) (f142) (own_IA.congr V137 (fun j _ => own_M_step kk 4 u j)) (own_IA.congr f143 (fun j _ => own_F_step kk 4 u j))
      exact ⟨T149, h149, L149, X149, e149, N149, Z149, K149, f149_0, f149_1, f149_2, f149_3, f149_4, f149_5, f149_6, fun t q => k148 t (k149 t q)⟩
  obtain ⟨T150, h150, L150, X150, e150, N150, Z150, K150, f150_0, f150_1, f150_2, f150_3, f150_4, f150_5, f150_6, k150⟩ := lp114 (4) 0 (by first | rfl | omega)  T110 _ _ X110 e110 N87 Z108 K109 (f100) (f101) (f107) (f102) (f103) (own_IA.congr f105 (fun _ _ => rfl)) (own_IA.congr V99 (fun _ _ => rfl))
  have k151 : ∀ t, Steps p.tables e below (T150.setTop (mkF m 143 #[.val (.ref r0), .val (.ref r1), .val (.int p2), .val (.ref b99), .val (.int (Int32.ofNat (4))), .val (.int (Int32.ofNat (4))), s643] [])) t → Steps p.tables e below (s₁.setTop (mkF m 0 #[.val (.ref r0), .val (.ref r1), .val (.int p2), .unset, .unset, .unset, .unset] [])) t := fun t q => k113 t (k150 t q)
  obtain ⟨fs, hr, hrun, hended, hW, hsame⟩ := X150.leave (v := none) (fun _ => rfl) Bd.notSynchronized
  refine ⟨_, _, pre0 _ (k151 _ ?_), hrun, hended, _, _, rfl, ?_, ⟨_, rfl⟩, hW, hsame.mono (by decide) (by decide)⟩
  · exact X150.returnOut hx Bd.returns (hb hby own_d2_143) hr
  · show Q_rmI Z _ _ _ _ _ h0 n0 _ T150.heap _
    rw [e150]
    exact ⟨rfl, N150, K150, b2, b78, f150_1, f150_4, f150_2, f150_5⟩
def Q_rmK (Z : State) (p0 : Int32) (p1 : Int32) (G : Nat) (h0 : Heap) (n0 : Nat) (v : Option Value) (h : Heap) (L : List Loc) : Prop := ∃ n : Nat, n < G + 1 ∧ v = some (.int (Int32.ofNat n - 1)) ∧ Fr n0 L ∧ h = h0
set_option maxRecDepth 65536 in
set_option maxHeartbeats 40000000 in
theorem rmK (l : Launch) (Z : State) (a0 : Array Value) (hw : ∀ d ∈ tables_1, d.before a0 Z = true) (ws : List Jvm.Cond) (p0 : Int32) (p1 : Int32) (G : Nat) (h0 : Heap) (n0 : Nat) (Z0 : n0 ≤ h0.size) (hm : p1 = Int32.ofNat G) (hM2 : G < 999) :
    MetFree l (⟨"com/example/planwright/planwright/io/GroupingMemberPinLaw", "keyOf", "(II)I"⟩ : MethodName) (head1 (Jvm.Cond.code (⟨"com/example/planwright/planwright/io/GroupingMemberPinLaw", "keyOf", "(II)I"⟩ : MethodName) method_2_code 2 (some .int) :: ws) ({ frames := 0, cells := 0, slots := 0, locals := 0 } : Room)) (fun a U => a = #[(.int p0), (.int p1)] ∧ Z.Warmed39 U.vm ∧ U.heap = h0) (fun _ _ _ _ _ => True) (fun _ U o U' => ∃ v L, o = .returned v ∧ Q_rmK Z p0 p1 G h0 n0 v U'.heap L ∧ FrameEnd U o U' L ({ frames := 0, cells := 0, slots := 0, locals := 0 } : Room).cells ({ frames := 0, cells := 0, slots := 0, locals := 0 } : Room).slots) := by
  refine MetFree.of_bodySF (plainFor_of_name own_pn_1) hisR ?_
  intro p e s m args below meth c s₁ Bd hml0 hP hK
  obtain ⟨rfl, hZ, hh⟩ := hP
  have hx := Bd.exec
  have hby := Bd.bytes
  have hml : c.maxLocals = 2 := hml0
  have hown : s.vm.findClass "com/example/planwright/planwright/io/GroupingMemberPinLaw" = some m.cls := findClass_of_methodNamed Bd.named
  have hnm := (name_of_methodNamed Bd.named Bd.method).1
  have X0 : Stand p l e ({ frames := 0, cells := 0, slots := 0, locals := 0 } : Room) s m #[(.int p0), (.int p1)] below meth c s₁ [] 0 0 := Stand.of_body Bd
  have e0 : s₁.heap = h0 := by rw [← hh, Bd.state]; rfl
  have N0 := Fr.nil n0
  have K0 : Keep h0 h0 [] := Keep.refl h0 _
  have pre0 : ∀ t, Steps p.tables e below (s₁.setTop (mkF m 0 #[.val (.int p0), .val (.int p1)] [])) t → Steps p.tables e below (s₁.setTop (entryFrame m #[(.int p0), (.int p1)] 2)) t := fun t k => castTop (own_ef_1 m p0 p1) k
  have k152 : ∀ t, Steps p.tables e below (s₁.setTop (mkF m 10 #[.val (.int p0), .val (.int p1)] [(.int (((p0 &&& (2147483647 : Int32)) % (p1 + (1 : Int32))) - (1 : Int32)))])) t → Steps p.tables e below (s₁.setTop (mkF m 0 #[.val (.int p0), .val (.int p1)] [])) t := by
    intro t h
    show Steps p.tables e below (s₁.setTop (mkF m 0 #[.val (.int p0), .val (.int p1)] [])) _
    refine XS.iloadN X0.here hx rfl (hb hby own_d1_0) rfl ?_
    show Steps p.tables e below (s₁.setTop (mkF m 1 #[.val (.int p0), .val (.int p1)] [(.int p0)])) _
    refine X0.ldcInt hx hown (mvT hZ (hw _ (List.mem_of_getElem? (i := 5) rfl))) (g := (mkF m 1 #[.val (.int p0), .val (.int p1)] [(.int p0)])) rfl (hb hby own_d1_1) _ ?_
    show Steps p.tables e below (s₁.setTop (mkF m 3 #[.val (.int p0), .val (.int p1)] [(.int (2147483647 : Int32)), (.int p0)])) _
    refine XS.iand X0.here hx rfl (hb hby own_d1_3) rfl ?_
    show Steps p.tables e below (s₁.setTop (mkF m 4 #[.val (.int p0), .val (.int p1)] [(.int (p0 &&& (2147483647 : Int32)))])) _
    refine XS.iloadN X0.here hx rfl (hb hby own_d1_4) rfl ?_
    show Steps p.tables e below (s₁.setTop (mkF m 5 #[.val (.int p0), .val (.int p1)] [(.int p1), (.int (p0 &&& (2147483647 : Int32)))])) _
    refine XS.iconst X0.here hx rfl (hb hby own_d1_5) ?_
    show Steps p.tables e below (s₁.setTop (mkF m 6 #[.val (.int p0), .val (.int p1)] [(.int (1 : Int32)), (.int p1), (.int (p0 &&& (2147483647 : Int32)))])) _
    refine XS.iadd X0.here hx rfl (hb hby own_d1_6) rfl ?_
    show Steps p.tables e below (s₁.setTop (mkF m 7 #[.val (.int p0), .val (.int p1)] [(.int (p1 + (1 : Int32))), (.int (p0 &&& (2147483647 : Int32)))])) _
    refine iremM (g := (mkF m 7 #[.val (.int p0), .val (.int p1)] [(.int (p1 + (1 : Int32))), (.int (p0 &&& (2147483647 : Int32)))])) X0 hx rfl (hb hby own_d1_7) rfl (by rw [hm, own_inc]; exact own_nz (by omega)) ?_
    show Steps p.tables e below (s₁.setTop (mkF m 8 #[.val (.int p0), .val (.int p1)] [(.int ((p0 &&& (2147483647 : Int32)) % (p1 + (1 : Int32))))])) _
    refine XS.iconst X0.here hx rfl (hb hby own_d1_8) ?_
    show Steps p.tables e below (s₁.setTop (mkF m 9 #[.val (.int p0), .val (.int p1)] [(.int (1 : Int32)), (.int ((p0 &&& (2147483647 : Int32)) % (p1 + (1 : Int32))))])) _
    refine XS.isub X0.here hx rfl (hb hby own_d1_9) rfl ?_
    exact h
  obtain ⟨fs, hr, hrun, hended, hW, hsame⟩ := X0.leave (v := some (.int (((p0 &&& (2147483647 : Int32)) % (p1 + (1 : Int32))) - (1 : Int32)))) (fun h => by rw [Bd.returns] at h; cases h) Bd.notSynchronized
  refine ⟨_, _, pre0 _ (k152 _ ?_), hrun, hended, _, _, rfl, ?_, ⟨_, rfl⟩, hW, hsame.mono (by decide) (by decide)⟩
  · exact retI X0 hx Bd.returns (hb hby own_d1_10) hr
  · show Q_rmK Z _ _ _ h0 n0 _ s₁.heap _
    rw [e0]
    obtain ⟨n, hn, en⟩ := own_modn p0 (Int32.ofNat (G + 1)) (G + 1) (toInt_of rfl (by omega)) (by omega)
    rw [← own_inc, ← hm] at en
    exact ⟨n, hn, congrArg (fun z : Int32 => some (Value.int (z - 1))) en, N0, rfl⟩
def Q_rmM (Z : State) (r0 : Addr) (p1 : Int32) (p2 : Int32) (b1 : Addr) (n1 : Nat) (f1 : Nat → Int32) (i1 : Nat) (b2 : Addr) (n2 : Nat) (f2 : Nat → Int32) (i2 : Nat) (h0 : Heap) (n0 : Nat) (v : Option Value) (h : Heap) (L : List Loc) : Prop := v = some (.int (f2 i2)) ∧ Fr n0 L ∧ h = h0
set_option maxRecDepth 65536 in
set_option maxHeartbeats 40000000 in
theorem rmM (l : Launch) (Z : State) (a0 : Array Value) (hw : ∀ d ∈ tables_1, d.before a0 Z = true) (ws : List Jvm.Cond) (r0 : Addr) (p1 : Int32) (p2 : Int32) (b1 : Addr) (n1 : Nat) (f1 : Nat → Int32) (i1 : Nat) (b2 : Addr) (n2 : Nat) (f2 : Nat → Int32) (i2 : Nat) (h0 : Heap) (n0 : Nat) (Z0 : n0 ≤ h0.size) (F1 : Fld Z h0 r0 "com/example/planwright/planwright/io/Grouping" "starts" "[I" (.ref b1)) (A1 : own_IA Z h0 b1 n1 f1) (hn1 : n1 < 2 ^ 31) (F2 : Fld Z h0 r0 "com/example/planwright/planwright/io/Grouping" "members" "[I" (.ref b2)) (A2 : own_IA Z h0 b2 n2 f2) (hn2 : n2 < 2 ^ 31) (h1 : p1 + 1 = Int32.ofNat i1) (l1 : i1 < n1) (h2 : f1 i1 + p2 = Int32.ofNat i2) (l2 : i2 < n2) :
    MetFree l (⟨"com/example/planwright/planwright/io/Grouping", "member", "(II)I"⟩ : MethodName) (head1 (Jvm.Cond.code (⟨"com/example/planwright/planwright/io/Grouping", "member", "(II)I"⟩ : MethodName) prog_17_method_3_code 3 (some .int) :: ws) ({ frames := 0, cells := 0, slots := 0, locals := 0 } : Room)) (fun a U => a = #[(.ref r0), (.int p1), (.int p2)] ∧ Z.Warmed39 U.vm ∧ U.heap = h0) (fun _ _ _ _ _ => True) (fun _ U o U' => ∃ v L, o = .returned v ∧ Q_rmM Z r0 p1 p2 b1 n1 f1 i1 b2 n2 f2 i2 h0 n0 v U'.heap L ∧ FrameEnd U o U' L ({ frames := 0, cells := 0, slots := 0, locals := 0 } : Room).cells ({ frames := 0, cells := 0, slots := 0, locals := 0 } : Room).slots) := by
  refine MetFree.of_bodySF (plainFor_of_name own_pn_0) hisR ?_
  intro p e s m args below meth c s₁ Bd hml0 hP hK
  obtain ⟨rfl, hZ, hh⟩ := hP
  have hx := Bd.exec
  have hby := Bd.bytes
  have hml : c.maxLocals = 3 := hml0
  have hown : s.vm.findClass "com/example/planwright/planwright/io/Grouping" = some m.cls := findClass_of_methodNamed Bd.named
  have hnm := (name_of_methodNamed Bd.named Bd.method).1
  have X0 : Stand p l e ({ frames := 0, cells := 0, slots := 0, locals := 0 } : Room) s m #[(.ref r0), (.int p1), (.int p2)] below meth c s₁ [] 0 0 := Stand.of_body Bd
  have e0 : s₁.heap = h0 := by rw [← hh, Bd.state]; rfl
  have N0 := Fr.nil n0
  have K0 : Keep h0 h0 [] := Keep.refl h0 _
  have pre0 : ∀ t, Steps p.tables e below (s₁.setTop (mkF m 0 #[.val (.ref r0), .val (.int p1), .val (.int p2)] [])) t → Steps p.tables e below (s₁.setTop (entryFrame m #[(.ref r0), (.int p1), (.int p2)] 3)) t := fun t k => castTop (own_ef_2 m r0 p1 p2) k
  obtain ⟨T153, X153, e153, st153⟩ := getF X0 hx hZ hown (host := "") (Or.inl (hw _ (List.mem_of_getElem? (i := 17) rfl))) Via.refl e0 F2 (g := (mkF m 1 #[.val (.ref r0), .val (.int p1), .val (.int p2)] [(.ref r0)])) rfl rfl (hb hby own_d4_1)
  obtain ⟨T154, X154, e154, st154⟩ := getF X153 hx hZ hown (host := "") (Or.inl (hw _ (List.mem_of_getElem? (i := 15) rfl))) Via.refl e153 F1 (g := (mkF m 5 #[.val (.ref r0), .val (.int p1), .val (.int p2)] [(.ref r0), (.ref b2)])) rfl rfl (hb hby own_d4_5)
  obtain ⟨cl155, Ar155, hin155, hat155⟩ := own_IA.at (i := i1) (j := (p1 + (1 : Int32))) A1 h1 l1 hn1
  obtain ⟨cl156, Ar156, hin156, hat156⟩ := own_IA.at (i := i2) (j := ((f1 i1) + p2)) A2 h2 l2 hn2
  have k157 : ∀ t, Steps p.tables e below (T154.setTop (mkF m 15 #[.val (.ref r0), .val (.int p1), .val (.int p2)] [(.int (f2 i2))])) t → Steps p.tables e below (s₁.setTop (mkF m 0 #[.val (.ref r0), .val (.int p1), .val (.int p2)] [])) t := by
    intro t h
    show Steps p.tables e below (s₁.setTop (mkF m 0 #[.val (.ref r0), .val (.int p1), .val (.int p2)] [])) _
    refine XS.aloadN X0.here hx rfl (hb hby own_d4_0) rfl rfl ?_
    show Steps p.tables e below (s₁.setTop (mkF m 1 #[.val (.ref r0), .val (.int p1), .val (.int p2)] [(.ref r0)])) _
    refine st153 _ ?_
    show Steps p.tables e below (T153.setTop (mkF m 4 #[.val (.ref r0), .val (.int p1), .val (.int p2)] [(.ref b2)])) _
    refine XS.aloadN X153.here hx rfl (hb hby own_d4_4) rfl rfl ?_
    show Steps p.tables e below (T153.setTop (mkF m 5 #[.val (.ref r0), .val (.int p1), .val (.int p2)] [(.ref r0), (.ref b2)])) _
    refine st154 _ ?_
    show Steps p.tables e below (T154.setTop (mkF m 8 #[.val (.ref r0), .val (.int p1), .val (.int p2)] [(.ref b1), (.ref b2)])) _
    refine XS.iloadN X154.here hx rfl (hb hby own_d4_8) rfl ?_
    show Steps p.tables e below (T154.setTop (mkF m 9 #[.val (.ref r0), .val (.int p1), .val (.int p2)] [(.int p1), (.ref b1), (.ref b2)])) _
    refine XS.iconst X154.here hx rfl (hb hby own_d4_9) ?_
    show Steps p.tables e below (T154.setTop (mkF m 10 #[.val (.ref r0), .val (.int p1), .val (.int p2)] [(.int (1 : Int32)), (.int p1), (.ref b1), (.ref b2)])) _
    refine XS.iadd X154.here hx rfl (hb hby own_d4_10) rfl ?_
    show Steps p.tables e below (T154.setTop (mkF m 11 #[.val (.ref r0), .val (.int p1), .val (.int p2)] [(.int (p1 + (1 : Int32))), (.ref b1), (.ref b2)])) _
    refine X154.iaload hx (j := (p1 + (1 : Int32))) (v := (.int (f1 i1))) (by rw [e154]; exact Ar155.1) (State.isArrayOf_alike hZ.alike Ar155.2.1) Ar155.2.2 hin155 hat155 (g := (mkF m 11 #[.val (.ref r0), .val (.int p1), .val (.int p2)] [(.int (p1 + (1 : Int32))), (.ref b1), (.ref b2)])) rfl rfl (hb hby own_d4_11) _ ?_
    show Steps p.tables e below (T154.setTop (mkF m 12 #[.val (.ref r0), .val (.int p1), .val (.int p2)] [(.int (f1 i1)), (.ref b2)])) _
    refine XS.iloadN X154.here hx rfl (hb hby own_d4_12) rfl ?_
    show Steps p.tables e below (T154.setTop (mkF m 13 #[.val (.ref r0), .val (.int p1), .val (.int p2)] [(.int p2), (.int (f1 i1)), (.ref b2)])) _
    refine XS.iadd X154.here hx rfl (hb hby own_d4_13) rfl ?_
    show Steps p.tables e below (T154.setTop (mkF m 14 #[.val (.ref r0), .val (.int p1), .val (.int p2)] [(.int ((f1 i1) + p2)), (.ref b2)])) _
    refine X154.iaload hx (j := ((f1 i1) + p2)) (v := (.int (f2 i2))) (by rw [e154]; exact Ar156.1) (State.isArrayOf_alike hZ.alike Ar156.2.1) Ar156.2.2 hin156 hat156 (g := (mkF m 14 #[.val (.ref r0), .val (.int p1), .val (.int p2)] [(.int ((f1 i1) + p2)), (.ref b2)])) rfl rfl (hb hby own_d4_14) _ ?_
    exact h
  obtain ⟨fs, hr, hrun, hended, hW, hsame⟩ := X154.leave (v := some (.int (f2 i2))) (fun h => by rw [Bd.returns] at h; cases h) Bd.notSynchronized
  refine ⟨_, _, pre0 _ (k157 _ ?_), hrun, hended, _, _, rfl, ?_, ⟨_, rfl⟩, hW, hsame.mono (by decide) (by decide)⟩
  · exact retI X154 hx Bd.returns (hb hby own_d4_15) hr
  · show Q_rmM Z _ _ _ _ _ _ _ _ _ _ _ h0 n0 _ T154.heap _
    rw [e154]
    exact ⟨congrArg (fun z : Int32 => some (Value.int z)) (rfl), N0, rfl⟩
def Q_rm0 (Z : State) (p0 : Int32) (p1 : Int32) (p2 : Int32) (p3 : Int32) (p4 : Int32) (p5 : Int32) (h0 : Heap) (n0 : Nat) (v : Option Value) (h : Heap) (L : List Loc) : Prop := v = some (.int 1) ∧ Fr n0 L
set_option maxRecDepth 65536 in
set_option maxHeartbeats 40000000 in
theorem rm0 (l : Launch) (Z : State) (a0 : Array Value) (hw : ∀ d ∈ tables_1, d.before a0 Z = true) (ws : List Jvm.Cond) (p0 : Int32) (p1 : Int32) (p2 : Int32) (p3 : Int32) (p4 : Int32) (p5 : Int32) (h0 : Heap) (n0 : Nat) (Z0 : n0 ≤ h0.size) :
    MetFree l x (head1 (Jvm.Cond.code x code maxLocals ret :: ws) room_1) (fun a U => a = #[(.int p0), (.int p1), (.int p2), (.int p3), (.int p4), (.int p5)] ∧ Z.Warmed39 U.vm ∧ U.heap = h0) (fun _ _ _ _ _ => True) (fun _ U o U' => ∃ v L, o = .returned v ∧ Q_rm0 Z p0 p1 p2 p3 p4 p5 h0 n0 v U'.heap L ∧ FrameEnd U o U' L 5 20) := by
  refine MetFree.of_bodySF (plainFor_of_name own_pn_1) hisR ?_
  intro p e s m args below meth c s₁ Bd hml0 hP hK
  obtain ⟨rfl, hZ, hh⟩ := hP
  have hx := Bd.exec
  have hby := Bd.bytes
  have hml : c.maxLocals = 12 := hml0
  have hown : s.vm.findClass "com/example/planwright/planwright/io/GroupingMemberPinLaw" = some m.cls := findClass_of_methodNamed Bd.named
  have hnm := (name_of_methodNamed Bd.named Bd.method).1
  have X0 : Stand p l e room_1 s m #[(.int p0), (.int p1), (.int p2), (.int p3), (.int p4), (.int p5)] below meth c s₁ [] 0 0 := Stand.of_body Bd
  have e0 : s₁.heap = h0 := by rw [← hh, Bd.state]; rfl
  have N0 := Fr.nil n0
  have K0 : Keep h0 h0 [] := Keep.refl h0 _
  have pre0 : ∀ t, Steps p.tables e below (s₁.setTop (mkF m 0 #[.val (.int p0), .val (.int p1), .val (.int p2), .val (.int p3), .val (.int p4), .val (.int p5), .unset, .unset, .unset, .unset, .unset, .unset] [])) t → Steps p.tables e below (s₁.setTop (entryFrame m #[(.int p0), (.int p1), (.int p2), (.int p3), (.int p4), (.int p5)] maxLocals)) t := fun t k => castTop (own_ef_3 m p0 p1 p2 p3 p4 p5) k
  obtain ⟨G, hG', eG⟩ := own_mask p0 3 2 (by decide) (by decide)
  have k158 : ∀ t, Steps p.tables e below (s₁.setTop (mkF m 5 #[.val (.int p0), .val (.int p1), .val (.int p2), .val (.int p3), .val (.int p4), .val (.int p5), .val (.int (p0 &&& (3 : Int32))), .unset, .unset, .unset, .unset, .unset] [])) t → Steps p.tables e below (s₁.setTop (mkF m 0 #[.val (.int p0), .val (.int p1), .val (.int p2), .val (.int p3), .val (.int p4), .val (.int p5), .unset, .unset, .unset, .unset, .unset, .unset] [])) t := by
    intro t h
    show Steps p.tables e below (s₁.setTop (mkF m 0 #[.val (.int p0), .val (.int p1), .val (.int p2), .val (.int p3), .val (.int p4), .val (.int p5), .unset, .unset, .unset, .unset, .unset, .unset] [])) _
    refine XS.iloadN X0.here hx rfl (hb hby at_0) rfl ?_
    show Steps p.tables e below (s₁.setTop (mkF m 1 #[.val (.int p0), .val (.int p1), .val (.int p2), .val (.int p3), .val (.int p4), .val (.int p5), .unset, .unset, .unset, .unset, .unset, .unset] [(.int p0)])) _
    refine XS.iconst X0.here hx rfl (hb hby at_1) ?_
    show Steps p.tables e below (s₁.setTop (mkF m 2 #[.val (.int p0), .val (.int p1), .val (.int p2), .val (.int p3), .val (.int p4), .val (.int p5), .unset, .unset, .unset, .unset, .unset, .unset] [(.int (3 : Int32)), (.int p0)])) _
    refine XS.iand X0.here hx rfl (hb hby at_2) rfl ?_
    show Steps p.tables e below (s₁.setTop (mkF m 3 #[.val (.int p0), .val (.int p1), .val (.int p2), .val (.int p3), .val (.int p4), .val (.int p5), .unset, .unset, .unset, .unset, .unset, .unset] [(.int (p0 &&& (3 : Int32)))])) _
    refine XS.istore X0.here hx rfl (hb hby at_3) rfl (l' := #[.val (.int p0), .val (.int p1), .val (.int p2), .val (.int p3), .val (.int p4), .val (.int p5), .val (.int (p0 &&& (3 : Int32))), .unset, .unset, .unset, .unset, .unset]) rfl ?_
    exact h
  have r159 : (p0 &&& (3 : Int32)) = (Int32.ofNat G) := eG
  have k160 : ∀ t, Steps p.tables e below (s₁.setTop (mkF m 5 #[.val (.int p0), .val (.int p1), .val (.int p2), .val (.int p3), .val (.int p4), .val (.int p5), .val (.int (Int32.ofNat G)), .unset, .unset, .unset, .unset, .unset] [])) t → Steps p.tables e below (s₁.setTop (mkF m 0 #[.val (.int p0), .val (.int p1), .val (.int p2), .val (.int p3), .val (.int p4), .val (.int p5), .unset, .unset, .unset, .unset, .unset, .unset] [])) t := by first | (rw [← r159]; exact k158) | exact k158
  obtain ⟨T161, h161, k161, X161, e161, E161, A161, st161⟩ := newP X0 hx hZ (hw _ (List.mem_of_getElem? (i := 0) rfl)) e0 (g := (mkF m 6 #[.val (.int p0), .val (.int p1), .val (.int p2), .val (.int p3), .val (.int p4), .val (.int p5), .val (.int (Int32.ofNat G)), .unset, .unset, .unset, .unset, .unset] [(.int (4 : Int32))])) rfl (hb hby at_6) rfl (by decide) (cap := 4) (by decide) (by decide) (by decide) (by decide)
  obtain ⟨b161, g161⟩ : ∃ z, z = h0.size := ⟨_, rfl⟩
  rw [← g161] at A161 st161
  have g_b161 : n0 ≤ b161 := Nat.le_trans Z0 (Nat.le_of_eq g161.symm)
  have sz_b161 : h0.size ≤ b161 := Nat.le_trans K0.1 (Nat.le_of_eq g161.symm)
  have Z162 : n0 ≤ h161.size := Nat.le_trans Z0 E161.1
  have K163 := K0.ext E161
  have V_b161 : Arv Z h161 b161 k161 .int (4 : Int32) [(.int (0 : Int32)), (.int (0 : Int32)), (.int (0 : Int32)), (.int (0 : Int32))] (.int (0 : Int32)) := (Arv.new A161 (by decide)).pad (pad_rep [] (.int (0 : Int32)) 4)
  obtain ⟨_, _, ⟨T164, L164, k164, n164⟩, -, X164, ⟨Lc164, hQ164, l164, y164, z164⟩, st164⟩ := Jvm.LawKit.callS X161 hx (y := (⟨"com/example/planwright/planwright/io/GroupingMemberPinLaw", "keyOf", "(II)I"⟩ : MethodName)) hown (mvT hZ (hw _ (List.mem_of_getElem? (i := 1) rfl))) (mvT hZ (hw _ (List.mem_of_getElem? (i := 2) rfl))) (mvT hZ (hw _ (List.mem_of_getElem? (i := 3) rfl))) (mvT hZ (hw _ (List.mem_of_getElem? (i := 4) rfl))) (by decide) (backOf (W := 2) (rmK l Z a0 hw [] p1 (Int32.ofNat G) G h161 n0 Z162 rfl (by omega)) hZ (hw _ (List.mem_of_getElem? (i := 4) rfl)) (hw _ (List.mem_of_getElem? (i := 3) rfl)) (by decide) (by decide)) (g := (mkF m 16 #[.val (.int p0), .val (.int p1), .val (.int p2), .val (.int p3), .val (.int p4), .val (.int p5), .val (.int (Int32.ofNat G)), .val (.ref b161), .unset, .unset, .unset, .unset] [(.int (Int32.ofNat G)), (.int p1), (.int (0 : Int32)), (.ref b161)])) rfl (by rw [hml]; rfl) (argsL := [(.int p1), (.int (Int32.ofNat G))]) (rest := [(.int (0 : Int32)), (.ref b161)]) (lenOf own_pd_0 rfl) rfl (by show 2 * 0 + _ ≤ _; exact Nat.le_of_eq rfl) (hb hby at_16) (fun _ _ => ⟨rfl, e161, (by decide : 1 + 0 ≤ _), (by decide : 4 + 0 ≤ _)⟩)
  dsimp only [Pt.U, Pt.locs, Pt.cells, Pt.slots] at X164 l164 y164 z164 st164 hQ164
  subst l164 y164 z164
  obtain ⟨n164k, hn164k, rfl, Nq164, eq164⟩ := hQ164
  have N164 := Fr.app N0 Nq164
  obtain ⟨cl165, Ar165, q165, S165, Ng165, H165, G165⟩ := id V_b161
  have hin165 : ¬ ((0 : Int32) < 0 ∨ cl165.slots.size ≤ ((0 : Int32)).toNatClampNeg) := inb_of S165 ⟨by decide, by decide⟩
  obtain ⟨T165, h165, X165, e165, W165, st165⟩ := stI X164 hx hZ eq164 Ar165 (j := (0 : Int32)) hin165 (g := (mkF m 19 #[.val (.int p0), .val (.int p1), .val (.int p2), .val (.int p3), .val (.int p4), .val (.int p5), .val (.int (Int32.ofNat G)), .val (.ref b161), .unset, .unset, .unset, .unset] [(.int (Int32.ofNat n164k - 1)), (.int (0 : Int32)), (.ref b161)])) rfl rfl (hb hby at_19)
  have V165 : Arv Z h165 b161 k161 .int (4 : Int32) [(.int (Int32.ofNat n164k - 1)), (.int (0 : Int32)), (.int (0 : Int32)), (.int (0 : Int32))] (.int (0 : Int32)) := Arv.set Ar165 q165 S165 Ng165 H165 G165 rfl W165 0 rfl (Nat.le_of_ble_eq_true rfl)
  have Z166 : n0 ≤ h165.size := Nat.le_trans Z162 (Keep.of_wr W165).1
  have K167 := K163.wr W165 (Or.inr sz_b161)
  have N165 := Fr.snoc X165 N164 g_b161
  obtain ⟨_, _, ⟨T168, L168, k168, n168⟩, -, X168, ⟨Lc168, hQ168, l168, y168, z168⟩, st168⟩ := Jvm.LawKit.callS X165 hx (y := (⟨"com/example/planwright/planwright/io/GroupingMemberPinLaw", "keyOf", "(II)I"⟩ : MethodName)) hown (mvT hZ (hw _ (List.mem_of_getElem? (i := 1) rfl))) (mvT hZ (hw _ (List.mem_of_getElem? (i := 2) rfl))) (mvT hZ (hw _ (List.mem_of_getElem? (i := 3) rfl))) (mvT hZ (hw _ (List.mem_of_getElem? (i := 4) rfl))) (by decide) (backOf (W := 2) (rmK l Z a0 hw [] p2 (Int32.ofNat G) G h165 n0 Z166 rfl (by omega)) hZ (hw _ (List.mem_of_getElem? (i := 4) rfl)) (hw _ (List.mem_of_getElem? (i := 3) rfl)) (by decide) (by decide)) (g := (mkF m 26 #[.val (.int p0), .val (.int p1), .val (.int p2), .val (.int p3), .val (.int p4), .val (.int p5), .val (.int (Int32.ofNat G)), .val (.ref b161), .unset, .unset, .unset, .unset] [(.int (Int32.ofNat G)), (.int p2), (.int (1 : Int32)), (.ref b161)])) rfl (by rw [hml]; rfl) (argsL := [(.int p2), (.int (Int32.ofNat G))]) (rest := [(.int (1 : Int32)), (.ref b161)]) (lenOf own_pd_0 rfl) rfl (by show 2 * 0 + _ ≤ _; exact Nat.le_of_eq rfl) (hb hby at_26) (fun _ _ => ⟨rfl, e165, (by decide : 1 + 0 ≤ _), (by decide : 4 + 0 ≤ _)⟩)
  dsimp only [Pt.U, Pt.locs, Pt.cells, Pt.slots] at X168 l168 y168 z168 st168 hQ168
  subst l168 y168 z168
  obtain ⟨n168k, hn168k, rfl, Nq168, eq168⟩ := hQ168
  have N168 := Fr.app N165 Nq168
  obtain ⟨cl169, Ar169, q169, S169, Ng169, H169, G169⟩ := id V165
  have hin169 : ¬ ((1 : Int32) < 0 ∨ cl169.slots.size ≤ ((1 : Int32)).toNatClampNeg) := inb_of S169 ⟨by decide, by decide⟩
  obtain ⟨T169, h169, X169, e169, W169, st169⟩ := stI X168 hx hZ eq168 Ar169 (j := (1 : Int32)) hin169 (g := (mkF m 29 #[.val (.int p0), .val (.int p1), .val (.int p2), .val (.int p3), .val (.int p4), .val (.int p5), .val (.int (Int32.ofNat G)), .val (.ref b161), .unset, .unset, .unset, .unset] [(.int (Int32.ofNat n168k - 1)), (.int (1 : Int32)), (.ref b161)])) rfl rfl (hb hby at_29)
  have V169 : Arv Z h169 b161 k161 .int (4 : Int32) [(.int (Int32.ofNat n164k - 1)), (.int (Int32.ofNat n168k - 1)), (.int (0 : Int32)), (.int (0 : Int32))] (.int (0 : Int32)) := Arv.set Ar169 q169 S169 Ng169 H169 G169 rfl W169 1 rfl (Nat.le_of_ble_eq_true rfl)
  have Z170 : n0 ≤ h169.size := Nat.le_trans Z166 (Keep.of_wr W169).1
  have K171 := K167.wr W169 (Or.inr sz_b161)
  have N169 := Fr.snoc X169 N168 g_b161
  obtain ⟨_, _, ⟨T172, L172, k172, n172⟩, -, X172, ⟨Lc172, hQ172, l172, y172, z172⟩, st172⟩ := Jvm.LawKit.callS X169 hx (y := (⟨"com/example/planwright/planwright/io/GroupingMemberPinLaw", "keyOf", "(II)I"⟩ : MethodName)) hown (mvT hZ (hw _ (List.mem_of_getElem? (i := 1) rfl))) (mvT hZ (hw _ (List.mem_of_getElem? (i := 2) rfl))) (mvT hZ (hw _ (List.mem_of_getElem? (i := 3) rfl))) (mvT hZ (hw _ (List.mem_of_getElem? (i := 4) rfl))) (by decide) (backOf (W := 2) (rmK l Z a0 hw [] p3 (Int32.ofNat G) G h169 n0 Z170 rfl (by omega)) hZ (hw _ (List.mem_of_getElem? (i := 4) rfl)) (hw _ (List.mem_of_getElem? (i := 3) rfl)) (by decide) (by decide)) (g := (mkF m 36 #[.val (.int p0), .val (.int p1), .val (.int p2), .val (.int p3), .val (.int p4), .val (.int p5), .val (.int (Int32.ofNat G)), .val (.ref b161), .unset, .unset, .unset, .unset] [(.int (Int32.ofNat G)), (.int p3), (.int (2 : Int32)), (.ref b161)])) rfl (by rw [hml]; rfl) (argsL := [(.int p3), (.int (Int32.ofNat G))]) (rest := [(.int (2 : Int32)), (.ref b161)]) (lenOf own_pd_0 rfl) rfl (by show 2 * 0 + _ ≤ _; exact Nat.le_of_eq rfl) (hb hby at_36) (fun _ _ => ⟨rfl, e169, (by decide : 1 + 0 ≤ _), (by decide : 4 + 0 ≤ _)⟩)
  dsimp only [Pt.U, Pt.locs, Pt.cells, Pt.slots] at X172 l172 y172 z172 st172 hQ172
  subst l172 y172 z172
  obtain ⟨n172k, hn172k, rfl, Nq172, eq172⟩ := hQ172
  have N172 := Fr.app N169 Nq172
  obtain ⟨cl173, Ar173, q173, S173, Ng173, H173, G173⟩ := id V169
  have hin173 : ¬ ((2 : Int32) < 0 ∨ cl173.slots.size ≤ ((2 : Int32)).toNatClampNeg) := inb_of S173 ⟨by decide, by decide⟩
  obtain ⟨T173, h173, X173, e173, W173, st173⟩ := stI X172 hx hZ eq172 Ar173 (j := (2 : Int32)) hin173 (g := (mkF m 39 #[.val (.int p0), .val (.int p1), .val (.int p2), .val (.int p3), .val (.int p4), .val (.int p5), .val (.int (Int32.ofNat G)), .val (.ref b161), .unset, .unset, .unset, .unset] [(.int (Int32.ofNat n172k - 1)), (.int (2 : Int32)), (.ref b161)])) rfl rfl (hb hby at_39)
  have V173 : Arv Z h173 b161 k161 .int (4 : Int32) [(.int (Int32.ofNat n164k - 1)), (.int (Int32.ofNat n168k - 1)), (.int (Int32.ofNat n172k - 1)), (.int (0 : Int32))] (.int (0 : Int32)) := Arv.set Ar173 q173 S173 Ng173 H173 G173 rfl W173 2 rfl (Nat.le_of_ble_eq_true rfl)
  have Z174 : n0 ≤ h173.size := Nat.le_trans Z170 (Keep.of_wr W173).1
  have K175 := K171.wr W173 (Or.inr sz_b161)
  have N173 := Fr.snoc X173 N172 g_b161
  have k176 : ∀ t, Steps p.tables e below (T173.setTop (mkF m 40 #[.val (.int p0), .val (.int p1), .val (.int p2), .val (.int p3), .val (.int p4), .val (.int p5), .val (.int (Int32.ofNat G)), .val (.ref b161), .unset, .unset, .unset, .unset] [])) t → Steps p.tables e below (s₁.setTop (mkF m 0 #[.val (.int p0), .val (.int p1), .val (.int p2), .val (.int p3), .val (.int p4), .val (.int p5), .unset, .unset, .unset, .unset, .unset, .unset] [])) t := by
    intro t h
    refine k160 t ?_
    show Steps p.tables e below (s₁.setTop (mkF m 5 #[.val (.int p0), .val (.int p1), .val (.int p2), .val (.int p3), .val (.int p4), .val (.int p5), .val (.int (Int32.ofNat G)), .unset, .unset, .unset, .unset, .unset] [])) _
    refine XS.iconst X0.here hx rfl (hb hby at_5) ?_
    show Steps p.tables e below (s₁.setTop (mkF m 6 #[.val (.int p0), .val (.int p1), .val (.int p2), .val (.int p3), .val (.int p4), .val (.int p5), .val (.int (Int32.ofNat G)), .unset, .unset, .unset, .unset, .unset] [(.int (4 : Int32))])) _
    refine st161 _ ?_
    show Steps p.tables e below (T161.setTop (mkF m 8 #[.val (.int p0), .val (.int p1), .val (.int p2), .val (.int p3), .val (.int p4), .val (.int p5), .val (.int (Int32.ofNat G)), .unset, .unset, .unset, .unset, .unset] [(.ref b161)])) _
    refine XS.astore X161.here hx rfl (hb hby at_8) rfl rfl (l' := #[.val (.int p0), .val (.int p1), .val (.int p2), .val (.int p3), .val (.int p4), .val (.int p5), .val (.int (Int32.ofNat G)), .val (.ref b161), .unset, .unset, .unset, .unset]) rfl ?_
    show Steps p.tables e below (T161.setTop (mkF m 10 #[.val (.int p0), .val (.int p1), .val (.int p2), .val (.int p3), .val (.int p4), .val (.int p5), .val (.int (Int32.ofNat G)), .val (.ref b161), .unset, .unset, .unset, .unset] [])) _
    refine XS.aload X161.here hx rfl (hb hby at_10) rfl rfl ?_
    show Steps p.tables e below (T161.setTop (mkF m 12 #[.val (.int p0), .val (.int p1), .val (.int p2), .val (.int p3), .val (.int p4), .val (.int p5), .val (.int (Int32.ofNat G)), .val (.ref b161), .unset, .unset, .unset, .unset] [(.ref b161)])) _
    refine XS.iconst X161.here hx rfl (hb hby at_12) ?_
    show Steps p.tables e below (T161.setTop (mkF m 13 #[.val (.int p0), .val (.int p1), .val (.int p2), .val (.int p3), .val (.int p4), .val (.int p5), .val (.int (Int32.ofNat G)), .val (.ref b161), .unset, .unset, .unset, .unset] [(.int (0 : Int32)), (.ref b161)])) _
    refine XS.iloadN X161.here hx rfl (hb hby at_13) rfl ?_
    show Steps p.tables e below (T161.setTop (mkF m 14 #[.val (.int p0), .val (.int p1), .val (.int p2), .val (.int p3), .val (.int p4), .val (.int p5), .val (.int (Int32.ofNat G)), .val (.ref b161), .unset, .unset, .unset, .unset] [(.int p1), (.int (0 : Int32)), (.ref b161)])) _
    refine XS.iload X161.here hx rfl (hb hby at_14) rfl ?_
    show Steps p.tables e below (T161.setTop (mkF m 16 #[.val (.int p0), .val (.int p1), .val (.int p2), .val (.int p3), .val (.int p4), .val (.int p5), .val (.int (Int32.ofNat G)), .val (.ref b161), .unset, .unset, .unset, .unset] [(.int (Int32.ofNat G)), (.int p1), (.int (0 : Int32)), (.ref b161)])) _
    refine st164 _ ?_
    show Steps p.tables e below (T164.setTop (mkF m 19 #[.val (.int p0), .val (.int p1), .val (.int p2), .val (.int p3), .val (.int p4), .val (.int p5), .val (.int (Int32.ofNat G)), .val (.ref b161), .unset, .unset, .unset, .unset] [(.int (Int32.ofNat n164k - 1)), (.int (0 : Int32)), (.ref b161)])) _
    refine st165 _ ?_
    show Steps p.tables e below (T165.setTop (mkF m 20 #[.val (.int p0), .val (.int p1), .val (.int p2), .val (.int p3), .val (.int p4), .val (.int p5), .val (.int (Int32.ofNat G)), .val (.ref b161), .unset, .unset, .unset, .unset] [])) _
    refine XS.aload X165.here hx rfl (hb hby at_20) rfl rfl ?_
    show Steps p.tables e below (T165.setTop (mkF m 22 #[.val (.int p0), .val (.int p1), .val (.int p2), .val (.int p3), .val (.int p4), .val (.int p5), .val (.int (Int32.ofNat G)), .val (.ref b161), .unset, .unset, .unset, .unset] [(.ref b161)])) _
    refine XS.iconst X165.here hx rfl (hb hby at_22) ?_
    show Steps p.tables e below (T165.setTop (mkF m 23 #[.val (.int p0), .val (.int p1), .val (.int p2), .val (.int p3), .val (.int p4), .val (.int p5), .val (.int (Int32.ofNat G)), .val (.ref b161), .unset, .unset, .unset, .unset] [(.int (1 : Int32)), (.ref b161)])) _
    refine XS.iloadN X165.here hx rfl (hb hby at_23) rfl ?_
    show Steps p.tables e below (T165.setTop (mkF m 24 #[.val (.int p0), .val (.int p1), .val (.int p2), .val (.int p3), .val (.int p4), .val (.int p5), .val (.int (Int32.ofNat G)), .val (.ref b161), .unset, .unset, .unset, .unset] [(.int p2), (.int (1 : Int32)), (.ref b161)])) _
    refine XS.iload X165.here hx rfl (hb hby at_24) rfl ?_
    show Steps p.tables e below (T165.setTop (mkF m 26 #[.val (.int p0), .val (.int p1), .val (.int p2), .val (.int p3), .val (.int p4), .val (.int p5), .val (.int (Int32.ofNat G)), .val (.ref b161), .unset, .unset, .unset, .unset] [(.int (Int32.ofNat G)), (.int p2), (.int (1 : Int32)), (.ref b161)])) _
    refine st168 _ ?_
    show Steps p.tables e below (T168.setTop (mkF m 29 #[.val (.int p0), .val (.int p1), .val (.int p2), .val (.int p3), .val (.int p4), .val (.int p5), .val (.int (Int32.ofNat G)), .val (.ref b161), .unset, .unset, .unset, .unset] [(.int (Int32.ofNat n168k - 1)), (.int (1 : Int32)), (.ref b161)])) _
    refine st169 _ ?_
    show Steps p.tables e below (T169.setTop (mkF m 30 #[.val (.int p0), .val (.int p1), .val (.int p2), .val (.int p3), .val (.int p4), .val (.int p5), .val (.int (Int32.ofNat G)), .val (.ref b161), .unset, .unset, .unset, .unset] [])) _
    refine XS.aload X169.here hx rfl (hb hby at_30) rfl rfl ?_
    show Steps p.tables e below (T169.setTop (mkF m 32 #[.val (.int p0), .val (.int p1), .val (.int p2), .val (.int p3), .val (.int p4), .val (.int p5), .val (.int (Int32.ofNat G)), .val (.ref b161), .unset, .unset, .unset, .unset] [(.ref b161)])) _
    refine XS.iconst X169.here hx rfl (hb hby at_32) ?_
    show Steps p.tables e below (T169.setTop (mkF m 33 #[.val (.int p0), .val (.int p1), .val (.int p2), .val (.int p3), .val (.int p4), .val (.int p5), .val (.int (Int32.ofNat G)), .val (.ref b161), .unset, .unset, .unset, .unset] [(.int (2 : Int32)), (.ref b161)])) _
    refine XS.iloadN X169.here hx rfl (hb hby at_33) rfl ?_
    show Steps p.tables e below (T169.setTop (mkF m 34 #[.val (.int p0), .val (.int p1), .val (.int p2), .val (.int p3), .val (.int p4), .val (.int p5), .val (.int (Int32.ofNat G)), .val (.ref b161), .unset, .unset, .unset, .unset] [(.int p3), (.int (2 : Int32)), (.ref b161)])) _
    refine XS.iload X169.here hx rfl (hb hby at_34) rfl ?_
    show Steps p.tables e below (T169.setTop (mkF m 36 #[.val (.int p0), .val (.int p1), .val (.int p2), .val (.int p3), .val (.int p4), .val (.int p5), .val (.int (Int32.ofNat G)), .val (.ref b161), .unset, .unset, .unset, .unset] [(.int (Int32.ofNat G)), (.int p3), (.int (2 : Int32)), (.ref b161)])) _
    refine st172 _ ?_
    show Steps p.tables e below (T172.setTop (mkF m 39 #[.val (.int p0), .val (.int p1), .val (.int p2), .val (.int p3), .val (.int p4), .val (.int p5), .val (.int (Int32.ofNat G)), .val (.ref b161), .unset, .unset, .unset, .unset] [(.int (Int32.ofNat n172k - 1)), (.int (2 : Int32)), (.ref b161)])) _
    refine st173 _ ?_
    exact h
  obtain ⟨_, _, ⟨T177, L177, k177, n177⟩, -, X177, ⟨Lc177, hQ177, l177, y177, z177⟩, st177⟩ := Jvm.LawKit.callS X173 hx (y := (⟨"com/example/planwright/planwright/io/GroupingMemberPinLaw", "keyOf", "(II)I"⟩ : MethodName)) hown (mvT hZ (hw _ (List.mem_of_getElem? (i := 1) rfl))) (mvT hZ (hw _ (List.mem_of_getElem? (i := 2) rfl))) (mvT hZ (hw _ (List.mem_of_getElem? (i := 3) rfl))) (mvT hZ (hw _ (List.mem_of_getElem? (i := 4) rfl))) (by decide) (backOf (W := 2) (rmK l Z a0 hw [] p4 (Int32.ofNat G) G h173 n0 Z174 rfl (by omega)) hZ (hw _ (List.mem_of_getElem? (i := 4) rfl)) (hw _ (List.mem_of_getElem? (i := 3) rfl)) (by decide) (by decide)) (g := (mkF m 47 #[.val (.int p0), .val (.int p1), .val (.int p2), .val (.int p3), .val (.int p4), .val (.int p5), .val (.int (Int32.ofNat G)), .val (.ref b161), .unset, .unset, .unset, .unset] [(.int (Int32.ofNat G)), (.int p4), (.int (3 : Int32)), (.ref b161)])) rfl (by rw [hml]; rfl) (argsL := [(.int p4), (.int (Int32.ofNat G))]) (rest := [(.int (3 : Int32)), (.ref b161)]) (lenOf own_pd_0 rfl) rfl (by show 2 * 0 + _ ≤ _; exact Nat.le_of_eq rfl) (hb hby at_47) (fun _ _ => ⟨rfl, e173, (by decide : 1 + 0 ≤ _), (by decide : 4 + 0 ≤ _)⟩)
  dsimp only [Pt.U, Pt.locs, Pt.cells, Pt.slots] at X177 l177 y177 z177 st177 hQ177
  subst l177 y177 z177
  obtain ⟨n177k, hn177k, rfl, Nq177, eq177⟩ := hQ177
  have N177 := Fr.app N173 Nq177
  obtain ⟨cl178, Ar178, q178, S178, Ng178, H178, G178⟩ := id V173
  have hin178 : ¬ ((3 : Int32) < 0 ∨ cl178.slots.size ≤ ((3 : Int32)).toNatClampNeg) := inb_of S178 ⟨by decide, by decide⟩
  obtain ⟨T178, h178, X178, e178, W178, st178⟩ := stI X177 hx hZ eq177 Ar178 (j := (3 : Int32)) hin178 (g := (mkF m 50 #[.val (.int p0), .val (.int p1), .val (.int p2), .val (.int p3), .val (.int p4), .val (.int p5), .val (.int (Int32.ofNat G)), .val (.ref b161), .unset, .unset, .unset, .unset] [(.int (Int32.ofNat n177k - 1)), (.int (3 : Int32)), (.ref b161)])) rfl rfl (hb hby at_50)
  have V178 : Arv Z h178 b161 k161 .int (4 : Int32) [(.int (Int32.ofNat n164k - 1)), (.int (Int32.ofNat n168k - 1)), (.int (Int32.ofNat n172k - 1)), (.int (Int32.ofNat n177k - 1))] (.int (0 : Int32)) := Arv.set Ar178 q178 S178 Ng178 H178 G178 rfl W178 3 rfl (Nat.le_of_ble_eq_true rfl)
  have Z179 : n0 ≤ h178.size := Nat.le_trans Z174 (Keep.of_wr W178).1
  have K180 := K175.wr W178 (Or.inr sz_b161)
  have N178 := Fr.snoc X178 N177 g_b161
  have k181 : ∀ t, Steps p.tables e below (T178.setTop (mkF m 57 #[.val (.int p0), .val (.int p1), .val (.int p2), .val (.int p3), .val (.int p4), .val (.int p5), .val (.int (Int32.ofNat G)), .val (.ref b161), .val (.int (p5 &&& (3 : Int32))), .unset, .unset, .unset] [])) t → Steps p.tables e below (s₁.setTop (mkF m 0 #[.val (.int p0), .val (.int p1), .val (.int p2), .val (.int p3), .val (.int p4), .val (.int p5), .unset, .unset, .unset, .unset, .unset, .unset] [])) t := by
    intro t h
    refine k176 t ?_
    show Steps p.tables e below (T173.setTop (mkF m 40 #[.val (.int p0), .val (.int p1), .val (.int p2), .val (.int p3), .val (.int p4), .val (.int p5), .val (.int (Int32.ofNat G)), .val (.ref b161), .unset, .unset, .unset, .unset] [])) _
    refine XS.aload X173.here hx rfl (hb hby at_40) rfl rfl ?_
    show Steps p.tables e below (T173.setTop (mkF m 42 #[.val (.int p0), .val (.int p1), .val (.int p2), .val (.int p3), .val (.int p4), .val (.int p5), .val (.int (Int32.ofNat G)), .val (.ref b161), .unset, .unset, .unset, .unset] [(.ref b161)])) _
    refine XS.iconst X173.here hx rfl (hb hby at_42) ?_
    show Steps p.tables e below (T173.setTop (mkF m 43 #[.val (.int p0), .val (.int p1), .val (.int p2), .val (.int p3), .val (.int p4), .val (.int p5), .val (.int (Int32.ofNat G)), .val (.ref b161), .unset, .unset, .unset, .unset] [(.int (3 : Int32)), (.ref b161)])) _
    refine XS.iload X173.here hx rfl (hb hby at_43) rfl ?_
    show Steps p.tables e below (T173.setTop (mkF m 45 #[.val (.int p0), .val (.int p1), .val (.int p2), .val (.int p3), .val (.int p4), .val (.int p5), .val (.int (Int32.ofNat G)), .val (.ref b161), .unset, .unset, .unset, .unset] [(.int p4), (.int (3 : Int32)), (.ref b161)])) _
    refine XS.iload X173.here hx rfl (hb hby at_45) rfl ?_
    show Steps p.tables e below (T173.setTop (mkF m 47 #[.val (.int p0), .val (.int p1), .val (.int p2), .val (.int p3), .val (.int p4), .val (.int p5), .val (.int (Int32.ofNat G)), .val (.ref b161), .unset, .unset, .unset, .unset] [(.int (Int32.ofNat G)), (.int p4), (.int (3 : Int32)), (.ref b161)])) _
    refine st177 _ ?_
    show Steps p.tables e below (T177.setTop (mkF m 50 #[.val (.int p0), .val (.int p1), .val (.int p2), .val (.int p3), .val (.int p4), .val (.int p5), .val (.int (Int32.ofNat G)), .val (.ref b161), .unset, .unset, .unset, .unset] [(.int (Int32.ofNat n177k - 1)), (.int (3 : Int32)), (.ref b161)])) _
    refine st178 _ ?_
    show Steps p.tables e below (T178.setTop (mkF m 51 #[.val (.int p0), .val (.int p1), .val (.int p2), .val (.int p3), .val (.int p4), .val (.int p5), .val (.int (Int32.ofNat G)), .val (.ref b161), .unset, .unset, .unset, .unset] [])) _
    refine XS.iload X178.here hx rfl (hb hby at_51) rfl ?_
    show Steps p.tables e below (T178.setTop (mkF m 53 #[.val (.int p0), .val (.int p1), .val (.int p2), .val (.int p3), .val (.int p4), .val (.int p5), .val (.int (Int32.ofNat G)), .val (.ref b161), .unset, .unset, .unset, .unset] [(.int p5)])) _
    refine XS.iconst X178.here hx rfl (hb hby at_53) ?_
    show Steps p.tables e below (T178.setTop (mkF m 54 #[.val (.int p0), .val (.int p1), .val (.int p2), .val (.int p3), .val (.int p4), .val (.int p5), .val (.int (Int32.ofNat G)), .val (.ref b161), .unset, .unset, .unset, .unset] [(.int (3 : Int32)), (.int p5)])) _
    refine XS.iand X178.here hx rfl (hb hby at_54) rfl ?_
    show Steps p.tables e below (T178.setTop (mkF m 55 #[.val (.int p0), .val (.int p1), .val (.int p2), .val (.int p3), .val (.int p4), .val (.int p5), .val (.int (Int32.ofNat G)), .val (.ref b161), .unset, .unset, .unset, .unset] [(.int (p5 &&& (3 : Int32)))])) _
    refine XS.istore X178.here hx rfl (hb hby at_55) rfl (l' := #[.val (.int p0), .val (.int p1), .val (.int p2), .val (.int p3), .val (.int p4), .val (.int p5), .val (.int (Int32.ofNat G)), .val (.ref b161), .val (.int (p5 &&& (3 : Int32))), .unset, .unset, .unset]) rfl ?_
    exact h
  obtain ⟨n8, hn8⟩ : ∃ z : Int32, z = (p5 &&& (3 : Int32)) := ⟨_, rfl⟩
  have k182 : ∀ t, Steps p.tables e below (T178.setTop (mkF m 57 #[.val (.int p0), .val (.int p1), .val (.int p2), .val (.int p3), .val (.int p4), .val (.int p5), .val (.int (Int32.ofNat G)), .val (.ref b161), .val (.int n8), .unset, .unset, .unset] [])) t → Steps p.tables e below (s₁.setTop (mkF m 0 #[.val (.int p0), .val (.int p1), .val (.int p2), .val (.int p3), .val (.int p4), .val (.int p5), .unset, .unset, .unset, .unset, .unset, .unset] [])) t := by rw [hn8]; exact k181
  have h4 : n8 = 0 ∨ n8 = 1 ∨ n8 = 2 ∨ n8 = 3 := by rw [hn8]; exact own_four _
  clear hn8
  rcases h4 with rfl | rfl | rfl | rfl
  · skip
    obtain ⟨cl183, Ar183, q183, S183, Ng183, H183, G183⟩ := id V178
    have hin183 : ¬ ((0 : Int32) < 0 ∨ cl183.slots.size ≤ ((0 : Int32)).toNatClampNeg) := inb_of S183 ⟨by decide, by decide⟩
    have k184 : ∀ t, Steps p.tables e below (T178.setTop (mkF m 67 #[.val (.int p0), .val (.int p1), .val (.int p2), .val (.int p3), .val (.int p4), .val (.int p5), .val (.int (Int32.ofNat G)), .val (.ref b161), .val (.int (0 : Int32)), .val (.int (Int32.ofNat n164k - 1)), .val (.int (0 : Int32)), .unset] [])) t → Steps p.tables e below (s₁.setTop (mkF m 0 #[.val (.int p0), .val (.int p1), .val (.int p2), .val (.int p3), .val (.int p4), .val (.int p5), .unset, .unset, .unset, .unset, .unset, .unset] [])) t := by
      intro t h
      refine k182 t ?_
      show Steps p.tables e below (T178.setTop (mkF m 57 #[.val (.int p0), .val (.int p1), .val (.int p2), .val (.int p3), .val (.int p4), .val (.int p5), .val (.int (Int32.ofNat G)), .val (.ref b161), .val (.int (0 : Int32)), .unset, .unset, .unset] [])) _
      refine XS.aload X178.here hx rfl (hb hby at_57) rfl rfl ?_
      show Steps p.tables e below (T178.setTop (mkF m 59 #[.val (.int p0), .val (.int p1), .val (.int p2), .val (.int p3), .val (.int p4), .val (.int p5), .val (.int (Int32.ofNat G)), .val (.ref b161), .val (.int (0 : Int32)), .unset, .unset, .unset] [(.ref b161)])) _
      refine XS.iload X178.here hx rfl (hb hby at_59) rfl ?_
      show Steps p.tables e below (T178.setTop (mkF m 61 #[.val (.int p0), .val (.int p1), .val (.int p2), .val (.int p3), .val (.int p4), .val (.int p5), .val (.int (Int32.ofNat G)), .val (.ref b161), .val (.int (0 : Int32)), .unset, .unset, .unset] [(.int (0 : Int32)), (.ref b161)])) _
      refine X178.iaload hx (j := (0 : Int32)) (v := (.int (Int32.ofNat n164k - 1))) (by rw [e178]; exact Ar183.1) (State.isArrayOf_alike hZ.alike Ar183.2.1) Ar183.2.2 hin183 (H183.at hin183 rfl) (g := (mkF m 61 #[.val (.int p0), .val (.int p1), .val (.int p2), .val (.int p3), .val (.int p4), .val (.int p5), .val (.int (Int32.ofNat G)), .val (.ref b161), .val (.int (0 : Int32)), .unset, .unset, .unset] [(.int (0 : Int32)), (.ref b161)])) rfl rfl (hb hby at_61) _ ?_
      show Steps p.tables e below (T178.setTop (mkF m 62 #[.val (.int p0), .val (.int p1), .val (.int p2), .val (.int p3), .val (.int p4), .val (.int p5), .val (.int (Int32.ofNat G)), .val (.ref b161), .val (.int (0 : Int32)), .unset, .unset, .unset] [(.int (Int32.ofNat n164k - 1))])) _
      refine XS.istore X178.here hx rfl (hb hby at_62) rfl (l' := #[.val (.int p0), .val (.int p1), .val (.int p2), .val (.int p3), .val (.int p4), .val (.int p5), .val (.int (Int32.ofNat G)), .val (.ref b161), .val (.int (0 : Int32)), .val (.int (Int32.ofNat n164k - 1)), .unset, .unset]) rfl ?_
      show Steps p.tables e below (T178.setTop (mkF m 64 #[.val (.int p0), .val (.int p1), .val (.int p2), .val (.int p3), .val (.int p4), .val (.int p5), .val (.int (Int32.ofNat G)), .val (.ref b161), .val (.int (0 : Int32)), .val (.int (Int32.ofNat n164k - 1)), .unset, .unset] [])) _
      refine XS.iconst X178.here hx rfl (hb hby at_64) ?_
      show Steps p.tables e below (T178.setTop (mkF m 65 #[.val (.int p0), .val (.int p1), .val (.int p2), .val (.int p3), .val (.int p4), .val (.int p5), .val (.int (Int32.ofNat G)), .val (.ref b161), .val (.int (0 : Int32)), .val (.int (Int32.ofNat n164k - 1)), .unset, .unset] [(.int (0 : Int32))])) _
      refine XS.istore X178.here hx rfl (hb hby at_65) rfl (l' := #[.val (.int p0), .val (.int p1), .val (.int p2), .val (.int p3), .val (.int p4), .val (.int p5), .val (.int (Int32.ofNat G)), .val (.ref b161), .val (.int (0 : Int32)), .val (.int (Int32.ofNat n164k - 1)), .val (.int (0 : Int32)), .unset]) rfl ?_
      exact h
    obtain ⟨rk, hk185, k185⟩ : ∃ (rk : Int32), (rk = Int32.ofNat (own_B (fun j => [n164k, n168k, n172k, n177k].getD j 0) 0 ((fun j => [n164k, n168k, n172k, n177k].getD j 0) 0))) ∧ ∀ t, Steps p.tables e below (T178.setTop (mkF m 120 #[.val (.int p0), .val (.int p1), .val (.int p2), .val (.int p3), .val (.int p4), .val (.int p5), .val (.int (Int32.ofNat G)), .val (.ref b161), .val (.int (0 : Int32)), .val (.int (Int32.ofNat n164k - 1)), .val (.int rk), .unset] [])) t → Steps p.tables e below (s₁.setTop (mkF m 0 #[.val (.int p0), .val (.int p1), .val (.int p2), .val (.int p3), .val (.int p4), .val (.int p5), .unset, .unset, .unset, .unset, .unset, .unset] [])) t := by
      have k186 : ∀ t, Steps p.tables e below (T178.setTop (mkF m 69 #[.val (.int p0), .val (.int p1), .val (.int p2), .val (.int p3), .val (.int p4), .val (.int p5), .val (.int (Int32.ofNat G)), .val (.ref b161), .val (.int (0 : Int32)), .val (.int (Int32.ofNat n164k - 1)), .val (.int (0 : Int32)), .unset] [(.int (0 : Int32))])) t → Steps p.tables e below (s₁.setTop (mkF m 0 #[.val (.int p0), .val (.int p1), .val (.int p2), .val (.int p3), .val (.int p4), .val (.int p5), .unset, .unset, .unset, .unset, .unset, .unset] [])) t := by
        intro t h
        refine k184 t ?_
        show Steps p.tables e below (T178.setTop (mkF m 67 #[.val (.int p0), .val (.int p1), .val (.int p2), .val (.int p3), .val (.int p4), .val (.int p5), .val (.int (Int32.ofNat G)), .val (.ref b161), .val (.int (0 : Int32)), .val (.int (Int32.ofNat n164k - 1)), .val (.int (0 : Int32)), .unset] [])) _
        refine XS.iload X178.here hx rfl (hb hby at_67) rfl ?_
        exact h
      have k187 : ∀ t, Steps p.tables e below (T178.setTop (mkF m 87 #[.val (.int p0), .val (.int p1), .val (.int p2), .val (.int p3), .val (.int p4), .val (.int p5), .val (.int (Int32.ofNat G)), .val (.ref b161), .val (.int (0 : Int32)), .val (.int (Int32.ofNat n164k - 1)), .val (.int (0 : Int32)), .unset] [(.int (1 : Int32)), (.int (0 : Int32))])) t → Steps p.tables e below (s₁.setTop (mkF m 0 #[.val (.int p0), .val (.int p1), .val (.int p2), .val (.int p3), .val (.int p4), .val (.int p5), .unset, .unset, .unset, .unset, .unset, .unset] [])) t := by
        intro t h
        refine k186 t ?_
        show Steps p.tables e below (T178.setTop (mkF m 69 #[.val (.int p0), .val (.int p1), .val (.int p2), .val (.int p3), .val (.int p4), .val (.int p5), .val (.int (Int32.ofNat G)), .val (.ref b161), .val (.int (0 : Int32)), .val (.int (Int32.ofNat n164k - 1)), .val (.int (0 : Int32)), .unset] [(.int (0 : Int32))])) _
        refine XS.ifYes X178.here hx rfl (pc0 := 69) (pc' := 84) rfl (hb hby at_69) rfl ((if0 _ _).trans (flt (by decide : ¬ ((0 : Int32) < (0 : Int32)))).2.2.2) (by decide) (by decide) ?_
        show Steps p.tables e below (T178.setTop (mkF m 84 #[.val (.int p0), .val (.int p1), .val (.int p2), .val (.int p3), .val (.int p4), .val (.int p5), .val (.int (Int32.ofNat G)), .val (.ref b161), .val (.int (0 : Int32)), .val (.int (Int32.ofNat n164k - 1)), .val (.int (0 : Int32)), .unset] [])) _
        refine XS.iload X178.here hx rfl (hb hby at_84) rfl ?_
        show Steps p.tables e below (T178.setTop (mkF m 86 #[.val (.int p0), .val (.int p1), .val (.int p2), .val (.int p3), .val (.int p4), .val (.int p5), .val (.int (Int32.ofNat G)), .val (.ref b161), .val (.int (0 : Int32)), .val (.int (Int32.ofNat n164k - 1)), .val (.int (0 : Int32)), .unset] [(.int (0 : Int32))])) _
        refine XS.iconst X178.here hx rfl (hb hby at_86) ?_
        exact h
      have k188 : ∀ t, Steps p.tables e below (T178.setTop (mkF m 105 #[.val (.int p0), .val (.int p1), .val (.int p2), .val (.int p3), .val (.int p4), .val (.int p5), .val (.int (Int32.ofNat G)), .val (.ref b161), .val (.int (0 : Int32)), .val (.int (Int32.ofNat n164k - 1)), .val (.int (0 : Int32)), .unset] [(.int (2 : Int32)), (.int (0 : Int32))])) t → Steps p.tables e below (s₁.setTop (mkF m 0 #[.val (.int p0), .val (.int p1), .val (.int p2), .val (.int p3), .val (.int p4), .val (.int p5), .unset, .unset, .unset, .unset, .unset, .unset] [])) t := by
        intro t h
        refine k187 t ?_
        show Steps p.tables e below (T178.setTop (mkF m 87 #[.val (.int p0), .val (.int p1), .val (.int p2), .val (.int p3), .val (.int p4), .val (.int p5), .val (.int (Int32.ofNat G)), .val (.ref b161), .val (.int (0 : Int32)), .val (.int (Int32.ofNat n164k - 1)), .val (.int (0 : Int32)), .unset] [(.int (1 : Int32)), (.int (0 : Int32))])) _
        refine XS.icmpYes X178.here hx rfl (pc0 := 87) (pc' := 102) rfl (hb hby at_87) rfl (flt (by decide : ¬ ((1 : Int32) < (0 : Int32)))).2.2.2 (by decide) (by decide) ?_
        show Steps p.tables e below (T178.setTop (mkF m 102 #[.val (.int p0), .val (.int p1), .val (.int p2), .val (.int p3), .val (.int p4), .val (.int p5), .val (.int (Int32.ofNat G)), .val (.ref b161), .val (.int (0 : Int32)), .val (.int (Int32.ofNat n164k - 1)), .val (.int (0 : Int32)), .unset] [])) _
        refine XS.iload X178.here hx rfl (hb hby at_102) rfl ?_
        show Steps p.tables e below (T178.setTop (mkF m 104 #[.val (.int p0), .val (.int p1), .val (.int p2), .val (.int p3), .val (.int p4), .val (.int p5), .val (.int (Int32.ofNat G)), .val (.ref b161), .val (.int (0 : Int32)), .val (.int (Int32.ofNat n164k - 1)), .val (.int (0 : Int32)), .unset] [(.int (0 : Int32))])) _
        refine XS.iconst X178.here hx rfl (hb hby at_104) ?_
        exact h
      have k189 : ∀ t, Steps p.tables e below (T178.setTop (mkF m 120 #[.val (.int p0), .val (.int p1), .val (.int p2), .val (.int p3), .val (.int p4), .val (.int p5), .val (.int (Int32.ofNat G)), .val (.ref b161), .val (.int (0 : Int32)), .val (.int (Int32.ofNat n164k - 1)), .val (.int (0 : Int32)), .unset] [])) t → Steps p.tables e below (s₁.setTop (mkF m 0 #[.val (.int p0), .val (.int p1), .val (.int p2), .val (.int p3), .val (.int p4), .val (.int p5), .unset, .unset, .unset, .unset, .unset, .unset] [])) t := by
        intro t h
        refine k188 t ?_
        show Steps p.tables e below (T178.setTop (mkF m 105 #[.val (.int p0), .val (.int p1), .val (.int p2), .val (.int p3), .val (.int p4), .val (.int p5), .val (.int (Int32.ofNat G)), .val (.ref b161), .val (.int (0 : Int32)), .val (.int (Int32.ofNat n164k - 1)), .val (.int (0 : Int32)), .unset] [(.int (2 : Int32)), (.int (0 : Int32))])) _
        refine XS.icmpYes X178.here hx rfl (pc0 := 105) (pc' := 120) rfl (hb hby at_105) rfl (flt (by decide : ¬ ((2 : Int32) < (0 : Int32)))).2.2.2 (by decide) (by decide) ?_
        exact h
      exact ⟨(0 : Int32), rfl, k189⟩
    obtain ⟨T190, h190, X190, e190, E190, A190, D190, -, st190⟩ := newO X178 hx hZ hown (hw _ (List.mem_of_getElem? (i := 6) rfl)) (hw _ (List.mem_of_getElem? (i := 7) rfl)) (hw _ (List.mem_of_getElem? (i := 8) rfl)) e178 (g := (mkF m 120 #[.val (.int p0), .val (.int p1), .val (.int p2), .val (.int p3), .val (.int p4), .val (.int p5), .val (.int (Int32.ofNat G)), .val (.ref b161), .val (.int (0 : Int32)), .val (.int (Int32.ofNat n164k - 1)), .val (.int rk), .unset] [])) rfl (hb hby at_120) (by decide) (by decide)
    obtain ⟨b190, g190⟩ : ∃ z, z = h178.size := ⟨_, rfl⟩
    rw [← g190] at A190 D190 st190
    have ne_b161_b190 : b161 ≠ b190 := Nat.ne_of_lt (Nat.lt_of_lt_of_le V178.lt (Nat.le_of_eq g190.symm))
    have g_b190 : n0 ≤ b190 := Nat.le_trans Z179 (Nat.le_of_eq g190.symm)
    have sz_b190 : h0.size ≤ b190 := Nat.le_trans K180.1 (Nat.le_of_eq g190.symm)
    have f191 := V178.ext E190
    have Z192 : n0 ≤ h190.size := Nat.le_trans Z179 E190.1
    have K193 := K180.ext E190
    have f194 : Fld Z h190 b190 "com/example/planwright/planwright/io/Grouping" "starts" "[I" .null := D190 (Or.inr (hw _ (List.mem_of_getElem? (i := 16) rfl))) (ty := (.array .int)) (by decide)
    have f195 : Fld Z h190 b190 "com/example/planwright/planwright/io/Grouping" "members" "[I" .null := D190 (Or.inr (hw _ (List.mem_of_getElem? (i := 18) rfl))) (ty := (.array .int)) (by decide)
    have f197 : own_IA Z h190 b161 4 (fun j => Int32.ofNat ((fun j => [n164k, n168k, n172k, n177k].getD j 0) j) - 1) := own_IA.congr (own_IA.ofV (vs := [(Int32.ofNat n164k - 1), (Int32.ofNat n168k - 1), (Int32.ofNat n172k - 1), (Int32.ofNat n177k - 1)]) f191 rfl) (fun j hj => match j, hj with | 0, _ => rfl | 1, _ => rfl | 2, _ => rfl | 3, _ => rfl)
    obtain ⟨_, _, ⟨T196, L196, k196, n196⟩, -, X196, ⟨Lc196, hQ196, l196, y196, z196⟩, st196⟩ := X190.specialBack hx (y := (⟨"com/example/planwright/planwright/io/Grouping", "<init>", "([II)V"⟩ : MethodName)) rfl hown (mvT hZ (hw _ (List.mem_of_getElem? (i := 9) rfl))) (mvT hZ (hw _ (List.mem_of_getElem? (i := 10) rfl))) (mvT hZ (hw _ (List.mem_of_getElem? (i := 11) rfl))) (by decide) (backOf (W := 1) (rmI l Z a0 hw [] b190 b161 (Int32.ofNat G) G (fun j => [n164k, n168k, n172k, n177k].getD j 0) h190 n0 Z192 f194 f195 A190 f197 g_b190 (Ne.symm ne_b161_b190) rfl (by omega) (fun j hj => match j, hj with | 0, _ => Nat.le_of_lt_succ hn164k | 1, _ => Nat.le_of_lt_succ hn168k | 2, _ => Nat.le_of_lt_succ hn172k | 3, _ => Nat.le_of_lt_succ hn177k)) hZ (hw _ (List.mem_of_getElem? (i := 11) rfl)) (hw _ (List.mem_of_getElem? (i := 8) rfl)) (by decide) (by decide)) (g := (mkF m 128 #[.val (.int p0), .val (.int p1), .val (.int p2), .val (.int p3), .val (.int p4), .val (.int p5), .val (.int (Int32.ofNat G)), .val (.ref b161), .val (.int (0 : Int32)), .val (.int (Int32.ofNat n164k - 1)), .val (.int rk), .unset] [(.int (Int32.ofNat G)), (.ref b161), (.ref b190), (.ref b190)])) rfl (by rw [hml]; rfl) (Steps.refl _) (a := b190) (argsL := [(.ref b161), (.int (Int32.ofNat G))]) (rest := [(.ref b190)]) (lenOf own_pd_1 rfl) rfl (by show 2 * 0 + _ ≤ _; exact Nat.le_of_eq rfl) (hb hby at_128) (fun _ _ => ⟨rfl, e190, (by decide : 2 + 3 ≤ _), (by decide : 6 + 14 ≤ _)⟩)
    dsimp only [Pt.U, Pt.locs, Pt.cells, Pt.slots] at X196 l196 y196 z196 st196 hQ196
    subst l196 y196 z196
    obtain ⟨rfl, Nq196, Kq196, ba196, bb196, Fa196, Aa196, Fb196, Ab196⟩ := hQ196
    have N196 := Fr.app N178 Nq196
    have f198 := f191.keep Kq196 (ninS ne_b161_b190 nin0)
    have f199 := A190.keep Kq196
    have Z200 : n0 ≤ T196.heap.size := Nat.le_trans Z192 Kq196.1
    have K201 := K193.trans Kq196 (allS (Or.inr sz_b190) all0)
    obtain ⟨cq202, kq202, q202a, q202b, q202c⟩ := isOf hZ rfl f199
    obtain ⟨_, _, ⟨T202, L202, k202, n202⟩, -, X202, ⟨Lc202, hQ202, l202, y202, z202⟩, st202⟩ := X196.virtualBack hx (y := (⟨"com/example/planwright/planwright/io/Grouping", "member", "(II)I"⟩ : MethodName)) (z := (⟨"com/example/planwright/planwright/io/Grouping", "member", "(II)I"⟩ : MethodName)) hown (mvT hZ (hw _ (List.mem_of_getElem? (i := 28) rfl))) (mvT hZ (hw _ (List.mem_of_getElem? (i := 29) rfl))) (notFace_of_selects (args := #[]) (mvT hZ (hw _ (List.mem_of_getElem? (i := 31) rfl)))) (mvT hZ (hw _ (List.mem_of_getElem? (i := 31) rfl))) (mvT hZ (hw _ (List.mem_of_getElem? (i := 30) rfl))) (by decide) (backOf (W := 0) (rmM l Z a0 hw [] b190 (Int32.ofNat n164k - 1) rk ba196 (G + 2) (fun j => Int32.ofNat (own_A (fun j => [n164k, n168k, n172k, n177k].getD j 0) 4 j)) ((fun j => [n164k, n168k, n172k, n177k].getD j 0) 0) bb196 4 (fun j => Int32.ofNat (own_M (fun j => [n164k, n168k, n172k, n177k].getD j 0) 4 4 j)) (own_A (fun j => [n164k, n168k, n172k, n177k].getD j 0) 4 ((fun j => [n164k, n168k, n172k, n177k].getD j 0) 0) + own_B (fun j => [n164k, n168k, n172k, n177k].getD j 0) 0 ((fun j => [n164k, n168k, n172k, n177k].getD j 0) 0)) T196.heap n0 Z200 Fa196 Aa196 (by omega) Fb196 Ab196 (by decide) (own_km1 _) (Nat.lt_of_lt_of_le hn164k (Nat.le_succ _)) (by rw [hk185]; exact own_ofadd _ _) (own_pos_lt (fun j => [n164k, n168k, n172k, n177k].getD j 0) (t := 0) (by decide))) hZ (hw _ (List.mem_of_getElem? (i := 32) rfl)) (hw _ (List.mem_of_getElem? (i := 8) rfl)) (by decide) (by decide)) q202a q202c (g := (mkF m 139 #[.val (.int p0), .val (.int p1), .val (.int p2), .val (.int p3), .val (.int p4), .val (.int p5), .val (.int (Int32.ofNat G)), .val (.ref b161), .val (.int (0 : Int32)), .val (.int (Int32.ofNat n164k - 1)), .val (.int rk), .val (.ref b190)] [(.int rk), (.int (Int32.ofNat n164k - 1)), (.ref b190)])) rfl (by rw [hml]; rfl) (Steps.refl _) (argsL := [(.int (Int32.ofNat n164k - 1)), (.int rk)]) (rest := []) (lenOf own_pd_0 rfl) rfl (by show 2 * 0 + _ ≤ _; exact Nat.le_of_eq rfl) (hb hby at_139) (fun _ _ => ⟨rfl, rfl, (by decide : 5 + 0 ≤ _), (by decide : 20 + 0 ≤ _)⟩)
    dsimp only [Pt.U, Pt.locs, Pt.cells, Pt.slots] at X202 l202 y202 z202 st202 hQ202
    subst l202 y202 z202
    obtain ⟨rfl, Nq202, eq202⟩ := hQ202
    have N202 := Fr.app N196 Nq202
    have k203 : ∀ t, Steps p.tables e below (T202.setTop (mkF m 144 #[.val (.int p0), .val (.int p1), .val (.int p2), .val (.int p3), .val (.int p4), .val (.int p5), .val (.int (Int32.ofNat G)), .val (.ref b161), .val (.int (0 : Int32)), .val (.int (Int32.ofNat n164k - 1)), .val (.int rk), .val (.ref b190)] [(.int (0 : Int32)), (.int (Int32.ofNat (own_M (fun j => [n164k, n168k, n172k, n177k].getD j 0) 4 4 (own_A (fun j => [n164k, n168k, n172k, n177k].getD j 0) 4 ((fun j => [n164k, n168k, n172k, n177k].getD j 0) 0) + own_B (fun j => [n164k, n168k, n172k, n177k].getD j 0) 0 ((fun j => [n164k, n168k, n172k, n177k].getD j 0) 0)))))])) t → Steps p.tables e below (s₁.setTop (mkF m 0 #[.val (.int p0), .val (.int p1), .val (.int p2), .val (.int p3), .val (.int p4), .val (.int p5), .unset, .unset, .unset, .unset, .unset, .unset] [])) t := by
      intro t h
      refine k185 t ?_
      show Steps p.tables e below (T178.setTop (mkF m 120 #[.val (.int p0), .val (.int p1), .val (.int p2), .val (.int p3), .val (.int p4), .val (.int p5), .val (.int (Int32.ofNat G)), .val (.ref b161), .val (.int (0 : Int32)), .val (.int (Int32.ofNat n164k - 1)), .val (.int rk), .unset] [])) _
      refine st190 _ ?_
      show Steps p.tables e below (T190.setTop (mkF m 123 #[.val (.int p0), .val (.int p1), .val (.int p2), .val (.int p3), .val (.int p4), .val (.int p5), .val (.int (Int32.ofNat G)), .val (.ref b161), .val (.int (0 : Int32)), .val (.int (Int32.ofNat n164k - 1)), .val (.int rk), .unset] [(.ref b190)])) _
      refine XS.dup X190.here hx rfl (hb hby at_123) rfl rfl ?_
      show Steps p.tables e below (T190.setTop (mkF m 124 #[.val (.int p0), .val (.int p1), .val (.int p2), .val (.int p3), .val (.int p4), .val (.int p5), .val (.int (Int32.ofNat G)), .val (.ref b161), .val (.int (0 : Int32)), .val (.int (Int32.ofNat n164k - 1)), .val (.int rk), .unset] [(.ref b190), (.ref b190)])) _
      refine XS.aload X190.here hx rfl (hb hby at_124) rfl rfl ?_
      show Steps p.tables e below (T190.setTop (mkF m 126 #[.val (.int p0), .val (.int p1), .val (.int p2), .val (.int p3), .val (.int p4), .val (.int p5), .val (.int (Int32.ofNat G)), .val (.ref b161), .val (.int (0 : Int32)), .val (.int (Int32.ofNat n164k - 1)), .val (.int rk), .unset] [(.ref b161), (.ref b190), (.ref b190)])) _
      refine XS.iload X190.here hx rfl (hb hby at_126) rfl ?_
      show Steps p.tables e below (T190.setTop (mkF m 128 #[.val (.int p0), .val (.int p1), .val (.int p2), .val (.int p3), .val (.int p4), .val (.int p5), .val (.int (Int32.ofNat G)), .val (.ref b161), .val (.int (0 : Int32)), .val (.int (Int32.ofNat n164k - 1)), .val (.int rk), .unset] [(.int (Int32.ofNat G)), (.ref b161), (.ref b190), (.ref b190)])) _
      refine st196.trans ?_
      show Steps p.tables e below (T196.setTop (mkF m 131 #[.val (.int p0), .val (.int p1), .val (.int p2), .val (.int p3), .val (.int p4), .val (.int p5), .val (.int (Int32.ofNat G)), .val (.ref b161), .val (.int (0 : Int32)), .val (.int (Int32.ofNat n164k - 1)), .val (.int rk), .unset] [(.ref b190)])) _
      refine XS.astore X196.here hx rfl (hb hby at_131) rfl rfl (l' := #[.val (.int p0), .val (.int p1), .val (.int p2), .val (.int p3), .val (.int p4), .val (.int p5), .val (.int (Int32.ofNat G)), .val (.ref b161), .val (.int (0 : Int32)), .val (.int (Int32.ofNat n164k - 1)), .val (.int rk), .val (.ref b190)]) rfl ?_
      show Steps p.tables e below (T196.setTop (mkF m 133 #[.val (.int p0), .val (.int p1), .val (.int p2), .val (.int p3), .val (.int p4), .val (.int p5), .val (.int (Int32.ofNat G)), .val (.ref b161), .val (.int (0 : Int32)), .val (.int (Int32.ofNat n164k - 1)), .val (.int rk), .val (.ref b190)] [])) _
      refine XS.aload X196.here hx rfl (hb hby at_133) rfl rfl ?_
      show Steps p.tables e below (T196.setTop (mkF m 135 #[.val (.int p0), .val (.int p1), .val (.int p2), .val (.int p3), .val (.int p4), .val (.int p5), .val (.int (Int32.ofNat G)), .val (.ref b161), .val (.int (0 : Int32)), .val (.int (Int32.ofNat n164k - 1)), .val (.int rk), .val (.ref b190)] [(.ref b190)])) _
      refine XS.iload X196.here hx rfl (hb hby at_135) rfl ?_
      show Steps p.tables e below (T196.setTop (mkF m 137 #[.val (.int p0), .val (.int p1), .val (.int p2), .val (.int p3), .val (.int p4), .val (.int p5), .val (.int (Int32.ofNat G)), .val (.ref b161), .val (.int (0 : Int32)), .val (.int (Int32.ofNat n164k - 1)), .val (.int rk), .val (.ref b190)] [(.int (Int32.ofNat n164k - 1)), (.ref b190)])) _
      refine XS.iload X196.here hx rfl (hb hby at_137) rfl ?_
      show Steps p.tables e below (T196.setTop (mkF m 139 #[.val (.int p0), .val (.int p1), .val (.int p2), .val (.int p3), .val (.int p4), .val (.int p5), .val (.int (Int32.ofNat G)), .val (.ref b161), .val (.int (0 : Int32)), .val (.int (Int32.ofNat n164k - 1)), .val (.int rk), .val (.ref b190)] [(.int rk), (.int (Int32.ofNat n164k - 1)), (.ref b190)])) _
      refine st202.trans ?_
      show Steps p.tables e below (T202.setTop (mkF m 142 #[.val (.int p0), .val (.int p1), .val (.int p2), .val (.int p3), .val (.int p4), .val (.int p5), .val (.int (Int32.ofNat G)), .val (.ref b161), .val (.int (0 : Int32)), .val (.int (Int32.ofNat n164k - 1)), .val (.int rk), .val (.ref b190)] [(.int (Int32.ofNat (own_M (fun j => [n164k, n168k, n172k, n177k].getD j 0) 4 4 (own_A (fun j => [n164k, n168k, n172k, n177k].getD j 0) 4 ((fun j => [n164k, n168k, n172k, n177k].getD j 0) 0) + own_B (fun j => [n164k, n168k, n172k, n177k].getD j 0) 0 ((fun j => [n164k, n168k, n172k, n177k].getD j 0) 0)))))])) _
      refine XS.iload X202.here hx rfl (hb hby at_142) rfl ?_
      exact h
    have b144_204 : (Int32.ofNat (own_M (fun j => [n164k, n168k, n172k, n177k].getD j 0) 4 4 (own_A (fun j => [n164k, n168k, n172k, n177k].getD j 0) 4 ((fun j => [n164k, n168k, n172k, n177k].getD j 0) 0) + own_B (fun j => [n164k, n168k, n172k, n177k].getD j 0) 0 ((fun j => [n164k, n168k, n172k, n177k].getD j 0) 0)))) = (0 : Int32) := congrArg Int32.ofNat (own_M_at (fun j => [n164k, n168k, n172k, n177k].getD j 0) (n := 0) (N := 4) 4 (by decide) (by decide))
    have k205 : ∀ t, Steps p.tables e below (T202.setTop (mkF m 152 #[.val (.int p0), .val (.int p1), .val (.int p2), .val (.int p3), .val (.int p4), .val (.int p5), .val (.int (Int32.ofNat G)), .val (.ref b161), .val (.int (0 : Int32)), .val (.int (Int32.ofNat n164k - 1)), .val (.int rk), .val (.ref b190)] [(.int (1 : Int32))])) t → Steps p.tables e below (s₁.setTop (mkF m 0 #[.val (.int p0), .val (.int p1), .val (.int p2), .val (.int p3), .val (.int p4), .val (.int p5), .unset, .unset, .unset, .unset, .unset, .unset] [])) t := by
      intro t h
      refine k203 t ?_
      show Steps p.tables e below (T202.setTop (mkF m 144 #[.val (.int p0), .val (.int p1), .val (.int p2), .val (.int p3), .val (.int p4), .val (.int p5), .val (.int (Int32.ofNat G)), .val (.ref b161), .val (.int (0 : Int32)), .val (.int (Int32.ofNat n164k - 1)), .val (.int rk), .val (.ref b190)] [(.int (0 : Int32)), (.int (Int32.ofNat (own_M (fun j => [n164k, n168k, n172k, n177k].getD j 0) 4 4 (own_A (fun j => [n164k, n168k, n172k, n177k].getD j 0) 4 ((fun j => [n164k, n168k, n172k, n177k].getD j 0) 0) + own_B (fun j => [n164k, n168k, n172k, n177k].getD j 0) 0 ((fun j => [n164k, n168k, n172k, n177k].getD j 0) 0)))))])) _
      refine XS.icmpNo X202.here hx rfl (hb hby at_144) rfl (teq b144_204).2 ?_
      show Steps p.tables e below (T202.setTop (mkF m 147 #[.val (.int p0), .val (.int p1), .val (.int p2), .val (.int p3), .val (.int p4), .val (.int p5), .val (.int (Int32.ofNat G)), .val (.ref b161), .val (.int (0 : Int32)), .val (.int (Int32.ofNat n164k - 1)), .val (.int rk), .val (.ref b190)] [])) _
      refine XS.iconst X202.here hx rfl (hb hby at_147) ?_
      show Steps p.tables e below (T202.setTop (mkF m 148 #[.val (.int p0), .val (.int p1), .val (.int p2), .val (.int p3), .val (.int p4), .val (.int p5), .val (.int (Int32.ofNat G)), .val (.ref b161), .val (.int (0 : Int32)), .val (.int (Int32.ofNat n164k - 1)), .val (.int rk), .val (.ref b190)] [(.int (1 : Int32))])) _
      refine XS.goto X202.here hx rfl (pc0 := 148) (pc' := 152) rfl (hb hby at_148) (by decide) (by decide) ?_
      exact h
    obtain ⟨fs, hr, hrun, hended, hW, hsame⟩ := X202.leave (v := some (.int (1 : Int32))) (fun h => by rw [Bd.returns] at h; cases h) Bd.notSynchronized
    refine ⟨_, _, pre0 _ (k205 _ ?_), hrun, hended, _, _, rfl, ?_, ⟨_, rfl⟩, hW, hsame.mono (by decide) (by decide)⟩
    · exact retN X202 hx (t := .boolean) Bd.returns (by simp) (hb hby at_152) hr
    · show Q_rm0 Z _ _ _ _ _ _ h0 n0 _ T202.heap _
      rw [eq202]
      exact ⟨rfl, N202⟩
  · skip
    obtain ⟨cl206, Ar206, q206, S206, Ng206, H206, G206⟩ := id V178
    have hin206 : ¬ ((1 : Int32) < 0 ∨ cl206.slots.size ≤ ((1 : Int32)).toNatClampNeg) := inb_of S206 ⟨by decide, by decide⟩
    have k207 : ∀ t, Steps p.tables e below (T178.setTop (mkF m 67 #[.val (.int p0), .val (.int p1), .val (.int p2), .val (.int p3), .val (.int p4), .val (.int p5), .val (.int (Int32.ofNat G)), .val (.ref b161), .val (.int (1 : Int32)), .val (.int (Int32.ofNat n168k - 1)), .val (.int (0 : Int32)), .unset] [])) t → Steps p.tables e below (s₁.setTop (mkF m 0 #[.val (.int p0), .val (.int p1), .val (.int p2), .val (.int p3), .val (.int p4), .val (.int p5), .unset, .unset, .unset, .unset, .unset, .unset] [])) t := by
      intro t h
      refine k182 t ?_
      show Steps p.tables e below (T178.setTop (mkF m 57 #[.val (.int p0), .val (.int p1), .val (.int p2), .val (.int p3), .val (.int p4), .val (.int p5), .val (.int (Int32.ofNat G)), .val (.ref b161), .val (.int (1 : Int32)), .unset, .unset, .unset] [])) _
      refine XS.aload X178.here hx rfl (hb hby at_57) rfl rfl ?_
      show Steps p.tables e below (T178.setTop (mkF m 59 #[.val (.int p0), .val (.int p1), .val (.int p2), .val (.int p3), .val (.int p4), .val (.int p5), .val (.int (Int32.ofNat G)), .val (.ref b161), .val (.int (1 : Int32)), .unset, .unset, .unset] [(.ref b161)])) _
      refine XS.iload X178.here hx rfl (hb hby at_59) rfl ?_
      show Steps p.tables e below (T178.setTop (mkF m 61 #[.val (.int p0), .val (.int p1), .val (.int p2), .val (.int p3), .val (.int p4), .val (.int p5), .val (.int (Int32.ofNat G)), .val (.ref b161), .val (.int (1 : Int32)), .unset, .unset, .unset] [(.int (1 : Int32)), (.ref b161)])) _
      refine X178.iaload hx (j := (1 : Int32)) (v := (.int (Int32.ofNat n168k - 1))) (by rw [e178]; exact Ar206.1) (State.isArrayOf_alike hZ.alike Ar206.2.1) Ar206.2.2 hin206 (H206.at hin206 rfl) (g := (mkF m 61 #[.val (.int p0), .val (.int p1), .val (.int p2), .val (.int p3), .val (.int p4), .val (.int p5), .val (.int (Int32.ofNat G)), .val (.ref b161), .val (.int (1 : Int32)), .unset, .unset, .unset] [(.int (1 : Int32)), (.ref b161)])) rfl rfl (hb hby at_61) _ ?_
      show Steps p.tables e below (T178.setTop (mkF m 62 #[.val (.int p0), .val (.int p1), .val (.int p2), .val (.int p3), .val (.int p4), .val (.int p5), .val (.int (Int32.ofNat G)), .val (.ref b161), .val (.int (1 : Int32)), .unset, .unset, .unset] [(.int (Int32.ofNat n168k - 1))])) _
      refine XS.istore X178.here hx rfl (hb hby at_62) rfl (l' := #[.val (.int p0), .val (.int p1), .val (.int p2), .val (.int p3), .val (.int p4), .val (.int p5), .val (.int (Int32.ofNat G)), .val (.ref b161), .val (.int (1 : Int32)), .val (.int (Int32.ofNat n168k - 1)), .unset, .unset]) rfl ?_
      show Steps p.tables e below (T178.setTop (mkF m 64 #[.val (.int p0), .val (.int p1), .val (.int p2), .val (.int p3), .val (.int p4), .val (.int p5), .val (.int (Int32.ofNat G)), .val (.ref b161), .val (.int (1 : Int32)), .val (.int (Int32.ofNat n168k - 1)), .unset, .unset] [])) _
      refine XS.iconst X178.here hx rfl (hb hby at_64) ?_
      show Steps p.tables e below (T178.setTop (mkF m 65 #[.val (.int p0), .val (.int p1), .val (.int p2), .val (.int p3), .val (.int p4), .val (.int p5), .val (.int (Int32.ofNat G)), .val (.ref b161), .val (.int (1 : Int32)), .val (.int (Int32.ofNat n168k - 1)), .unset, .unset] [(.int (0 : Int32))])) _
      refine XS.istore X178.here hx rfl (hb hby at_65) rfl (l' := #[.val (.int p0), .val (.int p1), .val (.int p2), .val (.int p3), .val (.int p4), .val (.int p5), .val (.int (Int32.ofNat G)), .val (.ref b161), .val (.int (1 : Int32)), .val (.int (Int32.ofNat n168k - 1)), .val (.int (0 : Int32)), .unset]) rfl ?_
      exact h
    obtain ⟨rk, hk208, k208⟩ : ∃ (rk : Int32), (rk = Int32.ofNat (own_B (fun j => [n164k, n168k, n172k, n177k].getD j 0) 1 ((fun j => [n164k, n168k, n172k, n177k].getD j 0) 1))) ∧ ∀ t, Steps p.tables e below (T178.setTop (mkF m 120 #[.val (.int p0), .val (.int p1), .val (.int p2), .val (.int p3), .val (.int p4), .val (.int p5), .val (.int (Int32.ofNat G)), .val (.ref b161), .val (.int (1 : Int32)), .val (.int (Int32.ofNat n168k - 1)), .val (.int rk), .unset] [])) t → Steps p.tables e below (s₁.setTop (mkF m 0 #[.val (.int p0), .val (.int p1), .val (.int p2), .val (.int p3), .val (.int p4), .val (.int p5), .unset, .unset, .unset, .unset, .unset, .unset] [])) t := by
      have k209 : ∀ t, Steps p.tables e below (T178.setTop (mkF m 69 #[.val (.int p0), .val (.int p1), .val (.int p2), .val (.int p3), .val (.int p4), .val (.int p5), .val (.int (Int32.ofNat G)), .val (.ref b161), .val (.int (1 : Int32)), .val (.int (Int32.ofNat n168k - 1)), .val (.int (0 : Int32)), .unset] [(.int (1 : Int32))])) t → Steps p.tables e below (s₁.setTop (mkF m 0 #[.val (.int p0), .val (.int p1), .val (.int p2), .val (.int p3), .val (.int p4), .val (.int p5), .unset, .unset, .unset, .unset, .unset, .unset] [])) t := by
        intro t h
        refine k207 t ?_
        show Steps p.tables e below (T178.setTop (mkF m 67 #[.val (.int p0), .val (.int p1), .val (.int p2), .val (.int p3), .val (.int p4), .val (.int p5), .val (.int (Int32.ofNat G)), .val (.ref b161), .val (.int (1 : Int32)), .val (.int (Int32.ofNat n168k - 1)), .val (.int (0 : Int32)), .unset] [])) _
        refine XS.iload X178.here hx rfl (hb hby at_67) rfl ?_
        exact h
      obtain ⟨cl210, Ar210, q210, S210, Ng210, H210, G210⟩ := id V178
      have hin210 : ¬ ((0 : Int32) < 0 ∨ cl210.slots.size ≤ ((0 : Int32)).toNatClampNeg) := inb_of S210 ⟨by decide, by decide⟩
      have k211 : ∀ t, Steps p.tables e below (T178.setTop (mkF m 78 #[.val (.int p0), .val (.int p1), .val (.int p2), .val (.int p3), .val (.int p4), .val (.int p5), .val (.int (Int32.ofNat G)), .val (.ref b161), .val (.int (1 : Int32)), .val (.int (Int32.ofNat n168k - 1)), .val (.int (0 : Int32)), .unset] [(.int (Int32.ofNat n168k - 1)), (.int (Int32.ofNat n164k - 1))])) t → Steps p.tables e below (s₁.setTop (mkF m 0 #[.val (.int p0), .val (.int p1), .val (.int p2), .val (.int p3), .val (.int p4), .val (.int p5), .unset, .unset, .unset, .unset, .unset, .unset] [])) t := by
        intro t h
        refine k209 t ?_
        show Steps p.tables e below (T178.setTop (mkF m 69 #[.val (.int p0), .val (.int p1), .val (.int p2), .val (.int p3), .val (.int p4), .val (.int p5), .val (.int (Int32.ofNat G)), .val (.ref b161), .val (.int (1 : Int32)), .val (.int (Int32.ofNat n168k - 1)), .val (.int (0 : Int32)), .unset] [(.int (1 : Int32))])) _
        refine XS.ifNo X178.here hx rfl (hb hby at_69) rfl ((if0 _ _).trans (tlt (by decide : (0 : Int32) < (1 : Int32))).2.2.2) ?_
        show Steps p.tables e below (T178.setTop (mkF m 72 #[.val (.int p0), .val (.int p1), .val (.int p2), .val (.int p3), .val (.int p4), .val (.int p5), .val (.int (Int32.ofNat G)), .val (.ref b161), .val (.int (1 : Int32)), .val (.int (Int32.ofNat n168k - 1)), .val (.int (0 : Int32)), .unset] [])) _
        refine XS.aload X178.here hx rfl (hb hby at_72) rfl rfl ?_
        show Steps p.tables e below (T178.setTop (mkF m 74 #[.val (.int p0), .val (.int p1), .val (.int p2), .val (.int p3), .val (.int p4), .val (.int p5), .val (.int (Int32.ofNat G)), .val (.ref b161), .val (.int (1 : Int32)), .val (.int (Int32.ofNat n168k - 1)), .val (.int (0 : Int32)), .unset] [(.ref b161)])) _
        refine XS.iconst X178.here hx rfl (hb hby at_74) ?_
        show Steps p.tables e below (T178.setTop (mkF m 75 #[.val (.int p0), .val (.int p1), .val (.int p2), .val (.int p3), .val (.int p4), .val (.int p5), .val (.int (Int32.ofNat G)), .val (.ref b161), .val (.int (1 : Int32)), .val (.int (Int32.ofNat n168k - 1)), .val (.int (0 : Int32)), .unset] [(.int (0 : Int32)), (.ref b161)])) _
        refine X178.iaload hx (j := (0 : Int32)) (v := (.int (Int32.ofNat n164k - 1))) (by rw [e178]; exact Ar210.1) (State.isArrayOf_alike hZ.alike Ar210.2.1) Ar210.2.2 hin210 (H210.at hin210 rfl) (g := (mkF m 75 #[.val (.int p0), .val (.int p1), .val (.int p2), .val (.int p3), .val (.int p4), .val (.int p5), .val (.int (Int32.ofNat G)), .val (.ref b161), .val (.int (1 : Int32)), .val (.int (Int32.ofNat n168k - 1)), .val (.int (0 : Int32)), .unset] [(.int (0 : Int32)), (.ref b161)])) rfl rfl (hb hby at_75) _ ?_
        show Steps p.tables e below (T178.setTop (mkF m 76 #[.val (.int p0), .val (.int p1), .val (.int p2), .val (.int p3), .val (.int p4), .val (.int p5), .val (.int (Int32.ofNat G)), .val (.ref b161), .val (.int (1 : Int32)), .val (.int (Int32.ofNat n168k - 1)), .val (.int (0 : Int32)), .unset] [(.int (Int32.ofNat n164k - 1))])) _
        refine XS.iload X178.here hx rfl (hb hby at_76) rfl ?_
        exact h
      by_cases c78_212 : (Int32.ofNat n164k - 1) = (Int32.ofNat n168k - 1)
      · skip
        have k213 : ∀ t, Steps p.tables e below (T178.setTop (mkF m 87 #[.val (.int p0), .val (.int p1), .val (.int p2), .val (.int p3), .val (.int p4), .val (.int p5), .val (.int (Int32.ofNat G)), .val (.ref b161), .val (.int (1 : Int32)), .val (.int (Int32.ofNat n168k - 1)), .val (.int (1 : Int32)), .unset] [(.int (1 : Int32)), (.int (1 : Int32))])) t → Steps p.tables e below (s₁.setTop (mkF m 0 #[.val (.int p0), .val (.int p1), .val (.int p2), .val (.int p3), .val (.int p4), .val (.int p5), .unset, .unset, .unset, .unset, .unset, .unset] [])) t := by
          intro t h
          refine k211 t ?_
          show Steps p.tables e below (T178.setTop (mkF m 78 #[.val (.int p0), .val (.int p1), .val (.int p2), .val (.int p3), .val (.int p4), .val (.int p5), .val (.int (Int32.ofNat G)), .val (.ref b161), .val (.int (1 : Int32)), .val (.int (Int32.ofNat n168k - 1)), .val (.int (0 : Int32)), .unset] [(.int (Int32.ofNat n168k - 1)), (.int (Int32.ofNat n164k - 1))])) _
          refine XS.icmpNo X178.here hx rfl (hb hby at_78) rfl (teq c78_212).2 ?_
          show Steps p.tables e below (T178.setTop (mkF m 81 #[.val (.int p0), .val (.int p1), .val (.int p2), .val (.int p3), .val (.int p4), .val (.int p5), .val (.int (Int32.ofNat G)), .val (.ref b161), .val (.int (1 : Int32)), .val (.int (Int32.ofNat n168k - 1)), .val (.int (0 : Int32)), .unset] [])) _
          refine XS.iinc X178.here hx rfl (hb hby at_81) rfl (l' := #[.val (.int p0), .val (.int p1), .val (.int p2), .val (.int p3), .val (.int p4), .val (.int p5), .val (.int (Int32.ofNat G)), .val (.ref b161), .val (.int (1 : Int32)), .val (.int (Int32.ofNat n168k - 1)), .val (.int (1 : Int32)), .unset]) rfl ?_
          show Steps p.tables e below (T178.setTop (mkF m 84 #[.val (.int p0), .val (.int p1), .val (.int p2), .val (.int p3), .val (.int p4), .val (.int p5), .val (.int (Int32.ofNat G)), .val (.ref b161), .val (.int (1 : Int32)), .val (.int (Int32.ofNat n168k - 1)), .val (.int (1 : Int32)), .unset] [])) _
          refine XS.iload X178.here hx rfl (hb hby at_84) rfl ?_
          show Steps p.tables e below (T178.setTop (mkF m 86 #[.val (.int p0), .val (.int p1), .val (.int p2), .val (.int p3), .val (.int p4), .val (.int p5), .val (.int (Int32.ofNat G)), .val (.ref b161), .val (.int (1 : Int32)), .val (.int (Int32.ofNat n168k - 1)), .val (.int (1 : Int32)), .unset] [(.int (1 : Int32))])) _
          refine XS.iconst X178.here hx rfl (hb hby at_86) ?_
          exact h
        have k214 : ∀ t, Steps p.tables e below (T178.setTop (mkF m 105 #[.val (.int p0), .val (.int p1), .val (.int p2), .val (.int p3), .val (.int p4), .val (.int p5), .val (.int (Int32.ofNat G)), .val (.ref b161), .val (.int (1 : Int32)), .val (.int (Int32.ofNat n168k - 1)), .val (.int (1 : Int32)), .unset] [(.int (2 : Int32)), (.int (1 : Int32))])) t → Steps p.tables e below (s₁.setTop (mkF m 0 #[.val (.int p0), .val (.int p1), .val (.int p2), .val (.int p3), .val (.int p4), .val (.int p5), .unset, .unset, .unset, .unset, .unset, .unset] [])) t := by
          intro t h
          refine k213 t ?_
          show Steps p.tables e below (T178.setTop (mkF m 87 #[.val (.int p0), .val (.int p1), .val (.int p2), .val (.int p3), .val (.int p4), .val (.int p5), .val (.int (Int32.ofNat G)), .val (.ref b161), .val (.int (1 : Int32)), .val (.int (Int32.ofNat n168k - 1)), .val (.int (1 : Int32)), .unset] [(.int (1 : Int32)), (.int (1 : Int32))])) _
          refine XS.icmpYes X178.here hx rfl (pc0 := 87) (pc' := 102) rfl (hb hby at_87) rfl (flt (by decide : ¬ ((1 : Int32) < (1 : Int32)))).2.2.2 (by decide) (by decide) ?_
          show Steps p.tables e below (T178.setTop (mkF m 102 #[.val (.int p0), .val (.int p1), .val (.int p2), .val (.int p3), .val (.int p4), .val (.int p5), .val (.int (Int32.ofNat G)), .val (.ref b161), .val (.int (1 : Int32)), .val (.int (Int32.ofNat n168k - 1)), .val (.int (1 : Int32)), .unset] [])) _
          refine XS.iload X178.here hx rfl (hb hby at_102) rfl ?_
          show Steps p.tables e below (T178.setTop (mkF m 104 #[.val (.int p0), .val (.int p1), .val (.int p2), .val (.int p3), .val (.int p4), .val (.int p5), .val (.int (Int32.ofNat G)), .val (.ref b161), .val (.int (1 : Int32)), .val (.int (Int32.ofNat n168k - 1)), .val (.int (1 : Int32)), .unset] [(.int (1 : Int32))])) _
          refine XS.iconst X178.here hx rfl (hb hby at_104) ?_
          exact h
        have k215 : ∀ t, Steps p.tables e below (T178.setTop (mkF m 120 #[.val (.int p0), .val (.int p1), .val (.int p2), .val (.int p3), .val (.int p4), .val (.int p5), .val (.int (Int32.ofNat G)), .val (.ref b161), .val (.int (1 : Int32)), .val (.int (Int32.ofNat n168k - 1)), .val (.int (1 : Int32)), .unset] [])) t → Steps p.tables e below (s₁.setTop (mkF m 0 #[.val (.int p0), .val (.int p1), .val (.int p2), .val (.int p3), .val (.int p4), .val (.int p5), .unset, .unset, .unset, .unset, .unset, .unset] [])) t := by
          intro t h
          refine k214 t ?_
          show Steps p.tables e below (T178.setTop (mkF m 105 #[.val (.int p0), .val (.int p1), .val (.int p2), .val (.int p3), .val (.int p4), .val (.int p5), .val (.int (Int32.ofNat G)), .val (.ref b161), .val (.int (1 : Int32)), .val (.int (Int32.ofNat n168k - 1)), .val (.int (1 : Int32)), .unset] [(.int (2 : Int32)), (.int (1 : Int32))])) _
          refine XS.icmpYes X178.here hx rfl (pc0 := 105) (pc' := 120) rfl (hb hby at_105) rfl (flt (by decide : ¬ ((2 : Int32) < (1 : Int32)))).2.2.2 (by decide) (by decide) ?_
          exact h
        exact ⟨(1 : Int32), (by
              rw [own_keyeq (by omega) (by omega)] at c78_212
              simp [own_B, c78_212]), k215⟩
      · skip
        have k216 : ∀ t, Steps p.tables e below (T178.setTop (mkF m 87 #[.val (.int p0), .val (.int p1), .val (.int p2), .val (.int p3), .val (.int p4), .val (.int p5), .val (.int (Int32.ofNat G)), .val (.ref b161), .val (.int (1 : Int32)), .val (.int (Int32.ofNat n168k - 1)), .val (.int (0 : Int32)), .unset] [(.int (1 : Int32)), (.int (1 : Int32))])) t → Steps p.tables e below (s₁.setTop (mkF m 0 #[.val (.int p0), .val (.int p1), .val (.int p2), .val (.int p3), .val (.int p4), .val (.int p5), .unset, .unset, .unset, .unset, .unset, .unset] [])) t := by
          intro t h
          refine k211 t ?_
          show Steps p.tables e below (T178.setTop (mkF m 78 #[.val (.int p0), .val (.int p1), .val (.int p2), .val (.int p3), .val (.int p4), .val (.int p5), .val (.int (Int32.ofNat G)), .val (.ref b161), .val (.int (1 : Int32)), .val (.int (Int32.ofNat n168k - 1)), .val (.int (0 : Int32)), .unset] [(.int (Int32.ofNat n168k - 1)), (.int (Int32.ofNat n164k - 1))])) _
          refine XS.icmpYes X178.here hx rfl (pc0 := 78) (pc' := 84) rfl (hb hby at_78) rfl (feq c78_212).2 (by decide) (by decide) ?_
          show Steps p.tables e below (T178.setTop (mkF m 84 #[.val (.int p0), .val (.int p1), .val (.int p2), .val (.int p3), .val (.int p4), .val (.int p5), .val (.int (Int32.ofNat G)), .val (.ref b161), .val (.int (1 : Int32)), .val (.int (Int32.ofNat n168k - 1)), .val (.int (0 : Int32)), .unset] [])) _
          refine XS.iload X178.here hx rfl (hb hby at_84) rfl ?_
          show Steps p.tables e below (T178.setTop (mkF m 86 #[.val (.int p0), .val (.int p1), .val (.int p2), .val (.int p3), .val (.int p4), .val (.int p5), .val (.int (Int32.ofNat G)), .val (.ref b161), .val (.int (1 : Int32)), .val (.int (Int32.ofNat n168k - 1)), .val (.int (0 : Int32)), .unset] [(.int (1 : Int32))])) _
          refine XS.iconst X178.here hx rfl (hb hby at_86) ?_
          exact h
        have k217 : ∀ t, Steps p.tables e below (T178.setTop (mkF m 105 #[.val (.int p0), .val (.int p1), .val (.int p2), .val (.int p3), .val (.int p4), .val (.int p5), .val (.int (Int32.ofNat G)), .val (.ref b161), .val (.int (1 : Int32)), .val (.int (Int32.ofNat n168k - 1)), .val (.int (0 : Int32)), .unset] [(.int (2 : Int32)), (.int (1 : Int32))])) t → Steps p.tables e below (s₁.setTop (mkF m 0 #[.val (.int p0), .val (.int p1), .val (.int p2), .val (.int p3), .val (.int p4), .val (.int p5), .unset, .unset, .unset, .unset, .unset, .unset] [])) t := by
          intro t h
          refine k216 t ?_
          show Steps p.tables e below (T178.setTop (mkF m 87 #[.val (.int p0), .val (.int p1), .val (.int p2), .val (.int p3), .val (.int p4), .val (.int p5), .val (.int (Int32.ofNat G)), .val (.ref b161), .val (.int (1 : Int32)), .val (.int (Int32.ofNat n168k - 1)), .val (.int (0 : Int32)), .unset] [(.int (1 : Int32)), (.int (1 : Int32))])) _
          refine XS.icmpYes X178.here hx rfl (pc0 := 87) (pc' := 102) rfl (hb hby at_87) rfl (flt (by decide : ¬ ((1 : Int32) < (1 : Int32)))).2.2.2 (by decide) (by decide) ?_
          show Steps p.tables e below (T178.setTop (mkF m 102 #[.val (.int p0), .val (.int p1), .val (.int p2), .val (.int p3), .val (.int p4), .val (.int p5), .val (.int (Int32.ofNat G)), .val (.ref b161), .val (.int (1 : Int32)), .val (.int (Int32.ofNat n168k - 1)), .val (.int (0 : Int32)), .unset] [])) _
          refine XS.iload X178.here hx rfl (hb hby at_102) rfl ?_
          show Steps p.tables e below (T178.setTop (mkF m 104 #[.val (.int p0), .val (.int p1), .val (.int p2), .val (.int p3), .val (.int p4), .val (.int p5), .val (.int (Int32.ofNat G)), .val (.ref b161), .val (.int (1 : Int32)), .val (.int (Int32.ofNat n168k - 1)), .val (.int (0 : Int32)), .unset] [(.int (1 : Int32))])) _
          refine XS.iconst X178.here hx rfl (hb hby at_104) ?_
          exact h
        have k218 : ∀ t, Steps p.tables e below (T178.setTop (mkF m 120 #[.val (.int p0), .val (.int p1), .val (.int p2), .val (.int p3), .val (.int p4), .val (.int p5), .val (.int (Int32.ofNat G)), .val (.ref b161), .val (.int (1 : Int32)), .val (.int (Int32.ofNat n168k - 1)), .val (.int (0 : Int32)), .unset] [])) t → Steps p.tables e below (s₁.setTop (mkF m 0 #[.val (.int p0), .val (.int p1), .val (.int p2), .val (.int p3), .val (.int p4), .val (.int p5), .unset, .unset, .unset, .unset, .unset, .unset] [])) t := by
          intro t h
          refine k217 t ?_
          show Steps p.tables e below (T178.setTop (mkF m 105 #[.val (.int p0), .val (.int p1), .val (.int p2), .val (.int p3), .val (.int p4), .val (.int p5), .val (.int (Int32.ofNat G)), .val (.ref b161), .val (.int (1 : Int32)), .val (.int (Int32.ofNat n168k - 1)), .val (.int (0 : Int32)), .unset] [(.int (2 : Int32)), (.int (1 : Int32))])) _
          refine XS.icmpYes X178.here hx rfl (pc0 := 105) (pc' := 120) rfl (hb hby at_105) rfl (flt (by decide : ¬ ((2 : Int32) < (1 : Int32)))).2.2.2 (by decide) (by decide) ?_
          exact h
        exact ⟨(0 : Int32), (by
              rw [own_keyeq (by omega) (by omega)] at c78_212
              simp [own_B, c78_212]), k218⟩
    obtain ⟨T219, h219, X219, e219, E219, A219, D219, -, st219⟩ := newO X178 hx hZ hown (hw _ (List.mem_of_getElem? (i := 6) rfl)) (hw _ (List.mem_of_getElem? (i := 7) rfl)) (hw _ (List.mem_of_getElem? (i := 8) rfl)) e178 (g := (mkF m 120 #[.val (.int p0), .val (.int p1), .val (.int p2), .val (.int p3), .val (.int p4), .val (.int p5), .val (.int (Int32.ofNat G)), .val (.ref b161), .val (.int (1 : Int32)), .val (.int (Int32.ofNat n168k - 1)), .val (.int rk), .unset] [])) rfl (hb hby at_120) (by decide) (by decide)
    obtain ⟨b219, g219⟩ : ∃ z, z = h178.size := ⟨_, rfl⟩
    rw [← g219] at A219 D219 st219
    have ne_b161_b219 : b161 ≠ b219 := Nat.ne_of_lt (Nat.lt_of_lt_of_le V178.lt (Nat.le_of_eq g219.symm))
    have g_b219 : n0 ≤ b219 := Nat.le_trans Z179 (Nat.le_of_eq g219.symm)
    have sz_b219 : h0.size ≤ b219 := Nat.le_trans K180.1 (Nat.le_of_eq g219.symm)
    have f220 := V178.ext E219
    have Z221 : n0 ≤ h219.size := Nat.le_trans Z179 E219.1
    have K222 := K180.ext E219
    have f223 : Fld Z h219 b219 "com/example/planwright/planwright/io/Grouping" "starts" "[I" .null := D219 (Or.inr (hw _ (List.mem_of_getElem? (i := 16) rfl))) (ty := (.array .int)) (by decide)
    have f224 : Fld Z h219 b219 "com/example/planwright/planwright/io/Grouping" "members" "[I" .null := D219 (Or.inr (hw _ (List.mem_of_getElem? (i := 18) rfl))) (ty := (.array .int)) (by decide)
    have f226 : own_IA Z h219 b161 4 (fun j => Int32.ofNat ((fun j => [n164k, n168k, n172k, n177k].getD j 0) j) - 1) := own_IA.congr (own_IA.ofV (vs := [(Int32.ofNat n164k - 1), (Int32.ofNat n168k - 1), (Int32.ofNat n172k - 1), (Int32.ofNat n177k - 1)]) f220 rfl) (fun j hj => match j, hj with | 0, _ => rfl | 1, _ => rfl | 2, _ => rfl | 3, _ => rfl)
    obtain ⟨_, _, ⟨T225, L225, k225, n225⟩, -, X225, ⟨Lc225, hQ225, l225, y225, z225⟩, st225⟩ := X219.specialBack hx (y := (⟨"com/example/planwright/planwright/io/Grouping", "<init>", "([II)V"⟩ : MethodName)) rfl hown (mvT hZ (hw _ (List.mem_of_getElem? (i := 9) rfl))) (mvT hZ (hw _ (List.mem_of_getElem? (i := 10) rfl))) (mvT hZ (hw _ (List.mem_of_getElem? (i := 11) rfl))) (by decide) (backOf (W := 1) (rmI l Z a0 hw [] b219 b161 (Int32.ofNat G) G (fun j => [n164k, n168k, n172k, n177k].getD j 0) h219 n0 Z221 f223 f224 A219 f226 g_b219 (Ne.symm ne_b161_b219) rfl (by omega) (fun j hj => match j, hj with | 0, _ => Nat.le_of_lt_succ hn164k | 1, _ => Nat.le_of_lt_succ hn168k | 2, _ => Nat.le_of_lt_succ hn172k | 3, _ => Nat.le_of_lt_succ hn177k)) hZ (hw _ (List.mem_of_getElem? (i := 11) rfl)) (hw _ (List.mem_of_getElem? (i := 8) rfl)) (by decide) (by decide)) (g := (mkF m 128 #[.val (.int p0), .val (.int p1), .val (.int p2), .val (.int p3), .val (.int p4), .val (.int p5), .val (.int (Int32.ofNat G)), .val (.ref b161), .val (.int (1 : Int32)), .val (.int (Int32.ofNat n168k - 1)), .val (.int rk), .unset] [(.int (Int32.ofNat G)), (.ref b161), (.ref b219), (.ref b219)])) rfl (by rw [hml]; rfl) (Steps.refl _) (a := b219) (argsL := [(.ref b161), (.int (Int32.ofNat G))]) (rest := [(.ref b219)]) (lenOf own_pd_1 rfl) rfl (by show 2 * 0 + _ ≤ _; exact Nat.le_of_eq rfl) (hb hby at_128) (fun _ _ => ⟨rfl, e219, (by decide : 2 + 3 ≤ _), (by decide : 6 + 14 ≤ _)⟩)
    dsimp only [Pt.U, Pt.locs, Pt.cells, Pt.slots] at X225 l225 y225 z225 st225 hQ225
    subst l225 y225 z225
    obtain ⟨rfl, Nq225, Kq225, ba225, bb225, Fa225, Aa225, Fb225, Ab225⟩ := hQ225
    have N225 := Fr.app N178 Nq225
    have f227 := f220.keep Kq225 (ninS ne_b161_b219 nin0)
    have f228 := A219.keep Kq225
    have Z229 : n0 ≤ T225.heap.size := Nat.le_trans Z221 Kq225.1
    have K230 := K222.trans Kq225 (allS (Or.inr sz_b219) all0)
    obtain ⟨cq231, kq231, q231a, q231b, q231c⟩ := isOf hZ rfl f228
    obtain ⟨_, _, ⟨T231, L231, k231, n231⟩, -, X231, ⟨Lc231, hQ231, l231, y231, z231⟩, st231⟩ := X225.virtualBack hx (y := (⟨"com/example/planwright/planwright/io/Grouping", "member", "(II)I"⟩ : MethodName)) (z := (⟨"com/example/planwright/planwright/io/Grouping", "member", "(II)I"⟩ : MethodName)) hown (mvT hZ (hw _ (List.mem_of_getElem? (i := 28) rfl))) (mvT hZ (hw _ (List.mem_of_getElem? (i := 29) rfl))) (notFace_of_selects (args := #[]) (mvT hZ (hw _ (List.mem_of_getElem? (i := 31) rfl)))) (mvT hZ (hw _ (List.mem_of_getElem? (i := 31) rfl))) (mvT hZ (hw _ (List.mem_of_getElem? (i := 30) rfl))) (by decide) (backOf (W := 0) (rmM l Z a0 hw [] b219 (Int32.ofNat n168k - 1) rk ba225 (G + 2) (fun j => Int32.ofNat (own_A (fun j => [n164k, n168k, n172k, n177k].getD j 0) 4 j)) ((fun j => [n164k, n168k, n172k, n177k].getD j 0) 1) bb225 4 (fun j => Int32.ofNat (own_M (fun j => [n164k, n168k, n172k, n177k].getD j 0) 4 4 j)) (own_A (fun j => [n164k, n168k, n172k, n177k].getD j 0) 4 ((fun j => [n164k, n168k, n172k, n177k].getD j 0) 1) + own_B (fun j => [n164k, n168k, n172k, n177k].getD j 0) 1 ((fun j => [n164k, n168k, n172k, n177k].getD j 0) 1)) T225.heap n0 Z229 Fa225 Aa225 (by omega) Fb225 Ab225 (by decide) (own_km1 _) (Nat.lt_of_lt_of_le hn168k (Nat.le_succ _)) (by rw [hk208]; exact own_ofadd _ _) (own_pos_lt (fun j => [n164k, n168k, n172k, n177k].getD j 0) (t := 1) (by decide))) hZ (hw _ (List.mem_of_getElem? (i := 32) rfl)) (hw _ (List.mem_of_getElem? (i := 8) rfl)) (by decide) (by decide)) q231a q231c (g := (mkF m 139 #[.val (.int p0), .val (.int p1), .val (.int p2), .val (.int p3), .val (.int p4), .val (.int p5), .val (.int (Int32.ofNat G)), .val (.ref b161), .val (.int (1 : Int32)), .val (.int (Int32.ofNat n168k - 1)), .val (.int rk), .val (.ref b219)] [(.int rk), (.int (Int32.ofNat n168k - 1)), (.ref b219)])) rfl (by rw [hml]; rfl) (Steps.refl _) (argsL := [(.int (Int32.ofNat n168k - 1)), (.int rk)]) (rest := []) (lenOf own_pd_0 rfl) rfl (by show 2 * 0 + _ ≤ _; exact Nat.le_of_eq rfl) (hb hby at_139) (fun _ _ => ⟨rfl, rfl, (by decide : 5 + 0 ≤ _), (by decide : 20 + 0 ≤ _)⟩)
    dsimp only [Pt.U, Pt.locs, Pt.cells, Pt.slots] at X231 l231 y231 z231 st231 hQ231
    subst l231 y231 z231
    obtain ⟨rfl, Nq231, eq231⟩ := hQ231
    have N231 := Fr.app N225 Nq231
    have k232 : ∀ t, Steps p.tables e below (T231.setTop (mkF m 144 #[.val (.int p0), .val (.int p1), .val (.int p2), .val (.int p3), .val (.int p4), .val (.int p5), .val (.int (Int32.ofNat G)), .val (.ref b161), .val (.int (1 : Int32)), .val (.int (Int32.ofNat n168k - 1)), .val (.int rk), .val (.ref b219)] [(.int (1 : Int32)), (.int (Int32.ofNat (own_M (fun j => [n164k, n168k, n172k, n177k].getD j 0) 4 4 (own_A (fun j => [n164k, n168k, n172k, n177k].getD j 0) 4 ((fun j => [n164k, n168k, n172k, n177k].getD j 0) 1) + own_B (fun j => [n164k, n168k, n172k, n177k].getD j 0) 1 ((fun j => [n164k, n168k, n172k, n177k].getD j 0) 1)))))])) t → Steps p.tables e below (s₁.setTop (mkF m 0 #[.val (.int p0), .val (.int p1), .val (.int p2), .val (.int p3), .val (.int p4), .val (.int p5), .unset, .unset, .unset, .unset, .unset, .unset] [])) t := by
      intro t h
      refine k208 t ?_
      show Steps p.tables e below (T178.setTop (mkF m 120 #[.val (.int p0), .val (.int p1), .val (.int p2), .val (.int p3), .val (.int p4), .val (.int p5), .val (.int (Int32.ofNat G)), .val (.ref b161), .val (.int (1 : Int32)), .val (.int (Int32.ofNat n168k - 1)), .val (.int rk), .unset] [])) _
      refine st219 _ ?_
      show Steps p.tables e below (T219.setTop (mkF m 123 #[.val (.int p0), .val (.int p1), .val (.int p2), .val (.int p3), .val (.int p4), .val (.int p5), .val (.int (Int32.ofNat G)), .val (.ref b161), .val (.int (1 : Int32)), .val (.int (Int32.ofNat n168k - 1)), .val (.int rk), .unset] [(.ref b219)])) _
      refine XS.dup X219.here hx rfl (hb hby at_123) rfl rfl ?_
      show Steps p.tables e below (T219.setTop (mkF m 124 #[.val (.int p0), .val (.int p1), .val (.int p2), .val (.int p3), .val (.int p4), .val (.int p5), .val (.int (Int32.ofNat G)), .val (.ref b161), .val (.int (1 : Int32)), .val (.int (Int32.ofNat n168k - 1)), .val (.int rk), .unset] [(.ref b219), (.ref b219)])) _
      refine XS.aload X219.here hx rfl (hb hby at_124) rfl rfl ?_
      show Steps p.tables e below (T219.setTop (mkF m 126 #[.val (.int p0), .val (.int p1), .val (.int p2), .val (.int p3), .val (.int p4), .val (.int p5), .val (.int (Int32.ofNat G)), .val (.ref b161), .val (.int (1 : Int32)), .val (.int (Int32.ofNat n168k - 1)), .val (.int rk), .unset] [(.ref b161), (.ref b219), (.ref b219)])) _
      refine XS.iload X219.here hx rfl (hb hby at_126) rfl ?_
      show Steps p.tables e below (T219.setTop (mkF m 128 #[.val (.int p0), .val (.int p1), .val (.int p2), .val (.int p3), .val (.int p4), .val (.int p5), .val (.int (Int32.ofNat G)), .val (.ref b161), .val (.int (1 : Int32)), .val (.int (Int32.ofNat n168k - 1)), .val (.int rk), .unset] [(.int (Int32.ofNat G)), (.ref b161), (.ref b219), (.ref b219)])) _
      refine st225.trans ?_
      show Steps p.tables e below (T225.setTop (mkF m 131 #[.val (.int p0), .val (.int p1), .val (.int p2), .val (.int p3), .val (.int p4), .val (.int p5), .val (.int (Int32.ofNat G)), .val (.ref b161), .val (.int (1 : Int32)), .val (.int (Int32.ofNat n168k - 1)), .val (.int rk), .unset] [(.ref b219)])) _
      refine XS.astore X225.here hx rfl (hb hby at_131) rfl rfl (l' := #[.val (.int p0), .val (.int p1), .val (.int p2), .val (.int p3), .val (.int p4), .val (.int p5), .val (.int (Int32.ofNat G)), .val (.ref b161), .val (.int (1 : Int32)), .val (.int (Int32.ofNat n168k - 1)), .val (.int rk), .val (.ref b219)]) rfl ?_
      show Steps p.tables e below (T225.setTop (mkF m 133 #[.val (.int p0), .val (.int p1), .val (.int p2), .val (.int p3), .val (.int p4), .val (.int p5), .val (.int (Int32.ofNat G)), .val (.ref b161), .val (.int (1 : Int32)), .val (.int (Int32.ofNat n168k - 1)), .val (.int rk), .val (.ref b219)] [])) _
      refine XS.aload X225.here hx rfl (hb hby at_133) rfl rfl ?_
      show Steps p.tables e below (T225.setTop (mkF m 135 #[.val (.int p0), .val (.int p1), .val (.int p2), .val (.int p3), .val (.int p4), .val (.int p5), .val (.int (Int32.ofNat G)), .val (.ref b161), .val (.int (1 : Int32)), .val (.int (Int32.ofNat n168k - 1)), .val (.int rk), .val (.ref b219)] [(.ref b219)])) _
      refine XS.iload X225.here hx rfl (hb hby at_135) rfl ?_
      show Steps p.tables e below (T225.setTop (mkF m 137 #[.val (.int p0), .val (.int p1), .val (.int p2), .val (.int p3), .val (.int p4), .val (.int p5), .val (.int (Int32.ofNat G)), .val (.ref b161), .val (.int (1 : Int32)), .val (.int (Int32.ofNat n168k - 1)), .val (.int rk), .val (.ref b219)] [(.int (Int32.ofNat n168k - 1)), (.ref b219)])) _
      refine XS.iload X225.here hx rfl (hb hby at_137) rfl ?_
      show Steps p.tables e below (T225.setTop (mkF m 139 #[.val (.int p0), .val (.int p1), .val (.int p2), .val (.int p3), .val (.int p4), .val (.int p5), .val (.int (Int32.ofNat G)), .val (.ref b161), .val (.int (1 : Int32)), .val (.int (Int32.ofNat n168k - 1)), .val (.int rk), .val (.ref b219)] [(.int rk), (.int (Int32.ofNat n168k - 1)), (.ref b219)])) _
      refine st231.trans ?_
      show Steps p.tables e below (T231.setTop (mkF m 142 #[.val (.int p0), .val (.int p1), .val (.int p2), .val (.int p3), .val (.int p4), .val (.int p5), .val (.int (Int32.ofNat G)), .val (.ref b161), .val (.int (1 : Int32)), .val (.int (Int32.ofNat n168k - 1)), .val (.int rk), .val (.ref b219)] [(.int (Int32.ofNat (own_M (fun j => [n164k, n168k, n172k, n177k].getD j 0) 4 4 (own_A (fun j => [n164k, n168k, n172k, n177k].getD j 0) 4 ((fun j => [n164k, n168k, n172k, n177k].getD j 0) 1) + own_B (fun j => [n164k, n168k, n172k, n177k].getD j 0) 1 ((fun j => [n164k, n168k, n172k, n177k].getD j 0) 1)))))])) _
      refine XS.iload X231.here hx rfl (hb hby at_142) rfl ?_
      exact h
    have b144_233 : (Int32.ofNat (own_M (fun j => [n164k, n168k, n172k, n177k].getD j 0) 4 4 (own_A (fun j => [n164k, n168k, n172k, n177k].getD j 0) 4 ((fun j => [n164k, n168k, n172k, n177k].getD j 0) 1) + own_B (fun j => [n164k, n168k, n172k, n177k].getD j 0) 1 ((fun j => [n164k, n168k, n172k, n177k].getD j 0) 1)))) = (1 : Int32) := congrArg Int32.ofNat (own_M_at (fun j => [n164k, n168k, n172k, n177k].getD j 0) (n := 1) (N := 4) 4 (by decide) (by decide))
    have k234 : ∀ t, Steps p.tables e below (T231.setTop (mkF m 152 #[.val (.int p0), .val (.int p1), .val (.int p2), .val (.int p3), .val (.int p4), .val (.int p5), .val (.int (Int32.ofNat G)), .val (.ref b161), .val (.int (1 : Int32)), .val (.int (Int32.ofNat n168k - 1)), .val (.int rk), .val (.ref b219)] [(.int (1 : Int32))])) t → Steps p.tables e below (s₁.setTop (mkF m 0 #[.val (.int p0), .val (.int p1), .val (.int p2), .val (.int p3), .val (.int p4), .val (.int p5), .unset, .unset, .unset, .unset, .unset, .unset] [])) t := by
      intro t h
      refine k232 t ?_
      show Steps p.tables e below (T231.setTop (mkF m 144 #[.val (.int p0), .val (.int p1), .val (.int p2), .val (.int p3), .val (.int p4), .val (.int p5), .val (.int (Int32.ofNat G)), .val (.ref b161), .val (.int (1 : Int32)), .val (.int (Int32.ofNat n168k - 1)), .val (.int rk), .val (.ref b219)] [(.int (1 : Int32)), (.int (Int32.ofNat (own_M (fun j => [n164k, n168k, n172k, n177k].getD j 0) 4 4 (own_A (fun j => [n164k, n168k, n172k, n177k].getD j 0) 4 ((fun j => [n164k, n168k, n172k, n177k].getD j 0) 1) + own_B (fun j => [n164k, n168k, n172k, n177k].getD j 0) 1 ((fun j => [n164k, n168k, n172k, n177k].getD j 0) 1)))))])) _
      refine XS.icmpNo X231.here hx rfl (hb hby at_144) rfl (teq b144_233).2 ?_
      show Steps p.tables e below (T231.setTop (mkF m 147 #[.val (.int p0), .val (.int p1), .val (.int p2), .val (.int p3), .val (.int p4), .val (.int p5), .val (.int (Int32.ofNat G)), .val (.ref b161), .val (.int (1 : Int32)), .val (.int (Int32.ofNat n168k - 1)), .val (.int rk), .val (.ref b219)] [])) _
      refine XS.iconst X231.here hx rfl (hb hby at_147) ?_
      show Steps p.tables e below (T231.setTop (mkF m 148 #[.val (.int p0), .val (.int p1), .val (.int p2), .val (.int p3), .val (.int p4), .val (.int p5), .val (.int (Int32.ofNat G)), .val (.ref b161), .val (.int (1 : Int32)), .val (.int (Int32.ofNat n168k - 1)), .val (.int rk), .val (.ref b219)] [(.int (1 : Int32))])) _
      refine XS.goto X231.here hx rfl (pc0 := 148) (pc' := 152) rfl (hb hby at_148) (by decide) (by decide) ?_
      exact h
    obtain ⟨fs, hr, hrun, hended, hW, hsame⟩ := X231.leave (v := some (.int (1 : Int32))) (fun h => by rw [Bd.returns] at h; cases h) Bd.notSynchronized
    refine ⟨_, _, pre0 _ (k234 _ ?_), hrun, hended, _, _, rfl, ?_, ⟨_, rfl⟩, hW, hsame.mono (by decide) (by decide)⟩
    · exact retN X231 hx (t := .boolean) Bd.returns (by simp) (hb hby at_152) hr
    · show Q_rm0 Z _ _ _ _ _ _ h0 n0 _ T231.heap _
      rw [eq231]
      exact ⟨rfl, N231⟩
  · skip
    obtain ⟨cl235, Ar235, q235, S235, Ng235, H235, G235⟩ := id V178
    have hin235 : ¬ ((2 : Int32) < 0 ∨ cl235.slots.size ≤ ((2 : Int32)).toNatClampNeg) := inb_of S235 ⟨by decide, by decide⟩
    have k236 : ∀ t, Steps p.tables e below (T178.setTop (mkF m 67 #[.val (.int p0), .val (.int p1), .val (.int p2), .val (.int p3), .val (.int p4), .val (.int p5), .val (.int (Int32.ofNat G)), .val (.ref b161), .val (.int (2 : Int32)), .val (.int (Int32.ofNat n172k - 1)), .val (.int (0 : Int32)), .unset] [])) t → Steps p.tables e below (s₁.setTop (mkF m 0 #[.val (.int p0), .val (.int p1), .val (.int p2), .val (.int p3), .val (.int p4), .val (.int p5), .unset, .unset, .unset, .unset, .unset, .unset] [])) t := by
      intro t h
      refine k182 t ?_
      show Steps p.tables e below (T178.setTop (mkF m 57 #[.val (.int p0), .val (.int p1), .val (.int p2), .val (.int p3), .val (.int p4), .val (.int p5), .val (.int (Int32.ofNat G)), .val (.ref b161), .val (.int (2 : Int32)), .unset, .unset, .unset] [])) _
      refine XS.aload X178.here hx rfl (hb hby at_57) rfl rfl ?_
      show Steps p.tables e below (T178.setTop (mkF m 59 #[.val (.int p0), .val (.int p1), .val (.int p2), .val (.int p3), .val (.int p4), .val (.int p5), .val (.int (Int32.ofNat G)), .val (.ref b161), .val (.int (2 : Int32)), .unset, .unset, .unset] [(.ref b161)])) _
      refine XS.iload X178.here hx rfl (hb hby at_59) rfl ?_
      show Steps p.tables e below (T178.setTop (mkF m 61 #[.val (.int p0), .val (.int p1), .val (.int p2), .val (.int p3), .val (.int p4), .val (.int p5), .val (.int (Int32.ofNat G)), .val (.ref b161), .val (.int (2 : Int32)), .unset, .unset, .unset] [(.int (2 : Int32)), (.ref b161)])) _
      refine X178.iaload hx (j := (2 : Int32)) (v := (.int (Int32.ofNat n172k - 1))) (by rw [e178]; exact Ar235.1) (State.isArrayOf_alike hZ.alike Ar235.2.1) Ar235.2.2 hin235 (H235.at hin235 rfl) (g := (mkF m 61 #[.val (.int p0), .val (.int p1), .val (.int p2), .val (.int p3), .val (.int p4), .val (.int p5), .val (.int (Int32.ofNat G)), .val (.ref b161), .val (.int (2 : Int32)), .unset, .unset, .unset] [(.int (2 : Int32)), (.ref b161)])) rfl rfl (hb hby at_61) _ ?_
      show Steps p.tables e below (T178.setTop (mkF m 62 #[.val (.int p0), .val (.int p1), .val (.int p2), .val (.int p3), .val (.int p4), .val (.int p5), .val (.int (Int32.ofNat G)), .val (.ref b161), .val (.int (2 : Int32)), .unset, .unset, .unset] [(.int (Int32.ofNat n172k - 1))])) _
      refine XS.istore X178.here hx rfl (hb hby at_62) rfl (l' := #[.val (.int p0), .val (.int p1), .val (.int p2), .val (.int p3), .val (.int p4), .val (.int p5), .val (.int (Int32.ofNat G)), .val (.ref b161), .val (.int (2 : Int32)), .val (.int (Int32.ofNat n172k - 1)), .unset, .unset]) rfl ?_
      show Steps p.tables e below (T178.setTop (mkF m 64 #[.val (.int p0), .val (.int p1), .val (.int p2), .val (.int p3), .val (.int p4), .val (.int p5), .val (.int (Int32.ofNat G)), .val (.ref b161), .val (.int (2 : Int32)), .val (.int (Int32.ofNat n172k - 1)), .unset, .unset] [])) _
      refine XS.iconst X178.here hx rfl (hb hby at_64) ?_
      show Steps p.tables e below (T178.setTop (mkF m 65 #[.val (.int p0), .val (.int p1), .val (.int p2), .val (.int p3), .val (.int p4), .val (.int p5), .val (.int (Int32.ofNat G)), .val (.ref b161), .val (.int (2 : Int32)), .val (.int (Int32.ofNat n172k - 1)), .unset, .unset] [(.int (0 : Int32))])) _
      refine XS.istore X178.here hx rfl (hb hby at_65) rfl (l' := #[.val (.int p0), .val (.int p1), .val (.int p2), .val (.int p3), .val (.int p4), .val (.int p5), .val (.int (Int32.ofNat G)), .val (.ref b161), .val (.int (2 : Int32)), .val (.int (Int32.ofNat n172k - 1)), .val (.int (0 : Int32)), .unset]) rfl ?_
      exact h
    obtain ⟨rk, hk237, k237⟩ : ∃ (rk : Int32), (rk = Int32.ofNat (own_B (fun j => [n164k, n168k, n172k, n177k].getD j 0) 2 ((fun j => [n164k, n168k, n172k, n177k].getD j 0) 2))) ∧ ∀ t, Steps p.tables e below (T178.setTop (mkF m 120 #[.val (.int p0), .val (.int p1), .val (.int p2), .val (.int p3), .val (.int p4), .val (.int p5), .val (.int (Int32.ofNat G)), .val (.ref b161), .val (.int (2 : Int32)), .val (.int (Int32.ofNat n172k - 1)), .val (.int rk), .unset] [])) t → Steps p.tables e below (s₁.setTop (mkF m 0 #[.val (.int p0), .val (.int p1), .val (.int p2), .val (.int p3), .val (.int p4), .val (.int p5), .unset, .unset, .unset, .unset, .unset, .unset] [])) t := by
      have k238 : ∀ t, Steps p.tables e below (T178.setTop (mkF m 69 #[.val (.int p0), .val (.int p1), .val (.int p2), .val (.int p3), .val (.int p4), .val (.int p5), .val (.int (Int32.ofNat G)), .val (.ref b161), .val (.int (2 : Int32)), .val (.int (Int32.ofNat n172k - 1)), .val (.int (0 : Int32)), .unset] [(.int (2 : Int32))])) t → Steps p.tables e below (s₁.setTop (mkF m 0 #[.val (.int p0), .val (.int p1), .val (.int p2), .val (.int p3), .val (.int p4), .val (.int p5), .unset, .unset, .unset, .unset, .unset, .unset] [])) t := by
        intro t h
        refine k236 t ?_
        show Steps p.tables e below (T178.setTop (mkF m 67 #[.val (.int p0), .val (.int p1), .val (.int p2), .val (.int p3), .val (.int p4), .val (.int p5), .val (.int (Int32.ofNat G)), .val (.ref b161), .val (.int (2 : Int32)), .val (.int (Int32.ofNat n172k - 1)), .val (.int (0 : Int32)), .unset] [])) _
        refine XS.iload X178.here hx rfl (hb hby at_67) rfl ?_
        exact h
      obtain ⟨cl239, Ar239, q239, S239, Ng239, H239, G239⟩ := id V178
      have hin239 : ¬ ((0 : Int32) < 0 ∨ cl239.slots.size ≤ ((0 : Int32)).toNatClampNeg) := inb_of S239 ⟨by decide, by decide⟩
      have k240 : ∀ t, Steps p.tables e below (T178.setTop (mkF m 78 #[.val (.int p0), .val (.int p1), .val (.int p2), .val (.int p3), .val (.int p4), .val (.int p5), .val (.int (Int32.ofNat G)), .val (.ref b161), .val (.int (2 : Int32)), .val (.int (Int32.ofNat n172k - 1)), .val (.int (0 : Int32)), .unset] [(.int (Int32.ofNat n172k - 1)), (.int (Int32.ofNat n164k - 1))])) t → Steps p.tables e below (s₁.setTop (mkF m 0 #[.val (.int p0), .val (.int p1), .val (.int p2), .val (.int p3), .val (.int p4), .val (.int p5), .unset, .unset, .unset, .unset, .unset, .unset] [])) t := by
        intro t h
        refine k238 t ?_
        show Steps p.tables e below (T178.setTop (mkF m 69 #[.val (.int p0), .val (.int p1), .val (.int p2), .val (.int p3), .val (.int p4), .val (.int p5), .val (.int (Int32.ofNat G)), .val (.ref b161), .val (.int (2 : Int32)), .val (.int (Int32.ofNat n172k - 1)), .val (.int (0 : Int32)), .unset] [(.int (2 : Int32))])) _
        refine XS.ifNo X178.here hx rfl (hb hby at_69) rfl ((if0 _ _).trans (tlt (by decide : (0 : Int32) < (2 : Int32))).2.2.2) ?_
        show Steps p.tables e below (T178.setTop (mkF m 72 #[.val (.int p0), .val (.int p1), .val (.int p2), .val (.int p3), .val (.int p4), .val (.int p5), .val (.int (Int32.ofNat G)), .val (.ref b161), .val (.int (2 : Int32)), .val (.int (Int32.ofNat n172k - 1)), .val (.int (0 : Int32)), .unset] [])) _
        refine XS.aload X178.here hx rfl (hb hby at_72) rfl rfl ?_
        show Steps p.tables e below (T178.setTop (mkF m 74 #[.val (.int p0), .val (.int p1), .val (.int p2), .val (.int p3), .val (.int p4), .val (.int p5), .val (.int (Int32.ofNat G)), .val (.ref b161), .val (.int (2 : Int32)), .val (.int (Int32.ofNat n172k - 1)), .val (.int (0 : Int32)), .unset] [(.ref b161)])) _
        refine XS.iconst X178.here hx rfl (hb hby at_74) ?_
        show Steps p.tables e below (T178.setTop (mkF m 75 #[.val (.int p0), .val (.int p1), .val (.int p2), .val (.int p3), .val (.int p4), .val (.int p5), .val (.int (Int32.ofNat G)), .val (.ref b161), .val (.int (2 : Int32)), .val (.int (Int32.ofNat n172k - 1)), .val (.int (0 : Int32)), .unset] [(.int (0 : Int32)), (.ref b161)])) _
        refine X178.iaload hx (j := (0 : Int32)) (v := (.int (Int32.ofNat n164k - 1))) (by rw [e178]; exact Ar239.1) (State.isArrayOf_alike hZ.alike Ar239.2.1) Ar239.2.2 hin239 (H239.at hin239 rfl) (g := (mkF m 75 #[.val (.int p0), .val (.int p1), .val (.int p2), .val (.int p3), .val (.int p4), .val (.int p5), .val (.int (Int32.ofNat G)), .val (.ref b161), .val (.int (2 : Int32)), .val (.int (Int32.ofNat n172k - 1)), .val (.int (0 : Int32)), .unset] [(.int (0 : Int32)), (.ref b161)])) rfl rfl (hb hby at_75) _ ?_
        show Steps p.tables e below (T178.setTop (mkF m 76 #[.val (.int p0), .val (.int p1), .val (.int p2), .val (.int p3), .val (.int p4), .val (.int p5), .val (.int (Int32.ofNat G)), .val (.ref b161), .val (.int (2 : Int32)), .val (.int (Int32.ofNat n172k - 1)), .val (.int (0 : Int32)), .unset] [(.int (Int32.ofNat n164k - 1))])) _
        refine XS.iload X178.here hx rfl (hb hby at_76) rfl ?_
        exact h
      by_cases c78_241 : (Int32.ofNat n164k - 1) = (Int32.ofNat n172k - 1)
      · skip
        have k242 : ∀ t, Steps p.tables e below (T178.setTop (mkF m 87 #[.val (.int p0), .val (.int p1), .val (.int p2), .val (.int p3), .val (.int p4), .val (.int p5), .val (.int (Int32.ofNat G)), .val (.ref b161), .val (.int (2 : Int32)), .val (.int (Int32.ofNat n172k - 1)), .val (.int (1 : Int32)), .unset] [(.int (1 : Int32)), (.int (2 : Int32))])) t → Steps p.tables e below (s₁.setTop (mkF m 0 #[.val (.int p0), .val (.int p1), .val (.int p2), .val (.int p3), .val (.int p4), .val (.int p5), .unset, .unset, .unset, .unset, .unset, .unset] [])) t := by
          intro t h
          refine k240 t ?_
          show Steps p.tables e below (T178.setTop (mkF m 78 #[.val (.int p0), .val (.int p1), .val (.int p2), .val (.int p3), .val (.int p4), .val (.int p5), .val (.int (Int32.ofNat G)), .val (.ref b161), .val (.int (2 : Int32)), .val (.int (Int32.ofNat n172k - 1)), .val (.int (0 : Int32)), .unset] [(.int (Int32.ofNat n172k - 1)), (.int (Int32.ofNat n164k - 1))])) _
          refine XS.icmpNo X178.here hx rfl (hb hby at_78) rfl (teq c78_241).2 ?_
          show Steps p.tables e below (T178.setTop (mkF m 81 #[.val (.int p0), .val (.int p1), .val (.int p2), .val (.int p3), .val (.int p4), .val (.int p5), .val (.int (Int32.ofNat G)), .val (.ref b161), .val (.int (2 : Int32)), .val (.int (Int32.ofNat n172k - 1)), .val (.int (0 : Int32)), .unset] [])) _
          refine XS.iinc X178.here hx rfl (hb hby at_81) rfl (l' := #[.val (.int p0), .val (.int p1), .val (.int p2), .val (.int p3), .val (.int p4), .val (.int p5), .val (.int (Int32.ofNat G)), .val (.ref b161), .val (.int (2 : Int32)), .val (.int (Int32.ofNat n172k - 1)), .val (.int (1 : Int32)), .unset]) rfl ?_
          show Steps p.tables e below (T178.setTop (mkF m 84 #[.val (.int p0), .val (.int p1), .val (.int p2), .val (.int p3), .val (.int p4), .val (.int p5), .val (.int (Int32.ofNat G)), .val (.ref b161), .val (.int (2 : Int32)), .val (.int (Int32.ofNat n172k - 1)), .val (.int (1 : Int32)), .unset] [])) _
          refine XS.iload X178.here hx rfl (hb hby at_84) rfl ?_
          show Steps p.tables e below (T178.setTop (mkF m 86 #[.val (.int p0), .val (.int p1), .val (.int p2), .val (.int p3), .val (.int p4), .val (.int p5), .val (.int (Int32.ofNat G)), .val (.ref b161), .val (.int (2 : Int32)), .val (.int (Int32.ofNat n172k - 1)), .val (.int (1 : Int32)), .unset] [(.int (2 : Int32))])) _
          refine XS.iconst X178.here hx rfl (hb hby at_86) ?_
          exact h
        obtain ⟨cl243, Ar243, q243, S243, Ng243, H243, G243⟩ := id V178
        have hin243 : ¬ ((1 : Int32) < 0 ∨ cl243.slots.size ≤ ((1 : Int32)).toNatClampNeg) := inb_of S243 ⟨by decide, by decide⟩
        have k244 : ∀ t, Steps p.tables e below (T178.setTop (mkF m 96 #[.val (.int p0), .val (.int p1), .val (.int p2), .val (.int p3), .val (.int p4), .val (.int p5), .val (.int (Int32.ofNat G)), .val (.ref b161), .val (.int (2 : Int32)), .val (.int (Int32.ofNat n172k - 1)), .val (.int (1 : Int32)), .unset] [(.int (Int32.ofNat n172k - 1)), (.int (Int32.ofNat n168k - 1))])) t → Steps p.tables e below (s₁.setTop (mkF m 0 #[.val (.int p0), .val (.int p1), .val (.int p2), .val (.int p3), .val (.int p4), .val (.int p5), .unset, .unset, .unset, .unset, .unset, .unset] [])) t := by
          intro t h
          refine k242 t ?_
          show Steps p.tables e below (T178.setTop (mkF m 87 #[.val (.int p0), .val (.int p1), .val (.int p2), .val (.int p3), .val (.int p4), .val (.int p5), .val (.int (Int32.ofNat G)), .val (.ref b161), .val (.int (2 : Int32)), .val (.int (Int32.ofNat n172k - 1)), .val (.int (1 : Int32)), .unset] [(.int (1 : Int32)), (.int (2 : Int32))])) _
          refine XS.icmpNo X178.here hx rfl (hb hby at_87) rfl (tlt (by decide : (1 : Int32) < (2 : Int32))).2.2.2 ?_
          show Steps p.tables e below (T178.setTop (mkF m 90 #[.val (.int p0), .val (.int p1), .val (.int p2), .val (.int p3), .val (.int p4), .val (.int p5), .val (.int (Int32.ofNat G)), .val (.ref b161), .val (.int (2 : Int32)), .val (.int (Int32.ofNat n172k - 1)), .val (.int (1 : Int32)), .unset] [])) _
          refine XS.aload X178.here hx rfl (hb hby at_90) rfl rfl ?_
          show Steps p.tables e below (T178.setTop (mkF m 92 #[.val (.int p0), .val (.int p1), .val (.int p2), .val (.int p3), .val (.int p4), .val (.int p5), .val (.int (Int32.ofNat G)), .val (.ref b161), .val (.int (2 : Int32)), .val (.int (Int32.ofNat n172k - 1)), .val (.int (1 : Int32)), .unset] [(.ref b161)])) _
          refine XS.iconst X178.here hx rfl (hb hby at_92) ?_
          show Steps p.tables e below (T178.setTop (mkF m 93 #[.val (.int p0), .val (.int p1), .val (.int p2), .val (.int p3), .val (.int p4), .val (.int p5), .val (.int (Int32.ofNat G)), .val (.ref b161), .val (.int (2 : Int32)), .val (.int (Int32.ofNat n172k - 1)), .val (.int (1 : Int32)), .unset] [(.int (1 : Int32)), (.ref b161)])) _
          refine X178.iaload hx (j := (1 : Int32)) (v := (.int (Int32.ofNat n168k - 1))) (by rw [e178]; exact Ar243.1) (State.isArrayOf_alike hZ.alike Ar243.2.1) Ar243.2.2 hin243 (H243.at hin243 rfl) (g := (mkF m 93 #[.val (.int p0), .val (.int p1), .val (.int p2), .val (.int p3), .val (.int p4), .val (.int p5), .val (.int (Int32.ofNat G)), .val (.ref b161), .val (.int (2 : Int32)), .val (.int (Int32.ofNat n172k - 1)), .val (.int (1 : Int32)), .unset] [(.int (1 : Int32)), (.ref b161)])) rfl rfl (hb hby at_93) _ ?_
          show Steps p.tables e below (T178.setTop (mkF m 94 #[.val (.int p0), .val (.int p1), .val (.int p2), .val (.int p3), .val (.int p4), .val (.int p5), .val (.int (Int32.ofNat G)), .val (.ref b161), .val (.int (2 : Int32)), .val (.int (Int32.ofNat n172k - 1)), .val (.int (1 : Int32)), .unset] [(.int (Int32.ofNat n168k - 1))])) _
          refine XS.iload X178.here hx rfl (hb hby at_94) rfl ?_
          exact h
        by_cases c96_245 : (Int32.ofNat n168k - 1) = (Int32.ofNat n172k - 1)
        · skip
          have k246 : ∀ t, Steps p.tables e below (T178.setTop (mkF m 105 #[.val (.int p0), .val (.int p1), .val (.int p2), .val (.int p3), .val (.int p4), .val (.int p5), .val (.int (Int32.ofNat G)), .val (.ref b161), .val (.int (2 : Int32)), .val (.int (Int32.ofNat n172k - 1)), .val (.int (2 : Int32)), .unset] [(.int (2 : Int32)), (.int (2 : Int32))])) t → Steps p.tables e below (s₁.setTop (mkF m 0 #[.val (.int p0), .val (.int p1), .val (.int p2), .val (.int p3), .val (.int p4), .val (.int p5), .unset, .unset, .unset, .unset, .unset, .unset] [])) t := by
            intro t h
            refine k244 t ?_
            show Steps p.tables e below (T178.setTop (mkF m 96 #[.val (.int p0), .val (.int p1), .val (.int p2), .val (.int p3), .val (.int p4), .val (.int p5), .val (.int (Int32.ofNat G)), .val (.ref b161), .val (.int (2 : Int32)), .val (.int (Int32.ofNat n172k - 1)), .val (.int (1 : Int32)), .unset] [(.int (Int32.ofNat n172k - 1)), (.int (Int32.ofNat n168k - 1))])) _
            refine XS.icmpNo X178.here hx rfl (hb hby at_96) rfl (teq c96_245).2 ?_
            show Steps p.tables e below (T178.setTop (mkF m 99 #[.val (.int p0), .val (.int p1), .val (.int p2), .val (.int p3), .val (.int p4), .val (.int p5), .val (.int (Int32.ofNat G)), .val (.ref b161), .val (.int (2 : Int32)), .val (.int (Int32.ofNat n172k - 1)), .val (.int (1 : Int32)), .unset] [])) _
            refine XS.iinc X178.here hx rfl (hb hby at_99) rfl (l' := #[.val (.int p0), .val (.int p1), .val (.int p2), .val (.int p3), .val (.int p4), .val (.int p5), .val (.int (Int32.ofNat G)), .val (.ref b161), .val (.int (2 : Int32)), .val (.int (Int32.ofNat n172k - 1)), .val (.int (2 : Int32)), .unset]) rfl ?_
            show Steps p.tables e below (T178.setTop (mkF m 102 #[.val (.int p0), .val (.int p1), .val (.int p2), .val (.int p3), .val (.int p4), .val (.int p5), .val (.int (Int32.ofNat G)), .val (.ref b161), .val (.int (2 : Int32)), .val (.int (Int32.ofNat n172k - 1)), .val (.int (2 : Int32)), .unset] [])) _
            refine XS.iload X178.here hx rfl (hb hby at_102) rfl ?_
            show Steps p.tables e below (T178.setTop (mkF m 104 #[.val (.int p0), .val (.int p1), .val (.int p2), .val (.int p3), .val (.int p4), .val (.int p5), .val (.int (Int32.ofNat G)), .val (.ref b161), .val (.int (2 : Int32)), .val (.int (Int32.ofNat n172k - 1)), .val (.int (2 : Int32)), .unset] [(.int (2 : Int32))])) _
            refine XS.iconst X178.here hx rfl (hb hby at_104) ?_
            exact h
          have k247 : ∀ t, Steps p.tables e below (T178.setTop (mkF m 120 #[.val (.int p0), .val (.int p1), .val (.int p2), .val (.int p3), .val (.int p4), .val (.int p5), .val (.int (Int32.ofNat G)), .val (.ref b161), .val (.int (2 : Int32)), .val (.int (Int32.ofNat n172k - 1)), .val (.int (2 : Int32)), .unset] [])) t → Steps p.tables e below (s₁.setTop (mkF m 0 #[.val (.int p0), .val (.int p1), .val (.int p2), .val (.int p3), .val (.int p4), .val (.int p5), .unset, .unset, .unset, .unset, .unset, .unset] [])) t := by
            intro t h
            refine k246 t ?_
            show Steps p.tables e below (T178.setTop (mkF m 105 #[.val (.int p0), .val (.int p1), .val (.int p2), .val (.int p3), .val (.int p4), .val (.int p5), .val (.int (Int32.ofNat G)), .val (.ref b161), .val (.int (2 : Int32)), .val (.int (Int32.ofNat n172k - 1)), .val (.int (2 : Int32)), .unset] [(.int (2 : Int32)), (.int (2 : Int32))])) _
            refine XS.icmpYes X178.here hx rfl (pc0 := 105) (pc' := 120) rfl (hb hby at_105) rfl (flt (by decide : ¬ ((2 : Int32) < (2 : Int32)))).2.2.2 (by decide) (by decide) ?_
            exact h
          exact ⟨(2 : Int32), (by
                rw [own_keyeq (by omega) (by omega)] at c78_241 c96_245
                simp [own_B, c78_241, c96_245]), k247⟩
        · skip
          have k248 : ∀ t, Steps p.tables e below (T178.setTop (mkF m 105 #[.val (.int p0), .val (.int p1), .val (.int p2), .val (.int p3), .val (.int p4), .val (.int p5), .val (.int (Int32.ofNat G)), .val (.ref b161), .val (.int (2 : Int32)), .val (.int (Int32.ofNat n172k - 1)), .val (.int (1 : Int32)), .unset] [(.int (2 : Int32)), (.int (2 : Int32))])) t → Steps p.tables e below (s₁.setTop (mkF m 0 #[.val (.int p0), .val (.int p1), .val (.int p2), .val (.int p3), .val (.int p4), .val (.int p5), .unset, .unset, .unset, .unset, .unset, .unset] [])) t := by
            intro t h
            refine k244 t ?_
            show Steps p.tables e below (T178.setTop (mkF m 96 #[.val (.int p0), .val (.int p1), .val (.int p2), .val (.int p3), .val (.int p4), .val (.int p5), .val (.int (Int32.ofNat G)), .val (.ref b161), .val (.int (2 : Int32)), .val (.int (Int32.ofNat n172k - 1)), .val (.int (1 : Int32)), .unset] [(.int (Int32.ofNat n172k - 1)), (.int (Int32.ofNat n168k - 1))])) _
            refine XS.icmpYes X178.here hx rfl (pc0 := 96) (pc' := 102) rfl (hb hby at_96) rfl (feq c96_245).2 (by decide) (by decide) ?_
            show Steps p.tables e below (T178.setTop (mkF m 102 #[.val (.int p0), .val (.int p1), .val (.int p2), .val (.int p3), .val (.int p4), .val (.int p5), .val (.int (Int32.ofNat G)), .val (.ref b161), .val (.int (2 : Int32)), .val (.int (Int32.ofNat n172k - 1)), .val (.int (1 : Int32)), .unset] [])) _
            refine XS.iload X178.here hx rfl (hb hby at_102) rfl ?_
            show Steps p.tables e below (T178.setTop (mkF m 104 #[.val (.int p0), .val (.int p1), .val (.int p2), .val (.int p3), .val (.int p4), .val (.int p5), .val (.int (Int32.ofNat G)), .val (.ref b161), .val (.int (2 : Int32)), .val (.int (Int32.ofNat n172k - 1)), .val (.int (1 : Int32)), .unset] [(.int (2 : Int32))])) _
            refine XS.iconst X178.here hx rfl (hb hby at_104) ?_
            exact h
          have k249 : ∀ t, Steps p.tables e below (T178.setTop (mkF m 120 #[.val (.int p0), .val (.int p1), .val (.int p2), .val (.int p3), .val (.int p4), .val (.int p5), .val (.int (Int32.ofNat G)), .val (.ref b161), .val (.int (2 : Int32)), .val (.int (Int32.ofNat n172k - 1)), .val (.int (1 : Int32)), .unset] [])) t → Steps p.tables e below (s₁.setTop (mkF m 0 #[.val (.int p0), .val (.int p1), .val (.int p2), .val (.int p3), .val (.int p4), .val (.int p5), .unset, .unset, .unset, .unset, .unset, .unset] [])) t := by
            intro t h
            refine k248 t ?_
            show Steps p.tables e below (T178.setTop (mkF m 105 #[.val (.int p0), .val (.int p1), .val (.int p2), .val (.int p3), .val (.int p4), .val (.int p5), .val (.int (Int32.ofNat G)), .val (.ref b161), .val (.int (2 : Int32)), .val (.int (Int32.ofNat n172k - 1)), .val (.int (1 : Int32)), .unset] [(.int (2 : Int32)), (.int (2 : Int32))])) _
            refine XS.icmpYes X178.here hx rfl (pc0 := 105) (pc' := 120) rfl (hb hby at_105) rfl (flt (by decide : ¬ ((2 : Int32) < (2 : Int32)))).2.2.2 (by decide) (by decide) ?_
            exact h
          exact ⟨(1 : Int32), (by
                rw [own_keyeq (by omega) (by omega)] at c78_241 c96_245
                simp [own_B, c78_241, c96_245]), k249⟩
      · skip
        have k250 : ∀ t, Steps p.tables e below (T178.setTop (mkF m 87 #[.val (.int p0), .val (.int p1), .val (.int p2), .val (.int p3), .val (.int p4), .val (.int p5), .val (.int (Int32.ofNat G)), .val (.ref b161), .val (.int (2 : Int32)), .val (.int (Int32.ofNat n172k - 1)), .val (.int (0 : Int32)), .unset] [(.int (1 : Int32)), (.int (2 : Int32))])) t → Steps p.tables e below (s₁.setTop (mkF m 0 #[.val (.int p0), .val (.int p1), .val (.int p2), .val (.int p3), .val (.int p4), .val (.int p5), .unset, .unset, .unset, .unset, .unset, .unset] [])) t := by
          intro t h
          refine k240 t ?_
          show Steps p.tables e below (T178.setTop (mkF m 78 #[.val (.int p0), .val (.int p1), .val (.int p2), .val (.int p3), .val (.int p4), .val (.int p5), .val (.int (Int32.ofNat G)), .val (.ref b161), .val (.int (2 : Int32)), .val (.int (Int32.ofNat n172k - 1)), .val (.int (0 : Int32)), .unset] [(.int (Int32.ofNat n172k - 1)), (.int (Int32.ofNat n164k - 1))])) _
          refine XS.icmpYes X178.here hx rfl (pc0 := 78) (pc' := 84) rfl (hb hby at_78) rfl (feq c78_241).2 (by decide) (by decide) ?_
          show Steps p.tables e below (T178.setTop (mkF m 84 #[.val (.int p0), .val (.int p1), .val (.int p2), .val (.int p3), .val (.int p4), .val (.int p5), .val (.int (Int32.ofNat G)), .val (.ref b161), .val (.int (2 : Int32)), .val (.int (Int32.ofNat n172k - 1)), .val (.int (0 : Int32)), .unset] [])) _
          refine XS.iload X178.here hx rfl (hb hby at_84) rfl ?_
          show Steps p.tables e below (T178.setTop (mkF m 86 #[.val (.int p0), .val (.int p1), .val (.int p2), .val (.int p3), .val (.int p4), .val (.int p5), .val (.int (Int32.ofNat G)), .val (.ref b161), .val (.int (2 : Int32)), .val (.int (Int32.ofNat n172k - 1)), .val (.int (0 : Int32)), .unset] [(.int (2 : Int32))])) _
          refine XS.iconst X178.here hx rfl (hb hby at_86) ?_
          exact h
        obtain ⟨cl251, Ar251, q251, S251, Ng251, H251, G251⟩ := id V178
        have hin251 : ¬ ((1 : Int32) < 0 ∨ cl251.slots.size ≤ ((1 : Int32)).toNatClampNeg) := inb_of S251 ⟨by decide, by decide⟩
        have k252 : ∀ t, Steps p.tables e below (T178.setTop (mkF m 96 #[.val (.int p0), .val (.int p1), .val (.int p2), .val (.int p3), .val (.int p4), .val (.int p5), .val (.int (Int32.ofNat G)), .val (.ref b161), .val (.int (2 : Int32)), .val (.int (Int32.ofNat n172k - 1)), .val (.int (0 : Int32)), .unset] [(.int (Int32.ofNat n172k - 1)), (.int (Int32.ofNat n168k - 1))])) t → Steps p.tables e below (s₁.setTop (mkF m 0 #[.val (.int p0), .val (.int p1), .val (.int p2), .val (.int p3), .val (.int p4), .val (.int p5), .unset, .unset, .unset, .unset, .unset, .unset] [])) t := by
          intro t h
          refine k250 t ?_
          show Steps p.tables e below (T178.setTop (mkF m 87 #[.val (.int p0), .val (.int p1), .val (.int p2), .val (.int p3), .val (.int p4), .val (.int p5), .val (.int (Int32.ofNat G)), .val (.ref b161), .val (.int (2 : Int32)), .val (.int (Int32.ofNat n172k - 1)), .val (.int (0 : Int32)), .unset] [(.int (1 : Int32)), (.int (2 : Int32))])) _
          refine XS.icmpNo X178.here hx rfl (hb hby at_87) rfl (tlt (by decide : (1 : Int32) < (2 : Int32))).2.2.2 ?_
          show Steps p.tables e below (T178.setTop (mkF m 90 #[.val (.int p0), .val (.int p1), .val (.int p2), .val (.int p3), .val (.int p4), .val (.int p5), .val (.int (Int32.ofNat G)), .val (.ref b161), .val (.int (2 : Int32)), .val (.int (Int32.ofNat n172k - 1)), .val (.int (0 : Int32)), .unset] [])) _
          refine XS.aload X178.here hx rfl (hb hby at_90) rfl rfl ?_
          show Steps p.tables e below (T178.setTop (mkF m 92 #[.val (.int p0), .val (.int p1), .val (.int p2), .val (.int p3), .val (.int p4), .val (.int p5), .val (.int (Int32.ofNat G)), .val (.ref b161), .val (.int (2 : Int32)), .val (.int (Int32.ofNat n172k - 1)), .val (.int (0 : Int32)), .unset] [(.ref b161)])) _
          refine XS.iconst X178.here hx rfl (hb hby at_92) ?_
          show Steps p.tables e below (T178.setTop (mkF m 93 #[.val (.int p0), .val (.int p1), .val (.int p2), .val (.int p3), .val (.int p4), .val (.int p5), .val (.int (Int32.ofNat G)), .val (.ref b161), .val (.int (2 : Int32)), .val (.int (Int32.ofNat n172k - 1)), .val (.int (0 : Int32)), .unset] [(.int (1 : Int32)), (.ref b161)])) _
          refine X178.iaload hx (j := (1 : Int32)) (v := (.int (Int32.ofNat n168k - 1))) (by rw [e178]; exact Ar251.1) (State.isArrayOf_alike hZ.alike Ar251.2.1) Ar251.2.2 hin251 (H251.at hin251 rfl) (g := (mkF m 93 #[.val (.int p0), .val (.int p1), .val (.int p2), .val (.int p3), .val (.int p4), .val (.int p5), .val (.int (Int32.ofNat G)), .val (.ref b161), .val (.int (2 : Int32)), .val (.int (Int32.ofNat n172k - 1)), .val (.int (0 : Int32)), .unset] [(.int (1 : Int32)), (.ref b161)])) rfl rfl (hb hby at_93) _ ?_
          show Steps p.tables e below (T178.setTop (mkF m 94 #[.val (.int p0), .val (.int p1), .val (.int p2), .val (.int p3), .val (.int p4), .val (.int p5), .val (.int (Int32.ofNat G)), .val (.ref b161), .val (.int (2 : Int32)), .val (.int (Int32.ofNat n172k - 1)), .val (.int (0 : Int32)), .unset] [(.int (Int32.ofNat n168k - 1))])) _
          refine XS.iload X178.here hx rfl (hb hby at_94) rfl ?_
          exact h
        by_cases c96_253 : (Int32.ofNat n168k - 1) = (Int32.ofNat n172k - 1)
        · skip
          have k254 : ∀ t, Steps p.tables e below (T178.setTop (mkF m 105 #[.val (.int p0), .val (.int p1), .val (.int p2), .val (.int p3), .val (.int p4), .val (.int p5), .val (.int (Int32.ofNat G)), .val (.ref b161), .val (.int (2 : Int32)), .val (.int (Int32.ofNat n172k - 1)), .val (.int (1 : Int32)), .unset] [(.int (2 : Int32)), (.int (2 : Int32))])) t → Steps p.tables e below (s₁.setTop (mkF m 0 #[.val (.int p0), .val (.int p1), .val (.int p2), .val (.int p3), .val (.int p4), .val (.int p5), .unset, .unset, .unset, .unset, .unset, .unset] [])) t := by
            intro t h
            refine k252 t ?_
            show Steps p.tables e below (T178.setTop (mkF m 96 #[.val (.int p0), .val (.int p1), .val (.int p2), .val (.int p3), .val (.int p4), .val (.int p5), .val (.int (Int32.ofNat G)), .val (.ref b161), .val (.int (2 : Int32)), .val (.int (Int32.ofNat n172k - 1)), .val (.int (0 : Int32)), .unset] [(.int (Int32.ofNat n172k - 1)), (.int (Int32.ofNat n168k - 1))])) _
            refine XS.icmpNo X178.here hx rfl (hb hby at_96) rfl (teq c96_253).2 ?_
            show Steps p.tables e below (T178.setTop (mkF m 99 #[.val (.int p0), .val (.int p1), .val (.int p2), .val (.int p3), .val (.int p4), .val (.int p5), .val (.int (Int32.ofNat G)), .val (.ref b161), .val (.int (2 : Int32)), .val (.int (Int32.ofNat n172k - 1)), .val (.int (0 : Int32)), .unset] [])) _
            refine XS.iinc X178.here hx rfl (hb hby at_99) rfl (l' := #[.val (.int p0), .val (.int p1), .val (.int p2), .val (.int p3), .val (.int p4), .val (.int p5), .val (.int (Int32.ofNat G)), .val (.ref b161), .val (.int (2 : Int32)), .val (.int (Int32.ofNat n172k - 1)), .val (.int (1 : Int32)), .unset]) rfl ?_
            show Steps p.tables e below (T178.setTop (mkF m 102 #[.val (.int p0), .val (.int p1), .val (.int p2), .val (.int p3), .val (.int p4), .val (.int p5), .val (.int (Int32.ofNat G)), .val (.ref b161), .val (.int (2 : Int32)), .val (.int (Int32.ofNat n172k - 1)), .val (.int (1 : Int32)), .unset] [])) _
            refine XS.iload X178.here hx rfl (hb hby at_102) rfl ?_
            show Steps p.tables e below (T178.setTop (mkF m 104 #[.val (.int p0), .val (.int p1), .val (.int p2), .val (.int p3), .val (.int p4), .val (.int p5), .val (.int (Int32.ofNat G)), .val (.ref b161), .val (.int (2 : Int32)), .val (.int (Int32.ofNat n172k - 1)), .val (.int (1 : Int32)), .unset] [(.int (2 : Int32))])) _
            refine XS.iconst X178.here hx rfl (hb hby at_104) ?_
            exact h
          have k255 : ∀ t, Steps p.tables e below (T178.setTop (mkF m 120 #[.val (.int p0), .val (.int p1), .val (.int p2), .val (.int p3), .val (.int p4), .val (.int p5), .val (.int (Int32.ofNat G)), .val (.ref b161), .val (.int (2 : Int32)), .val (.int (Int32.ofNat n172k - 1)), .val (.int (1 : Int32)), .unset] [])) t → Steps p.tables e below (s₁.setTop (mkF m 0 #[.val (.int p0), .val (.int p1), .val (.int p2), .val (.int p3), .val (.int p4), .val (.int p5), .unset, .unset, .unset, .unset, .unset, .unset] [])) t := by
            intro t h
            refine k254 t ?_
            show Steps p.tables e below (T178.setTop (mkF m 105 #[.val (.int p0), .val (.int p1), .val (.int p2), .val (.int p3), .val (.int p4), .val (.int p5), .val (.int (Int32.ofNat G)), .val (.ref b161), .val (.int (2 : Int32)), .val (.int (Int32.ofNat n172k - 1)), .val (.int (1 : Int32)), .unset] [(.int (2 : Int32)), (.int (2 : Int32))])) _
            refine XS.icmpYes X178.here hx rfl (pc0 := 105) (pc' := 120) rfl (hb hby at_105) rfl (flt (by decide : ¬ ((2 : Int32) < (2 : Int32)))).2.2.2 (by decide) (by decide) ?_
            exact h
          exact ⟨(1 : Int32), (by
                rw [own_keyeq (by omega) (by omega)] at c78_241 c96_253
                simp [own_B, c78_241, c96_253]), k255⟩
        · skip
          have k256 : ∀ t, Steps p.tables e below (T178.setTop (mkF m 105 #[.val (.int p0), .val (.int p1), .val (.int p2), .val (.int p3), .val (.int p4), .val (.int p5), .val (.int (Int32.ofNat G)), .val (.ref b161), .val (.int (2 : Int32)), .val (.int (Int32.ofNat n172k - 1)), .val (.int (0 : Int32)), .unset] [(.int (2 : Int32)), (.int (2 : Int32))])) t → Steps p.tables e below (s₁.setTop (mkF m 0 #[.val (.int p0), .val (.int p1), .val (.int p2), .val (.int p3), .val (.int p4), .val (.int p5), .unset, .unset, .unset, .unset, .unset, .unset] [])) t := by
            intro t h
            refine k252 t ?_
            show Steps p.tables e below (T178.setTop (mkF m 96 #[.val (.int p0), .val (.int p1), .val (.int p2), .val (.int p3), .val (.int p4), .val (.int p5), .val (.int (Int32.ofNat G)), .val (.ref b161), .val (.int (2 : Int32)), .val (.int (Int32.ofNat n172k - 1)), .val (.int (0 : Int32)), .unset] [(.int (Int32.ofNat n172k - 1)), (.int (Int32.ofNat n168k - 1))])) _
            refine XS.icmpYes X178.here hx rfl (pc0 := 96) (pc' := 102) rfl (hb hby at_96) rfl (feq c96_253).2 (by decide) (by decide) ?_
            show Steps p.tables e below (T178.setTop (mkF m 102 #[.val (.int p0), .val (.int p1), .val (.int p2), .val (.int p3), .val (.int p4), .val (.int p5), .val (.int (Int32.ofNat G)), .val (.ref b161), .val (.int (2 : Int32)), .val (.int (Int32.ofNat n172k - 1)), .val (.int (0 : Int32)), .unset] [])) _
            refine XS.iload X178.here hx rfl (hb hby at_102) rfl ?_
            show Steps p.tables e below (T178.setTop (mkF m 104 #[.val (.int p0), .val (.int p1), .val (.int p2), .val (.int p3), .val (.int p4), .val (.int p5), .val (.int (Int32.ofNat G)), .val (.ref b161), .val (.int (2 : Int32)), .val (.int (Int32.ofNat n172k - 1)), .val (.int (0 : Int32)), .unset] [(.int (2 : Int32))])) _
            refine XS.iconst X178.here hx rfl (hb hby at_104) ?_
            exact h
          have k257 : ∀ t, Steps p.tables e below (T178.setTop (mkF m 120 #[.val (.int p0), .val (.int p1), .val (.int p2), .val (.int p3), .val (.int p4), .val (.int p5), .val (.int (Int32.ofNat G)), .val (.ref b161), .val (.int (2 : Int32)), .val (.int (Int32.ofNat n172k - 1)), .val (.int (0 : Int32)), .unset] [])) t → Steps p.tables e below (s₁.setTop (mkF m 0 #[.val (.int p0), .val (.int p1), .val (.int p2), .val (.int p3), .val (.int p4), .val (.int p5), .unset, .unset, .unset, .unset, .unset, .unset] [])) t := by
            intro t h
            refine k256 t ?_
            show Steps p.tables e below (T178.setTop (mkF m 105 #[.val (.int p0), .val (.int p1), .val (.int p2), .val (.int p3), .val (.int p4), .val (.int p5), .val (.int (Int32.ofNat G)), .val (.ref b161), .val (.int (2 : Int32)), .val (.int (Int32.ofNat n172k - 1)), .val (.int (0 : Int32)), .unset] [(.int (2 : Int32)), (.int (2 : Int32))])) _
            refine XS.icmpYes X178.here hx rfl (pc0 := 105) (pc' := 120) rfl (hb hby at_105) rfl (flt (by decide : ¬ ((2 : Int32) < (2 : Int32)))).2.2.2 (by decide) (by decide) ?_
            exact h
          exact ⟨(0 : Int32), (by
                rw [own_keyeq (by omega) (by omega)] at c78_241 c96_253
                simp [own_B, c78_241, c96_253]), k257⟩
    obtain ⟨T258, h258, X258, e258, E258, A258, D258, -, st258⟩ := newO X178 hx hZ hown (hw _ (List.mem_of_getElem? (i := 6) rfl)) (hw _ (List.mem_of_getElem? (i := 7) rfl)) (hw _ (List.mem_of_getElem? (i := 8) rfl)) e178 (g := (mkF m 120 #[.val (.int p0), .val (.int p1), .val (.int p2), .val (.int p3), .val (.int p4), .val (.int p5), .val (.int (Int32.ofNat G)), .val (.ref b161), .val (.int (2 : Int32)), .val (.int (Int32.ofNat n172k - 1)), .val (.int rk), .unset] [])) rfl (hb hby at_120) (by decide) (by decide)
    obtain ⟨b258, g258⟩ : ∃ z, z = h178.size := ⟨_, rfl⟩
    rw [← g258] at A258 D258 st258
    have ne_b161_b258 : b161 ≠ b258 := Nat.ne_of_lt (Nat.lt_of_lt_of_le V178.lt (Nat.le_of_eq g258.symm))
    have g_b258 : n0 ≤ b258 := Nat.le_trans Z179 (Nat.le_of_eq g258.symm)
    have sz_b258 : h0.size ≤ b258 := Nat.le_trans K180.1 (Nat.le_of_eq g258.symm)
    have f259 := V178.ext E258
    have Z260 : n0 ≤ h258.size := Nat.le_trans Z179 E258.1
    have K261 := K180.ext E258
    have f262 : Fld Z h258 b258 "com/example/planwright/planwright/io/Grouping" "starts" "[I" .null := D258 (Or.inr (hw _ (List.mem_of_getElem? (i := 16) rfl))) (ty := (.array .int)) (by decide)
    have f263 : Fld Z h258 b258 "com/example/planwright/planwright/io/Grouping" "members" "[I" .null := D258 (Or.inr (hw _ (List.mem_of_getElem? (i := 18) rfl))) (ty := (.array .int)) (by decide)
    have f265 : own_IA Z h258 b161 4 (fun j => Int32.ofNat ((fun j => [n164k, n168k, n172k, n177k].getD j 0) j) - 1) := own_IA.congr (own_IA.ofV (vs := [(Int32.ofNat n164k - 1), (Int32.ofNat n168k - 1), (Int32.ofNat n172k - 1), (Int32.ofNat n177k - 1)]) f259 rfl) (fun j hj => match j, hj with | 0, _ => rfl | 1, _ => rfl | 2, _ => rfl | 3, _ => rfl)
    obtain ⟨_, _, ⟨T264, L264, k264, n264⟩, -, X264, ⟨Lc264, hQ264, l264, y264, z264⟩, st264⟩ := X258.specialBack hx (y := (⟨"com/example/planwright/planwright/io/Grouping", "<init>", "([II)V"⟩ : MethodName)) rfl hown (mvT hZ (hw _ (List.mem_of_getElem? (i := 9) rfl))) (mvT hZ (hw _ (List.mem_of_getElem? (i := 10) rfl))) (mvT hZ (hw _ (List.mem_of_getElem? (i := 11) rfl))) (by decide) (backOf (W := 1) (rmI l Z a0 hw [] b258 b161 (Int32.ofNat G) G (fun j => [n164k, n168k, n172k, n177k].getD j 0) h258 n0 Z260 f262 f263 A258 f265 g_b258 (Ne.symm ne_b161_b258) rfl (by omega) (fun j hj => match j, hj with | 0, _ => Nat.le_of_lt_succ hn164k | 1, _ => Nat.le_of_lt_succ hn168k | 2, _ => Nat.le_of_lt_succ hn172k | 3, _ => Nat.le_of_lt_succ hn177k)) hZ (hw _ (List.mem_of_getElem? (i := 11) rfl)) (hw _ (List.mem_of_getElem? (i := 8) rfl)) (by decide) (by decide)) (g := (mkF m 128 #[.val (.int p0), .val (.int p1), .val (.int p2), .val (.int p3), .val (.int p4), .val (.int p5), .val (.int (Int32.ofNat G)), .val (.ref b161), .val (.int (2 : Int32)), .val (.int (Int32.ofNat n172k - 1)), .val (.int rk), .unset] [(.int (Int32.ofNat G)), (.ref b161), (.ref b258), (.ref b258)])) rfl (by rw [hml]; rfl) (Steps.refl _) (a := b258) (argsL := [(.ref b161), (.int (Int32.ofNat G))]) (rest := [(.ref b258)]) (lenOf own_pd_1 rfl) rfl (by show 2 * 0 + _ ≤ _; exact Nat.le_of_eq rfl) (hb hby at_128) (fun _ _ => ⟨rfl, e258, (by decide : 2 + 3 ≤ _), (by decide : 6 + 14 ≤ _)⟩)
    dsimp only [Pt.U, Pt.locs, Pt.cells, Pt.slots] at X264 l264 y264 z264 st264 hQ264
    subst l264 y264 z264
    obtain ⟨rfl, Nq264, Kq264, ba264, bb264, Fa264, Aa264, Fb264, Ab264⟩ := hQ264
    have N264 := Fr.app N178 Nq264
    have f266 := f259.keep Kq264 (ninS ne_b161_b258 nin0)
    have f267 := A258.keep Kq264
    have Z268 : n0 ≤ T264.heap.size := Nat.le_trans Z260 Kq264.1
    have K269 := K261.trans Kq264 (allS (Or.inr sz_b258) all0)
    obtain ⟨cq270, kq270, q270a, q270b, q270c⟩ := isOf hZ rfl f267
    obtain ⟨_, _, ⟨T270, L270, k270, n270⟩, -, X270, ⟨Lc270, hQ270, l270, y270, z270⟩, st270⟩ := X264.virtualBack hx (y := (⟨"com/example/planwright/planwright/io/Grouping", "member", "(II)I"⟩ : MethodName)) (z := (⟨"com/example/planwright/planwright/io/Grouping", "member", "(II)I"⟩ : MethodName)) hown (mvT hZ (hw _ (List.mem_of_getElem? (i := 28) rfl))) (mvT hZ (hw _ (List.mem_of_getElem? (i := 29) rfl))) (notFace_of_selects (args := #[]) (mvT hZ (hw _ (List.mem_of_getElem? (i := 31) rfl)))) (mvT hZ (hw _ (List.mem_of_getElem? (i := 31) rfl))) (mvT hZ (hw _ (List.mem_of_getElem? (i := 30) rfl))) (by decide) (backOf (W := 0) (rmM l Z a0 hw [] b258 (Int32.ofNat n172k - 1) rk ba264 (G + 2) (fun j => Int32.ofNat (own_A (fun j => [n164k, n168k, n172k, n177k].getD j 0) 4 j)) ((fun j => [n164k, n168k, n172k, n177k].getD j 0) 2) bb264 4 (fun j => Int32.ofNat (own_M (fun j => [n164k, n168k, n172k, n177k].getD j 0) 4 4 j)) (own_A (fun j => [n164k, n168k, n172k, n177k].getD j 0) 4 ((fun j => [n164k, n168k, n172k, n177k].getD j 0) 2) + own_B (fun j => [n164k, n168k, n172k, n177k].getD j 0) 2 ((fun j => [n164k, n168k, n172k, n177k].getD j 0) 2)) T264.heap n0 Z268 Fa264 Aa264 (by omega) Fb264 Ab264 (by decide) (own_km1 _) (Nat.lt_of_lt_of_le hn172k (Nat.le_succ _)) (by rw [hk237]; exact own_ofadd _ _) (own_pos_lt (fun j => [n164k, n168k, n172k, n177k].getD j 0) (t := 2) (by decide))) hZ (hw _ (List.mem_of_getElem? (i := 32) rfl)) (hw _ (List.mem_of_getElem? (i := 8) rfl)) (by decide) (by decide)) q270a q270c (g := (mkF m 139 #[.val (.int p0), .val (.int p1), .val (.int p2), .val (.int p3), .val (.int p4), .val (.int p5), .val (.int (Int32.ofNat G)), .val (.ref b161), .val (.int (2 : Int32)), .val (.int (Int32.ofNat n172k - 1)), .val (.int rk), .val (.ref b258)] [(.int rk), (.int (Int32.ofNat n172k - 1)), (.ref b258)])) rfl (by rw [hml]; rfl) (Steps.refl _) (argsL := [(.int (Int32.ofNat n172k - 1)), (.int rk)]) (rest := []) (lenOf own_pd_0 rfl) rfl (by show 2 * 0 + _ ≤ _; exact Nat.le_of_eq rfl) (hb hby at_139) (fun _ _ => ⟨rfl, rfl, (by decide : 5 + 0 ≤ _), (by decide : 20 + 0 ≤ _)⟩)
    dsimp only [Pt.U, Pt.locs, Pt.cells, Pt.slots] at X270 l270 y270 z270 st270 hQ270
    subst l270 y270 z270
    obtain ⟨rfl, Nq270, eq270⟩ := hQ270
    have N270 := Fr.app N264 Nq270
    have k271 : ∀ t, Steps p.tables e below (T270.setTop (mkF m 144 #[.val (.int p0), .val (.int p1), .val (.int p2), .val (.int p3), .val (.int p4), .val (.int p5), .val (.int (Int32.ofNat G)), .val (.ref b161), .val (.int (2 : Int32)), .val (.int (Int32.ofNat n172k - 1)), .val (.int rk), .val (.ref b258)] [(.int (2 : Int32)), (.int (Int32.ofNat (own_M (fun j => [n164k, n168k, n172k, n177k].getD j 0) 4 4 (own_A (fun j => [n164k, n168k, n172k, n177k].getD j 0) 4 ((fun j => [n164k, n168k, n172k, n177k].getD j 0) 2) + own_B (fun j => [n164k, n168k, n172k, n177k].getD j 0) 2 ((fun j => [n164k, n168k, n172k, n177k].getD j 0) 2)))))])) t → Steps p.tables e below (s₁.setTop (mkF m 0 #[.val (.int p0), .val (.int p1), .val (.int p2), .val (.int p3), .val (.int p4), .val (.int p5), .unset, .unset, .unset, .unset, .unset, .unset] [])) t := by
      intro t h
      refine k237 t ?_
      show Steps p.tables e below (T178.setTop (mkF m 120 #[.val (.int p0), .val (.int p1), .val (.int p2), .val (.int p3), .val (.int p4), .val (.int p5), .val (.int (Int32.ofNat G)), .val (.ref b161), .val (.int (2 : Int32)), .val (.int (Int32.ofNat n172k - 1)), .val (.int rk), .unset] [])) _
      refine st258 _ ?_
      show Steps p.tables e below (T258.setTop (mkF m 123 #[.val (.int p0), .val (.int p1), .val (.int p2), .val (.int p3), .val (.int p4), .val (.int p5), .val (.int (Int32.ofNat G)), .val (.ref b161), .val (.int (2 : Int32)), .val (.int (Int32.ofNat n172k - 1)), .val (.int rk), .unset] [(.ref b258)])) _
      refine XS.dup X258.here hx rfl (hb hby at_123) rfl rfl ?_
      show Steps p.tables e below (T258.setTop (mkF m 124 #[.val (.int p0), .val (.int p1), .val (.int p2), .val (.int p3), .val (.int p4), .val (.int p5), .val (.int (Int32.ofNat G)), .val (.ref b161), .val (.int (2 : Int32)), .val (.int (Int32.ofNat n172k - 1)), .val (.int rk), .unset] [(.ref b258), (.ref b258)])) _
      refine XS.aload X258.here hx rfl (hb hby at_124) rfl rfl ?_
      show Steps p.tables e below (T258.setTop (mkF m 126 #[.val (.int p0), .val (.int p1), .val (.int p2), .val (.int p3), .val (.int p4), .val (.int p5), .val (.int (Int32.ofNat G)), .val (.ref b161), .val (.int (2 : Int32)), .val (.int (Int32.ofNat n172k - 1)), .val (.int rk), .unset] [(.ref b161), (.ref b258), (.ref b258)])) _
      refine XS.iload X258.here hx rfl (hb hby at_126) rfl ?_
      show Steps p.tables e below (T258.setTop (mkF m 128 #[.val (.int p0), .val (.int p1), .val (.int p2), .val (.int p3), .val (.int p4), .val (.int p5), .val (.int (Int32.ofNat G)), .val (.ref b161), .val (.int (2 : Int32)), .val (.int (Int32.ofNat n172k - 1)), .val (.int rk), .unset] [(.int (Int32.ofNat G)), (.ref b161), (.ref b258), (.ref b258)])) _
      refine st264.trans ?_
      show Steps p.tables e below (T264.setTop (mkF m 131 #[.val (.int p0), .val (.int p1), .val (.int p2), .val (.int p3), .val (.int p4), .val (.int p5), .val (.int (Int32.ofNat G)), .val (.ref b161), .val (.int (2 : Int32)), .val (.int (Int32.ofNat n172k - 1)), .val (.int rk), .unset] [(.ref b258)])) _
      refine XS.astore X264.here hx rfl (hb hby at_131) rfl rfl (l' := #[.val (.int p0), .val (.int p1), .val (.int p2), .val (.int p3), .val (.int p4), .val (.int p5), .val (.int (Int32.ofNat G)), .val (.ref b161), .val (.int (2 : Int32)), .val (.int (Int32.ofNat n172k - 1)), .val (.int rk), .val (.ref b258)]) rfl ?_
      show Steps p.tables e below (T264.setTop (mkF m 133 #[.val (.int p0), .val (.int p1), .val (.int p2), .val (.int p3), .val (.int p4), .val (.int p5), .val (.int (Int32.ofNat G)), .val (.ref b161), .val (.int (2 : Int32)), .val (.int (Int32.ofNat n172k - 1)), .val (.int rk), .val (.ref b258)] [])) _
      refine XS.aload X264.here hx rfl (hb hby at_133) rfl rfl ?_
      show Steps p.tables e below (T264.setTop (mkF m 135 #[.val (.int p0), .val (.int p1), .val (.int p2), .val (.int p3), .val (.int p4), .val (.int p5), .val (.int (Int32.ofNat G)), .val (.ref b161), .val (.int (2 : Int32)), .val (.int (Int32.ofNat n172k - 1)), .val (.int rk), .val (.ref b258)] [(.ref b258)])) _
      refine XS.iload X264.here hx rfl (hb hby at_135) rfl ?_
      show Steps p.tables e below (T264.setTop (mkF m 137 #[.val (.int p0), .val (.int p1), .val (.int p2), .val (.int p3), .val (.int p4), .val (.int p5), .val (.int (Int32.ofNat G)), .val (.ref b161), .val (.int (2 : Int32)), .val (.int (Int32.ofNat n172k - 1)), .val (.int rk), .val (.ref b258)] [(.int (Int32.ofNat n172k - 1)), (.ref b258)])) _
      refine XS.iload X264.here hx rfl (hb hby at_137) rfl ?_
      show Steps p.tables e below (T264.setTop (mkF m 139 #[.val (.int p0), .val (.int p1), .val (.int p2), .val (.int p3), .val (.int p4), .val (.int p5), .val (.int (Int32.ofNat G)), .val (.ref b161), .val (.int (2 : Int32)), .val (.int (Int32.ofNat n172k - 1)), .val (.int rk), .val (.ref b258)] [(.int rk), (.int (Int32.ofNat n172k - 1)), (.ref b258)])) _
      refine st270.trans ?_
      show Steps p.tables e below (T270.setTop (mkF m 142 #[.val (.int p0), .val (.int p1), .val (.int p2), .val (.int p3), .val (.int p4), .val (.int p5), .val (.int (Int32.ofNat G)), .val (.ref b161), .val (.int (2 : Int32)), .val (.int (Int32.ofNat n172k - 1)), .val (.int rk), .val (.ref b258)] [(.int (Int32.ofNat (own_M (fun j => [n164k, n168k, n172k, n177k].getD j 0) 4 4 (own_A (fun j => [n164k, n168k, n172k, n177k].getD j 0) 4 ((fun j => [n164k, n168k, n172k, n177k].getD j 0) 2) + own_B (fun j => [n164k, n168k, n172k, n177k].getD j 0) 2 ((fun j => [n164k, n168k, n172k, n177k].getD j 0) 2)))))])) _
      refine XS.iload X270.here hx rfl (hb hby at_142) rfl ?_
      exact h
    have b144_272 : (Int32.ofNat (own_M (fun j => [n164k, n168k, n172k, n177k].getD j 0) 4 4 (own_A (fun j => [n164k, n168k, n172k, n177k].getD j 0) 4 ((fun j => [n164k, n168k, n172k, n177k].getD j 0) 2) + own_B (fun j => [n164k, n168k, n172k, n177k].getD j 0) 2 ((fun j => [n164k, n168k, n172k, n177k].getD j 0) 2)))) = (2 : Int32) := congrArg Int32.ofNat (own_M_at (fun j => [n164k, n168k, n172k, n177k].getD j 0) (n := 2) (N := 4) 4 (by decide) (by decide))
    have k273 : ∀ t, Steps p.tables e below (T270.setTop (mkF m 152 #[.val (.int p0), .val (.int p1), .val (.int p2), .val (.int p3), .val (.int p4), .val (.int p5), .val (.int (Int32.ofNat G)), .val (.ref b161), .val (.int (2 : Int32)), .val (.int (Int32.ofNat n172k - 1)), .val (.int rk), .val (.ref b258)] [(.int (1 : Int32))])) t → Steps p.tables e below (s₁.setTop (mkF m 0 #[.val (.int p0), .val (.int p1), .val (.int p2), .val (.int p3), .val (.int p4), .val (.int p5), .unset, .unset, .unset, .unset, .unset, .unset] [])) t := by
      intro t h
      refine k271 t ?_
      show Steps p.tables e below (T270.setTop (mkF m 144 #[.val (.int p0), .val (.int p1), .val (.int p2), .val (.int p3), .val (.int p4), .val (.int p5), .val (.int (Int32.ofNat G)), .val (.ref b161), .val (.int (2 : Int32)), .val (.int (Int32.ofNat n172k - 1)), .val (.int rk), .val (.ref b258)] [(.int (2 : Int32)), (.int (Int32.ofNat (own_M (fun j => [n164k, n168k, n172k, n177k].getD j 0) 4 4 (own_A (fun j => [n164k, n168k, n172k, n177k].getD j 0) 4 ((fun j => [n164k, n168k, n172k, n177k].getD j 0) 2) + own_B (fun j => [n164k, n168k, n172k, n177k].getD j 0) 2 ((fun j => [n164k, n168k, n172k, n177k].getD j 0) 2)))))])) _
      refine XS.icmpNo X270.here hx rfl (hb hby at_144) rfl (teq b144_272).2 ?_
      show Steps p.tables e below (T270.setTop (mkF m 147 #[.val (.int p0), .val (.int p1), .val (.int p2), .val (.int p3), .val (.int p4), .val (.int p5), .val (.int (Int32.ofNat G)), .val (.ref b161), .val (.int (2 : Int32)), .val (.int (Int32.ofNat n172k - 1)), .val (.int rk), .val (.ref b258)] [])) _
      refine XS.iconst X270.here hx rfl (hb hby at_147) ?_
      show Steps p.tables e below (T270.setTop (mkF m 148 #[.val (.int p0), .val (.int p1), .val (.int p2), .val (.int p3), .val (.int p4), .val (.int p5), .val (.int (Int32.ofNat G)), .val (.ref b161), .val (.int (2 : Int32)), .val (.int (Int32.ofNat n172k - 1)), .val (.int rk), .val (.ref b258)] [(.int (1 : Int32))])) _
      refine XS.goto X270.here hx rfl (pc0 := 148) (pc' := 152) rfl (hb hby at_148) (by decide) (by decide) ?_
      exact h
    obtain ⟨fs, hr, hrun, hended, hW, hsame⟩ := X270.leave (v := some (.int (1 : Int32))) (fun h => by rw [Bd.returns] at h; cases h) Bd.notSynchronized
    refine ⟨_, _, pre0 _ (k273 _ ?_), hrun, hended, _, _, rfl, ?_, ⟨_, rfl⟩, hW, hsame.mono (by decide) (by decide)⟩
    · exact retN X270 hx (t := .boolean) Bd.returns (by simp) (hb hby at_152) hr
    · show Q_rm0 Z _ _ _ _ _ _ h0 n0 _ T270.heap _
      rw [eq270]
      exact ⟨rfl, N270⟩
  · skip
    obtain ⟨cl274, Ar274, q274, S274, Ng274, H274, G274⟩ := id V178
    have hin274 : ¬ ((3 : Int32) < 0 ∨ cl274.slots.size ≤ ((3 : Int32)).toNatClampNeg) := inb_of S274 ⟨by decide, by decide⟩
    have k275 : ∀ t, Steps p.tables e below (T178.setTop (mkF m 67 #[.val (.int p0), .val (.int p1), .val (.int p2), .val (.int p3), .val (.int p4), .val (.int p5), .val (.int (Int32.ofNat G)), .val (.ref b161), .val (.int (3 : Int32)), .val (.int (Int32.ofNat n177k - 1)), .val (.int (0 : Int32)), .unset] [])) t → Steps p.tables e below (s₁.setTop (mkF m 0 #[.val (.int p0), .val (.int p1), .val (.int p2), .val (.int p3), .val (.int p4), .val (.int p5), .unset, .unset, .unset, .unset, .unset, .unset] [])) t := by
      intro t h
      refine k182 t ?_
      show Steps p.tables e below (T178.setTop (mkF m 57 #[.val (.int p0), .val (.int p1), .val (.int p2), .val (.int p3), .val (.int p4), .val (.int p5), .val (.int (Int32.ofNat G)), .val (.ref b161), .val (.int (3 : Int32)), .unset, .unset, .unset] [])) _
      refine XS.aload X178.here hx rfl (hb hby at_57) rfl rfl ?_
      show Steps p.tables e below (T178.setTop (mkF m 59 #[.val (.int p0), .val (.int p1), .val (.int p2), .val (.int p3), .val (.int p4), .val (.int p5), .val (.int (Int32.ofNat G)), .val (.ref b161), .val (.int (3 : Int32)), .unset, .unset, .unset] [(.ref b161)])) _
      refine XS.iload X178.here hx rfl (hb hby at_59) rfl ?_
      show Steps p.tables e below (T178.setTop (mkF m 61 #[.val (.int p0), .val (.int p1), .val (.int p2), .val (.int p3), .val (.int p4), .val (.int p5), .val (.int (Int32.ofNat G)), .val (.ref b161), .val (.int (3 : Int32)), .unset, .unset, .unset] [(.int (3 : Int32)), (.ref b161)])) _
      refine X178.iaload hx (j := (3 : Int32)) (v := (.int (Int32.ofNat n177k - 1))) (by rw [e178]; exact Ar274.1) (State.isArrayOf_alike hZ.alike Ar274.2.1) Ar274.2.2 hin274 (H274.at hin274 rfl) (g := (mkF m 61 #[.val (.int p0), .val (.int p1), .val (.int p2), .val (.int p3), .val (.int p4), .val (.int p5), .val (.int (Int32.ofNat G)), .val (.ref b161), .val (.int (3 : Int32)), .unset, .unset, .unset] [(.int (3 : Int32)), (.ref b161)])) rfl rfl (hb hby at_61) _ ?_
      show Steps p.tables e below (T178.setTop (mkF m 62 #[.val (.int p0), .val (.int p1), .val (.int p2), .val (.int p3), .val (.int p4), .val (.int p5), .val (.int (Int32.ofNat G)), .val (.ref b161), .val (.int (3 : Int32)), .unset, .unset, .unset] [(.int (Int32.ofNat n177k - 1))])) _
      refine XS.istore X178.here hx rfl (hb hby at_62) rfl (l' := #[.val (.int p0), .val (.int p1), .val (.int p2), .val (.int p3), .val (.int p4), .val (.int p5), .val (.int (Int32.ofNat G)), .val (.ref b161), .val (.int (3 : Int32)), .val (.int (Int32.ofNat n177k - 1)), .unset, .unset]) rfl ?_
      show Steps p.tables e below (T178.setTop (mkF m 64 #[.val (.int p0), .val (.int p1), .val (.int p2), .val (.int p3), .val (.int p4), .val (.int p5), .val (.int (Int32.ofNat G)), .val (.ref b161), .val (.int (3 : Int32)), .val (.int (Int32.ofNat n177k - 1)), .unset, .unset] [])) _
      refine XS.iconst X178.here hx rfl (hb hby at_64) ?_
      show Steps p.tables e below (T178.setTop (mkF m 65 #[.val (.int p0), .val (.int p1), .val (.int p2), .val (.int p3), .val (.int p4), .val (.int p5), .val (.int (Int32.ofNat G)), .val (.ref b161), .val (.int (3 : Int32)), .val (.int (Int32.ofNat n177k - 1)), .unset, .unset] [(.int (0 : Int32))])) _
      refine XS.istore X178.here hx rfl (hb hby at_65) rfl (l' := #[.val (.int p0), .val (.int p1), .val (.int p2), .val (.int p3), .val (.int p4), .val (.int p5), .val (.int (Int32.ofNat G)), .val (.ref b161), .val (.int (3 : Int32)), .val (.int (Int32.ofNat n177k - 1)), .val (.int (0 : Int32)), .unset]) rfl ?_
      exact h
    obtain ⟨rk, hk276, k276⟩ : ∃ (rk : Int32), (rk = Int32.ofNat (own_B (fun j => [n164k, n168k, n172k, n177k].getD j 0) 3 ((fun j => [n164k, n168k, n172k, n177k].getD j 0) 3))) ∧ ∀ t, Steps p.tables e below (T178.setTop (mkF m 120 #[.val (.int p0), .val (.int p1), .val (.int p2), .val (.int p3), .val (.int p4), .val (.int p5), .val (.int (Int32.ofNat G)), .val (.ref b161), .val (.int (3 : Int32)), .val (.int (Int32.ofNat n177k - 1)), .val (.int rk), .unset] [])) t → Steps p.tables e below (s₁.setTop (mkF m 0 #[.val (.int p0), .val (.int p1), .val (.int p2), .val (.int p3), .val (.int p4), .val (.int p5), .unset, .unset, .unset, .unset, .unset, .unset] [])) t := by
      have k277 : ∀ t, Steps p.tables e below (T178.setTop (mkF m 69 #[.val (.int p0), .val (.int p1), .val (.int p2), .val (.int p3), .val (.int p4), .val (.int p5), .val (.int (Int32.ofNat G)), .val (.ref b161), .val (.int (3 : Int32)), .val (.int (Int32.ofNat n177k - 1)), .val (.int (0 : Int32)), .unset] [(.int (3 : Int32))])) t → Steps p.tables e below (s₁.setTop (mkF m 0 #[.val (.int p0), .val (.int p1), .val (.int p2), .val (.int p3), .val (.int p4), .val (.int p5), .unset, .unset, .unset, .unset, .unset, .unset] [])) t := by
        intro t h
        refine k275 t ?_
        show Steps p.tables e below (T178.setTop (mkF m 67 #[.val (.int p0), .val (.int p1), .val (.int p2), .val (.int p3), .val (.int p4), .val (.int p5), .val (.int (Int32.ofNat G)), .val (.ref b161), .val (.int (3 : Int32)), .val (.int (Int32.ofNat n177k - 1)), .val (.int (0 : Int32)), .unset] [])) _
        refine XS.iload X178.here hx rfl (hb hby at_67) rfl ?_
        exact h
      obtain ⟨cl278, Ar278, q278, S278, Ng278, H278, G278⟩ := id V178
      have hin278 : ¬ ((0 : Int32) < 0 ∨ cl278.slots.size ≤ ((0 : Int32)).toNatClampNeg) := inb_of S278 ⟨by decide, by decide⟩
      have k279 : ∀ t, Steps p.tables e below (T178.setTop (mkF m 78 #[.val (.int p0), .val (.int p1), .val (.int p2), .val (.int p3), .val (.int p4), .val (.int p5), .val (.int (Int32.ofNat G)), .val (.ref b161), .val (.int (3 : Int32)), .val (.int (Int32.ofNat n177k - 1)), .val (.int (0 : Int32)), .unset] [(.int (Int32.ofNat n177k - 1)), (.int (Int32.ofNat n164k - 1))])) t → Steps p.tables e below (s₁.setTop (mkF m 0 #[.val (.int p0), .val (.int p1), .val (.int p2), .val (.int p3), .val (.int p4), .val (.int p5), .unset, .unset, .unset, .unset, .unset, .unset] [])) t := by
        intro t h
        refine k277 t ?_
        show Steps p.tables e below (T178.setTop (mkF m 69 #[.val (.int p0), .val (.int p1), .val (.int p2), .val (.int p3), .val (.int p4), .val (.int p5), .val (.int (Int32.ofNat G)), .val (.ref b161), .val (.int (3 : Int32)), .val (.int (Int32.ofNat n177k - 1)), .val (.int (0 : Int32)), .unset] [(.int (3 : Int32))])) _
        refine XS.ifNo X178.here hx rfl (hb hby at_69) rfl ((if0 _ _).trans (tlt (by decide : (0 : Int32) < (3 : Int32))).2.2.2) ?_
        show Steps p.tables e below (T178.setTop (mkF m 72 #[.val (.int p0), .val (.int p1), .val (.int p2), .val (.int p3), .val (.int p4), .val (.int p5), .val (.int (Int32.ofNat G)), .val (.ref b161), .val (.int (3 : Int32)), .val (.int (Int32.ofNat n177k - 1)), .val (.int (0 : Int32)), .unset] [])) _
        refine XS.aload X178.here hx rfl (hb hby at_72) rfl rfl ?_
        show Steps p.tables e below (T178.setTop (mkF m 74 #[.val (.int p0), .val (.int p1), .val (.int p2), .val (.int p3), .val (.int p4), .val (.int p5), .val (.int (Int32.ofNat G)), .val (.ref b161), .val (.int (3 : Int32)), .val (.int (Int32.ofNat n177k - 1)), .val (.int (0 : Int32)), .unset] [(.ref b161)])) _
        refine XS.iconst X178.here hx rfl (hb hby at_74) ?_
        show Steps p.tables e below (T178.setTop (mkF m 75 #[.val (.int p0), .val (.int p1), .val (.int p2), .val (.int p3), .val (.int p4), .val (.int p5), .val (.int (Int32.ofNat G)), .val (.ref b161), .val (.int (3 : Int32)), .val (.int (Int32.ofNat n177k - 1)), .val (.int (0 : Int32)), .unset] [(.int (0 : Int32)), (.ref b161)])) _
        refine X178.iaload hx (j := (0 : Int32)) (v := (.int (Int32.ofNat n164k - 1))) (by rw [e178]; exact Ar278.1) (State.isArrayOf_alike hZ.alike Ar278.2.1) Ar278.2.2 hin278 (H278.at hin278 rfl) (g := (mkF m 75 #[.val (.int p0), .val (.int p1), .val (.int p2), .val (.int p3), .val (.int p4), .val (.int p5), .val (.int (Int32.ofNat G)), .val (.ref b161), .val (.int (3 : Int32)), .val (.int (Int32.ofNat n177k - 1)), .val (.int (0 : Int32)), .unset] [(.int (0 : Int32)), (.ref b161)])) rfl rfl (hb hby at_75) _ ?_
        show Steps p.tables e below (T178.setTop (mkF m 76 #[.val (.int p0), .val (.int p1), .val (.int p2), .val (.int p3), .val (.int p4), .val (.int p5), .val (.int (Int32.ofNat G)), .val (.ref b161), .val (.int (3 : Int32)), .val (.int (Int32.ofNat n177k - 1)), .val (.int (0 : Int32)), .unset] [(.int (Int32.ofNat n164k - 1))])) _
        refine XS.iload X178.here hx rfl (hb hby at_76) rfl ?_
        exact h
      by_cases c78_280 : (Int32.ofNat n164k - 1) = (Int32.ofNat n177k - 1)
      · skip
        have k281 : ∀ t, Steps p.tables e below (T178.setTop (mkF m 87 #[.val (.int p0), .val (.int p1), .val (.int p2), .val (.int p3), .val (.int p4), .val (.int p5), .val (.int (Int32.ofNat G)), .val (.ref b161), .val (.int (3 : Int32)), .val (.int (Int32.ofNat n177k - 1)), .val (.int (1 : Int32)), .unset] [(.int (1 : Int32)), (.int (3 : Int32))])) t → Steps p.tables e below (s₁.setTop (mkF m 0 #[.val (.int p0), .val (.int p1), .val (.int p2), .val (.int p3), .val (.int p4), .val (.int p5), .unset, .unset, .unset, .unset, .unset, .unset] [])) t := by
          intro t h
          refine k279 t ?_
          show Steps p.tables e below (T178.setTop (mkF m 78 #[.val (.int p0), .val (.int p1), .val (.int p2), .val (.int p3), .val (.int p4), .val (.int p5), .val (.int (Int32.ofNat G)), .val (.ref b161), .val (.int (3 : Int32)), .val (.int (Int32.ofNat n177k - 1)), .val (.int (0 : Int32)), .unset] [(.int (Int32.ofNat n177k - 1)), (.int (Int32.ofNat n164k - 1))])) _
          refine XS.icmpNo X178.here hx rfl (hb hby at_78) rfl (teq c78_280).2 ?_
          show Steps p.tables e below (T178.setTop (mkF m 81 #[.val (.int p0), .val (.int p1), .val (.int p2), .val (.int p3), .val (.int p4), .val (.int p5), .val (.int (Int32.ofNat G)), .val (.ref b161), .val (.int (3 : Int32)), .val (.int (Int32.ofNat n177k - 1)), .val (.int (0 : Int32)), .unset] [])) _
          refine XS.iinc X178.here hx rfl (hb hby at_81) rfl (l' := #[.val (.int p0), .val (.int p1), .val (.int p2), .val (.int p3), .val (.int p4), .val (.int p5), .val (.int (Int32.ofNat G)), .val (.ref b161), .val (.int (3 : Int32)), .val (.int (Int32.ofNat n177k - 1)), .val (.int (1 : Int32)), .unset]) rfl ?_
          show Steps p.tables e below (T178.setTop (mkF m 84 #[.val (.int p0), .val (.int p1), .val (.int p2), .val (.int p3), .val (.int p4), .val (.int p5), .val (.int (Int32.ofNat G)), .val (.ref b161), .val (.int (3 : Int32)), .val (.int (Int32.ofNat n177k - 1)), .val (.int (1 : Int32)), .unset] [])) _
          refine XS.iload X178.here hx rfl (hb hby at_84) rfl ?_
          show Steps p.tables e below (T178.setTop (mkF m 86 #[.val (.int p0), .val (.int p1), .val (.int p2), .val (.int p3), .val (.int p4), .val (.int p5), .val (.int (Int32.ofNat G)), .val (.ref b161), .val (.int (3 : Int32)), .val (.int (Int32.ofNat n177k - 1)), .val (.int (1 : Int32)), .unset] [(.int (3 : Int32))])) _
          refine XS.iconst X178.here hx rfl (hb hby at_86) ?_
          exact h
        obtain ⟨cl282, Ar282, q282, S282, Ng282, H282, G282⟩ := id V178
        have hin282 : ¬ ((1 : Int32) < 0 ∨ cl282.slots.size ≤ ((1 : Int32)).toNatClampNeg) := inb_of S282 ⟨by decide, by decide⟩
        have k283 : ∀ t, Steps p.tables e below (T178.setTop (mkF m 96 #[.val (.int p0), .val (.int p1), .val (.int p2), .val (.int p3), .val (.int p4), .val (.int p5), .val (.int (Int32.ofNat G)), .val (.ref b161), .val (.int (3 : Int32)), .val (.int (Int32.ofNat n177k - 1)), .val (.int (1 : Int32)), .unset] [(.int (Int32.ofNat n177k - 1)), (.int (Int32.ofNat n168k - 1))])) t → Steps p.tables e below (s₁.setTop (mkF m 0 #[.val (.int p0), .val (.int p1), .val (.int p2), .val (.int p3), .val (.int p4), .val (.int p5), .unset, .unset, .unset, .unset, .unset, .unset] [])) t := by
          intro t h
          refine k281 t ?_
          show Steps p.tables e below (T178.setTop (mkF m 87 #[.val (.int p0), .val (.int p1), .val (.int p2), .val (.int p3), .val (.int p4), .val (.int p5), .val (.int (Int32.ofNat G)), .val (.ref b161), .val (.int (3 : Int32)), .val (.int (Int32.ofNat n177k - 1)), .val (.int (1 : Int32)), .unset] [(.int (1 : Int32)), (.int (3 : Int32))])) _
          refine XS.icmpNo X178.here hx rfl (hb hby at_87) rfl (tlt (by decide : (1 : Int32) < (3 : Int32))).2.2.2 ?_
          show Steps p.tables e below (T178.setTop (mkF m 90 #[.val (.int p0), .val (.int p1), .val (.int p2), .val (.int p3), .val (.int p4), .val (.int p5), .val (.int (Int32.ofNat G)), .val (.ref b161), .val (.int (3 : Int32)), .val (.int (Int32.ofNat n177k - 1)), .val (.int (1 : Int32)), .unset] [])) _
          refine XS.aload X178.here hx rfl (hb hby at_90) rfl rfl ?_
          show Steps p.tables e below (T178.setTop (mkF m 92 #[.val (.int p0), .val (.int p1), .val (.int p2), .val (.int p3), .val (.int p4), .val (.int p5), .val (.int (Int32.ofNat G)), .val (.ref b161), .val (.int (3 : Int32)), .val (.int (Int32.ofNat n177k - 1)), .val (.int (1 : Int32)), .unset] [(.ref b161)])) _
          refine XS.iconst X178.here hx rfl (hb hby at_92) ?_
          show Steps p.tables e below (T178.setTop (mkF m 93 #[.val (.int p0), .val (.int p1), .val (.int p2), .val (.int p3), .val (.int p4), .val (.int p5), .val (.int (Int32.ofNat G)), .val (.ref b161), .val (.int (3 : Int32)), .val (.int (Int32.ofNat n177k - 1)), .val (.int (1 : Int32)), .unset] [(.int (1 : Int32)), (.ref b161)])) _
          refine X178.iaload hx (j := (1 : Int32)) (v := (.int (Int32.ofNat n168k - 1))) (by rw [e178]; exact Ar282.1) (State.isArrayOf_alike hZ.alike Ar282.2.1) Ar282.2.2 hin282 (H282.at hin282 rfl) (g := (mkF m 93 #[.val (.int p0), .val (.int p1), .val (.int p2), .val (.int p3), .val (.int p4), .val (.int p5), .val (.int (Int32.ofNat G)), .val (.ref b161), .val (.int (3 : Int32)), .val (.int (Int32.ofNat n177k - 1)), .val (.int (1 : Int32)), .unset] [(.int (1 : Int32)), (.ref b161)])) rfl rfl (hb hby at_93) _ ?_
          show Steps p.tables e below (T178.setTop (mkF m 94 #[.val (.int p0), .val (.int p1), .val (.int p2), .val (.int p3), .val (.int p4), .val (.int p5), .val (.int (Int32.ofNat G)), .val (.ref b161), .val (.int (3 : Int32)), .val (.int (Int32.ofNat n177k - 1)), .val (.int (1 : Int32)), .unset] [(.int (Int32.ofNat n168k - 1))])) _
          refine XS.iload X178.here hx rfl (hb hby at_94) rfl ?_
          exact h
        by_cases c96_284 : (Int32.ofNat n168k - 1) = (Int32.ofNat n177k - 1)
        · skip
          have k285 : ∀ t, Steps p.tables e below (T178.setTop (mkF m 105 #[.val (.int p0), .val (.int p1), .val (.int p2), .val (.int p3), .val (.int p4), .val (.int p5), .val (.int (Int32.ofNat G)), .val (.ref b161), .val (.int (3 : Int32)), .val (.int (Int32.ofNat n177k - 1)), .val (.int (2 : Int32)), .unset] [(.int (2 : Int32)), (.int (3 : Int32))])) t → Steps p.tables e below (s₁.setTop (mkF m 0 #[.val (.int p0), .val (.int p1), .val (.int p2), .val (.int p3), .val (.int p4), .val (.int p5), .unset, .unset, .unset, .unset, .unset, .unset] [])) t := by
            intro t h
            refine k283 t ?_
            show Steps p.tables e below (T178.setTop (mkF m 96 #[.val (.int p0), .val (.int p1), .val (.int p2), .val (.int p3), .val (.int p4), .val (.int p5), .val (.int (Int32.ofNat G)), .val (.ref b161), .val (.int (3 : Int32)), .val (.int (Int32.ofNat n177k - 1)), .val (.int (1 : Int32)), .unset] [(.int (Int32.ofNat n177k - 1)), (.int (Int32.ofNat n168k - 1))])) _
            refine XS.icmpNo X178.here hx rfl (hb hby at_96) rfl (teq c96_284).2 ?_
            show Steps p.tables e below (T178.setTop (mkF m 99 #[.val (.int p0), .val (.int p1), .val (.int p2), .val (.int p3), .val (.int p4), .val (.int p5), .val (.int (Int32.ofNat G)), .val (.ref b161), .val (.int (3 : Int32)), .val (.int (Int32.ofNat n177k - 1)), .val (.int (1 : Int32)), .unset] [])) _
            refine XS.iinc X178.here hx rfl (hb hby at_99) rfl (l' := #[.val (.int p0), .val (.int p1), .val (.int p2), .val (.int p3), .val (.int p4), .val (.int p5), .val (.int (Int32.ofNat G)), .val (.ref b161), .val (.int (3 : Int32)), .val (.int (Int32.ofNat n177k - 1)), .val (.int (2 : Int32)), .unset]) rfl ?_
            show Steps p.tables e below (T178.setTop (mkF m 102 #[.val (.int p0), .val (.int p1), .val (.int p2), .val (.int p3), .val (.int p4), .val (.int p5), .val (.int (Int32.ofNat G)), .val (.ref b161), .val (.int (3 : Int32)), .val (.int (Int32.ofNat n177k - 1)), .val (.int (2 : Int32)), .unset] [])) _
            refine XS.iload X178.here hx rfl (hb hby at_102) rfl ?_
            show Steps p.tables e below (T178.setTop (mkF m 104 #[.val (.int p0), .val (.int p1), .val (.int p2), .val (.int p3), .val (.int p4), .val (.int p5), .val (.int (Int32.ofNat G)), .val (.ref b161), .val (.int (3 : Int32)), .val (.int (Int32.ofNat n177k - 1)), .val (.int (2 : Int32)), .unset] [(.int (3 : Int32))])) _
            refine XS.iconst X178.here hx rfl (hb hby at_104) ?_
            exact h
          obtain ⟨cl286, Ar286, q286, S286, Ng286, H286, G286⟩ := id V178
          have hin286 : ¬ ((2 : Int32) < 0 ∨ cl286.slots.size ≤ ((2 : Int32)).toNatClampNeg) := inb_of S286 ⟨by decide, by decide⟩
          have k287 : ∀ t, Steps p.tables e below (T178.setTop (mkF m 114 #[.val (.int p0), .val (.int p1), .val (.int p2), .val (.int p3), .val (.int p4), .val (.int p5), .val (.int (Int32.ofNat G)), .val (.ref b161), .val (.int (3 : Int32)), .val (.int (Int32.ofNat n177k - 1)), .val (.int (2 : Int32)), .unset] [(.int (Int32.ofNat n177k - 1)), (.int (Int32.ofNat n172k - 1))])) t → Steps p.tables e below (s₁.setTop (mkF m 0 #[.val (.int p0), .val (.int p1), .val (.int p2), .val (.int p3), .val (.int p4), .val (.int p5), .unset, .unset, .unset, .unset, .unset, .unset] [])) t := by
            intro t h
            refine k285 t ?_
            show Steps p.tables e below (T178.setTop (mkF m 105 #[.val (.int p0), .val (.int p1), .val (.int p2), .val (.int p3), .val (.int p4), .val (.int p5), .val (.int (Int32.ofNat G)), .val (.ref b161), .val (.int (3 : Int32)), .val (.int (Int32.ofNat n177k - 1)), .val (.int (2 : Int32)), .unset] [(.int (2 : Int32)), (.int (3 : Int32))])) _
            refine XS.icmpNo X178.here hx rfl (hb hby at_105) rfl (tlt (by decide : (2 : Int32) < (3 : Int32))).2.2.2 ?_
            show Steps p.tables e below (T178.setTop (mkF m 108 #[.val (.int p0), .val (.int p1), .val (.int p2), .val (.int p3), .val (.int p4), .val (.int p5), .val (.int (Int32.ofNat G)), .val (.ref b161), .val (.int (3 : Int32)), .val (.int (Int32.ofNat n177k - 1)), .val (.int (2 : Int32)), .unset] [])) _
            refine XS.aload X178.here hx rfl (hb hby at_108) rfl rfl ?_
            show Steps p.tables e below (T178.setTop (mkF m 110 #[.val (.int p0), .val (.int p1), .val (.int p2), .val (.int p3), .val (.int p4), .val (.int p5), .val (.int (Int32.ofNat G)), .val (.ref b161), .val (.int (3 : Int32)), .val (.int (Int32.ofNat n177k - 1)), .val (.int (2 : Int32)), .unset] [(.ref b161)])) _
            refine XS.iconst X178.here hx rfl (hb hby at_110) ?_
            show Steps p.tables e below (T178.setTop (mkF m 111 #[.val (.int p0), .val (.int p1), .val (.int p2), .val (.int p3), .val (.int p4), .val (.int p5), .val (.int (Int32.ofNat G)), .val (.ref b161), .val (.int (3 : Int32)), .val (.int (Int32.ofNat n177k - 1)), .val (.int (2 : Int32)), .unset] [(.int (2 : Int32)), (.ref b161)])) _
            refine X178.iaload hx (j := (2 : Int32)) (v := (.int (Int32.ofNat n172k - 1))) (by rw [e178]; exact Ar286.1) (State.isArrayOf_alike hZ.alike Ar286.2.1) Ar286.2.2 hin286 (H286.at hin286 rfl) (g := (mkF m 111 #[.val (.int p0), .val (.int p1), .val (.int p2), .val (.int p3), .val (.int p4), .val (.int p5), .val (.int (Int32.ofNat G)), .val (.ref b161), .val (.int (3 : Int32)), .val (.int (Int32.ofNat n177k - 1)), .val (.int (2 : Int32)), .unset] [(.int (2 : Int32)), (.ref b161)])) rfl rfl (hb hby at_111) _ ?_
            show Steps p.tables e below (T178.setTop (mkF m 112 #[.val (.int p0), .val (.int p1), .val (.int p2), .val (.int p3), .val (.int p4), .val (.int p5), .val (.int (Int32.ofNat G)), .val (.ref b161), .val (.int (3 : Int32)), .val (.int (Int32.ofNat n177k - 1)), .val (.int (2 : Int32)), .unset] [(.int (Int32.ofNat n172k - 1))])) _
            refine XS.iload X178.here hx rfl (hb hby at_112) rfl ?_
            exact h
          by_cases c114_288 : (Int32.ofNat n172k - 1) = (Int32.ofNat n177k - 1)
          · skip
            have k289 : ∀ t, Steps p.tables e below (T178.setTop (mkF m 120 #[.val (.int p0), .val (.int p1), .val (.int p2), .val (.int p3), .val (.int p4), .val (.int p5), .val (.int (Int32.ofNat G)), .val (.ref b161), .val (.int (3 : Int32)), .val (.int (Int32.ofNat n177k - 1)), .val (.int (3 : Int32)), .unset] [])) t → Steps p.tables e below (s₁.setTop (mkF m 0 #[.val (.int p0), .val (.int p1), .val (.int p2), .val (.int p3), .val (.int p4), .val (.int p5), .unset, .unset, .unset, .unset, .unset, .unset] [])) t := by
              intro t h
              refine k287 t ?_
              show Steps p.tables e below (T178.setTop (mkF m 114 #[.val (.int p0), .val (.int p1), .val (.int p2), .val (.int p3), .val (.int p4), .val (.int p5), .val (.int (Int32.ofNat G)), .val (.ref b161), .val (.int (3 : Int32)), .val (.int (Int32.ofNat n177k - 1)), .val (.int (2 : Int32)), .unset] [(.int (Int32.ofNat n177k - 1)), (.int (Int32.ofNat n172k - 1))])) _
              refine XS.icmpNo X178.here hx rfl (hb hby at_114) rfl (teq c114_288).2 ?_
              show Steps p.tables e below (T178.setTop (mkF m 117 #[.val (.int p0), .val (.int p1), .val (.int p2), .val (.int p3), .val (.int p4), .val (.int p5), .val (.int (Int32.ofNat G)), .val (.ref b161), .val (.int (3 : Int32)), .val (.int (Int32.ofNat n177k - 1)), .val (.int (2 : Int32)), .unset] [])) _
              refine XS.iinc X178.here hx rfl (hb hby at_117) rfl (l' := #[.val (.int p0), .val (.int p1), .val (.int p2), .val (.int p3), .val (.int p4), .val (.int p5), .val (.int (Int32.ofNat G)), .val (.ref b161), .val (.int (3 : Int32)), .val (.int (Int32.ofNat n177k - 1)), .val (.int (3 : Int32)), .unset]) rfl ?_
              exact h
            exact ⟨(3 : Int32), (by
                  rw [own_keyeq (by omega) (by omega)] at c78_280 c96_284 c114_288
                  simp [own_B, c78_280, c96_284, c114_288]), k289⟩
          · skip
            have k290 : ∀ t, Steps p.tables e below (T178.setTop (mkF m 120 #[.val (.int p0), .val (.int p1), .val (.int p2), .val (.int p3), .val (.int p4), .val (.int p5), .val (.int (Int32.ofNat G)), .val (.ref b161), .val (.int (3 : Int32)), .val (.int (Int32.ofNat n177k - 1)), .val (.int (2 : Int32)), .unset] [])) t → Steps p.tables e below (s₁.setTop (mkF m 0 #[.val (.int p0), .val (.int p1), .val (.int p2), .val (.int p3), .val (.int p4), .val (.int p5), .unset, .unset, .unset, .unset, .unset, .unset] [])) t := by
              intro t h
              refine k287 t ?_
              show Steps p.tables e below (T178.setTop (mkF m 114 #[.val (.int p0), .val (.int p1), .val (.int p2), .val (.int p3), .val (.int p4), .val (.int p5), .val (.int (Int32.ofNat G)), .val (.ref b161), .val (.int (3 : Int32)), .val (.int (Int32.ofNat n177k - 1)), .val (.int (2 : Int32)), .unset] [(.int (Int32.ofNat n177k - 1)), (.int (Int32.ofNat n172k - 1))])) _
              refine XS.icmpYes X178.here hx rfl (pc0 := 114) (pc' := 120) rfl (hb hby at_114) rfl (feq c114_288).2 (by decide) (by decide) ?_
              exact h
            exact ⟨(2 : Int32), (by
                  rw [own_keyeq (by omega) (by omega)] at c78_280 c96_284 c114_288
                  simp [own_B, c78_280, c96_284, c114_288]), k290⟩
        · skip
          have k291 : ∀ t, Steps p.tables e below (T178.setTop (mkF m 105 #[.val (.int p0), .val (.int p1), .val (.int p2), .val (.int p3), .val (.int p4), .val (.int p5), .val (.int (Int32.ofNat G)), .val (.ref b161), .val (.int (3 : Int32)), .val (.int (Int32.ofNat n177k - 1)), .val (.int (1 : Int32)), .unset] [(.int (2 : Int32)), (.int (3 : Int32))])) t → Steps p.tables e below (s₁.setTop (mkF m 0 #[.val (.int p0), .val (.int p1), .val (.int p2), .val (.int p3), .val (.int p4), .val (.int p5), .unset, .unset, .unset, .unset, .unset, .unset] [])) t := by
            intro t h
            refine k283 t ?_
            show Steps p.tables e below (T178.setTop (mkF m 96 #[.val (.int p0), .val (.int p1), .val (.int p2), .val (.int p3), .val (.int p4), .val (.int p5), .val (.int (Int32.ofNat G)), .val (.ref b161), .val (.int (3 : Int32)), .val (.int (Int32.ofNat n177k - 1)), .val (.int (1 : Int32)), .unset] [(.int (Int32.ofNat n177k - 1)), (.int (Int32.ofNat n168k - 1))])) _
            refine XS.icmpYes X178.here hx rfl (pc0 := 96) (pc' := 102) rfl (hb hby at_96) rfl (feq c96_284).2 (by decide) (by decide) ?_
            show Steps p.tables e below (T178.setTop (mkF m 102 #[.val (.int p0), .val (.int p1), .val (.int p2), .val (.int p3), .val (.int p4), .val (.int p5), .val (.int (Int32.ofNat G)), .val (.ref b161), .val (.int (3 : Int32)), .val (.int (Int32.ofNat n177k - 1)), .val (.int (1 : Int32)), .unset] [])) _
            refine XS.iload X178.here hx rfl (hb hby at_102) rfl ?_
            show Steps p.tables e below (T178.setTop (mkF m 104 #[.val (.int p0), .val (.int p1), .val (.int p2), .val (.int p3), .val (.int p4), .val (.int p5), .val (.int (Int32.ofNat G)), .val (.ref b161), .val (.int (3 : Int32)), .val (.int (Int32.ofNat n177k - 1)), .val (.int (1 : Int32)), .unset] [(.int (3 : Int32))])) _
            refine XS.iconst X178.here hx rfl (hb hby at_104) ?_
            exact h
          obtain ⟨cl292, Ar292, q292, S292, Ng292, H292, G292⟩ := id V178
          have hin292 : ¬ ((2 : Int32) < 0 ∨ cl292.slots.size ≤ ((2 : Int32)).toNatClampNeg) := inb_of S292 ⟨by decide, by decide⟩
          have k293 : ∀ t, Steps p.tables e below (T178.setTop (mkF m 114 #[.val (.int p0), .val (.int p1), .val (.int p2), .val (.int p3), .val (.int p4), .val (.int p5), .val (.int (Int32.ofNat G)), .val (.ref b161), .val (.int (3 : Int32)), .val (.int (Int32.ofNat n177k - 1)), .val (.int (1 : Int32)), .unset] [(.int (Int32.ofNat n177k - 1)), (.int (Int32.ofNat n172k - 1))])) t → Steps p.tables e below (s₁.setTop (mkF m 0 #[.val (.int p0), .val (.int p1), .val (.int p2), .val (.int p3), .val (.int p4), .val (.int p5), .unset, .unset, .unset, .unset, .unset, .unset] [])) t := by
            intro t h
            refine k291 t ?_
            show Steps p.tables e below (T178.setTop (mkF m 105 #[.val (.int p0), .val (.int p1), .val (.int p2), .val (.int p3), .val (.int p4), .val (.int p5), .val (.int (Int32.ofNat G)), .val (.ref b161), .val (.int (3 : Int32)), .val (.int (Int32.ofNat n177k - 1)), .val (.int (1 : Int32)), .unset] [(.int (2 : Int32)), (.int (3 : Int32))])) _
            refine XS.icmpNo X178.here hx rfl (hb hby at_105) rfl (tlt (by decide : (2 : Int32) < (3 : Int32))).2.2.2 ?_
            show Steps p.tables e below (T178.setTop (mkF m 108 #[.val (.int p0), .val (.int p1), .val (.int p2), .val (.int p3), .val (.int p4), .val (.int p5), .val (.int (Int32.ofNat G)), .val (.ref b161), .val (.int (3 : Int32)), .val (.int (Int32.ofNat n177k - 1)), .val (.int (1 : Int32)), .unset] [])) _
            refine XS.aload X178.here hx rfl (hb hby at_108) rfl rfl ?_
            show Steps p.tables e below (T178.setTop (mkF m 110 #[.val (.int p0), .val (.int p1), .val (.int p2), .val (.int p3), .val (.int p4), .val (.int p5), .val (.int (Int32.ofNat G)), .val (.ref b161), .val (.int (3 : Int32)), .val (.int (Int32.ofNat n177k - 1)), .val (.int (1 : Int32)), .unset] [(.ref b161)])) _
            refine XS.iconst X178.here hx rfl (hb hby at_110) ?_
            show Steps p.tables e below (T178.setTop (mkF m 111 #[.val (.int p0), .val (.int p1), .val (.int p2), .val (.int p3), .val (.int p4), .val (.int p5), .val (.int (Int32.ofNat G)), .val (.ref b161), .val (.int (3 : Int32)), .val (.int (Int32.ofNat n177k - 1)), .val (.int (1 : Int32)), .unset] [(.int (2 : Int32)), (.ref b161)])) _
            refine X178.iaload hx (j := (2 : Int32)) (v := (.int (Int32.ofNat n172k - 1))) (by rw [e178]; exact Ar292.1) (State.isArrayOf_alike hZ.alike Ar292.2.1) Ar292.2.2 hin292 (H292.at hin292 rfl) (g := (mkF m 111 #[.val (.int p0), .val (.int p1), .val (.int p2), .val (.int p3), .val (.int p4), .val (.int p5), .val (.int (Int32.ofNat G)), .val (.ref b161), .val (.int (3 : Int32)), .val (.int (Int32.ofNat n177k - 1)), .val (.int (1 : Int32)), .unset] [(.int (2 : Int32)), (.ref b161)])) rfl rfl (hb hby at_111) _ ?_
            show Steps p.tables e below (T178.setTop (mkF m 112 #[.val (.int p0), .val (.int p1), .val (.int p2), .val (.int p3), .val (.int p4), .val (.int p5), .val (.int (Int32.ofNat G)), .val (.ref b161), .val (.int (3 : Int32)), .val (.int (Int32.ofNat n177k - 1)), .val (.int (1 : Int32)), .unset] [(.int (Int32.ofNat n172k - 1))])) _
            refine XS.iload X178.here hx rfl (hb hby at_112) rfl ?_
            exact h
          by_cases c114_294 : (Int32.ofNat n172k - 1) = (Int32.ofNat n177k - 1)
          · skip
            have k295 : ∀ t, Steps p.tables e below (T178.setTop (mkF m 120 #[.val (.int p0), .val (.int p1), .val (.int p2), .val (.int p3), .val (.int p4), .val (.int p5), .val (.int (Int32.ofNat G)), .val (.ref b161), .val (.int (3 : Int32)), .val (.int (Int32.ofNat n177k - 1)), .val (.int (2 : Int32)), .unset] [])) t → Steps p.tables e below (s₁.setTop (mkF m 0 #[.val (.int p0), .val (.int p1), .val (.int p2), .val (.int p3), .val (.int p4), .val (.int p5), .unset, .unset, .unset, .unset, .unset, .unset] [])) t := by
              intro t h
              refine k293 t ?_
              show Steps p.tables e below (T178.setTop (mkF m 114 #[.val (.int p0), .val (.int p1), .val (.int p2), .val (.int p3), .val (.int p4), .val (.int p5), .val (.int (Int32.ofNat G)), .val (.ref b161), .val (.int (3 : Int32)), .val (.int (Int32.ofNat n177k - 1)), .val (.int (1 : Int32)), .unset] [(.int (Int32.ofNat n177k - 1)), (.int (Int32.ofNat n172k - 1))])) _
              refine XS.icmpNo X178.here hx rfl (hb hby at_114) rfl (teq c114_294).2 ?_
              show Steps p.tables e below (T178.setTop (mkF m 117 #[.val (.int p0), .val (.int p1), .val (.int p2), .val (.int p3), .val (.int p4), .val (.int p5), .val (.int (Int32.ofNat G)), .val (.ref b161), .val (.int (3 : Int32)), .val (.int (Int32.ofNat n177k - 1)), .val (.int (1 : Int32)), .unset] [])) _
              refine XS.iinc X178.here hx rfl (hb hby at_117) rfl (l' := #[.val (.int p0), .val (.int p1), .val (.int p2), .val (.int p3), .val (.int p4), .val (.int p5), .val (.int (Int32.ofNat G)), .val (.ref b161), .val (.int (3 : Int32)), .val (.int (Int32.ofNat n177k - 1)), .val (.int (2 : Int32)), .unset]) rfl ?_
              exact h
            exact ⟨(2 : Int32), (by
                  rw [own_keyeq (by omega) (by omega)] at c78_280 c96_284 c114_294
                  simp [own_B, c78_280, c96_284, c114_294]), k295⟩
          · skip
            have k296 : ∀ t, Steps p.tables e below (T178.setTop (mkF m 120 #[.val (.int p0), .val (.int p1), .val (.int p2), .val (.int p3), .val (.int p4), .val (.int p5), .val (.int (Int32.ofNat G)), .val (.ref b161), .val (.int (3 : Int32)), .val (.int (Int32.ofNat n177k - 1)), .val (.int (1 : Int32)), .unset] [])) t → Steps p.tables e below (s₁.setTop (mkF m 0 #[.val (.int p0), .val (.int p1), .val (.int p2), .val (.int p3), .val (.int p4), .val (.int p5), .unset, .unset, .unset, .unset, .unset, .unset] [])) t := by
              intro t h
              refine k293 t ?_
              show Steps p.tables e below (T178.setTop (mkF m 114 #[.val (.int p0), .val (.int p1), .val (.int p2), .val (.int p3), .val (.int p4), .val (.int p5), .val (.int (Int32.ofNat G)), .val (.ref b161), .val (.int (3 : Int32)), .val (.int (Int32.ofNat n177k - 1)), .val (.int (1 : Int32)), .unset] [(.int (Int32.ofNat n177k - 1)), (.int (Int32.ofNat n172k - 1))])) _
              refine XS.icmpYes X178.here hx rfl (pc0 := 114) (pc' := 120) rfl (hb hby at_114) rfl (feq c114_294).2 (by decide) (by decide) ?_
              exact h
            exact ⟨(1 : Int32), (by
                  rw [own_keyeq (by omega) (by omega)] at c78_280 c96_284 c114_294
                  simp [own_B, c78_280, c96_284, c114_294]), k296⟩
      · skip
        have k297 : ∀ t, Steps p.tables e below (T178.setTop (mkF m 87 #[.val (.int p0), .val (.int p1), .val (.int p2), .val (.int p3), .val (.int p4), .val (.int p5), .val (.int (Int32.ofNat G)), .val (.ref b161), .val (.int (3 : Int32)), .val (.int (Int32.ofNat n177k - 1)), .val (.int (0 : Int32)), .unset] [(.int (1 : Int32)), (.int (3 : Int32))])) t → Steps p.tables e below (s₁.setTop (mkF m 0 #[.val (.int p0), .val (.int p1), .val (.int p2), .val (.int p3), .val (.int p4), .val (.int p5), .unset, .unset, .unset, .unset, .unset, .unset] [])) t := by
          intro t h
          refine k279 t ?_
          show Steps p.tables e below (T178.setTop (mkF m 78 #[.val (.int p0), .val (.int p1), .val (.int p2), .val (.int p3), .val (.int p4), .val (.int p5), .val (.int (Int32.ofNat G)), .val (.ref b161), .val (.int (3 : Int32)), .val (.int (Int32.ofNat n177k - 1)), .val (.int (0 : Int32)), .unset] [(.int (Int32.ofNat n177k - 1)), (.int (Int32.ofNat n164k - 1))])) _
          refine XS.icmpYes X178.here hx rfl (pc0 := 78) (pc' := 84) rfl (hb hby at_78) rfl (feq c78_280).2 (by decide) (by decide) ?_
          show Steps p.tables e below (T178.setTop (mkF m 84 #[.val (.int p0), .val (.int p1), .val (.int p2), .val (.int p3), .val (.int p4), .val (.int p5), .val (.int (Int32.ofNat G)), .val (.ref b161), .val (.int (3 : Int32)), .val (.int (Int32.ofNat n177k - 1)), .val (.int (0 : Int32)), .unset] [])) _
          refine XS.iload X178.here hx rfl (hb hby at_84) rfl ?_
          show Steps p.tables e below (T178.setTop (mkF m 86 #[.val (.int p0), .val (.int p1), .val (.int p2), .val (.int p3), .val (.int p4), .val (.int p5), .val (.int (Int32.ofNat G)), .val (.ref b161), .val (.int (3 : Int32)), .val (.int (Int32.ofNat n177k - 1)), .val (.int (0 : Int32)), .unset] [(.int (3 : Int32))])) _
          refine XS.iconst X178.here hx rfl (hb hby at_86) ?_
          exact h
        obtain ⟨cl298, Ar298, q298, S298, Ng298, H298, G298⟩ := id V178
        have hin298 : ¬ ((1 : Int32) < 0 ∨ cl298.slots.size ≤ ((1 : Int32)).toNatClampNeg) := inb_of S298 ⟨by decide, by decide⟩
        have k299 : ∀ t, Steps p.tables e below (T178.setTop (mkF m 96 #[.val (.int p0), .val (.int p1), .val (.int p2), .val (.int p3), .val (.int p4), .val (.int p5), .val (.int (Int32.ofNat G)), .val (.ref b161), .val (.int (3 : Int32)), .val (.int (Int32.ofNat n177k - 1)), .val (.int (0 : Int32)), .unset] [(.int (Int32.ofNat n177k - 1)), (.int (Int32.ofNat n168k - 1))])) t → Steps p.tables e below (s₁.setTop (mkF m 0 #[.val (.int p0), .val (.int p1), .val (.int p2), .val (.int p3), .val (.int p4), .val (.int p5), .unset, .unset, .unset, .unset, .unset, .unset] [])) t := by
          intro t h
          refine k297 t ?_
          show Steps p.tables e below (T178.setTop (mkF m 87 #[.val (.int p0), .val (.int p1), .val (.int p2), .val (.int p3), .val (.int p4), .val (.int p5), .val (.int (Int32.ofNat G)), .val (.ref b161), .val (.int (3 : Int32)), .val (.int (Int32.ofNat n177k - 1)), .val (.int (0 : Int32)), .unset] [(.int (1 : Int32)), (.int (3 : Int32))])) _
          refine XS.icmpNo X178.here hx rfl (hb hby at_87) rfl (tlt (by decide : (1 : Int32) < (3 : Int32))).2.2.2 ?_
          show Steps p.tables e below (T178.setTop (mkF m 90 #[.val (.int p0), .val (.int p1), .val (.int p2), .val (.int p3), .val (.int p4), .val (.int p5), .val (.int (Int32.ofNat G)), .val (.ref b161), .val (.int (3 : Int32)), .val (.int (Int32.ofNat n177k - 1)), .val (.int (0 : Int32)), .unset] [])) _
          refine XS.aload X178.here hx rfl (hb hby at_90) rfl rfl ?_
          show Steps p.tables e below (T178.setTop (mkF m 92 #[.val (.int p0), .val (.int p1), .val (.int p2), .val (.int p3), .val (.int p4), .val (.int p5), .val (.int (Int32.ofNat G)), .val (.ref b161), .val (.int (3 : Int32)), .val (.int (Int32.ofNat n177k - 1)), .val (.int (0 : Int32)), .unset] [(.ref b161)])) _
          refine XS.iconst X178.here hx rfl (hb hby at_92) ?_
          show Steps p.tables e below (T178.setTop (mkF m 93 #[.val (.int p0), .val (.int p1), .val (.int p2), .val (.int p3), .val (.int p4), .val (.int p5), .val (.int (Int32.ofNat G)), .val (.ref b161), .val (.int (3 : Int32)), .val (.int (Int32.ofNat n177k - 1)), .val (.int (0 : Int32)), .unset] [(.int (1 : Int32)), (.ref b161)])) _
          refine X178.iaload hx (j := (1 : Int32)) (v := (.int (Int32.ofNat n168k - 1))) (by rw [e178]; exact Ar298.1) (State.isArrayOf_alike hZ.alike Ar298.2.1) Ar298.2.2 hin298 (H298.at hin298 rfl) (g := (mkF m 93 #[.val (.int p0), .val (.int p1), .val (.int p2), .val (.int p3), .val (.int p4), .val (.int p5), .val (.int (Int32.ofNat G)), .val (.ref b161), .val (.int (3 : Int32)), .val (.int (Int32.ofNat n177k - 1)), .val (.int (0 : Int32)), .unset] [(.int (1 : Int32)), (.ref b161)])) rfl rfl (hb hby at_93) _ ?_
          show Steps p.tables e below (T178.setTop (mkF m 94 #[.val (.int p0), .val (.int p1), .val (.int p2), .val (.int p3), .val (.int p4), .val (.int p5), .val (.int (Int32.ofNat G)), .val (.ref b161), .val (.int (3 : Int32)), .val (.int (Int32.ofNat n177k - 1)), .val (.int (0 : Int32)), .unset] [(.int (Int32.ofNat n168k - 1))])) _
          refine XS.iload X178.here hx rfl (hb hby at_94) rfl ?_
          exact h
        by_cases c96_300 : (Int32.ofNat n168k - 1) = (Int32.ofNat n177k - 1)
        · skip
          have k301 : ∀ t, Steps p.tables e below (T178.setTop (mkF m 105 #[.val (.int p0), .val (.int p1), .val (.int p2), .val (.int p3), .val (.int p4), .val (.int p5), .val (.int (Int32.ofNat G)), .val (.ref b161), .val (.int (3 : Int32)), .val (.int (Int32.ofNat n177k - 1)), .val (.int (1 : Int32)), .unset] [(.int (2 : Int32)), (.int (3 : Int32))])) t → Steps p.tables e below (s₁.setTop (mkF m 0 #[.val (.int p0), .val (.int p1), .val (.int p2), .val (.int p3), .val (.int p4), .val (.int p5), .unset, .unset, .unset, .unset, .unset, .unset] [])) t := by
            intro t h
            refine k299 t ?_
            show Steps p.tables e below (T178.setTop (mkF m 96 #[.val (.int p0), .val (.int p1), .val (.int p2), .val (.int p3), .val (.int p4), .val (.int p5), .val (.int (Int32.ofNat G)), .val (.ref b161), .val (.int (3 : Int32)), .val (.int (Int32.ofNat n177k - 1)), .val (.int (0 : Int32)), .unset] [(.int (Int32.ofNat n177k - 1)), (.int (Int32.ofNat n168k - 1))])) _
            refine XS.icmpNo X178.here hx rfl (hb hby at_96) rfl (teq c96_300).2 ?_
            show Steps p.tables e below (T178.setTop (mkF m 99 #[.val (.int p0), .val (.int p1), .val (.int p2), .val (.int p3), .val (.int p4), .val (.int p5), .val (.int (Int32.ofNat G)), .val (.ref b161), .val (.int (3 : Int32)), .val (.int (Int32.ofNat n177k - 1)), .val (.int (0 : Int32)), .unset] [])) _
            refine XS.iinc X178.here hx rfl (hb hby at_99) rfl (l' := #[.val (.int p0), .val (.int p1), .val (.int p2), .val (.int p3), .val (.int p4), .val (.int p5), .val (.int (Int32.ofNat G)), .val (.ref b161), .val (.int (3 : Int32)), .val (.int (Int32.ofNat n177k - 1)), .val (.int (1 : Int32)), .unset]) rfl ?_
            show Steps p.tables e below (T178.setTop (mkF m 102 #[.val (.int p0), .val (.int p1), .val (.int p2), .val (.int p3), .val (.int p4), .val (.int p5), .val (.int (Int32.ofNat G)), .val (.ref b161), .val (.int (3 : Int32)), .val (.int (Int32.ofNat n177k - 1)), .val (.int (1 : Int32)), .unset] [])) _
            refine XS.iload X178.here hx rfl (hb hby at_102) rfl ?_
            show Steps p.tables e below (T178.setTop (mkF m 104 #[.val (.int p0), .val (.int p1), .val (.int p2), .val (.int p3), .val (.int p4), .val (.int p5), .val (.int (Int32.ofNat G)), .val (.ref b161), .val (.int (3 : Int32)), .val (.int (Int32.ofNat n177k - 1)), .val (.int (1 : Int32)), .unset] [(.int (3 : Int32))])) _
            refine XS.iconst X178.here hx rfl (hb hby at_104) ?_
            exact h
          obtain ⟨cl302, Ar302, q302, S302, Ng302, H302, G302⟩ := id V178
          have hin302 : ¬ ((2 : Int32) < 0 ∨ cl302.slots.size ≤ ((2 : Int32)).toNatClampNeg) := inb_of S302 ⟨by decide, by decide⟩
          have k303 : ∀ t, Steps p.tables e below (T178.setTop (mkF m 114 #[.val (.int p0), .val (.int p1), .val (.int p2), .val (.int p3), .val (.int p4), .val (.int p5), .val (.int (Int32.ofNat G)), .val (.ref b161), .val (.int (3 : Int32)), .val (.int (Int32.ofNat n177k - 1)), .val (.int (1 : Int32)), .unset] [(.int (Int32.ofNat n177k - 1)), (.int (Int32.ofNat n172k - 1))])) t → Steps p.tables e below (s₁.setTop (mkF m 0 #[.val (.int p0), .val (.int p1), .val (.int p2), .val (.int p3), .val (.int p4), .val (.int p5), .unset, .unset, .unset, .unset, .unset, .unset] [])) t := by
            intro t h
            refine k301 t ?_
            show Steps p.tables e below (T178.setTop (mkF m 105 #[.val (.int p0), .val (.int p1), .val (.int p2), .val (.int p3), .val (.int p4), .val (.int p5), .val (.int (Int32.ofNat G)), .val (.ref b161), .val (.int (3 : Int32)), .val (.int (Int32.ofNat n177k - 1)), .val (.int (1 : Int32)), .unset] [(.int (2 : Int32)), (.int (3 : Int32))])) _
            refine XS.icmpNo X178.here hx rfl (hb hby at_105) rfl (tlt (by decide : (2 : Int32) < (3 : Int32))).2.2.2 ?_
            show Steps p.tables e below (T178.setTop (mkF m 108 #[.val (.int p0), .val (.int p1), .val (.int p2), .val (.int p3), .val (.int p4), .val (.int p5), .val (.int (Int32.ofNat G)), .val (.ref b161), .val (.int (3 : Int32)), .val (.int (Int32.ofNat n177k - 1)), .val (.int (1 : Int32)), .unset] [])) _
            refine XS.aload X178.here hx rfl (hb hby at_108) rfl rfl ?_
            show Steps p.tables e below (T178.setTop (mkF m 110 #[.val (.int p0), .val (.int p1), .val (.int p2), .val (.int p3), .val (.int p4), .val (.int p5), .val (.int (Int32.ofNat G)), .val (.ref b161), .val (.int (3 : Int32)), .val (.int (Int32.ofNat n177k - 1)), .val (.int (1 : Int32)), .unset] [(.ref b161)])) _
            refine XS.iconst X178.here hx rfl (hb hby at_110) ?_
            show Steps p.tables e below (T178.setTop (mkF m 111 #[.val (.int p0), .val (.int p1), .val (.int p2), .val (.int p3), .val (.int p4), .val (.int p5), .val (.int (Int32.ofNat G)), .val (.ref b161), .val (.int (3 : Int32)), .val (.int (Int32.ofNat n177k - 1)), .val (.int (1 : Int32)), .unset] [(.int (2 : Int32)), (.ref b161)])) _
            refine X178.iaload hx (j := (2 : Int32)) (v := (.int (Int32.ofNat n172k - 1))) (by rw [e178]; exact Ar302.1) (State.isArrayOf_alike hZ.alike Ar302.2.1) Ar302.2.2 hin302 (H302.at hin302 rfl) (g := (mkF m 111 #[.val (.int p0), .val (.int p1), .val (.int p2), .val (.int p3), .val (.int p4), .val (.int p5), .val (.int (Int32.ofNat G)), .val (.ref b161), .val (.int (3 : Int32)), .val (.int (Int32.ofNat n177k - 1)), .val (.int (1 : Int32)), .unset] [(.int (2 : Int32)), (.ref b161)])) rfl rfl (hb hby at_111) _ ?_
            show Steps p.tables e below (T178.setTop (mkF m 112 #[.val (.int p0), .val (.int p1), .val (.int p2), .val (.int p3), .val (.int p4), .val (.int p5), .val (.int (Int32.ofNat G)), .val (.ref b161), .val (.int (3 : Int32)), .val (.int (Int32.ofNat n177k - 1)), .val (.int (1 : Int32)), .unset] [(.int (Int32.ofNat n172k - 1))])) _
            refine XS.iload X178.here hx rfl (hb hby at_112) rfl ?_
            exact h
          by_cases c114_304 : (Int32.ofNat n172k - 1) = (Int32.ofNat n177k - 1)
          · skip
            have k305 : ∀ t, Steps p.tables e below (T178.setTop (mkF m 120 #[.val (.int p0), .val (.int p1), .val (.int p2), .val (.int p3), .val (.int p4), .val (.int p5), .val (.int (Int32.ofNat G)), .val (.ref b161), .val (.int (3 : Int32)), .val (.int (Int32.ofNat n177k - 1)), .val (.int (2 : Int32)), .unset] [])) t → Steps p.tables e below (s₁.setTop (mkF m 0 #[.val (.int p0), .val (.int p1), .val (.int p2), .val (.int p3), .val (.int p4), .val (.int p5), .unset, .unset, .unset, .unset, .unset, .unset] [])) t := by
              intro t h
              refine k303 t ?_
              show Steps p.tables e below (T178.setTop (mkF m 114 #[.val (.int p0), .val (.int p1), .val (.int p2), .val (.int p3), .val (.int p4), .val (.int p5), .val (.int (Int32.ofNat G)), .val (.ref b161), .val (.int (3 : Int32)), .val (.int (Int32.ofNat n177k - 1)), .val (.int (1 : Int32)), .unset] [(.int (Int32.ofNat n177k - 1)), (.int (Int32.ofNat n172k - 1))])) _
              refine XS.icmpNo X178.here hx rfl (hb hby at_114) rfl (teq c114_304).2 ?_
              show Steps p.tables e below (T178.setTop (mkF m 117 #[.val (.int p0), .val (.int p1), .val (.int p2), .val (.int p3), .val (.int p4), .val (.int p5), .val (.int (Int32.ofNat G)), .val (.ref b161), .val (.int (3 : Int32)), .val (.int (Int32.ofNat n177k - 1)), .val (.int (1 : Int32)), .unset] [])) _
              refine XS.iinc X178.here hx rfl (hb hby at_117) rfl (l' := #[.val (.int p0), .val (.int p1), .val (.int p2), .val (.int p3), .val (.int p4), .val (.int p5), .val (.int (Int32.ofNat G)), .val (.ref b161), .val (.int (3 : Int32)), .val (.int (Int32.ofNat n177k - 1)), .val (.int (2 : Int32)), .unset]) rfl ?_
              exact h
            exact ⟨(2 : Int32), (by
                  rw [own_keyeq (by omega) (by omega)] at c78_280 c96_300 c114_304
                  simp [own_B, c78_280, c96_300, c114_304]), k305⟩
          · skip
            have k306 : ∀ t, Steps p.tables e below (T178.setTop (mkF m 120 #[.val (.int p0), .val (.int p1), .val (.int p2), .val (.int p3), .val (.int p4), .val (.int p5), .val (.int (Int32.ofNat G)), .val (.ref b161), .val (.int (3 : Int32)), .val (.int (Int32.ofNat n177k - 1)), .val (.int (1 : Int32)), .unset] [])) t → Steps p.tables e below (s₁.setTop (mkF m 0 #[.val (.int p0), .val (.int p1), .val (.int p2), .val (.int p3), .val (.int p4), .val (.int p5), .unset, .unset, .unset, .unset, .unset, .unset] [])) t := by
              intro t h
              refine k303 t ?_
              show Steps p.tables e below (T178.setTop (mkF m 114 #[.val (.int p0), .val (.int p1), .val (.int p2), .val (.int p3), .val (.int p4), .val (.int p5), .val (.int (Int32.ofNat G)), .val (.ref b161), .val (.int (3 : Int32)), .val (.int (Int32.ofNat n177k - 1)), .val (.int (1 : Int32)), .unset] [(.int (Int32.ofNat n177k - 1)), (.int (Int32.ofNat n172k - 1))])) _
              refine XS.icmpYes X178.here hx rfl (pc0 := 114) (pc' := 120) rfl (hb hby at_114) rfl (feq c114_304).2 (by decide) (by decide) ?_
              exact h
            exact ⟨(1 : Int32), (by
                  rw [own_keyeq (by omega) (by omega)] at c78_280 c96_300 c114_304
                  simp [own_B, c78_280, c96_300, c114_304]), k306⟩
        · skip
          have k307 : ∀ t, Steps p.tables e below (T178.setTop (mkF m 105 #[.val (.int p0), .val (.int p1), .val (.int p2), .val (.int p3), .val (.int p4), .val (.int p5), .val (.int (Int32.ofNat G)), .val (.ref b161), .val (.int (3 : Int32)), .val (.int (Int32.ofNat n177k - 1)), .val (.int (0 : Int32)), .unset] [(.int (2 : Int32)), (.int (3 : Int32))])) t → Steps p.tables e below (s₁.setTop (mkF m 0 #[.val (.int p0), .val (.int p1), .val (.int p2), .val (.int p3), .val (.int p4), .val (.int p5), .unset, .unset, .unset, .unset, .unset, .unset] [])) t := by
            intro t h
            refine k299 t ?_
            show Steps p.tables e below (T178.setTop (mkF m 96 #[.val (.int p0), .val (.int p1), .val (.int p2), .val (.int p3), .val (.int p4), .val (.int p5), .val (.int (Int32.ofNat G)), .val (.ref b161), .val (.int (3 : Int32)), .val (.int (Int32.ofNat n177k - 1)), .val (.int (0 : Int32)), .unset] [(.int (Int32.ofNat n177k - 1)), (.int (Int32.ofNat n168k - 1))])) _
            refine XS.icmpYes X178.here hx rfl (pc0 := 96) (pc' := 102) rfl (hb hby at_96) rfl (feq c96_300).2 (by decide) (by decide) ?_
            show Steps p.tables e below (T178.setTop (mkF m 102 #[.val (.int p0), .val (.int p1), .val (.int p2), .val (.int p3), .val (.int p4), .val (.int p5), .val (.int (Int32.ofNat G)), .val (.ref b161), .val (.int (3 : Int32)), .val (.int (Int32.ofNat n177k - 1)), .val (.int (0 : Int32)), .unset] [])) _
            refine XS.iload X178.here hx rfl (hb hby at_102) rfl ?_
            show Steps p.tables e below (T178.setTop (mkF m 104 #[.val (.int p0), .val (.int p1), .val (.int p2), .val (.int p3), .val (.int p4), .val (.int p5), .val (.int (Int32.ofNat G)), .val (.ref b161), .val (.int (3 : Int32)), .val (.int (Int32.ofNat n177k - 1)), .val (.int (0 : Int32)), .unset] [(.int (3 : Int32))])) _
            refine XS.iconst X178.here hx rfl (hb hby at_104) ?_
            exact h
          obtain ⟨cl308, Ar308, q308, S308, Ng308, H308, G308⟩ := id V178
          have hin308 : ¬ ((2 : Int32) < 0 ∨ cl308.slots.size ≤ ((2 : Int32)).toNatClampNeg) := inb_of S308 ⟨by decide, by decide⟩
          have k309 : ∀ t, Steps p.tables e below (T178.setTop (mkF m 114 #[.val (.int p0), .val (.int p1), .val (.int p2), .val (.int p3), .val (.int p4), .val (.int p5), .val (.int (Int32.ofNat G)), .val (.ref b161), .val (.int (3 : Int32)), .val (.int (Int32.ofNat n177k - 1)), .val (.int (0 : Int32)), .unset] [(.int (Int32.ofNat n177k - 1)), (.int (Int32.ofNat n172k - 1))])) t → Steps p.tables e below (s₁.setTop (mkF m 0 #[.val (.int p0), .val (.int p1), .val (.int p2), .val (.int p3), .val (.int p4), .val (.int p5), .unset, .unset, .unset, .unset, .unset, .unset] [])) t := by
            intro t h
            refine k307 t ?_
            show Steps p.tables e below (T178.setTop (mkF m 105 #[.val (.int p0), .val (.int p1), .val (.int p2), .val (.int p3), .val (.int p4), .val (.int p5), .val (.int (Int32.ofNat G)), .val (.ref b161), .val (.int (3 : Int32)), .val (.int (Int32.ofNat n177k - 1)), .val (.int (0 : Int32)), .unset] [(.int (2 : Int32)), (.int (3 : Int32))])) _
            refine XS.icmpNo X178.here hx rfl (hb hby at_105) rfl (tlt (by decide : (2 : Int32) < (3 : Int32))).2.2.2 ?_
            show Steps p.tables e below (T178.setTop (mkF m 108 #[.val (.int p0), .val (.int p1), .val (.int p2), .val (.int p3), .val (.int p4), .val (.int p5), .val (.int (Int32.ofNat G)), .val (.ref b161), .val (.int (3 : Int32)), .val (.int (Int32.ofNat n177k - 1)), .val (.int (0 : Int32)), .unset] [])) _
            refine XS.aload X178.here hx rfl (hb hby at_108) rfl rfl ?_
            show Steps p.tables e below (T178.setTop (mkF m 110 #[.val (.int p0), .val (.int p1), .val (.int p2), .val (.int p3), .val (.int p4), .val (.int p5), .val (.int (Int32.ofNat G)), .val (.ref b161), .val (.int (3 : Int32)), .val (.int (Int32.ofNat n177k - 1)), .val (.int (0 : Int32)), .unset] [(.ref b161)])) _
            refine XS.iconst X178.here hx rfl (hb hby at_110) ?_
            show Steps p.tables e below (T178.setTop (mkF m 111 #[.val (.int p0), .val (.int p1), .val (.int p2), .val (.int p3), .val (.int p4), .val (.int p5), .val (.int (Int32.ofNat G)), .val (.ref b161), .val (.int (3 : Int32)), .val (.int (Int32.ofNat n177k - 1)), .val (.int (0 : Int32)), .unset] [(.int (2 : Int32)), (.ref b161)])) _
            refine X178.iaload hx (j := (2 : Int32)) (v := (.int (Int32.ofNat n172k - 1))) (by rw [e178]; exact Ar308.1) (State.isArrayOf_alike hZ.alike Ar308.2.1) Ar308.2.2 hin308 (H308.at hin308 rfl) (g := (mkF m 111 #[.val (.int p0), .val (.int p1), .val (.int p2), .val (.int p3), .val (.int p4), .val (.int p5), .val (.int (Int32.ofNat G)), .val (.ref b161), .val (.int (3 : Int32)), .val (.int (Int32.ofNat n177k - 1)), .val (.int (0 : Int32)), .unset] [(.int (2 : Int32)), (.ref b161)])) rfl rfl (hb hby at_111) _ ?_
            show Steps p.tables e below (T178.setTop (mkF m 112 #[.val (.int p0), .val (.int p1), .val (.int p2), .val (.int p3), .val (.int p4), .val (.int p5), .val (.int (Int32.ofNat G)), .val (.ref b161), .val (.int (3 : Int32)), .val (.int (Int32.ofNat n177k - 1)), .val (.int (0 : Int32)), .unset] [(.int (Int32.ofNat n172k - 1))])) _
            refine XS.iload X178.here hx rfl (hb hby at_112) rfl ?_
            exact h
          by_cases c114_310 : (Int32.ofNat n172k - 1) = (Int32.ofNat n177k - 1)
          · skip
            have k311 : ∀ t, Steps p.tables e below (T178.setTop (mkF m 120 #[.val (.int p0), .val (.int p1), .val (.int p2), .val (.int p3), .val (.int p4), .val (.int p5), .val (.int (Int32.ofNat G)), .val (.ref b161), .val (.int (3 : Int32)), .val (.int (Int32.ofNat n177k - 1)), .val (.int (1 : Int32)), .unset] [])) t → Steps p.tables e below (s₁.setTop (mkF m 0 #[.val (.int p0), .val (.int p1), .val (.int p2), .val (.int p3), .val (.int p4), .val (.int p5), .unset, .unset, .unset, .unset, .unset, .unset] [])) t := by
              intro t h
              refine k309 t ?_
              show Steps p.tables e below (T178.setTop (mkF m 114 #[.val (.int p0), .val (.int p1), .val (.int p2), .val (.int p3), .val (.int p4), .val (.int p5), .val (.int (Int32.ofNat G)), .val (.ref b161), .val (.int (3 : Int32)), .val (.int (Int32.ofNat n177k - 1)), .val (.int (0 : Int32)), .unset] [(.int (Int32.ofNat n177k - 1)), (.int (Int32.ofNat n172k - 1))])) _
              refine XS.icmpNo X178.here hx rfl (hb hby at_114) rfl (teq c114_310).2 ?_
              show Steps p.tables e below (T178.setTop (mkF m 117 #[.val (.int p0), .val (.int p1), .val (.int p2), .val (.int p3), .val (.int p4), .val (.int p5), .val (.int (Int32.ofNat G)), .val (.ref b161), .val (.int (3 : Int32)), .val (.int (Int32.ofNat n177k - 1)), .val (.int (0 : Int32)), .unset] [])) _
              refine XS.iinc X178.here hx rfl (hb hby at_117) rfl (l' := #[.val (.int p0), .val (.int p1), .val (.int p2), .val (.int p3), .val (.int p4), .val (.int p5), .val (.int (Int32.ofNat G)), .val (.ref b161), .val (.int (3 : Int32)), .val (.int (Int32.ofNat n177k - 1)), .val (.int (1 : Int32)), .unset]) rfl ?_
              exact h
            exact ⟨(1 : Int32), (by
                  rw [own_keyeq (by omega) (by omega)] at c78_280 c96_300 c114_310
                  simp [own_B, c78_280, c96_300, c114_310]), k311⟩
          · skip
            have k312 : ∀ t, Steps p.tables e below (T178.setTop (mkF m 120 #[.val (.int p0), .val (.int p1), .val (.int p2), .val (.int p3), .val (.int p4), .val (.int p5), .val (.int (Int32.ofNat G)), .val (.ref b161), .val (.int (3 : Int32)), .val (.int (Int32.ofNat n177k - 1)), .val (.int (0 : Int32)), .unset] [])) t → Steps p.tables e below (s₁.setTop (mkF m 0 #[.val (.int p0), .val (.int p1), .val (.int p2), .val (.int p3), .val (.int p4), .val (.int p5), .unset, .unset, .unset, .unset, .unset, .unset] [])) t := by
              intro t h
              refine k309 t ?_
              show Steps p.tables e below (T178.setTop (mkF m 114 #[.val (.int p0), .val (.int p1), .val (.int p2), .val (.int p3), .val (.int p4), .val (.int p5), .val (.int (Int32.ofNat G)), .val (.ref b161), .val (.int (3 : Int32)), .val (.int (Int32.ofNat n177k - 1)), .val (.int (0 : Int32)), .unset] [(.int (Int32.ofNat n177k - 1)), (.int (Int32.ofNat n172k - 1))])) _
              refine XS.icmpYes X178.here hx rfl (pc0 := 114) (pc' := 120) rfl (hb hby at_114) rfl (feq c114_310).2 (by decide) (by decide) ?_
              exact h
            exact ⟨(0 : Int32), (by
                  rw [own_keyeq (by omega) (by omega)] at c78_280 c96_300 c114_310
                  simp [own_B, c78_280, c96_300, c114_310]), k312⟩
    obtain ⟨T313, h313, X313, e313, E313, A313, D313, -, st313⟩ := newO X178 hx hZ hown (hw _ (List.mem_of_getElem? (i := 6) rfl)) (hw _ (List.mem_of_getElem? (i := 7) rfl)) (hw _ (List.mem_of_getElem? (i := 8) rfl)) e178 (g := (mkF m 120 #[.val (.int p0), .val (.int p1), .val (.int p2), .val (.int p3), .val (.int p4), .val (.int p5), .val (.int (Int32.ofNat G)), .val (.ref b161), .val (.int (3 : Int32)), .val (.int (Int32.ofNat n177k - 1)), .val (.int rk), .unset] [])) rfl (hb hby at_120) (by decide) (by decide)
    obtain ⟨b313, g313⟩ : ∃ z, z = h178.size := ⟨_, rfl⟩
    rw [← g313] at A313 D313 st313
    have ne_b161_b313 : b161 ≠ b313 := Nat.ne_of_lt (Nat.lt_of_lt_of_le V178.lt (Nat.le_of_eq g313.symm))
    have g_b313 : n0 ≤ b313 := Nat.le_trans Z179 (Nat.le_of_eq g313.symm)
    have sz_b313 : h0.size ≤ b313 := Nat.le_trans K180.1 (Nat.le_of_eq g313.symm)
    have f314 := V178.ext E313
    have Z315 : n0 ≤ h313.size := Nat.le_trans Z179 E313.1
    have K316 := K180.ext E313
    have f317 : Fld Z h313 b313 "com/example/planwright/planwright/io/Grouping" "starts" "[I" .null := D313 (Or.inr (hw _ (List.mem_of_getElem? (i := 16) rfl))) (ty := (.array .int)) (by decide)
    have f318 : Fld Z h313 b313 "com/example/planwright/planwright/io/Grouping" "members" "[I" .null := D313 (Or.inr (hw _ (List.mem_of_getElem? (i := 18) rfl))) (ty := (.array .int)) (by decide)
    have f320 : own_IA Z h313 b161 4 (fun j => Int32.ofNat ((fun j => [n164k, n168k, n172k, n177k].getD j 0) j) - 1) := own_IA.congr (own_IA.ofV (vs := [(Int32.ofNat n164k - 1), (Int32.ofNat n168k - 1), (Int32.ofNat n172k - 1), (Int32.ofNat n177k - 1)]) f314 rfl) (fun j hj => match j, hj with | 0, _ => rfl | 1, _ => rfl | 2, _ => rfl | 3, _ => rfl)
    obtain ⟨_, _, ⟨T319, L319, k319, n319⟩, -, X319, ⟨Lc319, hQ319, l319, y319, z319⟩, st319⟩ := X313.specialBack hx (y := (⟨"com/example/planwright/planwright/io/Grouping", "<init>", "([II)V"⟩ : MethodName)) rfl hown (mvT hZ (hw _ (List.mem_of_getElem? (i := 9) rfl))) (mvT hZ (hw _ (List.mem_of_getElem? (i := 10) rfl))) (mvT hZ (hw _ (List.mem_of_getElem? (i := 11) rfl))) (by decide) (backOf (W := 1) (rmI l Z a0 hw [] b313 b161 (Int32.ofNat G) G (fun j => [n164k, n168k, n172k, n177k].getD j 0) h313 n0 Z315 f317 f318 A313 f320 g_b313 (Ne.symm ne_b161_b313) rfl (by omega) (fun j hj => match j, hj with | 0, _ => Nat.le_of_lt_succ hn164k | 1, _ => Nat.le_of_lt_succ hn168k | 2, _ => Nat.le_of_lt_succ hn172k | 3, _ => Nat.le_of_lt_succ hn177k)) hZ (hw _ (List.mem_of_getElem? (i := 11) rfl)) (hw _ (List.mem_of_getElem? (i := 8) rfl)) (by decide) (by decide)) (g := (mkF m 128 #[.val (.int p0), .val (.int p1), .val (.int p2), .val (.int p3), .val (.int p4), .val (.int p5), .val (.int (Int32.ofNat G)), .val (.ref b161), .val (.int (3 : Int32)), .val (.int (Int32.ofNat n177k - 1)), .val (.int rk), .unset] [(.int (Int32.ofNat G)), (.ref b161), (.ref b313), (.ref b313)])) rfl (by rw [hml]; rfl) (Steps.refl _) (a := b313) (argsL := [(.ref b161), (.int (Int32.ofNat G))]) (rest := [(.ref b313)]) (lenOf own_pd_1 rfl) rfl (by show 2 * 0 + _ ≤ _; exact Nat.le_of_eq rfl) (hb hby at_128) (fun _ _ => ⟨rfl, e313, (by decide : 2 + 3 ≤ _), (by decide : 6 + 14 ≤ _)⟩)
    dsimp only [Pt.U, Pt.locs, Pt.cells, Pt.slots] at X319 l319 y319 z319 st319 hQ319
    subst l319 y319 z319
    obtain ⟨rfl, Nq319, Kq319, ba319, bb319, Fa319, Aa319, Fb319, Ab319⟩ := hQ319
    have N319 := Fr.app N178 Nq319
    have f321 := f314.keep Kq319 (ninS ne_b161_b313 nin0)
    have f322 := A313.keep Kq319
    have Z323 : n0 ≤ T319.heap.size := Nat.le_trans Z315 Kq319.1
    have K324 := K316.trans Kq319 (allS (Or.inr sz_b313) all0)
    obtain ⟨cq325, kq325, q325a, q325b, q325c⟩ := isOf hZ rfl f322
    obtain ⟨_, _, ⟨T325, L325, k325, n325⟩, -, X325, ⟨Lc325, hQ325, l325, y325, z325⟩, st325⟩ := X319.virtualBack hx (y := (⟨"com/example/planwright/planwright/io/Grouping", "member", "(II)I"⟩ : MethodName)) (z := (⟨"com/example/planwright/planwright/io/Grouping", "member", "(II)I"⟩ : MethodName)) hown (mvT hZ (hw _ (List.mem_of_getElem? (i := 28) rfl))) (mvT hZ (hw _ (List.mem_of_getElem? (i := 29) rfl))) (notFace_of_selects (args := #[]) (mvT hZ (hw _ (List.mem_of_getElem? (i := 31) rfl)))) (mvT hZ (hw _ (List.mem_of_getElem? (i := 31) rfl))) (mvT hZ (hw _ (List.mem_of_getElem? (i := 30) rfl))) (by decide) (backOf (W := 0) (rmM l Z a0 hw [] b313 (Int32.ofNat n177k - 1) rk ba319 (G + 2) (fun j => Int32.ofNat (own_A (fun j => [n164k, n168k, n172k, n177k].getD j 0) 4 j)) ((fun j => [n164k, n168k, n172k, n177k].getD j 0) 3) bb319 4 (fun j => Int32.ofNat (own_M (fun j => [n164k, n168k, n172k, n177k].getD j 0) 4 4 j)) (own_A (fun j => [n164k, n168k, n172k, n177k].getD j 0) 4 ((fun j => [n164k, n168k, n172k, n177k].getD j 0) 3) + own_B (fun j => [n164k, n168k, n172k, n177k].getD j 0) 3 ((fun j => [n164k, n168k, n172k, n177k].getD j 0) 3)) T319.heap n0 Z323 Fa319 Aa319 (by omega) Fb319 Ab319 (by decide) (own_km1 _) (Nat.lt_of_lt_of_le hn177k (Nat.le_succ _)) (by rw [hk276]; exact own_ofadd _ _) (own_pos_lt (fun j => [n164k, n168k, n172k, n177k].getD j 0) (t := 3) (by decide))) hZ (hw _ (List.mem_of_getElem? (i := 32) rfl)) (hw _ (List.mem_of_getElem? (i := 8) rfl)) (by decide) (by decide)) q325a q325c (g := (mkF m 139 #[.val (.int p0), .val (.int p1), .val (.int p2), .val (.int p3), .val (.int p4), .val (.int p5), .val (.int (Int32.ofNat G)), .val (.ref b161), .val (.int (3 : Int32)), .val (.int (Int32.ofNat n177k - 1)), .val (.int rk), .val (.ref b313)] [(.int rk), (.int (Int32.ofNat n177k - 1)), (.ref b313)])) rfl (by rw [hml]; rfl) (Steps.refl _) (argsL := [(.int (Int32.ofNat n177k - 1)), (.int rk)]) (rest := []) (lenOf own_pd_0 rfl) rfl (by show 2 * 0 + _ ≤ _; exact Nat.le_of_eq rfl) (hb hby at_139) (fun _ _ => ⟨rfl, rfl, (by decide : 5 + 0 ≤ _), (by decide : 20 + 0 ≤ _)⟩)
    dsimp only [Pt.U, Pt.locs, Pt.cells, Pt.slots] at X325 l325 y325 z325 st325 hQ325
    subst l325 y325 z325
    obtain ⟨rfl, Nq325, eq325⟩ := hQ325
    have N325 := Fr.app N319 Nq325
    have k326 : ∀ t, Steps p.tables e below (T325.setTop (mkF m 144 #[.val (.int p0), .val (.int p1), .val (.int p2), .val (.int p3), .val (.int p4), .val (.int p5), .val (.int (Int32.ofNat G)), .val (.ref b161), .val (.int (3 : Int32)), .val (.int (Int32.ofNat n177k - 1)), .val (.int rk), .val (.ref b313)] [(.int (3 : Int32)), (.int (Int32.ofNat (own_M (fun j => [n164k, n168k, n172k, n177k].getD j 0) 4 4 (own_A (fun j => [n164k, n168k, n172k, n177k].getD j 0) 4 ((fun j => [n164k, n168k, n172k, n177k].getD j 0) 3) + own_B (fun j => [n164k, n168k, n172k, n177k].getD j 0) 3 ((fun j => [n164k, n168k, n172k, n177k].getD j 0) 3)))))])) t → Steps p.tables e below (s₁.setTop (mkF m 0 #[.val (.int p0), .val (.int p1), .val (.int p2), .val (.int p3), .val (.int p4), .val (.int p5), .unset, .unset, .unset, .unset, .unset, .unset] [])) t := by
      intro t h
      refine k276 t ?_
      show Steps p.tables e below (T178.setTop (mkF m 120 #[.val (.int p0), .val (.int p1), .val (.int p2), .val (.int p3), .val (.int p4), .val (.int p5), .val (.int (Int32.ofNat G)), .val (.ref b161), .val (.int (3 : Int32)), .val (.int (Int32.ofNat n177k - 1)), .val (.int rk), .unset] [])) _
      refine st313 _ ?_
      show Steps p.tables e below (T313.setTop (mkF m 123 #[.val (.int p0), .val (.int p1), .val (.int p2), .val (.int p3), .val (.int p4), .val (.int p5), .val (.int (Int32.ofNat G)), .val (.ref b161), .val (.int (3 : Int32)), .val (.int (Int32.ofNat n177k - 1)), .val (.int rk), .unset] [(.ref b313)])) _
      refine XS.dup X313.here hx rfl (hb hby at_123) rfl rfl ?_
      show Steps p.tables e below (T313.setTop (mkF m 124 #[.val (.int p0), .val (.int p1), .val (.int p2), .val (.int p3), .val (.int p4), .val (.int p5), .val (.int (Int32.ofNat G)), .val (.ref b161), .val (.int (3 : Int32)), .val (.int (Int32.ofNat n177k - 1)), .val (.int rk), .unset] [(.ref b313), (.ref b313)])) _
      refine XS.aload X313.here hx rfl (hb hby at_124) rfl rfl ?_
      show Steps p.tables e below (T313.setTop (mkF m 126 #[.val (.int p0), .val (.int p1), .val (.int p2), .val (.int p3), .val (.int p4), .val (.int p5), .val (.int (Int32.ofNat G)), .val (.ref b161), .val (.int (3 : Int32)), .val (.int (Int32.ofNat n177k - 1)), .val (.int rk), .unset] [(.ref b161), (.ref b313), (.ref b313)])) _
      refine XS.iload X313.here hx rfl (hb hby at_126) rfl ?_
      show Steps p.tables e below (T313.setTop (mkF m 128 #[.val (.int p0), .val (.int p1), .val (.int p2), .val (.int p3), .val (.int p4), .val (.int p5), .val (.int (Int32.ofNat G)), .val (.ref b161), .val (.int (3 : Int32)), .val (.int (Int32.ofNat n177k - 1)), .val (.int rk), .unset] [(.int (Int32.ofNat G)), (.ref b161), (.ref b313), (.ref b313)])) _
      refine st319.trans ?_
      show Steps p.tables e below (T319.setTop (mkF m 131 #[.val (.int p0), .val (.int p1), .val (.int p2), .val (.int p3), .val (.int p4), .val (.int p5), .val (.int (Int32.ofNat G)), .val (.ref b161), .val (.int (3 : Int32)), .val (.int (Int32.ofNat n177k - 1)), .val (.int rk), .unset] [(.ref b313)])) _
      refine XS.astore X319.here hx rfl (hb hby at_131) rfl rfl (l' := #[.val (.int p0), .val (.int p1), .val (.int p2), .val (.int p3), .val (.int p4), .val (.int p5), .val (.int (Int32.ofNat G)), .val (.ref b161), .val (.int (3 : Int32)), .val (.int (Int32.ofNat n177k - 1)), .val (.int rk), .val (.ref b313)]) rfl ?_
      show Steps p.tables e below (T319.setTop (mkF m 133 #[.val (.int p0), .val (.int p1), .val (.int p2), .val (.int p3), .val (.int p4), .val (.int p5), .val (.int (Int32.ofNat G)), .val (.ref b161), .val (.int (3 : Int32)), .val (.int (Int32.ofNat n177k - 1)), .val (.int rk), .val (.ref b313)] [])) _
      refine XS.aload X319.here hx rfl (hb hby at_133) rfl rfl ?_
      show Steps p.tables e below (T319.setTop (mkF m 135 #[.val (.int p0), .val (.int p1), .val (.int p2), .val (.int p3), .val (.int p4), .val (.int p5), .val (.int (Int32.ofNat G)), .val (.ref b161), .val (.int (3 : Int32)), .val (.int (Int32.ofNat n177k - 1)), .val (.int rk), .val (.ref b313)] [(.ref b313)])) _
      refine XS.iload X319.here hx rfl (hb hby at_135) rfl ?_
      show Steps p.tables e below (T319.setTop (mkF m 137 #[.val (.int p0), .val (.int p1), .val (.int p2), .val (.int p3), .val (.int p4), .val (.int p5), .val (.int (Int32.ofNat G)), .val (.ref b161), .val (.int (3 : Int32)), .val (.int (Int32.ofNat n177k - 1)), .val (.int rk), .val (.ref b313)] [(.int (Int32.ofNat n177k - 1)), (.ref b313)])) _
      refine XS.iload X319.here hx rfl (hb hby at_137) rfl ?_
      show Steps p.tables e below (T319.setTop (mkF m 139 #[.val (.int p0), .val (.int p1), .val (.int p2), .val (.int p3), .val (.int p4), .val (.int p5), .val (.int (Int32.ofNat G)), .val (.ref b161), .val (.int (3 : Int32)), .val (.int (Int32.ofNat n177k - 1)), .val (.int rk), .val (.ref b313)] [(.int rk), (.int (Int32.ofNat n177k - 1)), (.ref b313)])) _
      refine st325.trans ?_
      show Steps p.tables e below (T325.setTop (mkF m 142 #[.val (.int p0), .val (.int p1), .val (.int p2), .val (.int p3), .val (.int p4), .val (.int p5), .val (.int (Int32.ofNat G)), .val (.ref b161), .val (.int (3 : Int32)), .val (.int (Int32.ofNat n177k - 1)), .val (.int rk), .val (.ref b313)] [(.int (Int32.ofNat (own_M (fun j => [n164k, n168k, n172k, n177k].getD j 0) 4 4 (own_A (fun j => [n164k, n168k, n172k, n177k].getD j 0) 4 ((fun j => [n164k, n168k, n172k, n177k].getD j 0) 3) + own_B (fun j => [n164k, n168k, n172k, n177k].getD j 0) 3 ((fun j => [n164k, n168k, n172k, n177k].getD j 0) 3)))))])) _
      refine XS.iload X325.here hx rfl (hb hby at_142) rfl ?_
      exact h
    have b144_327 : (Int32.ofNat (own_M (fun j => [n164k, n168k, n172k, n177k].getD j 0) 4 4 (own_A (fun j => [n164k, n168k, n172k, n177k].getD j 0) 4 ((fun j => [n164k, n168k, n172k, n177k].getD j 0) 3) + own_B (fun j => [n164k, n168k, n172k, n177k].getD j 0) 3 ((fun j => [n164k, n168k, n172k, n177k].getD j 0) 3)))) = (3 : Int32) := congrArg Int32.ofNat (own_M_at (fun j => [n164k, n168k, n172k, n177k].getD j 0) (n := 3) (N := 4) 4 (by decide) (by decide))
    have k328 : ∀ t, Steps p.tables e below (T325.setTop (mkF m 152 #[.val (.int p0), .val (.int p1), .val (.int p2), .val (.int p3), .val (.int p4), .val (.int p5), .val (.int (Int32.ofNat G)), .val (.ref b161), .val (.int (3 : Int32)), .val (.int (Int32.ofNat n177k - 1)), .val (.int rk), .val (.ref b313)] [(.int (1 : Int32))])) t → Steps p.tables e below (s₁.setTop (mkF m 0 #[.val (.int p0), .val (.int p1), .val (.int p2), .val (.int p3), .val (.int p4), .val (.int p5), .unset, .unset, .unset, .unset, .unset, .unset] [])) t := by
      intro t h
      refine k326 t ?_
      show Steps p.tables e below (T325.setTop (mkF m 144 #[.val (.int p0), .val (.int p1), .val (.int p2), .val (.int p3), .val (.int p4), .val (.int p5), .val (.int (Int32.ofNat G)), .val (.ref b161), .val (.int (3 : Int32)), .val (.int (Int32.ofNat n177k - 1)), .val (.int rk), .val (.ref b313)] [(.int (3 : Int32)), (.int (Int32.ofNat (own_M (fun j => [n164k, n168k, n172k, n177k].getD j 0) 4 4 (own_A (fun j => [n164k, n168k, n172k, n177k].getD j 0) 4 ((fun j => [n164k, n168k, n172k, n177k].getD j 0) 3) + own_B (fun j => [n164k, n168k, n172k, n177k].getD j 0) 3 ((fun j => [n164k, n168k, n172k, n177k].getD j 0) 3)))))])) _
      refine XS.icmpNo X325.here hx rfl (hb hby at_144) rfl (teq b144_327).2 ?_
      show Steps p.tables e below (T325.setTop (mkF m 147 #[.val (.int p0), .val (.int p1), .val (.int p2), .val (.int p3), .val (.int p4), .val (.int p5), .val (.int (Int32.ofNat G)), .val (.ref b161), .val (.int (3 : Int32)), .val (.int (Int32.ofNat n177k - 1)), .val (.int rk), .val (.ref b313)] [])) _
      refine XS.iconst X325.here hx rfl (hb hby at_147) ?_
      show Steps p.tables e below (T325.setTop (mkF m 148 #[.val (.int p0), .val (.int p1), .val (.int p2), .val (.int p3), .val (.int p4), .val (.int p5), .val (.int (Int32.ofNat G)), .val (.ref b161), .val (.int (3 : Int32)), .val (.int (Int32.ofNat n177k - 1)), .val (.int rk), .val (.ref b313)] [(.int (1 : Int32))])) _
      refine XS.goto X325.here hx rfl (pc0 := 148) (pc' := 152) rfl (hb hby at_148) (by decide) (by decide) ?_
      exact h
    obtain ⟨fs, hr, hrun, hended, hW, hsame⟩ := X325.leave (v := some (.int (1 : Int32))) (fun h => by rw [Bd.returns] at h; cases h) Bd.notSynchronized
    refine ⟨_, _, pre0 _ (k328 _ ?_), hrun, hended, _, _, rfl, ?_, ⟨_, rfl⟩, hW, hsame.mono (by decide) (by decide)⟩
    · exact retN X325 hx (t := .boolean) Bd.returns (by simp) (hb hby at_152) hr
    · show Q_rm0 Z _ _ _ _ _ _ h0 n0 _ T325.heap _
      rw [eq325]
      exact ⟨rfl, N325⟩
set_option maxRecDepth 65536 in
set_option maxHeartbeats 40000000 in
theorem comes_1 {Post : Tables → Env → Array Value → State → Outcome → State → Prop} (hpost : ∀ tb e args s v u, (limb_1_1.after args s (.returned v) u = true ∧ limb_1_2.after args s (.returned v) u = true ∧ True) → FrameEnd s (.returned v) u (Jvm.fieldLocs frame_1_writes args s ++ Jvm.arrayLocs frame_1_arrays args s ++ Jvm.staticLocs frame_1_statics s) 24 128 → Post tb e args s (.returned v) u) :
    ArmFor flags0 classFile x code maxLocals ret World_1 tables_1 room_1 Calls_1 rest_1 Pre_1 Post := by
  intro l hfl _ _ p e ha hc hk s m args below hf hA hF happ hP
  obtain ⟨hcalls, hrest, hpre⟩ := hP
  obtain ⟨-, -, -, hnamed, -, -, -, hat⟩ := (Spec.applies_iff hf).mp happ
  obtain ⟨hg, hn⟩ := and_e (Cond.before_iff.mp (show (Jvm.Cond.and given_1 narrow_1).before args s = true from hpre))
  obtain ⟨g1, g2⟩ := and_e hg
  obtain ⟨g3, g4⟩ := and_e g2
  obtain ⟨g5, g6⟩ := and_e g4
  obtain ⟨g7, g8⟩ := and_e g6
  obtain ⟨g9, g10⟩ := and_e g8
  obtain ⟨g11, g12⟩ := and_e g10
  obtain ⟨w0, w1, w2, w3, w4, w5, rfl⟩ : ∃ w0 w1 w2 w3 w4 w5 : Value, args = #[w0, w1, w2, w3, w4, w5] := by
    have hs : args.size = 6 := by simpa [Cond.value, given_1] using g1
    obtain ⟨L⟩ := args
    match L, hs with
    | [w0, w1, w2, w3, w4, w5], _ => exact ⟨w0, w1, w2, w3, w4, w5, rfl⟩
  have hw := fun d (hd : d ∈ tables_1) => atoms_spec (ws := Jvm.Cond.code x code maxLocals ret :: tables_1) hat d (List.mem_cons_of_mem _ hd)
  have hfit : Fit s := fun {y c} hc i hi => by
    obtain ⟨ha, rfl⟩ := Array.getElem?_eq_some_iff.mp hc
    have q := List.all_eq_true.mp ((Array.all_eq_true_iff_forall_mem.mp hF) _ (Array.getElem_mem ha)) i (List.mem_range.mpr hi)
    simpa [Array.getElem?_eq_getElem hi] using q
  obtain ⟨i0, ei0⟩ := is_v g3
  obtain rfl : w0 = (.int i0) := Option.some.inj ei0
  obtain ⟨i1, ei1⟩ := is_v g5
  obtain rfl : w1 = (.int i1) := Option.some.inj ei1
  obtain ⟨i2, ei2⟩ := is_v g7
  obtain rfl : w2 = (.int i2) := Option.some.inj ei2
  obtain ⟨i3, ei3⟩ := is_v g9
  obtain rfl : w3 = (.int i3) := Option.some.inj ei3
  obtain ⟨i4, ei4⟩ := is_v g11
  obtain rfl : w4 = (.int i4) := Option.some.inj ei4
  obtain ⟨i5, ei5⟩ := is_v g12
  obtain rfl : w5 = (.int i5) := Option.some.inj ei5
  obtain ⟨n, o, h1, h2, h3, _, L, rfl, ⟨rfl, N⟩, hq⟩ := rm0 l s _ hw tables_1 i0 i1 i2 i3 i4 i5  s.heap s.heap.size (Nat.le_refl _)  p e ha hc hk s m _ below hf ((Spec.applies_iff_loose hf).mp happ).1 ⟨rfl, State.Warmed39.refl s, rfl⟩ trivial
  refine ⟨n, _, h1, h2, h3, hpost _ _ _ _ _ _ ⟨Cond.after_iff.mpr rfl, Cond.after_iff.mpr (eq_i res_at (Term.int_eval (1)) rfl), trivial⟩ ⟨hq.1, hq.2.1, (hq.2.2.sift fun y hy => Or.inr (N y hy)).mono (by decide) (by decide)⟩⟩
theorem main_1_1 : Claimed_1_1 := comes_1 fun _ _ _ _ _ _ h hF => ⟨h.1, hF⟩
theorem main_1_2 : Claimed_1_2 := comes_1 fun _ _ _ _ _ _ h hF => ⟨h.2.1, hF⟩
end Jvm.Pilot.@@N@@
namespace Jvm.Pilot.@@N@@
open Jvm Jvm.ClassFile Sem Op Lib Jvm.Free Jvm.Stand Jvm.Pilot.@@N@@.Jvm.D
/-! MADE BY PROGRAM (witnessworld.py) out of the Statement's table words and the real class files: 9 classes; the members and pool entries that the words name. The judged class is class 1, her method 2. -/
namespace start1
open Jvm.ClassFile
def u (s : String) : CpInfo := .utf8 (stringToUtf16 s)
/-- a pool by its gaps: so many unusable entries, then the entry; so many at the end -/
def gap : Nat → List CpInfo → List CpInfo
  | 0, r => r
  | n + 1, r => .unusable :: gap n r
def poolList (es : List (Nat × CpInfo)) (last : Nat) : List CpInfo := es.foldr (fun e r => gap e.1 (e.2 :: r)) (gap last [])
def pool (es : List (Nat × CpInfo)) (last : Nat) : Array CpInfo := ⟨poolList es last⟩
def fileOf (pool : Array CpInfo) (this : Nat) (attrs : Array Attribute := #[]) (ms : Array MethodInfo := #[]) (fl : Nat := 33) (sup : Nat := 0) (ifs : Array Nat := #[]) (fds : Array FieldInfo := #[]) : ClassFile where
  minorVersion := 0
  majorVersion := 65
  constantPool := pool
  accessFlags := fl
  thisClass := this
  superClass := sup
  interfaces := ifs
  fields := fds
  methods := ms
  attributes := attrs
def plain (name : String) (sup : Option ClassId) : Class where
  name := name
  kind := .ordinary
  loader := none
  accessFlags := 33
  super := sup
  interfaces := #[]
  cf := none
  fields := #[]
  methods := #[]
  instanceTypes := #[]
  staticTypes := #[]
  resolved := #[]
  callSites := []
  init := .initialized
  statics := none
  mirror := none

def pool0 : Array CpInfo := pool [(5, u "<init>"), (0, u "()V"), (1, .class_ 10), (1, u "java/lang/Object"), (85, u "clone"), (0, u "()Ljava/lang/Object;")] 26

def k0c0 : Code := { maxStack := 0, maxLocals := 1, code := object_method_1_code, exceptionTable := #[], attributes := #[] }
def k0m0 : Method := { name := "<init>", desc := "()V", sig := { parameters := [], returnType := none }, accessFlags := 1, code := some k0c0 }
def k0m1 : Method := { name := "clone", desc := "()Ljava/lang/Object;", sig := { parameters := [], returnType := some (.object "java/lang/Object") }, accessFlags := 260, code := none }
/-- java/lang/Object -/
def k0 : Class := { plain "java/lang/Object" none with
  accessFlags := 33
  interfaces := #[]
  cf := some (fileOf pool0 8 #[] #[{ accessFlags := 1, nameIndex := 5, descriptorIndex := 6, attributes := #[] }, { accessFlags := 260, nameIndex := 96, descriptorIndex := 97, attributes := #[] }] 33 0 #[] #[])
  fields := #[]
  methods := #[k0m0, k0m1]
  instanceTypes := #[]
  staticTypes := #[]
  resolved := Array.replicate 124 none
  statics := none }

def pool1 : Array CpInfo := pool [(2, .class_ 4), (1, u "java/lang/Object"), (0, u "<init>"), (0, u "()V"), (0, .integer 2147483647), (0, .methodref 9 10), (0, .class_ 11), (0, .nameAndType 12 13), (0, u "com/example/planwright/planwright/io/GroupingMemberPinLaw"), (0, u "keyOf"), (0, u "(II)I"), (0, .class_ 15), (0, u "com/example/planwright/planwright/io/Grouping"), (0, .methodref 14 17), (0, .nameAndType 5 18), (0, u "([II)V"), (0, .methodref 14 20), (0, .nameAndType 21 13), (0, u "member"), (2, u "law"), (0, u "(IIIIII)Z")] 5

def k1m0 : Method := { name := "<init>", desc := "()V", sig := { parameters := [], returnType := none }, accessFlags := 1, code := none }
def k1c1 : Code := { maxStack := 3, maxLocals := 2, code := method_2_code, exceptionTable := #[], attributes := #[] }
def k1m1 : Method := { name := "keyOf", desc := "(II)I", sig := { parameters := [.int, .int], returnType := some .int }, accessFlags := 10, code := some k1c1 }
def k1c2 : Code := { maxStack := 4, maxLocals := 12, code := code, exceptionTable := #[], attributes := #[] }
def k1m2 : Method := { name := "law", desc := "(IIIIII)Z", sig := { parameters := [.int, .int, .int, .int, .int, .int], returnType := some .boolean }, accessFlags := 9, code := some k1c2 }
/-- com/example/planwright/planwright/io/GroupingMemberPinLaw -/
def k1 : Class := { plain "com/example/planwright/planwright/io/GroupingMemberPinLaw" (some 0) with
  accessFlags := 49
  interfaces := #[]
  cf := some (fileOf pool1 9 #[] #[{ accessFlags := 1, nameIndex := 5, descriptorIndex := 6, attributes := #[] }, { accessFlags := 10, nameIndex := 12, descriptorIndex := 13, attributes := #[] }, { accessFlags := 9, nameIndex := 24, descriptorIndex := 25, attributes := #[] }] 49 2 #[] #[])
  fields := #[]
  methods := #[k1m0, k1m1, k1m2]
  instanceTypes := #[]
  staticTypes := #[]
  resolved := Array.replicate 31 none
  statics := none }

def pool2 : Array CpInfo := pool [(1, .methodref 2 3), (0, .class_ 4), (0, .nameAndType 5 6), (0, u "java/lang/Object"), (0, u "<init>"), (0, u "()V"), (0, .fieldref 8 9), (0, .class_ 10), (0, .nameAndType 11 12), (0, u "com/example/planwright/planwright/io/Grouping"), (0, u "starts"), (0, u "[I"), (0, .fieldref 8 14), (0, .nameAndType 15 12), (0, u "members"), (0, .methodref 17 18), (0, .class_ 12), (0, .nameAndType 19 20), (0, u "clone"), (0, u "()Ljava/lang/Object;"), (0, u "([II)V"), (5, u "member"), (0, u "(II)I")] 2

def k2c0 : Code := { maxStack := 6, maxLocals := 7, code := prog_17_method_1_code, exceptionTable := #[], attributes := #[] }
def k2m0 : Method := { name := "<init>", desc := "([II)V", sig := { parameters := [(.array .int), .int], returnType := none }, accessFlags := 0, code := some k2c0 }
def k2c1 : Code := { maxStack := 4, maxLocals := 3, code := prog_17_method_3_code, exceptionTable := #[], attributes := #[] }
def k2m1 : Method := { name := "member", desc := "(II)I", sig := { parameters := [.int, .int], returnType := some .int }, accessFlags := 0, code := some k2c1 }
/-- com/example/planwright/planwright/io/Grouping -/
def k2 : Class := { plain "com/example/planwright/planwright/io/Grouping" (some 0) with
  accessFlags := 48
  interfaces := #[]
  cf := some (fileOf pool2 8 #[] #[{ accessFlags := 0, nameIndex := 5, descriptorIndex := 21, attributes := #[] }, { accessFlags := 0, nameIndex := 27, descriptorIndex := 28, attributes := #[] }] 48 2 #[] #[{ accessFlags := 18, nameIndex := 11, descriptorIndex := 12, attributes := #[] }, { accessFlags := 18, nameIndex := 15, descriptorIndex := 12, attributes := #[] }])
  fields := #[{ name := "starts", type := (.array .int), accessFlags := 18, slot := 0, constantValue := 0 }, { name := "members", type := (.array .int), accessFlags := 18, slot := 1, constantValue := 0 }]
  methods := #[k2m0, k2m1]
  instanceTypes := #[(.array .int), (.array .int)]
  staticTypes := #[]
  resolved := Array.replicate 31 none
  statics := none }

def pool3 : Array CpInfo := pool [(1, .class_ 2), (0, u "java/lang/Cloneable"), (0, .class_ 4), (0, u "java/lang/Object")] 2

/-- java/lang/Cloneable -/
def k3 : Class := { plain "java/lang/Cloneable" (some 0) with
  accessFlags := 1537
  interfaces := #[]
  cf := some (fileOf pool3 1 #[] #[] 1537 3 #[] #[])
  fields := #[]
  methods := #[]
  instanceTypes := #[]
  staticTypes := #[]
  resolved := Array.replicate 7 none
  statics := none }

def pool4 : Array CpInfo := pool [(1, u "java/io/Serializable"), (0, .class_ 1), (0, u "java/lang/Object"), (0, .class_ 3)] 3

/-- java/io/Serializable -/
def k4 : Class := { plain "java/io/Serializable" (some 0) with
  accessFlags := 1537
  interfaces := #[]
  cf := some (fileOf pool4 2 #[] #[] 1537 4 #[] #[])
  fields := #[]
  methods := #[]
  instanceTypes := #[]
  staticTypes := #[]
  resolved := Array.replicate 8 none
  statics := none }

/-- the primitive byte -/
def k5 : Class := { plain "byte" none with kind := .primitive 'B', accessFlags := 0x411 }
/-- [B -/
def k6 : Class := { plain "[B" (some 0) with kind := .array 5 .byte, interfaces := #[3, 4], accessFlags := 1041 }

/-- the primitive int -/
def k7 : Class := { plain "int" none with kind := .primitive 'I', accessFlags := 0x411 }
/-- [I -/
def k8 : Class := { plain "[I" (some 0) with kind := .array 7 .int, interfaces := #[3, 4], accessFlags := 1041 }

def heap : Heap := #[]
def classes : Array Class := #[k0, k1, k2, k3, k4, k5, k6, k7, k8]
def interned : List (Array UInt16 × Addr) := []
def slotsUsed : Nat := 0
def theMethod : MethodId := ⟨1, 2⟩
def args0 : Array Value := #[.int 5, .int 5, .int 5, .int 5, .int 5, .int 5]
def aboutOver (below : List Frame) : State where
  vm := { classes := classes, interned := interned.toArray }
  heap := heap
  slotsUsed := slotsUsed
  threads := #[{ frames := .invoking theMethod args0 :: below }]
def below0 : List Frame := [.native { method := ⟨0, 0⟩, args := #[] }]
def about1 : State := aboutOver below0
def p0 : Program := .bare "" "" ""
def e0 : Env := launch0.env 0 0 0
theorem w_frames : about1.frames = Frame.invoking theMethod args0 :: below0 := rfl
set_option maxRecDepth 65536 in
theorem w_args : argsFit about1.vm theMethod args0 = true := by decide +kernel
set_option maxRecDepth 65536 in
theorem w_heap : heapFits about1 = true := by decide +kernel
set_option maxRecDepth 65536 in
theorem w_runnable : about1.curStatus? = some .runnable := by decide +kernel
set_option maxRecDepth 65536 in
theorem w_alone : about1.alone = true := by decide +kernel
set_option maxRecDepth 65536 in
theorem w_named : about1.methodNamed? x = some theMethod := by decide +kernel
set_option maxRecDepth 65536 in
theorem w_hears : about1.hears theMethod below0 = true := by decide +kernel
set_option maxRecDepth 65536 in
theorem w_ripe : about1.ripe theMethod args0 below0 = true := by decide +kernel
theorem w_running : about1.status = .running := rfl
set_option maxRecDepth 65536 in
theorem w_room : about1.hasRoom e0.platform room_1 = true :=
  launch0.hasRoom_least _ room_1 (by decide +kernel) (by decide +kernel) (by decide +kernel) (by decide +kernel) (by decide +kernel) (by decide +kernel)
theorem allAtoms_all (ts : List Jvm.Cond) (a : Array Jvm.Value) (st : Jvm.State) : (allAtoms ts).before a st = ts.all (fun c => c.before a st) := by
  induction ts with
  | nil => rfl
  | cons c t ih =>
    show (Jvm.Cond.and c (allAtoms t)).before a st = _
    rw [Jvm.Cond.before_and, ih, List.all_cons]
def words1 : List Jvm.Cond := Jvm.Cond.code x code maxLocals ret :: tables_1
/-- a 'code' word, met by the world's own term for the bytes: nothing is compared byte by byte -/
theorem code_word {y : MethodName} {bytes : ByteArray} {mx : Nat} {rt : Option FieldType} {a : Array Value} {s : State} {m : MethodId} {meth : Method} {c : Code} (h1 : s.methodNamed? y = some m) (h2 : s.vm.method? m = some meth) (h3 : meth.code = some c) (h4 : c.code = bytes)
    (h5 : (c.maxLocals == mx && c.exceptionTable.isEmpty && decide (c.maxStack ≤ mostOperands) && decide (meth.sig.returnType = rt) && !meth.locks && decide (parseMethodDescriptor y.desc = some meth.sig)) = true) : (Jvm.Cond.code y bytes mx rt).before a s = true := by
  simp only [Bool.and_eq_true, beq_iff_eq, Bool.not_eq_true', decide_eq_true_eq] at h5
  obtain ⟨⟨⟨⟨⟨g1, g2⟩, g3⟩, g4⟩, g5⟩, g6⟩ := h5
  simp [Cond.before, Cond.holds, Cond.value, h1, h2, h3, h4, g1, g2, g3, g4, g5, g6]
def isCode : Jvm.Cond → Bool
  | .code _ _ _ _ => true
  | _ => false
theorem all_split {L : List Jvm.Cond} {P : Jvm.Cond → Bool} (h1 : L.all (fun c => isCode c || P c) = true) (h2 : ∀ c ∈ L.filter isCode, P c = true) : L.all P = true := by
  refine List.all_eq_true.mpr fun c hc => ?_
  have h := List.all_eq_true.mp h1 c hc
  rcases Bool.eq_false_or_eq_true (isCode c) with hi | hi
  · exact h2 c (List.mem_filter.mpr ⟨hc, hi⟩)
  · simpa [hi] using h
set_option maxRecDepth 65536 in
theorem w_c0 : (Jvm.Cond.code x code maxLocals ret).before args0 about1 = true := code_word (m := ⟨1, 2⟩) (meth := k1m2) (c := k1c2) (by decide +kernel) rfl rfl rfl (by decide +kernel)
set_option maxRecDepth 65536 in
theorem w_c1 : (Jvm.Cond.code ({ cls := "com/example/planwright/planwright/io/GroupingMemberPinLaw", name := "keyOf", desc := "(II)I" } : Jvm.MethodName) method_2_code (2 : Nat) (Option.some Jvm.ClassFile.FieldType.int)).before args0 about1 = true := code_word (m := ⟨1, 1⟩) (meth := k1m1) (c := k1c1) (by decide +kernel) rfl rfl rfl (by decide +kernel)
set_option maxRecDepth 65536 in
theorem w_c2 : (Jvm.Cond.code ({ cls := "com/example/planwright/planwright/io/Grouping", name := "<init>", desc := "([II)V" } : Jvm.MethodName) prog_17_method_1_code (7 : Nat) (Option.none : Option Jvm.ClassFile.FieldType)).before args0 about1 = true := code_word (m := ⟨2, 0⟩) (meth := k2m0) (c := k2c0) (by decide +kernel) rfl rfl rfl (by decide +kernel)
set_option maxRecDepth 65536 in
theorem w_c3 : (Jvm.Cond.code ({ cls := "java/lang/Object", name := "<init>", desc := "()V" } : Jvm.MethodName) object_method_1_code (1 : Nat) (Option.none : Option Jvm.ClassFile.FieldType)).before args0 about1 = true := code_word (m := ⟨0, 0⟩) (meth := k0m0) (c := k0c0) (by decide +kernel) rfl rfl rfl (by decide +kernel)
set_option maxRecDepth 65536 in
theorem w_c4 : (Jvm.Cond.code ({ cls := "com/example/planwright/planwright/io/Grouping", name := "member", desc := "(II)I" } : Jvm.MethodName) prog_17_method_3_code (3 : Nat) (Option.some Jvm.ClassFile.FieldType.int)).before args0 about1 = true := code_word (m := ⟨2, 1⟩) (meth := k2m1) (c := k2c1) (by decide +kernel) rfl rfl rfl (by decide +kernel)
def codes1 : List Jvm.Cond := [Jvm.Cond.code x code maxLocals ret, Jvm.Cond.code ({ cls := "com/example/planwright/planwright/io/GroupingMemberPinLaw", name := "keyOf", desc := "(II)I" } : Jvm.MethodName) method_2_code (2 : Nat) (Option.some Jvm.ClassFile.FieldType.int), Jvm.Cond.code ({ cls := "com/example/planwright/planwright/io/Grouping", name := "<init>", desc := "([II)V" } : Jvm.MethodName) prog_17_method_1_code (7 : Nat) (Option.none : Option Jvm.ClassFile.FieldType), Jvm.Cond.code ({ cls := "java/lang/Object", name := "<init>", desc := "()V" } : Jvm.MethodName) object_method_1_code (1 : Nat) (Option.none : Option Jvm.ClassFile.FieldType), Jvm.Cond.code ({ cls := "com/example/planwright/planwright/io/Grouping", name := "member", desc := "(II)I" } : Jvm.MethodName) prog_17_method_3_code (3 : Nat) (Option.some Jvm.ClassFile.FieldType.int)]
set_option maxRecDepth 65536 in
theorem codes_eq : words1.filter isCode = codes1 := rfl
theorem w_codes : ∀ c ∈ words1.filter isCode, c.before args0 about1 = true := by
  rw [codes_eq]
  intro c hc
  simp only [codes1, List.mem_cons, List.not_mem_nil, or_false] at hc
  rcases hc with rfl | rfl | rfl | rfl | rfl
  · exact w_c0
  · exact w_c1
  · exact w_c2
  · exact w_c3
  · exact w_c4
set_option maxRecDepth 65536 in
theorem w_t1 : (words1.take 24).all (fun c => isCode c || c.before args0 about1) = true := by decide +kernel
set_option maxRecDepth 65536 in
theorem w_t2 : (words1.drop 24).all (fun c => isCode c || c.before args0 about1) = true := by decide +kernel
theorem w_tables : (allAtoms (Jvm.Cond.code x code maxLocals ret :: tables_1)).before args0 about1 = true := by
  rw [allAtoms_all]
  show words1.all (fun c => c.before args0 about1) = true
  refine all_split ?_ w_codes
  rw [← List.take_append_drop 24 words1, List.all_append, w_t1, w_t2]
  rfl
set_option maxRecDepth 65536 in
theorem w_case : (Jvm.Cond.and given_1 narrow_1).before args0 about1 = true := by decide +kernel
theorem w_applies : (headSpec (Jvm.Cond.code x code maxLocals ret :: tables_1) room_1).applies x e0.platform about1 = true :=
  (Spec.applies_iff w_frames).mpr ⟨w_running, w_runnable, w_alone, w_named, w_hears, w_ripe, w_room, w_tables⟩
theorem atStart : AtStart classFile x code maxLocals ret World_1 tables_1 room_1 Calls_1 rest_1 Pre_1 launch0 p0 e0 about1 theMethod args0 below0 :=
  ⟨lists_1, trivial, launch0.admits_env _ _ _, launch0.least_env, fairChoices_fair.cas, fairChoices_fair.clock, w_frames, w_args, w_heap, w_applies, trivial, trivial, w_case⟩
end start1
theorem witness_1 : WitnessClaimed_1 := ⟨start1.p0, start1.e0, start1.about1, start1.theMethod, start1.args0, start1.below0, start1.atStart⟩
end Jvm.Pilot.@@N@@
