import JvmDerived
import JvmDerived.Pilot.@@N@@Statement
import JvmDerived.Pilot.@@N@@Code
set_option linter.unusedVariables false
set_option linter.unusedSimpArgs false
namespace Jvm.RoadKit
open Sem ClassFile Op Lib Jvm.Stand Jvm.Free Jvm.LawKit
section New
variable {p : Program} {l : Launch} {e : Env} {R : Room} {s : State} {m : MethodId} {args : Array Value} {below : List Frame} {meth : Method} {c : Code} {T : State} {locs : List Loc} {cells slots : Nat}
theorem retI (X : Stand p l e R s m args below meth c T locs cells slots) (hx : p.tables.exec = Jvm.exec) {pc : Nat} {Ls : Array Slot} {z : Int32} {rest : List Value} (hret : meth.sig.returnType = some .int) (hd : decode c.code pc = .ok (.ireturn, 1)) {fs : List Frame}
    (hl : ∀ (f : JFrame) (acts : List Action), f.method = m → f.locked = none → f.entered = [] → (doReturn e (T.setTop f) acts (some (.int z))).1 = T.setFrames fs) : Steps p.tables e below (T.setTop (mkF m pc Ls (.int z :: rest))) (T.setFrames fs) := by
  have hm' : T.vm.method? m = some meth := X.method'
  have hn : narrow .int (.int z) = .int z := rfl
  show Steps p.tables e below (T.setTop { method := m, pc := pc, locals := Ls, stack := _ :: rest, locked := none }) _
  jvm_step X.here [X.here.top, hx, hd, hm', hret, hn]
  first | (intro acts; rw [hl _ acts rfl rfl rfl]) | rw [hl _ _ rfl rfl rfl]
  exact Steps.refl _
end New
end Jvm.RoadKit
namespace Jvm.Pilot.@@N@@
open Jvm Jvm.ClassFile Sem Op Lib Jvm.Free Jvm.Stand Jvm.LawKit Jvm.RoadKit Bundle Jvm.Pilot.@@N@@.Jvm.D

def own_BA (Z : State) (h : Heap) (a : Addr) (n : Nat) (f : Nat → Int32) : Prop := ∃ cl : Cell, Arr Z h a cl .byte ∧ cl.slots.size = n ∧ ∀ j, j < n → cl.slots[j]? = some (.int (f j))
section BA
variable {Z : State} {h h' : Heap} {a b : Addr} {n i sl : Nat} {f g : Nat → Int32} {x j : Int32} {v : Value} {ws : List Addr}
theorem own_BA.lt (F : own_BA Z h a n f) : a < h.size := by obtain ⟨cl, A, -⟩ := F; exact A.lt
theorem own_BA.ext (F : own_BA Z h a n f) (E : Ext h h') : own_BA Z h' a n f := by obtain ⟨cl, A, r⟩ := F; exact ⟨cl, A.ext E, r⟩
theorem own_BA.other (F : own_BA Z h b n f) (W : Wr h h' a sl v) (q : b ≠ a) : own_BA Z h' b n f := by obtain ⟨cl, A, r⟩ := F; exact ⟨cl, A.other W q, r⟩
theorem own_BA.keep (F : own_BA Z h a n f) (K : Keep h h' ws) (q : a ∉ ws) : own_BA Z h' a n f := by obtain ⟨cl, A, r⟩ := F; exact ⟨cl, ⟨K.2.1 a cl A.1 q, A.2⟩, r⟩
theorem own_BA.congr (F : own_BA Z h a n f) (q : ∀ j, j < n → f j = g j) : own_BA Z h a n g := by
  obtain ⟨cl, A, S, H⟩ := F
  exact ⟨cl, A, S, fun j hj => by rw [← q j hj]; exact H j hj⟩
theorem own_BA.at (F : own_BA Z h a n f) (hj : j = Int32.ofNat i) (hi : i < n) (hn : n < 2 ^ 31) : ∃ cl : Cell, Arr Z h a cl .byte ∧ ¬ (j < 0 ∨ cl.slots.size ≤ j.toNatClampNeg) ∧ cl.slots[j.toNatClampNeg]? = some (.int (f i)) := by
  obtain ⟨cl, A, S, H⟩ := F
  refine ⟨cl, A, by rw [S]; exact within hj hi hn, ?_⟩
  rw [clamp_of hj (Nat.lt_trans hi hn)]
  exact H i hi
theorem own_BA.set (F : own_BA Z h a n f) (W : Wr h h' a j.toNatClampNeg (.int x)) (hj : j = Int32.ofNat i) (hi : i < n) (hn : n < 2 ^ 31) : own_BA Z h' a n (fun k => if k = i then x else f k) := by
  obtain ⟨cl, A, S, H⟩ := F
  refine ⟨_, A.same W, by rw [sz_set]; exact S, fun k hk => ?_⟩
  rw [clamp_of hj (Nat.lt_trans hi hn)]
  show (cl.slots.setIfInBounds i (.int x))[k]? = some (Value.int (if k = i then x else f k))
  by_cases e : k = i
  · subst e
    rw [Array.getElem?_setIfInBounds_self_of_lt (by omega), if_pos rfl]
  · rw [Array.getElem?_setIfInBounds_ne (fun q => e q.symm), if_neg e]
    exact H k hk
theorem own_BA.len (F : own_BA Z h a n f) : ∃ cl : Cell, Arr Z h a cl .byte ∧ cl.slots.size.toInt32 = Int32.ofNat n := by
  obtain ⟨cl, A, S, -⟩ := F
  exact ⟨cl, A, by rw [S]⟩
theorem own_BA.new {kA : ClassId} {z : Int32} (A : Arr Z h a (newA kA .byte z) .byte) (hz : z.toNatClampNeg = n) : own_BA Z h a n (fun _ => 0) := by
  refine ⟨_, A, by rw [sz_new]; exact hz, fun j hj => ?_⟩
  show (Array.replicate z.toNatClampNeg (defaultValue .byte))[j]? = _
  rw [hz, Array.getElem?_replicate, if_pos hj]; rfl
theorem own_inc (i : Nat) : Int32.ofNat i + 1 = Int32.ofNat (i + 1) := (inc_ofNat i).symm
theorem own_lt {i n : Nat} (h : i < n) (hn : n < 2 ^ 31) : Int32.ofNat i < Int32.ofNat n := by
  rw [Int32.lt_iff_toInt_lt, toInt_of rfl (Nat.lt_trans h hn), toInt_of rfl hn]; omega
theorem own_nlt {i n : Nat} (h : n ≤ i) (hn : i < 2 ^ 31) : ¬ Int32.ofNat i < Int32.ofNat n := by
  rw [Int32.lt_iff_toInt_lt, toInt_of rfl hn, toInt_of rfl (Nat.lt_of_le_of_lt h hn)]; omega
end BA

def own_LA (Z : State) (h : Heap) (a : Addr) (n : Nat) (f : Nat → Int64) : Prop := ∃ cl : Cell, Arr Z h a cl .long ∧ cl.slots.size = n ∧ ∀ j, j < n → cl.slots[j]? = some (.long (f j))
section LA
variable {Z : State} {h h' : Heap} {a b : Addr} {n i sl : Nat} {f g : Nat → Int64} {x : Int64} {j : Int32} {v : Value} {ws : List Addr}
theorem own_LA.lt (F : own_LA Z h a n f) : a < h.size := by obtain ⟨cl, A, -⟩ := F; exact A.lt
theorem own_LA.ext (F : own_LA Z h a n f) (E : Ext h h') : own_LA Z h' a n f := by obtain ⟨cl, A, r⟩ := F; exact ⟨cl, A.ext E, r⟩
theorem own_LA.other (F : own_LA Z h b n f) (W : Wr h h' a sl v) (q : b ≠ a) : own_LA Z h' b n f := by obtain ⟨cl, A, r⟩ := F; exact ⟨cl, A.other W q, r⟩
theorem own_LA.keep (F : own_LA Z h a n f) (K : Keep h h' ws) (q : a ∉ ws) : own_LA Z h' a n f := by obtain ⟨cl, A, r⟩ := F; exact ⟨cl, ⟨K.2.1 a cl A.1 q, A.2⟩, r⟩
theorem own_LA.congr (F : own_LA Z h a n f) (q : ∀ j, j < n → f j = g j) : own_LA Z h a n g := by
  obtain ⟨cl, A, S, H⟩ := F
  exact ⟨cl, A, S, fun j hj => by rw [← q j hj]; exact H j hj⟩
theorem own_LA.at (F : own_LA Z h a n f) (hj : j = Int32.ofNat i) (hi : i < n) (hn : n < 2 ^ 31) : ∃ cl : Cell, Arr Z h a cl .long ∧ ¬ (j < 0 ∨ cl.slots.size ≤ j.toNatClampNeg) ∧ cl.slots[j.toNatClampNeg]? = some (.long (f i)) := by
  obtain ⟨cl, A, S, H⟩ := F
  refine ⟨cl, A, by rw [S]; exact within hj hi hn, ?_⟩
  rw [clamp_of hj (Nat.lt_trans hi hn)]
  exact H i hi
theorem own_LA.set (F : own_LA Z h a n f) (W : Wr h h' a j.toNatClampNeg (.long x)) (hj : j = Int32.ofNat i) (hi : i < n) (hn : n < 2 ^ 31) : own_LA Z h' a n (fun k => if k = i then x else f k) := by
  obtain ⟨cl, A, S, H⟩ := F
  refine ⟨_, A.same W, by rw [sz_set]; exact S, fun k hk => ?_⟩
  rw [clamp_of hj (Nat.lt_trans hi hn)]
  show (cl.slots.setIfInBounds i (.long x))[k]? = some (Value.long (if k = i then x else f k))
  by_cases e : k = i
  · subst e
    rw [Array.getElem?_setIfInBounds_self_of_lt (by omega), if_pos rfl]
  · rw [Array.getElem?_setIfInBounds_ne (fun q => e q.symm), if_neg e]
    exact H k hk
theorem own_LA.len (F : own_LA Z h a n f) : ∃ cl : Cell, Arr Z h a cl .long ∧ cl.slots.size.toInt32 = Int32.ofNat n := by
  obtain ⟨cl, A, S, -⟩ := F
  exact ⟨cl, A, by rw [S]⟩
theorem own_LA.new {kA : ClassId} {z : Int32} (A : Arr Z h a (newA kA .long z) .long) (hz : z.toNatClampNeg = n) : own_LA Z h a n (fun _ => 0) := by
  refine ⟨_, A, by rw [sz_new]; exact hz, fun j hj => ?_⟩
  show (Array.replicate z.toNatClampNeg (defaultValue .long))[j]? = _
  rw [hz, Array.getElem?_replicate, if_pos hj]; rfl
end LA

theorem own_modn (x y : Int32) (d : Nat) (hy : y.toInt = d) (hd : 0 < d) : ∃ n : Nat, n < d ∧ (x &&& 2147483647) % y = Int32.ofNat n := by
  have h := c_mask x 2147483647 31 (by decide) (by decide)
  have h0 : 0 ≤ (x &&& 2147483647).toInt := by rw [h]; omega
  have hr := (c_irem (x &&& 2147483647) y d hy).1 h0
  have hr32 := rng32 y
  have hb0 := Int.emod_nonneg (x &&& 2147483647).toInt (show (d : Int) ≠ 0 by omega)
  have hb1 := Int.emod_lt_of_pos (x &&& 2147483647).toInt (show (0 : Int) < d by omega)
  refine ⟨((x &&& 2147483647).toInt % (d : Int)).toNat, by omega, ?_⟩
  apply Int32.toInt_inj.mp
  rw [hr, Int32.toInt_ofNat_of_lt (by omega)]
  omega

def own_hi6 (a b : Int64) : Int64 := ((a <<< ((1 : Int32) &&& 0x3f).toInt64) ||| ((b.toUInt64 >>> ((63 : Int32) &&& 0x3f).toInt64.toUInt64).toInt64))
def own_lo6 (b c : Int64) : Int64 := ((b <<< ((1 : Int32) &&& 0x3f).toInt64) ||| (((c.toUInt64 >>> ((24 : Int32) &&& 0x3f).toInt64.toUInt64).toInt64) &&& (1 : Int64)))
def own_hi4 (a : Int64) : Int64 := (((a.toUInt64 >>> ((31 : Int32) &&& 0x3f).toInt64.toUInt64).toInt64) <<< ((32 : Int32) &&& 0x3f).toInt64)
def own_len (x : Int64) : Int32 := ((((x.toUInt64 >>> ((16 : Int32) &&& 0x3f).toInt64.toUInt64).toInt64) &&& (255 : Int64)).toInt32)
def own_lea (x : Int64) : Int32 := ((((x.toUInt64 >>> ((8 : Int32) &&& 0x3f).toInt64.toUInt64).toInt64) &&& (255 : Int64)).toInt32)
def own_mos (x : Int64) : Int32 := ((x.toInt32) &&& (255 : Int32))
def own_g (x : Int64) (i : Int32) : Int32 := nar .byte ((((x.toUInt64 >>> ((((7 : Int32) - (i % (8 : Int32))) * (8 : Int32)) &&& 0x3f).toInt64.toUInt64).toInt64).toInt32).toInt8.toInt32)
def own_f (hi lo : Int64) (i : Nat) : Int32 := if Int32.ofNat i < (8 : Int32) then own_g hi (Int32.ofNat i) else own_g lo (Int32.ofNat i)
def own_H (f : Nat → Int32) : Nat → Int64
  | 0 => 0
  | i + 1 => if Int32.ofNat i < (8 : Int32) then ((own_H f i <<< ((8 : Int32) &&& 0x3f).toInt64) ||| ((f i &&& (255 : Int32)).toInt64)) else own_H f i
def own_L (f : Nat → Int32) : Nat → Int64
  | 0 => 0
  | i + 1 => if Int32.ofNat i < (8 : Int32) then own_L f i else ((own_L f i <<< ((8 : Int32) &&& 0x3f).toInt64) ||| ((f i &&& (255 : Int32)).toInt64))
def own_lg (x : Int64) : Int64 := ((((own_len x <<< ((16 : Int32) &&& 31)) ||| (own_lea x <<< ((8 : Int32) &&& 31))) ||| own_mos x).toInt64)
def own_is (n : Nat) : Int32 := if Int32.ofNat n = 16 then 1 else 0
def own_kl (n : Nat) : Int32 := if own_is n = 0 then 1 else 3

theorem own_add2 (G : Nat) : Int32.ofNat G + 2 = Int32.ofNat (G + 2) := (inc2_ofNat G).symm
theorem own_upd (n i : Nat) (f : Nat → Int32) (v : Int32) (hv : v = f i) (j : Nat) : (if j = i then v else (if j < i then f j else 0)) = (if j < i + 1 then f j else 0) := by
  by_cases a : j = i
  · rw [if_pos a, if_pos (by omega), hv, a]
  · rw [if_neg a]
    by_cases b : j < i
    · rw [if_pos b, if_pos (by omega)]
    · rw [if_neg b, if_neg (by omega)]
theorem own_inj {x y : Int64} (h : x.toInt % 18446744073709551616 = y.toInt % 18446744073709551616) : x = y := by
  apply Int64.toInt_inj.mp
  have h1 := rng64 x
  have h2 := rng64 y
  omega
theorem own_ush0 (x : Int64) : ((x.toUInt64 >>> ((0 : Int32) &&& 0x3f).toInt64.toUInt64).toInt64) = x := by
  have e : ((0 : Int32) &&& 0x3f).toInt64.toUInt64 = 0 := by decide
  rw [e]
  apply Int64.toBitVec_inj.mp
  simp
theorem own_nb (y : Int64) : ((nar .byte (y.toInt32).toInt8.toInt32) &&& (255 : Int32)).toInt64.toInt = y.toInt % 256 := by
  rw [c_i2l, c_mask _ 255 8 (by decide) (by decide)]
  show ((y.toInt32.toInt8.toInt32).toInt8.toInt32).toInt % ((2 ^ 8 : Nat) : Int) = _
  have h1 := c_l2i y
  have h2 := c_i2b y.toInt32
  have h3 := c_i2b (y.toInt32.toInt8.toInt32)
  have e : ((2 ^ 8 : Nat) : Int) = 256 := by decide
  rw [e]
  omega
theorem own_byte (x : Int64) (s : Int32) (k : Nat) (hk : s.toBitVec.toNat % 64 = k) (h0 : 0 < k) : ((nar .byte ((((x.toUInt64 >>> (s &&& 0x3f).toInt64.toUInt64).toInt64).toInt32).toInt8.toInt32)) &&& (255 : Int32)).toInt64.toInt = (x.toInt % 18446744073709551616 / (2 ^ k : Nat)) % 256 := by
  rw [own_nb, c_lushr x s k hk h0]
theorem own_byte0 (x : Int64) (s : Int32) (hk : s = 0) : ((nar .byte ((((x.toUInt64 >>> (s &&& 0x3f).toInt64.toUInt64).toInt64).toInt32).toInt8.toInt32)) &&& (255 : Int32)).toInt64.toInt = (x.toInt % 18446744073709551616) % 256 := by
  subst hk
  rw [own_ush0, own_nb]
  omega
theorem own_Hs (h b : Int64) (y : Int) (hy0 : 0 ≤ y) (hy1 : y < 18446744073709551616) (hh : h.toInt % 18446744073709551616 = y / 256) (hb : b.toInt = y % 256) : ((h <<< ((8 : Int32) &&& 0x3f).toInt64) ||| b).toInt % 18446744073709551616 = y := by
  have h1 := c_lshl h 8 8 (by decide)
  have e : ((2 ^ 8 : Nat) : Int) = 256 := by decide
  rw [e] at h1
  generalize (h <<< ((8 : Int32) &&& 0x3f).toInt64) = z at h1 ⊢
  have h2 := c_orL z b 8 (by decide) 256 (by decide) (by omega) (by omega) (by omega)
  omega

theorem own_eight (x : Int64) (f : Nat → Int32) (b0 : Nat) (F : Nat → Int64) (hF0 : F b0 = 0) (hF : ∀ j, j < 8 → F (b0 + j + 1) = ((F (b0 + j) <<< ((8 : Int32) &&& 0x3f).toInt64) ||| ((f (b0 + j) &&& (255 : Int32)).toInt64))) (hf : ∀ j, j < 8 → f (b0 + j) = own_g x (Int32.ofNat (b0 + j))) (hs : ∀ j, j < 8 → ((7 : Int32) - (Int32.ofNat (b0 + j) % (8 : Int32))) * (8 : Int32) = Int32.ofNat (56 - 8 * j)) : F (b0 + 4) = ((x.toUInt64 >>> ((32 : Int32) &&& 0x3f).toInt64.toUInt64).toInt64) ∧ F (b0 + 8) = x := by
  have u0 : 0 ≤ x.toInt % 18446744073709551616 := Int.emod_nonneg _ (by decide)
  have u1 : x.toInt % 18446744073709551616 < 18446744073709551616 := Int.emod_lt_of_pos _ (by decide)
  have by0 : ∀ j, j < 7 → ((f (b0 + j) &&& (255 : Int32)).toInt64).toInt = (x.toInt % 18446744073709551616 / (2 ^ (56 - 8 * j) : Nat)) % 256 := fun j hj => by
    rw [hf j (by omega)]
    unfold own_g
    rw [hs j (by omega)]
    refine own_byte x _ (56 - 8 * j) ?_ (by omega)
    match j, hj with
    | 0, _ => decide
    | 1, _ => decide
    | 2, _ => decide
    | 3, _ => decide
    | 4, _ => decide
    | 5, _ => decide
    | 6, _ => decide
  have by7 : ((f (b0 + 7) &&& (255 : Int32)).toInt64).toInt = (x.toInt % 18446744073709551616) % 256 := by
    rw [hf 7 (by omega)]
    unfold own_g
    exact own_byte0 x _ (hs 7 (by omega))
  obtain ⟨u, hu⟩ : ∃ u, u = x.toInt % 18446744073709551616 := ⟨_, rfl⟩
  rw [← hu] at u0 u1 by0 by7
  have k1 : (F (b0 + 1)).toInt % 18446744073709551616 = u / 2 ^ 56 := by
    rw [hF 0 (by omega)]
    refine own_Hs _ _ _ (by omega) (by omega) ?_ ?_
    · show (F b0).toInt % 18446744073709551616 = _
      rw [hF0]; show (0 : Int) % 18446744073709551616 = _; omega
    · have := by0 0 (by omega); rw [this]; rfl
  have k2 : (F (b0 + 2)).toInt % 18446744073709551616 = u / 2 ^ 48 := by
    rw [hF 1 (by omega)]
    refine own_Hs _ _ _ (by omega) (by omega) ?_ ?_
    · show (F (b0 + 1)).toInt % 18446744073709551616 = _
      rw [k1]; omega
    · have := by0 1 (by omega); rw [this]; rfl
  have k3 : (F (b0 + 3)).toInt % 18446744073709551616 = u / 2 ^ 40 := by
    rw [hF 2 (by omega)]
    refine own_Hs _ _ _ (by omega) (by omega) ?_ ?_
    · show (F (b0 + 2)).toInt % 18446744073709551616 = _
      rw [k2]; omega
    · have := by0 2 (by omega); rw [this]; rfl
  have k4 : (F (b0 + 4)).toInt % 18446744073709551616 = u / 2 ^ 32 := by
    rw [hF 3 (by omega)]
    refine own_Hs _ _ _ (by omega) (by omega) ?_ ?_
    · show (F (b0 + 3)).toInt % 18446744073709551616 = _
      rw [k3]; omega
    · have := by0 3 (by omega); rw [this]; rfl
  have k5 : (F (b0 + 5)).toInt % 18446744073709551616 = u / 2 ^ 24 := by
    rw [hF 4 (by omega)]
    refine own_Hs _ _ _ (by omega) (by omega) ?_ ?_
    · show (F (b0 + 4)).toInt % 18446744073709551616 = _
      rw [k4]; omega
    · have := by0 4 (by omega); rw [this]; rfl
  have k6 : (F (b0 + 6)).toInt % 18446744073709551616 = u / 2 ^ 16 := by
    rw [hF 5 (by omega)]
    refine own_Hs _ _ _ (by omega) (by omega) ?_ ?_
    · show (F (b0 + 5)).toInt % 18446744073709551616 = _
      rw [k5]; omega
    · have := by0 5 (by omega); rw [this]; rfl
  have k7 : (F (b0 + 7)).toInt % 18446744073709551616 = u / 2 ^ 8 := by
    rw [hF 6 (by omega)]
    refine own_Hs _ _ _ (by omega) (by omega) ?_ ?_
    · show (F (b0 + 6)).toInt % 18446744073709551616 = _
      rw [k6]; omega
    · have := by0 6 (by omega); rw [this]; rfl
  have k8 : (F (b0 + 8)).toInt % 18446744073709551616 = u := by
    rw [hF 7 (by omega)]
    refine own_Hs _ _ _ (by omega) (by omega) ?_ ?_
    · show (F (b0 + 7)).toInt % 18446744073709551616 = _
      rw [k7]; omega
    · exact by7
  refine ⟨own_inj ?_, own_inj ?_⟩
  · have h32 := c_lushr x 32 32 (by decide) (by decide)
    rw [← hu] at h32
    rw [k4, h32]
    have e : ((2 ^ 32 : Nat) : Int) = 4294967296 := by decide
    rw [e]
    omega
  · rw [k8, hu]
theorem own_H_hi (hi lo : Int64) : own_H (own_f hi lo) 4 = ((hi.toUInt64 >>> ((32 : Int32) &&& 0x3f).toInt64.toUInt64).toInt64) ∧ own_H (own_f hi lo) 8 = hi := by
  have h := own_eight hi (own_f hi lo) 0 (own_H (own_f hi lo)) rfl (fun j hj => match j, hj with
    | 0, _ => if_pos (by decide)
    | 1, _ => if_pos (by decide)
    | 2, _ => if_pos (by decide)
    | 3, _ => if_pos (by decide)
    | 4, _ => if_pos (by decide)
    | 5, _ => if_pos (by decide)
    | 6, _ => if_pos (by decide)
    | 7, _ => if_pos (by decide)) (fun j hj => match j, hj with
    | 0, _ => if_pos (by decide)
    | 1, _ => if_pos (by decide)
    | 2, _ => if_pos (by decide)
    | 3, _ => if_pos (by decide)
    | 4, _ => if_pos (by decide)
    | 5, _ => if_pos (by decide)
    | 6, _ => if_pos (by decide)
    | 7, _ => if_pos (by decide)) (fun j hj => match j, hj with
    | 0, _ => by decide
    | 1, _ => by decide
    | 2, _ => by decide
    | 3, _ => by decide
    | 4, _ => by decide
    | 5, _ => by decide
    | 6, _ => by decide
    | 7, _ => by decide)
  exact h
theorem own_H16 (hi lo : Int64) : own_H (own_f hi lo) 16 = hi := by
  rw [own_H, if_neg (by decide), own_H, if_neg (by decide), own_H, if_neg (by decide), own_H, if_neg (by decide), own_H, if_neg (by decide), own_H, if_neg (by decide), own_H, if_neg (by decide), own_H, if_neg (by decide)]
  exact (own_H_hi hi lo).2
theorem own_L8 (f : Nat → Int32) : own_L f 8 = 0 := by
  rw [own_L, if_pos (by decide), own_L, if_pos (by decide), own_L, if_pos (by decide), own_L, if_pos (by decide), own_L, if_pos (by decide), own_L, if_pos (by decide), own_L, if_pos (by decide), own_L, if_pos (by decide)]
  rfl
theorem own_L16 (hi lo : Int64) : own_L (own_f hi lo) 16 = lo := by
  have h := own_eight lo (own_f hi lo) 8 (own_L (own_f hi lo)) (own_L8 _) (fun j hj => match j, hj with
    | 0, _ => if_neg (by decide)
    | 1, _ => if_neg (by decide)
    | 2, _ => if_neg (by decide)
    | 3, _ => if_neg (by decide)
    | 4, _ => if_neg (by decide)
    | 5, _ => if_neg (by decide)
    | 6, _ => if_neg (by decide)
    | 7, _ => if_neg (by decide)) (fun j hj => match j, hj with
    | 0, _ => if_neg (by decide)
    | 1, _ => if_neg (by decide)
    | 2, _ => if_neg (by decide)
    | 3, _ => if_neg (by decide)
    | 4, _ => if_neg (by decide)
    | 5, _ => if_neg (by decide)
    | 6, _ => if_neg (by decide)
    | 7, _ => if_neg (by decide)) (fun j hj => match j, hj with
    | 0, _ => by decide
    | 1, _ => by decide
    | 2, _ => by decide
    | 3, _ => by decide
    | 4, _ => by decide
    | 5, _ => by decide
    | 6, _ => by decide
    | 7, _ => by decide)
  exact h.2
theorem own_len_v (x : Int64) : (own_len x).toInt = x.toInt / 65536 % 256 := by
  unfold own_len
  have h1 := c_lushr x 16 16 (by decide) (by decide)
  have e : ((2 ^ 16 : Nat) : Int) = 65536 := by decide
  rw [e] at h1
  generalize ((x.toUInt64 >>> ((16 : Int32) &&& 0x3f).toInt64.toUInt64).toInt64) = y at h1 ⊢
  have h2 := c_maskL y 255 8 (by decide) (by decide)
  have e8 : ((2 ^ 8 : Nat) : Int) = 256 := by decide
  rw [e8] at h2
  have h3 := c_l2i (y &&& 255)
  have h4 := rng32 ((y &&& 255).toInt32)
  have h5 := rng64 x
  omega
theorem own_lea_v (x : Int64) : (own_lea x).toInt = x.toInt / 256 % 256 := by
  unfold own_lea
  have h1 := c_lushr x 8 8 (by decide) (by decide)
  have e : ((2 ^ 8 : Nat) : Int) = 256 := by decide
  rw [e] at h1
  generalize ((x.toUInt64 >>> ((8 : Int32) &&& 0x3f).toInt64.toUInt64).toInt64) = y at h1 ⊢
  have h2 := c_maskL y 255 8 (by decide) (by decide)
  rw [e] at h2
  have h3 := c_l2i (y &&& 255)
  have h4 := rng32 ((y &&& 255).toInt32)
  have h5 := rng64 x
  omega
theorem own_mos_v (x : Int64) : (own_mos x).toInt = x.toInt % 256 := by
  unfold own_mos
  have h2 := c_mask (x.toInt32) 255 8 (by decide) (by decide)
  have e : ((2 ^ 8 : Nat) : Int) = 256 := by decide
  rw [e] at h2
  have h3 := c_l2i x
  omega
theorem own_lg_v (x : Int64) : (own_lg x).toInt = x.toInt % 16777216 := by
  unfold own_lg
  rw [c_i2l]
  have a1 := own_len_v x
  have a2 := own_lea_v x
  have a3 := own_mos_v x
  generalize own_len x = p at a1 ⊢
  generalize own_lea x = q at a2 ⊢
  generalize own_mos x = r at a3 ⊢
  have h1 := c_ishl p 16 16 (by decide)
  have h2 := c_ishl q 8 8 (by decide)
  have e16 : ((2 ^ 16 : Nat) : Int) = 65536 := by decide
  have e8 : ((2 ^ 8 : Nat) : Int) = 256 := by decide
  rw [e16] at h1
  rw [e8] at h2
  generalize p <<< ((16 : Int32) &&& 31) = P at h1 ⊢
  generalize q <<< ((8 : Int32) &&& 31) = Q at h2 ⊢
  have r1 := rng32 P
  have r2 := rng32 Q
  have o1 := c_or P Q 16 (by decide) 65536 (by decide) (by omega) (by omega) (by omega)
  generalize P ||| Q = O at o1 ⊢
  have r3 := rng32 O
  have o2 := c_or O r 8 (by decide) 256 (by decide) (by omega) (by omega) (by omega)
  have r4 := rng32 (O ||| r)
  omega
theorem own_hi6_v (a b : Int64) : ((own_hi6 a b).toInt - (2 * a.toInt + b.toInt % 18446744073709551616 / 9223372036854775808)) % 18446744073709551616 = 0 := by
  unfold own_hi6
  have h1 := c_lshl a 1 1 (by decide)
  have h2 := c_lushr b 63 63 (by decide) (by decide)
  have e1 : ((2 ^ 1 : Nat) : Int) = 2 := by decide
  have e63 : ((2 ^ 63 : Nat) : Int) = 9223372036854775808 := by decide
  rw [e1] at h1
  rw [e63] at h2
  generalize (a <<< ((1 : Int32) &&& 0x3f).toInt64) = z at h1 ⊢
  generalize ((b.toUInt64 >>> ((63 : Int32) &&& 0x3f).toInt64.toUInt64).toInt64) = y at h2 ⊢
  have h3 := c_orL z y 1 (by decide) 2 (by decide) (by omega) (by omega) (by omega)
  omega
theorem own_lo6_v (b c : Int64) (hc : 0 ≤ c.toInt) (hc2 : c.toInt < 33554432) : ((own_lo6 b c).toInt - (2 * b.toInt + c.toInt / 16777216)) % 18446744073709551616 = 0 := by
  unfold own_lo6
  have h1 := c_lshl b 1 1 (by decide)
  have h2 := c_lushr c 24 24 (by decide) (by decide)
  have e1 : ((2 ^ 1 : Nat) : Int) = 2 := by decide
  have e24 : ((2 ^ 24 : Nat) : Int) = 16777216 := by decide
  rw [e1] at h1
  rw [e24] at h2
  generalize (b <<< ((1 : Int32) &&& 0x3f).toInt64) = z at h1 ⊢
  generalize ((c.toUInt64 >>> ((24 : Int32) &&& 0x3f).toInt64.toUInt64).toInt64) = y at h2 ⊢
  have hm := c_maskL y 1 1 (by decide) (by decide)
  rw [e1] at hm
  generalize y &&& (1 : Int64) = w at hm ⊢
  have h3 := c_orL z w 1 (by decide) 2 (by decide) (by omega) (by omega) (by omega)
  omega
theorem own_O0 (a b : Int64) (ha : a.toInt < 0) : ((-9223372036854775808 : Int64) ||| (((own_hi6 a b).toUInt64 >>> ((1 : Int32) &&& 0x3f).toInt64.toUInt64).toInt64)) = a := by
  apply own_inj
  have h0 := own_hi6_v a b
  have h1 := c_lushr (own_hi6 a b) 1 1 (by decide) (by decide)
  have e1 : ((2 ^ 1 : Nat) : Int) = 2 := by decide
  rw [e1] at h1
  generalize (((own_hi6 a b).toUInt64 >>> ((1 : Int32) &&& 0x3f).toInt64.toUInt64).toInt64) = y at h1 ⊢
  have hm : ((-9223372036854775808 : Int64)).toInt = -9223372036854775808 := by decide
  have h3 := c_orL (-9223372036854775808 : Int64) y 63 (by decide) 9223372036854775808 (by decide) (by rw [hm]; decide) (by omega) (by omega)
  have r1 := rng64 a
  have r2 := rng64 b
  rw [hm] at h3
  omega
theorem own_O1 (a b c : Int64) (hc : 0 ≤ c.toInt) (hc2 : c.toInt < 33554432) : (((own_hi6 a b) <<< ((63 : Int32) &&& 0x3f).toInt64) ||| (((own_lo6 b c).toUInt64 >>> ((1 : Int32) &&& 0x3f).toInt64.toUInt64).toInt64)) = b := by
  apply own_inj
  have h0 := own_hi6_v a b
  have h0' := own_lo6_v b c hc hc2
  have h1 := c_lshl (own_hi6 a b) 63 63 (by decide)
  have h2 := c_lushr (own_lo6 b c) 1 1 (by decide) (by decide)
  have e1 : ((2 ^ 1 : Nat) : Int) = 2 := by decide
  have e63 : ((2 ^ 63 : Nat) : Int) = 9223372036854775808 := by decide
  rw [e63] at h1
  rw [e1] at h2
  generalize ((own_hi6 a b) <<< ((63 : Int32) &&& 0x3f).toInt64) = z at h1 ⊢
  generalize (((own_lo6 b c).toUInt64 >>> ((1 : Int32) &&& 0x3f).toInt64.toUInt64).toInt64) = y at h2 ⊢
  have h3 := c_orL z y 63 (by decide) 9223372036854775808 (by decide) (by omega) (by omega) (by omega)
  have r2 := rng64 b
  omega
theorem own_O2 (b c : Int64) (hc : 0 ≤ c.toInt) (hc2 : c.toInt < 33554432) : (((own_lo6 b c &&& (1 : Int64)) <<< ((24 : Int32) &&& 0x3f).toInt64) ||| own_lg c) = c := by
  apply own_inj
  have h0' := own_lo6_v b c hc hc2
  have hg := own_lg_v c
  have hm := c_maskL (own_lo6 b c) 1 1 (by decide) (by decide)
  have e1 : ((2 ^ 1 : Nat) : Int) = 2 := by decide
  rw [e1] at hm
  generalize own_lo6 b c &&& (1 : Int64) = w at hm ⊢
  have h1 := c_lshl w 24 24 (by decide)
  have e24 : ((2 ^ 24 : Nat) : Int) = 16777216 := by decide
  rw [e24] at h1
  generalize (w <<< ((24 : Int32) &&& 0x3f).toInt64) = z at h1 ⊢
  have h3 := c_orL z (own_lg c) 24 (by decide) 16777216 (by decide) (by omega) (by omega) (by omega)
  omega
theorem own_O4 (a : Int64) (ha : 0 ≤ a.toInt) (hg : a.toInt / 16777216 % 128 = 0) : (((((own_hi4 a).toUInt64 >>> ((32 : Int32) &&& 0x3f).toInt64.toUInt64).toInt64) <<< ((31 : Int32) &&& 0x3f).toInt64) ||| own_lg a) = a := by
  apply own_inj
  have hl := own_lg_v a
  have r1 := rng64 a
  have h1 := c_lushr a 31 31 (by decide) (by decide)
  have e31 : ((2 ^ 31 : Nat) : Int) = 2147483648 := by decide
  have e32 : ((2 ^ 32 : Nat) : Int) = 4294967296 := by decide
  rw [e31] at h1
  have h2 := c_lshl (((a.toUInt64 >>> ((31 : Int32) &&& 0x3f).toInt64.toUInt64).toInt64)) 32 32 (by decide)
  rw [e32, h1] at h2
  have h3 := c_lushr (own_hi4 a) 32 32 (by decide) (by decide)
  rw [e32] at h3
  have h4 : (own_hi4 a).toInt = ((((a.toUInt64 >>> ((31 : Int32) &&& 0x3f).toInt64.toUInt64).toInt64) <<< ((32 : Int32) &&& 0x3f).toInt64)).toInt := rfl
  rw [h4] at h3
  generalize ((((a.toUInt64 >>> ((31 : Int32) &&& 0x3f).toInt64.toUInt64).toInt64) <<< ((32 : Int32) &&& 0x3f).toInt64)).toInt = y at h2 h3
  generalize (((own_hi4 a).toUInt64 >>> ((32 : Int32) &&& 0x3f).toInt64.toUInt64).toInt64) = v at h3 ⊢
  have h5 := c_lshl v 31 31 (by decide)
  rw [e31] at h5
  generalize (v <<< ((31 : Int32) &&& 0x3f).toInt64) = z at h5 ⊢
  have h6 := c_orL z (own_lg a) 31 (by decide) 2147483648 (by decide) (by omega) (by omega) (by omega)
  omega
theorem own_gap (x : Int64) : 0 ≤ (x &&& 9223372034724069375).toInt ∧ (x &&& 9223372034724069375).toInt / 16777216 % 128 = 0 := by
  have h0 := (c_andSL x 9223372034724069375).2.2 (by decide)
  refine ⟨h0, ?_⟩
  have h1 : (x &&& 9223372034724069375) &&& 2130706432 = 0 := by
    rw [Int64.and_assoc]
    have e : (9223372034724069375 : Int64) &&& 2130706432 = 0 := by decide
    rw [e, Int64.and_zero]
  generalize x &&& 9223372034724069375 = y at h0 h1 ⊢
  have h2 := congrArg (fun z : Int64 => z.toBitVec.toNat >>> 24) h1
  have e1 : (0 : Int64).toBitVec.toNat >>> 24 = 0 := by decide
  have e2 : (2130706432 : Int64).toBitVec.toNat >>> 24 = 2 ^ 7 - 1 := by decide
  simp only [e1] at h2
  rw [Int64.toBitVec_and, BitVec.toNat_and, Nat.shiftRight_and_distrib, e2, Nat.and_two_pow_sub_one_eq_mod, Nat.shiftRight_eq_div_pow] at h2
  have h3 : y.toInt = (y.toBitVec.toNat : Int) := by
    have := y.toBitVec.isLt
    have q : y.toInt = y.toBitVec.toInt := rfl
    rw [q, BitVec.toInt_eq_toNat_cond] at h0 ⊢
    split at h0 <;> split <;> omega
  rw [h3]
  omega
theorem own_neg (a : Int64) : (lcmpW a (0 : Int64) < 0 → a.toInt < 0) ∧ (¬ lcmpW a (0 : Int64) < 0 → 0 ≤ a.toInt) := by
  have e : (0 : Int64).toInt = 0 := by decide
  rw [lw_lt, Int64.lt_iff_toInt_lt, e]
  omega
theorem own_c25 (c : Int64) : 0 ≤ (c &&& 33554431).toInt ∧ (c &&& 33554431).toInt < 33554432 := by
  have h := c_maskL c 33554431 25 (by decide) (by decide)
  have e : ((2 ^ 25 : Nat) : Int) = 33554432 := by decide
  rw [e] at h
  omega

theorem own_d1_0 : decode prog_50_method_4_code 0 = .ok (.aload_n 0, 1) := by decide +kernel
theorem own_d1_1 : decode prog_50_method_4_code 1 = .ok (.iload_n 1, 1) := by decide +kernel
theorem own_d1_2 : decode prog_50_method_4_code 2 = .ok (.laload, 1) := by decide +kernel
theorem own_d1_3 : decode prog_50_method_4_code 3 = .ok (.lconst 0, 1) := by decide +kernel
theorem own_d1_4 : decode prog_50_method_4_code 4 = .ok (.lcmp, 1) := by decide +kernel
theorem own_d1_5 : decode prog_50_method_4_code 5 = .ok (.ifCond .ge 7, 3) := by decide +kernel
theorem own_d1_8 : decode prog_50_method_4_code 8 = .ok (.iconst 1, 1) := by decide +kernel
theorem own_d1_9 : decode prog_50_method_4_code 9 = .ok (.goto 4, 3) := by decide +kernel
theorem own_d1_12 : decode prog_50_method_4_code 12 = .ok (.iconst 0, 1) := by decide +kernel
theorem own_d1_13 : decode prog_50_method_4_code 13 = .ok (.istore_n 2, 1) := by decide +kernel
theorem own_d1_14 : decode prog_50_method_4_code 14 = .ok (.iload_n 2, 1) := by decide +kernel
theorem own_d1_15 : decode prog_50_method_4_code 15 = .ok (.ifCond .eq 20, 3) := by decide +kernel
theorem own_d1_18 : decode prog_50_method_4_code 18 = .ok (.aload_n 0, 1) := by decide +kernel
theorem own_d1_19 : decode prog_50_method_4_code 19 = .ok (.iload_n 1, 1) := by decide +kernel
theorem own_d1_20 : decode prog_50_method_4_code 20 = .ok (.laload, 1) := by decide +kernel
theorem own_d1_21 : decode prog_50_method_4_code 21 = .ok (.iconst 1, 1) := by decide +kernel
theorem own_d1_22 : decode prog_50_method_4_code 22 = .ok (.lshl, 1) := by decide +kernel
theorem own_d1_23 : decode prog_50_method_4_code 23 = .ok (.aload_n 0, 1) := by decide +kernel
theorem own_d1_24 : decode prog_50_method_4_code 24 = .ok (.iload_n 1, 1) := by decide +kernel
theorem own_d1_25 : decode prog_50_method_4_code 25 = .ok (.iconst 1, 1) := by decide +kernel
theorem own_d1_26 : decode prog_50_method_4_code 26 = .ok (.iadd, 1) := by decide +kernel
theorem own_d1_27 : decode prog_50_method_4_code 27 = .ok (.laload, 1) := by decide +kernel
theorem own_d1_28 : decode prog_50_method_4_code 28 = .ok (.bipush 63, 2) := by decide +kernel
theorem own_d1_30 : decode prog_50_method_4_code 30 = .ok (.lushr, 1) := by decide +kernel
theorem own_d1_31 : decode prog_50_method_4_code 31 = .ok (.lor, 1) := by decide +kernel
theorem own_d1_32 : decode prog_50_method_4_code 32 = .ok (.goto 12, 3) := by decide +kernel
theorem own_d1_35 : decode prog_50_method_4_code 35 = .ok (.aload_n 0, 1) := by decide +kernel
theorem own_d1_36 : decode prog_50_method_4_code 36 = .ok (.iload_n 1, 1) := by decide +kernel
theorem own_d1_37 : decode prog_50_method_4_code 37 = .ok (.laload, 1) := by decide +kernel
theorem own_d1_38 : decode prog_50_method_4_code 38 = .ok (.bipush 31, 2) := by decide +kernel
theorem own_d1_40 : decode prog_50_method_4_code 40 = .ok (.lushr, 1) := by decide +kernel
theorem own_d1_41 : decode prog_50_method_4_code 41 = .ok (.bipush 32, 2) := by decide +kernel
theorem own_d1_43 : decode prog_50_method_4_code 43 = .ok (.lshl, 1) := by decide +kernel
theorem own_d1_44 : decode prog_50_method_4_code 44 = .ok (.lstore_n 3, 1) := by decide +kernel
theorem own_d1_45 : decode prog_50_method_4_code 45 = .ok (.iload_n 2, 1) := by decide +kernel
theorem own_d1_46 : decode prog_50_method_4_code 46 = .ok (.ifCond .eq 24, 3) := by decide +kernel
theorem own_d1_49 : decode prog_50_method_4_code 49 = .ok (.aload_n 0, 1) := by decide +kernel
theorem own_d1_50 : decode prog_50_method_4_code 50 = .ok (.iload_n 1, 1) := by decide +kernel
theorem own_d1_51 : decode prog_50_method_4_code 51 = .ok (.iconst 1, 1) := by decide +kernel
theorem own_d1_52 : decode prog_50_method_4_code 52 = .ok (.iadd, 1) := by decide +kernel
theorem own_d1_53 : decode prog_50_method_4_code 53 = .ok (.laload, 1) := by decide +kernel
theorem own_d1_54 : decode prog_50_method_4_code 54 = .ok (.iconst 1, 1) := by decide +kernel
theorem own_d1_55 : decode prog_50_method_4_code 55 = .ok (.lshl, 1) := by decide +kernel
theorem own_d1_56 : decode prog_50_method_4_code 56 = .ok (.aload_n 0, 1) := by decide +kernel
theorem own_d1_57 : decode prog_50_method_4_code 57 = .ok (.iload_n 1, 1) := by decide +kernel
theorem own_d1_58 : decode prog_50_method_4_code 58 = .ok (.iconst 2, 1) := by decide +kernel
theorem own_d1_59 : decode prog_50_method_4_code 59 = .ok (.iadd, 1) := by decide +kernel
theorem own_d1_60 : decode prog_50_method_4_code 60 = .ok (.laload, 1) := by decide +kernel
theorem own_d1_61 : decode prog_50_method_4_code 61 = .ok (.bipush 24, 2) := by decide +kernel
theorem own_d1_63 : decode prog_50_method_4_code 63 = .ok (.lushr, 1) := by decide +kernel
theorem own_d1_64 : decode prog_50_method_4_code 64 = .ok (.lconst 1, 1) := by decide +kernel
theorem own_d1_65 : decode prog_50_method_4_code 65 = .ok (.land, 1) := by decide +kernel
theorem own_d1_66 : decode prog_50_method_4_code 66 = .ok (.lor, 1) := by decide +kernel
theorem own_d1_67 : decode prog_50_method_4_code 67 = .ok (.goto 4, 3) := by decide +kernel
theorem own_d1_70 : decode prog_50_method_4_code 70 = .ok (.lconst 0, 1) := by decide +kernel
theorem own_d1_71 : decode prog_50_method_4_code 71 = .ok (.lstore 5, 2) := by decide +kernel
theorem own_d1_73 : decode prog_50_method_4_code 73 = .ok (.iload_n 2, 1) := by decide +kernel
theorem own_d1_74 : decode prog_50_method_4_code 74 = .ok (.ifCond .eq 11, 3) := by decide +kernel
theorem own_d1_77 : decode prog_50_method_4_code 77 = .ok (.aload_n 0, 1) := by decide +kernel
theorem own_d1_78 : decode prog_50_method_4_code 78 = .ok (.iload_n 1, 1) := by decide +kernel
theorem own_d1_79 : decode prog_50_method_4_code 79 = .ok (.iconst 2, 1) := by decide +kernel
theorem own_d1_80 : decode prog_50_method_4_code 80 = .ok (.iadd, 1) := by decide +kernel
theorem own_d1_81 : decode prog_50_method_4_code 81 = .ok (.laload, 1) := by decide +kernel
theorem own_d1_82 : decode prog_50_method_4_code 82 = .ok (.goto 6, 3) := by decide +kernel
theorem own_d1_85 : decode prog_50_method_4_code 85 = .ok (.aload_n 0, 1) := by decide +kernel
theorem own_d1_86 : decode prog_50_method_4_code 86 = .ok (.iload_n 1, 1) := by decide +kernel
theorem own_d1_87 : decode prog_50_method_4_code 87 = .ok (.laload, 1) := by decide +kernel
theorem own_d1_88 : decode prog_50_method_4_code 88 = .ok (.lstore 7, 2) := by decide +kernel
theorem own_d1_90 : decode prog_50_method_4_code 90 = .ok (.iload_n 2, 1) := by decide +kernel
theorem own_d1_91 : decode prog_50_method_4_code 91 = .ok (.ifCond .eq 8, 3) := by decide +kernel
theorem own_d1_94 : decode prog_50_method_4_code 94 = .ok (.bipush 16, 2) := by decide +kernel
theorem own_d1_96 : decode prog_50_method_4_code 96 = .ok (.goto 4, 3) := by decide +kernel
theorem own_d1_99 : decode prog_50_method_4_code 99 = .ok (.iconst 4, 1) := by decide +kernel
theorem own_d1_100 : decode prog_50_method_4_code 100 = .ok (.newarray .byte, 2) := by decide +kernel
theorem own_d1_102 : decode prog_50_method_4_code 102 = .ok (.astore 9, 2) := by decide +kernel
theorem own_d1_104 : decode prog_50_method_4_code 104 = .ok (.iconst 0, 1) := by decide +kernel
theorem own_d1_105 : decode prog_50_method_4_code 105 = .ok (.istore 10, 2) := by decide +kernel
theorem own_d1_107 : decode prog_50_method_4_code 107 = .ok (.iload 10, 2) := by decide +kernel
theorem own_d1_109 : decode prog_50_method_4_code 109 = .ok (.aload 9, 2) := by decide +kernel
theorem own_d1_111 : decode prog_50_method_4_code 111 = .ok (.arraylength, 1) := by decide +kernel
theorem own_d1_112 : decode prog_50_method_4_code 112 = .ok (.if_icmp .ge 41, 3) := by decide +kernel
theorem own_d1_115 : decode prog_50_method_4_code 115 = .ok (.aload 9, 2) := by decide +kernel
theorem own_d1_117 : decode prog_50_method_4_code 117 = .ok (.iload 10, 2) := by decide +kernel
theorem own_d1_119 : decode prog_50_method_4_code 119 = .ok (.iload 10, 2) := by decide +kernel
theorem own_d1_121 : decode prog_50_method_4_code 121 = .ok (.bipush 8, 2) := by decide +kernel
theorem own_d1_123 : decode prog_50_method_4_code 123 = .ok (.if_icmp .ge 7, 3) := by decide +kernel
theorem own_d1_126 : decode prog_50_method_4_code 126 = .ok (.lload_n 3, 1) := by decide +kernel
theorem own_d1_127 : decode prog_50_method_4_code 127 = .ok (.goto 5, 3) := by decide +kernel
theorem own_d1_130 : decode prog_50_method_4_code 130 = .ok (.lload 5, 2) := by decide +kernel
theorem own_d1_132 : decode prog_50_method_4_code 132 = .ok (.bipush 7, 2) := by decide +kernel
theorem own_d1_134 : decode prog_50_method_4_code 134 = .ok (.iload 10, 2) := by decide +kernel
theorem own_d1_136 : decode prog_50_method_4_code 136 = .ok (.bipush 8, 2) := by decide +kernel
theorem own_d1_138 : decode prog_50_method_4_code 138 = .ok (.irem, 1) := by decide +kernel
theorem own_d1_139 : decode prog_50_method_4_code 139 = .ok (.isub, 1) := by decide +kernel
theorem own_d1_140 : decode prog_50_method_4_code 140 = .ok (.bipush 8, 2) := by decide +kernel
theorem own_d1_142 : decode prog_50_method_4_code 142 = .ok (.imul, 1) := by decide +kernel
theorem own_d1_143 : decode prog_50_method_4_code 143 = .ok (.lushr, 1) := by decide +kernel
theorem own_d1_144 : decode prog_50_method_4_code 144 = .ok (.l2i, 1) := by decide +kernel
theorem own_d1_145 : decode prog_50_method_4_code 145 = .ok (.i2b, 1) := by decide +kernel
theorem own_d1_146 : decode prog_50_method_4_code 146 = .ok (.bastore, 1) := by decide +kernel
theorem own_d1_147 : decode prog_50_method_4_code 147 = .ok (.iinc 10 1, 3) := by decide +kernel
theorem own_d1_150 : decode prog_50_method_4_code 150 = .ok (.goto (-43), 3) := by decide +kernel
theorem own_d1_153 : decode prog_50_method_4_code 153 = .ok (.new 8, 3) := by decide +kernel
theorem own_d1_156 : decode prog_50_method_4_code 156 = .ok (.dup, 1) := by decide +kernel
theorem own_d1_157 : decode prog_50_method_4_code 157 = .ok (.aload 9, 2) := by decide +kernel
theorem own_d1_159 : decode prog_50_method_4_code 159 = .ok (.lload 7, 2) := by decide +kernel
theorem own_d1_161 : decode prog_50_method_4_code 161 = .ok (.bipush 16, 2) := by decide +kernel
theorem own_d1_163 : decode prog_50_method_4_code 163 = .ok (.lushr, 1) := by decide +kernel
theorem own_d1_164 : decode prog_50_method_4_code 164 = .ok (.ldc2_w 93, 3) := by decide +kernel
theorem own_d1_167 : decode prog_50_method_4_code 167 = .ok (.land, 1) := by decide +kernel
theorem own_d1_168 : decode prog_50_method_4_code 168 = .ok (.l2i, 1) := by decide +kernel
theorem own_d1_169 : decode prog_50_method_4_code 169 = .ok (.lload 7, 2) := by decide +kernel
theorem own_d1_171 : decode prog_50_method_4_code 171 = .ok (.bipush 8, 2) := by decide +kernel
theorem own_d1_173 : decode prog_50_method_4_code 173 = .ok (.lushr, 1) := by decide +kernel
theorem own_d1_174 : decode prog_50_method_4_code 174 = .ok (.ldc2_w 93, 3) := by decide +kernel
theorem own_d1_177 : decode prog_50_method_4_code 177 = .ok (.land, 1) := by decide +kernel
theorem own_d1_178 : decode prog_50_method_4_code 178 = .ok (.l2i, 1) := by decide +kernel
theorem own_d1_179 : decode prog_50_method_4_code 179 = .ok (.lload 7, 2) := by decide +kernel
theorem own_d1_181 : decode prog_50_method_4_code 181 = .ok (.l2i, 1) := by decide +kernel
theorem own_d1_182 : decode prog_50_method_4_code 182 = .ok (.sipush 255, 3) := by decide +kernel
theorem own_d1_185 : decode prog_50_method_4_code 185 = .ok (.iand, 1) := by decide +kernel
theorem own_d1_186 : decode prog_50_method_4_code 186 = .ok (.invokespecial 61, 3) := by decide +kernel
theorem own_d1_189 : decode prog_50_method_4_code 189 = .ok (.areturn, 1) := by decide +kernel
theorem own_d2_0 : decode prog_50_method_1_code 0 = .ok (.aload_n 0, 1) := by decide +kernel
theorem own_d2_1 : decode prog_50_method_1_code 1 = .ok (.invokespecial 1, 3) := by decide +kernel
theorem own_d2_4 : decode prog_50_method_1_code 4 = .ok (.aload_n 0, 1) := by decide +kernel
theorem own_d2_5 : decode prog_50_method_1_code 5 = .ok (.aload_n 1, 1) := by decide +kernel
theorem own_d2_6 : decode prog_50_method_1_code 6 = .ok (.putfield 7, 3) := by decide +kernel
theorem own_d2_9 : decode prog_50_method_1_code 9 = .ok (.aload_n 0, 1) := by decide +kernel
theorem own_d2_10 : decode prog_50_method_1_code 10 = .ok (.iload_n 2, 1) := by decide +kernel
theorem own_d2_11 : decode prog_50_method_1_code 11 = .ok (.putfield 13, 3) := by decide +kernel
theorem own_d2_14 : decode prog_50_method_1_code 14 = .ok (.aload_n 0, 1) := by decide +kernel
theorem own_d2_15 : decode prog_50_method_1_code 15 = .ok (.iload_n 3, 1) := by decide +kernel
theorem own_d2_16 : decode prog_50_method_1_code 16 = .ok (.putfield 17, 3) := by decide +kernel
theorem own_d2_19 : decode prog_50_method_1_code 19 = .ok (.aload_n 0, 1) := by decide +kernel
theorem own_d2_20 : decode prog_50_method_1_code 20 = .ok (.iload 4, 2) := by decide +kernel
theorem own_d2_22 : decode prog_50_method_1_code 22 = .ok (.putfield 20, 3) := by decide +kernel
theorem own_d2_25 : decode prog_50_method_1_code 25 = .ok (.return_, 1) := by decide +kernel
theorem own_d4_0 : decode prog_50_method_6_code 0 = .ok (.lconst 0, 1) := by decide +kernel
theorem own_d4_1 : decode prog_50_method_6_code 1 = .ok (.lstore_n 3, 1) := by decide +kernel
theorem own_d4_2 : decode prog_50_method_6_code 2 = .ok (.lconst 0, 1) := by decide +kernel
theorem own_d4_3 : decode prog_50_method_6_code 3 = .ok (.lstore 5, 2) := by decide +kernel
theorem own_d4_5 : decode prog_50_method_6_code 5 = .ok (.iconst 0, 1) := by decide +kernel
theorem own_d4_6 : decode prog_50_method_6_code 6 = .ok (.istore 7, 2) := by decide +kernel
theorem own_d4_8 : decode prog_50_method_6_code 8 = .ok (.iload 7, 2) := by decide +kernel
theorem own_d4_10 : decode prog_50_method_6_code 10 = .ok (.aload_n 0, 1) := by decide +kernel
theorem own_d4_11 : decode prog_50_method_6_code 11 = .ok (.getfield 7, 3) := by decide +kernel
theorem own_d4_14 : decode prog_50_method_6_code 14 = .ok (.arraylength, 1) := by decide +kernel
theorem own_d4_15 : decode prog_50_method_6_code 15 = .ok (.if_icmp .ge 57, 3) := by decide +kernel
theorem own_d4_18 : decode prog_50_method_6_code 18 = .ok (.iload 7, 2) := by decide +kernel
theorem own_d4_20 : decode prog_50_method_6_code 20 = .ok (.bipush 8, 2) := by decide +kernel
theorem own_d4_22 : decode prog_50_method_6_code 22 = .ok (.if_icmp .ge 24, 3) := by decide +kernel
theorem own_d4_25 : decode prog_50_method_6_code 25 = .ok (.lload_n 3, 1) := by decide +kernel
theorem own_d4_26 : decode prog_50_method_6_code 26 = .ok (.bipush 8, 2) := by decide +kernel
theorem own_d4_28 : decode prog_50_method_6_code 28 = .ok (.lshl, 1) := by decide +kernel
theorem own_d4_29 : decode prog_50_method_6_code 29 = .ok (.aload_n 0, 1) := by decide +kernel
theorem own_d4_30 : decode prog_50_method_6_code 30 = .ok (.getfield 7, 3) := by decide +kernel
theorem own_d4_33 : decode prog_50_method_6_code 33 = .ok (.iload 7, 2) := by decide +kernel
theorem own_d4_35 : decode prog_50_method_6_code 35 = .ok (.baload, 1) := by decide +kernel
theorem own_d4_36 : decode prog_50_method_6_code 36 = .ok (.sipush 255, 3) := by decide +kernel
theorem own_d4_39 : decode prog_50_method_6_code 39 = .ok (.iand, 1) := by decide +kernel
theorem own_d4_40 : decode prog_50_method_6_code 40 = .ok (.i2l, 1) := by decide +kernel
theorem own_d4_41 : decode prog_50_method_6_code 41 = .ok (.lor, 1) := by decide +kernel
theorem own_d4_42 : decode prog_50_method_6_code 42 = .ok (.lstore_n 3, 1) := by decide +kernel
theorem own_d4_43 : decode prog_50_method_6_code 43 = .ok (.goto 23, 3) := by decide +kernel
theorem own_d4_46 : decode prog_50_method_6_code 46 = .ok (.lload 5, 2) := by decide +kernel
theorem own_d4_48 : decode prog_50_method_6_code 48 = .ok (.bipush 8, 2) := by decide +kernel
theorem own_d4_50 : decode prog_50_method_6_code 50 = .ok (.lshl, 1) := by decide +kernel
theorem own_d4_51 : decode prog_50_method_6_code 51 = .ok (.aload_n 0, 1) := by decide +kernel
theorem own_d4_52 : decode prog_50_method_6_code 52 = .ok (.getfield 7, 3) := by decide +kernel
theorem own_d4_55 : decode prog_50_method_6_code 55 = .ok (.iload 7, 2) := by decide +kernel
theorem own_d4_57 : decode prog_50_method_6_code 57 = .ok (.baload, 1) := by decide +kernel
theorem own_d4_58 : decode prog_50_method_6_code 58 = .ok (.sipush 255, 3) := by decide +kernel
theorem own_d4_61 : decode prog_50_method_6_code 61 = .ok (.iand, 1) := by decide +kernel
theorem own_d4_62 : decode prog_50_method_6_code 62 = .ok (.i2l, 1) := by decide +kernel
theorem own_d4_63 : decode prog_50_method_6_code 63 = .ok (.lor, 1) := by decide +kernel
theorem own_d4_64 : decode prog_50_method_6_code 64 = .ok (.lstore 5, 2) := by decide +kernel
theorem own_d4_66 : decode prog_50_method_6_code 66 = .ok (.iinc 7 1, 3) := by decide +kernel
theorem own_d4_69 : decode prog_50_method_6_code 69 = .ok (.goto (-61), 3) := by decide +kernel
theorem own_d4_72 : decode prog_50_method_6_code 72 = .ok (.aload_n 0, 1) := by decide +kernel
theorem own_d4_73 : decode prog_50_method_6_code 73 = .ok (.getfield 13, 3) := by decide +kernel
theorem own_d4_76 : decode prog_50_method_6_code 76 = .ok (.bipush 16, 2) := by decide +kernel
theorem own_d4_78 : decode prog_50_method_6_code 78 = .ok (.ishl, 1) := by decide +kernel
theorem own_d4_79 : decode prog_50_method_6_code 79 = .ok (.aload_n 0, 1) := by decide +kernel
theorem own_d4_80 : decode prog_50_method_6_code 80 = .ok (.getfield 17, 3) := by decide +kernel
theorem own_d4_83 : decode prog_50_method_6_code 83 = .ok (.bipush 8, 2) := by decide +kernel
theorem own_d4_85 : decode prog_50_method_6_code 85 = .ok (.ishl, 1) := by decide +kernel
theorem own_d4_86 : decode prog_50_method_6_code 86 = .ok (.ior, 1) := by decide +kernel
theorem own_d4_87 : decode prog_50_method_6_code 87 = .ok (.aload_n 0, 1) := by decide +kernel
theorem own_d4_88 : decode prog_50_method_6_code 88 = .ok (.getfield 20, 3) := by decide +kernel
theorem own_d4_91 : decode prog_50_method_6_code 91 = .ok (.ior, 1) := by decide +kernel
theorem own_d4_92 : decode prog_50_method_6_code 92 = .ok (.i2l, 1) := by decide +kernel
theorem own_d4_93 : decode prog_50_method_6_code 93 = .ok (.lstore 7, 2) := by decide +kernel
theorem own_d4_95 : decode prog_50_method_6_code 95 = .ok (.aload_n 0, 1) := by decide +kernel
theorem own_d4_96 : decode prog_50_method_6_code 96 = .ok (.invokevirtual 99, 3) := by decide +kernel
theorem own_d4_99 : decode prog_50_method_6_code 99 = .ok (.ifCond .eq 45, 3) := by decide +kernel
theorem own_d4_102 : decode prog_50_method_6_code 102 = .ok (.aload_n 1, 1) := by decide +kernel
theorem own_d4_103 : decode prog_50_method_6_code 103 = .ok (.iload_n 2, 1) := by decide +kernel
theorem own_d4_104 : decode prog_50_method_6_code 104 = .ok (.ldc2_w 102, 3) := by decide +kernel
theorem own_d4_107 : decode prog_50_method_6_code 107 = .ok (.lload_n 3, 1) := by decide +kernel
theorem own_d4_108 : decode prog_50_method_6_code 108 = .ok (.iconst 1, 1) := by decide +kernel
theorem own_d4_109 : decode prog_50_method_6_code 109 = .ok (.lushr, 1) := by decide +kernel
theorem own_d4_110 : decode prog_50_method_6_code 110 = .ok (.lor, 1) := by decide +kernel
theorem own_d4_111 : decode prog_50_method_6_code 111 = .ok (.lastore, 1) := by decide +kernel
theorem own_d4_112 : decode prog_50_method_6_code 112 = .ok (.aload_n 1, 1) := by decide +kernel
theorem own_d4_113 : decode prog_50_method_6_code 113 = .ok (.iload_n 2, 1) := by decide +kernel
theorem own_d4_114 : decode prog_50_method_6_code 114 = .ok (.iconst 1, 1) := by decide +kernel
theorem own_d4_115 : decode prog_50_method_6_code 115 = .ok (.iadd, 1) := by decide +kernel
theorem own_d4_116 : decode prog_50_method_6_code 116 = .ok (.lload_n 3, 1) := by decide +kernel
theorem own_d4_117 : decode prog_50_method_6_code 117 = .ok (.bipush 63, 2) := by decide +kernel
theorem own_d4_119 : decode prog_50_method_6_code 119 = .ok (.lshl, 1) := by decide +kernel
theorem own_d4_120 : decode prog_50_method_6_code 120 = .ok (.lload 5, 2) := by decide +kernel
theorem own_d4_122 : decode prog_50_method_6_code 122 = .ok (.iconst 1, 1) := by decide +kernel
theorem own_d4_123 : decode prog_50_method_6_code 123 = .ok (.lushr, 1) := by decide +kernel
theorem own_d4_124 : decode prog_50_method_6_code 124 = .ok (.lor, 1) := by decide +kernel
theorem own_d4_125 : decode prog_50_method_6_code 125 = .ok (.lastore, 1) := by decide +kernel
theorem own_d4_126 : decode prog_50_method_6_code 126 = .ok (.aload_n 1, 1) := by decide +kernel
theorem own_d4_127 : decode prog_50_method_6_code 127 = .ok (.iload_n 2, 1) := by decide +kernel
theorem own_d4_128 : decode prog_50_method_6_code 128 = .ok (.iconst 2, 1) := by decide +kernel
theorem own_d4_129 : decode prog_50_method_6_code 129 = .ok (.iadd, 1) := by decide +kernel
theorem own_d4_130 : decode prog_50_method_6_code 130 = .ok (.lload 5, 2) := by decide +kernel
theorem own_d4_132 : decode prog_50_method_6_code 132 = .ok (.lconst 1, 1) := by decide +kernel
theorem own_d4_133 : decode prog_50_method_6_code 133 = .ok (.land, 1) := by decide +kernel
theorem own_d4_134 : decode prog_50_method_6_code 134 = .ok (.bipush 24, 2) := by decide +kernel
theorem own_d4_136 : decode prog_50_method_6_code 136 = .ok (.lshl, 1) := by decide +kernel
theorem own_d4_137 : decode prog_50_method_6_code 137 = .ok (.lload 7, 2) := by decide +kernel
theorem own_d4_139 : decode prog_50_method_6_code 139 = .ok (.lor, 1) := by decide +kernel
theorem own_d4_140 : decode prog_50_method_6_code 140 = .ok (.lastore, 1) := by decide +kernel
theorem own_d4_141 : decode prog_50_method_6_code 141 = .ok (.goto 13, 3) := by decide +kernel
theorem own_d4_144 : decode prog_50_method_6_code 144 = .ok (.aload_n 1, 1) := by decide +kernel
theorem own_d4_145 : decode prog_50_method_6_code 145 = .ok (.iload_n 2, 1) := by decide +kernel
theorem own_d4_146 : decode prog_50_method_6_code 146 = .ok (.lload_n 3, 1) := by decide +kernel
theorem own_d4_147 : decode prog_50_method_6_code 147 = .ok (.bipush 31, 2) := by decide +kernel
theorem own_d4_149 : decode prog_50_method_6_code 149 = .ok (.lshl, 1) := by decide +kernel
theorem own_d4_150 : decode prog_50_method_6_code 150 = .ok (.lload 7, 2) := by decide +kernel
theorem own_d4_152 : decode prog_50_method_6_code 152 = .ok (.lor, 1) := by decide +kernel
theorem own_d4_153 : decode prog_50_method_6_code 153 = .ok (.lastore, 1) := by decide +kernel
theorem own_d4_154 : decode prog_50_method_6_code 154 = .ok (.return_, 1) := by decide +kernel
theorem own_d5_0 : decode prog_50_method_8_code 0 = .ok (.aload_n 0, 1) := by decide +kernel
theorem own_d5_1 : decode prog_50_method_8_code 1 = .ok (.getfield 7, 3) := by decide +kernel
theorem own_d5_4 : decode prog_50_method_8_code 4 = .ok (.arraylength, 1) := by decide +kernel
theorem own_d5_5 : decode prog_50_method_8_code 5 = .ok (.bipush 16, 2) := by decide +kernel
theorem own_d5_7 : decode prog_50_method_8_code 7 = .ok (.if_icmp .ne 7, 3) := by decide +kernel
theorem own_d5_10 : decode prog_50_method_8_code 10 = .ok (.iconst 1, 1) := by decide +kernel
theorem own_d5_11 : decode prog_50_method_8_code 11 = .ok (.goto 4, 3) := by decide +kernel
theorem own_d5_14 : decode prog_50_method_8_code 14 = .ok (.iconst 0, 1) := by decide +kernel
theorem own_d5_15 : decode prog_50_method_8_code 15 = .ok (.ireturn, 1) := by decide +kernel
theorem own_d6_0 : decode prog_50_method_7_code 0 = .ok (.aload_n 0, 1) := by decide +kernel
theorem own_d6_1 : decode prog_50_method_7_code 1 = .ok (.invokevirtual 99, 3) := by decide +kernel
theorem own_d6_4 : decode prog_50_method_7_code 4 = .ok (.ifCond .eq 7, 3) := by decide +kernel
theorem own_d6_7 : decode prog_50_method_7_code 7 = .ok (.iconst 3, 1) := by decide +kernel
theorem own_d6_8 : decode prog_50_method_7_code 8 = .ok (.goto 4, 3) := by decide +kernel
theorem own_d6_11 : decode prog_50_method_7_code 11 = .ok (.iconst 1, 1) := by decide +kernel
theorem own_d6_12 : decode prog_50_method_7_code 12 = .ok (.ireturn, 1) := by decide +kernel
theorem own_d7_0 : decode prog_50_method_15_code 0 = .ok (.aload_n 0, 1) := by decide +kernel
theorem own_d7_1 : decode prog_50_method_15_code 1 = .ok (.getfield 13, 3) := by decide +kernel
theorem own_d7_4 : decode prog_50_method_15_code 4 = .ok (.ireturn, 1) := by decide +kernel
theorem own_pn_0 : plainName "com/example/mynah/mynah/rpsl/PrefixRange" = true := by first | (simp [plainName, overriddenIn]; done) | decide +kernel
theorem own_ef_0 (m : MethodId) (x0 : Addr) (x1 : Addr) (x2 : Int32) (x3 : Int32) (x4 : Int32) : entryFrame m #[(.ref x0), (.ref x1), (.int x2), (.int x3), (.int x4)] 5 = mkF m 0 #[.val (.ref x0), .val (.ref x1), .val (.int x2), .val (.int x3), .val (.int x4)] [] := by first | (simp [entryFrame, mkF, argsToLocals, Value.category]; done) | rfl
theorem own_ef_1 (m : MethodId) (x0 : Addr) (x1 : Int32) : entryFrame m #[(.ref x0), (.int x1)] 11 = mkF m 0 #[.val (.ref x0), .val (.int x1), .unset, .unset, .unset, .unset, .unset, .unset, .unset, .unset, .unset] [] := by first | (simp [entryFrame, mkF, argsToLocals, Value.category]; done) | rfl
theorem own_pd_0 : parseMethodDescriptor "([BIII)V" = some ⟨[(.array .byte), .int, .int, .int], none⟩ := by decide +kernel
theorem own_ef_2 (m : MethodId) (x0 : Addr) : entryFrame m #[(.ref x0)] 1 = mkF m 0 #[.val (.ref x0)] [] := by first | (simp [entryFrame, mkF, argsToLocals, Value.category]; done) | rfl
theorem own_pd_1 : parseMethodDescriptor "()Z" = some ⟨[], some .boolean⟩ := by decide +kernel
theorem own_ef_3 (m : MethodId) (x0 : Addr) (x1 : Addr) (x2 : Int32) : entryFrame m #[(.ref x0), (.ref x1), (.int x2)] 9 = mkF m 0 #[.val (.ref x0), .val (.ref x1), .val (.int x2), .unset, .unset, .unset, .unset, .unset, .unset] [] := by first | (simp [entryFrame, mkF, argsToLocals, Value.category]; done) | rfl
theorem own_pn_1 : plainName "com/example/mynah/mynah/rpsl/PrefixRangeOfKeyPinLaw" = true := by first | (simp [plainName, overriddenIn]; done) | decide +kernel
theorem own_ef_4 (m : MethodId) (x0 : Int64) (x1 : Int64) (x2 : Int64) (x3 : Int64) (x4 : Int32) : entryFrame m #[(.long x0), (.long x1), (.long x2), (.long x3), (.int x4)] maxLocals = mkF m 0 #[.val (.long x0), .second, .val (.long x1), .second, .val (.long x2), .second, .val (.long x3), .second, .val (.int x4), .unset, .unset, .unset, .unset, .unset, .unset, .unset, .unset, .unset, .unset, .unset, .unset, .unset, .unset] [] := by first | (simp [entryFrame, mkF, argsToLocals, Value.category, maxLocals]; done) | rfl
theorem own_pd_2 : parseMethodDescriptor "([JI)Lcom/example/mynah/mynah/rpsl/PrefixRange;" = some ⟨[(.array .long), .int], some (.object "com/example/mynah/mynah/rpsl/PrefixRange")⟩ := by decide +kernel
theorem own_pd_3 : parseMethodDescriptor "([JI)V" = some ⟨[(.array .long), .int], none⟩ := by decide +kernel
theorem own_pd_4 : parseMethodDescriptor "()I" = some ⟨[], some .int⟩ := by decide +kernel
def Q_rmI (Z : State) (r0 : Addr) (r1 : Addr) (p2 : Int32) (p3 : Int32) (p4 : Int32) (h0 : Heap) (n0 : Nat) (v : Option Value) (h : Heap) (L : List Loc) : Prop := v = none ∧ Fr n0 L ∧ Keep h0 h [r0] ∧ Fld Z h r0 "com/example/mynah/mynah/rpsl/PrefixRange" "address" "[B" (.ref r1) ∧ Fld Z h r0 "com/example/mynah/mynah/rpsl/PrefixRange" "length" "I" (.int p2) ∧ Fld Z h r0 "com/example/mynah/mynah/rpsl/PrefixRange" "least" "I" (.int p3) ∧ Fld Z h r0 "com/example/mynah/mynah/rpsl/PrefixRange" "most" "I" (.int p4)
set_option maxRecDepth 65536 in
set_option maxHeartbeats 40000000 in
theorem rmI (l : Launch) (Z : State) (a0 : Array Value) (hw : ∀ d ∈ tables_1, d.before a0 Z = true) (ws : List Jvm.Cond) (r0 : Addr) (r1 : Addr) (p2 : Int32) (p3 : Int32) (p4 : Int32) (h0 : Heap) (n0 : Nat) (Z0 : n0 ≤ h0.size) (F0 : Fld Z h0 r0 "com/example/mynah/mynah/rpsl/PrefixRange" "address" "[B" .null) (F1 : Fld Z h0 r0 "com/example/mynah/mynah/rpsl/PrefixRange" "length" "I" (.int 0)) (F2 : Fld Z h0 r0 "com/example/mynah/mynah/rpsl/PrefixRange" "least" "I" (.int 0)) (F3 : Fld Z h0 r0 "com/example/mynah/mynah/rpsl/PrefixRange" "most" "I" (.int 0)) (E1 : Exa Z h0 r0 "com/example/mynah/mynah/rpsl/PrefixRange") (g_r0 : n0 ≤ r0) :
    MetFree l (⟨"com/example/mynah/mynah/rpsl/PrefixRange", "<init>", "([BIII)V"⟩ : MethodName) (head1 (Jvm.Cond.code (⟨"com/example/mynah/mynah/rpsl/PrefixRange", "<init>", "([BIII)V"⟩ : MethodName) prog_50_method_1_code 5 none :: ws) ({ frames := 1, cells := 0, slots := 0, locals := 12 } : Room)) (fun a U => a = #[(.ref r0), (.ref r1), (.int p2), (.int p3), (.int p4)] ∧ Z.Warmed39 U.vm ∧ U.heap = h0) (fun _ _ _ _ _ => True) (fun _ U o U' => ∃ v L, o = .returned v ∧ Q_rmI Z r0 r1 p2 p3 p4 h0 n0 v U'.heap L ∧ FrameEnd U o U' L ({ frames := 1, cells := 0, slots := 0, locals := 12 } : Room).cells ({ frames := 1, cells := 0, slots := 0, locals := 12 } : Room).slots) := by
  refine MetFree.of_bodySF (plainFor_of_name own_pn_0) hisR ?_
  intro p e s m args below meth c s₁ Bd hml0 hP hK
  obtain ⟨rfl, hZ, hh⟩ := hP
  have hx := Bd.exec
  have hby := Bd.bytes
  have hml : c.maxLocals = 5 := hml0
  have hown : s.vm.findClass "com/example/mynah/mynah/rpsl/PrefixRange" = some m.cls := findClass_of_methodNamed Bd.named
  have hnm := (name_of_methodNamed Bd.named Bd.method).1
  have X0 : Stand p l e ({ frames := 1, cells := 0, slots := 0, locals := 12 } : Room) s m #[(.ref r0), (.ref r1), (.int p2), (.int p3), (.int p4)] below meth c s₁ [] 0 0 := Stand.of_body Bd
  have e0 : s₁.heap = h0 := by rw [← hh, Bd.state]; rfl
  have N0 := Fr.nil n0
  have K0 : Keep h0 h0 [r0] := Keep.refl h0 _
  have pre0 : ∀ t, Steps p.tables e below (s₁.setTop (mkF m 0 #[.val (.ref r0), .val (.ref r1), .val (.int p2), .val (.int p3), .val (.int p4)] [])) t → Steps p.tables e below (s₁.setTop (entryFrame m #[(.ref r0), (.ref r1), (.int p2), (.int p3), (.int p4)] 5)) t := fun t k => castTop (own_ef_0 m r0 r1 p2 p3 p4) k
  obtain ⟨T1, X1, e1, st1⟩ := initO X0 hx hZ hown (hw _ (List.mem_of_getElem? (i := 15) rfl)) (hw _ (List.mem_of_getElem? (i := 16) rfl)) (hw _ (List.mem_of_getElem? (i := 17) rfl)) e0 (g := (mkF m 1 #[.val (.ref r0), .val (.ref r1), .val (.int p2), .val (.int p3), .val (.int p4)] [(.ref r0)])) rfl (by rw [hml]; rfl) rfl (hb hby own_d2_1) (by decide) (W := 0) (by show 2 * 0 + _ ≤ _; exact Nat.le_of_eq rfl) (by decide)
  obtain ⟨T2, h2, X2, e2, W2, st2⟩ := putF X1 hx hZ hown (host := "") (Or.inl (hw _ (List.mem_of_getElem? (i := 18) rfl))) Via.refl e1 F0 E1 (Or.inr ⟨(hw _ (List.mem_of_getElem? (i := 19) rfl)), rfl, hnm⟩) (hw _ (List.mem_of_getElem? (i := 10) rfl)) (ty := (.array .byte)) (by decide) rfl rfl (g := (mkF m 6 #[.val (.ref r0), .val (.ref r1), .val (.int p2), .val (.int p3), .val (.int p4)] [(.ref r1), (.ref r0)])) rfl rfl (hb hby own_d2_6)
  have f3 := F0.same W2
  have f4 := F1.other W2 (Or.inr (slot_ne (Or.inr (hw _ (List.mem_of_getElem? (i := 21) rfl))) (Or.inr (hw _ (List.mem_of_getElem? (i := 19) rfl))) (by decide) (t := .int) (t' := (.array .byte)) (by decide) (by decide)))
  have f5 := F2.other W2 (Or.inr (slot_ne (Or.inr (hw _ (List.mem_of_getElem? (i := 23) rfl))) (Or.inr (hw _ (List.mem_of_getElem? (i := 19) rfl))) (by decide) (t := .int) (t' := (.array .byte)) (by decide) (by decide)))
  have f6 := F3.other W2 (Or.inr (slot_ne (Or.inr (hw _ (List.mem_of_getElem? (i := 25) rfl))) (Or.inr (hw _ (List.mem_of_getElem? (i := 19) rfl))) (by decide) (t := .int) (t' := (.array .byte)) (by decide) (by decide)))
  have f7 := E1.wr W2
  have Z8 : n0 ≤ h2.size := Nat.le_trans Z0 (Keep.of_wr W2).1
  have K9 := K0.wr W2 (Or.inl (List.mem_of_getElem? (i := 0) rfl))
  have N2 := Fr.snoc X2 N0 g_r0
  obtain ⟨T10, h10, X10, e10, W10, st10⟩ := putF X2 hx hZ hown (host := "") (Or.inl (hw _ (List.mem_of_getElem? (i := 20) rfl))) Via.refl e2 f4 f7 (Or.inr ⟨(hw _ (List.mem_of_getElem? (i := 21) rfl)), rfl, hnm⟩) (hw _ (List.mem_of_getElem? (i := 10) rfl)) (ty := .int) (by decide) rfl rfl (g := (mkF m 11 #[.val (.ref r0), .val (.ref r1), .val (.int p2), .val (.int p3), .val (.int p4)] [(.int p2), (.ref r0)])) rfl rfl (hb hby own_d2_11)
  have f11 := f4.same W10
  have f12 := f5.other W10 (Or.inr (slot_ne (Or.inr (hw _ (List.mem_of_getElem? (i := 23) rfl))) (Or.inr (hw _ (List.mem_of_getElem? (i := 21) rfl))) (by decide) (t := .int) (t' := .int) (by decide) (by decide)))
  have f13 := f6.other W10 (Or.inr (slot_ne (Or.inr (hw _ (List.mem_of_getElem? (i := 25) rfl))) (Or.inr (hw _ (List.mem_of_getElem? (i := 21) rfl))) (by decide) (t := .int) (t' := .int) (by decide) (by decide)))
  have f14 := f7.wr W10
  have f15 := f3.other W10 (Or.inr (slot_ne (Or.inr (hw _ (List.mem_of_getElem? (i := 19) rfl))) (Or.inr (hw _ (List.mem_of_getElem? (i := 21) rfl))) (by decide) (t := (.array .byte)) (t' := .int) (by decide) (by decide)))
  have Z16 : n0 ≤ h10.size := Nat.le_trans Z8 (Keep.of_wr W10).1
  have K17 := K9.wr W10 (Or.inl (List.mem_of_getElem? (i := 0) rfl))
  have N10 := Fr.snoc X10 N2 g_r0
  obtain ⟨T18, h18, X18, e18, W18, st18⟩ := putF X10 hx hZ hown (host := "") (Or.inl (hw _ (List.mem_of_getElem? (i := 22) rfl))) Via.refl e10 f12 f14 (Or.inr ⟨(hw _ (List.mem_of_getElem? (i := 23) rfl)), rfl, hnm⟩) (hw _ (List.mem_of_getElem? (i := 10) rfl)) (ty := .int) (by decide) rfl rfl (g := (mkF m 16 #[.val (.ref r0), .val (.ref r1), .val (.int p2), .val (.int p3), .val (.int p4)] [(.int p3), (.ref r0)])) rfl rfl (hb hby own_d2_16)
  have f19 := f12.same W18
  have f20 := f13.other W18 (Or.inr (slot_ne (Or.inr (hw _ (List.mem_of_getElem? (i := 25) rfl))) (Or.inr (hw _ (List.mem_of_getElem? (i := 23) rfl))) (by decide) (t := .int) (t' := .int) (by decide) (by decide)))
  have f21 := f14.wr W18
  have f22 := f15.other W18 (Or.inr (slot_ne (Or.inr (hw _ (List.mem_of_getElem? (i := 19) rfl))) (Or.inr (hw _ (List.mem_of_getElem? (i := 23) rfl))) (by decide) (t := (.array .byte)) (t' := .int) (by decide) (by decide)))
  have f23 := f11.other W18 (Or.inr (slot_ne (Or.inr (hw _ (List.mem_of_getElem? (i := 21) rfl))) (Or.inr (hw _ (List.mem_of_getElem? (i := 23) rfl))) (by decide) (t := .int) (t' := .int) (by decide) (by decide)))
  have Z24 : n0 ≤ h18.size := Nat.le_trans Z16 (Keep.of_wr W18).1
  have K25 := K17.wr W18 (Or.inl (List.mem_of_getElem? (i := 0) rfl))
  have N18 := Fr.snoc X18 N10 g_r0
  obtain ⟨T26, h26, X26, e26, W26, st26⟩ := putF X18 hx hZ hown (host := "") (Or.inl (hw _ (List.mem_of_getElem? (i := 24) rfl))) Via.refl e18 f20 f21 (Or.inr ⟨(hw _ (List.mem_of_getElem? (i := 25) rfl)), rfl, hnm⟩) (hw _ (List.mem_of_getElem? (i := 10) rfl)) (ty := .int) (by decide) rfl rfl (g := (mkF m 22 #[.val (.ref r0), .val (.ref r1), .val (.int p2), .val (.int p3), .val (.int p4)] [(.int p4), (.ref r0)])) rfl rfl (hb hby own_d2_22)
  have f27 := f20.same W26
  have f28 := f21.wr W26
  have f29 := f22.other W26 (Or.inr (slot_ne (Or.inr (hw _ (List.mem_of_getElem? (i := 19) rfl))) (Or.inr (hw _ (List.mem_of_getElem? (i := 25) rfl))) (by decide) (t := (.array .byte)) (t' := .int) (by decide) (by decide)))
  have f30 := f23.other W26 (Or.inr (slot_ne (Or.inr (hw _ (List.mem_of_getElem? (i := 21) rfl))) (Or.inr (hw _ (List.mem_of_getElem? (i := 25) rfl))) (by decide) (t := .int) (t' := .int) (by decide) (by decide)))
  have f31 := f19.other W26 (Or.inr (slot_ne (Or.inr (hw _ (List.mem_of_getElem? (i := 23) rfl))) (Or.inr (hw _ (List.mem_of_getElem? (i := 25) rfl))) (by decide) (t := .int) (t' := .int) (by decide) (by decide)))
  have Z32 : n0 ≤ h26.size := Nat.le_trans Z24 (Keep.of_wr W26).1
  have K33 := K25.wr W26 (Or.inl (List.mem_of_getElem? (i := 0) rfl))
  have N26 := Fr.snoc X26 N18 g_r0
  have k34 : ∀ t, Steps p.tables e below (T26.setTop (mkF m 25 #[.val (.ref r0), .val (.ref r1), .val (.int p2), .val (.int p3), .val (.int p4)] [])) t → Steps p.tables e below (s₁.setTop (mkF m 0 #[.val (.ref r0), .val (.ref r1), .val (.int p2), .val (.int p3), .val (.int p4)] [])) t := by
    intro t h
    show Steps p.tables e below (s₁.setTop (mkF m 0 #[.val (.ref r0), .val (.ref r1), .val (.int p2), .val (.int p3), .val (.int p4)] [])) _
    refine XS.aloadN X0.here hx rfl (hb hby own_d2_0) rfl rfl ?_
    show Steps p.tables e below (s₁.setTop (mkF m 1 #[.val (.ref r0), .val (.ref r1), .val (.int p2), .val (.int p3), .val (.int p4)] [(.ref r0)])) _
    refine st1 _ ?_
    show Steps p.tables e below (T1.setTop (mkF m 4 #[.val (.ref r0), .val (.ref r1), .val (.int p2), .val (.int p3), .val (.int p4)] [])) _
    refine XS.aloadN X1.here hx rfl (hb hby own_d2_4) rfl rfl ?_
    show Steps p.tables e below (T1.setTop (mkF m 5 #[.val (.ref r0), .val (.ref r1), .val (.int p2), .val (.int p3), .val (.int p4)] [(.ref r0)])) _
    refine XS.aloadN X1.here hx rfl (hb hby own_d2_5) rfl rfl ?_
    show Steps p.tables e below (T1.setTop (mkF m 6 #[.val (.ref r0), .val (.ref r1), .val (.int p2), .val (.int p3), .val (.int p4)] [(.ref r1), (.ref r0)])) _
    refine st2 _ ?_
    show Steps p.tables e below (T2.setTop (mkF m 9 #[.val (.ref r0), .val (.ref r1), .val (.int p2), .val (.int p3), .val (.int p4)] [])) _
    refine XS.aloadN X2.here hx rfl (hb hby own_d2_9) rfl rfl ?_
    show Steps p.tables e below (T2.setTop (mkF m 10 #[.val (.ref r0), .val (.ref r1), .val (.int p2), .val (.int p3), .val (.int p4)] [(.ref r0)])) _
    refine XS.iloadN X2.here hx rfl (hb hby own_d2_10) rfl ?_
    show Steps p.tables e below (T2.setTop (mkF m 11 #[.val (.ref r0), .val (.ref r1), .val (.int p2), .val (.int p3), .val (.int p4)] [(.int p2), (.ref r0)])) _
    refine st10 _ ?_
    show Steps p.tables e below (T10.setTop (mkF m 14 #[.val (.ref r0), .val (.ref r1), .val (.int p2), .val (.int p3), .val (.int p4)] [])) _
    refine XS.aloadN X10.here hx rfl (hb hby own_d2_14) rfl rfl ?_
    show Steps p.tables e below (T10.setTop (mkF m 15 #[.val (.ref r0), .val (.ref r1), .val (.int p2), .val (.int p3), .val (.int p4)] [(.ref r0)])) _
    refine XS.iloadN X10.here hx rfl (hb hby own_d2_15) rfl ?_
    show Steps p.tables e below (T10.setTop (mkF m 16 #[.val (.ref r0), .val (.ref r1), .val (.int p2), .val (.int p3), .val (.int p4)] [(.int p3), (.ref r0)])) _
    refine st18 _ ?_
    show Steps p.tables e below (T18.setTop (mkF m 19 #[.val (.ref r0), .val (.ref r1), .val (.int p2), .val (.int p3), .val (.int p4)] [])) _
    refine XS.aloadN X18.here hx rfl (hb hby own_d2_19) rfl rfl ?_
    show Steps p.tables e below (T18.setTop (mkF m 20 #[.val (.ref r0), .val (.ref r1), .val (.int p2), .val (.int p3), .val (.int p4)] [(.ref r0)])) _
    refine XS.iload X18.here hx rfl (hb hby own_d2_20) rfl ?_
    show Steps p.tables e below (T18.setTop (mkF m 22 #[.val (.ref r0), .val (.ref r1), .val (.int p2), .val (.int p3), .val (.int p4)] [(.int p4), (.ref r0)])) _
    refine st26 _ ?_
    exact h
  obtain ⟨fs, hr, hrun, hended, hW, hsame⟩ := X26.leave (v := none) (fun _ => rfl) Bd.notSynchronized
  refine ⟨_, _, pre0 _ (k34 _ ?_), hrun, hended, _, _, rfl, ?_, ⟨_, rfl⟩, hW, hsame.mono (by decide) (by decide)⟩
  · exact X26.returnOut hx Bd.returns (hb hby own_d2_25) hr
  · show Q_rmI Z _ _ _ _ _ h0 n0 _ T26.heap _
    rw [e26]
    exact ⟨rfl, N26, K33, f29, f30, f31, f27⟩
def Q_rmK6 (Z : State) (r0 : Addr) (p1 : Int32) (n : Nat) (fk : Nat → Int64) (aa : Int64) (bb : Int64) (cc : Int64) (h0 : Heap) (n0 : Nat) (v : Option Value) (h : Heap) (L : List Loc) : Prop := ∃ (b ba : Addr), v = some (.ref b) ∧ Fr n0 L ∧ Keep h0 h [] ∧ Exa Z h b "com/example/mynah/mynah/rpsl/PrefixRange" ∧ Fld Z h b "com/example/mynah/mynah/rpsl/PrefixRange" "address" "[B" (.ref ba) ∧ own_BA Z h ba 16 (own_f (own_hi6 aa bb) (own_lo6 bb cc)) ∧ Fld Z h b "com/example/mynah/mynah/rpsl/PrefixRange" "length" "I" (.int (own_len cc)) ∧ Fld Z h b "com/example/mynah/mynah/rpsl/PrefixRange" "least" "I" (.int (own_lea cc)) ∧ Fld Z h b "com/example/mynah/mynah/rpsl/PrefixRange" "most" "I" (.int (own_mos cc))
set_option maxRecDepth 65536 in
set_option maxHeartbeats 40000000 in
theorem rmK6 (l : Launch) (Z : State) (a0 : Array Value) (hw : ∀ d ∈ tables_1, d.before a0 Z = true) (ws : List Jvm.Cond) (r0 : Addr) (p1 : Int32) (n : Nat) (fk : Nat → Int64) (aa : Int64) (bb : Int64) (cc : Int64) (h0 : Heap) (n0 : Nat) (Z0 : n0 ≤ h0.size) (A1 : own_LA Z h0 r0 5 fk) (hp1 : p1 = Int32.ofNat n) (hn : n < 3) (hka : fk n = aa) (hkb : fk (n + 1) = bb) (hkc : fk (n + 2) = cc) (hs : lcmpW aa (0 : Int64) < 0) :
    MetFree l (⟨"com/example/mynah/mynah/rpsl/PrefixRange", "ofKey", "([JI)Lcom/example/mynah/mynah/rpsl/PrefixRange;"⟩ : MethodName) (head1 (Jvm.Cond.code (⟨"com/example/mynah/mynah/rpsl/PrefixRange", "ofKey", "([JI)Lcom/example/mynah/mynah/rpsl/PrefixRange;"⟩ : MethodName) prog_50_method_4_code 11 (some (.object "com/example/mynah/mynah/rpsl/PrefixRange")) :: ws) ({ frames := 2, cells := 2, slots := 20, locals := 29 } : Room)) (fun a U => a = #[(.ref r0), (.int p1)] ∧ Z.Warmed39 U.vm ∧ U.heap = h0) (fun _ _ _ _ _ => True) (fun _ U o U' => ∃ v L, o = .returned v ∧ Q_rmK6 Z r0 p1 n fk aa bb cc h0 n0 v U'.heap L ∧ FrameEnd U o U' L ({ frames := 2, cells := 2, slots := 20, locals := 29 } : Room).cells ({ frames := 2, cells := 2, slots := 20, locals := 29 } : Room).slots) := by
  refine MetFree.of_bodySF (plainFor_of_name own_pn_0) hisR ?_
  intro p e s m args below meth c s₁ Bd hml0 hP hK
  obtain ⟨rfl, hZ, hh⟩ := hP
  have hx := Bd.exec
  have hby := Bd.bytes
  have hml : c.maxLocals = 11 := hml0
  have hown : s.vm.findClass "com/example/mynah/mynah/rpsl/PrefixRange" = some m.cls := findClass_of_methodNamed Bd.named
  have hnm := (name_of_methodNamed Bd.named Bd.method).1
  have X0 : Stand p l e ({ frames := 2, cells := 2, slots := 20, locals := 29 } : Room) s m #[(.ref r0), (.int p1)] below meth c s₁ [] 0 0 := Stand.of_body Bd
  have e0 : s₁.heap = h0 := by rw [← hh, Bd.state]; rfl
  have N0 := Fr.nil n0
  have K0 : Keep h0 h0 [] := Keep.refl h0 _
  have pre0 : ∀ t, Steps p.tables e below (s₁.setTop (mkF m 0 #[.val (.ref r0), .val (.int p1), .unset, .unset, .unset, .unset, .unset, .unset, .unset, .unset, .unset] [])) t → Steps p.tables e below (s₁.setTop (entryFrame m #[(.ref r0), (.int p1)] 11)) t := fun t k => castTop (own_ef_1 m r0 p1) k
  obtain ⟨cl35, Ar35, hin35, hat35⟩ := own_LA.at (i := n) (j := p1) A1 hp1 (by omega) (by decide)
  have k36 : ∀ t, Steps p.tables e below (s₁.setTop (mkF m 5 #[.val (.ref r0), .val (.int p1), .unset, .unset, .unset, .unset, .unset, .unset, .unset, .unset, .unset] [(.int (lcmpW aa (0 : Int64)))])) t → Steps p.tables e below (s₁.setTop (mkF m 0 #[.val (.ref r0), .val (.int p1), .unset, .unset, .unset, .unset, .unset, .unset, .unset, .unset, .unset] [])) t := by
    intro t h
    show Steps p.tables e below (s₁.setTop (mkF m 0 #[.val (.ref r0), .val (.int p1), .unset, .unset, .unset, .unset, .unset, .unset, .unset, .unset, .unset] [])) _
    refine XS.aloadN X0.here hx rfl (hb hby own_d1_0) rfl rfl ?_
    show Steps p.tables e below (s₁.setTop (mkF m 1 #[.val (.ref r0), .val (.int p1), .unset, .unset, .unset, .unset, .unset, .unset, .unset, .unset, .unset] [(.ref r0)])) _
    refine XS.iloadN X0.here hx rfl (hb hby own_d1_1) rfl ?_
    show Steps p.tables e below (s₁.setTop (mkF m 2 #[.val (.ref r0), .val (.int p1), .unset, .unset, .unset, .unset, .unset, .unset, .unset, .unset, .unset] [(.int p1), (.ref r0)])) _
    refine X0.laload hx (j := p1) (v := (.long aa)) (by rw [e0]; exact Ar35.1) (State.isArrayOf_alike hZ.alike Ar35.2.1) Ar35.2.2 hin35 (by rw [← hka]; exact hat35) (g := (mkF m 2 #[.val (.ref r0), .val (.int p1), .unset, .unset, .unset, .unset, .unset, .unset, .unset, .unset, .unset] [(.int p1), (.ref r0)])) rfl rfl (hb hby own_d1_2) _ ?_
    show Steps p.tables e below (s₁.setTop (mkF m 3 #[.val (.ref r0), .val (.int p1), .unset, .unset, .unset, .unset, .unset, .unset, .unset, .unset, .unset] [(.long aa)])) _
    refine XS.lconst X0.here hx rfl (hb hby own_d1_3) ?_
    show Steps p.tables e below (s₁.setTop (mkF m 4 #[.val (.ref r0), .val (.int p1), .unset, .unset, .unset, .unset, .unset, .unset, .unset, .unset, .unset] [(.long (0 : Int64)), (.long aa)])) _
    refine XS.lcmp X0.here hx rfl (hb hby own_d1_4) rfl ?_
    exact h
  have b5_37 : (lcmpW aa (0 : Int64)) < (0 : Int32) := hs
  have k38 : ∀ t, Steps p.tables e below (s₁.setTop (mkF m 15 #[.val (.ref r0), .val (.int p1), .val (.int (1 : Int32)), .unset, .unset, .unset, .unset, .unset, .unset, .unset, .unset] [(.int (1 : Int32))])) t → Steps p.tables e below (s₁.setTop (mkF m 0 #[.val (.ref r0), .val (.int p1), .unset, .unset, .unset, .unset, .unset, .unset, .unset, .unset, .unset] [])) t := by
    intro t h
    refine k36 t ?_
    show Steps p.tables e below (s₁.setTop (mkF m 5 #[.val (.ref r0), .val (.int p1), .unset, .unset, .unset, .unset, .unset, .unset, .unset, .unset, .unset] [(.int (lcmpW aa (0 : Int64)))])) _
    refine XS.ifNo X0.here hx rfl (hb hby own_d1_5) rfl ((if0 _ _).trans (tlt b5_37).2.1) ?_
    show Steps p.tables e below (s₁.setTop (mkF m 8 #[.val (.ref r0), .val (.int p1), .unset, .unset, .unset, .unset, .unset, .unset, .unset, .unset, .unset] [])) _
    refine XS.iconst X0.here hx rfl (hb hby own_d1_8) ?_
    show Steps p.tables e below (s₁.setTop (mkF m 9 #[.val (.ref r0), .val (.int p1), .unset, .unset, .unset, .unset, .unset, .unset, .unset, .unset, .unset] [(.int (1 : Int32))])) _
    refine XS.goto X0.here hx rfl (pc0 := 9) (pc' := 13) rfl (hb hby own_d1_9) (by decide) (by decide) ?_
    show Steps p.tables e below (s₁.setTop (mkF m 13 #[.val (.ref r0), .val (.int p1), .unset, .unset, .unset, .unset, .unset, .unset, .unset, .unset, .unset] [(.int (1 : Int32))])) _
    refine XS.istoreN X0.here hx rfl (hb hby own_d1_13) rfl (l' := #[.val (.ref r0), .val (.int p1), .val (.int (1 : Int32)), .unset, .unset, .unset, .unset, .unset, .unset, .unset, .unset]) rfl ?_
    show Steps p.tables e below (s₁.setTop (mkF m 14 #[.val (.ref r0), .val (.int p1), .val (.int (1 : Int32)), .unset, .unset, .unset, .unset, .unset, .unset, .unset, .unset] [])) _
    refine XS.iloadN X0.here hx rfl (hb hby own_d1_14) rfl ?_
    exact h
  obtain ⟨cl39, Ar39, hin39, hat39⟩ := own_LA.at (i := n) (j := p1) A1 hp1 (by omega) (by decide)
  obtain ⟨cl40, Ar40, hin40, hat40⟩ := own_LA.at (i := (n + 1)) (j := (p1 + (1 : Int32))) A1 (by rw [hp1]; exact own_inc n) (by omega) (by decide)
  have k41 : ∀ t, Steps p.tables e below (s₁.setTop (mkF m 45 #[.val (.ref r0), .val (.int p1), .val (.int (1 : Int32)), .val (.long ((aa <<< ((1 : Int32) &&& 0x3f).toInt64) ||| ((bb.toUInt64 >>> ((63 : Int32) &&& 0x3f).toInt64.toUInt64).toInt64))), .second, .unset, .unset, .unset, .unset, .unset, .unset] [])) t → Steps p.tables e below (s₁.setTop (mkF m 0 #[.val (.ref r0), .val (.int p1), .unset, .unset, .unset, .unset, .unset, .unset, .unset, .unset, .unset] [])) t := by
    intro t h
    refine k38 t ?_
    show Steps p.tables e below (s₁.setTop (mkF m 15 #[.val (.ref r0), .val (.int p1), .val (.int (1 : Int32)), .unset, .unset, .unset, .unset, .unset, .unset, .unset, .unset] [(.int (1 : Int32))])) _
    refine XS.ifNo X0.here hx rfl (hb hby own_d1_15) rfl ((if0 _ _).trans (feq (by decide : ¬ ((1 : Int32) = (0 : Int32)))).1) ?_
    show Steps p.tables e below (s₁.setTop (mkF m 18 #[.val (.ref r0), .val (.int p1), .val (.int (1 : Int32)), .unset, .unset, .unset, .unset, .unset, .unset, .unset, .unset] [])) _
    refine XS.aloadN X0.here hx rfl (hb hby own_d1_18) rfl rfl ?_
    show Steps p.tables e below (s₁.setTop (mkF m 19 #[.val (.ref r0), .val (.int p1), .val (.int (1 : Int32)), .unset, .unset, .unset, .unset, .unset, .unset, .unset, .unset] [(.ref r0)])) _
    refine XS.iloadN X0.here hx rfl (hb hby own_d1_19) rfl ?_
    show Steps p.tables e below (s₁.setTop (mkF m 20 #[.val (.ref r0), .val (.int p1), .val (.int (1 : Int32)), .unset, .unset, .unset, .unset, .unset, .unset, .unset, .unset] [(.int p1), (.ref r0)])) _
    refine X0.laload hx (j := p1) (v := (.long aa)) (by rw [e0]; exact Ar39.1) (State.isArrayOf_alike hZ.alike Ar39.2.1) Ar39.2.2 hin39 (by rw [← hka]; exact hat39) (g := (mkF m 20 #[.val (.ref r0), .val (.int p1), .val (.int (1 : Int32)), .unset, .unset, .unset, .unset, .unset, .unset, .unset, .unset] [(.int p1), (.ref r0)])) rfl rfl (hb hby own_d1_20) _ ?_
    show Steps p.tables e below (s₁.setTop (mkF m 21 #[.val (.ref r0), .val (.int p1), .val (.int (1 : Int32)), .unset, .unset, .unset, .unset, .unset, .unset, .unset, .unset] [(.long aa)])) _
    refine XS.iconst X0.here hx rfl (hb hby own_d1_21) ?_
    show Steps p.tables e below (s₁.setTop (mkF m 22 #[.val (.ref r0), .val (.int p1), .val (.int (1 : Int32)), .unset, .unset, .unset, .unset, .unset, .unset, .unset, .unset] [(.int (1 : Int32)), (.long aa)])) _
    refine XS.lshl X0.here hx rfl (hb hby own_d1_22) rfl ?_
    show Steps p.tables e below (s₁.setTop (mkF m 23 #[.val (.ref r0), .val (.int p1), .val (.int (1 : Int32)), .unset, .unset, .unset, .unset, .unset, .unset, .unset, .unset] [(.long (aa <<< ((1 : Int32) &&& 0x3f).toInt64))])) _
    refine XS.aloadN X0.here hx rfl (hb hby own_d1_23) rfl rfl ?_
    show Steps p.tables e below (s₁.setTop (mkF m 24 #[.val (.ref r0), .val (.int p1), .val (.int (1 : Int32)), .unset, .unset, .unset, .unset, .unset, .unset, .unset, .unset] [(.ref r0), (.long (aa <<< ((1 : Int32) &&& 0x3f).toInt64))])) _
    refine XS.iloadN X0.here hx rfl (hb hby own_d1_24) rfl ?_
    show Steps p.tables e below (s₁.setTop (mkF m 25 #[.val (.ref r0), .val (.int p1), .val (.int (1 : Int32)), .unset, .unset, .unset, .unset, .unset, .unset, .unset, .unset] [(.int p1), (.ref r0), (.long (aa <<< ((1 : Int32) &&& 0x3f).toInt64))])) _
    refine XS.iconst X0.here hx rfl (hb hby own_d1_25) ?_
    show Steps p.tables e below (s₁.setTop (mkF m 26 #[.val (.ref r0), .val (.int p1), .val (.int (1 : Int32)), .unset, .unset, .unset, .unset, .unset, .unset, .unset, .unset] [(.int (1 : Int32)), (.int p1), (.ref r0), (.long (aa <<< ((1 : Int32) &&& 0x3f).toInt64))])) _
    refine XS.iadd X0.here hx rfl (hb hby own_d1_26) rfl ?_
    show Steps p.tables e below (s₁.setTop (mkF m 27 #[.val (.ref r0), .val (.int p1), .val (.int (1 : Int32)), .unset, .unset, .unset, .unset, .unset, .unset, .unset, .unset] [(.int (p1 + (1 : Int32))), (.ref r0), (.long (aa <<< ((1 : Int32) &&& 0x3f).toInt64))])) _
    refine X0.laload hx (j := (p1 + (1 : Int32))) (v := (.long bb)) (by rw [e0]; exact Ar40.1) (State.isArrayOf_alike hZ.alike Ar40.2.1) Ar40.2.2 hin40 (by rw [← hkb]; exact hat40) (g := (mkF m 27 #[.val (.ref r0), .val (.int p1), .val (.int (1 : Int32)), .unset, .unset, .unset, .unset, .unset, .unset, .unset, .unset] [(.int (p1 + (1 : Int32))), (.ref r0), (.long (aa <<< ((1 : Int32) &&& 0x3f).toInt64))])) rfl rfl (hb hby own_d1_27) _ ?_
    show Steps p.tables e below (s₁.setTop (mkF m 28 #[.val (.ref r0), .val (.int p1), .val (.int (1 : Int32)), .unset, .unset, .unset, .unset, .unset, .unset, .unset, .unset] [(.long bb), (.long (aa <<< ((1 : Int32) &&& 0x3f).toInt64))])) _
    refine XS.bipush X0.here hx rfl (hb hby own_d1_28) ?_
    show Steps p.tables e below (s₁.setTop (mkF m 30 #[.val (.ref r0), .val (.int p1), .val (.int (1 : Int32)), .unset, .unset, .unset, .unset, .unset, .unset, .unset, .unset] [(.int (63 : Int32)), (.long bb), (.long (aa <<< ((1 : Int32) &&& 0x3f).toInt64))])) _
    refine XS.lushr X0.here hx rfl (hb hby own_d1_30) rfl ?_
    show Steps p.tables e below (s₁.setTop (mkF m 31 #[.val (.ref r0), .val (.int p1), .val (.int (1 : Int32)), .unset, .unset, .unset, .unset, .unset, .unset, .unset, .unset] [(.long ((bb.toUInt64 >>> ((63 : Int32) &&& 0x3f).toInt64.toUInt64).toInt64)), (.long (aa <<< ((1 : Int32) &&& 0x3f).toInt64))])) _
    refine XS.lor X0.here hx rfl (hb hby own_d1_31) rfl ?_
    show Steps p.tables e below (s₁.setTop (mkF m 32 #[.val (.ref r0), .val (.int p1), .val (.int (1 : Int32)), .unset, .unset, .unset, .unset, .unset, .unset, .unset, .unset] [(.long ((aa <<< ((1 : Int32) &&& 0x3f).toInt64) ||| ((bb.toUInt64 >>> ((63 : Int32) &&& 0x3f).toInt64.toUInt64).toInt64)))])) _
    refine XS.goto X0.here hx rfl (pc0 := 32) (pc' := 44) rfl (hb hby own_d1_32) (by decide) (by decide) ?_
    show Steps p.tables e below (s₁.setTop (mkF m 44 #[.val (.ref r0), .val (.int p1), .val (.int (1 : Int32)), .unset, .unset, .unset, .unset, .unset, .unset, .unset, .unset] [(.long ((aa <<< ((1 : Int32) &&& 0x3f).toInt64) ||| ((bb.toUInt64 >>> ((63 : Int32) &&& 0x3f).toInt64.toUInt64).toInt64)))])) _
    refine XS.lstoreN X0.here hx rfl (hb hby own_d1_44) rfl (l' := #[.val (.ref r0), .val (.int p1), .val (.int (1 : Int32)), .val (.long ((aa <<< ((1 : Int32) &&& 0x3f).toInt64) ||| ((bb.toUInt64 >>> ((63 : Int32) &&& 0x3f).toInt64.toUInt64).toInt64))), .second, .unset, .unset, .unset, .unset, .unset, .unset]) rfl ?_
    exact h
  have k42 : ∀ t, Steps p.tables e below (s₁.setTop (mkF m 45 #[.val (.ref r0), .val (.int p1), .val (.int (1 : Int32)), .val (.long (own_hi6 aa bb)), .second, .unset, .unset, .unset, .unset, .unset, .unset] [])) t → Steps p.tables e below (s₁.setTop (mkF m 0 #[.val (.ref r0), .val (.int p1), .unset, .unset, .unset, .unset, .unset, .unset, .unset, .unset, .unset] [])) t := k41
  have k43 : ∀ t, Steps p.tables e below (s₁.setTop (mkF m 46 #[.val (.ref r0), .val (.int p1), .val (.int (1 : Int32)), .val (.long (own_hi6 aa bb)), .second, .unset, .unset, .unset, .unset, .unset, .unset] [(.int (1 : Int32))])) t → Steps p.tables e below (s₁.setTop (mkF m 0 #[.val (.ref r0), .val (.int p1), .unset, .unset, .unset, .unset, .unset, .unset, .unset, .unset, .unset] [])) t := by
    intro t h
    refine k42 t ?_
    show Steps p.tables e below (s₁.setTop (mkF m 45 #[.val (.ref r0), .val (.int p1), .val (.int (1 : Int32)), .val (.long (own_hi6 aa bb)), .second, .unset, .unset, .unset, .unset, .unset, .unset] [])) _
    refine XS.iloadN X0.here hx rfl (hb hby own_d1_45) rfl ?_
    exact h
  obtain ⟨cl44, Ar44, hin44, hat44⟩ := own_LA.at (i := (n + 1)) (j := (p1 + (1 : Int32))) A1 (by rw [hp1]; exact own_inc n) (by omega) (by decide)
  obtain ⟨cl45, Ar45, hin45, hat45⟩ := own_LA.at (i := (n + 2)) (j := (p1 + (2 : Int32))) A1 (by rw [hp1]; exact own_add2 n) (by omega) (by decide)
  have k46 : ∀ t, Steps p.tables e below (s₁.setTop (mkF m 73 #[.val (.ref r0), .val (.int p1), .val (.int (1 : Int32)), .val (.long (own_hi6 aa bb)), .second, .val (.long ((bb <<< ((1 : Int32) &&& 0x3f).toInt64) ||| (((cc.toUInt64 >>> ((24 : Int32) &&& 0x3f).toInt64.toUInt64).toInt64) &&& (1 : Int64)))), .second, .unset, .unset, .unset, .unset] [])) t → Steps p.tables e below (s₁.setTop (mkF m 0 #[.val (.ref r0), .val (.int p1), .unset, .unset, .unset, .unset, .unset, .unset, .unset, .unset, .unset] [])) t := by
    intro t h
    refine k43 t ?_
    show Steps p.tables e below (s₁.setTop (mkF m 46 #[.val (.ref r0), .val (.int p1), .val (.int (1 : Int32)), .val (.long (own_hi6 aa bb)), .second, .unset, .unset, .unset, .unset, .unset, .unset] [(.int (1 : Int32))])) _
    refine XS.ifNo X0.here hx rfl (hb hby own_d1_46) rfl ((if0 _ _).trans (feq (by decide : ¬ ((1 : Int32) = (0 : Int32)))).1) ?_
    show Steps p.tables e below (s₁.setTop (mkF m 49 #[.val (.ref r0), .val (.int p1), .val (.int (1 : Int32)), .val (.long (own_hi6 aa bb)), .second, .unset, .unset, .unset, .unset, .unset, .unset] [])) _
    refine XS.aloadN X0.here hx rfl (hb hby own_d1_49) rfl rfl ?_
    show Steps p.tables e below (s₁.setTop (mkF m 50 #[.val (.ref r0), .val (.int p1), .val (.int (1 : Int32)), .val (.long (own_hi6 aa bb)), .second, .unset, .unset, .unset, .unset, .unset, .unset] [(.ref r0)])) _
    refine XS.iloadN X0.here hx rfl (hb hby own_d1_50) rfl ?_
    show Steps p.tables e below (s₁.setTop (mkF m 51 #[.val (.ref r0), .val (.int p1), .val (.int (1 : Int32)), .val (.long (own_hi6 aa bb)), .second, .unset, .unset, .unset, .unset, .unset, .unset] [(.int p1), (.ref r0)])) _
    refine XS.iconst X0.here hx rfl (hb hby own_d1_51) ?_
    show Steps p.tables e below (s₁.setTop (mkF m 52 #[.val (.ref r0), .val (.int p1), .val (.int (1 : Int32)), .val (.long (own_hi6 aa bb)), .second, .unset, .unset, .unset, .unset, .unset, .unset] [(.int (1 : Int32)), (.int p1), (.ref r0)])) _
    refine XS.iadd X0.here hx rfl (hb hby own_d1_52) rfl ?_
    show Steps p.tables e below (s₁.setTop (mkF m 53 #[.val (.ref r0), .val (.int p1), .val (.int (1 : Int32)), .val (.long (own_hi6 aa bb)), .second, .unset, .unset, .unset, .unset, .unset, .unset] [(.int (p1 + (1 : Int32))), (.ref r0)])) _
    refine X0.laload hx (j := (p1 + (1 : Int32))) (v := (.long bb)) (by rw [e0]; exact Ar44.1) (State.isArrayOf_alike hZ.alike Ar44.2.1) Ar44.2.2 hin44 (by rw [← hkb]; exact hat44) (g := (mkF m 53 #[.val (.ref r0), .val (.int p1), .val (.int (1 : Int32)), .val (.long (own_hi6 aa bb)), .second, .unset, .unset, .unset, .unset, .unset, .unset] [(.int (p1 + (1 : Int32))), (.ref r0)])) rfl rfl (hb hby own_d1_53) _ ?_
    show Steps p.tables e below (s₁.setTop (mkF m 54 #[.val (.ref r0), .val (.int p1), .val (.int (1 : Int32)), .val (.long (own_hi6 aa bb)), .second, .unset, .unset, .unset, .unset, .unset, .unset] [(.long bb)])) _
    refine XS.iconst X0.here hx rfl (hb hby own_d1_54) ?_
    show Steps p.tables e below (s₁.setTop (mkF m 55 #[.val (.ref r0), .val (.int p1), .val (.int (1 : Int32)), .val (.long (own_hi6 aa bb)), .second, .unset, .unset, .unset, .unset, .unset, .unset] [(.int (1 : Int32)), (.long bb)])) _
    refine XS.lshl X0.here hx rfl (hb hby own_d1_55) rfl ?_
    show Steps p.tables e below (s₁.setTop (mkF m 56 #[.val (.ref r0), .val (.int p1), .val (.int (1 : Int32)), .val (.long (own_hi6 aa bb)), .second, .unset, .unset, .unset, .unset, .unset, .unset] [(.long (bb <<< ((1 : Int32) &&& 0x3f).toInt64))])) _
    refine XS.aloadN X0.here hx rfl (hb hby own_d1_56) rfl rfl ?_
    show Steps p.tables e below (s₁.setTop (mkF m 57 #[.val (.ref r0), .val (.int p1), .val (.int (1 : Int32)), .val (.long (own_hi6 aa bb)), .second, .unset, .unset, .unset, .unset, .unset, .unset] [(.ref r0), (.long (bb <<< ((1 : Int32) &&& 0x3f).toInt64))])) _
    refine XS.iloadN X0.here hx rfl (hb hby own_d1_57) rfl ?_
    show Steps p.tables e below (s₁.setTop (mkF m 58 #[.val (.ref r0), .val (.int p1), .val (.int (1 : Int32)), .val (.long (own_hi6 aa bb)), .second, .unset, .unset, .unset, .unset, .unset, .unset] [(.int p1), (.ref r0), (.long (bb <<< ((1 : Int32) &&& 0x3f).toInt64))])) _
    refine XS.iconst X0.here hx rfl (hb hby own_d1_58) ?_
    show Steps p.tables e below (s₁.setTop (mkF m 59 #[.val (.ref r0), .val (.int p1), .val (.int (1 : Int32)), .val (.long (own_hi6 aa bb)), .second, .unset, .unset, .unset, .unset, .unset, .unset] [(.int (2 : Int32)), (.int p1), (.ref r0), (.long (bb <<< ((1 : Int32) &&& 0x3f).toInt64))])) _
    refine XS.iadd X0.here hx rfl (hb hby own_d1_59) rfl ?_
    show Steps p.tables e below (s₁.setTop (mkF m 60 #[.val (.ref r0), .val (.int p1), .val (.int (1 : Int32)), .val (.long (own_hi6 aa bb)), .second, .unset, .unset, .unset, .unset, .unset, .unset] [(.int (p1 + (2 : Int32))), (.ref r0), (.long (bb <<< ((1 : Int32) &&& 0x3f).toInt64))])) _
    refine X0.laload hx (j := (p1 + (2 : Int32))) (v := (.long cc)) (by rw [e0]; exact Ar45.1) (State.isArrayOf_alike hZ.alike Ar45.2.1) Ar45.2.2 hin45 (by rw [← hkc]; exact hat45) (g := (mkF m 60 #[.val (.ref r0), .val (.int p1), .val (.int (1 : Int32)), .val (.long (own_hi6 aa bb)), .second, .unset, .unset, .unset, .unset, .unset, .unset] [(.int (p1 + (2 : Int32))), (.ref r0), (.long (bb <<< ((1 : Int32) &&& 0x3f).toInt64))])) rfl rfl (hb hby own_d1_60) _ ?_
    show Steps p.tables e below (s₁.setTop (mkF m 61 #[.val (.ref r0), .val (.int p1), .val (.int (1 : Int32)), .val (.long (own_hi6 aa bb)), .second, .unset, .unset, .unset, .unset, .unset, .unset] [(.long cc), (.long (bb <<< ((1 : Int32) &&& 0x3f).toInt64))])) _
    refine XS.bipush X0.here hx rfl (hb hby own_d1_61) ?_
    show Steps p.tables e below (s₁.setTop (mkF m 63 #[.val (.ref r0), .val (.int p1), .val (.int (1 : Int32)), .val (.long (own_hi6 aa bb)), .second, .unset, .unset, .unset, .unset, .unset, .unset] [(.int (24 : Int32)), (.long cc), (.long (bb <<< ((1 : Int32) &&& 0x3f).toInt64))])) _
    refine XS.lushr X0.here hx rfl (hb hby own_d1_63) rfl ?_
    show Steps p.tables e below (s₁.setTop (mkF m 64 #[.val (.ref r0), .val (.int p1), .val (.int (1 : Int32)), .val (.long (own_hi6 aa bb)), .second, .unset, .unset, .unset, .unset, .unset, .unset] [(.long ((cc.toUInt64 >>> ((24 : Int32) &&& 0x3f).toInt64.toUInt64).toInt64)), (.long (bb <<< ((1 : Int32) &&& 0x3f).toInt64))])) _
    refine XS.lconst X0.here hx rfl (hb hby own_d1_64) ?_
    show Steps p.tables e below (s₁.setTop (mkF m 65 #[.val (.ref r0), .val (.int p1), .val (.int (1 : Int32)), .val (.long (own_hi6 aa bb)), .second, .unset, .unset, .unset, .unset, .unset, .unset] [(.long (1 : Int64)), (.long ((cc.toUInt64 >>> ((24 : Int32) &&& 0x3f).toInt64.toUInt64).toInt64)), (.long (bb <<< ((1 : Int32) &&& 0x3f).toInt64))])) _
    refine XS.land X0.here hx rfl (hb hby own_d1_65) rfl ?_
    show Steps p.tables e below (s₁.setTop (mkF m 66 #[.val (.ref r0), .val (.int p1), .val (.int (1 : Int32)), .val (.long (own_hi6 aa bb)), .second, .unset, .unset, .unset, .unset, .unset, .unset] [(.long (((cc.toUInt64 >>> ((24 : Int32) &&& 0x3f).toInt64.toUInt64).toInt64) &&& (1 : Int64))), (.long (bb <<< ((1 : Int32) &&& 0x3f).toInt64))])) _
    refine XS.lor X0.here hx rfl (hb hby own_d1_66) rfl ?_
    show Steps p.tables e below (s₁.setTop (mkF m 67 #[.val (.ref r0), .val (.int p1), .val (.int (1 : Int32)), .val (.long (own_hi6 aa bb)), .second, .unset, .unset, .unset, .unset, .unset, .unset] [(.long ((bb <<< ((1 : Int32) &&& 0x3f).toInt64) ||| (((cc.toUInt64 >>> ((24 : Int32) &&& 0x3f).toInt64.toUInt64).toInt64) &&& (1 : Int64))))])) _
    refine XS.goto X0.here hx rfl (pc0 := 67) (pc' := 71) rfl (hb hby own_d1_67) (by decide) (by decide) ?_
    show Steps p.tables e below (s₁.setTop (mkF m 71 #[.val (.ref r0), .val (.int p1), .val (.int (1 : Int32)), .val (.long (own_hi6 aa bb)), .second, .unset, .unset, .unset, .unset, .unset, .unset] [(.long ((bb <<< ((1 : Int32) &&& 0x3f).toInt64) ||| (((cc.toUInt64 >>> ((24 : Int32) &&& 0x3f).toInt64.toUInt64).toInt64) &&& (1 : Int64))))])) _
    refine XS.lstore X0.here hx rfl (hb hby own_d1_71) rfl (l' := #[.val (.ref r0), .val (.int p1), .val (.int (1 : Int32)), .val (.long (own_hi6 aa bb)), .second, .val (.long ((bb <<< ((1 : Int32) &&& 0x3f).toInt64) ||| (((cc.toUInt64 >>> ((24 : Int32) &&& 0x3f).toInt64.toUInt64).toInt64) &&& (1 : Int64)))), .second, .unset, .unset, .unset, .unset]) rfl ?_
    exact h
  have k47 : ∀ t, Steps p.tables e below (s₁.setTop (mkF m 73 #[.val (.ref r0), .val (.int p1), .val (.int (1 : Int32)), .val (.long (own_hi6 aa bb)), .second, .val (.long (own_lo6 bb cc)), .second, .unset, .unset, .unset, .unset] [])) t → Steps p.tables e below (s₁.setTop (mkF m 0 #[.val (.ref r0), .val (.int p1), .unset, .unset, .unset, .unset, .unset, .unset, .unset, .unset, .unset] [])) t := k46
  have k48 : ∀ t, Steps p.tables e below (s₁.setTop (mkF m 74 #[.val (.ref r0), .val (.int p1), .val (.int (1 : Int32)), .val (.long (own_hi6 aa bb)), .second, .val (.long (own_lo6 bb cc)), .second, .unset, .unset, .unset, .unset] [(.int (1 : Int32))])) t → Steps p.tables e below (s₁.setTop (mkF m 0 #[.val (.ref r0), .val (.int p1), .unset, .unset, .unset, .unset, .unset, .unset, .unset, .unset, .unset] [])) t := by
    intro t h
    refine k47 t ?_
    show Steps p.tables e below (s₁.setTop (mkF m 73 #[.val (.ref r0), .val (.int p1), .val (.int (1 : Int32)), .val (.long (own_hi6 aa bb)), .second, .val (.long (own_lo6 bb cc)), .second, .unset, .unset, .unset, .unset] [])) _
    refine XS.iloadN X0.here hx rfl (hb hby own_d1_73) rfl ?_
    exact h
  obtain ⟨cl49, Ar49, hin49, hat49⟩ := own_LA.at (i := (n + 2)) (j := (p1 + (2 : Int32))) A1 (by rw [hp1]; exact own_add2 n) (by omega) (by decide)
  have k50 : ∀ t, Steps p.tables e below (s₁.setTop (mkF m 91 #[.val (.ref r0), .val (.int p1), .val (.int (1 : Int32)), .val (.long (own_hi6 aa bb)), .second, .val (.long (own_lo6 bb cc)), .second, .val (.long cc), .second, .unset, .unset] [(.int (1 : Int32))])) t → Steps p.tables e below (s₁.setTop (mkF m 0 #[.val (.ref r0), .val (.int p1), .unset, .unset, .unset, .unset, .unset, .unset, .unset, .unset, .unset] [])) t := by
    intro t h
    refine k48 t ?_
    show Steps p.tables e below (s₁.setTop (mkF m 74 #[.val (.ref r0), .val (.int p1), .val (.int (1 : Int32)), .val (.long (own_hi6 aa bb)), .second, .val (.long (own_lo6 bb cc)), .second, .unset, .unset, .unset, .unset] [(.int (1 : Int32))])) _
    refine XS.ifNo X0.here hx rfl (hb hby own_d1_74) rfl ((if0 _ _).trans (feq (by decide : ¬ ((1 : Int32) = (0 : Int32)))).1) ?_
    show Steps p.tables e below (s₁.setTop (mkF m 77 #[.val (.ref r0), .val (.int p1), .val (.int (1 : Int32)), .val (.long (own_hi6 aa bb)), .second, .val (.long (own_lo6 bb cc)), .second, .unset, .unset, .unset, .unset] [])) _
    refine XS.aloadN X0.here hx rfl (hb hby own_d1_77) rfl rfl ?_
    show Steps p.tables e below (s₁.setTop (mkF m 78 #[.val (.ref r0), .val (.int p1), .val (.int (1 : Int32)), .val (.long (own_hi6 aa bb)), .second, .val (.long (own_lo6 bb cc)), .second, .unset, .unset, .unset, .unset] [(.ref r0)])) _
    refine XS.iloadN X0.here hx rfl (hb hby own_d1_78) rfl ?_
    show Steps p.tables e below (s₁.setTop (mkF m 79 #[.val (.ref r0), .val (.int p1), .val (.int (1 : Int32)), .val (.long (own_hi6 aa bb)), .second, .val (.long (own_lo6 bb cc)), .second, .unset, .unset, .unset, .unset] [(.int p1), (.ref r0)])) _
    refine XS.iconst X0.here hx rfl (hb hby own_d1_79) ?_
    show Steps p.tables e below (s₁.setTop (mkF m 80 #[.val (.ref r0), .val (.int p1), .val (.int (1 : Int32)), .val (.long (own_hi6 aa bb)), .second, .val (.long (own_lo6 bb cc)), .second, .unset, .unset, .unset, .unset] [(.int (2 : Int32)), (.int p1), (.ref r0)])) _
    refine XS.iadd X0.here hx rfl (hb hby own_d1_80) rfl ?_
    show Steps p.tables e below (s₁.setTop (mkF m 81 #[.val (.ref r0), .val (.int p1), .val (.int (1 : Int32)), .val (.long (own_hi6 aa bb)), .second, .val (.long (own_lo6 bb cc)), .second, .unset, .unset, .unset, .unset] [(.int (p1 + (2 : Int32))), (.ref r0)])) _
    refine X0.laload hx (j := (p1 + (2 : Int32))) (v := (.long cc)) (by rw [e0]; exact Ar49.1) (State.isArrayOf_alike hZ.alike Ar49.2.1) Ar49.2.2 hin49 (by rw [← hkc]; exact hat49) (g := (mkF m 81 #[.val (.ref r0), .val (.int p1), .val (.int (1 : Int32)), .val (.long (own_hi6 aa bb)), .second, .val (.long (own_lo6 bb cc)), .second, .unset, .unset, .unset, .unset] [(.int (p1 + (2 : Int32))), (.ref r0)])) rfl rfl (hb hby own_d1_81) _ ?_
    show Steps p.tables e below (s₁.setTop (mkF m 82 #[.val (.ref r0), .val (.int p1), .val (.int (1 : Int32)), .val (.long (own_hi6 aa bb)), .second, .val (.long (own_lo6 bb cc)), .second, .unset, .unset, .unset, .unset] [(.long cc)])) _
    refine XS.goto X0.here hx rfl (pc0 := 82) (pc' := 88) rfl (hb hby own_d1_82) (by decide) (by decide) ?_
    show Steps p.tables e below (s₁.setTop (mkF m 88 #[.val (.ref r0), .val (.int p1), .val (.int (1 : Int32)), .val (.long (own_hi6 aa bb)), .second, .val (.long (own_lo6 bb cc)), .second, .unset, .unset, .unset, .unset] [(.long cc)])) _
    refine XS.lstore X0.here hx rfl (hb hby own_d1_88) rfl (l' := #[.val (.ref r0), .val (.int p1), .val (.int (1 : Int32)), .val (.long (own_hi6 aa bb)), .second, .val (.long (own_lo6 bb cc)), .second, .val (.long cc), .second, .unset, .unset]) rfl ?_
    show Steps p.tables e below (s₁.setTop (mkF m 90 #[.val (.ref r0), .val (.int p1), .val (.int (1 : Int32)), .val (.long (own_hi6 aa bb)), .second, .val (.long (own_lo6 bb cc)), .second, .val (.long cc), .second, .unset, .unset] [])) _
    refine XS.iloadN X0.here hx rfl (hb hby own_d1_90) rfl ?_
    exact h
  obtain ⟨T51, h51, k51, X51, e51, E51, A51, st51⟩ := newP X0 hx hZ (hw _ (List.mem_of_getElem? (i := 8) rfl)) e0 (g := (mkF m 100 #[.val (.ref r0), .val (.int p1), .val (.int (1 : Int32)), .val (.long (own_hi6 aa bb)), .second, .val (.long (own_lo6 bb cc)), .second, .val (.long cc), .second, .unset, .unset] [(.int (16 : Int32))])) rfl (hb hby own_d1_100) rfl (by decide) (cap := 16) (by decide) (by decide) (by decide) (by decide)
  obtain ⟨b51, g51⟩ : ∃ z, z = h0.size := ⟨_, rfl⟩
  rw [← g51] at A51 st51
  have ne_r0_b51 : r0 ≠ b51 := Nat.ne_of_lt (Nat.lt_of_lt_of_le A1.lt (Nat.le_of_eq g51.symm))
  have g_b51 : n0 ≤ b51 := Nat.le_trans Z0 (Nat.le_of_eq g51.symm)
  have sz_b51 : h0.size ≤ b51 := Nat.le_trans K0.1 (Nat.le_of_eq g51.symm)
  have f52 := A1.ext E51
  have Z53 : n0 ≤ h51.size := Nat.le_trans Z0 E51.1
  have K54 := K0.ext E51
  have V51 : own_BA Z h51 b51 16 (fun _ => 0) := own_BA.new A51 rfl
  have k55 : ∀ t, Steps p.tables e below (T51.setTop (mkF m 107 #[.val (.ref r0), .val (.int p1), .val (.int (1 : Int32)), .val (.long (own_hi6 aa bb)), .second, .val (.long (own_lo6 bb cc)), .second, .val (.long cc), .second, .val (.ref b51), .val (.int (0 : Int32))] [])) t → Steps p.tables e below (s₁.setTop (mkF m 0 #[.val (.ref r0), .val (.int p1), .unset, .unset, .unset, .unset, .unset, .unset, .unset, .unset, .unset] [])) t := by
    intro t h
    refine k50 t ?_
    show Steps p.tables e below (s₁.setTop (mkF m 91 #[.val (.ref r0), .val (.int p1), .val (.int (1 : Int32)), .val (.long (own_hi6 aa bb)), .second, .val (.long (own_lo6 bb cc)), .second, .val (.long cc), .second, .unset, .unset] [(.int (1 : Int32))])) _
    refine XS.ifNo X0.here hx rfl (hb hby own_d1_91) rfl ((if0 _ _).trans (feq (by decide : ¬ ((1 : Int32) = (0 : Int32)))).1) ?_
    show Steps p.tables e below (s₁.setTop (mkF m 94 #[.val (.ref r0), .val (.int p1), .val (.int (1 : Int32)), .val (.long (own_hi6 aa bb)), .second, .val (.long (own_lo6 bb cc)), .second, .val (.long cc), .second, .unset, .unset] [])) _
    refine XS.bipush X0.here hx rfl (hb hby own_d1_94) ?_
    show Steps p.tables e below (s₁.setTop (mkF m 96 #[.val (.ref r0), .val (.int p1), .val (.int (1 : Int32)), .val (.long (own_hi6 aa bb)), .second, .val (.long (own_lo6 bb cc)), .second, .val (.long cc), .second, .unset, .unset] [(.int (16 : Int32))])) _
    refine XS.goto X0.here hx rfl (pc0 := 96) (pc' := 100) rfl (hb hby own_d1_96) (by decide) (by decide) ?_
    show Steps p.tables e below (s₁.setTop (mkF m 100 #[.val (.ref r0), .val (.int p1), .val (.int (1 : Int32)), .val (.long (own_hi6 aa bb)), .second, .val (.long (own_lo6 bb cc)), .second, .val (.long cc), .second, .unset, .unset] [(.int (16 : Int32))])) _
    refine st51 _ ?_
    show Steps p.tables e below (T51.setTop (mkF m 102 #[.val (.ref r0), .val (.int p1), .val (.int (1 : Int32)), .val (.long (own_hi6 aa bb)), .second, .val (.long (own_lo6 bb cc)), .second, .val (.long cc), .second, .unset, .unset] [(.ref b51)])) _
    refine XS.astore X51.here hx rfl (hb hby own_d1_102) rfl rfl (l' := #[.val (.ref r0), .val (.int p1), .val (.int (1 : Int32)), .val (.long (own_hi6 aa bb)), .second, .val (.long (own_lo6 bb cc)), .second, .val (.long cc), .second, .val (.ref b51), .unset]) rfl ?_
    show Steps p.tables e below (T51.setTop (mkF m 104 #[.val (.ref r0), .val (.int p1), .val (.int (1 : Int32)), .val (.long (own_hi6 aa bb)), .second, .val (.long (own_lo6 bb cc)), .second, .val (.long cc), .second, .val (.ref b51), .unset] [])) _
    refine XS.iconst X51.here hx rfl (hb hby own_d1_104) ?_
    show Steps p.tables e below (T51.setTop (mkF m 105 #[.val (.ref r0), .val (.int p1), .val (.int (1 : Int32)), .val (.long (own_hi6 aa bb)), .second, .val (.long (own_lo6 bb cc)), .second, .val (.long cc), .second, .val (.ref b51), .unset] [(.int (0 : Int32))])) _
    refine XS.istore X51.here hx rfl (hb hby own_d1_105) rfl (l' := #[.val (.ref r0), .val (.int p1), .val (.int (1 : Int32)), .val (.long (own_hi6 aa bb)), .second, .val (.long (own_lo6 bb cc)), .second, .val (.long cc), .second, .val (.ref b51), .val (.int (0 : Int32))]) rfl ?_
    exact h
  have k56 : ∀ t, Steps p.tables e below (T51.setTop (mkF m 107 #[.val (.ref r0), .val (.int p1), .val (.int (1 : Int32)), .val (.long (own_hi6 aa bb)), .second, .val (.long (own_lo6 bb cc)), .second, .val (.long cc), .second, .val (.ref b51), .val (.int (Int32.ofNat 0))] [])) t → Steps p.tables e below (s₁.setTop (mkF m 0 #[.val (.ref r0), .val (.int p1), .unset, .unset, .unset, .unset, .unset, .unset, .unset, .unset, .unset] [])) t := k55
  have lp57 : ∀ (d : Nat) (i : Nat), i + d = 16 → ∀ (T : State) (h : Heap) (L : List Loc), Stand p l e ({ frames := 2, cells := 2, slots := 20, locals := 29 } : Room) s m #[(.ref r0), (.int p1)] below meth c T L 1 16 → T.heap = h → Fr n0 L → n0 ≤ h.size → Keep h0 h [] → own_BA Z h b51 (16) (fun j => if j < i then own_f (own_hi6 aa bb) (own_lo6 bb cc) j else 0) → ∃ (T' : State) (h' : Heap) (L' : List Loc), Stand p l e ({ frames := 2, cells := 2, slots := 20, locals := 29 } : Room) s m #[(.ref r0), (.int p1)] below meth c T' L' 1 16 ∧ T'.heap = h' ∧ Fr n0 L' ∧ n0 ≤ h'.size ∧ Keep h0 h' [] ∧ own_BA Z h' b51 (16) (fun j => if j < (16) then own_f (own_hi6 aa bb) (own_lo6 bb cc) j else 0) ∧ ∀ t, Steps p.tables e below (T'.setTop (mkF m 153 #[.val (.ref r0), .val (.int p1), .val (.int (1 : Int32)), .val (.long (own_hi6 aa bb)), .second, .val (.long (own_lo6 bb cc)), .second, .val (.long cc), .second, .val (.ref b51), .val (.int (Int32.ofNat (16)))] [])) t → Steps p.tables e below (T.setTop (mkF m 107 #[.val (.ref r0), .val (.int p1), .val (.int (1 : Int32)), .val (.long (own_hi6 aa bb)), .second, .val (.long (own_lo6 bb cc)), .second, .val (.long cc), .second, .val (.ref b51), .val (.int (Int32.ofNat i))] [])) t := by
    intro d
    induction d with
    | zero =>
      intro i hd  T h L X hE hN hZZ hK hf0
      have hi : i = 16 := by omega
      subst hi
      obtain ⟨cl58, Ar58, hl58⟩ := hf0.len
      have k59 : ∀ t, Steps p.tables e below (T.setTop (mkF m 112 #[.val (.ref r0), .val (.int p1), .val (.int (1 : Int32)), .val (.long (own_hi6 aa bb)), .second, .val (.long (own_lo6 bb cc)), .second, .val (.long cc), .second, .val (.ref b51), .val (.int (Int32.ofNat (16)))] [(.int (Int32.ofNat (16))), (.int (Int32.ofNat (16)))])) t → Steps p.tables e below (T.setTop (mkF m 107 #[.val (.ref r0), .val (.int p1), .val (.int (1 : Int32)), .val (.long (own_hi6 aa bb)), .second, .val (.long (own_lo6 bb cc)), .second, .val (.long cc), .second, .val (.ref b51), .val (.int (Int32.ofNat (16)))] [])) t := by
        intro t h
        show Steps p.tables e below (T.setTop (mkF m 107 #[.val (.ref r0), .val (.int p1), .val (.int (1 : Int32)), .val (.long (own_hi6 aa bb)), .second, .val (.long (own_lo6 bb cc)), .second, .val (.long cc), .second, .val (.ref b51), .val (.int (Int32.ofNat (16)))] [])) _
        refine XS.iload X.here hx rfl (hb hby own_d1_107) rfl ?_
        show Steps p.tables e below (T.setTop (mkF m 109 #[.val (.ref r0), .val (.int p1), .val (.int (1 : Int32)), .val (.long (own_hi6 aa bb)), .second, .val (.long (own_lo6 bb cc)), .second, .val (.long cc), .second, .val (.ref b51), .val (.int (Int32.ofNat (16)))] [(.int (Int32.ofNat (16)))])) _
        refine XS.aload X.here hx rfl (hb hby own_d1_109) rfl rfl ?_
        show Steps p.tables e below (T.setTop (mkF m 111 #[.val (.ref r0), .val (.int p1), .val (.int (1 : Int32)), .val (.long (own_hi6 aa bb)), .second, .val (.long (own_lo6 bb cc)), .second, .val (.long cc), .second, .val (.ref b51), .val (.int (Int32.ofNat (16)))] [(.ref b51), (.int (Int32.ofNat (16)))])) _
        refine X.arraylength hx (by rw [hE]; exact Ar58.1) (State.isArrayOf_alike hZ.alike Ar58.2.1) (g := (mkF m 111 #[.val (.ref r0), .val (.int p1), .val (.int (1 : Int32)), .val (.long (own_hi6 aa bb)), .second, .val (.long (own_lo6 bb cc)), .second, .val (.long cc), .second, .val (.ref b51), .val (.int (Int32.ofNat (16)))] [(.ref b51), (.int (Int32.ofNat (16)))])) rfl rfl (hb hby own_d1_111) _ ?_
        rw [hl58]
        exact h
      have b112_60 : ¬ ((Int32.ofNat (16)) < (Int32.ofNat (16))) := own_nlt (by omega) (by decide)
      have k61 : ∀ t, Steps p.tables e below (T.setTop (mkF m 153 #[.val (.ref r0), .val (.int p1), .val (.int (1 : Int32)), .val (.long (own_hi6 aa bb)), .second, .val (.long (own_lo6 bb cc)), .second, .val (.long cc), .second, .val (.ref b51), .val (.int (Int32.ofNat (16)))] [])) t → Steps p.tables e below (T.setTop (mkF m 107 #[.val (.ref r0), .val (.int p1), .val (.int (1 : Int32)), .val (.long (own_hi6 aa bb)), .second, .val (.long (own_lo6 bb cc)), .second, .val (.long cc), .second, .val (.ref b51), .val (.int (Int32.ofNat (16)))] [])) t := by
        intro t h
        refine k59 t ?_
        show Steps p.tables e below (T.setTop (mkF m 112 #[.val (.ref r0), .val (.int p1), .val (.int (1 : Int32)), .val (.long (own_hi6 aa bb)), .second, .val (.long (own_lo6 bb cc)), .second, .val (.long cc), .second, .val (.ref b51), .val (.int (Int32.ofNat (16)))] [(.int (Int32.ofNat (16))), (.int (Int32.ofNat (16)))])) _
        refine XS.icmpYes X.here hx rfl (pc0 := 112) (pc' := 153) rfl (hb hby own_d1_112) rfl (flt b112_60).2.1 (by decide) (by decide) ?_
        exact h
      exact ⟨T, _, _, X, hE, hN, hZZ, hK, hf0, k61⟩
    | succ d ih =>
      intro i hd  T h L X hE hN hZZ hK hf0
      obtain ⟨cl62, Ar62, hl62⟩ := hf0.len
      have k63 : ∀ t, Steps p.tables e below (T.setTop (mkF m 112 #[.val (.ref r0), .val (.int p1), .val (.int (1 : Int32)), .val (.long (own_hi6 aa bb)), .second, .val (.long (own_lo6 bb cc)), .second, .val (.long cc), .second, .val (.ref b51), .val (.int (Int32.ofNat i))] [(.int (Int32.ofNat (16))), (.int (Int32.ofNat i))])) t → Steps p.tables e below (T.setTop (mkF m 107 #[.val (.ref r0), .val (.int p1), .val (.int (1 : Int32)), .val (.long (own_hi6 aa bb)), .second, .val (.long (own_lo6 bb cc)), .second, .val (.long cc), .second, .val (.ref b51), .val (.int (Int32.ofNat i))] [])) t := by
        intro t h
        show Steps p.tables e below (T.setTop (mkF m 107 #[.val (.ref r0), .val (.int p1), .val (.int (1 : Int32)), .val (.long (own_hi6 aa bb)), .second, .val (.long (own_lo6 bb cc)), .second, .val (.long cc), .second, .val (.ref b51), .val (.int (Int32.ofNat i))] [])) _
        refine XS.iload X.here hx rfl (hb hby own_d1_107) rfl ?_
        show Steps p.tables e below (T.setTop (mkF m 109 #[.val (.ref r0), .val (.int p1), .val (.int (1 : Int32)), .val (.long (own_hi6 aa bb)), .second, .val (.long (own_lo6 bb cc)), .second, .val (.long cc), .second, .val (.ref b51), .val (.int (Int32.ofNat i))] [(.int (Int32.ofNat i))])) _
        refine XS.aload X.here hx rfl (hb hby own_d1_109) rfl rfl ?_
        show Steps p.tables e below (T.setTop (mkF m 111 #[.val (.ref r0), .val (.int p1), .val (.int (1 : Int32)), .val (.long (own_hi6 aa bb)), .second, .val (.long (own_lo6 bb cc)), .second, .val (.long cc), .second, .val (.ref b51), .val (.int (Int32.ofNat i))] [(.ref b51), (.int (Int32.ofNat i))])) _
        refine X.arraylength hx (by rw [hE]; exact Ar62.1) (State.isArrayOf_alike hZ.alike Ar62.2.1) (g := (mkF m 111 #[.val (.ref r0), .val (.int p1), .val (.int (1 : Int32)), .val (.long (own_hi6 aa bb)), .second, .val (.long (own_lo6 bb cc)), .second, .val (.long cc), .second, .val (.ref b51), .val (.int (Int32.ofNat i))] [(.ref b51), (.int (Int32.ofNat i))])) rfl rfl (hb hby own_d1_111) _ ?_
        rw [hl62]
        exact h
      have b112_64 : (Int32.ofNat i) < (Int32.ofNat (16)) := own_lt (by omega) (by decide)
      have k65 : ∀ t, Steps p.tables e below (T.setTop (mkF m 123 #[.val (.ref r0), .val (.int p1), .val (.int (1 : Int32)), .val (.long (own_hi6 aa bb)), .second, .val (.long (own_lo6 bb cc)), .second, .val (.long cc), .second, .val (.ref b51), .val (.int (Int32.ofNat i))] [(.int (8 : Int32)), (.int (Int32.ofNat i)), (.int (Int32.ofNat i)), (.ref b51)])) t → Steps p.tables e below (T.setTop (mkF m 107 #[.val (.ref r0), .val (.int p1), .val (.int (1 : Int32)), .val (.long (own_hi6 aa bb)), .second, .val (.long (own_lo6 bb cc)), .second, .val (.long cc), .second, .val (.ref b51), .val (.int (Int32.ofNat i))] [])) t := by
        intro t h
        refine k63 t ?_
        show Steps p.tables e below (T.setTop (mkF m 112 #[.val (.ref r0), .val (.int p1), .val (.int (1 : Int32)), .val (.long (own_hi6 aa bb)), .second, .val (.long (own_lo6 bb cc)), .second, .val (.long cc), .second, .val (.ref b51), .val (.int (Int32.ofNat i))] [(.int (Int32.ofNat (16))), (.int (Int32.ofNat i))])) _
        refine XS.icmpNo X.here hx rfl (hb hby own_d1_112) rfl (tlt b112_64).2.1 ?_
        show Steps p.tables e below (T.setTop (mkF m 115 #[.val (.ref r0), .val (.int p1), .val (.int (1 : Int32)), .val (.long (own_hi6 aa bb)), .second, .val (.long (own_lo6 bb cc)), .second, .val (.long cc), .second, .val (.ref b51), .val (.int (Int32.ofNat i))] [])) _
        refine XS.aload X.here hx rfl (hb hby own_d1_115) rfl rfl ?_
        show Steps p.tables e below (T.setTop (mkF m 117 #[.val (.ref r0), .val (.int p1), .val (.int (1 : Int32)), .val (.long (own_hi6 aa bb)), .second, .val (.long (own_lo6 bb cc)), .second, .val (.long cc), .second, .val (.ref b51), .val (.int (Int32.ofNat i))] [(.ref b51)])) _
        refine XS.iload X.here hx rfl (hb hby own_d1_117) rfl ?_
        show Steps p.tables e below (T.setTop (mkF m 119 #[.val (.ref r0), .val (.int p1), .val (.int (1 : Int32)), .val (.long (own_hi6 aa bb)), .second, .val (.long (own_lo6 bb cc)), .second, .val (.long cc), .second, .val (.ref b51), .val (.int (Int32.ofNat i))] [(.int (Int32.ofNat i)), (.ref b51)])) _
        refine XS.iload X.here hx rfl (hb hby own_d1_119) rfl ?_
        show Steps p.tables e below (T.setTop (mkF m 121 #[.val (.ref r0), .val (.int p1), .val (.int (1 : Int32)), .val (.long (own_hi6 aa bb)), .second, .val (.long (own_lo6 bb cc)), .second, .val (.long cc), .second, .val (.ref b51), .val (.int (Int32.ofNat i))] [(.int (Int32.ofNat i)), (.int (Int32.ofNat i)), (.ref b51)])) _
        refine XS.bipush X.here hx rfl (hb hby own_d1_121) ?_
        exact h
      by_cases c123_66 : (Int32.ofNat i) < (8 : Int32)
      · skip
        obtain ⟨cl67, Ar67, hin67, hat67⟩ := own_BA.at (i := i) (j := (Int32.ofNat i)) hf0 rfl (by omega) (by decide)
        obtain ⟨T67, h67, X67, e67, W67, st67⟩ := stB X hx hZ hE Ar67 (j := (Int32.ofNat i)) hin67 (g := (mkF m 146 #[.val (.ref r0), .val (.int p1), .val (.int (1 : Int32)), .val (.long (own_hi6 aa bb)), .second, .val (.long (own_lo6 bb cc)), .second, .val (.long cc), .second, .val (.ref b51), .val (.int (Int32.ofNat i))] [(.int (((((own_hi6 aa bb).toUInt64 >>> ((((7 : Int32) - ((Int32.ofNat i) % (8 : Int32))) * (8 : Int32)) &&& 0x3f).toInt64.toUInt64).toInt64).toInt32).toInt8.toInt32)), (.int (Int32.ofNat i)), (.ref b51)])) rfl rfl (hb hby own_d1_146)
        have V67 := own_BA.set hf0 W67 rfl (by omega) (by decide)
        have Z68 : n0 ≤ h67.size := Nat.le_trans hZZ (Keep.of_wr W67).1
        have K69 := hK.wr W67 (Or.inr sz_b51)
        have N67 := Fr.snoc X67 hN g_b51
        have k70 : ∀ t, Steps p.tables e below (T67.setTop (mkF m 107 #[.val (.ref r0), .val (.int p1), .val (.int (1 : Int32)), .val (.long (own_hi6 aa bb)), .second, .val (.long (own_lo6 bb cc)), .second, .val (.long cc), .second, .val (.ref b51), .val (.int ((Int32.ofNat i) + (1 : Int32)))] [])) t → Steps p.tables e below (T.setTop (mkF m 107 #[.val (.ref r0), .val (.int p1), .val (.int (1 : Int32)), .val (.long (own_hi6 aa bb)), .second, .val (.long (own_lo6 bb cc)), .second, .val (.long cc), .second, .val (.ref b51), .val (.int (Int32.ofNat i))] [])) t := by
          intro t h
          refine k65 t ?_
          show Steps p.tables e below (T.setTop (mkF m 123 #[.val (.ref r0), .val (.int p1), .val (.int (1 : Int32)), .val (.long (own_hi6 aa bb)), .second, .val (.long (own_lo6 bb cc)), .second, .val (.long cc), .second, .val (.ref b51), .val (.int (Int32.ofNat i))] [(.int (8 : Int32)), (.int (Int32.ofNat i)), (.int (Int32.ofNat i)), (.ref b51)])) _
          refine XS.icmpNo X.here hx rfl (hb hby own_d1_123) rfl (tlt c123_66).2.1 ?_
          show Steps p.tables e below (T.setTop (mkF m 126 #[.val (.ref r0), .val (.int p1), .val (.int (1 : Int32)), .val (.long (own_hi6 aa bb)), .second, .val (.long (own_lo6 bb cc)), .second, .val (.long cc), .second, .val (.ref b51), .val (.int (Int32.ofNat i))] [(.int (Int32.ofNat i)), (.ref b51)])) _
          refine XS.lloadN X.here hx rfl (hb hby own_d1_126) rfl ?_
          show Steps p.tables e below (T.setTop (mkF m 127 #[.val (.ref r0), .val (.int p1), .val (.int (1 : Int32)), .val (.long (own_hi6 aa bb)), .second, .val (.long (own_lo6 bb cc)), .second, .val (.long cc), .second, .val (.ref b51), .val (.int (Int32.ofNat i))] [(.long (own_hi6 aa bb)), (.int (Int32.ofNat i)), (.ref b51)])) _
          refine XS.goto X.here hx rfl (pc0 := 127) (pc' := 132) rfl (hb hby own_d1_127) (by decide) (by decide) ?_
          show Steps p.tables e below (T.setTop (mkF m 132 #[.val (.ref r0), .val (.int p1), .val (.int (1 : Int32)), .val (.long (own_hi6 aa bb)), .second, .val (.long (own_lo6 bb cc)), .second, .val (.long cc), .second, .val (.ref b51), .val (.int (Int32.ofNat i))] [(.long (own_hi6 aa bb)), (.int (Int32.ofNat i)), (.ref b51)])) _
          refine XS.bipush X.here hx rfl (hb hby own_d1_132) ?_
          show Steps p.tables e below (T.setTop (mkF m 134 #[.val (.ref r0), .val (.int p1), .val (.int (1 : Int32)), .val (.long (own_hi6 aa bb)), .second, .val (.long (own_lo6 bb cc)), .second, .val (.long cc), .second, .val (.ref b51), .val (.int (Int32.ofNat i))] [(.int (7 : Int32)), (.long (own_hi6 aa bb)), (.int (Int32.ofNat i)), (.ref b51)])) _
          refine XS.iload X.here hx rfl (hb hby own_d1_134) rfl ?_
          show Steps p.tables e below (T.setTop (mkF m 136 #[.val (.ref r0), .val (.int p1), .val (.int (1 : Int32)), .val (.long (own_hi6 aa bb)), .second, .val (.long (own_lo6 bb cc)), .second, .val (.long cc), .second, .val (.ref b51), .val (.int (Int32.ofNat i))] [(.int (Int32.ofNat i)), (.int (7 : Int32)), (.long (own_hi6 aa bb)), (.int (Int32.ofNat i)), (.ref b51)])) _
          refine XS.bipush X.here hx rfl (hb hby own_d1_136) ?_
          show Steps p.tables e below (T.setTop (mkF m 138 #[.val (.ref r0), .val (.int p1), .val (.int (1 : Int32)), .val (.long (own_hi6 aa bb)), .second, .val (.long (own_lo6 bb cc)), .second, .val (.long cc), .second, .val (.ref b51), .val (.int (Int32.ofNat i))] [(.int (8 : Int32)), (.int (Int32.ofNat i)), (.int (7 : Int32)), (.long (own_hi6 aa bb)), (.int (Int32.ofNat i)), (.ref b51)])) _
          refine iremM (g := (mkF m 138 #[.val (.ref r0), .val (.int p1), .val (.int (1 : Int32)), .val (.long (own_hi6 aa bb)), .second, .val (.long (own_lo6 bb cc)), .second, .val (.long cc), .second, .val (.ref b51), .val (.int (Int32.ofNat i))] [(.int (8 : Int32)), (.int (Int32.ofNat i)), (.int (7 : Int32)), (.long (own_hi6 aa bb)), (.int (Int32.ofNat i)), (.ref b51)])) X hx rfl (hb hby own_d1_138) rfl (by decide) ?_
          show Steps p.tables e below (T.setTop (mkF m 139 #[.val (.ref r0), .val (.int p1), .val (.int (1 : Int32)), .val (.long (own_hi6 aa bb)), .second, .val (.long (own_lo6 bb cc)), .second, .val (.long cc), .second, .val (.ref b51), .val (.int (Int32.ofNat i))] [(.int ((Int32.ofNat i) % (8 : Int32))), (.int (7 : Int32)), (.long (own_hi6 aa bb)), (.int (Int32.ofNat i)), (.ref b51)])) _
          refine XS.isub X.here hx rfl (hb hby own_d1_139) rfl ?_
          show Steps p.tables e below (T.setTop (mkF m 140 #[.val (.ref r0), .val (.int p1), .val (.int (1 : Int32)), .val (.long (own_hi6 aa bb)), .second, .val (.long (own_lo6 bb cc)), .second, .val (.long cc), .second, .val (.ref b51), .val (.int (Int32.ofNat i))] [(.int ((7 : Int32) - ((Int32.ofNat i) % (8 : Int32)))), (.long (own_hi6 aa bb)), (.int (Int32.ofNat i)), (.ref b51)])) _
          refine XS.bipush X.here hx rfl (hb hby own_d1_140) ?_
          show Steps p.tables e below (T.setTop (mkF m 142 #[.val (.ref r0), .val (.int p1), .val (.int (1 : Int32)), .val (.long (own_hi6 aa bb)), .second, .val (.long (own_lo6 bb cc)), .second, .val (.long cc), .second, .val (.ref b51), .val (.int (Int32.ofNat i))] [(.int (8 : Int32)), (.int ((7 : Int32) - ((Int32.ofNat i) % (8 : Int32)))), (.long (own_hi6 aa bb)), (.int (Int32.ofNat i)), (.ref b51)])) _
          refine XS.imul X.here hx rfl (hb hby own_d1_142) rfl ?_
          show Steps p.tables e below (T.setTop (mkF m 143 #[.val (.ref r0), .val (.int p1), .val (.int (1 : Int32)), .val (.long (own_hi6 aa bb)), .second, .val (.long (own_lo6 bb cc)), .second, .val (.long cc), .second, .val (.ref b51), .val (.int (Int32.ofNat i))] [(.int (((7 : Int32) - ((Int32.ofNat i) % (8 : Int32))) * (8 : Int32))), (.long (own_hi6 aa bb)), (.int (Int32.ofNat i)), (.ref b51)])) _
          refine XS.lushr X.here hx rfl (hb hby own_d1_143) rfl ?_
          show Steps p.tables e below (T.setTop (mkF m 144 #[.val (.ref r0), .val (.int p1), .val (.int (1 : Int32)), .val (.long (own_hi6 aa bb)), .second, .val (.long (own_lo6 bb cc)), .second, .val (.long cc), .second, .val (.ref b51), .val (.int (Int32.ofNat i))] [(.long (((own_hi6 aa bb).toUInt64 >>> ((((7 : Int32) - ((Int32.ofNat i) % (8 : Int32))) * (8 : Int32)) &&& 0x3f).toInt64.toUInt64).toInt64)), (.int (Int32.ofNat i)), (.ref b51)])) _
          refine XS.l2i X.here hx rfl (hb hby own_d1_144) rfl ?_
          show Steps p.tables e below (T.setTop (mkF m 145 #[.val (.ref r0), .val (.int p1), .val (.int (1 : Int32)), .val (.long (own_hi6 aa bb)), .second, .val (.long (own_lo6 bb cc)), .second, .val (.long cc), .second, .val (.ref b51), .val (.int (Int32.ofNat i))] [(.int ((((own_hi6 aa bb).toUInt64 >>> ((((7 : Int32) - ((Int32.ofNat i) % (8 : Int32))) * (8 : Int32)) &&& 0x3f).toInt64.toUInt64).toInt64).toInt32)), (.int (Int32.ofNat i)), (.ref b51)])) _
          refine XS.i2b X.here hx rfl (hb hby own_d1_145) rfl ?_
          show Steps p.tables e below (T.setTop (mkF m 146 #[.val (.ref r0), .val (.int p1), .val (.int (1 : Int32)), .val (.long (own_hi6 aa bb)), .second, .val (.long (own_lo6 bb cc)), .second, .val (.long cc), .second, .val (.ref b51), .val (.int (Int32.ofNat i))] [(.int (((((own_hi6 aa bb).toUInt64 >>> ((((7 : Int32) - ((Int32.ofNat i) % (8 : Int32))) * (8 : Int32)) &&& 0x3f).toInt64.toUInt64).toInt64).toInt32).toInt8.toInt32)), (.int (Int32.ofNat i)), (.ref b51)])) _
          refine st67 _ ?_
          show Steps p.tables e below (T67.setTop (mkF m 147 #[.val (.ref r0), .val (.int p1), .val (.int (1 : Int32)), .val (.long (own_hi6 aa bb)), .second, .val (.long (own_lo6 bb cc)), .second, .val (.long cc), .second, .val (.ref b51), .val (.int (Int32.ofNat i))] [])) _
          refine XS.iinc X67.here hx rfl (hb hby own_d1_147) rfl (l' := #[.val (.ref r0), .val (.int p1), .val (.int (1 : Int32)), .val (.long (own_hi6 aa bb)), .second, .val (.long (own_lo6 bb cc)), .second, .val (.long cc), .second, .val (.ref b51), .val (.int ((Int32.ofNat i) + (1 : Int32)))]) rfl ?_
          show Steps p.tables e below (T67.setTop (mkF m 150 #[.val (.ref r0), .val (.int p1), .val (.int (1 : Int32)), .val (.long (own_hi6 aa bb)), .second, .val (.long (own_lo6 bb cc)), .second, .val (.long cc), .second, .val (.ref b51), .val (.int ((Int32.ofNat i) + (1 : Int32)))] [])) _
          refine XS.goto X67.here hx rfl (pc0 := 150) (pc' := 107) rfl (hb hby own_d1_150) (by decide) (by decide) ?_
          exact h
        have r71 : ((Int32.ofNat i) + (1 : Int32)) = (Int32.ofNat (i + 1)) := own_inc i
        have k72 : ∀ t, Steps p.tables e below (T67.setTop (mkF m 107 #[.val (.ref r0), .val (.int p1), .val (.int (1 : Int32)), .val (.long (own_hi6 aa bb)), .second, .val (.long (own_lo6 bb cc)), .second, .val (.long cc), .second, .val (.ref b51), .val (.int (Int32.ofNat (i + 1)))] [])) t → Steps p.tables e below (T.setTop (mkF m 107 #[.val (.ref r0), .val (.int p1), .val (.int (1 : Int32)), .val (.long (own_hi6 aa bb)), .second, .val (.long (own_lo6 bb cc)), .second, .val (.long cc), .second, .val (.ref b51), .val (.int (Int32.ofNat i))] [])) t := by first | (rw [← r71]; exact k70) | exact k70
        obtain ⟨T73, h73, L73, X73, e73, N73, Z73, K73, f73_0, k73⟩ := ih (i + 1) (by omega)  T67 _ _ X67 e67 N67 Z68 K69 (own_BA.congr V67 (fun j _ => own_upd 16 i (own_f (own_hi6 aa bb) (own_lo6 bb cc)) _ (by rw [own_f, if_pos c123_66]; rfl) j))
        exact ⟨T73, h73, L73, X73, e73, N73, Z73, K73, f73_0, fun t q => k72 t (k73 t q)⟩
      · skip
        obtain ⟨cl74, Ar74, hin74, hat74⟩ := own_BA.at (i := i) (j := (Int32.ofNat i)) hf0 rfl (by omega) (by decide)
        obtain ⟨T74, h74, X74, e74, W74, st74⟩ := stB X hx hZ hE Ar74 (j := (Int32.ofNat i)) hin74 (g := (mkF m 146 #[.val (.ref r0), .val (.int p1), .val (.int (1 : Int32)), .val (.long (own_hi6 aa bb)), .second, .val (.long (own_lo6 bb cc)), .second, .val (.long cc), .second, .val (.ref b51), .val (.int (Int32.ofNat i))] [(.int (((((own_lo6 bb cc).toUInt64 >>> ((((7 : Int32) - ((Int32.ofNat i) % (8 : Int32))) * (8 : Int32)) &&& 0x3f).toInt64.toUInt64).toInt64).toInt32).toInt8.toInt32)), (.int (Int32.ofNat i)), (.ref b51)])) rfl rfl (hb hby own_d1_146)
        have V74 := own_BA.set hf0 W74 rfl (by omega) (by decide)
        have Z75 : n0 ≤ h74.size := Nat.le_trans hZZ (Keep.of_wr W74).1
        have K76 := hK.wr W74 (Or.inr sz_b51)
        have N74 := Fr.snoc X74 hN g_b51
        have k77 : ∀ t, Steps p.tables e below (T74.setTop (mkF m 107 #[.val (.ref r0), .val (.int p1), .val (.int (1 : Int32)), .val (.long (own_hi6 aa bb)), .second, .val (.long (own_lo6 bb cc)), .second, .val (.long cc), .second, .val (.ref b51), .val (.int ((Int32.ofNat i) + (1 : Int32)))] [])) t → Steps p.tables e below (T.setTop (mkF m 107 #[.val (.ref r0), .val (.int p1), .val (.int (1 : Int32)), .val (.long (own_hi6 aa bb)), .second, .val (.long (own_lo6 bb cc)), .second, .val (.long cc), .second, .val (.ref b51), .val (.int (Int32.ofNat i))] [])) t := by
          intro t h
          refine k65 t ?_
          show Steps p.tables e below (T.setTop (mkF m 123 #[.val (.ref r0), .val (.int p1), .val (.int (1 : Int32)), .val (.long (own_hi6 aa bb)), .second, .val (.long (own_lo6 bb cc)), .second, .val (.long cc), .second, .val (.ref b51), .val (.int (Int32.ofNat i))] [(.int (8 : Int32)), (.int (Int32.ofNat i)), (.int (Int32.ofNat i)), (.ref b51)])) _
          refine XS.icmpYes X.here hx rfl (pc0 := 123) (pc' := 130) rfl (hb hby own_d1_123) rfl (flt c123_66).2.1 (by decide) (by decide) ?_
          show Steps p.tables e below (T.setTop (mkF m 130 #[.val (.ref r0), .val (.int p1), .val (.int (1 : Int32)), .val (.long (own_hi6 aa bb)), .second, .val (.long (own_lo6 bb cc)), .second, .val (.long cc), .second, .val (.ref b51), .val (.int (Int32.ofNat i))] [(.int (Int32.ofNat i)), (.ref b51)])) _
          refine XS.lload X.here hx rfl (hb hby own_d1_130) rfl ?_
          show Steps p.tables e below (T.setTop (mkF m 132 #[.val (.ref r0), .val (.int p1), .val (.int (1 : Int32)), .val (.long (own_hi6 aa bb)), .second, .val (.long (own_lo6 bb cc)), .second, .val (.long cc), .second, .val (.ref b51), .val (.int (Int32.ofNat i))] [(.long (own_lo6 bb cc)), (.int (Int32.ofNat i)), (.ref b51)])) _
          refine XS.bipush X.here hx rfl (hb hby own_d1_132) ?_
          show Steps p.tables e below (T.setTop (mkF m 134 #[.val (.ref r0), .val (.int p1), .val (.int (1 : Int32)), .val (.long (own_hi6 aa bb)), .second, .val (.long (own_lo6 bb cc)), .second, .val (.long cc), .second, .val (.ref b51), .val (.int (Int32.ofNat i))] [(.int (7 : Int32)), (.long (own_lo6 bb cc)), (.int (Int32.ofNat i)), (.ref b51)])) _
          refine XS.iload X.here hx rfl (hb hby own_d1_134) rfl ?_
          show Steps p.tables e below (T.setTop (mkF m 136 #[.val (.ref r0), .val (.int p1), .val (.int (1 : Int32)), .val (.long (own_hi6 aa bb)), .second, .val (.long (own_lo6 bb cc)), .second, .val (.long cc), .second, .val (.ref b51), .val (.int (Int32.ofNat i))] [(.int (Int32.ofNat i)), (.int (7 : Int32)), (.long (own_lo6 bb cc)), (.int (Int32.ofNat i)), (.ref b51)])) _
          refine XS.bipush X.here hx rfl (hb hby own_d1_136) ?_
          show Steps p.tables e below (T.setTop (mkF m 138 #[.val (.ref r0), .val (.int p1), .val (.int (1 : Int32)), .val (.long (own_hi6 aa bb)), .second, .val (.long (own_lo6 bb cc)), .second, .val (.long cc), .second, .val (.ref b51), .val (.int (Int32.ofNat i))] [(.int (8 : Int32)), (.int (Int32.ofNat i)), (.int (7 : Int32)), (.long (own_lo6 bb cc)), (.int (Int32.ofNat i)), (.ref b51)])) _
          refine iremM (g := (mkF m 138 #[.val (.ref r0), .val (.int p1), .val (.int (1 : Int32)), .val (.long (own_hi6 aa bb)), .second, .val (.long (own_lo6 bb cc)), .second, .val (.long cc), .second, .val (.ref b51), .val (.int (Int32.ofNat i))] [(.int (8 : Int32)), (.int (Int32.ofNat i)), (.int (7 : Int32)), (.long (own_lo6 bb cc)), (.int (Int32.ofNat i)), (.ref b51)])) X hx rfl (hb hby own_d1_138) rfl (by decide) ?_
          show Steps p.tables e below (T.setTop (mkF m 139 #[.val (.ref r0), .val (.int p1), .val (.int (1 : Int32)), .val (.long (own_hi6 aa bb)), .second, .val (.long (own_lo6 bb cc)), .second, .val (.long cc), .second, .val (.ref b51), .val (.int (Int32.ofNat i))] [(.int ((Int32.ofNat i) % (8 : Int32))), (.int (7 : Int32)), (.long (own_lo6 bb cc)), (.int (Int32.ofNat i)), (.ref b51)])) _
          refine XS.isub X.here hx rfl (hb hby own_d1_139) rfl ?_
          show Steps p.tables e below (T.setTop (mkF m 140 #[.val (.ref r0), .val (.int p1), .val (.int (1 : Int32)), .val (.long (own_hi6 aa bb)), .second, .val (.long (own_lo6 bb cc)), .second, .val (.long cc), .second, .val (.ref b51), .val (.int (Int32.ofNat i))] [(.int ((7 : Int32) - ((Int32.ofNat i) % (8 : Int32)))), (.long (own_lo6 bb cc)), (.int (Int32.ofNat i)), (.ref b51)])) _
          refine XS.bipush X.here hx rfl (hb hby own_d1_140) ?_
          show Steps p.tables e below (T.setTop (mkF m 142 #[.val (.ref r0), .val (.int p1), .val (.int (1 : Int32)), .val (.long (own_hi6 aa bb)), .second, .val (.long (own_lo6 bb cc)), .second, .val (.long cc), .second, .val (.ref b51), .val (.int (Int32.ofNat i))] [(.int (8 : Int32)), (.int ((7 : Int32) - ((Int32.ofNat i) % (8 : Int32)))), (.long (own_lo6 bb cc)), (.int (Int32.ofNat i)), (.ref b51)])) _
          refine XS.imul X.here hx rfl (hb hby own_d1_142) rfl ?_
          show Steps p.tables e below (T.setTop (mkF m 143 #[.val (.ref r0), .val (.int p1), .val (.int (1 : Int32)), .val (.long (own_hi6 aa bb)), .second, .val (.long (own_lo6 bb cc)), .second, .val (.long cc), .second, .val (.ref b51), .val (.int (Int32.ofNat i))] [(.int (((7 : Int32) - ((Int32.ofNat i) % (8 : Int32))) * (8 : Int32))), (.long (own_lo6 bb cc)), (.int (Int32.ofNat i)), (.ref b51)])) _
          refine XS.lushr X.here hx rfl (hb hby own_d1_143) rfl ?_
          show Steps p.tables e below (T.setTop (mkF m 144 #[.val (.ref r0), .val (.int p1), .val (.int (1 : Int32)), .val (.long (own_hi6 aa bb)), .second, .val (.long (own_lo6 bb cc)), .second, .val (.long cc), .second, .val (.ref b51), .val (.int (Int32.ofNat i))] [(.long (((own_lo6 bb cc).toUInt64 >>> ((((7 : Int32) - ((Int32.ofNat i) % (8 : Int32))) * (8 : Int32)) &&& 0x3f).toInt64.toUInt64).toInt64)), (.int (Int32.ofNat i)), (.ref b51)])) _
          refine XS.l2i X.here hx rfl (hb hby own_d1_144) rfl ?_
          show Steps p.tables e below (T.setTop (mkF m 145 #[.val (.ref r0), .val (.int p1), .val (.int (1 : Int32)), .val (.long (own_hi6 aa bb)), .second, .val (.long (own_lo6 bb cc)), .second, .val (.long cc), .second, .val (.ref b51), .val (.int (Int32.ofNat i))] [(.int ((((own_lo6 bb cc).toUInt64 >>> ((((7 : Int32) - ((Int32.ofNat i) % (8 : Int32))) * (8 : Int32)) &&& 0x3f).toInt64.toUInt64).toInt64).toInt32)), (.int (Int32.ofNat i)), (.ref b51)])) _
          refine XS.i2b X.here hx rfl (hb hby own_d1_145) rfl ?_
          show Steps p.tables e below (T.setTop (mkF m 146 #[.val (.ref r0), .val (.int p1), .val (.int (1 : Int32)), .val (.long (own_hi6 aa bb)), .second, .val (.long (own_lo6 bb cc)), .second, .val (.long cc), .second, .val (.ref b51), .val (.int (Int32.ofNat i))] [(.int (((((own_lo6 bb cc).toUInt64 >>> ((((7 : Int32) - ((Int32.ofNat i) % (8 : Int32))) * (8 : Int32)) &&& 0x3f).toInt64.toUInt64).toInt64).toInt32).toInt8.toInt32)), (.int (Int32.ofNat i)), (.ref b51)])) _
          refine st74 _ ?_
          show Steps p.tables e below (T74.setTop (mkF m 147 #[.val (.ref r0), .val (.int p1), .val (.int (1 : Int32)), .val (.long (own_hi6 aa bb)), .second, .val (.long (own_lo6 bb cc)), .second, .val (.long cc), .second, .val (.ref b51), .val (.int (Int32.ofNat i))] [])) _
          refine XS.iinc X74.here hx rfl (hb hby own_d1_147) rfl (l' := #[.val (.ref r0), .val (.int p1), .val (.int (1 : Int32)), .val (.long (own_hi6 aa bb)), .second, .val (.long (own_lo6 bb cc)), .second, .val (.long cc), .second, .val (.ref b51), .val (.int ((Int32.ofNat i) + (1 : Int32)))]) rfl ?_
          show Steps p.tables e below (T74.setTop (mkF m 150 #[.val (.ref r0), .val (.int p1), .val (.int (1 : Int32)), .val (.long (own_hi6 aa bb)), .second, .val (.long (own_lo6 bb cc)), .second, .val (.long cc), .second, .val (.ref b51), .val (.int ((Int32.ofNat i) + (1 : Int32)))] [])) _
          refine XS.goto X74.here hx rfl (pc0 := 150) (pc' := 107) rfl (hb hby own_d1_150) (by decide) (by decide) ?_
          exact h
        have r78 : ((Int32.ofNat i) + (1 : Int32)) = (Int32.ofNat (i + 1)) := own_inc i
        have k79 : ∀ t, Steps p.tables e below (T74.setTop (mkF m 107 #[.val (.ref r0), .val (.int p1), .val (.int (1 : Int32)), .val (.long (own_hi6 aa bb)), .second, .val (.long (own_lo6 bb cc)), .second, .val (.long cc), .second, .val (.ref b51), .val (.int (Int32.ofNat (i + 1)))] [])) t → Steps p.tables e below (T.setTop (mkF m 107 #[.val (.ref r0), .val (.int p1), .val (.int (1 : Int32)), .val (.long (own_hi6 aa bb)), .second, .val (.long (own_lo6 bb cc)), .second, .val (.long cc), .second, .val (.ref b51), .val (.int (Int32.ofNat i))] [])) t := by first | (rw [← r78]; exact k77) | exact k77
        obtain ⟨T80, h80, L80, X80, e80, N80, Z80, K80, f80_0, k80⟩ := ih (i + 1) (by omega)  T74 _ _ X74 e74 N74 Z75 K76 (own_BA.congr V74 (fun j _ => own_upd 16 i (own_f (own_hi6 aa bb) (own_lo6 bb cc)) _ (by rw [own_f, if_neg c123_66]; rfl) j))
        exact ⟨T80, h80, L80, X80, e80, N80, Z80, K80, f80_0, fun t q => k79 t (k80 t q)⟩
  obtain ⟨T81, h81, L81, X81, e81, N81, Z81, K81, f81_0, k81⟩ := lp57 (16) 0 (by first | rfl | omega)  T51 _ _ X51 e51 N0 Z53 K54 (own_BA.congr V51 (fun j _ => rfl))
  have k82 : ∀ t, Steps p.tables e below (T81.setTop (mkF m 153 #[.val (.ref r0), .val (.int p1), .val (.int (1 : Int32)), .val (.long (own_hi6 aa bb)), .second, .val (.long (own_lo6 bb cc)), .second, .val (.long cc), .second, .val (.ref b51), .val (.int (Int32.ofNat (16)))] [])) t → Steps p.tables e below (s₁.setTop (mkF m 0 #[.val (.ref r0), .val (.int p1), .unset, .unset, .unset, .unset, .unset, .unset, .unset, .unset, .unset] [])) t := fun t q => k56 t (k81 t q)
  have f83 := own_BA.congr (g := own_f (own_hi6 aa bb) (own_lo6 bb cc)) f81_0 (fun j hj => if_pos hj)
  obtain ⟨T84, h84, X84, e84, E84, A84, D84, -, st84⟩ := newO X81 hx hZ hown (hw _ (List.mem_of_getElem? (i := 9) rfl)) (hw _ (List.mem_of_getElem? (i := 10) rfl)) (hw _ (List.mem_of_getElem? (i := 6) rfl)) e81 (g := (mkF m 153 #[.val (.ref r0), .val (.int p1), .val (.int (1 : Int32)), .val (.long (own_hi6 aa bb)), .second, .val (.long (own_lo6 bb cc)), .second, .val (.long cc), .second, .val (.ref b51), .val (.int (Int32.ofNat (16)))] [])) rfl (hb hby own_d1_153) (by decide) (by decide)
  obtain ⟨b84, g84⟩ : ∃ z, z = h81.size := ⟨_, rfl⟩
  rw [← g84] at A84 D84 st84
  have ne_b51_b84 : b51 ≠ b84 := Nat.ne_of_lt (Nat.lt_of_lt_of_le f83.lt (Nat.le_of_eq g84.symm))
  have g_b84 : n0 ≤ b84 := Nat.le_trans Z81 (Nat.le_of_eq g84.symm)
  have sz_b84 : h0.size ≤ b84 := Nat.le_trans K81.1 (Nat.le_of_eq g84.symm)
  have f85 := f83.ext E84
  have Z86 : n0 ≤ h84.size := Nat.le_trans Z81 E84.1
  have K87 := K81.ext E84
  have f88 : Fld Z h84 b84 "com/example/mynah/mynah/rpsl/PrefixRange" "address" "[B" .null := D84 (Or.inr (hw _ (List.mem_of_getElem? (i := 19) rfl))) (ty := (.array .byte)) (by decide)
  have f89 : Fld Z h84 b84 "com/example/mynah/mynah/rpsl/PrefixRange" "length" "I" (.int (0 : Int32)) := D84 (Or.inr (hw _ (List.mem_of_getElem? (i := 21) rfl))) (ty := .int) (by decide)
  have f90 : Fld Z h84 b84 "com/example/mynah/mynah/rpsl/PrefixRange" "least" "I" (.int (0 : Int32)) := D84 (Or.inr (hw _ (List.mem_of_getElem? (i := 23) rfl))) (ty := .int) (by decide)
  have f91 : Fld Z h84 b84 "com/example/mynah/mynah/rpsl/PrefixRange" "most" "I" (.int (0 : Int32)) := D84 (Or.inr (hw _ (List.mem_of_getElem? (i := 25) rfl))) (ty := .int) (by decide)
  obtain ⟨_, _, ⟨T92, L92, k92, n92⟩, -, X92, ⟨Lc92, hQ92, l92, y92, z92⟩, st92⟩ := X84.specialBack hx (y := (⟨"com/example/mynah/mynah/rpsl/PrefixRange", "<init>", "([BIII)V"⟩ : MethodName)) rfl hown (mvT hZ (hw _ (List.mem_of_getElem? (i := 12) rfl))) (mvT hZ (hw _ (List.mem_of_getElem? (i := 13) rfl))) (mvT hZ (hw _ (List.mem_of_getElem? (i := 14) rfl))) (by decide) (backOf (W := 1) (rmI l Z a0 hw [] b84 b51 ((((cc.toUInt64 >>> ((16 : Int32) &&& 0x3f).toInt64.toUInt64).toInt64) &&& (255 : Int64)).toInt32) ((((cc.toUInt64 >>> ((8 : Int32) &&& 0x3f).toInt64.toUInt64).toInt64) &&& (255 : Int64)).toInt32) ((cc.toInt32) &&& (255 : Int32))  h84 n0 Z86 f88 f89 f90 f91 A84 g_b84) hZ (hw _ (List.mem_of_getElem? (i := 14) rfl)) (hw _ (List.mem_of_getElem? (i := 6) rfl)) (by decide) (by decide)) (g := (mkF m 186 #[.val (.ref r0), .val (.int p1), .val (.int (1 : Int32)), .val (.long (own_hi6 aa bb)), .second, .val (.long (own_lo6 bb cc)), .second, .val (.long cc), .second, .val (.ref b51), .val (.int (Int32.ofNat (16)))] [(.int ((cc.toInt32) &&& (255 : Int32))), (.int ((((cc.toUInt64 >>> ((8 : Int32) &&& 0x3f).toInt64.toUInt64).toInt64) &&& (255 : Int64)).toInt32)), (.int ((((cc.toUInt64 >>> ((16 : Int32) &&& 0x3f).toInt64.toUInt64).toInt64) &&& (255 : Int64)).toInt32)), (.ref b51), (.ref b84), (.ref b84)])) rfl (by rw [hml]; rfl) (Steps.refl _) (a := b84) (argsL := [(.ref b51), (.int ((((cc.toUInt64 >>> ((16 : Int32) &&& 0x3f).toInt64.toUInt64).toInt64) &&& (255 : Int64)).toInt32)), (.int ((((cc.toUInt64 >>> ((8 : Int32) &&& 0x3f).toInt64.toUInt64).toInt64) &&& (255 : Int64)).toInt32)), (.int ((cc.toInt32) &&& (255 : Int32)))]) (rest := [(.ref b84)]) (lenOf own_pd_0 rfl) rfl (by show 2 * 0 + _ ≤ _; exact Nat.le_of_eq rfl) (hb hby own_d1_186) (fun _ _ => ⟨rfl, e84, (by decide : 2 + 0 ≤ _), (by decide : 20 + 0 ≤ _)⟩)
  dsimp only [Pt.U, Pt.locs, Pt.cells, Pt.slots] at X92 l92 y92 z92 st92 hQ92
  subst l92 y92 z92
  obtain ⟨rfl, Nq92, Kq92, Fq920, Fq921, Fq922, Fq923⟩ := hQ92
  have N92 := Fr.app N81 Nq92
  have f93 := f85.keep Kq92 (ninS ne_b51_b84 nin0)
  have f94 := A84.keep Kq92
  have Z95 : n0 ≤ T92.heap.size := Nat.le_trans Z86 Kq92.1
  have K96 := K87.trans Kq92 (allS (Or.inr sz_b84) all0)
  have k97 : ∀ t, Steps p.tables e below (T92.setTop (mkF m 189 #[.val (.ref r0), .val (.int p1), .val (.int (1 : Int32)), .val (.long (own_hi6 aa bb)), .second, .val (.long (own_lo6 bb cc)), .second, .val (.long cc), .second, .val (.ref b51), .val (.int (Int32.ofNat (16)))] [(.ref b84)])) t → Steps p.tables e below (s₁.setTop (mkF m 0 #[.val (.ref r0), .val (.int p1), .unset, .unset, .unset, .unset, .unset, .unset, .unset, .unset, .unset] [])) t := by
    intro t h
    refine k82 t ?_
    show Steps p.tables e below (T81.setTop (mkF m 153 #[.val (.ref r0), .val (.int p1), .val (.int (1 : Int32)), .val (.long (own_hi6 aa bb)), .second, .val (.long (own_lo6 bb cc)), .second, .val (.long cc), .second, .val (.ref b51), .val (.int (Int32.ofNat (16)))] [])) _
    refine st84 _ ?_
    show Steps p.tables e below (T84.setTop (mkF m 156 #[.val (.ref r0), .val (.int p1), .val (.int (1 : Int32)), .val (.long (own_hi6 aa bb)), .second, .val (.long (own_lo6 bb cc)), .second, .val (.long cc), .second, .val (.ref b51), .val (.int (Int32.ofNat (16)))] [(.ref b84)])) _
    refine XS.dup X84.here hx rfl (hb hby own_d1_156) rfl rfl ?_
    show Steps p.tables e below (T84.setTop (mkF m 157 #[.val (.ref r0), .val (.int p1), .val (.int (1 : Int32)), .val (.long (own_hi6 aa bb)), .second, .val (.long (own_lo6 bb cc)), .second, .val (.long cc), .second, .val (.ref b51), .val (.int (Int32.ofNat (16)))] [(.ref b84), (.ref b84)])) _
    refine XS.aload X84.here hx rfl (hb hby own_d1_157) rfl rfl ?_
    show Steps p.tables e below (T84.setTop (mkF m 159 #[.val (.ref r0), .val (.int p1), .val (.int (1 : Int32)), .val (.long (own_hi6 aa bb)), .second, .val (.long (own_lo6 bb cc)), .second, .val (.long cc), .second, .val (.ref b51), .val (.int (Int32.ofNat (16)))] [(.ref b51), (.ref b84), (.ref b84)])) _
    refine XS.lload X84.here hx rfl (hb hby own_d1_159) rfl ?_
    show Steps p.tables e below (T84.setTop (mkF m 161 #[.val (.ref r0), .val (.int p1), .val (.int (1 : Int32)), .val (.long (own_hi6 aa bb)), .second, .val (.long (own_lo6 bb cc)), .second, .val (.long cc), .second, .val (.ref b51), .val (.int (Int32.ofNat (16)))] [(.long cc), (.ref b51), (.ref b84), (.ref b84)])) _
    refine XS.bipush X84.here hx rfl (hb hby own_d1_161) ?_
    show Steps p.tables e below (T84.setTop (mkF m 163 #[.val (.ref r0), .val (.int p1), .val (.int (1 : Int32)), .val (.long (own_hi6 aa bb)), .second, .val (.long (own_lo6 bb cc)), .second, .val (.long cc), .second, .val (.ref b51), .val (.int (Int32.ofNat (16)))] [(.int (16 : Int32)), (.long cc), (.ref b51), (.ref b84), (.ref b84)])) _
    refine XS.lushr X84.here hx rfl (hb hby own_d1_163) rfl ?_
    show Steps p.tables e below (T84.setTop (mkF m 164 #[.val (.ref r0), .val (.int p1), .val (.int (1 : Int32)), .val (.long (own_hi6 aa bb)), .second, .val (.long (own_lo6 bb cc)), .second, .val (.long cc), .second, .val (.ref b51), .val (.int (Int32.ofNat (16)))] [(.long ((cc.toUInt64 >>> ((16 : Int32) &&& 0x3f).toInt64.toUInt64).toInt64)), (.ref b51), (.ref b84), (.ref b84)])) _
    refine X84.ldc2Long hx hown (mvT hZ (hw _ (List.mem_of_getElem? (i := 11) rfl))) (g := (mkF m 164 #[.val (.ref r0), .val (.int p1), .val (.int (1 : Int32)), .val (.long (own_hi6 aa bb)), .second, .val (.long (own_lo6 bb cc)), .second, .val (.long cc), .second, .val (.ref b51), .val (.int (Int32.ofNat (16)))] [(.long ((cc.toUInt64 >>> ((16 : Int32) &&& 0x3f).toInt64.toUInt64).toInt64)), (.ref b51), (.ref b84), (.ref b84)])) rfl (hb hby own_d1_164) _ ?_
    show Steps p.tables e below (T84.setTop (mkF m 167 #[.val (.ref r0), .val (.int p1), .val (.int (1 : Int32)), .val (.long (own_hi6 aa bb)), .second, .val (.long (own_lo6 bb cc)), .second, .val (.long cc), .second, .val (.ref b51), .val (.int (Int32.ofNat (16)))] [(.long (255 : Int64)), (.long ((cc.toUInt64 >>> ((16 : Int32) &&& 0x3f).toInt64.toUInt64).toInt64)), (.ref b51), (.ref b84), (.ref b84)])) _
    refine XS.land X84.here hx rfl (hb hby own_d1_167) rfl ?_
    show Steps p.tables e below (T84.setTop (mkF m 168 #[.val (.ref r0), .val (.int p1), .val (.int (1 : Int32)), .val (.long (own_hi6 aa bb)), .second, .val (.long (own_lo6 bb cc)), .second, .val (.long cc), .second, .val (.ref b51), .val (.int (Int32.ofNat (16)))] [(.long (((cc.toUInt64 >>> ((16 : Int32) &&& 0x3f).toInt64.toUInt64).toInt64) &&& (255 : Int64))), (.ref b51), (.ref b84), (.ref b84)])) _
    refine XS.l2i X84.here hx rfl (hb hby own_d1_168) rfl ?_
    show Steps p.tables e below (T84.setTop (mkF m 169 #[.val (.ref r0), .val (.int p1), .val (.int (1 : Int32)), .val (.long (own_hi6 aa bb)), .second, .val (.long (own_lo6 bb cc)), .second, .val (.long cc), .second, .val (.ref b51), .val (.int (Int32.ofNat (16)))] [(.int ((((cc.toUInt64 >>> ((16 : Int32) &&& 0x3f).toInt64.toUInt64).toInt64) &&& (255 : Int64)).toInt32)), (.ref b51), (.ref b84), (.ref b84)])) _
    refine XS.lload X84.here hx rfl (hb hby own_d1_169) rfl ?_
    show Steps p.tables e below (T84.setTop (mkF m 171 #[.val (.ref r0), .val (.int p1), .val (.int (1 : Int32)), .val (.long (own_hi6 aa bb)), .second, .val (.long (own_lo6 bb cc)), .second, .val (.long cc), .second, .val (.ref b51), .val (.int (Int32.ofNat (16)))] [(.long cc), (.int ((((cc.toUInt64 >>> ((16 : Int32) &&& 0x3f).toInt64.toUInt64).toInt64) &&& (255 : Int64)).toInt32)), (.ref b51), (.ref b84), (.ref b84)])) _
    refine XS.bipush X84.here hx rfl (hb hby own_d1_171) ?_
    show Steps p.tables e below (T84.setTop (mkF m 173 #[.val (.ref r0), .val (.int p1), .val (.int (1 : Int32)), .val (.long (own_hi6 aa bb)), .second, .val (.long (own_lo6 bb cc)), .second, .val (.long cc), .second, .val (.ref b51), .val (.int (Int32.ofNat (16)))] [(.int (8 : Int32)), (.long cc), (.int ((((cc.toUInt64 >>> ((16 : Int32) &&& 0x3f).toInt64.toUInt64).toInt64) &&& (255 : Int64)).toInt32)), (.ref b51), (.ref b84), (.ref b84)])) _
    refine XS.lushr X84.here hx rfl (hb hby own_d1_173) rfl ?_
    show Steps p.tables e below (T84.setTop (mkF m 174 #[.val (.ref r0), .val (.int p1), .val (.int (1 : Int32)), .val (.long (own_hi6 aa bb)), .second, .val (.long (own_lo6 bb cc)), .second, .val (.long cc), .second, .val (.ref b51), .val (.int (Int32.ofNat (16)))] [(.long ((cc.toUInt64 >>> ((8 : Int32) &&& 0x3f).toInt64.toUInt64).toInt64)), (.int ((((cc.toUInt64 >>> ((16 : Int32) &&& 0x3f).toInt64.toUInt64).toInt64) &&& (255 : Int64)).toInt32)), (.ref b51), (.ref b84), (.ref b84)])) _
    refine X84.ldc2Long hx hown (mvT hZ (hw _ (List.mem_of_getElem? (i := 11) rfl))) (g := (mkF m 174 #[.val (.ref r0), .val (.int p1), .val (.int (1 : Int32)), .val (.long (own_hi6 aa bb)), .second, .val (.long (own_lo6 bb cc)), .second, .val (.long cc), .second, .val (.ref b51), .val (.int (Int32.ofNat (16)))] [(.long ((cc.toUInt64 >>> ((8 : Int32) &&& 0x3f).toInt64.toUInt64).toInt64)), (.int ((((cc.toUInt64 >>> ((16 : Int32) &&& 0x3f).toInt64.toUInt64).toInt64) &&& (255 : Int64)).toInt32)), (.ref b51), (.ref b84), (.ref b84)])) rfl (hb hby own_d1_174) _ ?_
    show Steps p.tables e below (T84.setTop (mkF m 177 #[.val (.ref r0), .val (.int p1), .val (.int (1 : Int32)), .val (.long (own_hi6 aa bb)), .second, .val (.long (own_lo6 bb cc)), .second, .val (.long cc), .second, .val (.ref b51), .val (.int (Int32.ofNat (16)))] [(.long (255 : Int64)), (.long ((cc.toUInt64 >>> ((8 : Int32) &&& 0x3f).toInt64.toUInt64).toInt64)), (.int ((((cc.toUInt64 >>> ((16 : Int32) &&& 0x3f).toInt64.toUInt64).toInt64) &&& (255 : Int64)).toInt32)), (.ref b51), (.ref b84), (.ref b84)])) _
    refine XS.land X84.here hx rfl (hb hby own_d1_177) rfl ?_
    show Steps p.tables e below (T84.setTop (mkF m 178 #[.val (.ref r0), .val (.int p1), .val (.int (1 : Int32)), .val (.long (own_hi6 aa bb)), .second, .val (.long (own_lo6 bb cc)), .second, .val (.long cc), .second, .val (.ref b51), .val (.int (Int32.ofNat (16)))] [(.long (((cc.toUInt64 >>> ((8 : Int32) &&& 0x3f).toInt64.toUInt64).toInt64) &&& (255 : Int64))), (.int ((((cc.toUInt64 >>> ((16 : Int32) &&& 0x3f).toInt64.toUInt64).toInt64) &&& (255 : Int64)).toInt32)), (.ref b51), (.ref b84), (.ref b84)])) _
    refine XS.l2i X84.here hx rfl (hb hby own_d1_178) rfl ?_
    show Steps p.tables e below (T84.setTop (mkF m 179 #[.val (.ref r0), .val (.int p1), .val (.int (1 : Int32)), .val (.long (own_hi6 aa bb)), .second, .val (.long (own_lo6 bb cc)), .second, .val (.long cc), .second, .val (.ref b51), .val (.int (Int32.ofNat (16)))] [(.int ((((cc.toUInt64 >>> ((8 : Int32) &&& 0x3f).toInt64.toUInt64).toInt64) &&& (255 : Int64)).toInt32)), (.int ((((cc.toUInt64 >>> ((16 : Int32) &&& 0x3f).toInt64.toUInt64).toInt64) &&& (255 : Int64)).toInt32)), (.ref b51), (.ref b84), (.ref b84)])) _
    refine XS.lload X84.here hx rfl (hb hby own_d1_179) rfl ?_
    show Steps p.tables e below (T84.setTop (mkF m 181 #[.val (.ref r0), .val (.int p1), .val (.int (1 : Int32)), .val (.long (own_hi6 aa bb)), .second, .val (.long (own_lo6 bb cc)), .second, .val (.long cc), .second, .val (.ref b51), .val (.int (Int32.ofNat (16)))] [(.long cc), (.int ((((cc.toUInt64 >>> ((8 : Int32) &&& 0x3f).toInt64.toUInt64).toInt64) &&& (255 : Int64)).toInt32)), (.int ((((cc.toUInt64 >>> ((16 : Int32) &&& 0x3f).toInt64.toUInt64).toInt64) &&& (255 : Int64)).toInt32)), (.ref b51), (.ref b84), (.ref b84)])) _
    refine XS.l2i X84.here hx rfl (hb hby own_d1_181) rfl ?_
    show Steps p.tables e below (T84.setTop (mkF m 182 #[.val (.ref r0), .val (.int p1), .val (.int (1 : Int32)), .val (.long (own_hi6 aa bb)), .second, .val (.long (own_lo6 bb cc)), .second, .val (.long cc), .second, .val (.ref b51), .val (.int (Int32.ofNat (16)))] [(.int (cc.toInt32)), (.int ((((cc.toUInt64 >>> ((8 : Int32) &&& 0x3f).toInt64.toUInt64).toInt64) &&& (255 : Int64)).toInt32)), (.int ((((cc.toUInt64 >>> ((16 : Int32) &&& 0x3f).toInt64.toUInt64).toInt64) &&& (255 : Int64)).toInt32)), (.ref b51), (.ref b84), (.ref b84)])) _
    refine XS.sipush X84.here hx rfl (hb hby own_d1_182) ?_
    show Steps p.tables e below (T84.setTop (mkF m 185 #[.val (.ref r0), .val (.int p1), .val (.int (1 : Int32)), .val (.long (own_hi6 aa bb)), .second, .val (.long (own_lo6 bb cc)), .second, .val (.long cc), .second, .val (.ref b51), .val (.int (Int32.ofNat (16)))] [(.int (255 : Int32)), (.int (cc.toInt32)), (.int ((((cc.toUInt64 >>> ((8 : Int32) &&& 0x3f).toInt64.toUInt64).toInt64) &&& (255 : Int64)).toInt32)), (.int ((((cc.toUInt64 >>> ((16 : Int32) &&& 0x3f).toInt64.toUInt64).toInt64) &&& (255 : Int64)).toInt32)), (.ref b51), (.ref b84), (.ref b84)])) _
    refine XS.iand X84.here hx rfl (hb hby own_d1_185) rfl ?_
    show Steps p.tables e below (T84.setTop (mkF m 186 #[.val (.ref r0), .val (.int p1), .val (.int (1 : Int32)), .val (.long (own_hi6 aa bb)), .second, .val (.long (own_lo6 bb cc)), .second, .val (.long cc), .second, .val (.ref b51), .val (.int (Int32.ofNat (16)))] [(.int ((cc.toInt32) &&& (255 : Int32))), (.int ((((cc.toUInt64 >>> ((8 : Int32) &&& 0x3f).toInt64.toUInt64).toInt64) &&& (255 : Int64)).toInt32)), (.int ((((cc.toUInt64 >>> ((16 : Int32) &&& 0x3f).toInt64.toUInt64).toInt64) &&& (255 : Int64)).toInt32)), (.ref b51), (.ref b84), (.ref b84)])) _
    refine st92.trans ?_
    exact h
  obtain ⟨fs, hr, hrun, hended, hW, hsame⟩ := X92.leave (v := some (.ref b84)) (fun h => by rw [Bd.returns] at h; cases h) Bd.notSynchronized
  refine ⟨_, _, pre0 _ (k97 _ ?_), hrun, hended, _, _, rfl, ?_, ⟨_, rfl⟩, hW, hsame.mono (by decide) (by decide)⟩
  · jvm_step X92.here [X92.here.top, hx, (hb hby own_d1_189), X92.method', Bd.returns, Value.isRef, FieldType.isReference]
    first | (intro acts; rw [hr _ acts rfl rfl rfl]) | rw [hr _ _ rfl rfl rfl]
    exact Steps.refl _
  · show Q_rmK6 Z _ _ _ _ _ _ _ h0 n0 _ T92.heap _
    exact ⟨b84, b51, rfl, N92, K96, f94, Fq920, f93, Fq921, Fq922, Fq923⟩
def Q_rmK4 (Z : State) (r0 : Addr) (p1 : Int32) (n : Nat) (fk : Nat → Int64) (aa : Int64) (h0 : Heap) (n0 : Nat) (v : Option Value) (h : Heap) (L : List Loc) : Prop := ∃ (b ba : Addr), v = some (.ref b) ∧ Fr n0 L ∧ Keep h0 h [] ∧ Exa Z h b "com/example/mynah/mynah/rpsl/PrefixRange" ∧ Fld Z h b "com/example/mynah/mynah/rpsl/PrefixRange" "address" "[B" (.ref ba) ∧ own_BA Z h ba 4 (own_f (own_hi4 aa) (0 : Int64)) ∧ Fld Z h b "com/example/mynah/mynah/rpsl/PrefixRange" "length" "I" (.int (own_len aa)) ∧ Fld Z h b "com/example/mynah/mynah/rpsl/PrefixRange" "least" "I" (.int (own_lea aa)) ∧ Fld Z h b "com/example/mynah/mynah/rpsl/PrefixRange" "most" "I" (.int (own_mos aa))
set_option maxRecDepth 65536 in
set_option maxHeartbeats 40000000 in
theorem rmK4 (l : Launch) (Z : State) (a0 : Array Value) (hw : ∀ d ∈ tables_1, d.before a0 Z = true) (ws : List Jvm.Cond) (r0 : Addr) (p1 : Int32) (n : Nat) (fk : Nat → Int64) (aa : Int64) (h0 : Heap) (n0 : Nat) (Z0 : n0 ≤ h0.size) (A1 : own_LA Z h0 r0 5 fk) (hp1 : p1 = Int32.ofNat n) (hn : n < 3) (hka : fk n = aa) (hs : ¬ lcmpW aa (0 : Int64) < 0) :
    MetFree l (⟨"com/example/mynah/mynah/rpsl/PrefixRange", "ofKey", "([JI)Lcom/example/mynah/mynah/rpsl/PrefixRange;"⟩ : MethodName) (head1 (Jvm.Cond.code (⟨"com/example/mynah/mynah/rpsl/PrefixRange", "ofKey", "([JI)Lcom/example/mynah/mynah/rpsl/PrefixRange;"⟩ : MethodName) prog_50_method_4_code 11 (some (.object "com/example/mynah/mynah/rpsl/PrefixRange")) :: ws) ({ frames := 2, cells := 2, slots := 8, locals := 29 } : Room)) (fun a U => a = #[(.ref r0), (.int p1)] ∧ Z.Warmed39 U.vm ∧ U.heap = h0) (fun _ _ _ _ _ => True) (fun _ U o U' => ∃ v L, o = .returned v ∧ Q_rmK4 Z r0 p1 n fk aa h0 n0 v U'.heap L ∧ FrameEnd U o U' L ({ frames := 2, cells := 2, slots := 8, locals := 29 } : Room).cells ({ frames := 2, cells := 2, slots := 8, locals := 29 } : Room).slots) := by
  refine MetFree.of_bodySF (plainFor_of_name own_pn_0) hisR ?_
  intro p e s m args below meth c s₁ Bd hml0 hP hK
  obtain ⟨rfl, hZ, hh⟩ := hP
  have hx := Bd.exec
  have hby := Bd.bytes
  have hml : c.maxLocals = 11 := hml0
  have hown : s.vm.findClass "com/example/mynah/mynah/rpsl/PrefixRange" = some m.cls := findClass_of_methodNamed Bd.named
  have hnm := (name_of_methodNamed Bd.named Bd.method).1
  have X0 : Stand p l e ({ frames := 2, cells := 2, slots := 8, locals := 29 } : Room) s m #[(.ref r0), (.int p1)] below meth c s₁ [] 0 0 := Stand.of_body Bd
  have e0 : s₁.heap = h0 := by rw [← hh, Bd.state]; rfl
  have N0 := Fr.nil n0
  have K0 : Keep h0 h0 [] := Keep.refl h0 _
  have pre0 : ∀ t, Steps p.tables e below (s₁.setTop (mkF m 0 #[.val (.ref r0), .val (.int p1), .unset, .unset, .unset, .unset, .unset, .unset, .unset, .unset, .unset] [])) t → Steps p.tables e below (s₁.setTop (entryFrame m #[(.ref r0), (.int p1)] 11)) t := fun t k => castTop (own_ef_1 m r0 p1) k
  obtain ⟨cl98, Ar98, hin98, hat98⟩ := own_LA.at (i := n) (j := p1) A1 hp1 (by omega) (by decide)
  have k99 : ∀ t, Steps p.tables e below (s₁.setTop (mkF m 5 #[.val (.ref r0), .val (.int p1), .unset, .unset, .unset, .unset, .unset, .unset, .unset, .unset, .unset] [(.int (lcmpW aa (0 : Int64)))])) t → Steps p.tables e below (s₁.setTop (mkF m 0 #[.val (.ref r0), .val (.int p1), .unset, .unset, .unset, .unset, .unset, .unset, .unset, .unset, .unset] [])) t := by
    intro t h
    show Steps p.tables e below (s₁.setTop (mkF m 0 #[.val (.ref r0), .val (.int p1), .unset, .unset, .unset, .unset, .unset, .unset, .unset, .unset, .unset] [])) _
    refine XS.aloadN X0.here hx rfl (hb hby own_d1_0) rfl rfl ?_
    show Steps p.tables e below (s₁.setTop (mkF m 1 #[.val (.ref r0), .val (.int p1), .unset, .unset, .unset, .unset, .unset, .unset, .unset, .unset, .unset] [(.ref r0)])) _
    refine XS.iloadN X0.here hx rfl (hb hby own_d1_1) rfl ?_
    show Steps p.tables e below (s₁.setTop (mkF m 2 #[.val (.ref r0), .val (.int p1), .unset, .unset, .unset, .unset, .unset, .unset, .unset, .unset, .unset] [(.int p1), (.ref r0)])) _
    refine X0.laload hx (j := p1) (v := (.long aa)) (by rw [e0]; exact Ar98.1) (State.isArrayOf_alike hZ.alike Ar98.2.1) Ar98.2.2 hin98 (by rw [← hka]; exact hat98) (g := (mkF m 2 #[.val (.ref r0), .val (.int p1), .unset, .unset, .unset, .unset, .unset, .unset, .unset, .unset, .unset] [(.int p1), (.ref r0)])) rfl rfl (hb hby own_d1_2) _ ?_
    show Steps p.tables e below (s₁.setTop (mkF m 3 #[.val (.ref r0), .val (.int p1), .unset, .unset, .unset, .unset, .unset, .unset, .unset, .unset, .unset] [(.long aa)])) _
    refine XS.lconst X0.here hx rfl (hb hby own_d1_3) ?_
    show Steps p.tables e below (s₁.setTop (mkF m 4 #[.val (.ref r0), .val (.int p1), .unset, .unset, .unset, .unset, .unset, .unset, .unset, .unset, .unset] [(.long (0 : Int64)), (.long aa)])) _
    refine XS.lcmp X0.here hx rfl (hb hby own_d1_4) rfl ?_
    exact h
  have b5_100 : ¬ ((lcmpW aa (0 : Int64)) < (0 : Int32)) := hs
  have k101 : ∀ t, Steps p.tables e below (s₁.setTop (mkF m 15 #[.val (.ref r0), .val (.int p1), .val (.int (0 : Int32)), .unset, .unset, .unset, .unset, .unset, .unset, .unset, .unset] [(.int (0 : Int32))])) t → Steps p.tables e below (s₁.setTop (mkF m 0 #[.val (.ref r0), .val (.int p1), .unset, .unset, .unset, .unset, .unset, .unset, .unset, .unset, .unset] [])) t := by
    intro t h
    refine k99 t ?_
    show Steps p.tables e below (s₁.setTop (mkF m 5 #[.val (.ref r0), .val (.int p1), .unset, .unset, .unset, .unset, .unset, .unset, .unset, .unset, .unset] [(.int (lcmpW aa (0 : Int64)))])) _
    refine XS.ifYes X0.here hx rfl (pc0 := 5) (pc' := 12) rfl (hb hby own_d1_5) rfl ((if0 _ _).trans (flt b5_100).2.1) (by decide) (by decide) ?_
    show Steps p.tables e below (s₁.setTop (mkF m 12 #[.val (.ref r0), .val (.int p1), .unset, .unset, .unset, .unset, .unset, .unset, .unset, .unset, .unset] [])) _
    refine XS.iconst X0.here hx rfl (hb hby own_d1_12) ?_
    show Steps p.tables e below (s₁.setTop (mkF m 13 #[.val (.ref r0), .val (.int p1), .unset, .unset, .unset, .unset, .unset, .unset, .unset, .unset, .unset] [(.int (0 : Int32))])) _
    refine XS.istoreN X0.here hx rfl (hb hby own_d1_13) rfl (l' := #[.val (.ref r0), .val (.int p1), .val (.int (0 : Int32)), .unset, .unset, .unset, .unset, .unset, .unset, .unset, .unset]) rfl ?_
    show Steps p.tables e below (s₁.setTop (mkF m 14 #[.val (.ref r0), .val (.int p1), .val (.int (0 : Int32)), .unset, .unset, .unset, .unset, .unset, .unset, .unset, .unset] [])) _
    refine XS.iloadN X0.here hx rfl (hb hby own_d1_14) rfl ?_
    exact h
  obtain ⟨cl102, Ar102, hin102, hat102⟩ := own_LA.at (i := n) (j := p1) A1 hp1 (by omega) (by decide)
  have k103 : ∀ t, Steps p.tables e below (s₁.setTop (mkF m 45 #[.val (.ref r0), .val (.int p1), .val (.int (0 : Int32)), .val (.long (((aa.toUInt64 >>> ((31 : Int32) &&& 0x3f).toInt64.toUInt64).toInt64) <<< ((32 : Int32) &&& 0x3f).toInt64)), .second, .unset, .unset, .unset, .unset, .unset, .unset] [])) t → Steps p.tables e below (s₁.setTop (mkF m 0 #[.val (.ref r0), .val (.int p1), .unset, .unset, .unset, .unset, .unset, .unset, .unset, .unset, .unset] [])) t := by
    intro t h
    refine k101 t ?_
    show Steps p.tables e below (s₁.setTop (mkF m 15 #[.val (.ref r0), .val (.int p1), .val (.int (0 : Int32)), .unset, .unset, .unset, .unset, .unset, .unset, .unset, .unset] [(.int (0 : Int32))])) _
    refine XS.ifYes X0.here hx rfl (pc0 := 15) (pc' := 35) rfl (hb hby own_d1_15) rfl ((if0 _ _).trans (teq (by decide : (0 : Int32) = (0 : Int32))).1) (by decide) (by decide) ?_
    show Steps p.tables e below (s₁.setTop (mkF m 35 #[.val (.ref r0), .val (.int p1), .val (.int (0 : Int32)), .unset, .unset, .unset, .unset, .unset, .unset, .unset, .unset] [])) _
    refine XS.aloadN X0.here hx rfl (hb hby own_d1_35) rfl rfl ?_
    show Steps p.tables e below (s₁.setTop (mkF m 36 #[.val (.ref r0), .val (.int p1), .val (.int (0 : Int32)), .unset, .unset, .unset, .unset, .unset, .unset, .unset, .unset] [(.ref r0)])) _
    refine XS.iloadN X0.here hx rfl (hb hby own_d1_36) rfl ?_
    show Steps p.tables e below (s₁.setTop (mkF m 37 #[.val (.ref r0), .val (.int p1), .val (.int (0 : Int32)), .unset, .unset, .unset, .unset, .unset, .unset, .unset, .unset] [(.int p1), (.ref r0)])) _
    refine X0.laload hx (j := p1) (v := (.long aa)) (by rw [e0]; exact Ar102.1) (State.isArrayOf_alike hZ.alike Ar102.2.1) Ar102.2.2 hin102 (by rw [← hka]; exact hat102) (g := (mkF m 37 #[.val (.ref r0), .val (.int p1), .val (.int (0 : Int32)), .unset, .unset, .unset, .unset, .unset, .unset, .unset, .unset] [(.int p1), (.ref r0)])) rfl rfl (hb hby own_d1_37) _ ?_
    show Steps p.tables e below (s₁.setTop (mkF m 38 #[.val (.ref r0), .val (.int p1), .val (.int (0 : Int32)), .unset, .unset, .unset, .unset, .unset, .unset, .unset, .unset] [(.long aa)])) _
    refine XS.bipush X0.here hx rfl (hb hby own_d1_38) ?_
    show Steps p.tables e below (s₁.setTop (mkF m 40 #[.val (.ref r0), .val (.int p1), .val (.int (0 : Int32)), .unset, .unset, .unset, .unset, .unset, .unset, .unset, .unset] [(.int (31 : Int32)), (.long aa)])) _
    refine XS.lushr X0.here hx rfl (hb hby own_d1_40) rfl ?_
    show Steps p.tables e below (s₁.setTop (mkF m 41 #[.val (.ref r0), .val (.int p1), .val (.int (0 : Int32)), .unset, .unset, .unset, .unset, .unset, .unset, .unset, .unset] [(.long ((aa.toUInt64 >>> ((31 : Int32) &&& 0x3f).toInt64.toUInt64).toInt64))])) _
    refine XS.bipush X0.here hx rfl (hb hby own_d1_41) ?_
    show Steps p.tables e below (s₁.setTop (mkF m 43 #[.val (.ref r0), .val (.int p1), .val (.int (0 : Int32)), .unset, .unset, .unset, .unset, .unset, .unset, .unset, .unset] [(.int (32 : Int32)), (.long ((aa.toUInt64 >>> ((31 : Int32) &&& 0x3f).toInt64.toUInt64).toInt64))])) _
    refine XS.lshl X0.here hx rfl (hb hby own_d1_43) rfl ?_
    show Steps p.tables e below (s₁.setTop (mkF m 44 #[.val (.ref r0), .val (.int p1), .val (.int (0 : Int32)), .unset, .unset, .unset, .unset, .unset, .unset, .unset, .unset] [(.long (((aa.toUInt64 >>> ((31 : Int32) &&& 0x3f).toInt64.toUInt64).toInt64) <<< ((32 : Int32) &&& 0x3f).toInt64))])) _
    refine XS.lstoreN X0.here hx rfl (hb hby own_d1_44) rfl (l' := #[.val (.ref r0), .val (.int p1), .val (.int (0 : Int32)), .val (.long (((aa.toUInt64 >>> ((31 : Int32) &&& 0x3f).toInt64.toUInt64).toInt64) <<< ((32 : Int32) &&& 0x3f).toInt64)), .second, .unset, .unset, .unset, .unset, .unset, .unset]) rfl ?_
    exact h
  have k104 : ∀ t, Steps p.tables e below (s₁.setTop (mkF m 45 #[.val (.ref r0), .val (.int p1), .val (.int (0 : Int32)), .val (.long (own_hi4 aa)), .second, .unset, .unset, .unset, .unset, .unset, .unset] [])) t → Steps p.tables e below (s₁.setTop (mkF m 0 #[.val (.ref r0), .val (.int p1), .unset, .unset, .unset, .unset, .unset, .unset, .unset, .unset, .unset] [])) t := k103
  have k105 : ∀ t, Steps p.tables e below (s₁.setTop (mkF m 46 #[.val (.ref r0), .val (.int p1), .val (.int (0 : Int32)), .val (.long (own_hi4 aa)), .second, .unset, .unset, .unset, .unset, .unset, .unset] [(.int (0 : Int32))])) t → Steps p.tables e below (s₁.setTop (mkF m 0 #[.val (.ref r0), .val (.int p1), .unset, .unset, .unset, .unset, .unset, .unset, .unset, .unset, .unset] [])) t := by
    intro t h
    refine k104 t ?_
    show Steps p.tables e below (s₁.setTop (mkF m 45 #[.val (.ref r0), .val (.int p1), .val (.int (0 : Int32)), .val (.long (own_hi4 aa)), .second, .unset, .unset, .unset, .unset, .unset, .unset] [])) _
    refine XS.iloadN X0.here hx rfl (hb hby own_d1_45) rfl ?_
    exact h
  have k106 : ∀ t, Steps p.tables e below (s₁.setTop (mkF m 73 #[.val (.ref r0), .val (.int p1), .val (.int (0 : Int32)), .val (.long (own_hi4 aa)), .second, .val (.long (0 : Int64)), .second, .unset, .unset, .unset, .unset] [])) t → Steps p.tables e below (s₁.setTop (mkF m 0 #[.val (.ref r0), .val (.int p1), .unset, .unset, .unset, .unset, .unset, .unset, .unset, .unset, .unset] [])) t := by
    intro t h
    refine k105 t ?_
    show Steps p.tables e below (s₁.setTop (mkF m 46 #[.val (.ref r0), .val (.int p1), .val (.int (0 : Int32)), .val (.long (own_hi4 aa)), .second, .unset, .unset, .unset, .unset, .unset, .unset] [(.int (0 : Int32))])) _
    refine XS.ifYes X0.here hx rfl (pc0 := 46) (pc' := 70) rfl (hb hby own_d1_46) rfl ((if0 _ _).trans (teq (by decide : (0 : Int32) = (0 : Int32))).1) (by decide) (by decide) ?_
    show Steps p.tables e below (s₁.setTop (mkF m 70 #[.val (.ref r0), .val (.int p1), .val (.int (0 : Int32)), .val (.long (own_hi4 aa)), .second, .unset, .unset, .unset, .unset, .unset, .unset] [])) _
    refine XS.lconst X0.here hx rfl (hb hby own_d1_70) ?_
    show Steps p.tables e below (s₁.setTop (mkF m 71 #[.val (.ref r0), .val (.int p1), .val (.int (0 : Int32)), .val (.long (own_hi4 aa)), .second, .unset, .unset, .unset, .unset, .unset, .unset] [(.long (0 : Int64))])) _
    refine XS.lstore X0.here hx rfl (hb hby own_d1_71) rfl (l' := #[.val (.ref r0), .val (.int p1), .val (.int (0 : Int32)), .val (.long (own_hi4 aa)), .second, .val (.long (0 : Int64)), .second, .unset, .unset, .unset, .unset]) rfl ?_
    exact h
  have k107 : ∀ t, Steps p.tables e below (s₁.setTop (mkF m 73 #[.val (.ref r0), .val (.int p1), .val (.int (0 : Int32)), .val (.long (own_hi4 aa)), .second, .val (.long (0 : Int64)), .second, .unset, .unset, .unset, .unset] [])) t → Steps p.tables e below (s₁.setTop (mkF m 0 #[.val (.ref r0), .val (.int p1), .unset, .unset, .unset, .unset, .unset, .unset, .unset, .unset, .unset] [])) t := k106
  have k108 : ∀ t, Steps p.tables e below (s₁.setTop (mkF m 74 #[.val (.ref r0), .val (.int p1), .val (.int (0 : Int32)), .val (.long (own_hi4 aa)), .second, .val (.long (0 : Int64)), .second, .unset, .unset, .unset, .unset] [(.int (0 : Int32))])) t → Steps p.tables e below (s₁.setTop (mkF m 0 #[.val (.ref r0), .val (.int p1), .unset, .unset, .unset, .unset, .unset, .unset, .unset, .unset, .unset] [])) t := by
    intro t h
    refine k107 t ?_
    show Steps p.tables e below (s₁.setTop (mkF m 73 #[.val (.ref r0), .val (.int p1), .val (.int (0 : Int32)), .val (.long (own_hi4 aa)), .second, .val (.long (0 : Int64)), .second, .unset, .unset, .unset, .unset] [])) _
    refine XS.iloadN X0.here hx rfl (hb hby own_d1_73) rfl ?_
    exact h
  obtain ⟨cl109, Ar109, hin109, hat109⟩ := own_LA.at (i := n) (j := p1) A1 hp1 (by omega) (by decide)
  have k110 : ∀ t, Steps p.tables e below (s₁.setTop (mkF m 91 #[.val (.ref r0), .val (.int p1), .val (.int (0 : Int32)), .val (.long (own_hi4 aa)), .second, .val (.long (0 : Int64)), .second, .val (.long aa), .second, .unset, .unset] [(.int (0 : Int32))])) t → Steps p.tables e below (s₁.setTop (mkF m 0 #[.val (.ref r0), .val (.int p1), .unset, .unset, .unset, .unset, .unset, .unset, .unset, .unset, .unset] [])) t := by
    intro t h
    refine k108 t ?_
    show Steps p.tables e below (s₁.setTop (mkF m 74 #[.val (.ref r0), .val (.int p1), .val (.int (0 : Int32)), .val (.long (own_hi4 aa)), .second, .val (.long (0 : Int64)), .second, .unset, .unset, .unset, .unset] [(.int (0 : Int32))])) _
    refine XS.ifYes X0.here hx rfl (pc0 := 74) (pc' := 85) rfl (hb hby own_d1_74) rfl ((if0 _ _).trans (teq (by decide : (0 : Int32) = (0 : Int32))).1) (by decide) (by decide) ?_
    show Steps p.tables e below (s₁.setTop (mkF m 85 #[.val (.ref r0), .val (.int p1), .val (.int (0 : Int32)), .val (.long (own_hi4 aa)), .second, .val (.long (0 : Int64)), .second, .unset, .unset, .unset, .unset] [])) _
    refine XS.aloadN X0.here hx rfl (hb hby own_d1_85) rfl rfl ?_
    show Steps p.tables e below (s₁.setTop (mkF m 86 #[.val (.ref r0), .val (.int p1), .val (.int (0 : Int32)), .val (.long (own_hi4 aa)), .second, .val (.long (0 : Int64)), .second, .unset, .unset, .unset, .unset] [(.ref r0)])) _
    refine XS.iloadN X0.here hx rfl (hb hby own_d1_86) rfl ?_
    show Steps p.tables e below (s₁.setTop (mkF m 87 #[.val (.ref r0), .val (.int p1), .val (.int (0 : Int32)), .val (.long (own_hi4 aa)), .second, .val (.long (0 : Int64)), .second, .unset, .unset, .unset, .unset] [(.int p1), (.ref r0)])) _
    refine X0.laload hx (j := p1) (v := (.long aa)) (by rw [e0]; exact Ar109.1) (State.isArrayOf_alike hZ.alike Ar109.2.1) Ar109.2.2 hin109 (by rw [← hka]; exact hat109) (g := (mkF m 87 #[.val (.ref r0), .val (.int p1), .val (.int (0 : Int32)), .val (.long (own_hi4 aa)), .second, .val (.long (0 : Int64)), .second, .unset, .unset, .unset, .unset] [(.int p1), (.ref r0)])) rfl rfl (hb hby own_d1_87) _ ?_
    show Steps p.tables e below (s₁.setTop (mkF m 88 #[.val (.ref r0), .val (.int p1), .val (.int (0 : Int32)), .val (.long (own_hi4 aa)), .second, .val (.long (0 : Int64)), .second, .unset, .unset, .unset, .unset] [(.long aa)])) _
    refine XS.lstore X0.here hx rfl (hb hby own_d1_88) rfl (l' := #[.val (.ref r0), .val (.int p1), .val (.int (0 : Int32)), .val (.long (own_hi4 aa)), .second, .val (.long (0 : Int64)), .second, .val (.long aa), .second, .unset, .unset]) rfl ?_
    show Steps p.tables e below (s₁.setTop (mkF m 90 #[.val (.ref r0), .val (.int p1), .val (.int (0 : Int32)), .val (.long (own_hi4 aa)), .second, .val (.long (0 : Int64)), .second, .val (.long aa), .second, .unset, .unset] [])) _
    refine XS.iloadN X0.here hx rfl (hb hby own_d1_90) rfl ?_
    exact h
  obtain ⟨T111, h111, k111, X111, e111, E111, A111, st111⟩ := newP X0 hx hZ (hw _ (List.mem_of_getElem? (i := 8) rfl)) e0 (g := (mkF m 100 #[.val (.ref r0), .val (.int p1), .val (.int (0 : Int32)), .val (.long (own_hi4 aa)), .second, .val (.long (0 : Int64)), .second, .val (.long aa), .second, .unset, .unset] [(.int (4 : Int32))])) rfl (hb hby own_d1_100) rfl (by decide) (cap := 4) (by decide) (by decide) (by decide) (by decide)
  obtain ⟨b111, g111⟩ : ∃ z, z = h0.size := ⟨_, rfl⟩
  rw [← g111] at A111 st111
  have ne_r0_b111 : r0 ≠ b111 := Nat.ne_of_lt (Nat.lt_of_lt_of_le A1.lt (Nat.le_of_eq g111.symm))
  have g_b111 : n0 ≤ b111 := Nat.le_trans Z0 (Nat.le_of_eq g111.symm)
  have sz_b111 : h0.size ≤ b111 := Nat.le_trans K0.1 (Nat.le_of_eq g111.symm)
  have f112 := A1.ext E111
  have Z113 : n0 ≤ h111.size := Nat.le_trans Z0 E111.1
  have K114 := K0.ext E111
  have V111 : own_BA Z h111 b111 4 (fun _ => 0) := own_BA.new A111 rfl
  have k115 : ∀ t, Steps p.tables e below (T111.setTop (mkF m 107 #[.val (.ref r0), .val (.int p1), .val (.int (0 : Int32)), .val (.long (own_hi4 aa)), .second, .val (.long (0 : Int64)), .second, .val (.long aa), .second, .val (.ref b111), .val (.int (0 : Int32))] [])) t → Steps p.tables e below (s₁.setTop (mkF m 0 #[.val (.ref r0), .val (.int p1), .unset, .unset, .unset, .unset, .unset, .unset, .unset, .unset, .unset] [])) t := by
    intro t h
    refine k110 t ?_
    show Steps p.tables e below (s₁.setTop (mkF m 91 #[.val (.ref r0), .val (.int p1), .val (.int (0 : Int32)), .val (.long (own_hi4 aa)), .second, .val (.long (0 : Int64)), .second, .val (.long aa), .second, .unset, .unset] [(.int (0 : Int32))])) _
    refine XS.ifYes X0.here hx rfl (pc0 := 91) (pc' := 99) rfl (hb hby own_d1_91) rfl ((if0 _ _).trans (teq (by decide : (0 : Int32) = (0 : Int32))).1) (by decide) (by decide) ?_
    show Steps p.tables e below (s₁.setTop (mkF m 99 #[.val (.ref r0), .val (.int p1), .val (.int (0 : Int32)), .val (.long (own_hi4 aa)), .second, .val (.long (0 : Int64)), .second, .val (.long aa), .second, .unset, .unset] [])) _
    refine XS.iconst X0.here hx rfl (hb hby own_d1_99) ?_
    show Steps p.tables e below (s₁.setTop (mkF m 100 #[.val (.ref r0), .val (.int p1), .val (.int (0 : Int32)), .val (.long (own_hi4 aa)), .second, .val (.long (0 : Int64)), .second, .val (.long aa), .second, .unset, .unset] [(.int (4 : Int32))])) _
    refine st111 _ ?_
    show Steps p.tables e below (T111.setTop (mkF m 102 #[.val (.ref r0), .val (.int p1), .val (.int (0 : Int32)), .val (.long (own_hi4 aa)), .second, .val (.long (0 : Int64)), .second, .val (.long aa), .second, .unset, .unset] [(.ref b111)])) _
    refine XS.astore X111.here hx rfl (hb hby own_d1_102) rfl rfl (l' := #[.val (.ref r0), .val (.int p1), .val (.int (0 : Int32)), .val (.long (own_hi4 aa)), .second, .val (.long (0 : Int64)), .second, .val (.long aa), .second, .val (.ref b111), .unset]) rfl ?_
    show Steps p.tables e below (T111.setTop (mkF m 104 #[.val (.ref r0), .val (.int p1), .val (.int (0 : Int32)), .val (.long (own_hi4 aa)), .second, .val (.long (0 : Int64)), .second, .val (.long aa), .second, .val (.ref b111), .unset] [])) _
    refine XS.iconst X111.here hx rfl (hb hby own_d1_104) ?_
    show Steps p.tables e below (T111.setTop (mkF m 105 #[.val (.ref r0), .val (.int p1), .val (.int (0 : Int32)), .val (.long (own_hi4 aa)), .second, .val (.long (0 : Int64)), .second, .val (.long aa), .second, .val (.ref b111), .unset] [(.int (0 : Int32))])) _
    refine XS.istore X111.here hx rfl (hb hby own_d1_105) rfl (l' := #[.val (.ref r0), .val (.int p1), .val (.int (0 : Int32)), .val (.long (own_hi4 aa)), .second, .val (.long (0 : Int64)), .second, .val (.long aa), .second, .val (.ref b111), .val (.int (0 : Int32))]) rfl ?_
    exact h
  have k116 : ∀ t, Steps p.tables e below (T111.setTop (mkF m 107 #[.val (.ref r0), .val (.int p1), .val (.int (0 : Int32)), .val (.long (own_hi4 aa)), .second, .val (.long (0 : Int64)), .second, .val (.long aa), .second, .val (.ref b111), .val (.int (Int32.ofNat 0))] [])) t → Steps p.tables e below (s₁.setTop (mkF m 0 #[.val (.ref r0), .val (.int p1), .unset, .unset, .unset, .unset, .unset, .unset, .unset, .unset, .unset] [])) t := k115
  have lp117 : ∀ (d : Nat) (i : Nat), i + d = 4 → ∀ (T : State) (h : Heap) (L : List Loc), Stand p l e ({ frames := 2, cells := 2, slots := 8, locals := 29 } : Room) s m #[(.ref r0), (.int p1)] below meth c T L 1 4 → T.heap = h → Fr n0 L → n0 ≤ h.size → Keep h0 h [] → own_BA Z h b111 (4) (fun j => if j < i then own_f (own_hi4 aa) (0 : Int64) j else 0) → ∃ (T' : State) (h' : Heap) (L' : List Loc), Stand p l e ({ frames := 2, cells := 2, slots := 8, locals := 29 } : Room) s m #[(.ref r0), (.int p1)] below meth c T' L' 1 4 ∧ T'.heap = h' ∧ Fr n0 L' ∧ n0 ≤ h'.size ∧ Keep h0 h' [] ∧ own_BA Z h' b111 (4) (fun j => if j < (4) then own_f (own_hi4 aa) (0 : Int64) j else 0) ∧ ∀ t, Steps p.tables e below (T'.setTop (mkF m 153 #[.val (.ref r0), .val (.int p1), .val (.int (0 : Int32)), .val (.long (own_hi4 aa)), .second, .val (.long (0 : Int64)), .second, .val (.long aa), .second, .val (.ref b111), .val (.int (Int32.ofNat (4)))] [])) t → Steps p.tables e below (T.setTop (mkF m 107 #[.val (.ref r0), .val (.int p1), .val (.int (0 : Int32)), .val (.long (own_hi4 aa)), .second, .val (.long (0 : Int64)), .second, .val (.long aa), .second, .val (.ref b111), .val (.int (Int32.ofNat i))] [])) t := by
    intro d
    induction d with
    | zero =>
      intro i hd  T h L X hE hN hZZ hK hf0
      have hi : i = 4 := by omega
      subst hi
      obtain ⟨cl118, Ar118, hl118⟩ := hf0.len
      have k119 : ∀ t, Steps p.tables e below (T.setTop (mkF m 112 #[.val (.ref r0), .val (.int p1), .val (.int (0 : Int32)), .val (.long (own_hi4 aa)), .second, .val (.long (0 : Int64)), .second, .val (.long aa), .second, .val (.ref b111), .val (.int (Int32.ofNat (4)))] [(.int (Int32.ofNat (4))), (.int (Int32.ofNat (4)))])) t → Steps p.tables e below (T.setTop (mkF m 107 #[.val (.ref r0), .val (.int p1), .val (.int (0 : Int32)), .val (.long (own_hi4 aa)), .second, .val (.long (0 : Int64)), .second, .val (.long aa), .second, .val (.ref b111), .val (.int (Int32.ofNat (4)))] [])) t := by
        intro t h
        show Steps p.tables e below (T.setTop (mkF m 107 #[.val (.ref r0), .val (.int p1), .val (.int (0 : Int32)), .val (.long (own_hi4 aa)), .second, .val (.long (0 : Int64)), .second, .val (.long aa), .second, .val (.ref b111), .val (.int (Int32.ofNat (4)))] [])) _
        refine XS.iload X.here hx rfl (hb hby own_d1_107) rfl ?_
        show Steps p.tables e below (T.setTop (mkF m 109 #[.val (.ref r0), .val (.int p1), .val (.int (0 : Int32)), .val (.long (own_hi4 aa)), .second, .val (.long (0 : Int64)), .second, .val (.long aa), .second, .val (.ref b111), .val (.int (Int32.ofNat (4)))] [(.int (Int32.ofNat (4)))])) _
        refine XS.aload X.here hx rfl (hb hby own_d1_109) rfl rfl ?_
        show Steps p.tables e below (T.setTop (mkF m 111 #[.val (.ref r0), .val (.int p1), .val (.int (0 : Int32)), .val (.long (own_hi4 aa)), .second, .val (.long (0 : Int64)), .second, .val (.long aa), .second, .val (.ref b111), .val (.int (Int32.ofNat (4)))] [(.ref b111), (.int (Int32.ofNat (4)))])) _
        refine X.arraylength hx (by rw [hE]; exact Ar118.1) (State.isArrayOf_alike hZ.alike Ar118.2.1) (g := (mkF m 111 #[.val (.ref r0), .val (.int p1), .val (.int (0 : Int32)), .val (.long (own_hi4 aa)), .second, .val (.long (0 : Int64)), .second, .val (.long aa), .second, .val (.ref b111), .val (.int (Int32.ofNat (4)))] [(.ref b111), (.int (Int32.ofNat (4)))])) rfl rfl (hb hby own_d1_111) _ ?_
        rw [hl118]
        exact h
      have b112_120 : ¬ ((Int32.ofNat (4)) < (Int32.ofNat (4))) := own_nlt (by omega) (by decide)
      have k121 : ∀ t, Steps p.tables e below (T.setTop (mkF m 153 #[.val (.ref r0), .val (.int p1), .val (.int (0 : Int32)), .val (.long (own_hi4 aa)), .second, .val (.long (0 : Int64)), .second, .val (.long aa), .second, .val (.ref b111), .val (.int (Int32.ofNat (4)))] [])) t → Steps p.tables e below (T.setTop (mkF m 107 #[.val (.ref r0), .val (.int p1), .val (.int (0 : Int32)), .val (.long (own_hi4 aa)), .second, .val (.long (0 : Int64)), .second, .val (.long aa), .second, .val (.ref b111), .val (.int (Int32.ofNat (4)))] [])) t := by
        intro t h
        refine k119 t ?_
        show Steps p.tables e below (T.setTop (mkF m 112 #[.val (.ref r0), .val (.int p1), .val (.int (0 : Int32)), .val (.long (own_hi4 aa)), .second, .val (.long (0 : Int64)), .second, .val (.long aa), .second, .val (.ref b111), .val (.int (Int32.ofNat (4)))] [(.int (Int32.ofNat (4))), (.int (Int32.ofNat (4)))])) _
        refine XS.icmpYes X.here hx rfl (pc0 := 112) (pc' := 153) rfl (hb hby own_d1_112) rfl (flt b112_120).2.1 (by decide) (by decide) ?_
        exact h
      exact ⟨T, _, _, X, hE, hN, hZZ, hK, hf0, k121⟩
    | succ d ih =>
      intro i hd  T h L X hE hN hZZ hK hf0
      obtain ⟨cl122, Ar122, hl122⟩ := hf0.len
      have k123 : ∀ t, Steps p.tables e below (T.setTop (mkF m 112 #[.val (.ref r0), .val (.int p1), .val (.int (0 : Int32)), .val (.long (own_hi4 aa)), .second, .val (.long (0 : Int64)), .second, .val (.long aa), .second, .val (.ref b111), .val (.int (Int32.ofNat i))] [(.int (Int32.ofNat (4))), (.int (Int32.ofNat i))])) t → Steps p.tables e below (T.setTop (mkF m 107 #[.val (.ref r0), .val (.int p1), .val (.int (0 : Int32)), .val (.long (own_hi4 aa)), .second, .val (.long (0 : Int64)), .second, .val (.long aa), .second, .val (.ref b111), .val (.int (Int32.ofNat i))] [])) t := by
        intro t h
        show Steps p.tables e below (T.setTop (mkF m 107 #[.val (.ref r0), .val (.int p1), .val (.int (0 : Int32)), .val (.long (own_hi4 aa)), .second, .val (.long (0 : Int64)), .second, .val (.long aa), .second, .val (.ref b111), .val (.int (Int32.ofNat i))] [])) _
        refine XS.iload X.here hx rfl (hb hby own_d1_107) rfl ?_
        show Steps p.tables e below (T.setTop (mkF m 109 #[.val (.ref r0), .val (.int p1), .val (.int (0 : Int32)), .val (.long (own_hi4 aa)), .second, .val (.long (0 : Int64)), .second, .val (.long aa), .second, .val (.ref b111), .val (.int (Int32.ofNat i))] [(.int (Int32.ofNat i))])) _
        refine XS.aload X.here hx rfl (hb hby own_d1_109) rfl rfl ?_
        show Steps p.tables e below (T.setTop (mkF m 111 #[.val (.ref r0), .val (.int p1), .val (.int (0 : Int32)), .val (.long (own_hi4 aa)), .second, .val (.long (0 : Int64)), .second, .val (.long aa), .second, .val (.ref b111), .val (.int (Int32.ofNat i))] [(.ref b111), (.int (Int32.ofNat i))])) _
        refine X.arraylength hx (by rw [hE]; exact Ar122.1) (State.isArrayOf_alike hZ.alike Ar122.2.1) (g := (mkF m 111 #[.val (.ref r0), .val (.int p1), .val (.int (0 : Int32)), .val (.long (own_hi4 aa)), .second, .val (.long (0 : Int64)), .second, .val (.long aa), .second, .val (.ref b111), .val (.int (Int32.ofNat i))] [(.ref b111), (.int (Int32.ofNat i))])) rfl rfl (hb hby own_d1_111) _ ?_
        rw [hl122]
        exact h
      have b112_124 : (Int32.ofNat i) < (Int32.ofNat (4)) := own_lt (by omega) (by decide)
      have k125 : ∀ t, Steps p.tables e below (T.setTop (mkF m 123 #[.val (.ref r0), .val (.int p1), .val (.int (0 : Int32)), .val (.long (own_hi4 aa)), .second, .val (.long (0 : Int64)), .second, .val (.long aa), .second, .val (.ref b111), .val (.int (Int32.ofNat i))] [(.int (8 : Int32)), (.int (Int32.ofNat i)), (.int (Int32.ofNat i)), (.ref b111)])) t → Steps p.tables e below (T.setTop (mkF m 107 #[.val (.ref r0), .val (.int p1), .val (.int (0 : Int32)), .val (.long (own_hi4 aa)), .second, .val (.long (0 : Int64)), .second, .val (.long aa), .second, .val (.ref b111), .val (.int (Int32.ofNat i))] [])) t := by
        intro t h
        refine k123 t ?_
        show Steps p.tables e below (T.setTop (mkF m 112 #[.val (.ref r0), .val (.int p1), .val (.int (0 : Int32)), .val (.long (own_hi4 aa)), .second, .val (.long (0 : Int64)), .second, .val (.long aa), .second, .val (.ref b111), .val (.int (Int32.ofNat i))] [(.int (Int32.ofNat (4))), (.int (Int32.ofNat i))])) _
        refine XS.icmpNo X.here hx rfl (hb hby own_d1_112) rfl (tlt b112_124).2.1 ?_
        show Steps p.tables e below (T.setTop (mkF m 115 #[.val (.ref r0), .val (.int p1), .val (.int (0 : Int32)), .val (.long (own_hi4 aa)), .second, .val (.long (0 : Int64)), .second, .val (.long aa), .second, .val (.ref b111), .val (.int (Int32.ofNat i))] [])) _
        refine XS.aload X.here hx rfl (hb hby own_d1_115) rfl rfl ?_
        show Steps p.tables e below (T.setTop (mkF m 117 #[.val (.ref r0), .val (.int p1), .val (.int (0 : Int32)), .val (.long (own_hi4 aa)), .second, .val (.long (0 : Int64)), .second, .val (.long aa), .second, .val (.ref b111), .val (.int (Int32.ofNat i))] [(.ref b111)])) _
        refine XS.iload X.here hx rfl (hb hby own_d1_117) rfl ?_
        show Steps p.tables e below (T.setTop (mkF m 119 #[.val (.ref r0), .val (.int p1), .val (.int (0 : Int32)), .val (.long (own_hi4 aa)), .second, .val (.long (0 : Int64)), .second, .val (.long aa), .second, .val (.ref b111), .val (.int (Int32.ofNat i))] [(.int (Int32.ofNat i)), (.ref b111)])) _
        refine XS.iload X.here hx rfl (hb hby own_d1_119) rfl ?_
        show Steps p.tables e below (T.setTop (mkF m 121 #[.val (.ref r0), .val (.int p1), .val (.int (0 : Int32)), .val (.long (own_hi4 aa)), .second, .val (.long (0 : Int64)), .second, .val (.long aa), .second, .val (.ref b111), .val (.int (Int32.ofNat i))] [(.int (Int32.ofNat i)), (.int (Int32.ofNat i)), (.ref b111)])) _
        refine XS.bipush X.here hx rfl (hb hby own_d1_121) ?_
        exact h
      by_cases c123_126 : (Int32.ofNat i) < (8 : Int32)
      · skip
        obtain ⟨cl127, Ar127, hin127, hat127⟩ := own_BA.at (i := i) (j := (Int32.ofNat i)) hf0 rfl (by omega) (by decide)
        obtain ⟨T127, h127, X127, e127, W127, st127⟩ := stB X hx hZ hE Ar127 (j := (Int32.ofNat i)) hin127 (g := (mkF m 146 #[.val (.ref r0), .val (.int p1), .val (.int (0 : Int32)), .val (.long (own_hi4 aa)), .second, .val (.long (0 : Int64)), .second, .val (.long aa), .second, .val (.ref b111), .val (.int (Int32.ofNat i))] [(.int (((((own_hi4 aa).toUInt64 >>> ((((7 : Int32) - ((Int32.ofNat i) % (8 : Int32))) * (8 : Int32)) &&& 0x3f).toInt64.toUInt64).toInt64).toInt32).toInt8.toInt32)), (.int (Int32.ofNat i)), (.ref b111)])) rfl rfl (hb hby own_d1_146)
        have V127 := own_BA.set hf0 W127 rfl (by omega) (by decide)
        have Z128 : n0 ≤ h127.size := Nat.le_trans hZZ (Keep.of_wr W127).1
        have K129 := hK.wr W127 (Or.inr sz_b111)
        have N127 := Fr.snoc X127 hN g_b111
        have k130 : ∀ t, Steps p.tables e below (T127.setTop (mkF m 107 #[.val (.ref r0), .val (.int p1), .val (.int (0 : Int32)), .val (.long (own_hi4 aa)), .second, .val (.long (0 : Int64)), .second, .val (.long aa), .second, .val (.ref b111), .val (.int ((Int32.ofNat i) + (1 : Int32)))] [])) t → Steps p.tables e below (T.setTop (mkF m 107 #[.val (.ref r0), .val (.int p1), .val (.int (0 : Int32)), .val (.long (own_hi4 aa)), .second, .val (.long (0 : Int64)), .second, .val (.long aa), .second, .val (.ref b111), .val (.int (Int32.ofNat i))] [])) t := by
          intro t h
          refine k125 t ?_
          show Steps p.tables e below (T.setTop (mkF m 123 #[.val (.ref r0), .val (.int p1), .val (.int (0 : Int32)), .val (.long (own_hi4 aa)), .second, .val (.long (0 : Int64)), .second, .val (.long aa), .second, .val (.ref b111), .val (.int (Int32.ofNat i))] [(.int (8 : Int32)), (.int (Int32.ofNat i)), (.int (Int32.ofNat i)), (.ref b111)])) _
          refine XS.icmpNo X.here hx rfl (hb hby own_d1_123) rfl (tlt c123_126).2.1 ?_
          show Steps p.tables e below (T.setTop (mkF m 126 #[.val (.ref r0), .val (.int p1), .val (.int (0 : Int32)), .val (.long (own_hi4 aa)), .second, .val (.long (0 : Int64)), .second, .val (.long aa), .second, .val (.ref b111), .val (.int (Int32.ofNat i))] [(.int (Int32.ofNat i)), (.ref b111)])) _
          refine XS.lloadN X.here hx rfl (hb hby own_d1_126) rfl ?_
          show Steps p.tables e below (T.setTop (mkF m 127 #[.val (.ref r0), .val (.int p1), .val (.int (0 : Int32)), .val (.long (own_hi4 aa)), .second, .val (.long (0 : Int64)), .second, .val (.long aa), .second, .val (.ref b111), .val (.int (Int32.ofNat i))] [(.long (own_hi4 aa)), (.int (Int32.ofNat i)), (.ref b111)])) _
          refine XS.goto X.here hx rfl (pc0 := 127) (pc' := 132) rfl (hb hby own_d1_127) (by decide) (by decide) ?_
          show Steps p.tables e below (T.setTop (mkF m 132 #[.val (.ref r0), .val (.int p1), .val (.int (0 : Int32)), .val (.long (own_hi4 aa)), .second, .val (.long (0 : Int64)), .second, .val (.long aa), .second, .val (.ref b111), .val (.int (Int32.ofNat i))] [(.long (own_hi4 aa)), (.int (Int32.ofNat i)), (.ref b111)])) _
          refine XS.bipush X.here hx rfl (hb hby own_d1_132) ?_
          show Steps p.tables e below (T.setTop (mkF m 134 #[.val (.ref r0), .val (.int p1), .val (.int (0 : Int32)), .val (.long (own_hi4 aa)), .second, .val (.long (0 : Int64)), .second, .val (.long aa), .second, .val (.ref b111), .val (.int (Int32.ofNat i))] [(.int (7 : Int32)), (.long (own_hi4 aa)), (.int (Int32.ofNat i)), (.ref b111)])) _
          refine XS.iload X.here hx rfl (hb hby own_d1_134) rfl ?_
          show Steps p.tables e below (T.setTop (mkF m 136 #[.val (.ref r0), .val (.int p1), .val (.int (0 : Int32)), .val (.long (own_hi4 aa)), .second, .val (.long (0 : Int64)), .second, .val (.long aa), .second, .val (.ref b111), .val (.int (Int32.ofNat i))] [(.int (Int32.ofNat i)), (.int (7 : Int32)), (.long (own_hi4 aa)), (.int (Int32.ofNat i)), (.ref b111)])) _
          refine XS.bipush X.here hx rfl (hb hby own_d1_136) ?_
          show Steps p.tables e below (T.setTop (mkF m 138 #[.val (.ref r0), .val (.int p1), .val (.int (0 : Int32)), .val (.long (own_hi4 aa)), .second, .val (.long (0 : Int64)), .second, .val (.long aa), .second, .val (.ref b111), .val (.int (Int32.ofNat i))] [(.int (8 : Int32)), (.int (Int32.ofNat i)), (.int (7 : Int32)), (.long (own_hi4 aa)), (.int (Int32.ofNat i)), (.ref b111)])) _
          refine iremM (g := (mkF m 138 #[.val (.ref r0), .val (.int p1), .val (.int (0 : Int32)), .val (.long (own_hi4 aa)), .second, .val (.long (0 : Int64)), .second, .val (.long aa), .second, .val (.ref b111), .val (.int (Int32.ofNat i))] [(.int (8 : Int32)), (.int (Int32.ofNat i)), (.int (7 : Int32)), (.long (own_hi4 aa)), (.int (Int32.ofNat i)), (.ref b111)])) X hx rfl (hb hby own_d1_138) rfl (by decide) ?_
          show Steps p.tables e below (T.setTop (mkF m 139 #[.val (.ref r0), .val (.int p1), .val (.int (0 : Int32)), .val (.long (own_hi4 aa)), .second, .val (.long (0 : Int64)), .second, .val (.long aa), .second, .val (.ref b111), .val (.int (Int32.ofNat i))] [(.int ((Int32.ofNat i) % (8 : Int32))), (.int (7 : Int32)), (.long (own_hi4 aa)), (.int (Int32.ofNat i)), (.ref b111)])) _
          refine XS.isub X.here hx rfl (hb hby own_d1_139) rfl ?_
          show Steps p.tables e below (T.setTop (mkF m 140 #[.val (.ref r0), .val (.int p1), .val (.int (0 : Int32)), .val (.long (own_hi4 aa)), .second, .val (.long (0 : Int64)), .second, .val (.long aa), .second, .val (.ref b111), .val (.int (Int32.ofNat i))] [(.int ((7 : Int32) - ((Int32.ofNat i) % (8 : Int32)))), (.long (own_hi4 aa)), (.int (Int32.ofNat i)), (.ref b111)])) _
          refine XS.bipush X.here hx rfl (hb hby own_d1_140) ?_
          show Steps p.tables e below (T.setTop (mkF m 142 #[.val (.ref r0), .val (.int p1), .val (.int (0 : Int32)), .val (.long (own_hi4 aa)), .second, .val (.long (0 : Int64)), .second, .val (.long aa), .second, .val (.ref b111), .val (.int (Int32.ofNat i))] [(.int (8 : Int32)), (.int ((7 : Int32) - ((Int32.ofNat i) % (8 : Int32)))), (.long (own_hi4 aa)), (.int (Int32.ofNat i)), (.ref b111)])) _
          refine XS.imul X.here hx rfl (hb hby own_d1_142) rfl ?_
          show Steps p.tables e below (T.setTop (mkF m 143 #[.val (.ref r0), .val (.int p1), .val (.int (0 : Int32)), .val (.long (own_hi4 aa)), .second, .val (.long (0 : Int64)), .second, .val (.long aa), .second, .val (.ref b111), .val (.int (Int32.ofNat i))] [(.int (((7 : Int32) - ((Int32.ofNat i) % (8 : Int32))) * (8 : Int32))), (.long (own_hi4 aa)), (.int (Int32.ofNat i)), (.ref b111)])) _
          refine XS.lushr X.here hx rfl (hb hby own_d1_143) rfl ?_
          show Steps p.tables e below (T.setTop (mkF m 144 #[.val (.ref r0), .val (.int p1), .val (.int (0 : Int32)), .val (.long (own_hi4 aa)), .second, .val (.long (0 : Int64)), .second, .val (.long aa), .second, .val (.ref b111), .val (.int (Int32.ofNat i))] [(.long (((own_hi4 aa).toUInt64 >>> ((((7 : Int32) - ((Int32.ofNat i) % (8 : Int32))) * (8 : Int32)) &&& 0x3f).toInt64.toUInt64).toInt64)), (.int (Int32.ofNat i)), (.ref b111)])) _
          refine XS.l2i X.here hx rfl (hb hby own_d1_144) rfl ?_
          show Steps p.tables e below (T.setTop (mkF m 145 #[.val (.ref r0), .val (.int p1), .val (.int (0 : Int32)), .val (.long (own_hi4 aa)), .second, .val (.long (0 : Int64)), .second, .val (.long aa), .second, .val (.ref b111), .val (.int (Int32.ofNat i))] [(.int ((((own_hi4 aa).toUInt64 >>> ((((7 : Int32) - ((Int32.ofNat i) % (8 : Int32))) * (8 : Int32)) &&& 0x3f).toInt64.toUInt64).toInt64).toInt32)), (.int (Int32.ofNat i)), (.ref b111)])) _
          refine XS.i2b X.here hx rfl (hb hby own_d1_145) rfl ?_
          show Steps p.tables e below (T.setTop (mkF m 146 #[.val (.ref r0), .val (.int p1), .val (.int (0 : Int32)), .val (.long (own_hi4 aa)), .second, .val (.long (0 : Int64)), .second, .val (.long aa), .second, .val (.ref b111), .val (.int (Int32.ofNat i))] [(.int (((((own_hi4 aa).toUInt64 >>> ((((7 : Int32) - ((Int32.ofNat i) % (8 : Int32))) * (8 : Int32)) &&& 0x3f).toInt64.toUInt64).toInt64).toInt32).toInt8.toInt32)), (.int (Int32.ofNat i)), (.ref b111)])) _
          refine st127 _ ?_
          show Steps p.tables e below (T127.setTop (mkF m 147 #[.val (.ref r0), .val (.int p1), .val (.int (0 : Int32)), .val (.long (own_hi4 aa)), .second, .val (.long (0 : Int64)), .second, .val (.long aa), .second, .val (.ref b111), .val (.int (Int32.ofNat i))] [])) _
          refine XS.iinc X127.here hx rfl (hb hby own_d1_147) rfl (l' := #[.val (.ref r0), .val (.int p1), .val (.int (0 : Int32)), .val (.long (own_hi4 aa)), .second, .val (.long (0 : Int64)), .second, .val (.long aa), .second, .val (.ref b111), .val (.int ((Int32.ofNat i) + (1 : Int32)))]) rfl ?_
          show Steps p.tables e below (T127.setTop (mkF m 150 #[.val (.ref r0), .val (.int p1), .val (.int (0 : Int32)), .val (.long (own_hi4 aa)), .second, .val (.long (0 : Int64)), .second, .val (.long aa), .second, .val (.ref b111), .val (.int ((Int32.ofNat i) + (1 : Int32)))] [])) _
          refine XS.goto X127.here hx rfl (pc0 := 150) (pc' := 107) rfl (hb hby own_d1_150) (by decide) (by decide) ?_
          exact h
        have r131 : ((Int32.ofNat i) + (1 : Int32)) = (Int32.ofNat (i + 1)) := own_inc i
        have k132 : ∀ t, Steps p.tables e below (T127.setTop (mkF m 107 #[.val (.ref r0), .val (.int p1), .val (.int (0 : Int32)), .val (.long (own_hi4 aa)), .second, .val (.long (0 : Int64)), .second, .val (.long aa), .second, .val (.ref b111), .val (.int (Int32.ofNat (i + 1)))] [])) t → Steps p.tables e below (T.setTop (mkF m 107 #[.val (.ref r0), .val (.int p1), .val (.int (0 : Int32)), .val (.long (own_hi4 aa)), .second, .val (.long (0 : Int64)), .second, .val (.long aa), .second, .val (.ref b111), .val (.int (Int32.ofNat i))] [])) t := by first | (rw [← r131]; exact k130) | exact k130
        obtain ⟨T133, h133, L133, X133, e133, N133, Z133, K133, f133_0, k133⟩ := ih (i + 1) (by omega)  T127 _ _ X127 e127 N127 Z128 K129 (own_BA.congr V127 (fun j _ => own_upd 4 i (own_f (own_hi4 aa) (0 : Int64)) _ (by rw [own_f, if_pos c123_126]; rfl) j))
        exact ⟨T133, h133, L133, X133, e133, N133, Z133, K133, f133_0, fun t q => k132 t (k133 t q)⟩
      · skip
        obtain ⟨cl134, Ar134, hin134, hat134⟩ := own_BA.at (i := i) (j := (Int32.ofNat i)) hf0 rfl (by omega) (by decide)
        obtain ⟨T134, h134, X134, e134, W134, st134⟩ := stB X hx hZ hE Ar134 (j := (Int32.ofNat i)) hin134 (g := (mkF m 146 #[.val (.ref r0), .val (.int p1), .val (.int (0 : Int32)), .val (.long (own_hi4 aa)), .second, .val (.long (0 : Int64)), .second, .val (.long aa), .second, .val (.ref b111), .val (.int (Int32.ofNat i))] [(.int (((((0 : Int64).toUInt64 >>> ((((7 : Int32) - ((Int32.ofNat i) % (8 : Int32))) * (8 : Int32)) &&& 0x3f).toInt64.toUInt64).toInt64).toInt32).toInt8.toInt32)), (.int (Int32.ofNat i)), (.ref b111)])) rfl rfl (hb hby own_d1_146)
        have V134 := own_BA.set hf0 W134 rfl (by omega) (by decide)
        have Z135 : n0 ≤ h134.size := Nat.le_trans hZZ (Keep.of_wr W134).1
        have K136 := hK.wr W134 (Or.inr sz_b111)
        have N134 := Fr.snoc X134 hN g_b111
        have k137 : ∀ t, Steps p.tables e below (T134.setTop (mkF m 107 #[.val (.ref r0), .val (.int p1), .val (.int (0 : Int32)), .val (.long (own_hi4 aa)), .second, .val (.long (0 : Int64)), .second, .val (.long aa), .second, .val (.ref b111), .val (.int ((Int32.ofNat i) + (1 : Int32)))] [])) t → Steps p.tables e below (T.setTop (mkF m 107 #[.val (.ref r0), .val (.int p1), .val (.int (0 : Int32)), .val (.long (own_hi4 aa)), .second, .val (.long (0 : Int64)), .second, .val (.long aa), .second, .val (.ref b111), .val (.int (Int32.ofNat i))] [])) t := by
          intro t h
          refine k125 t ?_
          show Steps p.tables e below (T.setTop (mkF m 123 #[.val (.ref r0), .val (.int p1), .val (.int (0 : Int32)), .val (.long (own_hi4 aa)), .second, .val (.long (0 : Int64)), .second, .val (.long aa), .second, .val (.ref b111), .val (.int (Int32.ofNat i))] [(.int (8 : Int32)), (.int (Int32.ofNat i)), (.int (Int32.ofNat i)), (.ref b111)])) _
          refine XS.icmpYes X.here hx rfl (pc0 := 123) (pc' := 130) rfl (hb hby own_d1_123) rfl (flt c123_126).2.1 (by decide) (by decide) ?_
          show Steps p.tables e below (T.setTop (mkF m 130 #[.val (.ref r0), .val (.int p1), .val (.int (0 : Int32)), .val (.long (own_hi4 aa)), .second, .val (.long (0 : Int64)), .second, .val (.long aa), .second, .val (.ref b111), .val (.int (Int32.ofNat i))] [(.int (Int32.ofNat i)), (.ref b111)])) _
          refine XS.lload X.here hx rfl (hb hby own_d1_130) rfl ?_
          show Steps p.tables e below (T.setTop (mkF m 132 #[.val (.ref r0), .val (.int p1), .val (.int (0 : Int32)), .val (.long (own_hi4 aa)), .second, .val (.long (0 : Int64)), .second, .val (.long aa), .second, .val (.ref b111), .val (.int (Int32.ofNat i))] [(.long (0 : Int64)), (.int (Int32.ofNat i)), (.ref b111)])) _
          refine XS.bipush X.here hx rfl (hb hby own_d1_132) ?_
          show Steps p.tables e below (T.setTop (mkF m 134 #[.val (.ref r0), .val (.int p1), .val (.int (0 : Int32)), .val (.long (own_hi4 aa)), .second, .val (.long (0 : Int64)), .second, .val (.long aa), .second, .val (.ref b111), .val (.int (Int32.ofNat i))] [(.int (7 : Int32)), (.long (0 : Int64)), (.int (Int32.ofNat i)), (.ref b111)])) _
          refine XS.iload X.here hx rfl (hb hby own_d1_134) rfl ?_
          show Steps p.tables e below (T.setTop (mkF m 136 #[.val (.ref r0), .val (.int p1), .val (.int (0 : Int32)), .val (.long (own_hi4 aa)), .second, .val (.long (0 : Int64)), .second, .val (.long aa), .second, .val (.ref b111), .val (.int (Int32.ofNat i))] [(.int (Int32.ofNat i)), (.int (7 : Int32)), (.long (0 : Int64)), (.int (Int32.ofNat i)), (.ref b111)])) _
          refine XS.bipush X.here hx rfl (hb hby own_d1_136) ?_
          show Steps p.tables e below (T.setTop (mkF m 138 #[.val (.ref r0), .val (.int p1), .val (.int (0 : Int32)), .val (.long (own_hi4 aa)), .second, .val (.long (0 : Int64)), .second, .val (.long aa), .second, .val (.ref b111), .val (.int (Int32.ofNat i))] [(.int (8 : Int32)), (.int (Int32.ofNat i)), (.int (7 : Int32)), (.long (0 : Int64)), (.int (Int32.ofNat i)), (.ref b111)])) _
          refine iremM (g := (mkF m 138 #[.val (.ref r0), .val (.int p1), .val (.int (0 : Int32)), .val (.long (own_hi4 aa)), .second, .val (.long (0 : Int64)), .second, .val (.long aa), .second, .val (.ref b111), .val (.int (Int32.ofNat i))] [(.int (8 : Int32)), (.int (Int32.ofNat i)), (.int (7 : Int32)), (.long (0 : Int64)), (.int (Int32.ofNat i)), (.ref b111)])) X hx rfl (hb hby own_d1_138) rfl (by decide) ?_
          show Steps p.tables e below (T.setTop (mkF m 139 #[.val (.ref r0), .val (.int p1), .val (.int (0 : Int32)), .val (.long (own_hi4 aa)), .second, .val (.long (0 : Int64)), .second, .val (.long aa), .second, .val (.ref b111), .val (.int (Int32.ofNat i))] [(.int ((Int32.ofNat i) % (8 : Int32))), (.int (7 : Int32)), (.long (0 : Int64)), (.int (Int32.ofNat i)), (.ref b111)])) _
          refine XS.isub X.here hx rfl (hb hby own_d1_139) rfl ?_
          show Steps p.tables e below (T.setTop (mkF m 140 #[.val (.ref r0), .val (.int p1), .val (.int (0 : Int32)), .val (.long (own_hi4 aa)), .second, .val (.long (0 : Int64)), .second, .val (.long aa), .second, .val (.ref b111), .val (.int (Int32.ofNat i))] [(.int ((7 : Int32) - ((Int32.ofNat i) % (8 : Int32)))), (.long (0 : Int64)), (.int (Int32.ofNat i)), (.ref b111)])) _
          refine XS.bipush X.here hx rfl (hb hby own_d1_140) ?_
          show Steps p.tables e below (T.setTop (mkF m 142 #[.val (.ref r0), .val (.int p1), .val (.int (0 : Int32)), .val (.long (own_hi4 aa)), .second, .val (.long (0 : Int64)), .second, .val (.long aa), .second, .val (.ref b111), .val (.int (Int32.ofNat i))] [(.int (8 : Int32)), (.int ((7 : Int32) - ((Int32.ofNat i) % (8 : Int32)))), (.long (0 : Int64)), (.int (Int32.ofNat i)), (.ref b111)])) _
          refine XS.imul X.here hx rfl (hb hby own_d1_142) rfl ?_
          show Steps p.tables e below (T.setTop (mkF m 143 #[.val (.ref r0), .val (.int p1), .val (.int (0 : Int32)), .val (.long (own_hi4 aa)), .second, .val (.long (0 : Int64)), .second, .val (.long aa), .second, .val (.ref b111), .val (.int (Int32.ofNat i))] [(.int (((7 : Int32) - ((Int32.ofNat i) % (8 : Int32))) * (8 : Int32))), (.long (0 : Int64)), (.int (Int32.ofNat i)), (.ref b111)])) _
          refine XS.lushr X.here hx rfl (hb hby own_d1_143) rfl ?_
          show Steps p.tables e below (T.setTop (mkF m 144 #[.val (.ref r0), .val (.int p1), .val (.int (0 : Int32)), .val (.long (own_hi4 aa)), .second, .val (.long (0 : Int64)), .second, .val (.long aa), .second, .val (.ref b111), .val (.int (Int32.ofNat i))] [(.long (((0 : Int64).toUInt64 >>> ((((7 : Int32) - ((Int32.ofNat i) % (8 : Int32))) * (8 : Int32)) &&& 0x3f).toInt64.toUInt64).toInt64)), (.int (Int32.ofNat i)), (.ref b111)])) _
          refine XS.l2i X.here hx rfl (hb hby own_d1_144) rfl ?_
          show Steps p.tables e below (T.setTop (mkF m 145 #[.val (.ref r0), .val (.int p1), .val (.int (0 : Int32)), .val (.long (own_hi4 aa)), .second, .val (.long (0 : Int64)), .second, .val (.long aa), .second, .val (.ref b111), .val (.int (Int32.ofNat i))] [(.int ((((0 : Int64).toUInt64 >>> ((((7 : Int32) - ((Int32.ofNat i) % (8 : Int32))) * (8 : Int32)) &&& 0x3f).toInt64.toUInt64).toInt64).toInt32)), (.int (Int32.ofNat i)), (.ref b111)])) _
          refine XS.i2b X.here hx rfl (hb hby own_d1_145) rfl ?_
          show Steps p.tables e below (T.setTop (mkF m 146 #[.val (.ref r0), .val (.int p1), .val (.int (0 : Int32)), .val (.long (own_hi4 aa)), .second, .val (.long (0 : Int64)), .second, .val (.long aa), .second, .val (.ref b111), .val (.int (Int32.ofNat i))] [(.int (((((0 : Int64).toUInt64 >>> ((((7 : Int32) - ((Int32.ofNat i) % (8 : Int32))) * (8 : Int32)) &&& 0x3f).toInt64.toUInt64).toInt64).toInt32).toInt8.toInt32)), (.int (Int32.ofNat i)), (.ref b111)])) _
          refine st134 _ ?_
          show Steps p.tables e below (T134.setTop (mkF m 147 #[.val (.ref r0), .val (.int p1), .val (.int (0 : Int32)), .val (.long (own_hi4 aa)), .second, .val (.long (0 : Int64)), .second, .val (.long aa), .second, .val (.ref b111), .val (.int (Int32.ofNat i))] [])) _
          refine XS.iinc X134.here hx rfl (hb hby own_d1_147) rfl (l' := #[.val (.ref r0), .val (.int p1), .val (.int (0 : Int32)), .val (.long (own_hi4 aa)), .second, .val (.long (0 : Int64)), .second, .val (.long aa), .second, .val (.ref b111), .val (.int ((Int32.ofNat i) + (1 : Int32)))]) rfl ?_
          show Steps p.tables e below (T134.setTop (mkF m 150 #[.val (.ref r0), .val (.int p1), .val (.int (0 : Int32)), .val (.long (own_hi4 aa)), .second, .val (.long (0 : Int64)), .second, .val (.long aa), .second, .val (.ref b111), .val (.int ((Int32.ofNat i) + (1 : Int32)))] [])) _
          refine XS.goto X134.here hx rfl (pc0 := 150) (pc' := 107) rfl (hb hby own_d1_150) (by decide) (by decide) ?_
          exact h
        have r138 : ((Int32.ofNat i) + (1 : Int32)) = (Int32.ofNat (i + 1)) := own_inc i
        have k139 : ∀ t, Steps p.tables e below (T134.setTop (mkF m 107 #[.val (.ref r0), .val (.int p1), .val (.int (0 : Int32)), .val (.long (own_hi4 aa)), .second, .val (.long (0 : Int64)), .second, .val (.long aa), .second, .val (.ref b111), .val (.int (Int32.ofNat (i + 1)))] [])) t → Steps p.tables e below (T.setTop (mkF m 107 #[.val (.ref r0), .val (.int p1), .val (.int (0 : Int32)), .val (.long (own_hi4 aa)), .second, .val (.long (0 : Int64)), .second, .val (.long aa), .second, .val (.ref b111), .val (.int (Int32.ofNat i))] [])) t := by first | (rw [← r138]; exact k137) | exact k137
        obtain ⟨T140, h140, L140, X140, e140, N140, Z140, K140, f140_0, k140⟩ := ih (i + 1) (by omega)  T134 _ _ X134 e134 N134 Z135 K136 (own_BA.congr V134 (fun j _ => own_upd 4 i (own_f (own_hi4 aa) (0 : Int64)) _ (by rw [own_f, if_neg c123_126]; rfl) j))
        exact ⟨T140, h140, L140, X140, e140, N140, Z140, K140, f140_0, fun t q => k139 t (k140 t q)⟩
  obtain ⟨T141, h141, L141, X141, e141, N141, Z141, K141, f141_0, k141⟩ := lp117 (4) 0 (by first | rfl | omega)  T111 _ _ X111 e111 N0 Z113 K114 (own_BA.congr V111 (fun j _ => rfl))
  have k142 : ∀ t, Steps p.tables e below (T141.setTop (mkF m 153 #[.val (.ref r0), .val (.int p1), .val (.int (0 : Int32)), .val (.long (own_hi4 aa)), .second, .val (.long (0 : Int64)), .second, .val (.long aa), .second, .val (.ref b111), .val (.int (Int32.ofNat (4)))] [])) t → Steps p.tables e below (s₁.setTop (mkF m 0 #[.val (.ref r0), .val (.int p1), .unset, .unset, .unset, .unset, .unset, .unset, .unset, .unset, .unset] [])) t := fun t q => k116 t (k141 t q)
  have f143 := own_BA.congr (g := own_f (own_hi4 aa) (0 : Int64)) f141_0 (fun j hj => if_pos hj)
  obtain ⟨T144, h144, X144, e144, E144, A144, D144, -, st144⟩ := newO X141 hx hZ hown (hw _ (List.mem_of_getElem? (i := 9) rfl)) (hw _ (List.mem_of_getElem? (i := 10) rfl)) (hw _ (List.mem_of_getElem? (i := 6) rfl)) e141 (g := (mkF m 153 #[.val (.ref r0), .val (.int p1), .val (.int (0 : Int32)), .val (.long (own_hi4 aa)), .second, .val (.long (0 : Int64)), .second, .val (.long aa), .second, .val (.ref b111), .val (.int (Int32.ofNat (4)))] [])) rfl (hb hby own_d1_153) (by decide) (by decide)
  obtain ⟨b144, g144⟩ : ∃ z, z = h141.size := ⟨_, rfl⟩
  rw [← g144] at A144 D144 st144
  have ne_b111_b144 : b111 ≠ b144 := Nat.ne_of_lt (Nat.lt_of_lt_of_le f143.lt (Nat.le_of_eq g144.symm))
  have g_b144 : n0 ≤ b144 := Nat.le_trans Z141 (Nat.le_of_eq g144.symm)
  have sz_b144 : h0.size ≤ b144 := Nat.le_trans K141.1 (Nat.le_of_eq g144.symm)
  have f145 := f143.ext E144
  have Z146 : n0 ≤ h144.size := Nat.le_trans Z141 E144.1
  have K147 := K141.ext E144
  have f148 : Fld Z h144 b144 "com/example/mynah/mynah/rpsl/PrefixRange" "address" "[B" .null := D144 (Or.inr (hw _ (List.mem_of_getElem? (i := 19) rfl))) (ty := (.array .byte)) (by decide)
  have f149 : Fld Z h144 b144 "com/example/mynah/mynah/rpsl/PrefixRange" "length" "I" (.int (0 : Int32)) := D144 (Or.inr (hw _ (List.mem_of_getElem? (i := 21) rfl))) (ty := .int) (by decide)
  have f150 : Fld Z h144 b144 "com/example/mynah/mynah/rpsl/PrefixRange" "least" "I" (.int (0 : Int32)) := D144 (Or.inr (hw _ (List.mem_of_getElem? (i := 23) rfl))) (ty := .int) (by decide)
  have f151 : Fld Z h144 b144 "com/example/mynah/mynah/rpsl/PrefixRange" "most" "I" (.int (0 : Int32)) := D144 (Or.inr (hw _ (List.mem_of_getElem? (i := 25) rfl))) (ty := .int) (by decide)
  obtain ⟨_, _, ⟨T152, L152, k152, n152⟩, -, X152, ⟨Lc152, hQ152, l152, y152, z152⟩, st152⟩ := X144.specialBack hx (y := (⟨"com/example/mynah/mynah/rpsl/PrefixRange", "<init>", "([BIII)V"⟩ : MethodName)) rfl hown (mvT hZ (hw _ (List.mem_of_getElem? (i := 12) rfl))) (mvT hZ (hw _ (List.mem_of_getElem? (i := 13) rfl))) (mvT hZ (hw _ (List.mem_of_getElem? (i := 14) rfl))) (by decide) (backOf (W := 1) (rmI l Z a0 hw [] b144 b111 ((((aa.toUInt64 >>> ((16 : Int32) &&& 0x3f).toInt64.toUInt64).toInt64) &&& (255 : Int64)).toInt32) ((((aa.toUInt64 >>> ((8 : Int32) &&& 0x3f).toInt64.toUInt64).toInt64) &&& (255 : Int64)).toInt32) ((aa.toInt32) &&& (255 : Int32))  h144 n0 Z146 f148 f149 f150 f151 A144 g_b144) hZ (hw _ (List.mem_of_getElem? (i := 14) rfl)) (hw _ (List.mem_of_getElem? (i := 6) rfl)) (by decide) (by decide)) (g := (mkF m 186 #[.val (.ref r0), .val (.int p1), .val (.int (0 : Int32)), .val (.long (own_hi4 aa)), .second, .val (.long (0 : Int64)), .second, .val (.long aa), .second, .val (.ref b111), .val (.int (Int32.ofNat (4)))] [(.int ((aa.toInt32) &&& (255 : Int32))), (.int ((((aa.toUInt64 >>> ((8 : Int32) &&& 0x3f).toInt64.toUInt64).toInt64) &&& (255 : Int64)).toInt32)), (.int ((((aa.toUInt64 >>> ((16 : Int32) &&& 0x3f).toInt64.toUInt64).toInt64) &&& (255 : Int64)).toInt32)), (.ref b111), (.ref b144), (.ref b144)])) rfl (by rw [hml]; rfl) (Steps.refl _) (a := b144) (argsL := [(.ref b111), (.int ((((aa.toUInt64 >>> ((16 : Int32) &&& 0x3f).toInt64.toUInt64).toInt64) &&& (255 : Int64)).toInt32)), (.int ((((aa.toUInt64 >>> ((8 : Int32) &&& 0x3f).toInt64.toUInt64).toInt64) &&& (255 : Int64)).toInt32)), (.int ((aa.toInt32) &&& (255 : Int32)))]) (rest := [(.ref b144)]) (lenOf own_pd_0 rfl) rfl (by show 2 * 0 + _ ≤ _; exact Nat.le_of_eq rfl) (hb hby own_d1_186) (fun _ _ => ⟨rfl, e144, (by decide : 2 + 0 ≤ _), (by decide : 8 + 0 ≤ _)⟩)
  dsimp only [Pt.U, Pt.locs, Pt.cells, Pt.slots] at X152 l152 y152 z152 st152 hQ152
  subst l152 y152 z152
  obtain ⟨rfl, Nq152, Kq152, Fq1520, Fq1521, Fq1522, Fq1523⟩ := hQ152
  have N152 := Fr.app N141 Nq152
  have f153 := f145.keep Kq152 (ninS ne_b111_b144 nin0)
  have f154 := A144.keep Kq152
  have Z155 : n0 ≤ T152.heap.size := Nat.le_trans Z146 Kq152.1
  have K156 := K147.trans Kq152 (allS (Or.inr sz_b144) all0)
  have k157 : ∀ t, Steps p.tables e below (T152.setTop (mkF m 189 #[.val (.ref r0), .val (.int p1), .val (.int (0 : Int32)), .val (.long (own_hi4 aa)), .second, .val (.long (0 : Int64)), .second, .val (.long aa), .second, .val (.ref b111), .val (.int (Int32.ofNat (4)))] [(.ref b144)])) t → Steps p.tables e below (s₁.setTop (mkF m 0 #[.val (.ref r0), .val (.int p1), .unset, .unset, .unset, .unset, .unset, .unset, .unset, .unset, .unset] [])) t := by
    intro t h
    refine k142 t ?_
    show Steps p.tables e below (T141.setTop (mkF m 153 #[.val (.ref r0), .val (.int p1), .val (.int (0 : Int32)), .val (.long (own_hi4 aa)), .second, .val (.long (0 : Int64)), .second, .val (.long aa), .second, .val (.ref b111), .val (.int (Int32.ofNat (4)))] [])) _
    refine st144 _ ?_
    show Steps p.tables e below (T144.setTop (mkF m 156 #[.val (.ref r0), .val (.int p1), .val (.int (0 : Int32)), .val (.long (own_hi4 aa)), .second, .val (.long (0 : Int64)), .second, .val (.long aa), .second, .val (.ref b111), .val (.int (Int32.ofNat (4)))] [(.ref b144)])) _
    refine XS.dup X144.here hx rfl (hb hby own_d1_156) rfl rfl ?_
    show Steps p.tables e below (T144.setTop (mkF m 157 #[.val (.ref r0), .val (.int p1), .val (.int (0 : Int32)), .val (.long (own_hi4 aa)), .second, .val (.long (0 : Int64)), .second, .val (.long aa), .second, .val (.ref b111), .val (.int (Int32.ofNat (4)))] [(.ref b144), (.ref b144)])) _
    refine XS.aload X144.here hx rfl (hb hby own_d1_157) rfl rfl ?_
    show Steps p.tables e below (T144.setTop (mkF m 159 #[.val (.ref r0), .val (.int p1), .val (.int (0 : Int32)), .val (.long (own_hi4 aa)), .second, .val (.long (0 : Int64)), .second, .val (.long aa), .second, .val (.ref b111), .val (.int (Int32.ofNat (4)))] [(.ref b111), (.ref b144), (.ref b144)])) _
    refine XS.lload X144.here hx rfl (hb hby own_d1_159) rfl ?_
    show Steps p.tables e below (T144.setTop (mkF m 161 #[.val (.ref r0), .val (.int p1), .val (.int (0 : Int32)), .val (.long (own_hi4 aa)), .second, .val (.long (0 : Int64)), .second, .val (.long aa), .second, .val (.ref b111), .val (.int (Int32.ofNat (4)))] [(.long aa), (.ref b111), (.ref b144), (.ref b144)])) _
    refine XS.bipush X144.here hx rfl (hb hby own_d1_161) ?_
    show Steps p.tables e below (T144.setTop (mkF m 163 #[.val (.ref r0), .val (.int p1), .val (.int (0 : Int32)), .val (.long (own_hi4 aa)), .second, .val (.long (0 : Int64)), .second, .val (.long aa), .second, .val (.ref b111), .val (.int (Int32.ofNat (4)))] [(.int (16 : Int32)), (.long aa), (.ref b111), (.ref b144), (.ref b144)])) _
    refine XS.lushr X144.here hx rfl (hb hby own_d1_163) rfl ?_
    show Steps p.tables e below (T144.setTop (mkF m 164 #[.val (.ref r0), .val (.int p1), .val (.int (0 : Int32)), .val (.long (own_hi4 aa)), .second, .val (.long (0 : Int64)), .second, .val (.long aa), .second, .val (.ref b111), .val (.int (Int32.ofNat (4)))] [(.long ((aa.toUInt64 >>> ((16 : Int32) &&& 0x3f).toInt64.toUInt64).toInt64)), (.ref b111), (.ref b144), (.ref b144)])) _
    refine X144.ldc2Long hx hown (mvT hZ (hw _ (List.mem_of_getElem? (i := 11) rfl))) (g := (mkF m 164 #[.val (.ref r0), .val (.int p1), .val (.int (0 : Int32)), .val (.long (own_hi4 aa)), .second, .val (.long (0 : Int64)), .second, .val (.long aa), .second, .val (.ref b111), .val (.int (Int32.ofNat (4)))] [(.long ((aa.toUInt64 >>> ((16 : Int32) &&& 0x3f).toInt64.toUInt64).toInt64)), (.ref b111), (.ref b144), (.ref b144)])) rfl (hb hby own_d1_164) _ ?_
    show Steps p.tables e below (T144.setTop (mkF m 167 #[.val (.ref r0), .val (.int p1), .val (.int (0 : Int32)), .val (.long (own_hi4 aa)), .second, .val (.long (0 : Int64)), .second, .val (.long aa), .second, .val (.ref b111), .val (.int (Int32.ofNat (4)))] [(.long (255 : Int64)), (.long ((aa.toUInt64 >>> ((16 : Int32) &&& 0x3f).toInt64.toUInt64).toInt64)), (.ref b111), (.ref b144), (.ref b144)])) _
    refine XS.land X144.here hx rfl (hb hby own_d1_167) rfl ?_
    show Steps p.tables e below (T144.setTop (mkF m 168 #[.val (.ref r0), .val (.int p1), .val (.int (0 : Int32)), .val (.long (own_hi4 aa)), .second, .val (.long (0 : Int64)), .second, .val (.long aa), .second, .val (.ref b111), .val (.int (Int32.ofNat (4)))] [(.long (((aa.toUInt64 >>> ((16 : Int32) &&& 0x3f).toInt64.toUInt64).toInt64) &&& (255 : Int64))), (.ref b111), (.ref b144), (.ref b144)])) _
    refine XS.l2i X144.here hx rfl (hb hby own_d1_168) rfl ?_
    show Steps p.tables e below (T144.setTop (mkF m 169 #[.val (.ref r0), .val (.int p1), .val (.int (0 : Int32)), .val (.long (own_hi4 aa)), .second, .val (.long (0 : Int64)), .second, .val (.long aa), .second, .val (.ref b111), .val (.int (Int32.ofNat (4)))] [(.int ((((aa.toUInt64 >>> ((16 : Int32) &&& 0x3f).toInt64.toUInt64).toInt64) &&& (255 : Int64)).toInt32)), (.ref b111), (.ref b144), (.ref b144)])) _
    refine XS.lload X144.here hx rfl (hb hby own_d1_169) rfl ?_
    show Steps p.tables e below (T144.setTop (mkF m 171 #[.val (.ref r0), .val (.int p1), .val (.int (0 : Int32)), .val (.long (own_hi4 aa)), .second, .val (.long (0 : Int64)), .second, .val (.long aa), .second, .val (.ref b111), .val (.int (Int32.ofNat (4)))] [(.long aa), (.int ((((aa.toUInt64 >>> ((16 : Int32) &&& 0x3f).toInt64.toUInt64).toInt64) &&& (255 : Int64)).toInt32)), (.ref b111), (.ref b144), (.ref b144)])) _
    refine XS.bipush X144.here hx rfl (hb hby own_d1_171) ?_
    show Steps p.tables e below (T144.setTop (mkF m 173 #[.val (.ref r0), .val (.int p1), .val (.int (0 : Int32)), .val (.long (own_hi4 aa)), .second, .val (.long (0 : Int64)), .second, .val (.long aa), .second, .val (.ref b111), .val (.int (Int32.ofNat (4)))] [(.int (8 : Int32)), (.long aa), (.int ((((aa.toUInt64 >>> ((16 : Int32) &&& 0x3f).toInt64.toUInt64).toInt64) &&& (255 : Int64)).toInt32)), (.ref b111), (.ref b144), (.ref b144)])) _
    refine XS.lushr X144.here hx rfl (hb hby own_d1_173) rfl ?_
    show Steps p.tables e below (T144.setTop (mkF m 174 #[.val (.ref r0), .val (.int p1), .val (.int (0 : Int32)), .val (.long (own_hi4 aa)), .second, .val (.long (0 : Int64)), .second, .val (.long aa), .second, .val (.ref b111), .val (.int (Int32.ofNat (4)))] [(.long ((aa.toUInt64 >>> ((8 : Int32) &&& 0x3f).toInt64.toUInt64).toInt64)), (.int ((((aa.toUInt64 >>> ((16 : Int32) &&& 0x3f).toInt64.toUInt64).toInt64) &&& (255 : Int64)).toInt32)), (.ref b111), (.ref b144), (.ref b144)])) _
    refine X144.ldc2Long hx hown (mvT hZ (hw _ (List.mem_of_getElem? (i := 11) rfl))) (g := (mkF m 174 #[.val (.ref r0), .val (.int p1), .val (.int (0 : Int32)), .val (.long (own_hi4 aa)), .second, .val (.long (0 : Int64)), .second, .val (.long aa), .second, .val (.ref b111), .val (.int (Int32.ofNat (4)))] [(.long ((aa.toUInt64 >>> ((8 : Int32) &&& 0x3f).toInt64.toUInt64).toInt64)), (.int ((((aa.toUInt64 >>> ((16 : Int32) &&& 0x3f).toInt64.toUInt64).toInt64) &&& (255 : Int64)).toInt32)), (.ref b111), (.ref b144), (.ref b144)])) rfl (hb hby own_d1_174) _ ?_
    show Steps p.tables e below (T144.setTop (mkF m 177 #[.val (.ref r0), .val (.int p1), .val (.int (0 : Int32)), .val (.long (own_hi4 aa)), .second, .val (.long (0 : Int64)), .second, .val (.long aa), .second, .val (.ref b111), .val (.int (Int32.ofNat (4)))] [(.long (255 : Int64)), (.long ((aa.toUInt64 >>> ((8 : Int32) &&& 0x3f).toInt64.toUInt64).toInt64)), (.int ((((aa.toUInt64 >>> ((16 : Int32) &&& 0x3f).toInt64.toUInt64).toInt64) &&& (255 : Int64)).toInt32)), (.ref b111), (.ref b144), (.ref b144)])) _
    refine XS.land X144.here hx rfl (hb hby own_d1_177) rfl ?_
    show Steps p.tables e below (T144.setTop (mkF m 178 #[.val (.ref r0), .val (.int p1), .val (.int (0 : Int32)), .val (.long (own_hi4 aa)), .second, .val (.long (0 : Int64)), .second, .val (.long aa), .second, .val (.ref b111), .val (.int (Int32.ofNat (4)))] [(.long (((aa.toUInt64 >>> ((8 : Int32) &&& 0x3f).toInt64.toUInt64).toInt64) &&& (255 : Int64))), (.int ((((aa.toUInt64 >>> ((16 : Int32) &&& 0x3f).toInt64.toUInt64).toInt64) &&& (255 : Int64)).toInt32)), (.ref b111), (.ref b144), (.ref b144)])) _
    refine XS.l2i X144.here hx rfl (hb hby own_d1_178) rfl ?_
    show Steps p.tables e below (T144.setTop (mkF m 179 #[.val (.ref r0), .val (.int p1), .val (.int (0 : Int32)), .val (.long (own_hi4 aa)), .second, .val (.long (0 : Int64)), .second, .val (.long aa), .second, .val (.ref b111), .val (.int (Int32.ofNat (4)))] [(.int ((((aa.toUInt64 >>> ((8 : Int32) &&& 0x3f).toInt64.toUInt64).toInt64) &&& (255 : Int64)).toInt32)), (.int ((((aa.toUInt64 >>> ((16 : Int32) &&& 0x3f).toInt64.toUInt64).toInt64) &&& (255 : Int64)).toInt32)), (.ref b111), (.ref b144), (.ref b144)])) _
    refine XS.lload X144.here hx rfl (hb hby own_d1_179) rfl ?_
    show Steps p.tables e below (T144.setTop (mkF m 181 #[.val (.ref r0), .val (.int p1), .val (.int (0 : Int32)), .val (.long (own_hi4 aa)), .second, .val (.long (0 : Int64)), .second, .val (.long aa), .second, .val (.ref b111), .val (.int (Int32.ofNat (4)))] [(.long aa), (.int ((((aa.toUInt64 >>> ((8 : Int32) &&& 0x3f).toInt64.toUInt64).toInt64) &&& (255 : Int64)).toInt32)), (.int ((((aa.toUInt64 >>> ((16 : Int32) &&& 0x3f).toInt64.toUInt64).toInt64) &&& (255 : Int64)).toInt32)), (.ref b111), (.ref b144), (.ref b144)])) _
    refine XS.l2i X144.here hx rfl (hb hby own_d1_181) rfl ?_
    show Steps p.tables e below (T144.setTop (mkF m 182 #[.val (.ref r0), .val (.int p1), .val (.int (0 : Int32)), .val (.long (own_hi4 aa)), .second, .val (.long (0 : Int64)), .second, .val (.long aa), .second, .val (.ref b111), .val (.int (Int32.ofNat (4)))] [(.int (aa.toInt32)), (.int ((((aa.toUInt64 >>> ((8 : Int32) &&& 0x3f).toInt64.toUInt64).toInt64) &&& (255 : Int64)).toInt32)), (.int ((((aa.toUInt64 >>> ((16 : Int32) &&& 0x3f).toInt64.toUInt64).toInt64) &&& (255 : Int64)).toInt32)), (.ref b111), (.ref b144), (.ref b144)])) _
    refine XS.sipush X144.here hx rfl (hb hby own_d1_182) ?_
    show Steps p.tables e below (T144.setTop (mkF m 185 #[.val (.ref r0), .val (.int p1), .val (.int (0 : Int32)), .val (.long (own_hi4 aa)), .second, .val (.long (0 : Int64)), .second, .val (.long aa), .second, .val (.ref b111), .val (.int (Int32.ofNat (4)))] [(.int (255 : Int32)), (.int (aa.toInt32)), (.int ((((aa.toUInt64 >>> ((8 : Int32) &&& 0x3f).toInt64.toUInt64).toInt64) &&& (255 : Int64)).toInt32)), (.int ((((aa.toUInt64 >>> ((16 : Int32) &&& 0x3f).toInt64.toUInt64).toInt64) &&& (255 : Int64)).toInt32)), (.ref b111), (.ref b144), (.ref b144)])) _
    refine XS.iand X144.here hx rfl (hb hby own_d1_185) rfl ?_
    show Steps p.tables e below (T144.setTop (mkF m 186 #[.val (.ref r0), .val (.int p1), .val (.int (0 : Int32)), .val (.long (own_hi4 aa)), .second, .val (.long (0 : Int64)), .second, .val (.long aa), .second, .val (.ref b111), .val (.int (Int32.ofNat (4)))] [(.int ((aa.toInt32) &&& (255 : Int32))), (.int ((((aa.toUInt64 >>> ((8 : Int32) &&& 0x3f).toInt64.toUInt64).toInt64) &&& (255 : Int64)).toInt32)), (.int ((((aa.toUInt64 >>> ((16 : Int32) &&& 0x3f).toInt64.toUInt64).toInt64) &&& (255 : Int64)).toInt32)), (.ref b111), (.ref b144), (.ref b144)])) _
    refine st152.trans ?_
    exact h
  obtain ⟨fs, hr, hrun, hended, hW, hsame⟩ := X152.leave (v := some (.ref b144)) (fun h => by rw [Bd.returns] at h; cases h) Bd.notSynchronized
  refine ⟨_, _, pre0 _ (k157 _ ?_), hrun, hended, _, _, rfl, ?_, ⟨_, rfl⟩, hW, hsame.mono (by decide) (by decide)⟩
  · jvm_step X152.here [X152.here.top, hx, (hb hby own_d1_189), X152.method', Bd.returns, Value.isRef, FieldType.isReference]
    first | (intro acts; rw [hr _ acts rfl rfl rfl]) | rw [hr _ _ rfl rfl rfl]
    exact Steps.refl _
  · show Q_rmK4 Z _ _ _ _ _ h0 n0 _ T152.heap _
    exact ⟨b144, b111, rfl, N152, K156, f154, Fq1520, f153, Fq1521, Fq1522, Fq1523⟩
def Q_rmV (Z : State) (r0 : Addr) (ba : Addr) (n : Nat) (f : Nat → Int32) (h0 : Heap) (n0 : Nat) (v : Option Value) (h : Heap) (L : List Loc) : Prop := v = some (.int (own_is n)) ∧ Fr n0 L ∧ h = h0
set_option maxRecDepth 65536 in
set_option maxHeartbeats 40000000 in
theorem rmV (l : Launch) (Z : State) (a0 : Array Value) (hw : ∀ d ∈ tables_1, d.before a0 Z = true) (ws : List Jvm.Cond) (r0 : Addr) (ba : Addr) (n : Nat) (f : Nat → Int32) (h0 : Heap) (n0 : Nat) (Z0 : n0 ≤ h0.size) (F1 : Fld Z h0 r0 "com/example/mynah/mynah/rpsl/PrefixRange" "address" "[B" (.ref ba)) (A1 : own_BA Z h0 ba n f) :
    MetFree l (⟨"com/example/mynah/mynah/rpsl/PrefixRange", "isIpv6", "()Z"⟩ : MethodName) (head1 (Jvm.Cond.code (⟨"com/example/mynah/mynah/rpsl/PrefixRange", "isIpv6", "()Z"⟩ : MethodName) prog_50_method_8_code 1 (some .boolean) :: ws) ({ frames := 0, cells := 0, slots := 0, locals := 0 } : Room)) (fun a U => a = #[(.ref r0)] ∧ Z.Warmed39 U.vm ∧ U.heap = h0) (fun _ _ _ _ _ => True) (fun _ U o U' => ∃ v L, o = .returned v ∧ Q_rmV Z r0 ba n f h0 n0 v U'.heap L ∧ FrameEnd U o U' L ({ frames := 0, cells := 0, slots := 0, locals := 0 } : Room).cells ({ frames := 0, cells := 0, slots := 0, locals := 0 } : Room).slots) := by
  refine MetFree.of_bodySF (plainFor_of_name own_pn_0) hisR ?_
  intro p e s m args below meth c s₁ Bd hml0 hP hK
  obtain ⟨rfl, hZ, hh⟩ := hP
  have hx := Bd.exec
  have hby := Bd.bytes
  have hml : c.maxLocals = 1 := hml0
  have hown : s.vm.findClass "com/example/mynah/mynah/rpsl/PrefixRange" = some m.cls := findClass_of_methodNamed Bd.named
  have hnm := (name_of_methodNamed Bd.named Bd.method).1
  have X0 : Stand p l e ({ frames := 0, cells := 0, slots := 0, locals := 0 } : Room) s m #[(.ref r0)] below meth c s₁ [] 0 0 := Stand.of_body Bd
  have e0 : s₁.heap = h0 := by rw [← hh, Bd.state]; rfl
  have N0 := Fr.nil n0
  have K0 : Keep h0 h0 [] := Keep.refl h0 _
  have pre0 : ∀ t, Steps p.tables e below (s₁.setTop (mkF m 0 #[.val (.ref r0)] [])) t → Steps p.tables e below (s₁.setTop (entryFrame m #[(.ref r0)] 1)) t := fun t k => castTop (own_ef_2 m r0) k
  obtain ⟨T158, X158, e158, st158⟩ := getF X0 hx hZ hown (host := "") (Or.inl (hw _ (List.mem_of_getElem? (i := 18) rfl))) Via.refl e0 F1 (g := (mkF m 1 #[.val (.ref r0)] [(.ref r0)])) rfl rfl (hb hby own_d5_1)
  obtain ⟨cl159, Ar159, hl159⟩ := A1.len
  have k160 : ∀ t, Steps p.tables e below (T158.setTop (mkF m 7 #[.val (.ref r0)] [(.int (16 : Int32)), (.int (Int32.ofNat (n)))])) t → Steps p.tables e below (s₁.setTop (mkF m 0 #[.val (.ref r0)] [])) t := by
    intro t h
    show Steps p.tables e below (s₁.setTop (mkF m 0 #[.val (.ref r0)] [])) _
    refine XS.aloadN X0.here hx rfl (hb hby own_d5_0) rfl rfl ?_
    show Steps p.tables e below (s₁.setTop (mkF m 1 #[.val (.ref r0)] [(.ref r0)])) _
    refine st158 _ ?_
    show Steps p.tables e below (T158.setTop (mkF m 4 #[.val (.ref r0)] [(.ref ba)])) _
    refine X158.arraylength hx (by rw [e158]; exact Ar159.1) (State.isArrayOf_alike hZ.alike Ar159.2.1) (g := (mkF m 4 #[.val (.ref r0)] [(.ref ba)])) rfl rfl (hb hby own_d5_4) _ ?_
    rw [hl159]
    show Steps p.tables e below (T158.setTop (mkF m 5 #[.val (.ref r0)] [(.int (Int32.ofNat (n)))])) _
    refine XS.bipush X158.here hx rfl (hb hby own_d5_5) ?_
    exact h
  by_cases c7_161 : (Int32.ofNat (n)) = (16 : Int32)
  · skip
    have k162 : ∀ t, Steps p.tables e below (T158.setTop (mkF m 15 #[.val (.ref r0)] [(.int (1 : Int32))])) t → Steps p.tables e below (s₁.setTop (mkF m 0 #[.val (.ref r0)] [])) t := by
      intro t h
      refine k160 t ?_
      show Steps p.tables e below (T158.setTop (mkF m 7 #[.val (.ref r0)] [(.int (16 : Int32)), (.int (Int32.ofNat (n)))])) _
      refine XS.icmpNo X158.here hx rfl (hb hby own_d5_7) rfl (teq c7_161).2 ?_
      show Steps p.tables e below (T158.setTop (mkF m 10 #[.val (.ref r0)] [])) _
      refine XS.iconst X158.here hx rfl (hb hby own_d5_10) ?_
      show Steps p.tables e below (T158.setTop (mkF m 11 #[.val (.ref r0)] [(.int (1 : Int32))])) _
      refine XS.goto X158.here hx rfl (pc0 := 11) (pc' := 15) rfl (hb hby own_d5_11) (by decide) (by decide) ?_
      exact h
    obtain ⟨fs, hr, hrun, hended, hW, hsame⟩ := X158.leave (v := some (.int (1 : Int32))) (fun h => by rw [Bd.returns] at h; cases h) Bd.notSynchronized
    refine ⟨_, _, pre0 _ (k162 _ ?_), hrun, hended, _, _, rfl, ?_, ⟨_, rfl⟩, hW, hsame.mono (by decide) (by decide)⟩
    · exact retN X158 hx (t := .boolean) Bd.returns (by simp) (hb hby own_d5_15) hr
    · show Q_rmV Z _ _ _ _ h0 n0 _ T158.heap _
      rw [e158]
      exact ⟨congrArg (fun z : Int32 => some (Value.int z)) (by first | (simp only [own_is, c7_161, ↓reduceIte]; done) | (simp [own_is, c7_161]; done)), N0, rfl⟩
  · skip
    have k163 : ∀ t, Steps p.tables e below (T158.setTop (mkF m 15 #[.val (.ref r0)] [(.int (0 : Int32))])) t → Steps p.tables e below (s₁.setTop (mkF m 0 #[.val (.ref r0)] [])) t := by
      intro t h
      refine k160 t ?_
      show Steps p.tables e below (T158.setTop (mkF m 7 #[.val (.ref r0)] [(.int (16 : Int32)), (.int (Int32.ofNat (n)))])) _
      refine XS.icmpYes X158.here hx rfl (pc0 := 7) (pc' := 14) rfl (hb hby own_d5_7) rfl (feq c7_161).2 (by decide) (by decide) ?_
      show Steps p.tables e below (T158.setTop (mkF m 14 #[.val (.ref r0)] [])) _
      refine XS.iconst X158.here hx rfl (hb hby own_d5_14) ?_
      exact h
    obtain ⟨fs, hr, hrun, hended, hW, hsame⟩ := X158.leave (v := some (.int (0 : Int32))) (fun h => by rw [Bd.returns] at h; cases h) Bd.notSynchronized
    refine ⟨_, _, pre0 _ (k163 _ ?_), hrun, hended, _, _, rfl, ?_, ⟨_, rfl⟩, hW, hsame.mono (by decide) (by decide)⟩
    · exact retN X158 hx (t := .boolean) Bd.returns (by simp) (hb hby own_d5_15) hr
    · show Q_rmV Z _ _ _ _ h0 n0 _ T158.heap _
      rw [e158]
      exact ⟨congrArg (fun z : Int32 => some (Value.int z)) (by first | (simp only [own_is, c7_161, ↓reduceIte]; done) | (simp [own_is, c7_161]; done)), N0, rfl⟩
def Q_rmL (Z : State) (r0 : Addr) (ba : Addr) (n : Nat) (f : Nat → Int32) (h0 : Heap) (n0 : Nat) (v : Option Value) (h : Heap) (L : List Loc) : Prop := v = some (.int (own_kl n)) ∧ Fr n0 L ∧ h = h0
set_option maxRecDepth 65536 in
set_option maxHeartbeats 40000000 in
theorem rmL (l : Launch) (Z : State) (a0 : Array Value) (hw : ∀ d ∈ tables_1, d.before a0 Z = true) (ws : List Jvm.Cond) (r0 : Addr) (ba : Addr) (n : Nat) (f : Nat → Int32) (h0 : Heap) (n0 : Nat) (Z0 : n0 ≤ h0.size) (F1 : Fld Z h0 r0 "com/example/mynah/mynah/rpsl/PrefixRange" "address" "[B" (.ref ba)) (A1 : own_BA Z h0 ba n f) (E1 : Exa Z h0 r0 "com/example/mynah/mynah/rpsl/PrefixRange") :
    MetFree l (⟨"com/example/mynah/mynah/rpsl/PrefixRange", "keyLongs", "()I"⟩ : MethodName) (head1 (Jvm.Cond.code (⟨"com/example/mynah/mynah/rpsl/PrefixRange", "keyLongs", "()I"⟩ : MethodName) prog_50_method_7_code 1 (some .int) :: ws) ({ frames := 1, cells := 0, slots := 0, locals := 12 } : Room)) (fun a U => a = #[(.ref r0)] ∧ Z.Warmed39 U.vm ∧ U.heap = h0) (fun _ _ _ _ _ => True) (fun _ U o U' => ∃ v L, o = .returned v ∧ Q_rmL Z r0 ba n f h0 n0 v U'.heap L ∧ FrameEnd U o U' L ({ frames := 1, cells := 0, slots := 0, locals := 12 } : Room).cells ({ frames := 1, cells := 0, slots := 0, locals := 12 } : Room).slots) := by
  refine MetFree.of_bodySF (plainFor_of_name own_pn_0) hisR ?_
  intro p e s m args below meth c s₁ Bd hml0 hP hK
  obtain ⟨rfl, hZ, hh⟩ := hP
  have hx := Bd.exec
  have hby := Bd.bytes
  have hml : c.maxLocals = 1 := hml0
  have hown : s.vm.findClass "com/example/mynah/mynah/rpsl/PrefixRange" = some m.cls := findClass_of_methodNamed Bd.named
  have hnm := (name_of_methodNamed Bd.named Bd.method).1
  have X0 : Stand p l e ({ frames := 1, cells := 0, slots := 0, locals := 12 } : Room) s m #[(.ref r0)] below meth c s₁ [] 0 0 := Stand.of_body Bd
  have e0 : s₁.heap = h0 := by rw [← hh, Bd.state]; rfl
  have N0 := Fr.nil n0
  have K0 : Keep h0 h0 [] := Keep.refl h0 _
  have pre0 : ∀ t, Steps p.tables e below (s₁.setTop (mkF m 0 #[.val (.ref r0)] [])) t → Steps p.tables e below (s₁.setTop (entryFrame m #[(.ref r0)] 1)) t := fun t k => castTop (own_ef_2 m r0) k
  obtain ⟨cq164, kq164, q164a, q164b, q164c⟩ := isOf hZ e0 E1
  obtain ⟨_, _, ⟨T164, L164, k164, n164⟩, -, X164, ⟨Lc164, hQ164, l164, y164, z164⟩, st164⟩ := X0.virtualBack hx (y := (⟨"com/example/mynah/mynah/rpsl/PrefixRange", "isIpv6", "()Z"⟩ : MethodName)) (z := (⟨"com/example/mynah/mynah/rpsl/PrefixRange", "isIpv6", "()Z"⟩ : MethodName)) hown (mvT hZ (hw _ (List.mem_of_getElem? (i := 31) rfl))) (mvT hZ (hw _ (List.mem_of_getElem? (i := 32) rfl))) (notFace_of_selects (args := #[]) (mvT hZ (hw _ (List.mem_of_getElem? (i := 34) rfl)))) (mvT hZ (hw _ (List.mem_of_getElem? (i := 34) rfl))) (mvT hZ (hw _ (List.mem_of_getElem? (i := 33) rfl))) (by decide) (backOf (W := 0) (rmV l Z a0 hw [] r0 ba n f h0 n0 Z0 F1 A1) hZ (hw _ (List.mem_of_getElem? (i := 35) rfl)) (hw _ (List.mem_of_getElem? (i := 6) rfl)) (by decide) (by decide)) q164a q164c (g := (mkF m 1 #[.val (.ref r0)] [(.ref r0)])) rfl (by rw [hml]; rfl) (Steps.refl _) (argsL := []) (rest := []) (lenOf own_pd_1 rfl) rfl (by show 2 * 0 + _ ≤ _; exact Nat.le_of_eq rfl) (hb hby own_d6_1) (fun _ _ => ⟨rfl, e0, (by decide : 0 + 0 ≤ _), (by decide : 0 + 0 ≤ _)⟩)
  dsimp only [Pt.U, Pt.locs, Pt.cells, Pt.slots] at X164 l164 y164 z164 st164 hQ164
  subst l164 y164 z164
  obtain ⟨rfl, Nq164, eq164⟩ := hQ164
  have N164 := Fr.app N0 Nq164
  have k165 : ∀ t, Steps p.tables e below (T164.setTop (mkF m 4 #[.val (.ref r0)] [(.int (own_is n))])) t → Steps p.tables e below (s₁.setTop (mkF m 0 #[.val (.ref r0)] [])) t := by
    intro t h
    show Steps p.tables e below (s₁.setTop (mkF m 0 #[.val (.ref r0)] [])) _
    refine XS.aloadN X0.here hx rfl (hb hby own_d6_0) rfl rfl ?_
    show Steps p.tables e below (s₁.setTop (mkF m 1 #[.val (.ref r0)] [(.ref r0)])) _
    refine st164.trans ?_
    exact h
  by_cases c4_166 : (own_is n) = (0 : Int32)
  · skip
    have k167 : ∀ t, Steps p.tables e below (T164.setTop (mkF m 12 #[.val (.ref r0)] [(.int (1 : Int32))])) t → Steps p.tables e below (s₁.setTop (mkF m 0 #[.val (.ref r0)] [])) t := by
      intro t h
      refine k165 t ?_
      show Steps p.tables e below (T164.setTop (mkF m 4 #[.val (.ref r0)] [(.int (own_is n))])) _
      refine XS.ifYes X164.here hx rfl (pc0 := 4) (pc' := 11) rfl (hb hby own_d6_4) rfl ((if0 _ _).trans (teq c4_166).1) (by decide) (by decide) ?_
      show Steps p.tables e below (T164.setTop (mkF m 11 #[.val (.ref r0)] [])) _
      refine XS.iconst X164.here hx rfl (hb hby own_d6_11) ?_
      exact h
    obtain ⟨fs, hr, hrun, hended, hW, hsame⟩ := X164.leave (v := some (.int (1 : Int32))) (fun h => by rw [Bd.returns] at h; cases h) Bd.notSynchronized
    refine ⟨_, _, pre0 _ (k167 _ ?_), hrun, hended, _, _, rfl, ?_, ⟨_, rfl⟩, hW, hsame.mono (by decide) (by decide)⟩
    · exact retI X164 hx Bd.returns (hb hby own_d6_12) hr
    · show Q_rmL Z _ _ _ _ h0 n0 _ T164.heap _
      rw [eq164]
      exact ⟨congrArg (fun z : Int32 => some (Value.int z)) (by first | (simp only [own_kl, c4_166, ↓reduceIte]; done) | (simp [own_kl, c4_166]; done)), N164, rfl⟩
  · skip
    have k168 : ∀ t, Steps p.tables e below (T164.setTop (mkF m 12 #[.val (.ref r0)] [(.int (3 : Int32))])) t → Steps p.tables e below (s₁.setTop (mkF m 0 #[.val (.ref r0)] [])) t := by
      intro t h
      refine k165 t ?_
      show Steps p.tables e below (T164.setTop (mkF m 4 #[.val (.ref r0)] [(.int (own_is n))])) _
      refine XS.ifNo X164.here hx rfl (hb hby own_d6_4) rfl ((if0 _ _).trans (feq c4_166).1) ?_
      show Steps p.tables e below (T164.setTop (mkF m 7 #[.val (.ref r0)] [])) _
      refine XS.iconst X164.here hx rfl (hb hby own_d6_7) ?_
      show Steps p.tables e below (T164.setTop (mkF m 8 #[.val (.ref r0)] [(.int (3 : Int32))])) _
      refine XS.goto X164.here hx rfl (pc0 := 8) (pc' := 12) rfl (hb hby own_d6_8) (by decide) (by decide) ?_
      exact h
    obtain ⟨fs, hr, hrun, hended, hW, hsame⟩ := X164.leave (v := some (.int (3 : Int32))) (fun h => by rw [Bd.returns] at h; cases h) Bd.notSynchronized
    refine ⟨_, _, pre0 _ (k168 _ ?_), hrun, hended, _, _, rfl, ?_, ⟨_, rfl⟩, hW, hsame.mono (by decide) (by decide)⟩
    · exact retI X164 hx Bd.returns (hb hby own_d6_12) hr
    · show Q_rmL Z _ _ _ _ h0 n0 _ T164.heap _
      rw [eq164]
      exact ⟨congrArg (fun z : Int32 => some (Value.int z)) (by first | (simp only [own_kl, c4_166, ↓reduceIte]; done) | (simp [own_kl, c4_166]; done)), N164, rfl⟩
def Q_rmN (Z : State) (r0 : Addr) (w1 : Int32) (h0 : Heap) (n0 : Nat) (v : Option Value) (h : Heap) (L : List Loc) : Prop := v = some (.int w1) ∧ Fr n0 L ∧ h = h0
set_option maxRecDepth 65536 in
set_option maxHeartbeats 40000000 in
theorem rmN (l : Launch) (Z : State) (a0 : Array Value) (hw : ∀ d ∈ tables_1, d.before a0 Z = true) (ws : List Jvm.Cond) (r0 : Addr) (w1 : Int32) (h0 : Heap) (n0 : Nat) (Z0 : n0 ≤ h0.size) (F1 : Fld Z h0 r0 "com/example/mynah/mynah/rpsl/PrefixRange" "length" "I" (.int w1)) :
    MetFree l (⟨"com/example/mynah/mynah/rpsl/PrefixRange", "length", "()I"⟩ : MethodName) (head1 (Jvm.Cond.code (⟨"com/example/mynah/mynah/rpsl/PrefixRange", "length", "()I"⟩ : MethodName) prog_50_method_15_code 1 (some .int) :: ws) ({ frames := 0, cells := 0, slots := 0, locals := 0 } : Room)) (fun a U => a = #[(.ref r0)] ∧ Z.Warmed39 U.vm ∧ U.heap = h0) (fun _ _ _ _ _ => True) (fun _ U o U' => ∃ v L, o = .returned v ∧ Q_rmN Z r0 w1 h0 n0 v U'.heap L ∧ FrameEnd U o U' L ({ frames := 0, cells := 0, slots := 0, locals := 0 } : Room).cells ({ frames := 0, cells := 0, slots := 0, locals := 0 } : Room).slots) := by
  refine MetFree.of_bodySF (plainFor_of_name own_pn_0) hisR ?_
  intro p e s m args below meth c s₁ Bd hml0 hP hK
  obtain ⟨rfl, hZ, hh⟩ := hP
  have hx := Bd.exec
  have hby := Bd.bytes
  have hml : c.maxLocals = 1 := hml0
  have hown : s.vm.findClass "com/example/mynah/mynah/rpsl/PrefixRange" = some m.cls := findClass_of_methodNamed Bd.named
  have hnm := (name_of_methodNamed Bd.named Bd.method).1
  have X0 : Stand p l e ({ frames := 0, cells := 0, slots := 0, locals := 0 } : Room) s m #[(.ref r0)] below meth c s₁ [] 0 0 := Stand.of_body Bd
  have e0 : s₁.heap = h0 := by rw [← hh, Bd.state]; rfl
  have N0 := Fr.nil n0
  have K0 : Keep h0 h0 [] := Keep.refl h0 _
  have pre0 : ∀ t, Steps p.tables e below (s₁.setTop (mkF m 0 #[.val (.ref r0)] [])) t → Steps p.tables e below (s₁.setTop (entryFrame m #[(.ref r0)] 1)) t := fun t k => castTop (own_ef_2 m r0) k
  obtain ⟨T169, X169, e169, st169⟩ := getF X0 hx hZ hown (host := "") (Or.inl (hw _ (List.mem_of_getElem? (i := 20) rfl))) Via.refl e0 F1 (g := (mkF m 1 #[.val (.ref r0)] [(.ref r0)])) rfl rfl (hb hby own_d7_1)
  have k170 : ∀ t, Steps p.tables e below (T169.setTop (mkF m 4 #[.val (.ref r0)] [(.int w1)])) t → Steps p.tables e below (s₁.setTop (mkF m 0 #[.val (.ref r0)] [])) t := by
    intro t h
    show Steps p.tables e below (s₁.setTop (mkF m 0 #[.val (.ref r0)] [])) _
    refine XS.aloadN X0.here hx rfl (hb hby own_d7_0) rfl rfl ?_
    show Steps p.tables e below (s₁.setTop (mkF m 1 #[.val (.ref r0)] [(.ref r0)])) _
    refine st169 _ ?_
    exact h
  obtain ⟨fs, hr, hrun, hended, hW, hsame⟩ := X169.leave (v := some (.int w1)) (fun h => by rw [Bd.returns] at h; cases h) Bd.notSynchronized
  refine ⟨_, _, pre0 _ (k170 _ ?_), hrun, hended, _, _, rfl, ?_, ⟨_, rfl⟩, hW, hsame.mono (by decide) (by decide)⟩
  · exact retI X169 hx Bd.returns (hb hby own_d7_4) hr
  · show Q_rmN Z _ _ h0 n0 _ T169.heap _
    rw [e169]
    exact ⟨congrArg (fun z : Int32 => some (Value.int z)) (rfl), N0, rfl⟩
def Q_rmW6 (Z : State) (r0 : Addr) (r1 : Addr) (p2 : Int32) (ba : Addr) (f : Nat → Int32) (x : Int64) (fo : Nat → Int64) (h0 : Heap) (n0 : Nat) (v : Option Value) (h : Heap) (L : List Loc) : Prop := v = none ∧ Fr n0 L ∧ Keep h0 h [r1] ∧ own_LA Z h r1 3 (fun k => if k = 2 then ((((own_L f 16) &&& (1 : Int64)) <<< ((24 : Int32) &&& 0x3f).toInt64) ||| own_lg x) else if k = 1 then (((own_H f 16) <<< ((63 : Int32) &&& 0x3f).toInt64) ||| (((own_L f 16).toUInt64 >>> ((1 : Int32) &&& 0x3f).toInt64.toUInt64).toInt64)) else if k = 0 then ((-9223372036854775808 : Int64) ||| (((own_H f 16).toUInt64 >>> ((1 : Int32) &&& 0x3f).toInt64.toUInt64).toInt64)) else fo k)
set_option maxRecDepth 65536 in
set_option maxHeartbeats 40000000 in
theorem rmW6 (l : Launch) (Z : State) (a0 : Array Value) (hw : ∀ d ∈ tables_1, d.before a0 Z = true) (ws : List Jvm.Cond) (r0 : Addr) (r1 : Addr) (p2 : Int32) (ba : Addr) (f : Nat → Int32) (x : Int64) (fo : Nat → Int64) (h0 : Heap) (n0 : Nat) (Z0 : n0 ≤ h0.size) (F1 : Fld Z h0 r0 "com/example/mynah/mynah/rpsl/PrefixRange" "address" "[B" (.ref ba)) (A1 : own_BA Z h0 ba 16 f) (E1 : Exa Z h0 r0 "com/example/mynah/mynah/rpsl/PrefixRange") (F2 : Fld Z h0 r0 "com/example/mynah/mynah/rpsl/PrefixRange" "length" "I" (.int (own_len x))) (F3 : Fld Z h0 r0 "com/example/mynah/mynah/rpsl/PrefixRange" "least" "I" (.int (own_lea x))) (F4 : Fld Z h0 r0 "com/example/mynah/mynah/rpsl/PrefixRange" "most" "I" (.int (own_mos x))) (A2 : own_LA Z h0 r1 3 fo) (g_r1 : n0 ≤ r1) (ne1 : r0 ≠ r1) (ne2 : ba ≠ r1) (hp2 : p2 = 0) :
    MetFree l (⟨"com/example/mynah/mynah/rpsl/PrefixRange", "writeKey", "([JI)V"⟩ : MethodName) (head1 (Jvm.Cond.code (⟨"com/example/mynah/mynah/rpsl/PrefixRange", "writeKey", "([JI)V"⟩ : MethodName) prog_50_method_6_code 9 none :: ws) ({ frames := 1, cells := 0, slots := 0, locals := 12 } : Room)) (fun a U => a = #[(.ref r0), (.ref r1), (.int p2)] ∧ Z.Warmed39 U.vm ∧ U.heap = h0) (fun _ _ _ _ _ => True) (fun _ U o U' => ∃ v L, o = .returned v ∧ Q_rmW6 Z r0 r1 p2 ba f x fo h0 n0 v U'.heap L ∧ FrameEnd U o U' L ({ frames := 1, cells := 0, slots := 0, locals := 12 } : Room).cells ({ frames := 1, cells := 0, slots := 0, locals := 12 } : Room).slots) := by
  refine MetFree.of_bodySF (plainFor_of_name own_pn_0) hisR ?_
  intro p e s m args below meth c s₁ Bd hml0 hP hK
  obtain ⟨rfl, hZ, hh⟩ := hP
  have hx := Bd.exec
  have hby := Bd.bytes
  have hml : c.maxLocals = 9 := hml0
  have hown : s.vm.findClass "com/example/mynah/mynah/rpsl/PrefixRange" = some m.cls := findClass_of_methodNamed Bd.named
  have hnm := (name_of_methodNamed Bd.named Bd.method).1
  have X0 : Stand p l e ({ frames := 1, cells := 0, slots := 0, locals := 12 } : Room) s m #[(.ref r0), (.ref r1), (.int p2)] below meth c s₁ [] 0 0 := Stand.of_body Bd
  have e0 : s₁.heap = h0 := by rw [← hh, Bd.state]; rfl
  have N0 := Fr.nil n0
  have K0 : Keep h0 h0 [r1] := Keep.refl h0 _
  have pre0 : ∀ t, Steps p.tables e below (s₁.setTop (mkF m 0 #[.val (.ref r0), .val (.ref r1), .val (.int p2), .unset, .unset, .unset, .unset, .unset, .unset] [])) t → Steps p.tables e below (s₁.setTop (entryFrame m #[(.ref r0), (.ref r1), (.int p2)] 9)) t := fun t k => castTop (own_ef_3 m r0 r1 p2) k
  subst hp2
  have k171 : ∀ t, Steps p.tables e below (s₁.setTop (mkF m 8 #[.val (.ref r0), .val (.ref r1), .val (.int (0 : Int32)), .val (.long (0 : Int64)), .second, .val (.long (0 : Int64)), .second, .val (.int (0 : Int32)), .unset] [])) t → Steps p.tables e below (s₁.setTop (mkF m 0 #[.val (.ref r0), .val (.ref r1), .val (.int (0 : Int32)), .unset, .unset, .unset, .unset, .unset, .unset] [])) t := by
    intro t h
    show Steps p.tables e below (s₁.setTop (mkF m 0 #[.val (.ref r0), .val (.ref r1), .val (.int (0 : Int32)), .unset, .unset, .unset, .unset, .unset, .unset] [])) _
    refine XS.lconst X0.here hx rfl (hb hby own_d4_0) ?_
    show Steps p.tables e below (s₁.setTop (mkF m 1 #[.val (.ref r0), .val (.ref r1), .val (.int (0 : Int32)), .unset, .unset, .unset, .unset, .unset, .unset] [(.long (0 : Int64))])) _
    refine XS.lstoreN X0.here hx rfl (hb hby own_d4_1) rfl (l' := #[.val (.ref r0), .val (.ref r1), .val (.int (0 : Int32)), .val (.long (0 : Int64)), .second, .unset, .unset, .unset, .unset]) rfl ?_
    show Steps p.tables e below (s₁.setTop (mkF m 2 #[.val (.ref r0), .val (.ref r1), .val (.int (0 : Int32)), .val (.long (0 : Int64)), .second, .unset, .unset, .unset, .unset] [])) _
    refine XS.lconst X0.here hx rfl (hb hby own_d4_2) ?_
    show Steps p.tables e below (s₁.setTop (mkF m 3 #[.val (.ref r0), .val (.ref r1), .val (.int (0 : Int32)), .val (.long (0 : Int64)), .second, .unset, .unset, .unset, .unset] [(.long (0 : Int64))])) _
    refine XS.lstore X0.here hx rfl (hb hby own_d4_3) rfl (l' := #[.val (.ref r0), .val (.ref r1), .val (.int (0 : Int32)), .val (.long (0 : Int64)), .second, .val (.long (0 : Int64)), .second, .unset, .unset]) rfl ?_
    show Steps p.tables e below (s₁.setTop (mkF m 5 #[.val (.ref r0), .val (.ref r1), .val (.int (0 : Int32)), .val (.long (0 : Int64)), .second, .val (.long (0 : Int64)), .second, .unset, .unset] [])) _
    refine XS.iconst X0.here hx rfl (hb hby own_d4_5) ?_
    show Steps p.tables e below (s₁.setTop (mkF m 6 #[.val (.ref r0), .val (.ref r1), .val (.int (0 : Int32)), .val (.long (0 : Int64)), .second, .val (.long (0 : Int64)), .second, .unset, .unset] [(.int (0 : Int32))])) _
    refine XS.istore X0.here hx rfl (hb hby own_d4_6) rfl (l' := #[.val (.ref r0), .val (.ref r1), .val (.int (0 : Int32)), .val (.long (0 : Int64)), .second, .val (.long (0 : Int64)), .second, .val (.int (0 : Int32)), .unset]) rfl ?_
    exact h
  have k172 : ∀ t, Steps p.tables e below (s₁.setTop (mkF m 8 #[.val (.ref r0), .val (.ref r1), .val (.int (0 : Int32)), .val (.long (own_H f 0)), .second, .val (.long (own_L f 0)), .second, .val (.int (Int32.ofNat 0)), .unset] [])) t → Steps p.tables e below (s₁.setTop (mkF m 0 #[.val (.ref r0), .val (.ref r1), .val (.int (0 : Int32)), .unset, .unset, .unset, .unset, .unset, .unset] [])) t := k171
  have lp173 : ∀ (d : Nat) (i : Nat), i + d = 16 → ∀ (T : State) (h : Heap) (L : List Loc), Stand p l e ({ frames := 1, cells := 0, slots := 0, locals := 12 } : Room) s m #[(.ref r0), (.ref r1), (.int (0 : Int32))] below meth c T L 0 0 → T.heap = h → Fr n0 L → n0 ≤ h.size → Keep h0 h [r1] → Fld Z h r0 "com/example/mynah/mynah/rpsl/PrefixRange" "address" "[B" (.ref ba) → own_BA Z h ba (16) f → Exa Z h r0 "com/example/mynah/mynah/rpsl/PrefixRange" → Fld Z h r0 "com/example/mynah/mynah/rpsl/PrefixRange" "length" "I" (.int (own_len x)) → Fld Z h r0 "com/example/mynah/mynah/rpsl/PrefixRange" "least" "I" (.int (own_lea x)) → Fld Z h r0 "com/example/mynah/mynah/rpsl/PrefixRange" "most" "I" (.int (own_mos x)) → own_LA Z h r1 (3) fo → ∃ (T' : State) (h' : Heap) (L' : List Loc), Stand p l e ({ frames := 1, cells := 0, slots := 0, locals := 12 } : Room) s m #[(.ref r0), (.ref r1), (.int (0 : Int32))] below meth c T' L' 0 0 ∧ T'.heap = h' ∧ Fr n0 L' ∧ n0 ≤ h'.size ∧ Keep h0 h' [r1] ∧ Fld Z h' r0 "com/example/mynah/mynah/rpsl/PrefixRange" "address" "[B" (.ref ba) ∧ own_BA Z h' ba (16) f ∧ Exa Z h' r0 "com/example/mynah/mynah/rpsl/PrefixRange" ∧ Fld Z h' r0 "com/example/mynah/mynah/rpsl/PrefixRange" "length" "I" (.int (own_len x)) ∧ Fld Z h' r0 "com/example/mynah/mynah/rpsl/PrefixRange" "least" "I" (.int (own_lea x)) ∧ Fld Z h' r0 "com/example/mynah/mynah/rpsl/PrefixRange" "most" "I" (.int (own_mos x)) ∧ own_LA Z h' r1 (3) fo ∧ ∀ t, Steps p.tables e below (T'.setTop (mkF m 72 #[.val (.ref r0), .val (.ref r1), .val (.int (0 : Int32)), .val (.long (own_H f (16))), .second, .val (.long (own_L f (16))), .second, .val (.int (Int32.ofNat (16))), .unset] [])) t → Steps p.tables e below (T.setTop (mkF m 8 #[.val (.ref r0), .val (.ref r1), .val (.int (0 : Int32)), .val (.long (own_H f i)), .second, .val (.long (own_L f i)), .second, .val (.int (Int32.ofNat i)), .unset] [])) t := by
    intro d
    induction d with
    | zero =>
      intro i hd  T h L X hE hN hZZ hK hf0 hf1 hf2 hf3 hf4 hf5 hf6
      have hi : i = 16 := by omega
      subst hi
      obtain ⟨T174, X174, e174, st174⟩ := getF X hx hZ hown (host := "") (Or.inl (hw _ (List.mem_of_getElem? (i := 18) rfl))) Via.refl hE hf0 (g := (mkF m 11 #[.val (.ref r0), .val (.ref r1), .val (.int (0 : Int32)), .val (.long (own_H f (16))), .second, .val (.long (own_L f (16))), .second, .val (.int (Int32.ofNat (16))), .unset] [(.ref r0), (.int (Int32.ofNat (16)))])) rfl rfl (hb hby own_d4_11)
      obtain ⟨cl175, Ar175, hl175⟩ := hf1.len
      have k176 : ∀ t, Steps p.tables e below (T174.setTop (mkF m 15 #[.val (.ref r0), .val (.ref r1), .val (.int (0 : Int32)), .val (.long (own_H f (16))), .second, .val (.long (own_L f (16))), .second, .val (.int (Int32.ofNat (16))), .unset] [(.int (Int32.ofNat (16))), (.int (Int32.ofNat (16)))])) t → Steps p.tables e below (T.setTop (mkF m 8 #[.val (.ref r0), .val (.ref r1), .val (.int (0 : Int32)), .val (.long (own_H f (16))), .second, .val (.long (own_L f (16))), .second, .val (.int (Int32.ofNat (16))), .unset] [])) t := by
        intro t h
        show Steps p.tables e below (T.setTop (mkF m 8 #[.val (.ref r0), .val (.ref r1), .val (.int (0 : Int32)), .val (.long (own_H f (16))), .second, .val (.long (own_L f (16))), .second, .val (.int (Int32.ofNat (16))), .unset] [])) _
        refine XS.iload X.here hx rfl (hb hby own_d4_8) rfl ?_
        show Steps p.tables e below (T.setTop (mkF m 10 #[.val (.ref r0), .val (.ref r1), .val (.int (0 : Int32)), .val (.long (own_H f (16))), .second, .val (.long (own_L f (16))), .second, .val (.int (Int32.ofNat (16))), .unset] [(.int (Int32.ofNat (16)))])) _
        refine XS.aloadN X.here hx rfl (hb hby own_d4_10) rfl rfl ?_
        show Steps p.tables e below (T.setTop (mkF m 11 #[.val (.ref r0), .val (.ref r1), .val (.int (0 : Int32)), .val (.long (own_H f (16))), .second, .val (.long (own_L f (16))), .second, .val (.int (Int32.ofNat (16))), .unset] [(.ref r0), (.int (Int32.ofNat (16)))])) _
        refine st174 _ ?_
        show Steps p.tables e below (T174.setTop (mkF m 14 #[.val (.ref r0), .val (.ref r1), .val (.int (0 : Int32)), .val (.long (own_H f (16))), .second, .val (.long (own_L f (16))), .second, .val (.int (Int32.ofNat (16))), .unset] [(.ref ba), (.int (Int32.ofNat (16)))])) _
        refine X174.arraylength hx (by rw [e174]; exact Ar175.1) (State.isArrayOf_alike hZ.alike Ar175.2.1) (g := (mkF m 14 #[.val (.ref r0), .val (.ref r1), .val (.int (0 : Int32)), .val (.long (own_H f (16))), .second, .val (.long (own_L f (16))), .second, .val (.int (Int32.ofNat (16))), .unset] [(.ref ba), (.int (Int32.ofNat (16)))])) rfl rfl (hb hby own_d4_14) _ ?_
        rw [hl175]
        exact h
      have b15_177 : ¬ ((Int32.ofNat (16)) < (Int32.ofNat (16))) := own_nlt (by omega) (by decide)
      have k178 : ∀ t, Steps p.tables e below (T174.setTop (mkF m 72 #[.val (.ref r0), .val (.ref r1), .val (.int (0 : Int32)), .val (.long (own_H f (16))), .second, .val (.long (own_L f (16))), .second, .val (.int (Int32.ofNat (16))), .unset] [])) t → Steps p.tables e below (T.setTop (mkF m 8 #[.val (.ref r0), .val (.ref r1), .val (.int (0 : Int32)), .val (.long (own_H f (16))), .second, .val (.long (own_L f (16))), .second, .val (.int (Int32.ofNat (16))), .unset] [])) t := by
        intro t h
        refine k176 t ?_
        show Steps p.tables e below (T174.setTop (mkF m 15 #[.val (.ref r0), .val (.ref r1), .val (.int (0 : Int32)), .val (.long (own_H f (16))), .second, .val (.long (own_L f (16))), .second, .val (.int (Int32.ofNat (16))), .unset] [(.int (Int32.ofNat (16))), (.int (Int32.ofNat (16)))])) _
        refine XS.icmpYes X174.here hx rfl (pc0 := 15) (pc' := 72) rfl (hb hby own_d4_15) rfl (flt b15_177).2.1 (by decide) (by decide) ?_
        exact h
      exact ⟨T174, _, _, X174, e174, hN, hZZ, hK, hf0, hf1, hf2, hf3, hf4, hf5, hf6, k178⟩
    | succ d ih =>
      intro i hd  T h L X hE hN hZZ hK hf0 hf1 hf2 hf3 hf4 hf5 hf6
      obtain ⟨T179, X179, e179, st179⟩ := getF X hx hZ hown (host := "") (Or.inl (hw _ (List.mem_of_getElem? (i := 18) rfl))) Via.refl hE hf0 (g := (mkF m 11 #[.val (.ref r0), .val (.ref r1), .val (.int (0 : Int32)), .val (.long (own_H f i)), .second, .val (.long (own_L f i)), .second, .val (.int (Int32.ofNat i)), .unset] [(.ref r0), (.int (Int32.ofNat i))])) rfl rfl (hb hby own_d4_11)
      obtain ⟨cl180, Ar180, hl180⟩ := hf1.len
      have k181 : ∀ t, Steps p.tables e below (T179.setTop (mkF m 15 #[.val (.ref r0), .val (.ref r1), .val (.int (0 : Int32)), .val (.long (own_H f i)), .second, .val (.long (own_L f i)), .second, .val (.int (Int32.ofNat i)), .unset] [(.int (Int32.ofNat (16))), (.int (Int32.ofNat i))])) t → Steps p.tables e below (T.setTop (mkF m 8 #[.val (.ref r0), .val (.ref r1), .val (.int (0 : Int32)), .val (.long (own_H f i)), .second, .val (.long (own_L f i)), .second, .val (.int (Int32.ofNat i)), .unset] [])) t := by
        intro t h
        show Steps p.tables e below (T.setTop (mkF m 8 #[.val (.ref r0), .val (.ref r1), .val (.int (0 : Int32)), .val (.long (own_H f i)), .second, .val (.long (own_L f i)), .second, .val (.int (Int32.ofNat i)), .unset] [])) _
        refine XS.iload X.here hx rfl (hb hby own_d4_8) rfl ?_
        show Steps p.tables e below (T.setTop (mkF m 10 #[.val (.ref r0), .val (.ref r1), .val (.int (0 : Int32)), .val (.long (own_H f i)), .second, .val (.long (own_L f i)), .second, .val (.int (Int32.ofNat i)), .unset] [(.int (Int32.ofNat i))])) _
        refine XS.aloadN X.here hx rfl (hb hby own_d4_10) rfl rfl ?_
        show Steps p.tables e below (T.setTop (mkF m 11 #[.val (.ref r0), .val (.ref r1), .val (.int (0 : Int32)), .val (.long (own_H f i)), .second, .val (.long (own_L f i)), .second, .val (.int (Int32.ofNat i)), .unset] [(.ref r0), (.int (Int32.ofNat i))])) _
        refine st179 _ ?_
        show Steps p.tables e below (T179.setTop (mkF m 14 #[.val (.ref r0), .val (.ref r1), .val (.int (0 : Int32)), .val (.long (own_H f i)), .second, .val (.long (own_L f i)), .second, .val (.int (Int32.ofNat i)), .unset] [(.ref ba), (.int (Int32.ofNat i))])) _
        refine X179.arraylength hx (by rw [e179]; exact Ar180.1) (State.isArrayOf_alike hZ.alike Ar180.2.1) (g := (mkF m 14 #[.val (.ref r0), .val (.ref r1), .val (.int (0 : Int32)), .val (.long (own_H f i)), .second, .val (.long (own_L f i)), .second, .val (.int (Int32.ofNat i)), .unset] [(.ref ba), (.int (Int32.ofNat i))])) rfl rfl (hb hby own_d4_14) _ ?_
        rw [hl180]
        exact h
      have b15_182 : (Int32.ofNat i) < (Int32.ofNat (16)) := own_lt (by omega) (by decide)
      have k183 : ∀ t, Steps p.tables e below (T179.setTop (mkF m 22 #[.val (.ref r0), .val (.ref r1), .val (.int (0 : Int32)), .val (.long (own_H f i)), .second, .val (.long (own_L f i)), .second, .val (.int (Int32.ofNat i)), .unset] [(.int (8 : Int32)), (.int (Int32.ofNat i))])) t → Steps p.tables e below (T.setTop (mkF m 8 #[.val (.ref r0), .val (.ref r1), .val (.int (0 : Int32)), .val (.long (own_H f i)), .second, .val (.long (own_L f i)), .second, .val (.int (Int32.ofNat i)), .unset] [])) t := by
        intro t h
        refine k181 t ?_
        show Steps p.tables e below (T179.setTop (mkF m 15 #[.val (.ref r0), .val (.ref r1), .val (.int (0 : Int32)), .val (.long (own_H f i)), .second, .val (.long (own_L f i)), .second, .val (.int (Int32.ofNat i)), .unset] [(.int (Int32.ofNat (16))), (.int (Int32.ofNat i))])) _
        refine XS.icmpNo X179.here hx rfl (hb hby own_d4_15) rfl (tlt b15_182).2.1 ?_
        show Steps p.tables e below (T179.setTop (mkF m 18 #[.val (.ref r0), .val (.ref r1), .val (.int (0 : Int32)), .val (.long (own_H f i)), .second, .val (.long (own_L f i)), .second, .val (.int (Int32.ofNat i)), .unset] [])) _
        refine XS.iload X179.here hx rfl (hb hby own_d4_18) rfl ?_
        show Steps p.tables e below (T179.setTop (mkF m 20 #[.val (.ref r0), .val (.ref r1), .val (.int (0 : Int32)), .val (.long (own_H f i)), .second, .val (.long (own_L f i)), .second, .val (.int (Int32.ofNat i)), .unset] [(.int (Int32.ofNat i))])) _
        refine XS.bipush X179.here hx rfl (hb hby own_d4_20) ?_
        exact h
      by_cases c22_184 : (Int32.ofNat i) < (8 : Int32)
      · skip
        obtain ⟨T185, X185, e185, st185⟩ := getF X179 hx hZ hown (host := "") (Or.inl (hw _ (List.mem_of_getElem? (i := 18) rfl))) Via.refl e179 hf0 (g := (mkF m 30 #[.val (.ref r0), .val (.ref r1), .val (.int (0 : Int32)), .val (.long (own_H f i)), .second, .val (.long (own_L f i)), .second, .val (.int (Int32.ofNat i)), .unset] [(.ref r0), (.long ((own_H f i) <<< ((8 : Int32) &&& 0x3f).toInt64))])) rfl rfl (hb hby own_d4_30)
        obtain ⟨cl186, Ar186, hin186, hat186⟩ := own_BA.at (i := i) (j := (Int32.ofNat i)) hf1 rfl (by omega) (by decide)
        have k187 : ∀ t, Steps p.tables e below (T185.setTop (mkF m 8 #[.val (.ref r0), .val (.ref r1), .val (.int (0 : Int32)), .val (.long (((own_H f i) <<< ((8 : Int32) &&& 0x3f).toInt64) ||| (((f i) &&& (255 : Int32)).toInt64))), .second, .val (.long (own_L f i)), .second, .val (.int ((Int32.ofNat i) + (1 : Int32))), .unset] [])) t → Steps p.tables e below (T.setTop (mkF m 8 #[.val (.ref r0), .val (.ref r1), .val (.int (0 : Int32)), .val (.long (own_H f i)), .second, .val (.long (own_L f i)), .second, .val (.int (Int32.ofNat i)), .unset] [])) t := by
          intro t h
          refine k183 t ?_
          show Steps p.tables e below (T179.setTop (mkF m 22 #[.val (.ref r0), .val (.ref r1), .val (.int (0 : Int32)), .val (.long (own_H f i)), .second, .val (.long (own_L f i)), .second, .val (.int (Int32.ofNat i)), .unset] [(.int (8 : Int32)), (.int (Int32.ofNat i))])) _
          refine XS.icmpNo X179.here hx rfl (hb hby own_d4_22) rfl (tlt c22_184).2.1 ?_
          show Steps p.tables e below (T179.setTop (mkF m 25 #[.val (.ref r0), .val (.ref r1), .val (.int (0 : Int32)), .val (.long (own_H f i)), .second, .val (.long (own_L f i)), .second, .val (.int (Int32.ofNat i)), .unset] [])) _
          refine XS.lloadN X179.here hx rfl (hb hby own_d4_25) rfl ?_
          show Steps p.tables e below (T179.setTop (mkF m 26 #[.val (.ref r0), .val (.ref r1), .val (.int (0 : Int32)), .val (.long (own_H f i)), .second, .val (.long (own_L f i)), .second, .val (.int (Int32.ofNat i)), .unset] [(.long (own_H f i))])) _
          refine XS.bipush X179.here hx rfl (hb hby own_d4_26) ?_
          show Steps p.tables e below (T179.setTop (mkF m 28 #[.val (.ref r0), .val (.ref r1), .val (.int (0 : Int32)), .val (.long (own_H f i)), .second, .val (.long (own_L f i)), .second, .val (.int (Int32.ofNat i)), .unset] [(.int (8 : Int32)), (.long (own_H f i))])) _
          refine XS.lshl X179.here hx rfl (hb hby own_d4_28) rfl ?_
          show Steps p.tables e below (T179.setTop (mkF m 29 #[.val (.ref r0), .val (.ref r1), .val (.int (0 : Int32)), .val (.long (own_H f i)), .second, .val (.long (own_L f i)), .second, .val (.int (Int32.ofNat i)), .unset] [(.long ((own_H f i) <<< ((8 : Int32) &&& 0x3f).toInt64))])) _
          refine XS.aloadN X179.here hx rfl (hb hby own_d4_29) rfl rfl ?_
          show Steps p.tables e below (T179.setTop (mkF m 30 #[.val (.ref r0), .val (.ref r1), .val (.int (0 : Int32)), .val (.long (own_H f i)), .second, .val (.long (own_L f i)), .second, .val (.int (Int32.ofNat i)), .unset] [(.ref r0), (.long ((own_H f i) <<< ((8 : Int32) &&& 0x3f).toInt64))])) _
          refine st185 _ ?_
          show Steps p.tables e below (T185.setTop (mkF m 33 #[.val (.ref r0), .val (.ref r1), .val (.int (0 : Int32)), .val (.long (own_H f i)), .second, .val (.long (own_L f i)), .second, .val (.int (Int32.ofNat i)), .unset] [(.ref ba), (.long ((own_H f i) <<< ((8 : Int32) &&& 0x3f).toInt64))])) _
          refine XS.iload X185.here hx rfl (hb hby own_d4_33) rfl ?_
          show Steps p.tables e below (T185.setTop (mkF m 35 #[.val (.ref r0), .val (.ref r1), .val (.int (0 : Int32)), .val (.long (own_H f i)), .second, .val (.long (own_L f i)), .second, .val (.int (Int32.ofNat i)), .unset] [(.int (Int32.ofNat i)), (.ref ba), (.long ((own_H f i) <<< ((8 : Int32) &&& 0x3f).toInt64))])) _
          refine X185.baloadBytes hx (j := (Int32.ofNat i)) (v := (.int (f i))) (by rw [e185]; exact Ar186.1) (State.isArrayOf_alike hZ.alike Ar186.2.1) Ar186.2.2 hin186 hat186 (g := (mkF m 35 #[.val (.ref r0), .val (.ref r1), .val (.int (0 : Int32)), .val (.long (own_H f i)), .second, .val (.long (own_L f i)), .second, .val (.int (Int32.ofNat i)), .unset] [(.int (Int32.ofNat i)), (.ref ba), (.long ((own_H f i) <<< ((8 : Int32) &&& 0x3f).toInt64))])) rfl rfl (hb hby own_d4_35) _ ?_
          show Steps p.tables e below (T185.setTop (mkF m 36 #[.val (.ref r0), .val (.ref r1), .val (.int (0 : Int32)), .val (.long (own_H f i)), .second, .val (.long (own_L f i)), .second, .val (.int (Int32.ofNat i)), .unset] [(.int (f i)), (.long ((own_H f i) <<< ((8 : Int32) &&& 0x3f).toInt64))])) _
          refine XS.sipush X185.here hx rfl (hb hby own_d4_36) ?_
          show Steps p.tables e below (T185.setTop (mkF m 39 #[.val (.ref r0), .val (.ref r1), .val (.int (0 : Int32)), .val (.long (own_H f i)), .second, .val (.long (own_L f i)), .second, .val (.int (Int32.ofNat i)), .unset] [(.int (255 : Int32)), (.int (f i)), (.long ((own_H f i) <<< ((8 : Int32) &&& 0x3f).toInt64))])) _
          refine XS.iand X185.here hx rfl (hb hby own_d4_39) rfl ?_
          show Steps p.tables e below (T185.setTop (mkF m 40 #[.val (.ref r0), .val (.ref r1), .val (.int (0 : Int32)), .val (.long (own_H f i)), .second, .val (.long (own_L f i)), .second, .val (.int (Int32.ofNat i)), .unset] [(.int ((f i) &&& (255 : Int32))), (.long ((own_H f i) <<< ((8 : Int32) &&& 0x3f).toInt64))])) _
          refine XS.i2l X185.here hx rfl (hb hby own_d4_40) rfl ?_
          show Steps p.tables e below (T185.setTop (mkF m 41 #[.val (.ref r0), .val (.ref r1), .val (.int (0 : Int32)), .val (.long (own_H f i)), .second, .val (.long (own_L f i)), .second, .val (.int (Int32.ofNat i)), .unset] [(.long (((f i) &&& (255 : Int32)).toInt64)), (.long ((own_H f i) <<< ((8 : Int32) &&& 0x3f).toInt64))])) _
          refine XS.lor X185.here hx rfl (hb hby own_d4_41) rfl ?_
          show Steps p.tables e below (T185.setTop (mkF m 42 #[.val (.ref r0), .val (.ref r1), .val (.int (0 : Int32)), .val (.long (own_H f i)), .second, .val (.long (own_L f i)), .second, .val (.int (Int32.ofNat i)), .unset] [(.long (((own_H f i) <<< ((8 : Int32) &&& 0x3f).toInt64) ||| (((f i) &&& (255 : Int32)).toInt64)))])) _
          refine XS.lstoreN X185.here hx rfl (hb hby own_d4_42) rfl (l' := #[.val (.ref r0), .val (.ref r1), .val (.int (0 : Int32)), .val (.long (((own_H f i) <<< ((8 : Int32) &&& 0x3f).toInt64) ||| (((f i) &&& (255 : Int32)).toInt64))), .second, .val (.long (own_L f i)), .second, .val (.int (Int32.ofNat i)), .unset]) rfl ?_
          show Steps p.tables e below (T185.setTop (mkF m 43 #[.val (.ref r0), .val (.ref r1), .val (.int (0 : Int32)), .val (.long (((own_H f i) <<< ((8 : Int32) &&& 0x3f).toInt64) ||| (((f i) &&& (255 : Int32)).toInt64))), .second, .val (.long (own_L f i)), .second, .val (.int (Int32.ofNat i)), .unset] [])) _
          refine XS.goto X185.here hx rfl (pc0 := 43) (pc' := 66) rfl (hb hby own_d4_43) (by decide) (by decide) ?_
          show Steps p.tables e below (T185.setTop (mkF m 66 #[.val (.ref r0), .val (.ref r1), .val (.int (0 : Int32)), .val (.long (((own_H f i) <<< ((8 : Int32) &&& 0x3f).toInt64) ||| (((f i) &&& (255 : Int32)).toInt64))), .second, .val (.long (own_L f i)), .second, .val (.int (Int32.ofNat i)), .unset] [])) _
          refine XS.iinc X185.here hx rfl (hb hby own_d4_66) rfl (l' := #[.val (.ref r0), .val (.ref r1), .val (.int (0 : Int32)), .val (.long (((own_H f i) <<< ((8 : Int32) &&& 0x3f).toInt64) ||| (((f i) &&& (255 : Int32)).toInt64))), .second, .val (.long (own_L f i)), .second, .val (.int ((Int32.ofNat i) + (1 : Int32))), .unset]) rfl ?_
          show Steps p.tables e below (T185.setTop (mkF m 69 #[.val (.ref r0), .val (.ref r1), .val (.int (0 : Int32)), .val (.long (((own_H f i) <<< ((8 : Int32) &&& 0x3f).toInt64) ||| (((f i) &&& (255 : Int32)).toInt64))), .second, .val (.long (own_L f i)), .second, .val (.int ((Int32.ofNat i) + (1 : Int32))), .unset] [])) _
          refine XS.goto X185.here hx rfl (pc0 := 69) (pc' := 8) rfl (hb hby own_d4_69) (by decide) (by decide) ?_
          exact h
        have r188 : ((Int32.ofNat i) + (1 : Int32)) = (Int32.ofNat (i + 1)) := own_inc i
        have k189 : ∀ t, Steps p.tables e below (T185.setTop (mkF m 8 #[.val (.ref r0), .val (.ref r1), .val (.int (0 : Int32)), .val (.long (((own_H f i) <<< ((8 : Int32) &&& 0x3f).toInt64) ||| (((f i) &&& (255 : Int32)).toInt64))), .second, .val (.long (own_L f i)), .second, .val (.int (Int32.ofNat (i + 1))), .unset] [])) t → Steps p.tables e below (T.setTop (mkF m 8 #[.val (.ref r0), .val (.ref r1), .val (.int (0 : Int32)), .val (.long (own_H f i)), .second, .val (.long (own_L f i)), .second, .val (.int (Int32.ofNat i)), .unset] [])) t := by first | (rw [← r188]; exact k187) | exact k187
        have r190 : (((own_H f i) <<< ((8 : Int32) &&& 0x3f).toInt64) ||| (((f i) &&& (255 : Int32)).toInt64)) = own_H f (i + 1) := by rw [own_H, if_pos c22_184]
        have r191 : (own_L f i) = own_L f (i + 1) := by rw [own_L, if_pos c22_184]
        have k192 : ∀ t, Steps p.tables e below (T185.setTop (mkF m 8 #[.val (.ref r0), .val (.ref r1), .val (.int (0 : Int32)), .val (.long (own_H f (i + 1))), .second, .val (.long (own_L f (i + 1))), .second, .val (.int (Int32.ofNat (i + 1))), .unset] [])) t → Steps p.tables e below (T.setTop (mkF m 8 #[.val (.ref r0), .val (.ref r1), .val (.int (0 : Int32)), .val (.long (own_H f i)), .second, .val (.long (own_L f i)), .second, .val (.int (Int32.ofNat i)), .unset] [])) t := by rw [← r190, ← r191]; exact k189
        obtain ⟨T193, h193, L193, X193, e193, N193, Z193, K193, f193_0, f193_1, f193_2, f193_3, f193_4, f193_5, f193_6, k193⟩ := ih (i + 1) (by omega)  T185 _ _ X185 e185 hN hZZ hK (hf0) (hf1) (hf2) (hf3) (hf4) (hf5) (hf6)
        exact ⟨T193, h193, L193, X193, e193, N193, Z193, K193, f193_0, f193_1, f193_2, f193_3, f193_4, f193_5, f193_6, fun t q => k192 t (k193 t q)⟩
      · skip
        obtain ⟨T194, X194, e194, st194⟩ := getF X179 hx hZ hown (host := "") (Or.inl (hw _ (List.mem_of_getElem? (i := 18) rfl))) Via.refl e179 hf0 (g := (mkF m 52 #[.val (.ref r0), .val (.ref r1), .val (.int (0 : Int32)), .val (.long (own_H f i)), .second, .val (.long (own_L f i)), .second, .val (.int (Int32.ofNat i)), .unset] [(.ref r0), (.long ((own_L f i) <<< ((8 : Int32) &&& 0x3f).toInt64))])) rfl rfl (hb hby own_d4_52)
        obtain ⟨cl195, Ar195, hin195, hat195⟩ := own_BA.at (i := i) (j := (Int32.ofNat i)) hf1 rfl (by omega) (by decide)
        have k196 : ∀ t, Steps p.tables e below (T194.setTop (mkF m 8 #[.val (.ref r0), .val (.ref r1), .val (.int (0 : Int32)), .val (.long (own_H f i)), .second, .val (.long (((own_L f i) <<< ((8 : Int32) &&& 0x3f).toInt64) ||| (((f i) &&& (255 : Int32)).toInt64))), .second, .val (.int ((Int32.ofNat i) + (1 : Int32))), .unset] [])) t → Steps p.tables e below (T.setTop (mkF m 8 #[.val (.ref r0), .val (.ref r1), .val (.int (0 : Int32)), .val (.long (own_H f i)), .second, .val (.long (own_L f i)), .second, .val (.int (Int32.ofNat i)), .unset] [])) t := by
          intro t h
          refine k183 t ?_
          show Steps p.tables e below (T179.setTop (mkF m 22 #[.val (.ref r0), .val (.ref r1), .val (.int (0 : Int32)), .val (.long (own_H f i)), .second, .val (.long (own_L f i)), .second, .val (.int (Int32.ofNat i)), .unset] [(.int (8 : Int32)), (.int (Int32.ofNat i))])) _
          refine XS.icmpYes X179.here hx rfl (pc0 := 22) (pc' := 46) rfl (hb hby own_d4_22) rfl (flt c22_184).2.1 (by decide) (by decide) ?_
          show Steps p.tables e below (T179.setTop (mkF m 46 #[.val (.ref r0), .val (.ref r1), .val (.int (0 : Int32)), .val (.long (own_H f i)), .second, .val (.long (own_L f i)), .second, .val (.int (Int32.ofNat i)), .unset] [])) _
          refine XS.lload X179.here hx rfl (hb hby own_d4_46) rfl ?_
          show Steps p.tables e below (T179.setTop (mkF m 48 #[.val (.ref r0), .val (.ref r1), .val (.int (0 : Int32)), .val (.long (own_H f i)), .second, .val (.long (own_L f i)), .second, .val (.int (Int32.ofNat i)), .unset] [(.long (own_L f i))])) _
          refine XS.bipush X179.here hx rfl (hb hby own_d4_48) ?_
          show Steps p.tables e below (T179.setTop (mkF m 50 #[.val (.ref r0), .val (.ref r1), .val (.int (0 : Int32)), .val (.long (own_H f i)), .second, .val (.long (own_L f i)), .second, .val (.int (Int32.ofNat i)), .unset] [(.int (8 : Int32)), (.long (own_L f i))])) _
          refine XS.lshl X179.here hx rfl (hb hby own_d4_50) rfl ?_
          show Steps p.tables e below (T179.setTop (mkF m 51 #[.val (.ref r0), .val (.ref r1), .val (.int (0 : Int32)), .val (.long (own_H f i)), .second, .val (.long (own_L f i)), .second, .val (.int (Int32.ofNat i)), .unset] [(.long ((own_L f i) <<< ((8 : Int32) &&& 0x3f).toInt64))])) _
          refine XS.aloadN X179.here hx rfl (hb hby own_d4_51) rfl rfl ?_
          show Steps p.tables e below (T179.setTop (mkF m 52 #[.val (.ref r0), .val (.ref r1), .val (.int (0 : Int32)), .val (.long (own_H f i)), .second, .val (.long (own_L f i)), .second, .val (.int (Int32.ofNat i)), .unset] [(.ref r0), (.long ((own_L f i) <<< ((8 : Int32) &&& 0x3f).toInt64))])) _
          refine st194 _ ?_
          show Steps p.tables e below (T194.setTop (mkF m 55 #[.val (.ref r0), .val (.ref r1), .val (.int (0 : Int32)), .val (.long (own_H f i)), .second, .val (.long (own_L f i)), .second, .val (.int (Int32.ofNat i)), .unset] [(.ref ba), (.long ((own_L f i) <<< ((8 : Int32) &&& 0x3f).toInt64))])) _
          refine XS.iload X194.here hx rfl (hb hby own_d4_55) rfl ?_
          show Steps p.tables e below (T194.setTop (mkF m 57 #[.val (.ref r0), .val (.ref r1), .val (.int (0 : Int32)), .val (.long (own_H f i)), .second, .val (.long (own_L f i)), .second, .val (.int (Int32.ofNat i)), .unset] [(.int (Int32.ofNat i)), (.ref ba), (.long ((own_L f i) <<< ((8 : Int32) &&& 0x3f).toInt64))])) _
          refine X194.baloadBytes hx (j := (Int32.ofNat i)) (v := (.int (f i))) (by rw [e194]; exact Ar195.1) (State.isArrayOf_alike hZ.alike Ar195.2.1) Ar195.2.2 hin195 hat195 (g := (mkF m 57 #[.val (.ref r0), .val (.ref r1), .val (.int (0 : Int32)), .val (.long (own_H f i)), .second, .val (.long (own_L f i)), .second, .val (.int (Int32.ofNat i)), .unset] [(.int (Int32.ofNat i)), (.ref ba), (.long ((own_L f i) <<< ((8 : Int32) &&& 0x3f).toInt64))])) rfl rfl (hb hby own_d4_57) _ ?_
          show Steps p.tables e below (T194.setTop (mkF m 58 #[.val (.ref r0), .val (.ref r1), .val (.int (0 : Int32)), .val (.long (own_H f i)), .second, .val (.long (own_L f i)), .second, .val (.int (Int32.ofNat i)), .unset] [(.int (f i)), (.long ((own_L f i) <<< ((8 : Int32) &&& 0x3f).toInt64))])) _
          refine XS.sipush X194.here hx rfl (hb hby own_d4_58) ?_
          show Steps p.tables e below (T194.setTop (mkF m 61 #[.val (.ref r0), .val (.ref r1), .val (.int (0 : Int32)), .val (.long (own_H f i)), .second, .val (.long (own_L f i)), .second, .val (.int (Int32.ofNat i)), .unset] [(.int (255 : Int32)), (.int (f i)), (.long ((own_L f i) <<< ((8 : Int32) &&& 0x3f).toInt64))])) _
          refine XS.iand X194.here hx rfl (hb hby own_d4_61) rfl ?_
          show Steps p.tables e below (T194.setTop (mkF m 62 #[.val (.ref r0), .val (.ref r1), .val (.int (0 : Int32)), .val (.long (own_H f i)), .second, .val (.long (own_L f i)), .second, .val (.int (Int32.ofNat i)), .unset] [(.int ((f i) &&& (255 : Int32))), (.long ((own_L f i) <<< ((8 : Int32) &&& 0x3f).toInt64))])) _
          refine XS.i2l X194.here hx rfl (hb hby own_d4_62) rfl ?_
          show Steps p.tables e below (T194.setTop (mkF m 63 #[.val (.ref r0), .val (.ref r1), .val (.int (0 : Int32)), .val (.long (own_H f i)), .second, .val (.long (own_L f i)), .second, .val (.int (Int32.ofNat i)), .unset] [(.long (((f i) &&& (255 : Int32)).toInt64)), (.long ((own_L f i) <<< ((8 : Int32) &&& 0x3f).toInt64))])) _
          refine XS.lor X194.here hx rfl (hb hby own_d4_63) rfl ?_
          show Steps p.tables e below (T194.setTop (mkF m 64 #[.val (.ref r0), .val (.ref r1), .val (.int (0 : Int32)), .val (.long (own_H f i)), .second, .val (.long (own_L f i)), .second, .val (.int (Int32.ofNat i)), .unset] [(.long (((own_L f i) <<< ((8 : Int32) &&& 0x3f).toInt64) ||| (((f i) &&& (255 : Int32)).toInt64)))])) _
          refine XS.lstore X194.here hx rfl (hb hby own_d4_64) rfl (l' := #[.val (.ref r0), .val (.ref r1), .val (.int (0 : Int32)), .val (.long (own_H f i)), .second, .val (.long (((own_L f i) <<< ((8 : Int32) &&& 0x3f).toInt64) ||| (((f i) &&& (255 : Int32)).toInt64))), .second, .val (.int (Int32.ofNat i)), .unset]) rfl ?_
          show Steps p.tables e below (T194.setTop (mkF m 66 #[.val (.ref r0), .val (.ref r1), .val (.int (0 : Int32)), .val (.long (own_H f i)), .second, .val (.long (((own_L f i) <<< ((8 : Int32) &&& 0x3f).toInt64) ||| (((f i) &&& (255 : Int32)).toInt64))), .second, .val (.int (Int32.ofNat i)), .unset] [])) _
          refine XS.iinc X194.here hx rfl (hb hby own_d4_66) rfl (l' := #[.val (.ref r0), .val (.ref r1), .val (.int (0 : Int32)), .val (.long (own_H f i)), .second, .val (.long (((own_L f i) <<< ((8 : Int32) &&& 0x3f).toInt64) ||| (((f i) &&& (255 : Int32)).toInt64))), .second, .val (.int ((Int32.ofNat i) + (1 : Int32))), .unset]) rfl ?_
          show Steps p.tables e below (T194.setTop (mkF m 69 #[.val (.ref r0), .val (.ref r1), .val (.int (0 : Int32)), .val (.long (own_H f i)), .second, .val (.long (((own_L f i) <<< ((8 : Int32) &&& 0x3f).toInt64) ||| (((f i) &&& (255 : Int32)).toInt64))), .second, .val (.int ((Int32.ofNat i) + (1 : Int32))), .unset] [])) _
          refine XS.goto X194.here hx rfl (pc0 := 69) (pc' := 8) rfl (hb hby own_d4_69) (by decide) (by decide) ?_
          exact h
        have r197 : ((Int32.ofNat i) + (1 : Int32)) = (Int32.ofNat (i + 1)) := own_inc i
        have k198 : ∀ t, Steps p.tables e below (T194.setTop (mkF m 8 #[.val (.ref r0), .val (.ref r1), .val (.int (0 : Int32)), .val (.long (own_H f i)), .second, .val (.long (((own_L f i) <<< ((8 : Int32) &&& 0x3f).toInt64) ||| (((f i) &&& (255 : Int32)).toInt64))), .second, .val (.int (Int32.ofNat (i + 1))), .unset] [])) t → Steps p.tables e below (T.setTop (mkF m 8 #[.val (.ref r0), .val (.ref r1), .val (.int (0 : Int32)), .val (.long (own_H f i)), .second, .val (.long (own_L f i)), .second, .val (.int (Int32.ofNat i)), .unset] [])) t := by first | (rw [← r197]; exact k196) | exact k196
        have r199 : (own_H f i) = own_H f (i + 1) := by rw [own_H, if_neg c22_184]
        have r200 : (((own_L f i) <<< ((8 : Int32) &&& 0x3f).toInt64) ||| (((f i) &&& (255 : Int32)).toInt64)) = own_L f (i + 1) := by rw [own_L, if_neg c22_184]
        have k201 : ∀ t, Steps p.tables e below (T194.setTop (mkF m 8 #[.val (.ref r0), .val (.ref r1), .val (.int (0 : Int32)), .val (.long (own_H f (i + 1))), .second, .val (.long (own_L f (i + 1))), .second, .val (.int (Int32.ofNat (i + 1))), .unset] [])) t → Steps p.tables e below (T.setTop (mkF m 8 #[.val (.ref r0), .val (.ref r1), .val (.int (0 : Int32)), .val (.long (own_H f i)), .second, .val (.long (own_L f i)), .second, .val (.int (Int32.ofNat i)), .unset] [])) t := by rw [← r199, ← r200]; exact k198
        obtain ⟨T202, h202, L202, X202, e202, N202, Z202, K202, f202_0, f202_1, f202_2, f202_3, f202_4, f202_5, f202_6, k202⟩ := ih (i + 1) (by omega)  T194 _ _ X194 e194 hN hZZ hK (hf0) (hf1) (hf2) (hf3) (hf4) (hf5) (hf6)
        exact ⟨T202, h202, L202, X202, e202, N202, Z202, K202, f202_0, f202_1, f202_2, f202_3, f202_4, f202_5, f202_6, fun t q => k201 t (k202 t q)⟩
  obtain ⟨T203, h203, L203, X203, e203, N203, Z203, K203, f203_0, f203_1, f203_2, f203_3, f203_4, f203_5, f203_6, k203⟩ := lp173 (16) 0 (by first | rfl | omega)  s₁ _ _ X0 e0 N0 Z0 K0 (F1) (A1) (E1) (F2) (F3) (F4) (A2)
  have k204 : ∀ t, Steps p.tables e below (T203.setTop (mkF m 72 #[.val (.ref r0), .val (.ref r1), .val (.int (0 : Int32)), .val (.long (own_H f (16))), .second, .val (.long (own_L f (16))), .second, .val (.int (Int32.ofNat (16))), .unset] [])) t → Steps p.tables e below (s₁.setTop (mkF m 0 #[.val (.ref r0), .val (.ref r1), .val (.int (0 : Int32)), .unset, .unset, .unset, .unset, .unset, .unset] [])) t := fun t q => k172 t (k203 t q)
  obtain ⟨T205, X205, e205, st205⟩ := getF X203 hx hZ hown (host := "") (Or.inl (hw _ (List.mem_of_getElem? (i := 20) rfl))) Via.refl e203 f203_3 (g := (mkF m 73 #[.val (.ref r0), .val (.ref r1), .val (.int (0 : Int32)), .val (.long (own_H f (16))), .second, .val (.long (own_L f (16))), .second, .val (.int (Int32.ofNat (16))), .unset] [(.ref r0)])) rfl rfl (hb hby own_d4_73)
  obtain ⟨T206, X206, e206, st206⟩ := getF X205 hx hZ hown (host := "") (Or.inl (hw _ (List.mem_of_getElem? (i := 22) rfl))) Via.refl e205 f203_4 (g := (mkF m 80 #[.val (.ref r0), .val (.ref r1), .val (.int (0 : Int32)), .val (.long (own_H f (16))), .second, .val (.long (own_L f (16))), .second, .val (.int (Int32.ofNat (16))), .unset] [(.ref r0), (.int ((own_len x) <<< ((16 : Int32) &&& 31)))])) rfl rfl (hb hby own_d4_80)
  obtain ⟨T207, X207, e207, st207⟩ := getF X206 hx hZ hown (host := "") (Or.inl (hw _ (List.mem_of_getElem? (i := 24) rfl))) Via.refl e206 f203_5 (g := (mkF m 88 #[.val (.ref r0), .val (.ref r1), .val (.int (0 : Int32)), .val (.long (own_H f (16))), .second, .val (.long (own_L f (16))), .second, .val (.int (Int32.ofNat (16))), .unset] [(.ref r0), (.int (((own_len x) <<< ((16 : Int32) &&& 31)) ||| ((own_lea x) <<< ((8 : Int32) &&& 31))))])) rfl rfl (hb hby own_d4_88)
  obtain ⟨cq208, kq208, q208a, q208b, q208c⟩ := isOf hZ e207 f203_2
  obtain ⟨_, _, ⟨T208, L208, k208, n208⟩, -, X208, ⟨Lc208, hQ208, l208, y208, z208⟩, st208⟩ := X207.virtualBack hx (y := (⟨"com/example/mynah/mynah/rpsl/PrefixRange", "isIpv6", "()Z"⟩ : MethodName)) (z := (⟨"com/example/mynah/mynah/rpsl/PrefixRange", "isIpv6", "()Z"⟩ : MethodName)) hown (mvT hZ (hw _ (List.mem_of_getElem? (i := 31) rfl))) (mvT hZ (hw _ (List.mem_of_getElem? (i := 32) rfl))) (notFace_of_selects (args := #[]) (mvT hZ (hw _ (List.mem_of_getElem? (i := 34) rfl)))) (mvT hZ (hw _ (List.mem_of_getElem? (i := 34) rfl))) (mvT hZ (hw _ (List.mem_of_getElem? (i := 33) rfl))) (by decide) (backOf (W := 0) (rmV l Z a0 hw [] r0 ba 16 f h203 n0 Z203 f203_0 f203_1) hZ (hw _ (List.mem_of_getElem? (i := 35) rfl)) (hw _ (List.mem_of_getElem? (i := 6) rfl)) (by decide) (by decide)) q208a q208c (g := (mkF m 96 #[.val (.ref r0), .val (.ref r1), .val (.int (0 : Int32)), .val (.long (own_H f (16))), .second, .val (.long (own_L f (16))), .second, .val (.long (((((own_len x) <<< ((16 : Int32) &&& 31)) ||| ((own_lea x) <<< ((8 : Int32) &&& 31))) ||| (own_mos x)).toInt64)), .second] [(.ref r0)])) rfl (by rw [hml]; rfl) (Steps.refl _) (argsL := []) (rest := []) (lenOf own_pd_1 rfl) rfl (by show 2 * 0 + _ ≤ _; exact Nat.le_of_eq rfl) (hb hby own_d4_96) (fun _ _ => ⟨rfl, e207, (by decide : 0 + 0 ≤ _), (by decide : 0 + 0 ≤ _)⟩)
  dsimp only [Pt.U, Pt.locs, Pt.cells, Pt.slots] at X208 l208 y208 z208 st208 hQ208
  subst l208 y208 z208
  obtain ⟨rfl, Nq208, eq208⟩ := hQ208
  have N208 := Fr.app N203 Nq208
  have k209 : ∀ t, Steps p.tables e below (T208.setTop (mkF m 99 #[.val (.ref r0), .val (.ref r1), .val (.int (0 : Int32)), .val (.long (own_H f (16))), .second, .val (.long (own_L f (16))), .second, .val (.long (((((own_len x) <<< ((16 : Int32) &&& 31)) ||| ((own_lea x) <<< ((8 : Int32) &&& 31))) ||| (own_mos x)).toInt64)), .second] [(.int (own_is 16))])) t → Steps p.tables e below (s₁.setTop (mkF m 0 #[.val (.ref r0), .val (.ref r1), .val (.int (0 : Int32)), .unset, .unset, .unset, .unset, .unset, .unset] [])) t := by
    intro t h
    refine k204 t ?_
    show Steps p.tables e below (T203.setTop (mkF m 72 #[.val (.ref r0), .val (.ref r1), .val (.int (0 : Int32)), .val (.long (own_H f (16))), .second, .val (.long (own_L f (16))), .second, .val (.int (Int32.ofNat (16))), .unset] [])) _
    refine XS.aloadN X203.here hx rfl (hb hby own_d4_72) rfl rfl ?_
    show Steps p.tables e below (T203.setTop (mkF m 73 #[.val (.ref r0), .val (.ref r1), .val (.int (0 : Int32)), .val (.long (own_H f (16))), .second, .val (.long (own_L f (16))), .second, .val (.int (Int32.ofNat (16))), .unset] [(.ref r0)])) _
    refine st205 _ ?_
    show Steps p.tables e below (T205.setTop (mkF m 76 #[.val (.ref r0), .val (.ref r1), .val (.int (0 : Int32)), .val (.long (own_H f (16))), .second, .val (.long (own_L f (16))), .second, .val (.int (Int32.ofNat (16))), .unset] [(.int (own_len x))])) _
    refine XS.bipush X205.here hx rfl (hb hby own_d4_76) ?_
    show Steps p.tables e below (T205.setTop (mkF m 78 #[.val (.ref r0), .val (.ref r1), .val (.int (0 : Int32)), .val (.long (own_H f (16))), .second, .val (.long (own_L f (16))), .second, .val (.int (Int32.ofNat (16))), .unset] [(.int (16 : Int32)), (.int (own_len x))])) _
    refine XS.ishl X205.here hx rfl (hb hby own_d4_78) rfl ?_
    show Steps p.tables e below (T205.setTop (mkF m 79 #[.val (.ref r0), .val (.ref r1), .val (.int (0 : Int32)), .val (.long (own_H f (16))), .second, .val (.long (own_L f (16))), .second, .val (.int (Int32.ofNat (16))), .unset] [(.int ((own_len x) <<< ((16 : Int32) &&& 31)))])) _
    refine XS.aloadN X205.here hx rfl (hb hby own_d4_79) rfl rfl ?_
    show Steps p.tables e below (T205.setTop (mkF m 80 #[.val (.ref r0), .val (.ref r1), .val (.int (0 : Int32)), .val (.long (own_H f (16))), .second, .val (.long (own_L f (16))), .second, .val (.int (Int32.ofNat (16))), .unset] [(.ref r0), (.int ((own_len x) <<< ((16 : Int32) &&& 31)))])) _
    refine st206 _ ?_
    show Steps p.tables e below (T206.setTop (mkF m 83 #[.val (.ref r0), .val (.ref r1), .val (.int (0 : Int32)), .val (.long (own_H f (16))), .second, .val (.long (own_L f (16))), .second, .val (.int (Int32.ofNat (16))), .unset] [(.int (own_lea x)), (.int ((own_len x) <<< ((16 : Int32) &&& 31)))])) _
    refine XS.bipush X206.here hx rfl (hb hby own_d4_83) ?_
    show Steps p.tables e below (T206.setTop (mkF m 85 #[.val (.ref r0), .val (.ref r1), .val (.int (0 : Int32)), .val (.long (own_H f (16))), .second, .val (.long (own_L f (16))), .second, .val (.int (Int32.ofNat (16))), .unset] [(.int (8 : Int32)), (.int (own_lea x)), (.int ((own_len x) <<< ((16 : Int32) &&& 31)))])) _
    refine XS.ishl X206.here hx rfl (hb hby own_d4_85) rfl ?_
    show Steps p.tables e below (T206.setTop (mkF m 86 #[.val (.ref r0), .val (.ref r1), .val (.int (0 : Int32)), .val (.long (own_H f (16))), .second, .val (.long (own_L f (16))), .second, .val (.int (Int32.ofNat (16))), .unset] [(.int ((own_lea x) <<< ((8 : Int32) &&& 31))), (.int ((own_len x) <<< ((16 : Int32) &&& 31)))])) _
    refine XS.ior X206.here hx rfl (hb hby own_d4_86) rfl ?_
    show Steps p.tables e below (T206.setTop (mkF m 87 #[.val (.ref r0), .val (.ref r1), .val (.int (0 : Int32)), .val (.long (own_H f (16))), .second, .val (.long (own_L f (16))), .second, .val (.int (Int32.ofNat (16))), .unset] [(.int (((own_len x) <<< ((16 : Int32) &&& 31)) ||| ((own_lea x) <<< ((8 : Int32) &&& 31))))])) _
    refine XS.aloadN X206.here hx rfl (hb hby own_d4_87) rfl rfl ?_
    show Steps p.tables e below (T206.setTop (mkF m 88 #[.val (.ref r0), .val (.ref r1), .val (.int (0 : Int32)), .val (.long (own_H f (16))), .second, .val (.long (own_L f (16))), .second, .val (.int (Int32.ofNat (16))), .unset] [(.ref r0), (.int (((own_len x) <<< ((16 : Int32) &&& 31)) ||| ((own_lea x) <<< ((8 : Int32) &&& 31))))])) _
    refine st207 _ ?_
    show Steps p.tables e below (T207.setTop (mkF m 91 #[.val (.ref r0), .val (.ref r1), .val (.int (0 : Int32)), .val (.long (own_H f (16))), .second, .val (.long (own_L f (16))), .second, .val (.int (Int32.ofNat (16))), .unset] [(.int (own_mos x)), (.int (((own_len x) <<< ((16 : Int32) &&& 31)) ||| ((own_lea x) <<< ((8 : Int32) &&& 31))))])) _
    refine XS.ior X207.here hx rfl (hb hby own_d4_91) rfl ?_
    show Steps p.tables e below (T207.setTop (mkF m 92 #[.val (.ref r0), .val (.ref r1), .val (.int (0 : Int32)), .val (.long (own_H f (16))), .second, .val (.long (own_L f (16))), .second, .val (.int (Int32.ofNat (16))), .unset] [(.int ((((own_len x) <<< ((16 : Int32) &&& 31)) ||| ((own_lea x) <<< ((8 : Int32) &&& 31))) ||| (own_mos x)))])) _
    refine XS.i2l X207.here hx rfl (hb hby own_d4_92) rfl ?_
    show Steps p.tables e below (T207.setTop (mkF m 93 #[.val (.ref r0), .val (.ref r1), .val (.int (0 : Int32)), .val (.long (own_H f (16))), .second, .val (.long (own_L f (16))), .second, .val (.int (Int32.ofNat (16))), .unset] [(.long (((((own_len x) <<< ((16 : Int32) &&& 31)) ||| ((own_lea x) <<< ((8 : Int32) &&& 31))) ||| (own_mos x)).toInt64))])) _
    refine XS.lstore X207.here hx rfl (hb hby own_d4_93) rfl (l' := #[.val (.ref r0), .val (.ref r1), .val (.int (0 : Int32)), .val (.long (own_H f (16))), .second, .val (.long (own_L f (16))), .second, .val (.long (((((own_len x) <<< ((16 : Int32) &&& 31)) ||| ((own_lea x) <<< ((8 : Int32) &&& 31))) ||| (own_mos x)).toInt64)), .second]) rfl ?_
    show Steps p.tables e below (T207.setTop (mkF m 95 #[.val (.ref r0), .val (.ref r1), .val (.int (0 : Int32)), .val (.long (own_H f (16))), .second, .val (.long (own_L f (16))), .second, .val (.long (((((own_len x) <<< ((16 : Int32) &&& 31)) ||| ((own_lea x) <<< ((8 : Int32) &&& 31))) ||| (own_mos x)).toInt64)), .second] [])) _
    refine XS.aloadN X207.here hx rfl (hb hby own_d4_95) rfl rfl ?_
    show Steps p.tables e below (T207.setTop (mkF m 96 #[.val (.ref r0), .val (.ref r1), .val (.int (0 : Int32)), .val (.long (own_H f (16))), .second, .val (.long (own_L f (16))), .second, .val (.long (((((own_len x) <<< ((16 : Int32) &&& 31)) ||| ((own_lea x) <<< ((8 : Int32) &&& 31))) ||| (own_mos x)).toInt64)), .second] [(.ref r0)])) _
    refine st208.trans ?_
    exact h
  have b99_210 : ¬ ((own_is 16) = (0 : Int32)) := by decide
  obtain ⟨cl211, Ar211, hin211, hat211⟩ := own_LA.at (i := 0) (j := (0 : Int32)) f203_6 rfl (by decide) (by decide)
  obtain ⟨T211, h211, X211, e211, W211, st211⟩ := stJ X208 hx hZ eq208 Ar211 (j := (0 : Int32)) hin211 (g := (mkF m 111 #[.val (.ref r0), .val (.ref r1), .val (.int (0 : Int32)), .val (.long (own_H f (16))), .second, .val (.long (own_L f (16))), .second, .val (.long (((((own_len x) <<< ((16 : Int32) &&& 31)) ||| ((own_lea x) <<< ((8 : Int32) &&& 31))) ||| (own_mos x)).toInt64)), .second] [(.long ((-9223372036854775808 : Int64) ||| (((own_H f (16)).toUInt64 >>> ((1 : Int32) &&& 0x3f).toInt64.toUInt64).toInt64))), (.int (0 : Int32)), (.ref r1)])) rfl rfl (hb hby own_d4_111)
  have V211 := own_LA.set f203_6 W211 rfl (by decide) (by decide)
  have f212 := f203_0.other W211 (Or.inl ne1)
  have f213 := f203_1.other W211 ne2
  have f214 := f203_2.wr W211
  have f215 := f203_3.other W211 (Or.inl ne1)
  have f216 := f203_4.other W211 (Or.inl ne1)
  have f217 := f203_5.other W211 (Or.inl ne1)
  have Z218 : n0 ≤ h211.size := Nat.le_trans Z203 (Keep.of_wr W211).1
  have K219 := K203.wr W211 (Or.inl (List.mem_of_getElem? (i := 0) rfl))
  have N211 := Fr.snoc X211 N208 g_r1
  obtain ⟨cl220, Ar220, hin220, hat220⟩ := own_LA.at (i := 1) (j := (1 : Int32)) V211 rfl (by decide) (by decide)
  obtain ⟨T220, h220, X220, e220, W220, st220⟩ := stJ X211 hx hZ e211 Ar220 (j := (1 : Int32)) hin220 (g := (mkF m 125 #[.val (.ref r0), .val (.ref r1), .val (.int (0 : Int32)), .val (.long (own_H f (16))), .second, .val (.long (own_L f (16))), .second, .val (.long (((((own_len x) <<< ((16 : Int32) &&& 31)) ||| ((own_lea x) <<< ((8 : Int32) &&& 31))) ||| (own_mos x)).toInt64)), .second] [(.long (((own_H f (16)) <<< ((63 : Int32) &&& 0x3f).toInt64) ||| (((own_L f (16)).toUInt64 >>> ((1 : Int32) &&& 0x3f).toInt64.toUInt64).toInt64))), (.int (1 : Int32)), (.ref r1)])) rfl rfl (hb hby own_d4_125)
  have V220 := own_LA.set V211 W220 rfl (by decide) (by decide)
  have f221 := f212.other W220 (Or.inl ne1)
  have f222 := f213.other W220 ne2
  have f223 := f214.wr W220
  have f224 := f215.other W220 (Or.inl ne1)
  have f225 := f216.other W220 (Or.inl ne1)
  have f226 := f217.other W220 (Or.inl ne1)
  have Z227 : n0 ≤ h220.size := Nat.le_trans Z218 (Keep.of_wr W220).1
  have K228 := K219.wr W220 (Or.inl (List.mem_of_getElem? (i := 0) rfl))
  have N220 := Fr.snoc X220 N211 g_r1
  have k229 : ∀ t, Steps p.tables e below (T220.setTop (mkF m 126 #[.val (.ref r0), .val (.ref r1), .val (.int (0 : Int32)), .val (.long (own_H f (16))), .second, .val (.long (own_L f (16))), .second, .val (.long (((((own_len x) <<< ((16 : Int32) &&& 31)) ||| ((own_lea x) <<< ((8 : Int32) &&& 31))) ||| (own_mos x)).toInt64)), .second] [])) t → Steps p.tables e below (s₁.setTop (mkF m 0 #[.val (.ref r0), .val (.ref r1), .val (.int (0 : Int32)), .unset, .unset, .unset, .unset, .unset, .unset] [])) t := by
    intro t h
    refine k209 t ?_
    show Steps p.tables e below (T208.setTop (mkF m 99 #[.val (.ref r0), .val (.ref r1), .val (.int (0 : Int32)), .val (.long (own_H f (16))), .second, .val (.long (own_L f (16))), .second, .val (.long (((((own_len x) <<< ((16 : Int32) &&& 31)) ||| ((own_lea x) <<< ((8 : Int32) &&& 31))) ||| (own_mos x)).toInt64)), .second] [(.int (own_is 16))])) _
    refine XS.ifNo X208.here hx rfl (hb hby own_d4_99) rfl ((if0 _ _).trans (feq b99_210).1) ?_
    show Steps p.tables e below (T208.setTop (mkF m 102 #[.val (.ref r0), .val (.ref r1), .val (.int (0 : Int32)), .val (.long (own_H f (16))), .second, .val (.long (own_L f (16))), .second, .val (.long (((((own_len x) <<< ((16 : Int32) &&& 31)) ||| ((own_lea x) <<< ((8 : Int32) &&& 31))) ||| (own_mos x)).toInt64)), .second] [])) _
    refine XS.aloadN X208.here hx rfl (hb hby own_d4_102) rfl rfl ?_
    show Steps p.tables e below (T208.setTop (mkF m 103 #[.val (.ref r0), .val (.ref r1), .val (.int (0 : Int32)), .val (.long (own_H f (16))), .second, .val (.long (own_L f (16))), .second, .val (.long (((((own_len x) <<< ((16 : Int32) &&& 31)) ||| ((own_lea x) <<< ((8 : Int32) &&& 31))) ||| (own_mos x)).toInt64)), .second] [(.ref r1)])) _
    refine XS.iloadN X208.here hx rfl (hb hby own_d4_103) rfl ?_
    show Steps p.tables e below (T208.setTop (mkF m 104 #[.val (.ref r0), .val (.ref r1), .val (.int (0 : Int32)), .val (.long (own_H f (16))), .second, .val (.long (own_L f (16))), .second, .val (.long (((((own_len x) <<< ((16 : Int32) &&& 31)) ||| ((own_lea x) <<< ((8 : Int32) &&& 31))) ||| (own_mos x)).toInt64)), .second] [(.int (0 : Int32)), (.ref r1)])) _
    refine X208.ldc2Long hx hown (mvT hZ (hw _ (List.mem_of_getElem? (i := 48) rfl))) (g := (mkF m 104 #[.val (.ref r0), .val (.ref r1), .val (.int (0 : Int32)), .val (.long (own_H f (16))), .second, .val (.long (own_L f (16))), .second, .val (.long (((((own_len x) <<< ((16 : Int32) &&& 31)) ||| ((own_lea x) <<< ((8 : Int32) &&& 31))) ||| (own_mos x)).toInt64)), .second] [(.int (0 : Int32)), (.ref r1)])) rfl (hb hby own_d4_104) _ ?_
    show Steps p.tables e below (T208.setTop (mkF m 107 #[.val (.ref r0), .val (.ref r1), .val (.int (0 : Int32)), .val (.long (own_H f (16))), .second, .val (.long (own_L f (16))), .second, .val (.long (((((own_len x) <<< ((16 : Int32) &&& 31)) ||| ((own_lea x) <<< ((8 : Int32) &&& 31))) ||| (own_mos x)).toInt64)), .second] [(.long (-9223372036854775808 : Int64)), (.int (0 : Int32)), (.ref r1)])) _
    refine XS.lloadN X208.here hx rfl (hb hby own_d4_107) rfl ?_
    show Steps p.tables e below (T208.setTop (mkF m 108 #[.val (.ref r0), .val (.ref r1), .val (.int (0 : Int32)), .val (.long (own_H f (16))), .second, .val (.long (own_L f (16))), .second, .val (.long (((((own_len x) <<< ((16 : Int32) &&& 31)) ||| ((own_lea x) <<< ((8 : Int32) &&& 31))) ||| (own_mos x)).toInt64)), .second] [(.long (own_H f (16))), (.long (-9223372036854775808 : Int64)), (.int (0 : Int32)), (.ref r1)])) _
    refine XS.iconst X208.here hx rfl (hb hby own_d4_108) ?_
    show Steps p.tables e below (T208.setTop (mkF m 109 #[.val (.ref r0), .val (.ref r1), .val (.int (0 : Int32)), .val (.long (own_H f (16))), .second, .val (.long (own_L f (16))), .second, .val (.long (((((own_len x) <<< ((16 : Int32) &&& 31)) ||| ((own_lea x) <<< ((8 : Int32) &&& 31))) ||| (own_mos x)).toInt64)), .second] [(.int (1 : Int32)), (.long (own_H f (16))), (.long (-9223372036854775808 : Int64)), (.int (0 : Int32)), (.ref r1)])) _
    refine XS.lushr X208.here hx rfl (hb hby own_d4_109) rfl ?_
    show Steps p.tables e below (T208.setTop (mkF m 110 #[.val (.ref r0), .val (.ref r1), .val (.int (0 : Int32)), .val (.long (own_H f (16))), .second, .val (.long (own_L f (16))), .second, .val (.long (((((own_len x) <<< ((16 : Int32) &&& 31)) ||| ((own_lea x) <<< ((8 : Int32) &&& 31))) ||| (own_mos x)).toInt64)), .second] [(.long (((own_H f (16)).toUInt64 >>> ((1 : Int32) &&& 0x3f).toInt64.toUInt64).toInt64)), (.long (-9223372036854775808 : Int64)), (.int (0 : Int32)), (.ref r1)])) _
    refine XS.lor X208.here hx rfl (hb hby own_d4_110) rfl ?_
    show Steps p.tables e below (T208.setTop (mkF m 111 #[.val (.ref r0), .val (.ref r1), .val (.int (0 : Int32)), .val (.long (own_H f (16))), .second, .val (.long (own_L f (16))), .second, .val (.long (((((own_len x) <<< ((16 : Int32) &&& 31)) ||| ((own_lea x) <<< ((8 : Int32) &&& 31))) ||| (own_mos x)).toInt64)), .second] [(.long ((-9223372036854775808 : Int64) ||| (((own_H f (16)).toUInt64 >>> ((1 : Int32) &&& 0x3f).toInt64.toUInt64).toInt64))), (.int (0 : Int32)), (.ref r1)])) _
    refine st211 _ ?_
    show Steps p.tables e below (T211.setTop (mkF m 112 #[.val (.ref r0), .val (.ref r1), .val (.int (0 : Int32)), .val (.long (own_H f (16))), .second, .val (.long (own_L f (16))), .second, .val (.long (((((own_len x) <<< ((16 : Int32) &&& 31)) ||| ((own_lea x) <<< ((8 : Int32) &&& 31))) ||| (own_mos x)).toInt64)), .second] [])) _
    refine XS.aloadN X211.here hx rfl (hb hby own_d4_112) rfl rfl ?_
    show Steps p.tables e below (T211.setTop (mkF m 113 #[.val (.ref r0), .val (.ref r1), .val (.int (0 : Int32)), .val (.long (own_H f (16))), .second, .val (.long (own_L f (16))), .second, .val (.long (((((own_len x) <<< ((16 : Int32) &&& 31)) ||| ((own_lea x) <<< ((8 : Int32) &&& 31))) ||| (own_mos x)).toInt64)), .second] [(.ref r1)])) _
    refine XS.iloadN X211.here hx rfl (hb hby own_d4_113) rfl ?_
    show Steps p.tables e below (T211.setTop (mkF m 114 #[.val (.ref r0), .val (.ref r1), .val (.int (0 : Int32)), .val (.long (own_H f (16))), .second, .val (.long (own_L f (16))), .second, .val (.long (((((own_len x) <<< ((16 : Int32) &&& 31)) ||| ((own_lea x) <<< ((8 : Int32) &&& 31))) ||| (own_mos x)).toInt64)), .second] [(.int (0 : Int32)), (.ref r1)])) _
    refine XS.iconst X211.here hx rfl (hb hby own_d4_114) ?_
    show Steps p.tables e below (T211.setTop (mkF m 115 #[.val (.ref r0), .val (.ref r1), .val (.int (0 : Int32)), .val (.long (own_H f (16))), .second, .val (.long (own_L f (16))), .second, .val (.long (((((own_len x) <<< ((16 : Int32) &&& 31)) ||| ((own_lea x) <<< ((8 : Int32) &&& 31))) ||| (own_mos x)).toInt64)), .second] [(.int (1 : Int32)), (.int (0 : Int32)), (.ref r1)])) _
    refine XS.iadd X211.here hx rfl (hb hby own_d4_115) rfl ?_
    show Steps p.tables e below (T211.setTop (mkF m 116 #[.val (.ref r0), .val (.ref r1), .val (.int (0 : Int32)), .val (.long (own_H f (16))), .second, .val (.long (own_L f (16))), .second, .val (.long (((((own_len x) <<< ((16 : Int32) &&& 31)) ||| ((own_lea x) <<< ((8 : Int32) &&& 31))) ||| (own_mos x)).toInt64)), .second] [(.int (1 : Int32)), (.ref r1)])) _
    refine XS.lloadN X211.here hx rfl (hb hby own_d4_116) rfl ?_
    show Steps p.tables e below (T211.setTop (mkF m 117 #[.val (.ref r0), .val (.ref r1), .val (.int (0 : Int32)), .val (.long (own_H f (16))), .second, .val (.long (own_L f (16))), .second, .val (.long (((((own_len x) <<< ((16 : Int32) &&& 31)) ||| ((own_lea x) <<< ((8 : Int32) &&& 31))) ||| (own_mos x)).toInt64)), .second] [(.long (own_H f (16))), (.int (1 : Int32)), (.ref r1)])) _
    refine XS.bipush X211.here hx rfl (hb hby own_d4_117) ?_
    show Steps p.tables e below (T211.setTop (mkF m 119 #[.val (.ref r0), .val (.ref r1), .val (.int (0 : Int32)), .val (.long (own_H f (16))), .second, .val (.long (own_L f (16))), .second, .val (.long (((((own_len x) <<< ((16 : Int32) &&& 31)) ||| ((own_lea x) <<< ((8 : Int32) &&& 31))) ||| (own_mos x)).toInt64)), .second] [(.int (63 : Int32)), (.long (own_H f (16))), (.int (1 : Int32)), (.ref r1)])) _
    refine XS.lshl X211.here hx rfl (hb hby own_d4_119) rfl ?_
    show Steps p.tables e below (T211.setTop (mkF m 120 #[.val (.ref r0), .val (.ref r1), .val (.int (0 : Int32)), .val (.long (own_H f (16))), .second, .val (.long (own_L f (16))), .second, .val (.long (((((own_len x) <<< ((16 : Int32) &&& 31)) ||| ((own_lea x) <<< ((8 : Int32) &&& 31))) ||| (own_mos x)).toInt64)), .second] [(.long ((own_H f (16)) <<< ((63 : Int32) &&& 0x3f).toInt64)), (.int (1 : Int32)), (.ref r1)])) _
    refine XS.lload X211.here hx rfl (hb hby own_d4_120) rfl ?_
    show Steps p.tables e below (T211.setTop (mkF m 122 #[.val (.ref r0), .val (.ref r1), .val (.int (0 : Int32)), .val (.long (own_H f (16))), .second, .val (.long (own_L f (16))), .second, .val (.long (((((own_len x) <<< ((16 : Int32) &&& 31)) ||| ((own_lea x) <<< ((8 : Int32) &&& 31))) ||| (own_mos x)).toInt64)), .second] [(.long (own_L f (16))), (.long ((own_H f (16)) <<< ((63 : Int32) &&& 0x3f).toInt64)), (.int (1 : Int32)), (.ref r1)])) _
    refine XS.iconst X211.here hx rfl (hb hby own_d4_122) ?_
    show Steps p.tables e below (T211.setTop (mkF m 123 #[.val (.ref r0), .val (.ref r1), .val (.int (0 : Int32)), .val (.long (own_H f (16))), .second, .val (.long (own_L f (16))), .second, .val (.long (((((own_len x) <<< ((16 : Int32) &&& 31)) ||| ((own_lea x) <<< ((8 : Int32) &&& 31))) ||| (own_mos x)).toInt64)), .second] [(.int (1 : Int32)), (.long (own_L f (16))), (.long ((own_H f (16)) <<< ((63 : Int32) &&& 0x3f).toInt64)), (.int (1 : Int32)), (.ref r1)])) _
    refine XS.lushr X211.here hx rfl (hb hby own_d4_123) rfl ?_
    show Steps p.tables e below (T211.setTop (mkF m 124 #[.val (.ref r0), .val (.ref r1), .val (.int (0 : Int32)), .val (.long (own_H f (16))), .second, .val (.long (own_L f (16))), .second, .val (.long (((((own_len x) <<< ((16 : Int32) &&& 31)) ||| ((own_lea x) <<< ((8 : Int32) &&& 31))) ||| (own_mos x)).toInt64)), .second] [(.long (((own_L f (16)).toUInt64 >>> ((1 : Int32) &&& 0x3f).toInt64.toUInt64).toInt64)), (.long ((own_H f (16)) <<< ((63 : Int32) &&& 0x3f).toInt64)), (.int (1 : Int32)), (.ref r1)])) _
    refine XS.lor X211.here hx rfl (hb hby own_d4_124) rfl ?_
    show Steps p.tables e below (T211.setTop (mkF m 125 #[.val (.ref r0), .val (.ref r1), .val (.int (0 : Int32)), .val (.long (own_H f (16))), .second, .val (.long (own_L f (16))), .second, .val (.long (((((own_len x) <<< ((16 : Int32) &&& 31)) ||| ((own_lea x) <<< ((8 : Int32) &&& 31))) ||| (own_mos x)).toInt64)), .second] [(.long (((own_H f (16)) <<< ((63 : Int32) &&& 0x3f).toInt64) ||| (((own_L f (16)).toUInt64 >>> ((1 : Int32) &&& 0x3f).toInt64.toUInt64).toInt64))), (.int (1 : Int32)), (.ref r1)])) _
    refine st220 _ ?_
    exact h
  obtain ⟨cl230, Ar230, hin230, hat230⟩ := own_LA.at (i := 2) (j := (2 : Int32)) V220 rfl (by decide) (by decide)
  obtain ⟨T230, h230, X230, e230, W230, st230⟩ := stJ X220 hx hZ e220 Ar230 (j := (2 : Int32)) hin230 (g := (mkF m 140 #[.val (.ref r0), .val (.ref r1), .val (.int (0 : Int32)), .val (.long (own_H f (16))), .second, .val (.long (own_L f (16))), .second, .val (.long (((((own_len x) <<< ((16 : Int32) &&& 31)) ||| ((own_lea x) <<< ((8 : Int32) &&& 31))) ||| (own_mos x)).toInt64)), .second] [(.long ((((own_L f (16)) &&& (1 : Int64)) <<< ((24 : Int32) &&& 0x3f).toInt64) ||| (((((own_len x) <<< ((16 : Int32) &&& 31)) ||| ((own_lea x) <<< ((8 : Int32) &&& 31))) ||| (own_mos x)).toInt64))), (.int (2 : Int32)), (.ref r1)])) rfl rfl (hb hby own_d4_140)
  have V230 := own_LA.set V220 W230 rfl (by decide) (by decide)
  have f231 := f221.other W230 (Or.inl ne1)
  have f232 := f222.other W230 ne2
  have f233 := f223.wr W230
  have f234 := f224.other W230 (Or.inl ne1)
  have f235 := f225.other W230 (Or.inl ne1)
  have f236 := f226.other W230 (Or.inl ne1)
  have Z237 : n0 ≤ h230.size := Nat.le_trans Z227 (Keep.of_wr W230).1
  have K238 := K228.wr W230 (Or.inl (List.mem_of_getElem? (i := 0) rfl))
  have N230 := Fr.snoc X230 N220 g_r1
  have k239 : ∀ t, Steps p.tables e below (T230.setTop (mkF m 154 #[.val (.ref r0), .val (.ref r1), .val (.int (0 : Int32)), .val (.long (own_H f (16))), .second, .val (.long (own_L f (16))), .second, .val (.long (((((own_len x) <<< ((16 : Int32) &&& 31)) ||| ((own_lea x) <<< ((8 : Int32) &&& 31))) ||| (own_mos x)).toInt64)), .second] [])) t → Steps p.tables e below (s₁.setTop (mkF m 0 #[.val (.ref r0), .val (.ref r1), .val (.int (0 : Int32)), .unset, .unset, .unset, .unset, .unset, .unset] [])) t := by
    intro t h
    refine k229 t ?_
    show Steps p.tables e below (T220.setTop (mkF m 126 #[.val (.ref r0), .val (.ref r1), .val (.int (0 : Int32)), .val (.long (own_H f (16))), .second, .val (.long (own_L f (16))), .second, .val (.long (((((own_len x) <<< ((16 : Int32) &&& 31)) ||| ((own_lea x) <<< ((8 : Int32) &&& 31))) ||| (own_mos x)).toInt64)), .second] [])) _
    refine XS.aloadN X220.here hx rfl (hb hby own_d4_126) rfl rfl ?_
    show Steps p.tables e below (T220.setTop (mkF m 127 #[.val (.ref r0), .val (.ref r1), .val (.int (0 : Int32)), .val (.long (own_H f (16))), .second, .val (.long (own_L f (16))), .second, .val (.long (((((own_len x) <<< ((16 : Int32) &&& 31)) ||| ((own_lea x) <<< ((8 : Int32) &&& 31))) ||| (own_mos x)).toInt64)), .second] [(.ref r1)])) _
    refine XS.iloadN X220.here hx rfl (hb hby own_d4_127) rfl ?_
    show Steps p.tables e below (T220.setTop (mkF m 128 #[.val (.ref r0), .val (.ref r1), .val (.int (0 : Int32)), .val (.long (own_H f (16))), .second, .val (.long (own_L f (16))), .second, .val (.long (((((own_len x) <<< ((16 : Int32) &&& 31)) ||| ((own_lea x) <<< ((8 : Int32) &&& 31))) ||| (own_mos x)).toInt64)), .second] [(.int (0 : Int32)), (.ref r1)])) _
    refine XS.iconst X220.here hx rfl (hb hby own_d4_128) ?_
    show Steps p.tables e below (T220.setTop (mkF m 129 #[.val (.ref r0), .val (.ref r1), .val (.int (0 : Int32)), .val (.long (own_H f (16))), .second, .val (.long (own_L f (16))), .second, .val (.long (((((own_len x) <<< ((16 : Int32) &&& 31)) ||| ((own_lea x) <<< ((8 : Int32) &&& 31))) ||| (own_mos x)).toInt64)), .second] [(.int (2 : Int32)), (.int (0 : Int32)), (.ref r1)])) _
    refine XS.iadd X220.here hx rfl (hb hby own_d4_129) rfl ?_
    show Steps p.tables e below (T220.setTop (mkF m 130 #[.val (.ref r0), .val (.ref r1), .val (.int (0 : Int32)), .val (.long (own_H f (16))), .second, .val (.long (own_L f (16))), .second, .val (.long (((((own_len x) <<< ((16 : Int32) &&& 31)) ||| ((own_lea x) <<< ((8 : Int32) &&& 31))) ||| (own_mos x)).toInt64)), .second] [(.int (2 : Int32)), (.ref r1)])) _
    refine XS.lload X220.here hx rfl (hb hby own_d4_130) rfl ?_
    show Steps p.tables e below (T220.setTop (mkF m 132 #[.val (.ref r0), .val (.ref r1), .val (.int (0 : Int32)), .val (.long (own_H f (16))), .second, .val (.long (own_L f (16))), .second, .val (.long (((((own_len x) <<< ((16 : Int32) &&& 31)) ||| ((own_lea x) <<< ((8 : Int32) &&& 31))) ||| (own_mos x)).toInt64)), .second] [(.long (own_L f (16))), (.int (2 : Int32)), (.ref r1)])) _
    refine XS.lconst X220.here hx rfl (hb hby own_d4_132) ?_
    show Steps p.tables e below (T220.setTop (mkF m 133 #[.val (.ref r0), .val (.ref r1), .val (.int (0 : Int32)), .val (.long (own_H f (16))), .second, .val (.long (own_L f (16))), .second, .val (.long (((((own_len x) <<< ((16 : Int32) &&& 31)) ||| ((own_lea x) <<< ((8 : Int32) &&& 31))) ||| (own_mos x)).toInt64)), .second] [(.long (1 : Int64)), (.long (own_L f (16))), (.int (2 : Int32)), (.ref r1)])) _
    refine XS.land X220.here hx rfl (hb hby own_d4_133) rfl ?_
    show Steps p.tables e below (T220.setTop (mkF m 134 #[.val (.ref r0), .val (.ref r1), .val (.int (0 : Int32)), .val (.long (own_H f (16))), .second, .val (.long (own_L f (16))), .second, .val (.long (((((own_len x) <<< ((16 : Int32) &&& 31)) ||| ((own_lea x) <<< ((8 : Int32) &&& 31))) ||| (own_mos x)).toInt64)), .second] [(.long ((own_L f (16)) &&& (1 : Int64))), (.int (2 : Int32)), (.ref r1)])) _
    refine XS.bipush X220.here hx rfl (hb hby own_d4_134) ?_
    show Steps p.tables e below (T220.setTop (mkF m 136 #[.val (.ref r0), .val (.ref r1), .val (.int (0 : Int32)), .val (.long (own_H f (16))), .second, .val (.long (own_L f (16))), .second, .val (.long (((((own_len x) <<< ((16 : Int32) &&& 31)) ||| ((own_lea x) <<< ((8 : Int32) &&& 31))) ||| (own_mos x)).toInt64)), .second] [(.int (24 : Int32)), (.long ((own_L f (16)) &&& (1 : Int64))), (.int (2 : Int32)), (.ref r1)])) _
    refine XS.lshl X220.here hx rfl (hb hby own_d4_136) rfl ?_
    show Steps p.tables e below (T220.setTop (mkF m 137 #[.val (.ref r0), .val (.ref r1), .val (.int (0 : Int32)), .val (.long (own_H f (16))), .second, .val (.long (own_L f (16))), .second, .val (.long (((((own_len x) <<< ((16 : Int32) &&& 31)) ||| ((own_lea x) <<< ((8 : Int32) &&& 31))) ||| (own_mos x)).toInt64)), .second] [(.long (((own_L f (16)) &&& (1 : Int64)) <<< ((24 : Int32) &&& 0x3f).toInt64)), (.int (2 : Int32)), (.ref r1)])) _
    refine XS.lload X220.here hx rfl (hb hby own_d4_137) rfl ?_
    show Steps p.tables e below (T220.setTop (mkF m 139 #[.val (.ref r0), .val (.ref r1), .val (.int (0 : Int32)), .val (.long (own_H f (16))), .second, .val (.long (own_L f (16))), .second, .val (.long (((((own_len x) <<< ((16 : Int32) &&& 31)) ||| ((own_lea x) <<< ((8 : Int32) &&& 31))) ||| (own_mos x)).toInt64)), .second] [(.long (((((own_len x) <<< ((16 : Int32) &&& 31)) ||| ((own_lea x) <<< ((8 : Int32) &&& 31))) ||| (own_mos x)).toInt64)), (.long (((own_L f (16)) &&& (1 : Int64)) <<< ((24 : Int32) &&& 0x3f).toInt64)), (.int (2 : Int32)), (.ref r1)])) _
    refine XS.lor X220.here hx rfl (hb hby own_d4_139) rfl ?_
    show Steps p.tables e below (T220.setTop (mkF m 140 #[.val (.ref r0), .val (.ref r1), .val (.int (0 : Int32)), .val (.long (own_H f (16))), .second, .val (.long (own_L f (16))), .second, .val (.long (((((own_len x) <<< ((16 : Int32) &&& 31)) ||| ((own_lea x) <<< ((8 : Int32) &&& 31))) ||| (own_mos x)).toInt64)), .second] [(.long ((((own_L f (16)) &&& (1 : Int64)) <<< ((24 : Int32) &&& 0x3f).toInt64) ||| (((((own_len x) <<< ((16 : Int32) &&& 31)) ||| ((own_lea x) <<< ((8 : Int32) &&& 31))) ||| (own_mos x)).toInt64))), (.int (2 : Int32)), (.ref r1)])) _
    refine st230 _ ?_
    show Steps p.tables e below (T230.setTop (mkF m 141 #[.val (.ref r0), .val (.ref r1), .val (.int (0 : Int32)), .val (.long (own_H f (16))), .second, .val (.long (own_L f (16))), .second, .val (.long (((((own_len x) <<< ((16 : Int32) &&& 31)) ||| ((own_lea x) <<< ((8 : Int32) &&& 31))) ||| (own_mos x)).toInt64)), .second] [])) _
    refine XS.goto X230.here hx rfl (pc0 := 141) (pc' := 154) rfl (hb hby own_d4_141) (by decide) (by decide) ?_
    exact h
  obtain ⟨fs, hr, hrun, hended, hW, hsame⟩ := X230.leave (v := none) (fun _ => rfl) Bd.notSynchronized
  refine ⟨_, _, pre0 _ (k239 _ ?_), hrun, hended, _, _, rfl, ?_, ⟨_, rfl⟩, hW, hsame.mono (by decide) (by decide)⟩
  · exact X230.returnOut hx Bd.returns (hb hby own_d4_154) hr
  · show Q_rmW6 Z _ _ _ _ _ _ _ h0 n0 _ T230.heap _
    rw [e230]
    exact ⟨rfl, N230, K238, V230⟩
def Q_rmW4 (Z : State) (r0 : Addr) (r1 : Addr) (p2 : Int32) (ba : Addr) (f : Nat → Int32) (x : Int64) (fo : Nat → Int64) (h0 : Heap) (n0 : Nat) (v : Option Value) (h : Heap) (L : List Loc) : Prop := v = none ∧ Fr n0 L ∧ Keep h0 h [r1] ∧ own_LA Z h r1 3 (fun k => if k = 0 then (((own_H f 4) <<< ((31 : Int32) &&& 0x3f).toInt64) ||| own_lg x) else fo k)
set_option maxRecDepth 65536 in
set_option maxHeartbeats 40000000 in
theorem rmW4 (l : Launch) (Z : State) (a0 : Array Value) (hw : ∀ d ∈ tables_1, d.before a0 Z = true) (ws : List Jvm.Cond) (r0 : Addr) (r1 : Addr) (p2 : Int32) (ba : Addr) (f : Nat → Int32) (x : Int64) (fo : Nat → Int64) (h0 : Heap) (n0 : Nat) (Z0 : n0 ≤ h0.size) (F1 : Fld Z h0 r0 "com/example/mynah/mynah/rpsl/PrefixRange" "address" "[B" (.ref ba)) (A1 : own_BA Z h0 ba 4 f) (E1 : Exa Z h0 r0 "com/example/mynah/mynah/rpsl/PrefixRange") (F2 : Fld Z h0 r0 "com/example/mynah/mynah/rpsl/PrefixRange" "length" "I" (.int (own_len x))) (F3 : Fld Z h0 r0 "com/example/mynah/mynah/rpsl/PrefixRange" "least" "I" (.int (own_lea x))) (F4 : Fld Z h0 r0 "com/example/mynah/mynah/rpsl/PrefixRange" "most" "I" (.int (own_mos x))) (A2 : own_LA Z h0 r1 3 fo) (g_r1 : n0 ≤ r1) (ne1 : r0 ≠ r1) (ne2 : ba ≠ r1) (hp2 : p2 = 0) :
    MetFree l (⟨"com/example/mynah/mynah/rpsl/PrefixRange", "writeKey", "([JI)V"⟩ : MethodName) (head1 (Jvm.Cond.code (⟨"com/example/mynah/mynah/rpsl/PrefixRange", "writeKey", "([JI)V"⟩ : MethodName) prog_50_method_6_code 9 none :: ws) ({ frames := 1, cells := 0, slots := 0, locals := 12 } : Room)) (fun a U => a = #[(.ref r0), (.ref r1), (.int p2)] ∧ Z.Warmed39 U.vm ∧ U.heap = h0) (fun _ _ _ _ _ => True) (fun _ U o U' => ∃ v L, o = .returned v ∧ Q_rmW4 Z r0 r1 p2 ba f x fo h0 n0 v U'.heap L ∧ FrameEnd U o U' L ({ frames := 1, cells := 0, slots := 0, locals := 12 } : Room).cells ({ frames := 1, cells := 0, slots := 0, locals := 12 } : Room).slots) := by
  refine MetFree.of_bodySF (plainFor_of_name own_pn_0) hisR ?_
  intro p e s m args below meth c s₁ Bd hml0 hP hK
  obtain ⟨rfl, hZ, hh⟩ := hP
  have hx := Bd.exec
  have hby := Bd.bytes
  have hml : c.maxLocals = 9 := hml0
  have hown : s.vm.findClass "com/example/mynah/mynah/rpsl/PrefixRange" = some m.cls := findClass_of_methodNamed Bd.named
  have hnm := (name_of_methodNamed Bd.named Bd.method).1
  have X0 : Stand p l e ({ frames := 1, cells := 0, slots := 0, locals := 12 } : Room) s m #[(.ref r0), (.ref r1), (.int p2)] below meth c s₁ [] 0 0 := Stand.of_body Bd
  have e0 : s₁.heap = h0 := by rw [← hh, Bd.state]; rfl
  have N0 := Fr.nil n0
  have K0 : Keep h0 h0 [r1] := Keep.refl h0 _
  have pre0 : ∀ t, Steps p.tables e below (s₁.setTop (mkF m 0 #[.val (.ref r0), .val (.ref r1), .val (.int p2), .unset, .unset, .unset, .unset, .unset, .unset] [])) t → Steps p.tables e below (s₁.setTop (entryFrame m #[(.ref r0), (.ref r1), (.int p2)] 9)) t := fun t k => castTop (own_ef_3 m r0 r1 p2) k
  subst hp2
  have k240 : ∀ t, Steps p.tables e below (s₁.setTop (mkF m 8 #[.val (.ref r0), .val (.ref r1), .val (.int (0 : Int32)), .val (.long (0 : Int64)), .second, .val (.long (0 : Int64)), .second, .val (.int (0 : Int32)), .unset] [])) t → Steps p.tables e below (s₁.setTop (mkF m 0 #[.val (.ref r0), .val (.ref r1), .val (.int (0 : Int32)), .unset, .unset, .unset, .unset, .unset, .unset] [])) t := by
    intro t h
    show Steps p.tables e below (s₁.setTop (mkF m 0 #[.val (.ref r0), .val (.ref r1), .val (.int (0 : Int32)), .unset, .unset, .unset, .unset, .unset, .unset] [])) _
    refine XS.lconst X0.here hx rfl (hb hby own_d4_0) ?_
    show Steps p.tables e below (s₁.setTop (mkF m 1 #[.val (.ref r0), .val (.ref r1), .val (.int (0 : Int32)), .unset, .unset, .unset, .unset, .unset, .unset] [(.long (0 : Int64))])) _
    refine XS.lstoreN X0.here hx rfl (hb hby own_d4_1) rfl (l' := #[.val (.ref r0), .val (.ref r1), .val (.int (0 : Int32)), .val (.long (0 : Int64)), .second, .unset, .unset, .unset, .unset]) rfl ?_
    show Steps p.tables e below (s₁.setTop (mkF m 2 #[.val (.ref r0), .val (.ref r1), .val (.int (0 : Int32)), .val (.long (0 : Int64)), .second, .unset, .unset, .unset, .unset] [])) _
    refine XS.lconst X0.here hx rfl (hb hby own_d4_2) ?_
    show Steps p.tables e below (s₁.setTop (mkF m 3 #[.val (.ref r0), .val (.ref r1), .val (.int (0 : Int32)), .val (.long (0 : Int64)), .second, .unset, .unset, .unset, .unset] [(.long (0 : Int64))])) _
    refine XS.lstore X0.here hx rfl (hb hby own_d4_3) rfl (l' := #[.val (.ref r0), .val (.ref r1), .val (.int (0 : Int32)), .val (.long (0 : Int64)), .second, .val (.long (0 : Int64)), .second, .unset, .unset]) rfl ?_
    show Steps p.tables e below (s₁.setTop (mkF m 5 #[.val (.ref r0), .val (.ref r1), .val (.int (0 : Int32)), .val (.long (0 : Int64)), .second, .val (.long (0 : Int64)), .second, .unset, .unset] [])) _
    refine XS.iconst X0.here hx rfl (hb hby own_d4_5) ?_
    show Steps p.tables e below (s₁.setTop (mkF m 6 #[.val (.ref r0), .val (.ref r1), .val (.int (0 : Int32)), .val (.long (0 : Int64)), .second, .val (.long (0 : Int64)), .second, .unset, .unset] [(.int (0 : Int32))])) _
    refine XS.istore X0.here hx rfl (hb hby own_d4_6) rfl (l' := #[.val (.ref r0), .val (.ref r1), .val (.int (0 : Int32)), .val (.long (0 : Int64)), .second, .val (.long (0 : Int64)), .second, .val (.int (0 : Int32)), .unset]) rfl ?_
    exact h
  have k241 : ∀ t, Steps p.tables e below (s₁.setTop (mkF m 8 #[.val (.ref r0), .val (.ref r1), .val (.int (0 : Int32)), .val (.long (own_H f 0)), .second, .val (.long (own_L f 0)), .second, .val (.int (Int32.ofNat 0)), .unset] [])) t → Steps p.tables e below (s₁.setTop (mkF m 0 #[.val (.ref r0), .val (.ref r1), .val (.int (0 : Int32)), .unset, .unset, .unset, .unset, .unset, .unset] [])) t := k240
  have lp242 : ∀ (d : Nat) (i : Nat), i + d = 4 → ∀ (T : State) (h : Heap) (L : List Loc), Stand p l e ({ frames := 1, cells := 0, slots := 0, locals := 12 } : Room) s m #[(.ref r0), (.ref r1), (.int (0 : Int32))] below meth c T L 0 0 → T.heap = h → Fr n0 L → n0 ≤ h.size → Keep h0 h [r1] → Fld Z h r0 "com/example/mynah/mynah/rpsl/PrefixRange" "address" "[B" (.ref ba) → own_BA Z h ba (4) f → Exa Z h r0 "com/example/mynah/mynah/rpsl/PrefixRange" → Fld Z h r0 "com/example/mynah/mynah/rpsl/PrefixRange" "length" "I" (.int (own_len x)) → Fld Z h r0 "com/example/mynah/mynah/rpsl/PrefixRange" "least" "I" (.int (own_lea x)) → Fld Z h r0 "com/example/mynah/mynah/rpsl/PrefixRange" "most" "I" (.int (own_mos x)) → own_LA Z h r1 (3) fo → ∃ (T' : State) (h' : Heap) (L' : List Loc), Stand p l e ({ frames := 1, cells := 0, slots := 0, locals := 12 } : Room) s m #[(.ref r0), (.ref r1), (.int (0 : Int32))] below meth c T' L' 0 0 ∧ T'.heap = h' ∧ Fr n0 L' ∧ n0 ≤ h'.size ∧ Keep h0 h' [r1] ∧ Fld Z h' r0 "com/example/mynah/mynah/rpsl/PrefixRange" "address" "[B" (.ref ba) ∧ own_BA Z h' ba (4) f ∧ Exa Z h' r0 "com/example/mynah/mynah/rpsl/PrefixRange" ∧ Fld Z h' r0 "com/example/mynah/mynah/rpsl/PrefixRange" "length" "I" (.int (own_len x)) ∧ Fld Z h' r0 "com/example/mynah/mynah/rpsl/PrefixRange" "least" "I" (.int (own_lea x)) ∧ Fld Z h' r0 "com/example/mynah/mynah/rpsl/PrefixRange" "most" "I" (.int (own_mos x)) ∧ own_LA Z h' r1 (3) fo ∧ ∀ t, Steps p.tables e below (T'.setTop (mkF m 72 #[.val (.ref r0), .val (.ref r1), .val (.int (0 : Int32)), .val (.long (own_H f (4))), .second, .val (.long (own_L f (4))), .second, .val (.int (Int32.ofNat (4))), .unset] [])) t → Steps p.tables e below (T.setTop (mkF m 8 #[.val (.ref r0), .val (.ref r1), .val (.int (0 : Int32)), .val (.long (own_H f i)), .second, .val (.long (own_L f i)), .second, .val (.int (Int32.ofNat i)), .unset] [])) t := by
    intro d
    induction d with
    | zero =>
      intro i hd  T h L X hE hN hZZ hK hf0 hf1 hf2 hf3 hf4 hf5 hf6
      have hi : i = 4 := by omega
      subst hi
      obtain ⟨T243, X243, e243, st243⟩ := getF X hx hZ hown (host := "") (Or.inl (hw _ (List.mem_of_getElem? (i := 18) rfl))) Via.refl hE hf0 (g := (mkF m 11 #[.val (.ref r0), .val (.ref r1), .val (.int (0 : Int32)), .val (.long (own_H f (4))), .second, .val (.long (own_L f (4))), .second, .val (.int (Int32.ofNat (4))), .unset] [(.ref r0), (.int (Int32.ofNat (4)))])) rfl rfl (hb hby own_d4_11)
      obtain ⟨cl244, Ar244, hl244⟩ := hf1.len
      have k245 : ∀ t, Steps p.tables e below (T243.setTop (mkF m 15 #[.val (.ref r0), .val (.ref r1), .val (.int (0 : Int32)), .val (.long (own_H f (4))), .second, .val (.long (own_L f (4))), .second, .val (.int (Int32.ofNat (4))), .unset] [(.int (Int32.ofNat (4))), (.int (Int32.ofNat (4)))])) t → Steps p.tables e below (T.setTop (mkF m 8 #[.val (.ref r0), .val (.ref r1), .val (.int (0 : Int32)), .val (.long (own_H f (4))), .second, .val (.long (own_L f (4))), .second, .val (.int (Int32.ofNat (4))), .unset] [])) t := by
        intro t h
        show Steps p.tables e below (T.setTop (mkF m 8 #[.val (.ref r0), .val (.ref r1), .val (.int (0 : Int32)), .val (.long (own_H f (4))), .second, .val (.long (own_L f (4))), .second, .val (.int (Int32.ofNat (4))), .unset] [])) _
        refine XS.iload X.here hx rfl (hb hby own_d4_8) rfl ?_
        show Steps p.tables e below (T.setTop (mkF m 10 #[.val (.ref r0), .val (.ref r1), .val (.int (0 : Int32)), .val (.long (own_H f (4))), .second, .val (.long (own_L f (4))), .second, .val (.int (Int32.ofNat (4))), .unset] [(.int (Int32.ofNat (4)))])) _
        refine XS.aloadN X.here hx rfl (hb hby own_d4_10) rfl rfl ?_
        show Steps p.tables e below (T.setTop (mkF m 11 #[.val (.ref r0), .val (.ref r1), .val (.int (0 : Int32)), .val (.long (own_H f (4))), .second, .val (.long (own_L f (4))), .second, .val (.int (Int32.ofNat (4))), .unset] [(.ref r0), (.int (Int32.ofNat (4)))])) _
        refine st243 _ ?_
        show Steps p.tables e below (T243.setTop (mkF m 14 #[.val (.ref r0), .val (.ref r1), .val (.int (0 : Int32)), .val (.long (own_H f (4))), .second, .val (.long (own_L f (4))), .second, .val (.int (Int32.ofNat (4))), .unset] [(.ref ba), (.int (Int32.ofNat (4)))])) _
        refine X243.arraylength hx (by rw [e243]; exact Ar244.1) (State.isArrayOf_alike hZ.alike Ar244.2.1) (g := (mkF m 14 #[.val (.ref r0), .val (.ref r1), .val (.int (0 : Int32)), .val (.long (own_H f (4))), .second, .val (.long (own_L f (4))), .second, .val (.int (Int32.ofNat (4))), .unset] [(.ref ba), (.int (Int32.ofNat (4)))])) rfl rfl (hb hby own_d4_14) _ ?_
        rw [hl244]
        exact h
      have b15_246 : ¬ ((Int32.ofNat (4)) < (Int32.ofNat (4))) := own_nlt (by omega) (by decide)
      have k247 : ∀ t, Steps p.tables e below (T243.setTop (mkF m 72 #[.val (.ref r0), .val (.ref r1), .val (.int (0 : Int32)), .val (.long (own_H f (4))), .second, .val (.long (own_L f (4))), .second, .val (.int (Int32.ofNat (4))), .unset] [])) t → Steps p.tables e below (T.setTop (mkF m 8 #[.val (.ref r0), .val (.ref r1), .val (.int (0 : Int32)), .val (.long (own_H f (4))), .second, .val (.long (own_L f (4))), .second, .val (.int (Int32.ofNat (4))), .unset] [])) t := by
        intro t h
        refine k245 t ?_
        show Steps p.tables e below (T243.setTop (mkF m 15 #[.val (.ref r0), .val (.ref r1), .val (.int (0 : Int32)), .val (.long (own_H f (4))), .second, .val (.long (own_L f (4))), .second, .val (.int (Int32.ofNat (4))), .unset] [(.int (Int32.ofNat (4))), (.int (Int32.ofNat (4)))])) _
        refine XS.icmpYes X243.here hx rfl (pc0 := 15) (pc' := 72) rfl (hb hby own_d4_15) rfl (flt b15_246).2.1 (by decide) (by decide) ?_
        exact h
      exact ⟨T243, _, _, X243, e243, hN, hZZ, hK, hf0, hf1, hf2, hf3, hf4, hf5, hf6, k247⟩
    | succ d ih =>
      intro i hd  T h L X hE hN hZZ hK hf0 hf1 hf2 hf3 hf4 hf5 hf6
      obtain ⟨T248, X248, e248, st248⟩ := getF X hx hZ hown (host := "") (Or.inl (hw _ (List.mem_of_getElem? (i := 18) rfl))) Via.refl hE hf0 (g := (mkF m 11 #[.val (.ref r0), .val (.ref r1), .val (.int (0 : Int32)), .val (.long (own_H f i)), .second, .val (.long (own_L f i)), .second, .val (.int (Int32.ofNat i)), .unset] [(.ref r0), (.int (Int32.ofNat i))])) rfl rfl (hb hby own_d4_11)
      obtain ⟨cl249, Ar249, hl249⟩ := hf1.len
      have k250 : ∀ t, Steps p.tables e below (T248.setTop (mkF m 15 #[.val (.ref r0), .val (.ref r1), .val (.int (0 : Int32)), .val (.long (own_H f i)), .second, .val (.long (own_L f i)), .second, .val (.int (Int32.ofNat i)), .unset] [(.int (Int32.ofNat (4))), (.int (Int32.ofNat i))])) t → Steps p.tables e below (T.setTop (mkF m 8 #[.val (.ref r0), .val (.ref r1), .val (.int (0 : Int32)), .val (.long (own_H f i)), .second, .val (.long (own_L f i)), .second, .val (.int (Int32.ofNat i)), .unset] [])) t := by
        intro t h
        show Steps p.tables e below (T.setTop (mkF m 8 #[.val (.ref r0), .val (.ref r1), .val (.int (0 : Int32)), .val (.long (own_H f i)), .second, .val (.long (own_L f i)), .second, .val (.int (Int32.ofNat i)), .unset] [])) _
        refine XS.iload X.here hx rfl (hb hby own_d4_8) rfl ?_
        show Steps p.tables e below (T.setTop (mkF m 10 #[.val (.ref r0), .val (.ref r1), .val (.int (0 : Int32)), .val (.long (own_H f i)), .second, .val (.long (own_L f i)), .second, .val (.int (Int32.ofNat i)), .unset] [(.int (Int32.ofNat i))])) _
        refine XS.aloadN X.here hx rfl (hb hby own_d4_10) rfl rfl ?_
        show Steps p.tables e below (T.setTop (mkF m 11 #[.val (.ref r0), .val (.ref r1), .val (.int (0 : Int32)), .val (.long (own_H f i)), .second, .val (.long (own_L f i)), .second, .val (.int (Int32.ofNat i)), .unset] [(.ref r0), (.int (Int32.ofNat i))])) _
        refine st248 _ ?_
        show Steps p.tables e below (T248.setTop (mkF m 14 #[.val (.ref r0), .val (.ref r1), .val (.int (0 : Int32)), .val (.long (own_H f i)), .second, .val (.long (own_L f i)), .second, .val (.int (Int32.ofNat i)), .unset] [(.ref ba), (.int (Int32.ofNat i))])) _
        refine X248.arraylength hx (by rw [e248]; exact Ar249.1) (State.isArrayOf_alike hZ.alike Ar249.2.1) (g := (mkF m 14 #[.val (.ref r0), .val (.ref r1), .val (.int (0 : Int32)), .val (.long (own_H f i)), .second, .val (.long (own_L f i)), .second, .val (.int (Int32.ofNat i)), .unset] [(.ref ba), (.int (Int32.ofNat i))])) rfl rfl (hb hby own_d4_14) _ ?_
        rw [hl249]
        exact h
      have b15_251 : (Int32.ofNat i) < (Int32.ofNat (4)) := own_lt (by omega) (by decide)
      have k252 : ∀ t, Steps p.tables e below (T248.setTop (mkF m 22 #[.val (.ref r0), .val (.ref r1), .val (.int (0 : Int32)), .val (.long (own_H f i)), .second, .val (.long (own_L f i)), .second, .val (.int (Int32.ofNat i)), .unset] [(.int (8 : Int32)), (.int (Int32.ofNat i))])) t → Steps p.tables e below (T.setTop (mkF m 8 #[.val (.ref r0), .val (.ref r1), .val (.int (0 : Int32)), .val (.long (own_H f i)), .second, .val (.long (own_L f i)), .second, .val (.int (Int32.ofNat i)), .unset] [])) t := by
        intro t h
        refine k250 t ?_
        show Steps p.tables e below (T248.setTop (mkF m 15 #[.val (.ref r0), .val (.ref r1), .val (.int (0 : Int32)), .val (.long (own_H f i)), .second, .val (.long (own_L f i)), .second, .val (.int (Int32.ofNat i)), .unset] [(.int (Int32.ofNat (4))), (.int (Int32.ofNat i))])) _
        refine XS.icmpNo X248.here hx rfl (hb hby own_d4_15) rfl (tlt b15_251).2.1 ?_
        show Steps p.tables e below (T248.setTop (mkF m 18 #[.val (.ref r0), .val (.ref r1), .val (.int (0 : Int32)), .val (.long (own_H f i)), .second, .val (.long (own_L f i)), .second, .val (.int (Int32.ofNat i)), .unset] [])) _
        refine XS.iload X248.here hx rfl (hb hby own_d4_18) rfl ?_
        show Steps p.tables e below (T248.setTop (mkF m 20 #[.val (.ref r0), .val (.ref r1), .val (.int (0 : Int32)), .val (.long (own_H f i)), .second, .val (.long (own_L f i)), .second, .val (.int (Int32.ofNat i)), .unset] [(.int (Int32.ofNat i))])) _
        refine XS.bipush X248.here hx rfl (hb hby own_d4_20) ?_
        exact h
      by_cases c22_253 : (Int32.ofNat i) < (8 : Int32)
      · skip
        obtain ⟨T254, X254, e254, st254⟩ := getF X248 hx hZ hown (host := "") (Or.inl (hw _ (List.mem_of_getElem? (i := 18) rfl))) Via.refl e248 hf0 (g := (mkF m 30 #[.val (.ref r0), .val (.ref r1), .val (.int (0 : Int32)), .val (.long (own_H f i)), .second, .val (.long (own_L f i)), .second, .val (.int (Int32.ofNat i)), .unset] [(.ref r0), (.long ((own_H f i) <<< ((8 : Int32) &&& 0x3f).toInt64))])) rfl rfl (hb hby own_d4_30)
        obtain ⟨cl255, Ar255, hin255, hat255⟩ := own_BA.at (i := i) (j := (Int32.ofNat i)) hf1 rfl (by omega) (by decide)
        have k256 : ∀ t, Steps p.tables e below (T254.setTop (mkF m 8 #[.val (.ref r0), .val (.ref r1), .val (.int (0 : Int32)), .val (.long (((own_H f i) <<< ((8 : Int32) &&& 0x3f).toInt64) ||| (((f i) &&& (255 : Int32)).toInt64))), .second, .val (.long (own_L f i)), .second, .val (.int ((Int32.ofNat i) + (1 : Int32))), .unset] [])) t → Steps p.tables e below (T.setTop (mkF m 8 #[.val (.ref r0), .val (.ref r1), .val (.int (0 : Int32)), .val (.long (own_H f i)), .second, .val (.long (own_L f i)), .second, .val (.int (Int32.ofNat i)), .unset] [])) t := by
          intro t h
          refine k252 t ?_
          show Steps p.tables e below (T248.setTop (mkF m 22 #[.val (.ref r0), .val (.ref r1), .val (.int (0 : Int32)), .val (.long (own_H f i)), .second, .val (.long (own_L f i)), .second, .val (.int (Int32.ofNat i)), .unset] [(.int (8 : Int32)), (.int (Int32.ofNat i))])) _
          refine XS.icmpNo X248.here hx rfl (hb hby own_d4_22) rfl (tlt c22_253).2.1 ?_
          show Steps p.tables e below (T248.setTop (mkF m 25 #[.val (.ref r0), .val (.ref r1), .val (.int (0 : Int32)), .val (.long (own_H f i)), .second, .val (.long (own_L f i)), .second, .val (.int (Int32.ofNat i)), .unset] [])) _
          refine XS.lloadN X248.here hx rfl (hb hby own_d4_25) rfl ?_
          show Steps p.tables e below (T248.setTop (mkF m 26 #[.val (.ref r0), .val (.ref r1), .val (.int (0 : Int32)), .val (.long (own_H f i)), .second, .val (.long (own_L f i)), .second, .val (.int (Int32.ofNat i)), .unset] [(.long (own_H f i))])) _
          refine XS.bipush X248.here hx rfl (hb hby own_d4_26) ?_
          show Steps p.tables e below (T248.setTop (mkF m 28 #[.val (.ref r0), .val (.ref r1), .val (.int (0 : Int32)), .val (.long (own_H f i)), .second, .val (.long (own_L f i)), .second, .val (.int (Int32.ofNat i)), .unset] [(.int (8 : Int32)), (.long (own_H f i))])) _
          refine XS.lshl X248.here hx rfl (hb hby own_d4_28) rfl ?_
          show Steps p.tables e below (T248.setTop (mkF m 29 #[.val (.ref r0), .val (.ref r1), .val (.int (0 : Int32)), .val (.long (own_H f i)), .second, .val (.long (own_L f i)), .second, .val (.int (Int32.ofNat i)), .unset] [(.long ((own_H f i) <<< ((8 : Int32) &&& 0x3f).toInt64))])) _
          refine XS.aloadN X248.here hx rfl (hb hby own_d4_29) rfl rfl ?_
          show Steps p.tables e below (T248.setTop (mkF m 30 #[.val (.ref r0), .val (.ref r1), .val (.int (0 : Int32)), .val (.long (own_H f i)), .second, .val (.long (own_L f i)), .second, .val (.int (Int32.ofNat i)), .unset] [(.ref r0), (.long ((own_H f i) <<< ((8 : Int32) &&& 0x3f).toInt64))])) _
          refine st254 _ ?_
          show Steps p.tables e below (T254.setTop (mkF m 33 #[.val (.ref r0), .val (.ref r1), .val (.int (0 : Int32)), .val (.long (own_H f i)), .second, .val (.long (own_L f i)), .second, .val (.int (Int32.ofNat i)), .unset] [(.ref ba), (.long ((own_H f i) <<< ((8 : Int32) &&& 0x3f).toInt64))])) _
          refine XS.iload X254.here hx rfl (hb hby own_d4_33) rfl ?_
          show Steps p.tables e below (T254.setTop (mkF m 35 #[.val (.ref r0), .val (.ref r1), .val (.int (0 : Int32)), .val (.long (own_H f i)), .second, .val (.long (own_L f i)), .second, .val (.int (Int32.ofNat i)), .unset] [(.int (Int32.ofNat i)), (.ref ba), (.long ((own_H f i) <<< ((8 : Int32) &&& 0x3f).toInt64))])) _
          refine X254.baloadBytes hx (j := (Int32.ofNat i)) (v := (.int (f i))) (by rw [e254]; exact Ar255.1) (State.isArrayOf_alike hZ.alike Ar255.2.1) Ar255.2.2 hin255 hat255 (g := (mkF m 35 #[.val (.ref r0), .val (.ref r1), .val (.int (0 : Int32)), .val (.long (own_H f i)), .second, .val (.long (own_L f i)), .second, .val (.int (Int32.ofNat i)), .unset] [(.int (Int32.ofNat i)), (.ref ba), (.long ((own_H f i) <<< ((8 : Int32) &&& 0x3f).toInt64))])) rfl rfl (hb hby own_d4_35) _ ?_
          show Steps p.tables e below (T254.setTop (mkF m 36 #[.val (.ref r0), .val (.ref r1), .val (.int (0 : Int32)), .val (.long (own_H f i)), .second, .val (.long (own_L f i)), .second, .val (.int (Int32.ofNat i)), .unset] [(.int (f i)), (.long ((own_H f i) <<< ((8 : Int32) &&& 0x3f).toInt64))])) _
          refine XS.sipush X254.here hx rfl (hb hby own_d4_36) ?_
          show Steps p.tables e below (T254.setTop (mkF m 39 #[.val (.ref r0), .val (.ref r1), .val (.int (0 : Int32)), .val (.long (own_H f i)), .second, .val (.long (own_L f i)), .second, .val (.int (Int32.ofNat i)), .unset] [(.int (255 : Int32)), (.int (f i)), (.long ((own_H f i) <<< ((8 : Int32) &&& 0x3f).toInt64))])) _
          refine XS.iand X254.here hx rfl (hb hby own_d4_39) rfl ?_
          show Steps p.tables e below (T254.setTop (mkF m 40 #[.val (.ref r0), .val (.ref r1), .val (.int (0 : Int32)), .val (.long (own_H f i)), .second, .val (.long (own_L f i)), .second, .val (.int (Int32.ofNat i)), .unset] [(.int ((f i) &&& (255 : Int32))), (.long ((own_H f i) <<< ((8 : Int32) &&& 0x3f).toInt64))])) _
          refine XS.i2l X254.here hx rfl (hb hby own_d4_40) rfl ?_
          show Steps p.tables e below (T254.setTop (mkF m 41 #[.val (.ref r0), .val (.ref r1), .val (.int (0 : Int32)), .val (.long (own_H f i)), .second, .val (.long (own_L f i)), .second, .val (.int (Int32.ofNat i)), .unset] [(.long (((f i) &&& (255 : Int32)).toInt64)), (.long ((own_H f i) <<< ((8 : Int32) &&& 0x3f).toInt64))])) _
          refine XS.lor X254.here hx rfl (hb hby own_d4_41) rfl ?_
          show Steps p.tables e below (T254.setTop (mkF m 42 #[.val (.ref r0), .val (.ref r1), .val (.int (0 : Int32)), .val (.long (own_H f i)), .second, .val (.long (own_L f i)), .second, .val (.int (Int32.ofNat i)), .unset] [(.long (((own_H f i) <<< ((8 : Int32) &&& 0x3f).toInt64) ||| (((f i) &&& (255 : Int32)).toInt64)))])) _
          refine XS.lstoreN X254.here hx rfl (hb hby own_d4_42) rfl (l' := #[.val (.ref r0), .val (.ref r1), .val (.int (0 : Int32)), .val (.long (((own_H f i) <<< ((8 : Int32) &&& 0x3f).toInt64) ||| (((f i) &&& (255 : Int32)).toInt64))), .second, .val (.long (own_L f i)), .second, .val (.int (Int32.ofNat i)), .unset]) rfl ?_
          show Steps p.tables e below (T254.setTop (mkF m 43 #[.val (.ref r0), .val (.ref r1), .val (.int (0 : Int32)), .val (.long (((own_H f i) <<< ((8 : Int32) &&& 0x3f).toInt64) ||| (((f i) &&& (255 : Int32)).toInt64))), .second, .val (.long (own_L f i)), .second, .val (.int (Int32.ofNat i)), .unset] [])) _
          refine XS.goto X254.here hx rfl (pc0 := 43) (pc' := 66) rfl (hb hby own_d4_43) (by decide) (by decide) ?_
          show Steps p.tables e below (T254.setTop (mkF m 66 #[.val (.ref r0), .val (.ref r1), .val (.int (0 : Int32)), .val (.long (((own_H f i) <<< ((8 : Int32) &&& 0x3f).toInt64) ||| (((f i) &&& (255 : Int32)).toInt64))), .second, .val (.long (own_L f i)), .second, .val (.int (Int32.ofNat i)), .unset] [])) _
          refine XS.iinc X254.here hx rfl (hb hby own_d4_66) rfl (l' := #[.val (.ref r0), .val (.ref r1), .val (.int (0 : Int32)), .val (.long (((own_H f i) <<< ((8 : Int32) &&& 0x3f).toInt64) ||| (((f i) &&& (255 : Int32)).toInt64))), .second, .val (.long (own_L f i)), .second, .val (.int ((Int32.ofNat i) + (1 : Int32))), .unset]) rfl ?_
          show Steps p.tables e below (T254.setTop (mkF m 69 #[.val (.ref r0), .val (.ref r1), .val (.int (0 : Int32)), .val (.long (((own_H f i) <<< ((8 : Int32) &&& 0x3f).toInt64) ||| (((f i) &&& (255 : Int32)).toInt64))), .second, .val (.long (own_L f i)), .second, .val (.int ((Int32.ofNat i) + (1 : Int32))), .unset] [])) _
          refine XS.goto X254.here hx rfl (pc0 := 69) (pc' := 8) rfl (hb hby own_d4_69) (by decide) (by decide) ?_
          exact h
        have r257 : ((Int32.ofNat i) + (1 : Int32)) = (Int32.ofNat (i + 1)) := own_inc i
        have k258 : ∀ t, Steps p.tables e below (T254.setTop (mkF m 8 #[.val (.ref r0), .val (.ref r1), .val (.int (0 : Int32)), .val (.long (((own_H f i) <<< ((8 : Int32) &&& 0x3f).toInt64) ||| (((f i) &&& (255 : Int32)).toInt64))), .second, .val (.long (own_L f i)), .second, .val (.int (Int32.ofNat (i + 1))), .unset] [])) t → Steps p.tables e below (T.setTop (mkF m 8 #[.val (.ref r0), .val (.ref r1), .val (.int (0 : Int32)), .val (.long (own_H f i)), .second, .val (.long (own_L f i)), .second, .val (.int (Int32.ofNat i)), .unset] [])) t := by first | (rw [← r257]; exact k256) | exact k256
        have r259 : (((own_H f i) <<< ((8 : Int32) &&& 0x3f).toInt64) ||| (((f i) &&& (255 : Int32)).toInt64)) = own_H f (i + 1) := by rw [own_H, if_pos c22_253]
        have r260 : (own_L f i) = own_L f (i + 1) := by rw [own_L, if_pos c22_253]
        have k261 : ∀ t, Steps p.tables e below (T254.setTop (mkF m 8 #[.val (.ref r0), .val (.ref r1), .val (.int (0 : Int32)), .val (.long (own_H f (i + 1))), .second, .val (.long (own_L f (i + 1))), .second, .val (.int (Int32.ofNat (i + 1))), .unset] [])) t → Steps p.tables e below (T.setTop (mkF m 8 #[.val (.ref r0), .val (.ref r1), .val (.int (0 : Int32)), .val (.long (own_H f i)), .second, .val (.long (own_L f i)), .second, .val (.int (Int32.ofNat i)), .unset] [])) t := by rw [← r259, ← r260]; exact k258
        obtain ⟨T262, h262, L262, X262, e262, N262, Z262, K262, f262_0, f262_1, f262_2, f262_3, f262_4, f262_5, f262_6, k262⟩ := ih (i + 1) (by omega)  T254 _ _ X254 e254 hN hZZ hK (hf0) (hf1) (hf2) (hf3) (hf4) (hf5) (hf6)
        exact ⟨T262, h262, L262, X262, e262, N262, Z262, K262, f262_0, f262_1, f262_2, f262_3, f262_4, f262_5, f262_6, fun t q => k261 t (k262 t q)⟩
      · skip
        obtain ⟨T263, X263, e263, st263⟩ := getF X248 hx hZ hown (host := "") (Or.inl (hw _ (List.mem_of_getElem? (i := 18) rfl))) Via.refl e248 hf0 (g := (mkF m 52 #[.val (.ref r0), .val (.ref r1), .val (.int (0 : Int32)), .val (.long (own_H f i)), .second, .val (.long (own_L f i)), .second, .val (.int (Int32.ofNat i)), .unset] [(.ref r0), (.long ((own_L f i) <<< ((8 : Int32) &&& 0x3f).toInt64))])) rfl rfl (hb hby own_d4_52)
        obtain ⟨cl264, Ar264, hin264, hat264⟩ := own_BA.at (i := i) (j := (Int32.ofNat i)) hf1 rfl (by omega) (by decide)
        have k265 : ∀ t, Steps p.tables e below (T263.setTop (mkF m 8 #[.val (.ref r0), .val (.ref r1), .val (.int (0 : Int32)), .val (.long (own_H f i)), .second, .val (.long (((own_L f i) <<< ((8 : Int32) &&& 0x3f).toInt64) ||| (((f i) &&& (255 : Int32)).toInt64))), .second, .val (.int ((Int32.ofNat i) + (1 : Int32))), .unset] [])) t → Steps p.tables e below (T.setTop (mkF m 8 #[.val (.ref r0), .val (.ref r1), .val (.int (0 : Int32)), .val (.long (own_H f i)), .second, .val (.long (own_L f i)), .second, .val (.int (Int32.ofNat i)), .unset] [])) t := by
          intro t h
          refine k252 t ?_
          show Steps p.tables e below (T248.setTop (mkF m 22 #[.val (.ref r0), .val (.ref r1), .val (.int (0 : Int32)), .val (.long (own_H f i)), .second, .val (.long (own_L f i)), .second, .val (.int (Int32.ofNat i)), .unset] [(.int (8 : Int32)), (.int (Int32.ofNat i))])) _
          refine XS.icmpYes X248.here hx rfl (pc0 := 22) (pc' := 46) rfl (hb hby own_d4_22) rfl (flt c22_253).2.1 (by decide) (by decide) ?_
          show Steps p.tables e below (T248.setTop (mkF m 46 #[.val (.ref r0), .val (.ref r1), .val (.int (0 : Int32)), .val (.long (own_H f i)), .second, .val (.long (own_L f i)), .second, .val (.int (Int32.ofNat i)), .unset] [])) _
          refine XS.lload X248.here hx rfl (hb hby own_d4_46) rfl ?_
          show Steps p.tables e below (T248.setTop (mkF m 48 #[.val (.ref r0), .val (.ref r1), .val (.int (0 : Int32)), .val (.long (own_H f i)), .second, .val (.long (own_L f i)), .second, .val (.int (Int32.ofNat i)), .unset] [(.long (own_L f i))])) _
          refine XS.bipush X248.here hx rfl (hb hby own_d4_48) ?_
          show Steps p.tables e below (T248.setTop (mkF m 50 #[.val (.ref r0), .val (.ref r1), .val (.int (0 : Int32)), .val (.long (own_H f i)), .second, .val (.long (own_L f i)), .second, .val (.int (Int32.ofNat i)), .unset] [(.int (8 : Int32)), (.long (own_L f i))])) _
          refine XS.lshl X248.here hx rfl (hb hby own_d4_50) rfl ?_
          show Steps p.tables e below (T248.setTop (mkF m 51 #[.val (.ref r0), .val (.ref r1), .val (.int (0 : Int32)), .val (.long (own_H f i)), .second, .val (.long (own_L f i)), .second, .val (.int (Int32.ofNat i)), .unset] [(.long ((own_L f i) <<< ((8 : Int32) &&& 0x3f).toInt64))])) _
          refine XS.aloadN X248.here hx rfl (hb hby own_d4_51) rfl rfl ?_
          show Steps p.tables e below (T248.setTop (mkF m 52 #[.val (.ref r0), .val (.ref r1), .val (.int (0 : Int32)), .val (.long (own_H f i)), .second, .val (.long (own_L f i)), .second, .val (.int (Int32.ofNat i)), .unset] [(.ref r0), (.long ((own_L f i) <<< ((8 : Int32) &&& 0x3f).toInt64))])) _
          refine st263 _ ?_
          show Steps p.tables e below (T263.setTop (mkF m 55 #[.val (.ref r0), .val (.ref r1), .val (.int (0 : Int32)), .val (.long (own_H f i)), .second, .val (.long (own_L f i)), .second, .val (.int (Int32.ofNat i)), .unset] [(.ref ba), (.long ((own_L f i) <<< ((8 : Int32) &&& 0x3f).toInt64))])) _
          refine XS.iload X263.here hx rfl (hb hby own_d4_55) rfl ?_
          show Steps p.tables e below (T263.setTop (mkF m 57 #[.val (.ref r0), .val (.ref r1), .val (.int (0 : Int32)), .val (.long (own_H f i)), .second, .val (.long (own_L f i)), .second, .val (.int (Int32.ofNat i)), .unset] [(.int (Int32.ofNat i)), (.ref ba), (.long ((own_L f i) <<< ((8 : Int32) &&& 0x3f).toInt64))])) _
          refine X263.baloadBytes hx (j := (Int32.ofNat i)) (v := (.int (f i))) (by rw [e263]; exact Ar264.1) (State.isArrayOf_alike hZ.alike Ar264.2.1) Ar264.2.2 hin264 hat264 (g := (mkF m 57 #[.val (.ref r0), .val (.ref r1), .val (.int (0 : Int32)), .val (.long (own_H f i)), .second, .val (.long (own_L f i)), .second, .val (.int (Int32.ofNat i)), .unset] [(.int (Int32.ofNat i)), (.ref ba), (.long ((own_L f i) <<< ((8 : Int32) &&& 0x3f).toInt64))])) rfl rfl (hb hby own_d4_57) _ ?_
          show Steps p.tables e below (T263.setTop (mkF m 58 #[.val (.ref r0), .val (.ref r1), .val (.int (0 : Int32)), .val (.long (own_H f i)), .second, .val (.long (own_L f i)), .second, .val (.int (Int32.ofNat i)), .unset] [(.int (f i)), (.long ((own_L f i) <<< ((8 : Int32) &&& 0x3f).toInt64))])) _
          refine XS.sipush X263.here hx rfl (hb hby own_d4_58) ?_
          show Steps p.tables e below (T263.setTop (mkF m 61 #[.val (.ref r0), .val (.ref r1), .val (.int (0 : Int32)), .val (.long (own_H f i)), .second, .val (.long (own_L f i)), .second, .val (.int (Int32.ofNat i)), .unset] [(.int (255 : Int32)), (.int (f i)), (.long ((own_L f i) <<< ((8 : Int32) &&& 0x3f).toInt64))])) _
          refine XS.iand X263.here hx rfl (hb hby own_d4_61) rfl ?_
          show Steps p.tables e below (T263.setTop (mkF m 62 #[.val (.ref r0), .val (.ref r1), .val (.int (0 : Int32)), .val (.long (own_H f i)), .second, .val (.long (own_L f i)), .second, .val (.int (Int32.ofNat i)), .unset] [(.int ((f i) &&& (255 : Int32))), (.long ((own_L f i) <<< ((8 : Int32) &&& 0x3f).toInt64))])) _
          refine XS.i2l X263.here hx rfl (hb hby own_d4_62) rfl ?_
          show Steps p.tables e below (T263.setTop (mkF m 63 #[.val (.ref r0), .val (.ref r1), .val (.int (0 : Int32)), .val (.long (own_H f i)), .second, .val (.long (own_L f i)), .second, .val (.int (Int32.ofNat i)), .unset] [(.long (((f i) &&& (255 : Int32)).toInt64)), (.long ((own_L f i) <<< ((8 : Int32) &&& 0x3f).toInt64))])) _
          refine XS.lor X263.here hx rfl (hb hby own_d4_63) rfl ?_
          show Steps p.tables e below (T263.setTop (mkF m 64 #[.val (.ref r0), .val (.ref r1), .val (.int (0 : Int32)), .val (.long (own_H f i)), .second, .val (.long (own_L f i)), .second, .val (.int (Int32.ofNat i)), .unset] [(.long (((own_L f i) <<< ((8 : Int32) &&& 0x3f).toInt64) ||| (((f i) &&& (255 : Int32)).toInt64)))])) _
          refine XS.lstore X263.here hx rfl (hb hby own_d4_64) rfl (l' := #[.val (.ref r0), .val (.ref r1), .val (.int (0 : Int32)), .val (.long (own_H f i)), .second, .val (.long (((own_L f i) <<< ((8 : Int32) &&& 0x3f).toInt64) ||| (((f i) &&& (255 : Int32)).toInt64))), .second, .val (.int (Int32.ofNat i)), .unset]) rfl ?_
          show Steps p.tables e below (T263.setTop (mkF m 66 #[.val (.ref r0), .val (.ref r1), .val (.int (0 : Int32)), .val (.long (own_H f i)), .second, .val (.long (((own_L f i) <<< ((8 : Int32) &&& 0x3f).toInt64) ||| (((f i) &&& (255 : Int32)).toInt64))), .second, .val (.int (Int32.ofNat i)), .unset] [])) _
          refine XS.iinc X263.here hx rfl (hb hby own_d4_66) rfl (l' := #[.val (.ref r0), .val (.ref r1), .val (.int (0 : Int32)), .val (.long (own_H f i)), .second, .val (.long (((own_L f i) <<< ((8 : Int32) &&& 0x3f).toInt64) ||| (((f i) &&& (255 : Int32)).toInt64))), .second, .val (.int ((Int32.ofNat i) + (1 : Int32))), .unset]) rfl ?_
          show Steps p.tables e below (T263.setTop (mkF m 69 #[.val (.ref r0), .val (.ref r1), .val (.int (0 : Int32)), .val (.long (own_H f i)), .second, .val (.long (((own_L f i) <<< ((8 : Int32) &&& 0x3f).toInt64) ||| (((f i) &&& (255 : Int32)).toInt64))), .second, .val (.int ((Int32.ofNat i) + (1 : Int32))), .unset] [])) _
          refine XS.goto X263.here hx rfl (pc0 := 69) (pc' := 8) rfl (hb hby own_d4_69) (by decide) (by decide) ?_
          exact h
        have r266 : ((Int32.ofNat i) + (1 : Int32)) = (Int32.ofNat (i + 1)) := own_inc i
        have k267 : ∀ t, Steps p.tables e below (T263.setTop (mkF m 8 #[.val (.ref r0), .val (.ref r1), .val (.int (0 : Int32)), .val (.long (own_H f i)), .second, .val (.long (((own_L f i) <<< ((8 : Int32) &&& 0x3f).toInt64) ||| (((f i) &&& (255 : Int32)).toInt64))), .second, .val (.int (Int32.ofNat (i + 1))), .unset] [])) t → Steps p.tables e below (T.setTop (mkF m 8 #[.val (.ref r0), .val (.ref r1), .val (.int (0 : Int32)), .val (.long (own_H f i)), .second, .val (.long (own_L f i)), .second, .val (.int (Int32.ofNat i)), .unset] [])) t := by first | (rw [← r266]; exact k265) | exact k265
        have r268 : (own_H f i) = own_H f (i + 1) := by rw [own_H, if_neg c22_253]
        have r269 : (((own_L f i) <<< ((8 : Int32) &&& 0x3f).toInt64) ||| (((f i) &&& (255 : Int32)).toInt64)) = own_L f (i + 1) := by rw [own_L, if_neg c22_253]
        have k270 : ∀ t, Steps p.tables e below (T263.setTop (mkF m 8 #[.val (.ref r0), .val (.ref r1), .val (.int (0 : Int32)), .val (.long (own_H f (i + 1))), .second, .val (.long (own_L f (i + 1))), .second, .val (.int (Int32.ofNat (i + 1))), .unset] [])) t → Steps p.tables e below (T.setTop (mkF m 8 #[.val (.ref r0), .val (.ref r1), .val (.int (0 : Int32)), .val (.long (own_H f i)), .second, .val (.long (own_L f i)), .second, .val (.int (Int32.ofNat i)), .unset] [])) t := by rw [← r268, ← r269]; exact k267
        obtain ⟨T271, h271, L271, X271, e271, N271, Z271, K271, f271_0, f271_1, f271_2, f271_3, f271_4, f271_5, f271_6, k271⟩ := ih (i + 1) (by omega)  T263 _ _ X263 e263 hN hZZ hK (hf0) (hf1) (hf2) (hf3) (hf4) (hf5) (hf6)
        exact ⟨T271, h271, L271, X271, e271, N271, Z271, K271, f271_0, f271_1, f271_2, f271_3, f271_4, f271_5, f271_6, fun t q => k270 t (k271 t q)⟩
  obtain ⟨T272, h272, L272, X272, e272, N272, Z272, K272, f272_0, f272_1, f272_2, f272_3, f272_4, f272_5, f272_6, k272⟩ := lp242 (4) 0 (by first | rfl | omega)  s₁ _ _ X0 e0 N0 Z0 K0 (F1) (A1) (E1) (F2) (F3) (F4) (A2)
  have k273 : ∀ t, Steps p.tables e below (T272.setTop (mkF m 72 #[.val (.ref r0), .val (.ref r1), .val (.int (0 : Int32)), .val (.long (own_H f (4))), .second, .val (.long (own_L f (4))), .second, .val (.int (Int32.ofNat (4))), .unset] [])) t → Steps p.tables e below (s₁.setTop (mkF m 0 #[.val (.ref r0), .val (.ref r1), .val (.int (0 : Int32)), .unset, .unset, .unset, .unset, .unset, .unset] [])) t := fun t q => k241 t (k272 t q)
  obtain ⟨T274, X274, e274, st274⟩ := getF X272 hx hZ hown (host := "") (Or.inl (hw _ (List.mem_of_getElem? (i := 20) rfl))) Via.refl e272 f272_3 (g := (mkF m 73 #[.val (.ref r0), .val (.ref r1), .val (.int (0 : Int32)), .val (.long (own_H f (4))), .second, .val (.long (own_L f (4))), .second, .val (.int (Int32.ofNat (4))), .unset] [(.ref r0)])) rfl rfl (hb hby own_d4_73)
  obtain ⟨T275, X275, e275, st275⟩ := getF X274 hx hZ hown (host := "") (Or.inl (hw _ (List.mem_of_getElem? (i := 22) rfl))) Via.refl e274 f272_4 (g := (mkF m 80 #[.val (.ref r0), .val (.ref r1), .val (.int (0 : Int32)), .val (.long (own_H f (4))), .second, .val (.long (own_L f (4))), .second, .val (.int (Int32.ofNat (4))), .unset] [(.ref r0), (.int ((own_len x) <<< ((16 : Int32) &&& 31)))])) rfl rfl (hb hby own_d4_80)
  obtain ⟨T276, X276, e276, st276⟩ := getF X275 hx hZ hown (host := "") (Or.inl (hw _ (List.mem_of_getElem? (i := 24) rfl))) Via.refl e275 f272_5 (g := (mkF m 88 #[.val (.ref r0), .val (.ref r1), .val (.int (0 : Int32)), .val (.long (own_H f (4))), .second, .val (.long (own_L f (4))), .second, .val (.int (Int32.ofNat (4))), .unset] [(.ref r0), (.int (((own_len x) <<< ((16 : Int32) &&& 31)) ||| ((own_lea x) <<< ((8 : Int32) &&& 31))))])) rfl rfl (hb hby own_d4_88)
  obtain ⟨cq277, kq277, q277a, q277b, q277c⟩ := isOf hZ e276 f272_2
  obtain ⟨_, _, ⟨T277, L277, k277, n277⟩, -, X277, ⟨Lc277, hQ277, l277, y277, z277⟩, st277⟩ := X276.virtualBack hx (y := (⟨"com/example/mynah/mynah/rpsl/PrefixRange", "isIpv6", "()Z"⟩ : MethodName)) (z := (⟨"com/example/mynah/mynah/rpsl/PrefixRange", "isIpv6", "()Z"⟩ : MethodName)) hown (mvT hZ (hw _ (List.mem_of_getElem? (i := 31) rfl))) (mvT hZ (hw _ (List.mem_of_getElem? (i := 32) rfl))) (notFace_of_selects (args := #[]) (mvT hZ (hw _ (List.mem_of_getElem? (i := 34) rfl)))) (mvT hZ (hw _ (List.mem_of_getElem? (i := 34) rfl))) (mvT hZ (hw _ (List.mem_of_getElem? (i := 33) rfl))) (by decide) (backOf (W := 0) (rmV l Z a0 hw [] r0 ba 4 f h272 n0 Z272 f272_0 f272_1) hZ (hw _ (List.mem_of_getElem? (i := 35) rfl)) (hw _ (List.mem_of_getElem? (i := 6) rfl)) (by decide) (by decide)) q277a q277c (g := (mkF m 96 #[.val (.ref r0), .val (.ref r1), .val (.int (0 : Int32)), .val (.long (own_H f (4))), .second, .val (.long (own_L f (4))), .second, .val (.long (((((own_len x) <<< ((16 : Int32) &&& 31)) ||| ((own_lea x) <<< ((8 : Int32) &&& 31))) ||| (own_mos x)).toInt64)), .second] [(.ref r0)])) rfl (by rw [hml]; rfl) (Steps.refl _) (argsL := []) (rest := []) (lenOf own_pd_1 rfl) rfl (by show 2 * 0 + _ ≤ _; exact Nat.le_of_eq rfl) (hb hby own_d4_96) (fun _ _ => ⟨rfl, e276, (by decide : 0 + 0 ≤ _), (by decide : 0 + 0 ≤ _)⟩)
  dsimp only [Pt.U, Pt.locs, Pt.cells, Pt.slots] at X277 l277 y277 z277 st277 hQ277
  subst l277 y277 z277
  obtain ⟨rfl, Nq277, eq277⟩ := hQ277
  have N277 := Fr.app N272 Nq277
  have k278 : ∀ t, Steps p.tables e below (T277.setTop (mkF m 99 #[.val (.ref r0), .val (.ref r1), .val (.int (0 : Int32)), .val (.long (own_H f (4))), .second, .val (.long (own_L f (4))), .second, .val (.long (((((own_len x) <<< ((16 : Int32) &&& 31)) ||| ((own_lea x) <<< ((8 : Int32) &&& 31))) ||| (own_mos x)).toInt64)), .second] [(.int (own_is 4))])) t → Steps p.tables e below (s₁.setTop (mkF m 0 #[.val (.ref r0), .val (.ref r1), .val (.int (0 : Int32)), .unset, .unset, .unset, .unset, .unset, .unset] [])) t := by
    intro t h
    refine k273 t ?_
    show Steps p.tables e below (T272.setTop (mkF m 72 #[.val (.ref r0), .val (.ref r1), .val (.int (0 : Int32)), .val (.long (own_H f (4))), .second, .val (.long (own_L f (4))), .second, .val (.int (Int32.ofNat (4))), .unset] [])) _
    refine XS.aloadN X272.here hx rfl (hb hby own_d4_72) rfl rfl ?_
    show Steps p.tables e below (T272.setTop (mkF m 73 #[.val (.ref r0), .val (.ref r1), .val (.int (0 : Int32)), .val (.long (own_H f (4))), .second, .val (.long (own_L f (4))), .second, .val (.int (Int32.ofNat (4))), .unset] [(.ref r0)])) _
    refine st274 _ ?_
    show Steps p.tables e below (T274.setTop (mkF m 76 #[.val (.ref r0), .val (.ref r1), .val (.int (0 : Int32)), .val (.long (own_H f (4))), .second, .val (.long (own_L f (4))), .second, .val (.int (Int32.ofNat (4))), .unset] [(.int (own_len x))])) _
    refine XS.bipush X274.here hx rfl (hb hby own_d4_76) ?_
    show Steps p.tables e below (T274.setTop (mkF m 78 #[.val (.ref r0), .val (.ref r1), .val (.int (0 : Int32)), .val (.long (own_H f (4))), .second, .val (.long (own_L f (4))), .second, .val (.int (Int32.ofNat (4))), .unset] [(.int (16 : Int32)), (.int (own_len x))])) _
    refine XS.ishl X274.here hx rfl (hb hby own_d4_78) rfl ?_
    show Steps p.tables e below (T274.setTop (mkF m 79 #[.val (.ref r0), .val (.ref r1), .val (.int (0 : Int32)), .val (.long (own_H f (4))), .second, .val (.long (own_L f (4))), .second, .val (.int (Int32.ofNat (4))), .unset] [(.int ((own_len x) <<< ((16 : Int32) &&& 31)))])) _
    refine XS.aloadN X274.here hx rfl (hb hby own_d4_79) rfl rfl ?_
    show Steps p.tables e below (T274.setTop (mkF m 80 #[.val (.ref r0), .val (.ref r1), .val (.int (0 : Int32)), .val (.long (own_H f (4))), .second, .val (.long (own_L f (4))), .second, .val (.int (Int32.ofNat (4))), .unset] [(.ref r0), (.int ((own_len x) <<< ((16 : Int32) &&& 31)))])) _
    refine st275 _ ?_
    show Steps p.tables e below (T275.setTop (mkF m 83 #[.val (.ref r0), .val (.ref r1), .val (.int (0 : Int32)), .val (.long (own_H f (4))), .second, .val (.long (own_L f (4))), .second, .val (.int (Int32.ofNat (4))), .unset] [(.int (own_lea x)), (.int ((own_len x) <<< ((16 : Int32) &&& 31)))])) _
    refine XS.bipush X275.here hx rfl (hb hby own_d4_83) ?_
    show Steps p.tables e below (T275.setTop (mkF m 85 #[.val (.ref r0), .val (.ref r1), .val (.int (0 : Int32)), .val (.long (own_H f (4))), .second, .val (.long (own_L f (4))), .second, .val (.int (Int32.ofNat (4))), .unset] [(.int (8 : Int32)), (.int (own_lea x)), (.int ((own_len x) <<< ((16 : Int32) &&& 31)))])) _
    refine XS.ishl X275.here hx rfl (hb hby own_d4_85) rfl ?_
    show Steps p.tables e below (T275.setTop (mkF m 86 #[.val (.ref r0), .val (.ref r1), .val (.int (0 : Int32)), .val (.long (own_H f (4))), .second, .val (.long (own_L f (4))), .second, .val (.int (Int32.ofNat (4))), .unset] [(.int ((own_lea x) <<< ((8 : Int32) &&& 31))), (.int ((own_len x) <<< ((16 : Int32) &&& 31)))])) _
    refine XS.ior X275.here hx rfl (hb hby own_d4_86) rfl ?_
    show Steps p.tables e below (T275.setTop (mkF m 87 #[.val (.ref r0), .val (.ref r1), .val (.int (0 : Int32)), .val (.long (own_H f (4))), .second, .val (.long (own_L f (4))), .second, .val (.int (Int32.ofNat (4))), .unset] [(.int (((own_len x) <<< ((16 : Int32) &&& 31)) ||| ((own_lea x) <<< ((8 : Int32) &&& 31))))])) _
    refine XS.aloadN X275.here hx rfl (hb hby own_d4_87) rfl rfl ?_
    show Steps p.tables e below (T275.setTop (mkF m 88 #[.val (.ref r0), .val (.ref r1), .val (.int (0 : Int32)), .val (.long (own_H f (4))), .second, .val (.long (own_L f (4))), .second, .val (.int (Int32.ofNat (4))), .unset] [(.ref r0), (.int (((own_len x) <<< ((16 : Int32) &&& 31)) ||| ((own_lea x) <<< ((8 : Int32) &&& 31))))])) _
    refine st276 _ ?_
    show Steps p.tables e below (T276.setTop (mkF m 91 #[.val (.ref r0), .val (.ref r1), .val (.int (0 : Int32)), .val (.long (own_H f (4))), .second, .val (.long (own_L f (4))), .second, .val (.int (Int32.ofNat (4))), .unset] [(.int (own_mos x)), (.int (((own_len x) <<< ((16 : Int32) &&& 31)) ||| ((own_lea x) <<< ((8 : Int32) &&& 31))))])) _
    refine XS.ior X276.here hx rfl (hb hby own_d4_91) rfl ?_
    show Steps p.tables e below (T276.setTop (mkF m 92 #[.val (.ref r0), .val (.ref r1), .val (.int (0 : Int32)), .val (.long (own_H f (4))), .second, .val (.long (own_L f (4))), .second, .val (.int (Int32.ofNat (4))), .unset] [(.int ((((own_len x) <<< ((16 : Int32) &&& 31)) ||| ((own_lea x) <<< ((8 : Int32) &&& 31))) ||| (own_mos x)))])) _
    refine XS.i2l X276.here hx rfl (hb hby own_d4_92) rfl ?_
    show Steps p.tables e below (T276.setTop (mkF m 93 #[.val (.ref r0), .val (.ref r1), .val (.int (0 : Int32)), .val (.long (own_H f (4))), .second, .val (.long (own_L f (4))), .second, .val (.int (Int32.ofNat (4))), .unset] [(.long (((((own_len x) <<< ((16 : Int32) &&& 31)) ||| ((own_lea x) <<< ((8 : Int32) &&& 31))) ||| (own_mos x)).toInt64))])) _
    refine XS.lstore X276.here hx rfl (hb hby own_d4_93) rfl (l' := #[.val (.ref r0), .val (.ref r1), .val (.int (0 : Int32)), .val (.long (own_H f (4))), .second, .val (.long (own_L f (4))), .second, .val (.long (((((own_len x) <<< ((16 : Int32) &&& 31)) ||| ((own_lea x) <<< ((8 : Int32) &&& 31))) ||| (own_mos x)).toInt64)), .second]) rfl ?_
    show Steps p.tables e below (T276.setTop (mkF m 95 #[.val (.ref r0), .val (.ref r1), .val (.int (0 : Int32)), .val (.long (own_H f (4))), .second, .val (.long (own_L f (4))), .second, .val (.long (((((own_len x) <<< ((16 : Int32) &&& 31)) ||| ((own_lea x) <<< ((8 : Int32) &&& 31))) ||| (own_mos x)).toInt64)), .second] [])) _
    refine XS.aloadN X276.here hx rfl (hb hby own_d4_95) rfl rfl ?_
    show Steps p.tables e below (T276.setTop (mkF m 96 #[.val (.ref r0), .val (.ref r1), .val (.int (0 : Int32)), .val (.long (own_H f (4))), .second, .val (.long (own_L f (4))), .second, .val (.long (((((own_len x) <<< ((16 : Int32) &&& 31)) ||| ((own_lea x) <<< ((8 : Int32) &&& 31))) ||| (own_mos x)).toInt64)), .second] [(.ref r0)])) _
    refine st277.trans ?_
    exact h
  have b99_279 : (own_is 4) = (0 : Int32) := by decide
  obtain ⟨cl280, Ar280, hin280, hat280⟩ := own_LA.at (i := 0) (j := (0 : Int32)) f272_6 rfl (by decide) (by decide)
  obtain ⟨T280, h280, X280, e280, W280, st280⟩ := stJ X277 hx hZ eq277 Ar280 (j := (0 : Int32)) hin280 (g := (mkF m 153 #[.val (.ref r0), .val (.ref r1), .val (.int (0 : Int32)), .val (.long (own_H f (4))), .second, .val (.long (own_L f (4))), .second, .val (.long (((((own_len x) <<< ((16 : Int32) &&& 31)) ||| ((own_lea x) <<< ((8 : Int32) &&& 31))) ||| (own_mos x)).toInt64)), .second] [(.long (((own_H f (4)) <<< ((31 : Int32) &&& 0x3f).toInt64) ||| (((((own_len x) <<< ((16 : Int32) &&& 31)) ||| ((own_lea x) <<< ((8 : Int32) &&& 31))) ||| (own_mos x)).toInt64))), (.int (0 : Int32)), (.ref r1)])) rfl rfl (hb hby own_d4_153)
  have V280 := own_LA.set f272_6 W280 rfl (by decide) (by decide)
  have f281 := f272_0.other W280 (Or.inl ne1)
  have f282 := f272_1.other W280 ne2
  have f283 := f272_2.wr W280
  have f284 := f272_3.other W280 (Or.inl ne1)
  have f285 := f272_4.other W280 (Or.inl ne1)
  have f286 := f272_5.other W280 (Or.inl ne1)
  have Z287 : n0 ≤ h280.size := Nat.le_trans Z272 (Keep.of_wr W280).1
  have K288 := K272.wr W280 (Or.inl (List.mem_of_getElem? (i := 0) rfl))
  have N280 := Fr.snoc X280 N277 g_r1
  have k289 : ∀ t, Steps p.tables e below (T280.setTop (mkF m 154 #[.val (.ref r0), .val (.ref r1), .val (.int (0 : Int32)), .val (.long (own_H f (4))), .second, .val (.long (own_L f (4))), .second, .val (.long (((((own_len x) <<< ((16 : Int32) &&& 31)) ||| ((own_lea x) <<< ((8 : Int32) &&& 31))) ||| (own_mos x)).toInt64)), .second] [])) t → Steps p.tables e below (s₁.setTop (mkF m 0 #[.val (.ref r0), .val (.ref r1), .val (.int (0 : Int32)), .unset, .unset, .unset, .unset, .unset, .unset] [])) t := by
    intro t h
    refine k278 t ?_
    show Steps p.tables e below (T277.setTop (mkF m 99 #[.val (.ref r0), .val (.ref r1), .val (.int (0 : Int32)), .val (.long (own_H f (4))), .second, .val (.long (own_L f (4))), .second, .val (.long (((((own_len x) <<< ((16 : Int32) &&& 31)) ||| ((own_lea x) <<< ((8 : Int32) &&& 31))) ||| (own_mos x)).toInt64)), .second] [(.int (own_is 4))])) _
    refine XS.ifYes X277.here hx rfl (pc0 := 99) (pc' := 144) rfl (hb hby own_d4_99) rfl ((if0 _ _).trans (teq b99_279).1) (by decide) (by decide) ?_
    show Steps p.tables e below (T277.setTop (mkF m 144 #[.val (.ref r0), .val (.ref r1), .val (.int (0 : Int32)), .val (.long (own_H f (4))), .second, .val (.long (own_L f (4))), .second, .val (.long (((((own_len x) <<< ((16 : Int32) &&& 31)) ||| ((own_lea x) <<< ((8 : Int32) &&& 31))) ||| (own_mos x)).toInt64)), .second] [])) _
    refine XS.aloadN X277.here hx rfl (hb hby own_d4_144) rfl rfl ?_
    show Steps p.tables e below (T277.setTop (mkF m 145 #[.val (.ref r0), .val (.ref r1), .val (.int (0 : Int32)), .val (.long (own_H f (4))), .second, .val (.long (own_L f (4))), .second, .val (.long (((((own_len x) <<< ((16 : Int32) &&& 31)) ||| ((own_lea x) <<< ((8 : Int32) &&& 31))) ||| (own_mos x)).toInt64)), .second] [(.ref r1)])) _
    refine XS.iloadN X277.here hx rfl (hb hby own_d4_145) rfl ?_
    show Steps p.tables e below (T277.setTop (mkF m 146 #[.val (.ref r0), .val (.ref r1), .val (.int (0 : Int32)), .val (.long (own_H f (4))), .second, .val (.long (own_L f (4))), .second, .val (.long (((((own_len x) <<< ((16 : Int32) &&& 31)) ||| ((own_lea x) <<< ((8 : Int32) &&& 31))) ||| (own_mos x)).toInt64)), .second] [(.int (0 : Int32)), (.ref r1)])) _
    refine XS.lloadN X277.here hx rfl (hb hby own_d4_146) rfl ?_
    show Steps p.tables e below (T277.setTop (mkF m 147 #[.val (.ref r0), .val (.ref r1), .val (.int (0 : Int32)), .val (.long (own_H f (4))), .second, .val (.long (own_L f (4))), .second, .val (.long (((((own_len x) <<< ((16 : Int32) &&& 31)) ||| ((own_lea x) <<< ((8 : Int32) &&& 31))) ||| (own_mos x)).toInt64)), .second] [(.long (own_H f (4))), (.int (0 : Int32)), (.ref r1)])) _
    refine XS.bipush X277.here hx rfl (hb hby own_d4_147) ?_
    show Steps p.tables e below (T277.setTop (mkF m 149 #[.val (.ref r0), .val (.ref r1), .val (.int (0 : Int32)), .val (.long (own_H f (4))), .second, .val (.long (own_L f (4))), .second, .val (.long (((((own_len x) <<< ((16 : Int32) &&& 31)) ||| ((own_lea x) <<< ((8 : Int32) &&& 31))) ||| (own_mos x)).toInt64)), .second] [(.int (31 : Int32)), (.long (own_H f (4))), (.int (0 : Int32)), (.ref r1)])) _
    refine XS.lshl X277.here hx rfl (hb hby own_d4_149) rfl ?_
    show Steps p.tables e below (T277.setTop (mkF m 150 #[.val (.ref r0), .val (.ref r1), .val (.int (0 : Int32)), .val (.long (own_H f (4))), .second, .val (.long (own_L f (4))), .second, .val (.long (((((own_len x) <<< ((16 : Int32) &&& 31)) ||| ((own_lea x) <<< ((8 : Int32) &&& 31))) ||| (own_mos x)).toInt64)), .second] [(.long ((own_H f (4)) <<< ((31 : Int32) &&& 0x3f).toInt64)), (.int (0 : Int32)), (.ref r1)])) _
    refine XS.lload X277.here hx rfl (hb hby own_d4_150) rfl ?_
    show Steps p.tables e below (T277.setTop (mkF m 152 #[.val (.ref r0), .val (.ref r1), .val (.int (0 : Int32)), .val (.long (own_H f (4))), .second, .val (.long (own_L f (4))), .second, .val (.long (((((own_len x) <<< ((16 : Int32) &&& 31)) ||| ((own_lea x) <<< ((8 : Int32) &&& 31))) ||| (own_mos x)).toInt64)), .second] [(.long (((((own_len x) <<< ((16 : Int32) &&& 31)) ||| ((own_lea x) <<< ((8 : Int32) &&& 31))) ||| (own_mos x)).toInt64)), (.long ((own_H f (4)) <<< ((31 : Int32) &&& 0x3f).toInt64)), (.int (0 : Int32)), (.ref r1)])) _
    refine XS.lor X277.here hx rfl (hb hby own_d4_152) rfl ?_
    show Steps p.tables e below (T277.setTop (mkF m 153 #[.val (.ref r0), .val (.ref r1), .val (.int (0 : Int32)), .val (.long (own_H f (4))), .second, .val (.long (own_L f (4))), .second, .val (.long (((((own_len x) <<< ((16 : Int32) &&& 31)) ||| ((own_lea x) <<< ((8 : Int32) &&& 31))) ||| (own_mos x)).toInt64)), .second] [(.long (((own_H f (4)) <<< ((31 : Int32) &&& 0x3f).toInt64) ||| (((((own_len x) <<< ((16 : Int32) &&& 31)) ||| ((own_lea x) <<< ((8 : Int32) &&& 31))) ||| (own_mos x)).toInt64))), (.int (0 : Int32)), (.ref r1)])) _
    refine st280 _ ?_
    exact h
  obtain ⟨fs, hr, hrun, hended, hW, hsame⟩ := X280.leave (v := none) (fun _ => rfl) Bd.notSynchronized
  refine ⟨_, _, pre0 _ (k289 _ ?_), hrun, hended, _, _, rfl, ?_, ⟨_, rfl⟩, hW, hsame.mono (by decide) (by decide)⟩
  · exact X280.returnOut hx Bd.returns (hb hby own_d4_154) hr
  · show Q_rmW4 Z _ _ _ _ _ _ _ h0 n0 _ T280.heap _
    rw [e280]
    exact ⟨rfl, N280, K288, V280⟩
def Q_rm0 (Z : State) (q0 : Int64) (q1 : Int64) (q2 : Int64) (q3 : Int64) (p4 : Int32) (h0 : Heap) (n0 : Nat) (v : Option Value) (h : Heap) (L : List Loc) : Prop := v = some (.int 1) ∧ Fr n0 L
set_option maxRecDepth 65536 in
set_option maxHeartbeats 40000000 in
theorem rm0 (l : Launch) (Z : State) (a0 : Array Value) (hw : ∀ d ∈ tables_1, d.before a0 Z = true) (ws : List Jvm.Cond) (q0 : Int64) (q1 : Int64) (q2 : Int64) (q3 : Int64) (p4 : Int32) (h0 : Heap) (n0 : Nat) (Z0 : n0 ≤ h0.size) :
    MetFree l x (head1 (Jvm.Cond.code x code maxLocals ret :: ws) room_1) (fun a U => a = #[(.long q0), (.long q1), (.long q2), (.long q3), (.int p4)] ∧ Z.Warmed39 U.vm ∧ U.heap = h0) (fun _ _ _ _ _ => True) (fun _ U o U' => ∃ v L, o = .returned v ∧ Q_rm0 Z q0 q1 q2 q3 p4 h0 n0 v U'.heap L ∧ FrameEnd U o U' L 4 28) := by
  refine MetFree.of_bodySF (plainFor_of_name own_pn_1) hisR ?_
  intro p e s m args below meth c s₁ Bd hml0 hP hK
  obtain ⟨rfl, hZ, hh⟩ := hP
  have hx := Bd.exec
  have hby := Bd.bytes
  have hml : c.maxLocals = 23 := hml0
  have hown : s.vm.findClass "com/example/mynah/mynah/rpsl/PrefixRangeOfKeyPinLaw" = some m.cls := findClass_of_methodNamed Bd.named
  have hnm := (name_of_methodNamed Bd.named Bd.method).1
  have X0 : Stand p l e room_1 s m #[(.long q0), (.long q1), (.long q2), (.long q3), (.int p4)] below meth c s₁ [] 0 0 := Stand.of_body Bd
  have e0 : s₁.heap = h0 := by rw [← hh, Bd.state]; rfl
  have N0 := Fr.nil n0
  have K0 : Keep h0 h0 [] := Keep.refl h0 _
  have pre0 : ∀ t, Steps p.tables e below (s₁.setTop (mkF m 0 #[.val (.long q0), .second, .val (.long q1), .second, .val (.long q2), .second, .val (.long q3), .second, .val (.int p4), .unset, .unset, .unset, .unset, .unset, .unset, .unset, .unset, .unset, .unset, .unset, .unset, .unset, .unset] [])) t → Steps p.tables e below (s₁.setTop (entryFrame m #[(.long q0), (.long q1), (.long q2), (.long q3), (.int p4)] maxLocals)) t := fun t k => castTop (own_ef_4 m q0 q1 q2 q3 p4) k
  have k290 : ∀ t, Steps p.tables e below (s₁.setTop (mkF m 3 #[.val (.long q0), .second, .val (.long q1), .second, .val (.long q2), .second, .val (.long q3), .second, .val (.int p4), .unset, .unset, .unset, .unset, .unset, .unset, .unset, .unset, .unset, .unset, .unset, .unset, .unset, .unset] [(.int (lcmpW q0 (0 : Int64)))])) t → Steps p.tables e below (s₁.setTop (mkF m 0 #[.val (.long q0), .second, .val (.long q1), .second, .val (.long q2), .second, .val (.long q3), .second, .val (.int p4), .unset, .unset, .unset, .unset, .unset, .unset, .unset, .unset, .unset, .unset, .unset, .unset, .unset, .unset] [])) t := by
    intro t h
    refine XS.lloadN X0.here hx rfl (hb hby at_0) rfl ?_
    refine XS.lconst X0.here hx rfl (hb hby at_1) ?_
    refine XS.lcmp X0.here hx rfl (hb hby at_2) rfl ?_
    exact h
  by_cases c3_291 : (lcmpW q0 (0 : Int64)) < (0 : Int32)
  · skip
    obtain ⟨n, hn, en⟩ := own_modn p4 3 3 rfl (by decide)
    have k292 : ∀ t, Steps p.tables e below (s₁.setTop (mkF m 22 #[.val (.long q0), .second, .val (.long q1), .second, .val (.long q2), .second, .val (.long q3), .second, .val (.int p4), .val (.int (1 : Int32)), .val (.int ((p4 &&& (2147483647 : Int32)) % (3 : Int32))), .unset, .unset, .unset, .unset, .unset, .unset, .unset, .unset, .unset, .unset, .unset, .unset] [])) t → Steps p.tables e below (s₁.setTop (mkF m 0 #[.val (.long q0), .second, .val (.long q1), .second, .val (.long q2), .second, .val (.long q3), .second, .val (.int p4), .unset, .unset, .unset, .unset, .unset, .unset, .unset, .unset, .unset, .unset, .unset, .unset, .unset, .unset] [])) t := by
      intro t h
      refine k290 t ?_
      show Steps p.tables e below (s₁.setTop (mkF m 3 #[.val (.long q0), .second, .val (.long q1), .second, .val (.long q2), .second, .val (.long q3), .second, .val (.int p4), .unset, .unset, .unset, .unset, .unset, .unset, .unset, .unset, .unset, .unset, .unset, .unset, .unset, .unset] [(.int (lcmpW q0 (0 : Int64)))])) _
      refine XS.ifNo X0.here hx rfl (hb hby at_3) rfl ((if0 _ _).trans (tlt c3_291).2.1) ?_
      refine XS.iconst X0.here hx rfl (hb hby at_6) ?_
      refine XS.goto X0.here hx rfl (pc0 := 7) (pc' := 11) rfl (hb hby at_7) (by decide) (by decide) ?_
      refine XS.istore X0.here hx rfl (hb hby at_11) rfl (l' := #[.val (.long q0), .second, .val (.long q1), .second, .val (.long q2), .second, .val (.long q3), .second, .val (.int p4), .val (.int (1 : Int32)), .unset, .unset, .unset, .unset, .unset, .unset, .unset, .unset, .unset, .unset, .unset, .unset, .unset]) rfl ?_
      refine XS.iload X0.here hx rfl (hb hby at_13) rfl ?_
      refine X0.ldcInt hx hown (mvT hZ (hw _ (List.mem_of_getElem? (i := 0) rfl))) (g := (mkF m 15 #[.val (.long q0), .second, .val (.long q1), .second, .val (.long q2), .second, .val (.long q3), .second, .val (.int p4), .val (.int (1 : Int32)), .unset, .unset, .unset, .unset, .unset, .unset, .unset, .unset, .unset, .unset, .unset, .unset, .unset] [(.int p4)])) rfl (hb hby at_15) _ ?_
      refine XS.iand X0.here hx rfl (hb hby at_17) rfl ?_
      refine XS.iconst X0.here hx rfl (hb hby at_18) ?_
      refine iremM (g := (mkF m 19 #[.val (.long q0), .second, .val (.long q1), .second, .val (.long q2), .second, .val (.long q3), .second, .val (.int p4), .val (.int (1 : Int32)), .unset, .unset, .unset, .unset, .unset, .unset, .unset, .unset, .unset, .unset, .unset, .unset, .unset] [(.int (3 : Int32)), (.int (p4 &&& (2147483647 : Int32)))])) X0 hx rfl (hb hby at_19) rfl (by decide) ?_
      refine XS.istore X0.here hx rfl (hb hby at_20) rfl (l' := #[.val (.long q0), .second, .val (.long q1), .second, .val (.long q2), .second, .val (.long q3), .second, .val (.int p4), .val (.int (1 : Int32)), .val (.int ((p4 &&& (2147483647 : Int32)) % (3 : Int32))), .unset, .unset, .unset, .unset, .unset, .unset, .unset, .unset, .unset, .unset, .unset, .unset]) rfl ?_
      exact h
    have r293 : ((p4 &&& (2147483647 : Int32)) % (3 : Int32)) = (Int32.ofNat n) := en
    have k294 : ∀ t, Steps p.tables e below (s₁.setTop (mkF m 22 #[.val (.long q0), .second, .val (.long q1), .second, .val (.long q2), .second, .val (.long q3), .second, .val (.int p4), .val (.int (1 : Int32)), .val (.int (Int32.ofNat n)), .unset, .unset, .unset, .unset, .unset, .unset, .unset, .unset, .unset, .unset, .unset, .unset] [])) t → Steps p.tables e below (s₁.setTop (mkF m 0 #[.val (.long q0), .second, .val (.long q1), .second, .val (.long q2), .second, .val (.long q3), .second, .val (.int p4), .unset, .unset, .unset, .unset, .unset, .unset, .unset, .unset, .unset, .unset, .unset, .unset, .unset, .unset] [])) t := by first | (rw [← r293]; exact k292) | exact k292
    have k295 : ∀ t, Steps p.tables e below (s₁.setTop (mkF m 24 #[.val (.long q0), .second, .val (.long q1), .second, .val (.long q2), .second, .val (.long q3), .second, .val (.int p4), .val (.int (1 : Int32)), .val (.int (Int32.ofNat n)), .unset, .unset, .unset, .unset, .unset, .unset, .unset, .unset, .unset, .unset, .unset, .unset] [(.int (1 : Int32))])) t → Steps p.tables e below (s₁.setTop (mkF m 0 #[.val (.long q0), .second, .val (.long q1), .second, .val (.long q2), .second, .val (.long q3), .second, .val (.int p4), .unset, .unset, .unset, .unset, .unset, .unset, .unset, .unset, .unset, .unset, .unset, .unset, .unset, .unset] [])) t := by
      intro t h
      refine k294 t ?_
      refine XS.iload X0.here hx rfl (hb hby at_22) rfl ?_
      exact h
    obtain ⟨T296, h296, k296, X296, e296, E296, A296, st296⟩ := newP X0 hx hZ (hw _ (List.mem_of_getElem? (i := 3) rfl)) e0 (g := (mkF m 50 #[.val (.long q0), .second, .val (.long q1), .second, .val (.long q2), .second, .val (.long q3), .second, .val (.int p4), .val (.int (1 : Int32)), .val (.int (Int32.ofNat n)), .val (.long q0), .second, .val (.long q1), .second, .val (.long (q2 &&& (33554431 : Int64))), .second, .unset, .unset, .unset, .unset, .unset, .unset] [(.int (5 : Int32))])) rfl (hb hby at_50) rfl (by decide) (cap := 5) (by decide) (by decide) (by decide) (by decide)
    obtain ⟨b296, g296⟩ : ∃ z, z = h0.size := ⟨_, rfl⟩
    rw [← g296] at A296 st296
    have g_b296 : n0 ≤ b296 := Nat.le_trans Z0 (Nat.le_of_eq g296.symm)
    have sz_b296 : h0.size ≤ b296 := Nat.le_trans K0.1 (Nat.le_of_eq g296.symm)
    have Z297 : n0 ≤ h296.size := Nat.le_trans Z0 E296.1
    have K298 := K0.ext E296
    have V296 : own_LA Z h296 b296 5 (fun _ => 0) := own_LA.new A296 rfl
    obtain ⟨cl299, Ar299, hin299, hat299⟩ := own_LA.at (i := 0) (j := (0 : Int32)) V296 rfl (by decide) (by decide)
    obtain ⟨T299, h299, X299, e299, W299, st299⟩ := stJ X296 hx hZ e296 Ar299 (j := (0 : Int32)) hin299 (g := (mkF m 56 #[.val (.long q0), .second, .val (.long q1), .second, .val (.long q2), .second, .val (.long q3), .second, .val (.int p4), .val (.int (1 : Int32)), .val (.int (Int32.ofNat n)), .val (.long q0), .second, .val (.long q1), .second, .val (.long (q2 &&& (33554431 : Int64))), .second, .unset, .unset, .unset, .unset, .unset, .unset] [(.long q3), (.int (0 : Int32)), (.ref b296), (.ref b296)])) rfl rfl (hb hby at_56)
    have V299 := own_LA.set V296 W299 rfl (by decide) (by decide)
    have Z300 : n0 ≤ h299.size := Nat.le_trans Z297 (Keep.of_wr W299).1
    have K301 := K298.wr W299 (Or.inr sz_b296)
    have N299 := Fr.snoc X299 N0 g_b296
    obtain ⟨cl302, Ar302, hin302, hat302⟩ := own_LA.at (i := 1) (j := (1 : Int32)) V299 rfl (by decide) (by decide)
    obtain ⟨T302, h302, X302, e302, W302, st302⟩ := stJ X299 hx hZ e299 Ar302 (j := (1 : Int32)) hin302 (g := (mkF m 61 #[.val (.long q0), .second, .val (.long q1), .second, .val (.long q2), .second, .val (.long q3), .second, .val (.int p4), .val (.int (1 : Int32)), .val (.int (Int32.ofNat n)), .val (.long q0), .second, .val (.long q1), .second, .val (.long (q2 &&& (33554431 : Int64))), .second, .unset, .unset, .unset, .unset, .unset, .unset] [(.long q3), (.int (1 : Int32)), (.ref b296), (.ref b296)])) rfl rfl (hb hby at_61)
    have V302 := own_LA.set V299 W302 rfl (by decide) (by decide)
    have Z303 : n0 ≤ h302.size := Nat.le_trans Z300 (Keep.of_wr W302).1
    have K304 := K301.wr W302 (Or.inr sz_b296)
    have N302 := Fr.snoc X302 N299 g_b296
    have k305 : ∀ t, Steps p.tables e below (T302.setTop (mkF m 63 #[.val (.long q0), .second, .val (.long q1), .second, .val (.long q2), .second, .val (.long q3), .second, .val (.int p4), .val (.int (1 : Int32)), .val (.int (Int32.ofNat n)), .val (.long q0), .second, .val (.long q1), .second, .val (.long (q2 &&& (33554431 : Int64))), .second, .unset, .unset, .unset, .unset, .unset, .unset] [(.ref b296), (.ref b296)])) t → Steps p.tables e below (s₁.setTop (mkF m 0 #[.val (.long q0), .second, .val (.long q1), .second, .val (.long q2), .second, .val (.long q3), .second, .val (.int p4), .unset, .unset, .unset, .unset, .unset, .unset, .unset, .unset, .unset, .unset, .unset, .unset, .unset, .unset] [])) t := by
      intro t h
      refine k295 t ?_
      show Steps p.tables e below (s₁.setTop (mkF m 24 #[.val (.long q0), .second, .val (.long q1), .second, .val (.long q2), .second, .val (.long q3), .second, .val (.int p4), .val (.int (1 : Int32)), .val (.int (Int32.ofNat n)), .unset, .unset, .unset, .unset, .unset, .unset, .unset, .unset, .unset, .unset, .unset, .unset] [(.int (1 : Int32))])) _
      refine XS.ifNo X0.here hx rfl (hb hby at_24) rfl ((if0 _ _).trans (feq (by decide : ¬ ((1 : Int32) = (0 : Int32)))).1) ?_
      refine XS.lloadN X0.here hx rfl (hb hby at_27) rfl ?_
      refine XS.goto X0.here hx rfl (pc0 := 28) (pc' := 36) rfl (hb hby at_28) (by decide) (by decide) ?_
      refine XS.lstore X0.here hx rfl (hb hby at_36) rfl (l' := #[.val (.long q0), .second, .val (.long q1), .second, .val (.long q2), .second, .val (.long q3), .second, .val (.int p4), .val (.int (1 : Int32)), .val (.int (Int32.ofNat n)), .val (.long q0), .second, .unset, .unset, .unset, .unset, .unset, .unset, .unset, .unset, .unset, .unset]) rfl ?_
      refine XS.lloadN X0.here hx rfl (hb hby at_38) rfl ?_
      refine XS.lstore X0.here hx rfl (hb hby at_39) rfl (l' := #[.val (.long q0), .second, .val (.long q1), .second, .val (.long q2), .second, .val (.long q3), .second, .val (.int p4), .val (.int (1 : Int32)), .val (.int (Int32.ofNat n)), .val (.long q0), .second, .val (.long q1), .second, .unset, .unset, .unset, .unset, .unset, .unset, .unset, .unset]) rfl ?_
      refine XS.lload X0.here hx rfl (hb hby at_41) rfl ?_
      refine X0.ldc2Long hx hown (mvT hZ (hw _ (List.mem_of_getElem? (i := 2) rfl))) (g := (mkF m 43 #[.val (.long q0), .second, .val (.long q1), .second, .val (.long q2), .second, .val (.long q3), .second, .val (.int p4), .val (.int (1 : Int32)), .val (.int (Int32.ofNat n)), .val (.long q0), .second, .val (.long q1), .second, .unset, .unset, .unset, .unset, .unset, .unset, .unset, .unset] [(.long q2)])) rfl (hb hby at_43) _ ?_
      refine XS.land X0.here hx rfl (hb hby at_46) rfl ?_
      refine XS.lstore X0.here hx rfl (hb hby at_47) rfl (l' := #[.val (.long q0), .second, .val (.long q1), .second, .val (.long q2), .second, .val (.long q3), .second, .val (.int p4), .val (.int (1 : Int32)), .val (.int (Int32.ofNat n)), .val (.long q0), .second, .val (.long q1), .second, .val (.long (q2 &&& (33554431 : Int64))), .second, .unset, .unset, .unset, .unset, .unset, .unset]) rfl ?_
      refine XS.iconst X0.here hx rfl (hb hby at_49) ?_
      refine st296 _ ?_
      refine XS.dup X296.here hx rfl (hb hby at_52) rfl rfl ?_
      refine XS.iconst X296.here hx rfl (hb hby at_53) ?_
      refine XS.lload X296.here hx rfl (hb hby at_54) rfl ?_
      refine st299 _ ?_
      refine XS.dup X299.here hx rfl (hb hby at_57) rfl rfl ?_
      refine XS.iconst X299.here hx rfl (hb hby at_58) ?_
      refine XS.lload X299.here hx rfl (hb hby at_59) rfl ?_
      refine st302 _ ?_
      refine XS.dup X302.here hx rfl (hb hby at_62) rfl rfl ?_
      exact h
    obtain ⟨cl306, Ar306, hin306, hat306⟩ := own_LA.at (i := 2) (j := (2 : Int32)) V302 rfl (by decide) (by decide)
    obtain ⟨T306, h306, X306, e306, W306, st306⟩ := stJ X302 hx hZ e302 Ar306 (j := (2 : Int32)) hin306 (g := (mkF m 66 #[.val (.long q0), .second, .val (.long q1), .second, .val (.long q2), .second, .val (.long q3), .second, .val (.int p4), .val (.int (1 : Int32)), .val (.int (Int32.ofNat n)), .val (.long q0), .second, .val (.long q1), .second, .val (.long (q2 &&& (33554431 : Int64))), .second, .unset, .unset, .unset, .unset, .unset, .unset] [(.long q3), (.int (2 : Int32)), (.ref b296), (.ref b296)])) rfl rfl (hb hby at_66)
    have V306 := own_LA.set V302 W306 rfl (by decide) (by decide)
    have Z307 : n0 ≤ h306.size := Nat.le_trans Z303 (Keep.of_wr W306).1
    have K308 := K304.wr W306 (Or.inr sz_b296)
    have N306 := Fr.snoc X306 N302 g_b296
    obtain ⟨cl309, Ar309, hin309, hat309⟩ := own_LA.at (i := 3) (j := (3 : Int32)) V306 rfl (by decide) (by decide)
    obtain ⟨T309, h309, X309, e309, W309, st309⟩ := stJ X306 hx hZ e306 Ar309 (j := (3 : Int32)) hin309 (g := (mkF m 71 #[.val (.long q0), .second, .val (.long q1), .second, .val (.long q2), .second, .val (.long q3), .second, .val (.int p4), .val (.int (1 : Int32)), .val (.int (Int32.ofNat n)), .val (.long q0), .second, .val (.long q1), .second, .val (.long (q2 &&& (33554431 : Int64))), .second, .unset, .unset, .unset, .unset, .unset, .unset] [(.long q3), (.int (3 : Int32)), (.ref b296), (.ref b296)])) rfl rfl (hb hby at_71)
    have V309 := own_LA.set V306 W309 rfl (by decide) (by decide)
    have Z310 : n0 ≤ h309.size := Nat.le_trans Z307 (Keep.of_wr W309).1
    have K311 := K308.wr W309 (Or.inr sz_b296)
    have N309 := Fr.snoc X309 N306 g_b296
    obtain ⟨cl312, Ar312, hin312, hat312⟩ := own_LA.at (i := 4) (j := (4 : Int32)) V309 rfl (by decide) (by decide)
    obtain ⟨T312, h312, X312, e312, W312, st312⟩ := stJ X309 hx hZ e309 Ar312 (j := (4 : Int32)) hin312 (g := (mkF m 76 #[.val (.long q0), .second, .val (.long q1), .second, .val (.long q2), .second, .val (.long q3), .second, .val (.int p4), .val (.int (1 : Int32)), .val (.int (Int32.ofNat n)), .val (.long q0), .second, .val (.long q1), .second, .val (.long (q2 &&& (33554431 : Int64))), .second, .unset, .unset, .unset, .unset, .unset, .unset] [(.long q3), (.int (4 : Int32)), (.ref b296), (.ref b296)])) rfl rfl (hb hby at_76)
    have V312 := own_LA.set V309 W312 rfl (by decide) (by decide)
    have Z313 : n0 ≤ h312.size := Nat.le_trans Z310 (Keep.of_wr W312).1
    have K314 := K311.wr W312 (Or.inr sz_b296)
    have N312 := Fr.snoc X312 N309 g_b296
    obtain ⟨cl315, Ar315, hin315, hat315⟩ := own_LA.at (i := n) (j := (Int32.ofNat n)) V312 rfl (by omega) (by decide)
    obtain ⟨T315, h315, X315, e315, W315, st315⟩ := stJ X312 hx hZ e312 Ar315 (j := (Int32.ofNat n)) hin315 (g := (mkF m 85 #[.val (.long q0), .second, .val (.long q1), .second, .val (.long q2), .second, .val (.long q3), .second, .val (.int p4), .val (.int (1 : Int32)), .val (.int (Int32.ofNat n)), .val (.long q0), .second, .val (.long q1), .second, .val (.long (q2 &&& (33554431 : Int64))), .second, .val (.ref b296), .unset, .unset, .unset, .unset, .unset] [(.long q0), (.int (Int32.ofNat n)), (.ref b296)])) rfl rfl (hb hby at_85)
    have V315 := own_LA.set V312 W315 rfl (by omega) (by decide)
    have Z316 : n0 ≤ h315.size := Nat.le_trans Z313 (Keep.of_wr W315).1
    have K317 := K314.wr W315 (Or.inr sz_b296)
    have N315 := Fr.snoc X315 N312 g_b296
    have k318 : ∀ t, Steps p.tables e below (T315.setTop (mkF m 88 #[.val (.long q0), .second, .val (.long q1), .second, .val (.long q2), .second, .val (.long q3), .second, .val (.int p4), .val (.int (1 : Int32)), .val (.int (Int32.ofNat n)), .val (.long q0), .second, .val (.long q1), .second, .val (.long (q2 &&& (33554431 : Int64))), .second, .val (.ref b296), .unset, .unset, .unset, .unset, .unset] [(.int (1 : Int32))])) t → Steps p.tables e below (s₁.setTop (mkF m 0 #[.val (.long q0), .second, .val (.long q1), .second, .val (.long q2), .second, .val (.long q3), .second, .val (.int p4), .unset, .unset, .unset, .unset, .unset, .unset, .unset, .unset, .unset, .unset, .unset, .unset, .unset, .unset] [])) t := by
      intro t h
      refine k305 t ?_
      refine XS.iconst X302.here hx rfl (hb hby at_63) ?_
      refine XS.lload X302.here hx rfl (hb hby at_64) rfl ?_
      refine st306 _ ?_
      refine XS.dup X306.here hx rfl (hb hby at_67) rfl rfl ?_
      refine XS.iconst X306.here hx rfl (hb hby at_68) ?_
      refine XS.lload X306.here hx rfl (hb hby at_69) rfl ?_
      refine st309 _ ?_
      refine XS.dup X309.here hx rfl (hb hby at_72) rfl rfl ?_
      refine XS.iconst X309.here hx rfl (hb hby at_73) ?_
      refine XS.lload X309.here hx rfl (hb hby at_74) rfl ?_
      refine st312 _ ?_
      refine XS.astore X312.here hx rfl (hb hby at_77) rfl rfl (l' := #[.val (.long q0), .second, .val (.long q1), .second, .val (.long q2), .second, .val (.long q3), .second, .val (.int p4), .val (.int (1 : Int32)), .val (.int (Int32.ofNat n)), .val (.long q0), .second, .val (.long q1), .second, .val (.long (q2 &&& (33554431 : Int64))), .second, .val (.ref b296), .unset, .unset, .unset, .unset, .unset]) rfl ?_
      refine XS.aload X312.here hx rfl (hb hby at_79) rfl rfl ?_
      refine XS.iload X312.here hx rfl (hb hby at_81) rfl ?_
      refine XS.lload X312.here hx rfl (hb hby at_83) rfl ?_
      refine st315 _ ?_
      refine XS.iload X315.here hx rfl (hb hby at_86) rfl ?_
      exact h
    obtain ⟨cl319, Ar319, hin319, hat319⟩ := own_LA.at (i := (n + 1)) (j := ((Int32.ofNat n) + (1 : Int32))) V315 (own_inc n) (by omega) (by decide)
    obtain ⟨T319, h319, X319, e319, W319, st319⟩ := stJ X315 hx hZ e315 Ar319 (j := ((Int32.ofNat n) + (1 : Int32))) hin319 (g := (mkF m 99 #[.val (.long q0), .second, .val (.long q1), .second, .val (.long q2), .second, .val (.long q3), .second, .val (.int p4), .val (.int (1 : Int32)), .val (.int (Int32.ofNat n)), .val (.long q0), .second, .val (.long q1), .second, .val (.long (q2 &&& (33554431 : Int64))), .second, .val (.ref b296), .unset, .unset, .unset, .unset, .unset] [(.long q1), (.int ((Int32.ofNat n) + (1 : Int32))), (.ref b296)])) rfl rfl (hb hby at_99)
    have V319 := own_LA.set V315 W319 (own_inc n) (by omega) (by decide)
    have Z320 : n0 ≤ h319.size := Nat.le_trans Z316 (Keep.of_wr W319).1
    have K321 := K317.wr W319 (Or.inr sz_b296)
    have N319 := Fr.snoc X319 N315 g_b296
    obtain ⟨cl322, Ar322, hin322, hat322⟩ := own_LA.at (i := (n + 2)) (j := ((Int32.ofNat n) + (2 : Int32))) V319 (own_add2 n) (by omega) (by decide)
    obtain ⟨T322, h322, X322, e322, W322, st322⟩ := stJ X319 hx hZ e319 Ar322 (j := ((Int32.ofNat n) + (2 : Int32))) hin322 (g := (mkF m 108 #[.val (.long q0), .second, .val (.long q1), .second, .val (.long q2), .second, .val (.long q3), .second, .val (.int p4), .val (.int (1 : Int32)), .val (.int (Int32.ofNat n)), .val (.long q0), .second, .val (.long q1), .second, .val (.long (q2 &&& (33554431 : Int64))), .second, .val (.ref b296), .unset, .unset, .unset, .unset, .unset] [(.long (q2 &&& (33554431 : Int64))), (.int ((Int32.ofNat n) + (2 : Int32))), (.ref b296)])) rfl rfl (hb hby at_108)
    have V322 := own_LA.set V319 W322 (own_add2 n) (by omega) (by decide)
    have Z323 : n0 ≤ h322.size := Nat.le_trans Z320 (Keep.of_wr W322).1
    have K324 := K321.wr W322 (Or.inr sz_b296)
    have N322 := Fr.snoc X322 N319 g_b296
    obtain ⟨_, _, ⟨T325, L325, k325, n325⟩, -, X325, ⟨Lc325, hQ325, l325, y325, z325⟩, st325⟩ := Jvm.LawKit.callS X322 hx (y := (⟨"com/example/mynah/mynah/rpsl/PrefixRange", "ofKey", "([JI)Lcom/example/mynah/mynah/rpsl/PrefixRange;"⟩ : MethodName)) hown (mvT hZ (hw _ (List.mem_of_getElem? (i := 4) rfl))) (mvT hZ (hw _ (List.mem_of_getElem? (i := 5) rfl))) (mvT hZ (hw _ (List.mem_of_getElem? (i := 6) rfl))) (mvT hZ (hw _ (List.mem_of_getElem? (i := 7) rfl))) (by decide) (backOf (W := 0) (rmK6 l Z a0 hw [] b296 (Int32.ofNat n) n (fun k => if k = (n + 2) then (q2 &&& (33554431 : Int64)) else ((fun k => if k = (n + 1) then q1 else ((fun k => if k = n then q0 else ((fun k => if k = 4 then q3 else ((fun k => if k = 3 then q3 else ((fun k => if k = 2 then q3 else ((fun k => if k = 1 then q3 else ((fun k => if k = 0 then q3 else ((fun _ => 0)) k)) k)) k)) k)) k)) k)) k)) k) q0 q1 (q2 &&& (33554431 : Int64)) h322 n0 Z323 V322 rfl hn (by simp) (by simp) (by simp) c3_291) hZ (hw _ (List.mem_of_getElem? (i := 7) rfl)) (hw _ (List.mem_of_getElem? (i := 6) rfl)) (by decide) (by decide)) (g := (mkF m 113 #[.val (.long q0), .second, .val (.long q1), .second, .val (.long q2), .second, .val (.long q3), .second, .val (.int p4), .val (.int (1 : Int32)), .val (.int (Int32.ofNat n)), .val (.long q0), .second, .val (.long q1), .second, .val (.long (q2 &&& (33554431 : Int64))), .second, .val (.ref b296), .unset, .unset, .unset, .unset, .unset] [(.int (Int32.ofNat n)), (.ref b296)])) rfl (by rw [hml]; rfl) (argsL := [(.ref b296), (.int (Int32.ofNat n))]) (rest := []) (lenOf own_pd_2 rfl) rfl (by show 2 * 0 + _ ≤ _; exact Nat.le_of_eq rfl) (hb hby at_113) (fun _ _ => ⟨rfl, e322, (by decide : 1 + 2 ≤ _), (by decide : 5 + 20 ≤ _)⟩)
    dsimp only [Pt.U, Pt.locs, Pt.cells, Pt.slots] at X325 l325 y325 z325 st325 hQ325
    subst l325 y325 z325
    obtain ⟨br325, ba325, rfl, Nq325, Kq325, Er325, Fr3250, Ar325b, Fr3251, Fr3252, Fr3253⟩ := hQ325
    have N325 := Fr.app N322 Nq325
    have f326 := V322.keep Kq325 nin0
    have Z327 : n0 ≤ T325.heap.size := Nat.le_trans Z323 Kq325.1
    have K328 := K324.trans Kq325 all0
    obtain ⟨T329, h329, k329, X329, e329, E329, A329, st329⟩ := newP X325 hx hZ (hw _ (List.mem_of_getElem? (i := 3) rfl)) rfl (g := (mkF m 119 #[.val (.long q0), .second, .val (.long q1), .second, .val (.long q2), .second, .val (.long q3), .second, .val (.int p4), .val (.int (1 : Int32)), .val (.int (Int32.ofNat n)), .val (.long q0), .second, .val (.long q1), .second, .val (.long (q2 &&& (33554431 : Int64))), .second, .val (.ref b296), .val (.ref br325), .unset, .unset, .unset, .unset] [(.int (3 : Int32))])) rfl (hb hby at_119) rfl (by decide) (cap := 3) (by decide) (by decide) (by decide) (by decide)
    obtain ⟨b329, g329⟩ : ∃ z, z = T325.heap.size := ⟨_, rfl⟩
    rw [← g329] at A329 st329
    have ne_b296_b329 : b296 ≠ b329 := Nat.ne_of_lt (Nat.lt_of_lt_of_le f326.lt (Nat.le_of_eq g329.symm))
    have ne_br325_b329 : br325 ≠ b329 := Nat.ne_of_lt (Nat.lt_of_lt_of_le Er325.lt (Nat.le_of_eq g329.symm))
    have ne_ba325_b329 : ba325 ≠ b329 := Nat.ne_of_lt (Nat.lt_of_lt_of_le Ar325b.lt (Nat.le_of_eq g329.symm))
    have g_b329 : n0 ≤ b329 := Nat.le_trans Z327 (Nat.le_of_eq g329.symm)
    have sz_b329 : h0.size ≤ b329 := Nat.le_trans K328.1 (Nat.le_of_eq g329.symm)
    have f330 := f326.ext E329
    have f331 := Er325.ext E329
    have f332 := Fr3250.ext E329
    have f333 := Ar325b.ext E329
    have f334 := Fr3251.ext E329
    have f335 := Fr3252.ext E329
    have f336 := Fr3253.ext E329
    have Z337 : n0 ≤ h329.size := Nat.le_trans Z327 E329.1
    have K338 := K328.ext E329
    have V329 : own_LA Z h329 b329 3 (fun _ => 0) := own_LA.new A329 rfl
    have k339 : ∀ t, Steps p.tables e below (T329.setTop (mkF m 125 #[.val (.long q0), .second, .val (.long q1), .second, .val (.long q2), .second, .val (.long q3), .second, .val (.int p4), .val (.int (1 : Int32)), .val (.int (Int32.ofNat n)), .val (.long q0), .second, .val (.long q1), .second, .val (.long (q2 &&& (33554431 : Int64))), .second, .val (.ref b296), .val (.ref br325), .val (.ref b329), .unset, .unset, .unset] [(.ref br325)])) t → Steps p.tables e below (s₁.setTop (mkF m 0 #[.val (.long q0), .second, .val (.long q1), .second, .val (.long q2), .second, .val (.long q3), .second, .val (.int p4), .unset, .unset, .unset, .unset, .unset, .unset, .unset, .unset, .unset, .unset, .unset, .unset, .unset, .unset] [])) t := by
      intro t h
      refine k318 t ?_
      show Steps p.tables e below (T315.setTop (mkF m 88 #[.val (.long q0), .second, .val (.long q1), .second, .val (.long q2), .second, .val (.long q3), .second, .val (.int p4), .val (.int (1 : Int32)), .val (.int (Int32.ofNat n)), .val (.long q0), .second, .val (.long q1), .second, .val (.long (q2 &&& (33554431 : Int64))), .second, .val (.ref b296), .unset, .unset, .unset, .unset, .unset] [(.int (1 : Int32))])) _
      refine XS.ifNo X315.here hx rfl (hb hby at_88) rfl ((if0 _ _).trans (feq (by decide : ¬ ((1 : Int32) = (0 : Int32)))).1) ?_
      refine XS.aload X315.here hx rfl (hb hby at_91) rfl rfl ?_
      refine XS.iload X315.here hx rfl (hb hby at_93) rfl ?_
      refine XS.iconst X315.here hx rfl (hb hby at_95) ?_
      refine XS.iadd X315.here hx rfl (hb hby at_96) rfl ?_
      refine XS.lload X315.here hx rfl (hb hby at_97) rfl ?_
      refine st319 _ ?_
      refine XS.aload X319.here hx rfl (hb hby at_100) rfl rfl ?_
      refine XS.iload X319.here hx rfl (hb hby at_102) rfl ?_
      refine XS.iconst X319.here hx rfl (hb hby at_104) ?_
      refine XS.iadd X319.here hx rfl (hb hby at_105) rfl ?_
      refine XS.lload X319.here hx rfl (hb hby at_106) rfl ?_
      refine st322 _ ?_
      refine XS.aload X322.here hx rfl (hb hby at_109) rfl rfl ?_
      refine XS.iload X322.here hx rfl (hb hby at_111) rfl ?_
      refine st325 _ ?_
      refine XS.astore X325.here hx rfl (hb hby at_116) rfl rfl (l' := #[.val (.long q0), .second, .val (.long q1), .second, .val (.long q2), .second, .val (.long q3), .second, .val (.int p4), .val (.int (1 : Int32)), .val (.int (Int32.ofNat n)), .val (.long q0), .second, .val (.long q1), .second, .val (.long (q2 &&& (33554431 : Int64))), .second, .val (.ref b296), .val (.ref br325), .unset, .unset, .unset, .unset]) rfl ?_
      refine XS.iconst X325.here hx rfl (hb hby at_118) ?_
      refine st329 _ ?_
      refine XS.astore X329.here hx rfl (hb hby at_121) rfl rfl (l' := #[.val (.long q0), .second, .val (.long q1), .second, .val (.long q2), .second, .val (.long q3), .second, .val (.int p4), .val (.int (1 : Int32)), .val (.int (Int32.ofNat n)), .val (.long q0), .second, .val (.long q1), .second, .val (.long (q2 &&& (33554431 : Int64))), .second, .val (.ref b296), .val (.ref br325), .val (.ref b329), .unset, .unset, .unset]) rfl ?_
      refine XS.aload X329.here hx rfl (hb hby at_123) rfl rfl ?_
      exact h
    obtain ⟨cq340, kq340, q340a, q340b, q340c⟩ := isOf hZ e329 f331
    obtain ⟨_, _, ⟨T340, L340, k340, n340⟩, -, X340, ⟨Lc340, hQ340, l340, y340, z340⟩, st340⟩ := X329.virtualBack hx (y := (⟨"com/example/mynah/mynah/rpsl/PrefixRange", "writeKey", "([JI)V"⟩ : MethodName)) (z := (⟨"com/example/mynah/mynah/rpsl/PrefixRange", "writeKey", "([JI)V"⟩ : MethodName)) hown (mvT hZ (hw _ (List.mem_of_getElem? (i := 26) rfl))) (mvT hZ (hw _ (List.mem_of_getElem? (i := 27) rfl))) (notFace_of_selects (args := #[]) (mvT hZ (hw _ (List.mem_of_getElem? (i := 29) rfl)))) (mvT hZ (hw _ (List.mem_of_getElem? (i := 29) rfl))) (mvT hZ (hw _ (List.mem_of_getElem? (i := 28) rfl))) (by decide) (backOf (W := 0) (rmW6 l Z a0 hw [] br325 b329 (0 : Int32) ba325 (own_f (own_hi6 q0 q1) (own_lo6 q1 (q2 &&& (33554431 : Int64)))) (q2 &&& (33554431 : Int64)) (fun _ => 0) h329 n0 Z337 f332 f333 f331 f334 f335 f336 V329 g_b329 ne_br325_b329 ne_ba325_b329 rfl) hZ (hw _ (List.mem_of_getElem? (i := 30) rfl)) (hw _ (List.mem_of_getElem? (i := 6) rfl)) (by decide) (by decide)) q340a q340c (g := (mkF m 128 #[.val (.long q0), .second, .val (.long q1), .second, .val (.long q2), .second, .val (.long q3), .second, .val (.int p4), .val (.int (1 : Int32)), .val (.int (Int32.ofNat n)), .val (.long q0), .second, .val (.long q1), .second, .val (.long (q2 &&& (33554431 : Int64))), .second, .val (.ref b296), .val (.ref br325), .val (.ref b329), .unset, .unset, .unset] [(.int (0 : Int32)), (.ref b329), (.ref br325)])) rfl (by rw [hml]; rfl) (Steps.refl _) (argsL := [(.ref b329), (.int (0 : Int32))]) (rest := []) (lenOf own_pd_3 rfl) rfl (by show 2 * 0 + _ ≤ _; exact Nat.le_of_eq rfl) (hb hby at_128) (fun _ _ => ⟨rfl, e329, (by decide : 4 + 0 ≤ _), (by decide : 28 + 0 ≤ _)⟩)
    dsimp only [Pt.U, Pt.locs, Pt.cells, Pt.slots] at X340 l340 y340 z340 st340 hQ340
    subst l340 y340 z340
    obtain ⟨rfl, Nq340, Kq340, Ao340⟩ := hQ340
    have N340 := Fr.app N325 Nq340
    have f341 := f330.keep Kq340 (ninS ne_b296_b329 nin0)
    have f342 := f331.keep Kq340
    have f343 := f332.keep Kq340 (ninS ne_br325_b329 nin0)
    have f344 := f333.keep Kq340 (ninS ne_ba325_b329 nin0)
    have f345 := f334.keep Kq340 (ninS ne_br325_b329 nin0)
    have f346 := f335.keep Kq340 (ninS ne_br325_b329 nin0)
    have f347 := f336.keep Kq340 (ninS ne_br325_b329 nin0)
    have Z348 : n0 ≤ T340.heap.size := Nat.le_trans Z337 Kq340.1
    have K349 := K338.trans Kq340 (allS (Or.inr sz_b329) all0)
    rw [own_H16, own_L16, own_O0 _ _ ((own_neg _).1 c3_291), own_O1 _ _ _ (own_c25 q2).1 (own_c25 q2).2, own_O2 _ _ (own_c25 q2).1 (own_c25 q2).2] at Ao340
    have k350 : ∀ t, Steps p.tables e below (T340.setTop (mkF m 133 #[.val (.long q0), .second, .val (.long q1), .second, .val (.long q2), .second, .val (.long q3), .second, .val (.int p4), .val (.int (1 : Int32)), .val (.int (Int32.ofNat n)), .val (.long q0), .second, .val (.long q1), .second, .val (.long (q2 &&& (33554431 : Int64))), .second, .val (.ref b296), .val (.ref br325), .val (.ref b329), .unset, .unset, .unset] [(.int (1 : Int32))])) t → Steps p.tables e below (s₁.setTop (mkF m 0 #[.val (.long q0), .second, .val (.long q1), .second, .val (.long q2), .second, .val (.long q3), .second, .val (.int p4), .unset, .unset, .unset, .unset, .unset, .unset, .unset, .unset, .unset, .unset, .unset, .unset, .unset, .unset] [])) t := by
      intro t h
      refine k339 t ?_
      refine XS.aload X329.here hx rfl (hb hby at_125) rfl rfl ?_
      refine XS.iconst X329.here hx rfl (hb hby at_127) ?_
      refine st340.trans ?_
      refine XS.iload X340.here hx rfl (hb hby at_131) rfl ?_
      exact h
    obtain ⟨cq351, kq351, q351a, q351b, q351c⟩ := isOf hZ rfl f342
    obtain ⟨_, _, ⟨T351, L351, k351, n351⟩, -, X351, ⟨Lc351, hQ351, l351, y351, z351⟩, st351⟩ := X340.virtualBack hx (y := (⟨"com/example/mynah/mynah/rpsl/PrefixRange", "isIpv6", "()Z"⟩ : MethodName)) (z := (⟨"com/example/mynah/mynah/rpsl/PrefixRange", "isIpv6", "()Z"⟩ : MethodName)) hown (mvT hZ (hw _ (List.mem_of_getElem? (i := 36) rfl))) (mvT hZ (hw _ (List.mem_of_getElem? (i := 32) rfl))) (notFace_of_selects (args := #[]) (mvT hZ (hw _ (List.mem_of_getElem? (i := 34) rfl)))) (mvT hZ (hw _ (List.mem_of_getElem? (i := 34) rfl))) (mvT hZ (hw _ (List.mem_of_getElem? (i := 33) rfl))) (by decide) (backOf (W := 0) (rmV l Z a0 hw [] br325 ba325 16 (own_f (own_hi6 q0 q1) (own_lo6 q1 (q2 &&& (33554431 : Int64)))) T340.heap n0 Z348 f343 f344) hZ (hw _ (List.mem_of_getElem? (i := 35) rfl)) (hw _ (List.mem_of_getElem? (i := 6) rfl)) (by decide) (by decide)) q351a q351c (g := (mkF m 147 #[.val (.long q0), .second, .val (.long q1), .second, .val (.long q2), .second, .val (.long q3), .second, .val (.int p4), .val (.int (1 : Int32)), .val (.int (Int32.ofNat n)), .val (.long q0), .second, .val (.long q1), .second, .val (.long (q2 &&& (33554431 : Int64))), .second, .val (.ref b296), .val (.ref br325), .val (.ref b329), .val (.long (q2 &&& (33554431 : Int64))), .second, .unset] [(.ref br325)])) rfl (by rw [hml]; rfl) (Steps.refl _) (argsL := []) (rest := []) (lenOf own_pd_1 rfl) rfl (by show 2 * 0 + _ ≤ _; exact Nat.le_of_eq rfl) (hb hby at_147) (fun _ _ => ⟨rfl, rfl, (by decide : 4 + 0 ≤ _), (by decide : 28 + 0 ≤ _)⟩)
    dsimp only [Pt.U, Pt.locs, Pt.cells, Pt.slots] at X351 l351 y351 z351 st351 hQ351
    subst l351 y351 z351
    obtain ⟨rfl, Nq351, eq351⟩ := hQ351
    have N351 := Fr.app N340 Nq351
    have k352 : ∀ t, Steps p.tables e below (T351.setTop (mkF m 152 #[.val (.long q0), .second, .val (.long q1), .second, .val (.long q2), .second, .val (.long q3), .second, .val (.int p4), .val (.int (1 : Int32)), .val (.int (Int32.ofNat n)), .val (.long q0), .second, .val (.long q1), .second, .val (.long (q2 &&& (33554431 : Int64))), .second, .val (.ref b296), .val (.ref br325), .val (.ref b329), .val (.long (q2 &&& (33554431 : Int64))), .second, .unset] [(.int (1 : Int32)), (.int (own_is 16))])) t → Steps p.tables e below (s₁.setTop (mkF m 0 #[.val (.long q0), .second, .val (.long q1), .second, .val (.long q2), .second, .val (.long q3), .second, .val (.int p4), .unset, .unset, .unset, .unset, .unset, .unset, .unset, .unset, .unset, .unset, .unset, .unset, .unset, .unset] [])) t := by
      intro t h
      refine k350 t ?_
      show Steps p.tables e below (T340.setTop (mkF m 133 #[.val (.long q0), .second, .val (.long q1), .second, .val (.long q2), .second, .val (.long q3), .second, .val (.int p4), .val (.int (1 : Int32)), .val (.int (Int32.ofNat n)), .val (.long q0), .second, .val (.long q1), .second, .val (.long (q2 &&& (33554431 : Int64))), .second, .val (.ref b296), .val (.ref br325), .val (.ref b329), .unset, .unset, .unset] [(.int (1 : Int32))])) _
      refine XS.ifNo X340.here hx rfl (hb hby at_133) rfl ((if0 _ _).trans (feq (by decide : ¬ ((1 : Int32) = (0 : Int32)))).1) ?_
      refine XS.lload X340.here hx rfl (hb hby at_136) rfl ?_
      refine XS.goto X340.here hx rfl (pc0 := 138) (pc' := 143) rfl (hb hby at_138) (by decide) (by decide) ?_
      refine XS.lstore X340.here hx rfl (hb hby at_143) rfl (l' := #[.val (.long q0), .second, .val (.long q1), .second, .val (.long q2), .second, .val (.long q3), .second, .val (.int p4), .val (.int (1 : Int32)), .val (.int (Int32.ofNat n)), .val (.long q0), .second, .val (.long q1), .second, .val (.long (q2 &&& (33554431 : Int64))), .second, .val (.ref b296), .val (.ref br325), .val (.ref b329), .val (.long (q2 &&& (33554431 : Int64))), .second, .unset]) rfl ?_
      refine XS.aload X340.here hx rfl (hb hby at_145) rfl rfl ?_
      refine st351.trans ?_
      refine XS.iload X351.here hx rfl (hb hby at_150) rfl ?_
      exact h
    have b152_353 : (own_is 16) = (1 : Int32) := by decide
    have k354 : ∀ t, Steps p.tables e below (T351.setTop (mkF m 164 #[.val (.long q0), .second, .val (.long q1), .second, .val (.long q2), .second, .val (.long q3), .second, .val (.int p4), .val (.int (1 : Int32)), .val (.int (Int32.ofNat n)), .val (.long q0), .second, .val (.long q1), .second, .val (.long (q2 &&& (33554431 : Int64))), .second, .val (.ref b296), .val (.ref br325), .val (.ref b329), .val (.long (q2 &&& (33554431 : Int64))), .second, .val (.int (1 : Int32))] [(.int (1 : Int32))])) t → Steps p.tables e below (s₁.setTop (mkF m 0 #[.val (.long q0), .second, .val (.long q1), .second, .val (.long q2), .second, .val (.long q3), .second, .val (.int p4), .unset, .unset, .unset, .unset, .unset, .unset, .unset, .unset, .unset, .unset, .unset, .unset, .unset, .unset] [])) t := by
      intro t h
      refine k352 t ?_
      show Steps p.tables e below (T351.setTop (mkF m 152 #[.val (.long q0), .second, .val (.long q1), .second, .val (.long q2), .second, .val (.long q3), .second, .val (.int p4), .val (.int (1 : Int32)), .val (.int (Int32.ofNat n)), .val (.long q0), .second, .val (.long q1), .second, .val (.long (q2 &&& (33554431 : Int64))), .second, .val (.ref b296), .val (.ref br325), .val (.ref b329), .val (.long (q2 &&& (33554431 : Int64))), .second, .unset] [(.int (1 : Int32)), (.int (own_is 16))])) _
      refine XS.icmpNo X351.here hx rfl (hb hby at_152) rfl (teq b152_353).2 ?_
      refine XS.iconst X351.here hx rfl (hb hby at_155) ?_
      refine XS.goto X351.here hx rfl (pc0 := 156) (pc' := 160) rfl (hb hby at_156) (by decide) (by decide) ?_
      refine XS.istore X351.here hx rfl (hb hby at_160) rfl (l' := #[.val (.long q0), .second, .val (.long q1), .second, .val (.long q2), .second, .val (.long q3), .second, .val (.int p4), .val (.int (1 : Int32)), .val (.int (Int32.ofNat n)), .val (.long q0), .second, .val (.long q1), .second, .val (.long (q2 &&& (33554431 : Int64))), .second, .val (.ref b296), .val (.ref br325), .val (.ref b329), .val (.long (q2 &&& (33554431 : Int64))), .second, .val (.int (1 : Int32))]) rfl ?_
      refine XS.iload X351.here hx rfl (hb hby at_162) rfl ?_
      exact h
    obtain ⟨cq355, kq355, q355a, q355b, q355c⟩ := isOf hZ eq351 f342
    obtain ⟨_, _, ⟨T355, L355, k355, n355⟩, -, X355, ⟨Lc355, hQ355, l355, y355, z355⟩, st355⟩ := X351.virtualBack hx (y := (⟨"com/example/mynah/mynah/rpsl/PrefixRange", "keyLongs", "()I"⟩ : MethodName)) (z := (⟨"com/example/mynah/mynah/rpsl/PrefixRange", "keyLongs", "()I"⟩ : MethodName)) hown (mvT hZ (hw _ (List.mem_of_getElem? (i := 37) rfl))) (mvT hZ (hw _ (List.mem_of_getElem? (i := 38) rfl))) (notFace_of_selects (args := #[]) (mvT hZ (hw _ (List.mem_of_getElem? (i := 40) rfl)))) (mvT hZ (hw _ (List.mem_of_getElem? (i := 40) rfl))) (mvT hZ (hw _ (List.mem_of_getElem? (i := 39) rfl))) (by decide) (backOf (W := 0) (rmL l Z a0 hw [] br325 ba325 16 (own_f (own_hi6 q0 q1) (own_lo6 q1 (q2 &&& (33554431 : Int64)))) T340.heap n0 Z348 f343 f344 f342) hZ (hw _ (List.mem_of_getElem? (i := 41) rfl)) (hw _ (List.mem_of_getElem? (i := 6) rfl)) (by decide) (by decide)) q355a q355c (g := (mkF m 169 #[.val (.long q0), .second, .val (.long q1), .second, .val (.long q2), .second, .val (.long q3), .second, .val (.int p4), .val (.int (1 : Int32)), .val (.int (Int32.ofNat n)), .val (.long q0), .second, .val (.long q1), .second, .val (.long (q2 &&& (33554431 : Int64))), .second, .val (.ref b296), .val (.ref br325), .val (.ref b329), .val (.long (q2 &&& (33554431 : Int64))), .second, .val (.int (1 : Int32))] [(.ref br325)])) rfl (by rw [hml]; rfl) (Steps.refl _) (argsL := []) (rest := []) (lenOf own_pd_4 rfl) rfl (by show 2 * 0 + _ ≤ _; exact Nat.le_of_eq rfl) (hb hby at_169) (fun _ _ => ⟨rfl, eq351, (by decide : 4 + 0 ≤ _), (by decide : 28 + 0 ≤ _)⟩)
    dsimp only [Pt.U, Pt.locs, Pt.cells, Pt.slots] at X355 l355 y355 z355 st355 hQ355
    subst l355 y355 z355
    obtain ⟨rfl, Nq355, eq355⟩ := hQ355
    have N355 := Fr.app N351 Nq355
    have k356 : ∀ t, Steps p.tables e below (T355.setTop (mkF m 174 #[.val (.long q0), .second, .val (.long q1), .second, .val (.long q2), .second, .val (.long q3), .second, .val (.int p4), .val (.int (1 : Int32)), .val (.int (Int32.ofNat n)), .val (.long q0), .second, .val (.long q1), .second, .val (.long (q2 &&& (33554431 : Int64))), .second, .val (.ref b296), .val (.ref br325), .val (.ref b329), .val (.long (q2 &&& (33554431 : Int64))), .second, .val (.int (1 : Int32))] [(.int (1 : Int32)), (.int (own_kl 16))])) t → Steps p.tables e below (s₁.setTop (mkF m 0 #[.val (.long q0), .second, .val (.long q1), .second, .val (.long q2), .second, .val (.long q3), .second, .val (.int p4), .unset, .unset, .unset, .unset, .unset, .unset, .unset, .unset, .unset, .unset, .unset, .unset, .unset, .unset] [])) t := by
      intro t h
      refine k354 t ?_
      show Steps p.tables e below (T351.setTop (mkF m 164 #[.val (.long q0), .second, .val (.long q1), .second, .val (.long q2), .second, .val (.long q3), .second, .val (.int p4), .val (.int (1 : Int32)), .val (.int (Int32.ofNat n)), .val (.long q0), .second, .val (.long q1), .second, .val (.long (q2 &&& (33554431 : Int64))), .second, .val (.ref b296), .val (.ref br325), .val (.ref b329), .val (.long (q2 &&& (33554431 : Int64))), .second, .val (.int (1 : Int32))] [(.int (1 : Int32))])) _
      refine XS.ifNo X351.here hx rfl (hb hby at_164) rfl ((if0 _ _).trans (feq (by decide : ¬ ((1 : Int32) = (0 : Int32)))).1) ?_
      refine XS.aload X351.here hx rfl (hb hby at_167) rfl rfl ?_
      refine st355.trans ?_
      refine XS.iload X355.here hx rfl (hb hby at_172) rfl ?_
      exact h
    have k357 : ∀ t, Steps p.tables e below (T355.setTop (mkF m 182 #[.val (.long q0), .second, .val (.long q1), .second, .val (.long q2), .second, .val (.long q3), .second, .val (.int p4), .val (.int (1 : Int32)), .val (.int (Int32.ofNat n)), .val (.long q0), .second, .val (.long q1), .second, .val (.long (q2 &&& (33554431 : Int64))), .second, .val (.ref b296), .val (.ref br325), .val (.ref b329), .val (.long (q2 &&& (33554431 : Int64))), .second, .val (.int (1 : Int32))] [(.int (3 : Int32)), (.int (own_kl 16))])) t → Steps p.tables e below (s₁.setTop (mkF m 0 #[.val (.long q0), .second, .val (.long q1), .second, .val (.long q2), .second, .val (.long q3), .second, .val (.int p4), .unset, .unset, .unset, .unset, .unset, .unset, .unset, .unset, .unset, .unset, .unset, .unset, .unset, .unset] [])) t := by
      intro t h
      refine k356 t ?_
      show Steps p.tables e below (T355.setTop (mkF m 174 #[.val (.long q0), .second, .val (.long q1), .second, .val (.long q2), .second, .val (.long q3), .second, .val (.int p4), .val (.int (1 : Int32)), .val (.int (Int32.ofNat n)), .val (.long q0), .second, .val (.long q1), .second, .val (.long (q2 &&& (33554431 : Int64))), .second, .val (.ref b296), .val (.ref br325), .val (.ref b329), .val (.long (q2 &&& (33554431 : Int64))), .second, .val (.int (1 : Int32))] [(.int (1 : Int32)), (.int (own_kl 16))])) _
      refine XS.ifNo X355.here hx rfl (hb hby at_174) rfl ((if0 _ _).trans (feq (by decide : ¬ ((1 : Int32) = (0 : Int32)))).1) ?_
      refine XS.iconst X355.here hx rfl (hb hby at_177) ?_
      refine XS.goto X355.here hx rfl (pc0 := 178) (pc' := 182) rfl (hb hby at_178) (by decide) (by decide) ?_
      exact h
    have b182_358 : (own_kl 16) = (3 : Int32) := by decide
    have k359 : ∀ t, Steps p.tables e below (T355.setTop (mkF m 194 #[.val (.long q0), .second, .val (.long q1), .second, .val (.long q2), .second, .val (.long q3), .second, .val (.int p4), .val (.int (1 : Int32)), .val (.int (Int32.ofNat n)), .val (.long q0), .second, .val (.long q1), .second, .val (.long (q2 &&& (33554431 : Int64))), .second, .val (.ref b296), .val (.ref br325), .val (.ref b329), .val (.long (q2 &&& (33554431 : Int64))), .second, .val (.int (1 : Int32))] [(.int (1 : Int32))])) t → Steps p.tables e below (s₁.setTop (mkF m 0 #[.val (.long q0), .second, .val (.long q1), .second, .val (.long q2), .second, .val (.long q3), .second, .val (.int p4), .unset, .unset, .unset, .unset, .unset, .unset, .unset, .unset, .unset, .unset, .unset, .unset, .unset, .unset] [])) t := by
      intro t h
      refine k357 t ?_
      show Steps p.tables e below (T355.setTop (mkF m 182 #[.val (.long q0), .second, .val (.long q1), .second, .val (.long q2), .second, .val (.long q3), .second, .val (.int p4), .val (.int (1 : Int32)), .val (.int (Int32.ofNat n)), .val (.long q0), .second, .val (.long q1), .second, .val (.long (q2 &&& (33554431 : Int64))), .second, .val (.ref b296), .val (.ref br325), .val (.ref b329), .val (.long (q2 &&& (33554431 : Int64))), .second, .val (.int (1 : Int32))] [(.int (3 : Int32)), (.int (own_kl 16))])) _
      refine XS.icmpNo X355.here hx rfl (hb hby at_182) rfl (teq b182_358).2 ?_
      refine XS.iconst X355.here hx rfl (hb hby at_185) ?_
      refine XS.goto X355.here hx rfl (pc0 := 186) (pc' := 190) rfl (hb hby at_186) (by decide) (by decide) ?_
      refine XS.istore X355.here hx rfl (hb hby at_190) rfl (l' := #[.val (.long q0), .second, .val (.long q1), .second, .val (.long q2), .second, .val (.long q3), .second, .val (.int p4), .val (.int (1 : Int32)), .val (.int (Int32.ofNat n)), .val (.long q0), .second, .val (.long q1), .second, .val (.long (q2 &&& (33554431 : Int64))), .second, .val (.ref b296), .val (.ref br325), .val (.ref b329), .val (.long (q2 &&& (33554431 : Int64))), .second, .val (.int (1 : Int32))]) rfl ?_
      refine XS.iload X355.here hx rfl (hb hby at_192) rfl ?_
      exact h
    obtain ⟨cq360, kq360, q360a, q360b, q360c⟩ := isOf hZ eq355 f342
    obtain ⟨_, _, ⟨T360, L360, k360, n360⟩, -, X360, ⟨Lc360, hQ360, l360, y360, z360⟩, st360⟩ := X355.virtualBack hx (y := (⟨"com/example/mynah/mynah/rpsl/PrefixRange", "length", "()I"⟩ : MethodName)) (z := (⟨"com/example/mynah/mynah/rpsl/PrefixRange", "length", "()I"⟩ : MethodName)) hown (mvT hZ (hw _ (List.mem_of_getElem? (i := 42) rfl))) (mvT hZ (hw _ (List.mem_of_getElem? (i := 43) rfl))) (notFace_of_selects (args := #[]) (mvT hZ (hw _ (List.mem_of_getElem? (i := 45) rfl)))) (mvT hZ (hw _ (List.mem_of_getElem? (i := 45) rfl))) (mvT hZ (hw _ (List.mem_of_getElem? (i := 44) rfl))) (by decide) (backOf (W := 0) (rmN l Z a0 hw [] br325 (own_len (q2 &&& (33554431 : Int64))) T340.heap n0 Z348 f345) hZ (hw _ (List.mem_of_getElem? (i := 46) rfl)) (hw _ (List.mem_of_getElem? (i := 6) rfl)) (by decide) (by decide)) q360a q360c (g := (mkF m 199 #[.val (.long q0), .second, .val (.long q1), .second, .val (.long q2), .second, .val (.long q3), .second, .val (.int p4), .val (.int (1 : Int32)), .val (.int (Int32.ofNat n)), .val (.long q0), .second, .val (.long q1), .second, .val (.long (q2 &&& (33554431 : Int64))), .second, .val (.ref b296), .val (.ref br325), .val (.ref b329), .val (.long (q2 &&& (33554431 : Int64))), .second, .val (.int (1 : Int32))] [(.ref br325)])) rfl (by rw [hml]; rfl) (Steps.refl _) (argsL := []) (rest := []) (lenOf own_pd_4 rfl) rfl (by show 2 * 0 + _ ≤ _; exact Nat.le_of_eq rfl) (hb hby at_199) (fun _ _ => ⟨rfl, eq355, (by decide : 4 + 0 ≤ _), (by decide : 28 + 0 ≤ _)⟩)
    dsimp only [Pt.U, Pt.locs, Pt.cells, Pt.slots] at X360 l360 y360 z360 st360 hQ360
    subst l360 y360 z360
    obtain ⟨rfl, Nq360, eq360⟩ := hQ360
    have N360 := Fr.app N355 Nq360
    have k361 : ∀ t, Steps p.tables e below (T360.setTop (mkF m 212 #[.val (.long q0), .second, .val (.long q1), .second, .val (.long q2), .second, .val (.long q3), .second, .val (.int p4), .val (.int (1 : Int32)), .val (.int (Int32.ofNat n)), .val (.long q0), .second, .val (.long q1), .second, .val (.long (q2 &&& (33554431 : Int64))), .second, .val (.ref b296), .val (.ref br325), .val (.ref b329), .val (.long (q2 &&& (33554431 : Int64))), .second, .val (.int (1 : Int32))] [(.int (((((q2 &&& (33554431 : Int64)).toUInt64 >>> ((16 : Int32) &&& 0x3f).toInt64.toUInt64).toInt64) &&& (255 : Int64)).toInt32)), (.int (own_len (q2 &&& (33554431 : Int64))))])) t → Steps p.tables e below (s₁.setTop (mkF m 0 #[.val (.long q0), .second, .val (.long q1), .second, .val (.long q2), .second, .val (.long q3), .second, .val (.int p4), .unset, .unset, .unset, .unset, .unset, .unset, .unset, .unset, .unset, .unset, .unset, .unset, .unset, .unset] [])) t := by
      intro t h
      refine k359 t ?_
      show Steps p.tables e below (T355.setTop (mkF m 194 #[.val (.long q0), .second, .val (.long q1), .second, .val (.long q2), .second, .val (.long q3), .second, .val (.int p4), .val (.int (1 : Int32)), .val (.int (Int32.ofNat n)), .val (.long q0), .second, .val (.long q1), .second, .val (.long (q2 &&& (33554431 : Int64))), .second, .val (.ref b296), .val (.ref br325), .val (.ref b329), .val (.long (q2 &&& (33554431 : Int64))), .second, .val (.int (1 : Int32))] [(.int (1 : Int32))])) _
      refine XS.ifNo X355.here hx rfl (hb hby at_194) rfl ((if0 _ _).trans (feq (by decide : ¬ ((1 : Int32) = (0 : Int32)))).1) ?_
      refine XS.aload X355.here hx rfl (hb hby at_197) rfl rfl ?_
      refine st360.trans ?_
      refine XS.lload X360.here hx rfl (hb hby at_202) rfl ?_
      refine XS.bipush X360.here hx rfl (hb hby at_204) ?_
      refine XS.lushr X360.here hx rfl (hb hby at_206) rfl ?_
      refine X360.ldc2Long hx hown (mvT hZ (hw _ (List.mem_of_getElem? (i := 47) rfl))) (g := (mkF m 207 #[.val (.long q0), .second, .val (.long q1), .second, .val (.long q2), .second, .val (.long q3), .second, .val (.int p4), .val (.int (1 : Int32)), .val (.int (Int32.ofNat n)), .val (.long q0), .second, .val (.long q1), .second, .val (.long (q2 &&& (33554431 : Int64))), .second, .val (.ref b296), .val (.ref br325), .val (.ref b329), .val (.long (q2 &&& (33554431 : Int64))), .second, .val (.int (1 : Int32))] [(.long (((q2 &&& (33554431 : Int64)).toUInt64 >>> ((16 : Int32) &&& 0x3f).toInt64.toUInt64).toInt64)), (.int (own_len (q2 &&& (33554431 : Int64))))])) rfl (hb hby at_207) _ ?_
      refine XS.land X360.here hx rfl (hb hby at_210) rfl ?_
      refine XS.l2i X360.here hx rfl (hb hby at_211) rfl ?_
      exact h
    have b212_362 : (own_len (q2 &&& (33554431 : Int64))) = (((((q2 &&& (33554431 : Int64)).toUInt64 >>> ((16 : Int32) &&& 0x3f).toInt64.toUInt64).toInt64) &&& (255 : Int64)).toInt32) := rfl
    have k363 : ∀ t, Steps p.tables e below (T360.setTop (mkF m 224 #[.val (.long q0), .second, .val (.long q1), .second, .val (.long q2), .second, .val (.long q3), .second, .val (.int p4), .val (.int (1 : Int32)), .val (.int (Int32.ofNat n)), .val (.long q0), .second, .val (.long q1), .second, .val (.long (q2 &&& (33554431 : Int64))), .second, .val (.ref b296), .val (.ref br325), .val (.ref b329), .val (.long (q2 &&& (33554431 : Int64))), .second, .val (.int (1 : Int32))] [(.int (1 : Int32))])) t → Steps p.tables e below (s₁.setTop (mkF m 0 #[.val (.long q0), .second, .val (.long q1), .second, .val (.long q2), .second, .val (.long q3), .second, .val (.int p4), .unset, .unset, .unset, .unset, .unset, .unset, .unset, .unset, .unset, .unset, .unset, .unset, .unset, .unset] [])) t := by
      intro t h
      refine k361 t ?_
      show Steps p.tables e below (T360.setTop (mkF m 212 #[.val (.long q0), .second, .val (.long q1), .second, .val (.long q2), .second, .val (.long q3), .second, .val (.int p4), .val (.int (1 : Int32)), .val (.int (Int32.ofNat n)), .val (.long q0), .second, .val (.long q1), .second, .val (.long (q2 &&& (33554431 : Int64))), .second, .val (.ref b296), .val (.ref br325), .val (.ref b329), .val (.long (q2 &&& (33554431 : Int64))), .second, .val (.int (1 : Int32))] [(.int (((((q2 &&& (33554431 : Int64)).toUInt64 >>> ((16 : Int32) &&& 0x3f).toInt64.toUInt64).toInt64) &&& (255 : Int64)).toInt32)), (.int (own_len (q2 &&& (33554431 : Int64))))])) _
      refine XS.icmpNo X360.here hx rfl (hb hby at_212) rfl (teq b212_362).2 ?_
      refine XS.iconst X360.here hx rfl (hb hby at_215) ?_
      refine XS.goto X360.here hx rfl (pc0 := 216) (pc' := 220) rfl (hb hby at_216) (by decide) (by decide) ?_
      refine XS.istore X360.here hx rfl (hb hby at_220) rfl (l' := #[.val (.long q0), .second, .val (.long q1), .second, .val (.long q2), .second, .val (.long q3), .second, .val (.int p4), .val (.int (1 : Int32)), .val (.int (Int32.ofNat n)), .val (.long q0), .second, .val (.long q1), .second, .val (.long (q2 &&& (33554431 : Int64))), .second, .val (.ref b296), .val (.ref br325), .val (.ref b329), .val (.long (q2 &&& (33554431 : Int64))), .second, .val (.int (1 : Int32))]) rfl ?_
      refine XS.iload X360.here hx rfl (hb hby at_222) rfl ?_
      exact h
    obtain ⟨cl364, Ar364, hin364, hat364⟩ := own_LA.at (i := 0) (j := (0 : Int32)) Ao340 rfl (by decide) (by decide)
    have k365 : ∀ t, Steps p.tables e below (T360.setTop (mkF m 234 #[.val (.long q0), .second, .val (.long q1), .second, .val (.long q2), .second, .val (.long q3), .second, .val (.int p4), .val (.int (1 : Int32)), .val (.int (Int32.ofNat n)), .val (.long q0), .second, .val (.long q1), .second, .val (.long (q2 &&& (33554431 : Int64))), .second, .val (.ref b296), .val (.ref br325), .val (.ref b329), .val (.long (q2 &&& (33554431 : Int64))), .second, .val (.int (1 : Int32))] [(.int (lcmpW q0 q0))])) t → Steps p.tables e below (s₁.setTop (mkF m 0 #[.val (.long q0), .second, .val (.long q1), .second, .val (.long q2), .second, .val (.long q3), .second, .val (.int p4), .unset, .unset, .unset, .unset, .unset, .unset, .unset, .unset, .unset, .unset, .unset, .unset, .unset, .unset] [])) t := by
      intro t h
      refine k363 t ?_
      show Steps p.tables e below (T360.setTop (mkF m 224 #[.val (.long q0), .second, .val (.long q1), .second, .val (.long q2), .second, .val (.long q3), .second, .val (.int p4), .val (.int (1 : Int32)), .val (.int (Int32.ofNat n)), .val (.long q0), .second, .val (.long q1), .second, .val (.long (q2 &&& (33554431 : Int64))), .second, .val (.ref b296), .val (.ref br325), .val (.ref b329), .val (.long (q2 &&& (33554431 : Int64))), .second, .val (.int (1 : Int32))] [(.int (1 : Int32))])) _
      refine XS.ifNo X360.here hx rfl (hb hby at_224) rfl ((if0 _ _).trans (feq (by decide : ¬ ((1 : Int32) = (0 : Int32)))).1) ?_
      refine XS.aload X360.here hx rfl (hb hby at_227) rfl rfl ?_
      refine XS.iconst X360.here hx rfl (hb hby at_229) ?_
      refine X360.laload hx (j := (0 : Int32)) (v := (.long q0)) (by rw [eq360]; exact Ar364.1) (State.isArrayOf_alike hZ.alike Ar364.2.1) Ar364.2.2 hin364 hat364 (g := (mkF m 230 #[.val (.long q0), .second, .val (.long q1), .second, .val (.long q2), .second, .val (.long q3), .second, .val (.int p4), .val (.int (1 : Int32)), .val (.int (Int32.ofNat n)), .val (.long q0), .second, .val (.long q1), .second, .val (.long (q2 &&& (33554431 : Int64))), .second, .val (.ref b296), .val (.ref br325), .val (.ref b329), .val (.long (q2 &&& (33554431 : Int64))), .second, .val (.int (1 : Int32))] [(.int (0 : Int32)), (.ref b329)])) rfl rfl (hb hby at_230) _ ?_
      refine XS.lload X360.here hx rfl (hb hby at_231) rfl ?_
      refine XS.lcmp X360.here hx rfl (hb hby at_233) rfl ?_
      exact h
    have b234_366 : (lcmpW q0 q0) = (0 : Int32) := (lw_eq _ _).mpr rfl
    have k367 : ∀ t, Steps p.tables e below (T360.setTop (mkF m 246 #[.val (.long q0), .second, .val (.long q1), .second, .val (.long q2), .second, .val (.long q3), .second, .val (.int p4), .val (.int (1 : Int32)), .val (.int (Int32.ofNat n)), .val (.long q0), .second, .val (.long q1), .second, .val (.long (q2 &&& (33554431 : Int64))), .second, .val (.ref b296), .val (.ref br325), .val (.ref b329), .val (.long (q2 &&& (33554431 : Int64))), .second, .val (.int (1 : Int32))] [(.int (1 : Int32))])) t → Steps p.tables e below (s₁.setTop (mkF m 0 #[.val (.long q0), .second, .val (.long q1), .second, .val (.long q2), .second, .val (.long q3), .second, .val (.int p4), .unset, .unset, .unset, .unset, .unset, .unset, .unset, .unset, .unset, .unset, .unset, .unset, .unset, .unset] [])) t := by
      intro t h
      refine k365 t ?_
      show Steps p.tables e below (T360.setTop (mkF m 234 #[.val (.long q0), .second, .val (.long q1), .second, .val (.long q2), .second, .val (.long q3), .second, .val (.int p4), .val (.int (1 : Int32)), .val (.int (Int32.ofNat n)), .val (.long q0), .second, .val (.long q1), .second, .val (.long (q2 &&& (33554431 : Int64))), .second, .val (.ref b296), .val (.ref br325), .val (.ref b329), .val (.long (q2 &&& (33554431 : Int64))), .second, .val (.int (1 : Int32))] [(.int (lcmpW q0 q0))])) _
      refine XS.ifNo X360.here hx rfl (hb hby at_234) rfl ((if0 _ _).trans (teq b234_366).2) ?_
      refine XS.iconst X360.here hx rfl (hb hby at_237) ?_
      refine XS.goto X360.here hx rfl (pc0 := 238) (pc' := 242) rfl (hb hby at_238) (by decide) (by decide) ?_
      refine XS.istore X360.here hx rfl (hb hby at_242) rfl (l' := #[.val (.long q0), .second, .val (.long q1), .second, .val (.long q2), .second, .val (.long q3), .second, .val (.int p4), .val (.int (1 : Int32)), .val (.int (Int32.ofNat n)), .val (.long q0), .second, .val (.long q1), .second, .val (.long (q2 &&& (33554431 : Int64))), .second, .val (.ref b296), .val (.ref br325), .val (.ref b329), .val (.long (q2 &&& (33554431 : Int64))), .second, .val (.int (1 : Int32))]) rfl ?_
      refine XS.iload X360.here hx rfl (hb hby at_244) rfl ?_
      exact h
    have k368 : ∀ t, Steps p.tables e below (T360.setTop (mkF m 251 #[.val (.long q0), .second, .val (.long q1), .second, .val (.long q2), .second, .val (.long q3), .second, .val (.int p4), .val (.int (1 : Int32)), .val (.int (Int32.ofNat n)), .val (.long q0), .second, .val (.long q1), .second, .val (.long (q2 &&& (33554431 : Int64))), .second, .val (.ref b296), .val (.ref br325), .val (.ref b329), .val (.long (q2 &&& (33554431 : Int64))), .second, .val (.int (1 : Int32))] [(.int (1 : Int32))])) t → Steps p.tables e below (s₁.setTop (mkF m 0 #[.val (.long q0), .second, .val (.long q1), .second, .val (.long q2), .second, .val (.long q3), .second, .val (.int p4), .unset, .unset, .unset, .unset, .unset, .unset, .unset, .unset, .unset, .unset, .unset, .unset, .unset, .unset] [])) t := by
      intro t h
      refine k367 t ?_
      show Steps p.tables e below (T360.setTop (mkF m 246 #[.val (.long q0), .second, .val (.long q1), .second, .val (.long q2), .second, .val (.long q3), .second, .val (.int p4), .val (.int (1 : Int32)), .val (.int (Int32.ofNat n)), .val (.long q0), .second, .val (.long q1), .second, .val (.long (q2 &&& (33554431 : Int64))), .second, .val (.ref b296), .val (.ref br325), .val (.ref b329), .val (.long (q2 &&& (33554431 : Int64))), .second, .val (.int (1 : Int32))] [(.int (1 : Int32))])) _
      refine XS.ifNo X360.here hx rfl (hb hby at_246) rfl ((if0 _ _).trans (feq (by decide : ¬ ((1 : Int32) = (0 : Int32)))).1) ?_
      refine XS.iload X360.here hx rfl (hb hby at_249) rfl ?_
      exact h
    obtain ⟨cl369, Ar369, hin369, hat369⟩ := own_LA.at (i := 1) (j := (1 : Int32)) Ao340 rfl (by decide) (by decide)
    have k370 : ∀ t, Steps p.tables e below (T360.setTop (mkF m 261 #[.val (.long q0), .second, .val (.long q1), .second, .val (.long q2), .second, .val (.long q3), .second, .val (.int p4), .val (.int (1 : Int32)), .val (.int (Int32.ofNat n)), .val (.long q0), .second, .val (.long q1), .second, .val (.long (q2 &&& (33554431 : Int64))), .second, .val (.ref b296), .val (.ref br325), .val (.ref b329), .val (.long (q2 &&& (33554431 : Int64))), .second, .val (.int (1 : Int32))] [(.int (lcmpW q1 q1))])) t → Steps p.tables e below (s₁.setTop (mkF m 0 #[.val (.long q0), .second, .val (.long q1), .second, .val (.long q2), .second, .val (.long q3), .second, .val (.int p4), .unset, .unset, .unset, .unset, .unset, .unset, .unset, .unset, .unset, .unset, .unset, .unset, .unset, .unset] [])) t := by
      intro t h
      refine k368 t ?_
      show Steps p.tables e below (T360.setTop (mkF m 251 #[.val (.long q0), .second, .val (.long q1), .second, .val (.long q2), .second, .val (.long q3), .second, .val (.int p4), .val (.int (1 : Int32)), .val (.int (Int32.ofNat n)), .val (.long q0), .second, .val (.long q1), .second, .val (.long (q2 &&& (33554431 : Int64))), .second, .val (.ref b296), .val (.ref br325), .val (.ref b329), .val (.long (q2 &&& (33554431 : Int64))), .second, .val (.int (1 : Int32))] [(.int (1 : Int32))])) _
      refine XS.ifNo X360.here hx rfl (hb hby at_251) rfl ((if0 _ _).trans (feq (by decide : ¬ ((1 : Int32) = (0 : Int32)))).1) ?_
      refine XS.aload X360.here hx rfl (hb hby at_254) rfl rfl ?_
      refine XS.iconst X360.here hx rfl (hb hby at_256) ?_
      refine X360.laload hx (j := (1 : Int32)) (v := (.long q1)) (by rw [eq360]; exact Ar369.1) (State.isArrayOf_alike hZ.alike Ar369.2.1) Ar369.2.2 hin369 hat369 (g := (mkF m 257 #[.val (.long q0), .second, .val (.long q1), .second, .val (.long q2), .second, .val (.long q3), .second, .val (.int p4), .val (.int (1 : Int32)), .val (.int (Int32.ofNat n)), .val (.long q0), .second, .val (.long q1), .second, .val (.long (q2 &&& (33554431 : Int64))), .second, .val (.ref b296), .val (.ref br325), .val (.ref b329), .val (.long (q2 &&& (33554431 : Int64))), .second, .val (.int (1 : Int32))] [(.int (1 : Int32)), (.ref b329)])) rfl rfl (hb hby at_257) _ ?_
      refine XS.lload X360.here hx rfl (hb hby at_258) rfl ?_
      refine XS.lcmp X360.here hx rfl (hb hby at_260) rfl ?_
      exact h
    have b261_371 : (lcmpW q1 q1) = (0 : Int32) := (lw_eq _ _).mpr rfl
    obtain ⟨cl372, Ar372, hin372, hat372⟩ := own_LA.at (i := 2) (j := (2 : Int32)) Ao340 rfl (by decide) (by decide)
    have k373 : ∀ t, Steps p.tables e below (T360.setTop (mkF m 271 #[.val (.long q0), .second, .val (.long q1), .second, .val (.long q2), .second, .val (.long q3), .second, .val (.int p4), .val (.int (1 : Int32)), .val (.int (Int32.ofNat n)), .val (.long q0), .second, .val (.long q1), .second, .val (.long (q2 &&& (33554431 : Int64))), .second, .val (.ref b296), .val (.ref br325), .val (.ref b329), .val (.long (q2 &&& (33554431 : Int64))), .second, .val (.int (1 : Int32))] [(.int (lcmpW (q2 &&& (33554431 : Int64)) (q2 &&& (33554431 : Int64))))])) t → Steps p.tables e below (s₁.setTop (mkF m 0 #[.val (.long q0), .second, .val (.long q1), .second, .val (.long q2), .second, .val (.long q3), .second, .val (.int p4), .unset, .unset, .unset, .unset, .unset, .unset, .unset, .unset, .unset, .unset, .unset, .unset, .unset, .unset] [])) t := by
      intro t h
      refine k370 t ?_
      show Steps p.tables e below (T360.setTop (mkF m 261 #[.val (.long q0), .second, .val (.long q1), .second, .val (.long q2), .second, .val (.long q3), .second, .val (.int p4), .val (.int (1 : Int32)), .val (.int (Int32.ofNat n)), .val (.long q0), .second, .val (.long q1), .second, .val (.long (q2 &&& (33554431 : Int64))), .second, .val (.ref b296), .val (.ref br325), .val (.ref b329), .val (.long (q2 &&& (33554431 : Int64))), .second, .val (.int (1 : Int32))] [(.int (lcmpW q1 q1))])) _
      refine XS.ifNo X360.here hx rfl (hb hby at_261) rfl ((if0 _ _).trans (teq b261_371).2) ?_
      refine XS.aload X360.here hx rfl (hb hby at_264) rfl rfl ?_
      refine XS.iconst X360.here hx rfl (hb hby at_266) ?_
      refine X360.laload hx (j := (2 : Int32)) (v := (.long (q2 &&& (33554431 : Int64)))) (by rw [eq360]; exact Ar372.1) (State.isArrayOf_alike hZ.alike Ar372.2.1) Ar372.2.2 hin372 hat372 (g := (mkF m 267 #[.val (.long q0), .second, .val (.long q1), .second, .val (.long q2), .second, .val (.long q3), .second, .val (.int p4), .val (.int (1 : Int32)), .val (.int (Int32.ofNat n)), .val (.long q0), .second, .val (.long q1), .second, .val (.long (q2 &&& (33554431 : Int64))), .second, .val (.ref b296), .val (.ref br325), .val (.ref b329), .val (.long (q2 &&& (33554431 : Int64))), .second, .val (.int (1 : Int32))] [(.int (2 : Int32)), (.ref b329)])) rfl rfl (hb hby at_267) _ ?_
      refine XS.lload X360.here hx rfl (hb hby at_268) rfl ?_
      refine XS.lcmp X360.here hx rfl (hb hby at_270) rfl ?_
      exact h
    have b271_374 : (lcmpW (q2 &&& (33554431 : Int64)) (q2 &&& (33554431 : Int64))) = (0 : Int32) := (lw_eq _ _).mpr rfl
    have k375 : ∀ t, Steps p.tables e below (T360.setTop (mkF m 283 #[.val (.long q0), .second, .val (.long q1), .second, .val (.long q2), .second, .val (.long q3), .second, .val (.int p4), .val (.int (1 : Int32)), .val (.int (Int32.ofNat n)), .val (.long q0), .second, .val (.long q1), .second, .val (.long (q2 &&& (33554431 : Int64))), .second, .val (.ref b296), .val (.ref br325), .val (.ref b329), .val (.long (q2 &&& (33554431 : Int64))), .second, .val (.int (1 : Int32))] [(.int (1 : Int32))])) t → Steps p.tables e below (s₁.setTop (mkF m 0 #[.val (.long q0), .second, .val (.long q1), .second, .val (.long q2), .second, .val (.long q3), .second, .val (.int p4), .unset, .unset, .unset, .unset, .unset, .unset, .unset, .unset, .unset, .unset, .unset, .unset, .unset, .unset] [])) t := by
      intro t h
      refine k373 t ?_
      show Steps p.tables e below (T360.setTop (mkF m 271 #[.val (.long q0), .second, .val (.long q1), .second, .val (.long q2), .second, .val (.long q3), .second, .val (.int p4), .val (.int (1 : Int32)), .val (.int (Int32.ofNat n)), .val (.long q0), .second, .val (.long q1), .second, .val (.long (q2 &&& (33554431 : Int64))), .second, .val (.ref b296), .val (.ref br325), .val (.ref b329), .val (.long (q2 &&& (33554431 : Int64))), .second, .val (.int (1 : Int32))] [(.int (lcmpW (q2 &&& (33554431 : Int64)) (q2 &&& (33554431 : Int64))))])) _
      refine XS.ifNo X360.here hx rfl (hb hby at_271) rfl ((if0 _ _).trans (teq b271_374).2) ?_
      refine XS.iconst X360.here hx rfl (hb hby at_274) ?_
      refine XS.goto X360.here hx rfl (pc0 := 275) (pc' := 279) rfl (hb hby at_275) (by decide) (by decide) ?_
      refine XS.istore X360.here hx rfl (hb hby at_279) rfl (l' := #[.val (.long q0), .second, .val (.long q1), .second, .val (.long q2), .second, .val (.long q3), .second, .val (.int p4), .val (.int (1 : Int32)), .val (.int (Int32.ofNat n)), .val (.long q0), .second, .val (.long q1), .second, .val (.long (q2 &&& (33554431 : Int64))), .second, .val (.ref b296), .val (.ref br325), .val (.ref b329), .val (.long (q2 &&& (33554431 : Int64))), .second, .val (.int (1 : Int32))]) rfl ?_
      refine XS.iload X360.here hx rfl (hb hby at_281) rfl ?_
      exact h
    obtain ⟨fs, hr, hrun, hended, hW, hsame⟩ := X360.leave (v := some (.int (1 : Int32))) (fun h => by rw [Bd.returns] at h; cases h) Bd.notSynchronized
    refine ⟨_, _, pre0 _ (k375 _ ?_), hrun, hended, _, _, rfl, ?_, ⟨_, rfl⟩, hW, hsame.mono (by decide) (by decide)⟩
    · exact retN X360 hx (t := .boolean) Bd.returns (by simp) (hb hby at_283) hr
    · show Q_rm0 Z _ _ _ _ _ h0 n0 _ T360.heap _
      rw [eq360]
      exact ⟨rfl, N360⟩
  · skip
    obtain ⟨n, hn, en⟩ := own_modn p4 3 3 rfl (by decide)
    have k376 : ∀ t, Steps p.tables e below (s₁.setTop (mkF m 22 #[.val (.long q0), .second, .val (.long q1), .second, .val (.long q2), .second, .val (.long q3), .second, .val (.int p4), .val (.int (0 : Int32)), .val (.int ((p4 &&& (2147483647 : Int32)) % (3 : Int32))), .unset, .unset, .unset, .unset, .unset, .unset, .unset, .unset, .unset, .unset, .unset, .unset] [])) t → Steps p.tables e below (s₁.setTop (mkF m 0 #[.val (.long q0), .second, .val (.long q1), .second, .val (.long q2), .second, .val (.long q3), .second, .val (.int p4), .unset, .unset, .unset, .unset, .unset, .unset, .unset, .unset, .unset, .unset, .unset, .unset, .unset, .unset] [])) t := by
      intro t h
      refine k290 t ?_
      show Steps p.tables e below (s₁.setTop (mkF m 3 #[.val (.long q0), .second, .val (.long q1), .second, .val (.long q2), .second, .val (.long q3), .second, .val (.int p4), .unset, .unset, .unset, .unset, .unset, .unset, .unset, .unset, .unset, .unset, .unset, .unset, .unset, .unset] [(.int (lcmpW q0 (0 : Int64)))])) _
      refine XS.ifYes X0.here hx rfl (pc0 := 3) (pc' := 10) rfl (hb hby at_3) rfl ((if0 _ _).trans (flt c3_291).2.1) (by decide) (by decide) ?_
      refine XS.iconst X0.here hx rfl (hb hby at_10) ?_
      refine XS.istore X0.here hx rfl (hb hby at_11) rfl (l' := #[.val (.long q0), .second, .val (.long q1), .second, .val (.long q2), .second, .val (.long q3), .second, .val (.int p4), .val (.int (0 : Int32)), .unset, .unset, .unset, .unset, .unset, .unset, .unset, .unset, .unset, .unset, .unset, .unset, .unset]) rfl ?_
      refine XS.iload X0.here hx rfl (hb hby at_13) rfl ?_
      refine X0.ldcInt hx hown (mvT hZ (hw _ (List.mem_of_getElem? (i := 0) rfl))) (g := (mkF m 15 #[.val (.long q0), .second, .val (.long q1), .second, .val (.long q2), .second, .val (.long q3), .second, .val (.int p4), .val (.int (0 : Int32)), .unset, .unset, .unset, .unset, .unset, .unset, .unset, .unset, .unset, .unset, .unset, .unset, .unset] [(.int p4)])) rfl (hb hby at_15) _ ?_
      refine XS.iand X0.here hx rfl (hb hby at_17) rfl ?_
      refine XS.iconst X0.here hx rfl (hb hby at_18) ?_
      refine iremM (g := (mkF m 19 #[.val (.long q0), .second, .val (.long q1), .second, .val (.long q2), .second, .val (.long q3), .second, .val (.int p4), .val (.int (0 : Int32)), .unset, .unset, .unset, .unset, .unset, .unset, .unset, .unset, .unset, .unset, .unset, .unset, .unset] [(.int (3 : Int32)), (.int (p4 &&& (2147483647 : Int32)))])) X0 hx rfl (hb hby at_19) rfl (by decide) ?_
      refine XS.istore X0.here hx rfl (hb hby at_20) rfl (l' := #[.val (.long q0), .second, .val (.long q1), .second, .val (.long q2), .second, .val (.long q3), .second, .val (.int p4), .val (.int (0 : Int32)), .val (.int ((p4 &&& (2147483647 : Int32)) % (3 : Int32))), .unset, .unset, .unset, .unset, .unset, .unset, .unset, .unset, .unset, .unset, .unset, .unset]) rfl ?_
      exact h
    have r377 : ((p4 &&& (2147483647 : Int32)) % (3 : Int32)) = (Int32.ofNat n) := en
    have k378 : ∀ t, Steps p.tables e below (s₁.setTop (mkF m 22 #[.val (.long q0), .second, .val (.long q1), .second, .val (.long q2), .second, .val (.long q3), .second, .val (.int p4), .val (.int (0 : Int32)), .val (.int (Int32.ofNat n)), .unset, .unset, .unset, .unset, .unset, .unset, .unset, .unset, .unset, .unset, .unset, .unset] [])) t → Steps p.tables e below (s₁.setTop (mkF m 0 #[.val (.long q0), .second, .val (.long q1), .second, .val (.long q2), .second, .val (.long q3), .second, .val (.int p4), .unset, .unset, .unset, .unset, .unset, .unset, .unset, .unset, .unset, .unset, .unset, .unset, .unset, .unset] [])) t := by first | (rw [← r377]; exact k376) | exact k376
    have k379 : ∀ t, Steps p.tables e below (s₁.setTop (mkF m 24 #[.val (.long q0), .second, .val (.long q1), .second, .val (.long q2), .second, .val (.long q3), .second, .val (.int p4), .val (.int (0 : Int32)), .val (.int (Int32.ofNat n)), .unset, .unset, .unset, .unset, .unset, .unset, .unset, .unset, .unset, .unset, .unset, .unset] [(.int (0 : Int32))])) t → Steps p.tables e below (s₁.setTop (mkF m 0 #[.val (.long q0), .second, .val (.long q1), .second, .val (.long q2), .second, .val (.long q3), .second, .val (.int p4), .unset, .unset, .unset, .unset, .unset, .unset, .unset, .unset, .unset, .unset, .unset, .unset, .unset, .unset] [])) t := by
      intro t h
      refine k378 t ?_
      refine XS.iload X0.here hx rfl (hb hby at_22) rfl ?_
      exact h
    obtain ⟨T380, h380, k380, X380, e380, E380, A380, st380⟩ := newP X0 hx hZ (hw _ (List.mem_of_getElem? (i := 3) rfl)) e0 (g := (mkF m 50 #[.val (.long q0), .second, .val (.long q1), .second, .val (.long q2), .second, .val (.long q3), .second, .val (.int p4), .val (.int (0 : Int32)), .val (.int (Int32.ofNat n)), .val (.long (q0 &&& (9223372034724069375 : Int64))), .second, .val (.long q1), .second, .val (.long (q2 &&& (33554431 : Int64))), .second, .unset, .unset, .unset, .unset, .unset, .unset] [(.int (5 : Int32))])) rfl (hb hby at_50) rfl (by decide) (cap := 5) (by decide) (by decide) (by decide) (by decide)
    obtain ⟨b380, g380⟩ : ∃ z, z = h0.size := ⟨_, rfl⟩
    rw [← g380] at A380 st380
    have g_b380 : n0 ≤ b380 := Nat.le_trans Z0 (Nat.le_of_eq g380.symm)
    have sz_b380 : h0.size ≤ b380 := Nat.le_trans K0.1 (Nat.le_of_eq g380.symm)
    have Z381 : n0 ≤ h380.size := Nat.le_trans Z0 E380.1
    have K382 := K0.ext E380
    have V380 : own_LA Z h380 b380 5 (fun _ => 0) := own_LA.new A380 rfl
    obtain ⟨cl383, Ar383, hin383, hat383⟩ := own_LA.at (i := 0) (j := (0 : Int32)) V380 rfl (by decide) (by decide)
    obtain ⟨T383, h383, X383, e383, W383, st383⟩ := stJ X380 hx hZ e380 Ar383 (j := (0 : Int32)) hin383 (g := (mkF m 56 #[.val (.long q0), .second, .val (.long q1), .second, .val (.long q2), .second, .val (.long q3), .second, .val (.int p4), .val (.int (0 : Int32)), .val (.int (Int32.ofNat n)), .val (.long (q0 &&& (9223372034724069375 : Int64))), .second, .val (.long q1), .second, .val (.long (q2 &&& (33554431 : Int64))), .second, .unset, .unset, .unset, .unset, .unset, .unset] [(.long q3), (.int (0 : Int32)), (.ref b380), (.ref b380)])) rfl rfl (hb hby at_56)
    have V383 := own_LA.set V380 W383 rfl (by decide) (by decide)
    have Z384 : n0 ≤ h383.size := Nat.le_trans Z381 (Keep.of_wr W383).1
    have K385 := K382.wr W383 (Or.inr sz_b380)
    have N383 := Fr.snoc X383 N0 g_b380
    obtain ⟨cl386, Ar386, hin386, hat386⟩ := own_LA.at (i := 1) (j := (1 : Int32)) V383 rfl (by decide) (by decide)
    obtain ⟨T386, h386, X386, e386, W386, st386⟩ := stJ X383 hx hZ e383 Ar386 (j := (1 : Int32)) hin386 (g := (mkF m 61 #[.val (.long q0), .second, .val (.long q1), .second, .val (.long q2), .second, .val (.long q3), .second, .val (.int p4), .val (.int (0 : Int32)), .val (.int (Int32.ofNat n)), .val (.long (q0 &&& (9223372034724069375 : Int64))), .second, .val (.long q1), .second, .val (.long (q2 &&& (33554431 : Int64))), .second, .unset, .unset, .unset, .unset, .unset, .unset] [(.long q3), (.int (1 : Int32)), (.ref b380), (.ref b380)])) rfl rfl (hb hby at_61)
    have V386 := own_LA.set V383 W386 rfl (by decide) (by decide)
    have Z387 : n0 ≤ h386.size := Nat.le_trans Z384 (Keep.of_wr W386).1
    have K388 := K385.wr W386 (Or.inr sz_b380)
    have N386 := Fr.snoc X386 N383 g_b380
    have k389 : ∀ t, Steps p.tables e below (T386.setTop (mkF m 62 #[.val (.long q0), .second, .val (.long q1), .second, .val (.long q2), .second, .val (.long q3), .second, .val (.int p4), .val (.int (0 : Int32)), .val (.int (Int32.ofNat n)), .val (.long (q0 &&& (9223372034724069375 : Int64))), .second, .val (.long q1), .second, .val (.long (q2 &&& (33554431 : Int64))), .second, .unset, .unset, .unset, .unset, .unset, .unset] [(.ref b380)])) t → Steps p.tables e below (s₁.setTop (mkF m 0 #[.val (.long q0), .second, .val (.long q1), .second, .val (.long q2), .second, .val (.long q3), .second, .val (.int p4), .unset, .unset, .unset, .unset, .unset, .unset, .unset, .unset, .unset, .unset, .unset, .unset, .unset, .unset] [])) t := by
      intro t h
      refine k379 t ?_
      show Steps p.tables e below (s₁.setTop (mkF m 24 #[.val (.long q0), .second, .val (.long q1), .second, .val (.long q2), .second, .val (.long q3), .second, .val (.int p4), .val (.int (0 : Int32)), .val (.int (Int32.ofNat n)), .unset, .unset, .unset, .unset, .unset, .unset, .unset, .unset, .unset, .unset, .unset, .unset] [(.int (0 : Int32))])) _
      refine XS.ifYes X0.here hx rfl (pc0 := 24) (pc' := 31) rfl (hb hby at_24) rfl ((if0 _ _).trans (teq (by decide : (0 : Int32) = (0 : Int32))).1) (by decide) (by decide) ?_
      refine XS.lloadN X0.here hx rfl (hb hby at_31) rfl ?_
      refine X0.ldc2Long hx hown (mvT hZ (hw _ (List.mem_of_getElem? (i := 1) rfl))) (g := (mkF m 32 #[.val (.long q0), .second, .val (.long q1), .second, .val (.long q2), .second, .val (.long q3), .second, .val (.int p4), .val (.int (0 : Int32)), .val (.int (Int32.ofNat n)), .unset, .unset, .unset, .unset, .unset, .unset, .unset, .unset, .unset, .unset, .unset, .unset] [(.long q0)])) rfl (hb hby at_32) _ ?_
      refine XS.land X0.here hx rfl (hb hby at_35) rfl ?_
      refine XS.lstore X0.here hx rfl (hb hby at_36) rfl (l' := #[.val (.long q0), .second, .val (.long q1), .second, .val (.long q2), .second, .val (.long q3), .second, .val (.int p4), .val (.int (0 : Int32)), .val (.int (Int32.ofNat n)), .val (.long (q0 &&& (9223372034724069375 : Int64))), .second, .unset, .unset, .unset, .unset, .unset, .unset, .unset, .unset, .unset, .unset]) rfl ?_
      refine XS.lloadN X0.here hx rfl (hb hby at_38) rfl ?_
      refine XS.lstore X0.here hx rfl (hb hby at_39) rfl (l' := #[.val (.long q0), .second, .val (.long q1), .second, .val (.long q2), .second, .val (.long q3), .second, .val (.int p4), .val (.int (0 : Int32)), .val (.int (Int32.ofNat n)), .val (.long (q0 &&& (9223372034724069375 : Int64))), .second, .val (.long q1), .second, .unset, .unset, .unset, .unset, .unset, .unset, .unset, .unset]) rfl ?_
      refine XS.lload X0.here hx rfl (hb hby at_41) rfl ?_
      refine X0.ldc2Long hx hown (mvT hZ (hw _ (List.mem_of_getElem? (i := 2) rfl))) (g := (mkF m 43 #[.val (.long q0), .second, .val (.long q1), .second, .val (.long q2), .second, .val (.long q3), .second, .val (.int p4), .val (.int (0 : Int32)), .val (.int (Int32.ofNat n)), .val (.long (q0 &&& (9223372034724069375 : Int64))), .second, .val (.long q1), .second, .unset, .unset, .unset, .unset, .unset, .unset, .unset, .unset] [(.long q2)])) rfl (hb hby at_43) _ ?_
      refine XS.land X0.here hx rfl (hb hby at_46) rfl ?_
      refine XS.lstore X0.here hx rfl (hb hby at_47) rfl (l' := #[.val (.long q0), .second, .val (.long q1), .second, .val (.long q2), .second, .val (.long q3), .second, .val (.int p4), .val (.int (0 : Int32)), .val (.int (Int32.ofNat n)), .val (.long (q0 &&& (9223372034724069375 : Int64))), .second, .val (.long q1), .second, .val (.long (q2 &&& (33554431 : Int64))), .second, .unset, .unset, .unset, .unset, .unset, .unset]) rfl ?_
      refine XS.iconst X0.here hx rfl (hb hby at_49) ?_
      refine st380 _ ?_
      refine XS.dup X380.here hx rfl (hb hby at_52) rfl rfl ?_
      refine XS.iconst X380.here hx rfl (hb hby at_53) ?_
      refine XS.lload X380.here hx rfl (hb hby at_54) rfl ?_
      refine st383 _ ?_
      refine XS.dup X383.here hx rfl (hb hby at_57) rfl rfl ?_
      refine XS.iconst X383.here hx rfl (hb hby at_58) ?_
      refine XS.lload X383.here hx rfl (hb hby at_59) rfl ?_
      refine st386 _ ?_
      exact h
    obtain ⟨cl390, Ar390, hin390, hat390⟩ := own_LA.at (i := 2) (j := (2 : Int32)) V386 rfl (by decide) (by decide)
    obtain ⟨T390, h390, X390, e390, W390, st390⟩ := stJ X386 hx hZ e386 Ar390 (j := (2 : Int32)) hin390 (g := (mkF m 66 #[.val (.long q0), .second, .val (.long q1), .second, .val (.long q2), .second, .val (.long q3), .second, .val (.int p4), .val (.int (0 : Int32)), .val (.int (Int32.ofNat n)), .val (.long (q0 &&& (9223372034724069375 : Int64))), .second, .val (.long q1), .second, .val (.long (q2 &&& (33554431 : Int64))), .second, .unset, .unset, .unset, .unset, .unset, .unset] [(.long q3), (.int (2 : Int32)), (.ref b380), (.ref b380)])) rfl rfl (hb hby at_66)
    have V390 := own_LA.set V386 W390 rfl (by decide) (by decide)
    have Z391 : n0 ≤ h390.size := Nat.le_trans Z387 (Keep.of_wr W390).1
    have K392 := K388.wr W390 (Or.inr sz_b380)
    have N390 := Fr.snoc X390 N386 g_b380
    obtain ⟨cl393, Ar393, hin393, hat393⟩ := own_LA.at (i := 3) (j := (3 : Int32)) V390 rfl (by decide) (by decide)
    obtain ⟨T393, h393, X393, e393, W393, st393⟩ := stJ X390 hx hZ e390 Ar393 (j := (3 : Int32)) hin393 (g := (mkF m 71 #[.val (.long q0), .second, .val (.long q1), .second, .val (.long q2), .second, .val (.long q3), .second, .val (.int p4), .val (.int (0 : Int32)), .val (.int (Int32.ofNat n)), .val (.long (q0 &&& (9223372034724069375 : Int64))), .second, .val (.long q1), .second, .val (.long (q2 &&& (33554431 : Int64))), .second, .unset, .unset, .unset, .unset, .unset, .unset] [(.long q3), (.int (3 : Int32)), (.ref b380), (.ref b380)])) rfl rfl (hb hby at_71)
    have V393 := own_LA.set V390 W393 rfl (by decide) (by decide)
    have Z394 : n0 ≤ h393.size := Nat.le_trans Z391 (Keep.of_wr W393).1
    have K395 := K392.wr W393 (Or.inr sz_b380)
    have N393 := Fr.snoc X393 N390 g_b380
    obtain ⟨cl396, Ar396, hin396, hat396⟩ := own_LA.at (i := 4) (j := (4 : Int32)) V393 rfl (by decide) (by decide)
    obtain ⟨T396, h396, X396, e396, W396, st396⟩ := stJ X393 hx hZ e393 Ar396 (j := (4 : Int32)) hin396 (g := (mkF m 76 #[.val (.long q0), .second, .val (.long q1), .second, .val (.long q2), .second, .val (.long q3), .second, .val (.int p4), .val (.int (0 : Int32)), .val (.int (Int32.ofNat n)), .val (.long (q0 &&& (9223372034724069375 : Int64))), .second, .val (.long q1), .second, .val (.long (q2 &&& (33554431 : Int64))), .second, .unset, .unset, .unset, .unset, .unset, .unset] [(.long q3), (.int (4 : Int32)), (.ref b380), (.ref b380)])) rfl rfl (hb hby at_76)
    have V396 := own_LA.set V393 W396 rfl (by decide) (by decide)
    have Z397 : n0 ≤ h396.size := Nat.le_trans Z394 (Keep.of_wr W396).1
    have K398 := K395.wr W396 (Or.inr sz_b380)
    have N396 := Fr.snoc X396 N393 g_b380
    obtain ⟨cl399, Ar399, hin399, hat399⟩ := own_LA.at (i := n) (j := (Int32.ofNat n)) V396 rfl (by omega) (by decide)
    obtain ⟨T399, h399, X399, e399, W399, st399⟩ := stJ X396 hx hZ e396 Ar399 (j := (Int32.ofNat n)) hin399 (g := (mkF m 85 #[.val (.long q0), .second, .val (.long q1), .second, .val (.long q2), .second, .val (.long q3), .second, .val (.int p4), .val (.int (0 : Int32)), .val (.int (Int32.ofNat n)), .val (.long (q0 &&& (9223372034724069375 : Int64))), .second, .val (.long q1), .second, .val (.long (q2 &&& (33554431 : Int64))), .second, .val (.ref b380), .unset, .unset, .unset, .unset, .unset] [(.long (q0 &&& (9223372034724069375 : Int64))), (.int (Int32.ofNat n)), (.ref b380)])) rfl rfl (hb hby at_85)
    have V399 := own_LA.set V396 W399 rfl (by omega) (by decide)
    have Z400 : n0 ≤ h399.size := Nat.le_trans Z397 (Keep.of_wr W399).1
    have K401 := K398.wr W399 (Or.inr sz_b380)
    have N399 := Fr.snoc X399 N396 g_b380
    have k402 : ∀ t, Steps p.tables e below (T399.setTop (mkF m 88 #[.val (.long q0), .second, .val (.long q1), .second, .val (.long q2), .second, .val (.long q3), .second, .val (.int p4), .val (.int (0 : Int32)), .val (.int (Int32.ofNat n)), .val (.long (q0 &&& (9223372034724069375 : Int64))), .second, .val (.long q1), .second, .val (.long (q2 &&& (33554431 : Int64))), .second, .val (.ref b380), .unset, .unset, .unset, .unset, .unset] [(.int (0 : Int32))])) t → Steps p.tables e below (s₁.setTop (mkF m 0 #[.val (.long q0), .second, .val (.long q1), .second, .val (.long q2), .second, .val (.long q3), .second, .val (.int p4), .unset, .unset, .unset, .unset, .unset, .unset, .unset, .unset, .unset, .unset, .unset, .unset, .unset, .unset] [])) t := by
      intro t h
      refine k389 t ?_
      refine XS.dup X386.here hx rfl (hb hby at_62) rfl rfl ?_
      refine XS.iconst X386.here hx rfl (hb hby at_63) ?_
      refine XS.lload X386.here hx rfl (hb hby at_64) rfl ?_
      refine st390 _ ?_
      refine XS.dup X390.here hx rfl (hb hby at_67) rfl rfl ?_
      refine XS.iconst X390.here hx rfl (hb hby at_68) ?_
      refine XS.lload X390.here hx rfl (hb hby at_69) rfl ?_
      refine st393 _ ?_
      refine XS.dup X393.here hx rfl (hb hby at_72) rfl rfl ?_
      refine XS.iconst X393.here hx rfl (hb hby at_73) ?_
      refine XS.lload X393.here hx rfl (hb hby at_74) rfl ?_
      refine st396 _ ?_
      refine XS.astore X396.here hx rfl (hb hby at_77) rfl rfl (l' := #[.val (.long q0), .second, .val (.long q1), .second, .val (.long q2), .second, .val (.long q3), .second, .val (.int p4), .val (.int (0 : Int32)), .val (.int (Int32.ofNat n)), .val (.long (q0 &&& (9223372034724069375 : Int64))), .second, .val (.long q1), .second, .val (.long (q2 &&& (33554431 : Int64))), .second, .val (.ref b380), .unset, .unset, .unset, .unset, .unset]) rfl ?_
      refine XS.aload X396.here hx rfl (hb hby at_79) rfl rfl ?_
      refine XS.iload X396.here hx rfl (hb hby at_81) rfl ?_
      refine XS.lload X396.here hx rfl (hb hby at_83) rfl ?_
      refine st399 _ ?_
      refine XS.iload X399.here hx rfl (hb hby at_86) rfl ?_
      exact h
    obtain ⟨_, _, ⟨T403, L403, k403, n403⟩, -, X403, ⟨Lc403, hQ403, l403, y403, z403⟩, st403⟩ := Jvm.LawKit.callS X399 hx (y := (⟨"com/example/mynah/mynah/rpsl/PrefixRange", "ofKey", "([JI)Lcom/example/mynah/mynah/rpsl/PrefixRange;"⟩ : MethodName)) hown (mvT hZ (hw _ (List.mem_of_getElem? (i := 4) rfl))) (mvT hZ (hw _ (List.mem_of_getElem? (i := 5) rfl))) (mvT hZ (hw _ (List.mem_of_getElem? (i := 6) rfl))) (mvT hZ (hw _ (List.mem_of_getElem? (i := 7) rfl))) (by decide) (backOf (W := 0) (rmK4 l Z a0 hw [] b380 (Int32.ofNat n) n (fun k => if k = n then (q0 &&& (9223372034724069375 : Int64)) else ((fun k => if k = 4 then q3 else ((fun k => if k = 3 then q3 else ((fun k => if k = 2 then q3 else ((fun k => if k = 1 then q3 else ((fun k => if k = 0 then q3 else ((fun _ => 0)) k)) k)) k)) k)) k)) k) (q0 &&& (9223372034724069375 : Int64)) h399 n0 Z400 V399 rfl hn (by simp) (by rw [lw_lt]; intro q; have := (own_gap q0).1; rw [Int64.lt_iff_toInt_lt] at q; have e : (0 : Int64).toInt = 0 := (by decide); omega)) hZ (hw _ (List.mem_of_getElem? (i := 7) rfl)) (hw _ (List.mem_of_getElem? (i := 6) rfl)) (by decide) (by decide)) (g := (mkF m 113 #[.val (.long q0), .second, .val (.long q1), .second, .val (.long q2), .second, .val (.long q3), .second, .val (.int p4), .val (.int (0 : Int32)), .val (.int (Int32.ofNat n)), .val (.long (q0 &&& (9223372034724069375 : Int64))), .second, .val (.long q1), .second, .val (.long (q2 &&& (33554431 : Int64))), .second, .val (.ref b380), .unset, .unset, .unset, .unset, .unset] [(.int (Int32.ofNat n)), (.ref b380)])) rfl (by rw [hml]; rfl) (argsL := [(.ref b380), (.int (Int32.ofNat n))]) (rest := []) (lenOf own_pd_2 rfl) rfl (by show 2 * 0 + _ ≤ _; exact Nat.le_of_eq rfl) (hb hby at_113) (fun _ _ => ⟨rfl, e399, (by decide : 1 + 2 ≤ _), (by decide : 5 + 8 ≤ _)⟩)
    dsimp only [Pt.U, Pt.locs, Pt.cells, Pt.slots] at X403 l403 y403 z403 st403 hQ403
    subst l403 y403 z403
    obtain ⟨br403, ba403, rfl, Nq403, Kq403, Er403, Fr4030, Ar403b, Fr4031, Fr4032, Fr4033⟩ := hQ403
    have N403 := Fr.app N399 Nq403
    have f404 := V399.keep Kq403 nin0
    have Z405 : n0 ≤ T403.heap.size := Nat.le_trans Z400 Kq403.1
    have K406 := K401.trans Kq403 all0
    obtain ⟨T407, h407, k407, X407, e407, E407, A407, st407⟩ := newP X403 hx hZ (hw _ (List.mem_of_getElem? (i := 3) rfl)) rfl (g := (mkF m 119 #[.val (.long q0), .second, .val (.long q1), .second, .val (.long q2), .second, .val (.long q3), .second, .val (.int p4), .val (.int (0 : Int32)), .val (.int (Int32.ofNat n)), .val (.long (q0 &&& (9223372034724069375 : Int64))), .second, .val (.long q1), .second, .val (.long (q2 &&& (33554431 : Int64))), .second, .val (.ref b380), .val (.ref br403), .unset, .unset, .unset, .unset] [(.int (3 : Int32))])) rfl (hb hby at_119) rfl (by decide) (cap := 3) (by decide) (by decide) (by decide) (by decide)
    obtain ⟨b407, g407⟩ : ∃ z, z = T403.heap.size := ⟨_, rfl⟩
    rw [← g407] at A407 st407
    have ne_b380_b407 : b380 ≠ b407 := Nat.ne_of_lt (Nat.lt_of_lt_of_le f404.lt (Nat.le_of_eq g407.symm))
    have ne_br403_b407 : br403 ≠ b407 := Nat.ne_of_lt (Nat.lt_of_lt_of_le Er403.lt (Nat.le_of_eq g407.symm))
    have ne_ba403_b407 : ba403 ≠ b407 := Nat.ne_of_lt (Nat.lt_of_lt_of_le Ar403b.lt (Nat.le_of_eq g407.symm))
    have g_b407 : n0 ≤ b407 := Nat.le_trans Z405 (Nat.le_of_eq g407.symm)
    have sz_b407 : h0.size ≤ b407 := Nat.le_trans K406.1 (Nat.le_of_eq g407.symm)
    have f408 := f404.ext E407
    have f409 := Er403.ext E407
    have f410 := Fr4030.ext E407
    have f411 := Ar403b.ext E407
    have f412 := Fr4031.ext E407
    have f413 := Fr4032.ext E407
    have f414 := Fr4033.ext E407
    have Z415 : n0 ≤ h407.size := Nat.le_trans Z405 E407.1
    have K416 := K406.ext E407
    have V407 : own_LA Z h407 b407 3 (fun _ => 0) := own_LA.new A407 rfl
    obtain ⟨cq417, kq417, q417a, q417b, q417c⟩ := isOf hZ e407 f409
    obtain ⟨_, _, ⟨T417, L417, k417, n417⟩, -, X417, ⟨Lc417, hQ417, l417, y417, z417⟩, st417⟩ := X407.virtualBack hx (y := (⟨"com/example/mynah/mynah/rpsl/PrefixRange", "writeKey", "([JI)V"⟩ : MethodName)) (z := (⟨"com/example/mynah/mynah/rpsl/PrefixRange", "writeKey", "([JI)V"⟩ : MethodName)) hown (mvT hZ (hw _ (List.mem_of_getElem? (i := 26) rfl))) (mvT hZ (hw _ (List.mem_of_getElem? (i := 27) rfl))) (notFace_of_selects (args := #[]) (mvT hZ (hw _ (List.mem_of_getElem? (i := 29) rfl)))) (mvT hZ (hw _ (List.mem_of_getElem? (i := 29) rfl))) (mvT hZ (hw _ (List.mem_of_getElem? (i := 28) rfl))) (by decide) (backOf (W := 0) (rmW4 l Z a0 hw [] br403 b407 (0 : Int32) ba403 (own_f (own_hi4 (q0 &&& (9223372034724069375 : Int64))) (0 : Int64)) (q0 &&& (9223372034724069375 : Int64)) (fun _ => 0) h407 n0 Z415 f410 f411 f409 f412 f413 f414 V407 g_b407 ne_br403_b407 ne_ba403_b407 rfl) hZ (hw _ (List.mem_of_getElem? (i := 30) rfl)) (hw _ (List.mem_of_getElem? (i := 6) rfl)) (by decide) (by decide)) q417a q417c (g := (mkF m 128 #[.val (.long q0), .second, .val (.long q1), .second, .val (.long q2), .second, .val (.long q3), .second, .val (.int p4), .val (.int (0 : Int32)), .val (.int (Int32.ofNat n)), .val (.long (q0 &&& (9223372034724069375 : Int64))), .second, .val (.long q1), .second, .val (.long (q2 &&& (33554431 : Int64))), .second, .val (.ref b380), .val (.ref br403), .val (.ref b407), .unset, .unset, .unset] [(.int (0 : Int32)), (.ref b407), (.ref br403)])) rfl (by rw [hml]; rfl) (Steps.refl _) (argsL := [(.ref b407), (.int (0 : Int32))]) (rest := []) (lenOf own_pd_3 rfl) rfl (by show 2 * 0 + _ ≤ _; exact Nat.le_of_eq rfl) (hb hby at_128) (fun _ _ => ⟨rfl, e407, (by decide : 4 + 0 ≤ _), (by decide : 16 + 0 ≤ _)⟩)
    dsimp only [Pt.U, Pt.locs, Pt.cells, Pt.slots] at X417 l417 y417 z417 st417 hQ417
    subst l417 y417 z417
    obtain ⟨rfl, Nq417, Kq417, Ao417⟩ := hQ417
    have N417 := Fr.app N403 Nq417
    have f418 := f408.keep Kq417 (ninS ne_b380_b407 nin0)
    have f419 := f409.keep Kq417
    have f420 := f410.keep Kq417 (ninS ne_br403_b407 nin0)
    have f421 := f411.keep Kq417 (ninS ne_ba403_b407 nin0)
    have f422 := f412.keep Kq417 (ninS ne_br403_b407 nin0)
    have f423 := f413.keep Kq417 (ninS ne_br403_b407 nin0)
    have f424 := f414.keep Kq417 (ninS ne_br403_b407 nin0)
    have Z425 : n0 ≤ T417.heap.size := Nat.le_trans Z415 Kq417.1
    have K426 := K416.trans Kq417 (allS (Or.inr sz_b407) all0)
    rw [(own_H_hi _ _).1, own_O4 _ (own_gap q0).1 (own_gap q0).2] at Ao417
    have k427 : ∀ t, Steps p.tables e below (T417.setTop (mkF m 133 #[.val (.long q0), .second, .val (.long q1), .second, .val (.long q2), .second, .val (.long q3), .second, .val (.int p4), .val (.int (0 : Int32)), .val (.int (Int32.ofNat n)), .val (.long (q0 &&& (9223372034724069375 : Int64))), .second, .val (.long q1), .second, .val (.long (q2 &&& (33554431 : Int64))), .second, .val (.ref b380), .val (.ref br403), .val (.ref b407), .unset, .unset, .unset] [(.int (0 : Int32))])) t → Steps p.tables e below (s₁.setTop (mkF m 0 #[.val (.long q0), .second, .val (.long q1), .second, .val (.long q2), .second, .val (.long q3), .second, .val (.int p4), .unset, .unset, .unset, .unset, .unset, .unset, .unset, .unset, .unset, .unset, .unset, .unset, .unset, .unset] [])) t := by
      intro t h
      refine k402 t ?_
      show Steps p.tables e below (T399.setTop (mkF m 88 #[.val (.long q0), .second, .val (.long q1), .second, .val (.long q2), .second, .val (.long q3), .second, .val (.int p4), .val (.int (0 : Int32)), .val (.int (Int32.ofNat n)), .val (.long (q0 &&& (9223372034724069375 : Int64))), .second, .val (.long q1), .second, .val (.long (q2 &&& (33554431 : Int64))), .second, .val (.ref b380), .unset, .unset, .unset, .unset, .unset] [(.int (0 : Int32))])) _
      refine XS.ifYes X399.here hx rfl (pc0 := 88) (pc' := 109) rfl (hb hby at_88) rfl ((if0 _ _).trans (teq (by decide : (0 : Int32) = (0 : Int32))).1) (by decide) (by decide) ?_
      refine XS.aload X399.here hx rfl (hb hby at_109) rfl rfl ?_
      refine XS.iload X399.here hx rfl (hb hby at_111) rfl ?_
      refine st403 _ ?_
      refine XS.astore X403.here hx rfl (hb hby at_116) rfl rfl (l' := #[.val (.long q0), .second, .val (.long q1), .second, .val (.long q2), .second, .val (.long q3), .second, .val (.int p4), .val (.int (0 : Int32)), .val (.int (Int32.ofNat n)), .val (.long (q0 &&& (9223372034724069375 : Int64))), .second, .val (.long q1), .second, .val (.long (q2 &&& (33554431 : Int64))), .second, .val (.ref b380), .val (.ref br403), .unset, .unset, .unset, .unset]) rfl ?_
      refine XS.iconst X403.here hx rfl (hb hby at_118) ?_
      refine st407 _ ?_
      refine XS.astore X407.here hx rfl (hb hby at_121) rfl rfl (l' := #[.val (.long q0), .second, .val (.long q1), .second, .val (.long q2), .second, .val (.long q3), .second, .val (.int p4), .val (.int (0 : Int32)), .val (.int (Int32.ofNat n)), .val (.long (q0 &&& (9223372034724069375 : Int64))), .second, .val (.long q1), .second, .val (.long (q2 &&& (33554431 : Int64))), .second, .val (.ref b380), .val (.ref br403), .val (.ref b407), .unset, .unset, .unset]) rfl ?_
      refine XS.aload X407.here hx rfl (hb hby at_123) rfl rfl ?_
      refine XS.aload X407.here hx rfl (hb hby at_125) rfl rfl ?_
      refine XS.iconst X407.here hx rfl (hb hby at_127) ?_
      refine st417.trans ?_
      refine XS.iload X417.here hx rfl (hb hby at_131) rfl ?_
      exact h
    obtain ⟨cq428, kq428, q428a, q428b, q428c⟩ := isOf hZ rfl f419
    obtain ⟨_, _, ⟨T428, L428, k428, n428⟩, -, X428, ⟨Lc428, hQ428, l428, y428, z428⟩, st428⟩ := X417.virtualBack hx (y := (⟨"com/example/mynah/mynah/rpsl/PrefixRange", "isIpv6", "()Z"⟩ : MethodName)) (z := (⟨"com/example/mynah/mynah/rpsl/PrefixRange", "isIpv6", "()Z"⟩ : MethodName)) hown (mvT hZ (hw _ (List.mem_of_getElem? (i := 36) rfl))) (mvT hZ (hw _ (List.mem_of_getElem? (i := 32) rfl))) (notFace_of_selects (args := #[]) (mvT hZ (hw _ (List.mem_of_getElem? (i := 34) rfl)))) (mvT hZ (hw _ (List.mem_of_getElem? (i := 34) rfl))) (mvT hZ (hw _ (List.mem_of_getElem? (i := 33) rfl))) (by decide) (backOf (W := 0) (rmV l Z a0 hw [] br403 ba403 4 (own_f (own_hi4 (q0 &&& (9223372034724069375 : Int64))) (0 : Int64)) T417.heap n0 Z425 f420 f421) hZ (hw _ (List.mem_of_getElem? (i := 35) rfl)) (hw _ (List.mem_of_getElem? (i := 6) rfl)) (by decide) (by decide)) q428a q428c (g := (mkF m 147 #[.val (.long q0), .second, .val (.long q1), .second, .val (.long q2), .second, .val (.long q3), .second, .val (.int p4), .val (.int (0 : Int32)), .val (.int (Int32.ofNat n)), .val (.long (q0 &&& (9223372034724069375 : Int64))), .second, .val (.long q1), .second, .val (.long (q2 &&& (33554431 : Int64))), .second, .val (.ref b380), .val (.ref br403), .val (.ref b407), .val (.long (q0 &&& (9223372034724069375 : Int64))), .second, .unset] [(.ref br403)])) rfl (by rw [hml]; rfl) (Steps.refl _) (argsL := []) (rest := []) (lenOf own_pd_1 rfl) rfl (by show 2 * 0 + _ ≤ _; exact Nat.le_of_eq rfl) (hb hby at_147) (fun _ _ => ⟨rfl, rfl, (by decide : 4 + 0 ≤ _), (by decide : 16 + 0 ≤ _)⟩)
    dsimp only [Pt.U, Pt.locs, Pt.cells, Pt.slots] at X428 l428 y428 z428 st428 hQ428
    subst l428 y428 z428
    obtain ⟨rfl, Nq428, eq428⟩ := hQ428
    have N428 := Fr.app N417 Nq428
    have k429 : ∀ t, Steps p.tables e below (T428.setTop (mkF m 152 #[.val (.long q0), .second, .val (.long q1), .second, .val (.long q2), .second, .val (.long q3), .second, .val (.int p4), .val (.int (0 : Int32)), .val (.int (Int32.ofNat n)), .val (.long (q0 &&& (9223372034724069375 : Int64))), .second, .val (.long q1), .second, .val (.long (q2 &&& (33554431 : Int64))), .second, .val (.ref b380), .val (.ref br403), .val (.ref b407), .val (.long (q0 &&& (9223372034724069375 : Int64))), .second, .unset] [(.int (0 : Int32)), (.int (own_is 4))])) t → Steps p.tables e below (s₁.setTop (mkF m 0 #[.val (.long q0), .second, .val (.long q1), .second, .val (.long q2), .second, .val (.long q3), .second, .val (.int p4), .unset, .unset, .unset, .unset, .unset, .unset, .unset, .unset, .unset, .unset, .unset, .unset, .unset, .unset] [])) t := by
      intro t h
      refine k427 t ?_
      show Steps p.tables e below (T417.setTop (mkF m 133 #[.val (.long q0), .second, .val (.long q1), .second, .val (.long q2), .second, .val (.long q3), .second, .val (.int p4), .val (.int (0 : Int32)), .val (.int (Int32.ofNat n)), .val (.long (q0 &&& (9223372034724069375 : Int64))), .second, .val (.long q1), .second, .val (.long (q2 &&& (33554431 : Int64))), .second, .val (.ref b380), .val (.ref br403), .val (.ref b407), .unset, .unset, .unset] [(.int (0 : Int32))])) _
      refine XS.ifYes X417.here hx rfl (pc0 := 133) (pc' := 141) rfl (hb hby at_133) rfl ((if0 _ _).trans (teq (by decide : (0 : Int32) = (0 : Int32))).1) (by decide) (by decide) ?_
      refine XS.lload X417.here hx rfl (hb hby at_141) rfl ?_
      refine XS.lstore X417.here hx rfl (hb hby at_143) rfl (l' := #[.val (.long q0), .second, .val (.long q1), .second, .val (.long q2), .second, .val (.long q3), .second, .val (.int p4), .val (.int (0 : Int32)), .val (.int (Int32.ofNat n)), .val (.long (q0 &&& (9223372034724069375 : Int64))), .second, .val (.long q1), .second, .val (.long (q2 &&& (33554431 : Int64))), .second, .val (.ref b380), .val (.ref br403), .val (.ref b407), .val (.long (q0 &&& (9223372034724069375 : Int64))), .second, .unset]) rfl ?_
      refine XS.aload X417.here hx rfl (hb hby at_145) rfl rfl ?_
      refine st428.trans ?_
      refine XS.iload X428.here hx rfl (hb hby at_150) rfl ?_
      exact h
    have b152_430 : (own_is 4) = (0 : Int32) := by decide
    have k431 : ∀ t, Steps p.tables e below (T428.setTop (mkF m 164 #[.val (.long q0), .second, .val (.long q1), .second, .val (.long q2), .second, .val (.long q3), .second, .val (.int p4), .val (.int (0 : Int32)), .val (.int (Int32.ofNat n)), .val (.long (q0 &&& (9223372034724069375 : Int64))), .second, .val (.long q1), .second, .val (.long (q2 &&& (33554431 : Int64))), .second, .val (.ref b380), .val (.ref br403), .val (.ref b407), .val (.long (q0 &&& (9223372034724069375 : Int64))), .second, .val (.int (1 : Int32))] [(.int (1 : Int32))])) t → Steps p.tables e below (s₁.setTop (mkF m 0 #[.val (.long q0), .second, .val (.long q1), .second, .val (.long q2), .second, .val (.long q3), .second, .val (.int p4), .unset, .unset, .unset, .unset, .unset, .unset, .unset, .unset, .unset, .unset, .unset, .unset, .unset, .unset] [])) t := by
      intro t h
      refine k429 t ?_
      show Steps p.tables e below (T428.setTop (mkF m 152 #[.val (.long q0), .second, .val (.long q1), .second, .val (.long q2), .second, .val (.long q3), .second, .val (.int p4), .val (.int (0 : Int32)), .val (.int (Int32.ofNat n)), .val (.long (q0 &&& (9223372034724069375 : Int64))), .second, .val (.long q1), .second, .val (.long (q2 &&& (33554431 : Int64))), .second, .val (.ref b380), .val (.ref br403), .val (.ref b407), .val (.long (q0 &&& (9223372034724069375 : Int64))), .second, .unset] [(.int (0 : Int32)), (.int (own_is 4))])) _
      refine XS.icmpNo X428.here hx rfl (hb hby at_152) rfl (teq b152_430).2 ?_
      refine XS.iconst X428.here hx rfl (hb hby at_155) ?_
      refine XS.goto X428.here hx rfl (pc0 := 156) (pc' := 160) rfl (hb hby at_156) (by decide) (by decide) ?_
      refine XS.istore X428.here hx rfl (hb hby at_160) rfl (l' := #[.val (.long q0), .second, .val (.long q1), .second, .val (.long q2), .second, .val (.long q3), .second, .val (.int p4), .val (.int (0 : Int32)), .val (.int (Int32.ofNat n)), .val (.long (q0 &&& (9223372034724069375 : Int64))), .second, .val (.long q1), .second, .val (.long (q2 &&& (33554431 : Int64))), .second, .val (.ref b380), .val (.ref br403), .val (.ref b407), .val (.long (q0 &&& (9223372034724069375 : Int64))), .second, .val (.int (1 : Int32))]) rfl ?_
      refine XS.iload X428.here hx rfl (hb hby at_162) rfl ?_
      exact h
    obtain ⟨cq432, kq432, q432a, q432b, q432c⟩ := isOf hZ eq428 f419
    obtain ⟨_, _, ⟨T432, L432, k432, n432⟩, -, X432, ⟨Lc432, hQ432, l432, y432, z432⟩, st432⟩ := X428.virtualBack hx (y := (⟨"com/example/mynah/mynah/rpsl/PrefixRange", "keyLongs", "()I"⟩ : MethodName)) (z := (⟨"com/example/mynah/mynah/rpsl/PrefixRange", "keyLongs", "()I"⟩ : MethodName)) hown (mvT hZ (hw _ (List.mem_of_getElem? (i := 37) rfl))) (mvT hZ (hw _ (List.mem_of_getElem? (i := 38) rfl))) (notFace_of_selects (args := #[]) (mvT hZ (hw _ (List.mem_of_getElem? (i := 40) rfl)))) (mvT hZ (hw _ (List.mem_of_getElem? (i := 40) rfl))) (mvT hZ (hw _ (List.mem_of_getElem? (i := 39) rfl))) (by decide) (backOf (W := 0) (rmL l Z a0 hw [] br403 ba403 4 (own_f (own_hi4 (q0 &&& (9223372034724069375 : Int64))) (0 : Int64)) T417.heap n0 Z425 f420 f421 f419) hZ (hw _ (List.mem_of_getElem? (i := 41) rfl)) (hw _ (List.mem_of_getElem? (i := 6) rfl)) (by decide) (by decide)) q432a q432c (g := (mkF m 169 #[.val (.long q0), .second, .val (.long q1), .second, .val (.long q2), .second, .val (.long q3), .second, .val (.int p4), .val (.int (0 : Int32)), .val (.int (Int32.ofNat n)), .val (.long (q0 &&& (9223372034724069375 : Int64))), .second, .val (.long q1), .second, .val (.long (q2 &&& (33554431 : Int64))), .second, .val (.ref b380), .val (.ref br403), .val (.ref b407), .val (.long (q0 &&& (9223372034724069375 : Int64))), .second, .val (.int (1 : Int32))] [(.ref br403)])) rfl (by rw [hml]; rfl) (Steps.refl _) (argsL := []) (rest := []) (lenOf own_pd_4 rfl) rfl (by show 2 * 0 + _ ≤ _; exact Nat.le_of_eq rfl) (hb hby at_169) (fun _ _ => ⟨rfl, eq428, (by decide : 4 + 0 ≤ _), (by decide : 16 + 0 ≤ _)⟩)
    dsimp only [Pt.U, Pt.locs, Pt.cells, Pt.slots] at X432 l432 y432 z432 st432 hQ432
    subst l432 y432 z432
    obtain ⟨rfl, Nq432, eq432⟩ := hQ432
    have N432 := Fr.app N428 Nq432
    have k433 : ∀ t, Steps p.tables e below (T432.setTop (mkF m 174 #[.val (.long q0), .second, .val (.long q1), .second, .val (.long q2), .second, .val (.long q3), .second, .val (.int p4), .val (.int (0 : Int32)), .val (.int (Int32.ofNat n)), .val (.long (q0 &&& (9223372034724069375 : Int64))), .second, .val (.long q1), .second, .val (.long (q2 &&& (33554431 : Int64))), .second, .val (.ref b380), .val (.ref br403), .val (.ref b407), .val (.long (q0 &&& (9223372034724069375 : Int64))), .second, .val (.int (1 : Int32))] [(.int (0 : Int32)), (.int (own_kl 4))])) t → Steps p.tables e below (s₁.setTop (mkF m 0 #[.val (.long q0), .second, .val (.long q1), .second, .val (.long q2), .second, .val (.long q3), .second, .val (.int p4), .unset, .unset, .unset, .unset, .unset, .unset, .unset, .unset, .unset, .unset, .unset, .unset, .unset, .unset] [])) t := by
      intro t h
      refine k431 t ?_
      show Steps p.tables e below (T428.setTop (mkF m 164 #[.val (.long q0), .second, .val (.long q1), .second, .val (.long q2), .second, .val (.long q3), .second, .val (.int p4), .val (.int (0 : Int32)), .val (.int (Int32.ofNat n)), .val (.long (q0 &&& (9223372034724069375 : Int64))), .second, .val (.long q1), .second, .val (.long (q2 &&& (33554431 : Int64))), .second, .val (.ref b380), .val (.ref br403), .val (.ref b407), .val (.long (q0 &&& (9223372034724069375 : Int64))), .second, .val (.int (1 : Int32))] [(.int (1 : Int32))])) _
      refine XS.ifNo X428.here hx rfl (hb hby at_164) rfl ((if0 _ _).trans (feq (by decide : ¬ ((1 : Int32) = (0 : Int32)))).1) ?_
      refine XS.aload X428.here hx rfl (hb hby at_167) rfl rfl ?_
      refine st432.trans ?_
      refine XS.iload X432.here hx rfl (hb hby at_172) rfl ?_
      exact h
    have k434 : ∀ t, Steps p.tables e below (T432.setTop (mkF m 182 #[.val (.long q0), .second, .val (.long q1), .second, .val (.long q2), .second, .val (.long q3), .second, .val (.int p4), .val (.int (0 : Int32)), .val (.int (Int32.ofNat n)), .val (.long (q0 &&& (9223372034724069375 : Int64))), .second, .val (.long q1), .second, .val (.long (q2 &&& (33554431 : Int64))), .second, .val (.ref b380), .val (.ref br403), .val (.ref b407), .val (.long (q0 &&& (9223372034724069375 : Int64))), .second, .val (.int (1 : Int32))] [(.int (1 : Int32)), (.int (own_kl 4))])) t → Steps p.tables e below (s₁.setTop (mkF m 0 #[.val (.long q0), .second, .val (.long q1), .second, .val (.long q2), .second, .val (.long q3), .second, .val (.int p4), .unset, .unset, .unset, .unset, .unset, .unset, .unset, .unset, .unset, .unset, .unset, .unset, .unset, .unset] [])) t := by
      intro t h
      refine k433 t ?_
      show Steps p.tables e below (T432.setTop (mkF m 174 #[.val (.long q0), .second, .val (.long q1), .second, .val (.long q2), .second, .val (.long q3), .second, .val (.int p4), .val (.int (0 : Int32)), .val (.int (Int32.ofNat n)), .val (.long (q0 &&& (9223372034724069375 : Int64))), .second, .val (.long q1), .second, .val (.long (q2 &&& (33554431 : Int64))), .second, .val (.ref b380), .val (.ref br403), .val (.ref b407), .val (.long (q0 &&& (9223372034724069375 : Int64))), .second, .val (.int (1 : Int32))] [(.int (0 : Int32)), (.int (own_kl 4))])) _
      refine XS.ifYes X432.here hx rfl (pc0 := 174) (pc' := 181) rfl (hb hby at_174) rfl ((if0 _ _).trans (teq (by decide : (0 : Int32) = (0 : Int32))).1) (by decide) (by decide) ?_
      refine XS.iconst X432.here hx rfl (hb hby at_181) ?_
      exact h
    have b182_435 : (own_kl 4) = (1 : Int32) := by decide
    have k436 : ∀ t, Steps p.tables e below (T432.setTop (mkF m 194 #[.val (.long q0), .second, .val (.long q1), .second, .val (.long q2), .second, .val (.long q3), .second, .val (.int p4), .val (.int (0 : Int32)), .val (.int (Int32.ofNat n)), .val (.long (q0 &&& (9223372034724069375 : Int64))), .second, .val (.long q1), .second, .val (.long (q2 &&& (33554431 : Int64))), .second, .val (.ref b380), .val (.ref br403), .val (.ref b407), .val (.long (q0 &&& (9223372034724069375 : Int64))), .second, .val (.int (1 : Int32))] [(.int (1 : Int32))])) t → Steps p.tables e below (s₁.setTop (mkF m 0 #[.val (.long q0), .second, .val (.long q1), .second, .val (.long q2), .second, .val (.long q3), .second, .val (.int p4), .unset, .unset, .unset, .unset, .unset, .unset, .unset, .unset, .unset, .unset, .unset, .unset, .unset, .unset] [])) t := by
      intro t h
      refine k434 t ?_
      show Steps p.tables e below (T432.setTop (mkF m 182 #[.val (.long q0), .second, .val (.long q1), .second, .val (.long q2), .second, .val (.long q3), .second, .val (.int p4), .val (.int (0 : Int32)), .val (.int (Int32.ofNat n)), .val (.long (q0 &&& (9223372034724069375 : Int64))), .second, .val (.long q1), .second, .val (.long (q2 &&& (33554431 : Int64))), .second, .val (.ref b380), .val (.ref br403), .val (.ref b407), .val (.long (q0 &&& (9223372034724069375 : Int64))), .second, .val (.int (1 : Int32))] [(.int (1 : Int32)), (.int (own_kl 4))])) _
      refine XS.icmpNo X432.here hx rfl (hb hby at_182) rfl (teq b182_435).2 ?_
      refine XS.iconst X432.here hx rfl (hb hby at_185) ?_
      refine XS.goto X432.here hx rfl (pc0 := 186) (pc' := 190) rfl (hb hby at_186) (by decide) (by decide) ?_
      refine XS.istore X432.here hx rfl (hb hby at_190) rfl (l' := #[.val (.long q0), .second, .val (.long q1), .second, .val (.long q2), .second, .val (.long q3), .second, .val (.int p4), .val (.int (0 : Int32)), .val (.int (Int32.ofNat n)), .val (.long (q0 &&& (9223372034724069375 : Int64))), .second, .val (.long q1), .second, .val (.long (q2 &&& (33554431 : Int64))), .second, .val (.ref b380), .val (.ref br403), .val (.ref b407), .val (.long (q0 &&& (9223372034724069375 : Int64))), .second, .val (.int (1 : Int32))]) rfl ?_
      refine XS.iload X432.here hx rfl (hb hby at_192) rfl ?_
      exact h
    obtain ⟨cq437, kq437, q437a, q437b, q437c⟩ := isOf hZ eq432 f419
    obtain ⟨_, _, ⟨T437, L437, k437, n437⟩, -, X437, ⟨Lc437, hQ437, l437, y437, z437⟩, st437⟩ := X432.virtualBack hx (y := (⟨"com/example/mynah/mynah/rpsl/PrefixRange", "length", "()I"⟩ : MethodName)) (z := (⟨"com/example/mynah/mynah/rpsl/PrefixRange", "length", "()I"⟩ : MethodName)) hown (mvT hZ (hw _ (List.mem_of_getElem? (i := 42) rfl))) (mvT hZ (hw _ (List.mem_of_getElem? (i := 43) rfl))) (notFace_of_selects (args := #[]) (mvT hZ (hw _ (List.mem_of_getElem? (i := 45) rfl)))) (mvT hZ (hw _ (List.mem_of_getElem? (i := 45) rfl))) (mvT hZ (hw _ (List.mem_of_getElem? (i := 44) rfl))) (by decide) (backOf (W := 0) (rmN l Z a0 hw [] br403 (own_len (q0 &&& (9223372034724069375 : Int64))) T417.heap n0 Z425 f422) hZ (hw _ (List.mem_of_getElem? (i := 46) rfl)) (hw _ (List.mem_of_getElem? (i := 6) rfl)) (by decide) (by decide)) q437a q437c (g := (mkF m 199 #[.val (.long q0), .second, .val (.long q1), .second, .val (.long q2), .second, .val (.long q3), .second, .val (.int p4), .val (.int (0 : Int32)), .val (.int (Int32.ofNat n)), .val (.long (q0 &&& (9223372034724069375 : Int64))), .second, .val (.long q1), .second, .val (.long (q2 &&& (33554431 : Int64))), .second, .val (.ref b380), .val (.ref br403), .val (.ref b407), .val (.long (q0 &&& (9223372034724069375 : Int64))), .second, .val (.int (1 : Int32))] [(.ref br403)])) rfl (by rw [hml]; rfl) (Steps.refl _) (argsL := []) (rest := []) (lenOf own_pd_4 rfl) rfl (by show 2 * 0 + _ ≤ _; exact Nat.le_of_eq rfl) (hb hby at_199) (fun _ _ => ⟨rfl, eq432, (by decide : 4 + 0 ≤ _), (by decide : 16 + 0 ≤ _)⟩)
    dsimp only [Pt.U, Pt.locs, Pt.cells, Pt.slots] at X437 l437 y437 z437 st437 hQ437
    subst l437 y437 z437
    obtain ⟨rfl, Nq437, eq437⟩ := hQ437
    have N437 := Fr.app N432 Nq437
    have k438 : ∀ t, Steps p.tables e below (T437.setTop (mkF m 212 #[.val (.long q0), .second, .val (.long q1), .second, .val (.long q2), .second, .val (.long q3), .second, .val (.int p4), .val (.int (0 : Int32)), .val (.int (Int32.ofNat n)), .val (.long (q0 &&& (9223372034724069375 : Int64))), .second, .val (.long q1), .second, .val (.long (q2 &&& (33554431 : Int64))), .second, .val (.ref b380), .val (.ref br403), .val (.ref b407), .val (.long (q0 &&& (9223372034724069375 : Int64))), .second, .val (.int (1 : Int32))] [(.int (((((q0 &&& (9223372034724069375 : Int64)).toUInt64 >>> ((16 : Int32) &&& 0x3f).toInt64.toUInt64).toInt64) &&& (255 : Int64)).toInt32)), (.int (own_len (q0 &&& (9223372034724069375 : Int64))))])) t → Steps p.tables e below (s₁.setTop (mkF m 0 #[.val (.long q0), .second, .val (.long q1), .second, .val (.long q2), .second, .val (.long q3), .second, .val (.int p4), .unset, .unset, .unset, .unset, .unset, .unset, .unset, .unset, .unset, .unset, .unset, .unset, .unset, .unset] [])) t := by
      intro t h
      refine k436 t ?_
      show Steps p.tables e below (T432.setTop (mkF m 194 #[.val (.long q0), .second, .val (.long q1), .second, .val (.long q2), .second, .val (.long q3), .second, .val (.int p4), .val (.int (0 : Int32)), .val (.int (Int32.ofNat n)), .val (.long (q0 &&& (9223372034724069375 : Int64))), .second, .val (.long q1), .second, .val (.long (q2 &&& (33554431 : Int64))), .second, .val (.ref b380), .val (.ref br403), .val (.ref b407), .val (.long (q0 &&& (9223372034724069375 : Int64))), .second, .val (.int (1 : Int32))] [(.int (1 : Int32))])) _
      refine XS.ifNo X432.here hx rfl (hb hby at_194) rfl ((if0 _ _).trans (feq (by decide : ¬ ((1 : Int32) = (0 : Int32)))).1) ?_
      refine XS.aload X432.here hx rfl (hb hby at_197) rfl rfl ?_
      refine st437.trans ?_
      refine XS.lload X437.here hx rfl (hb hby at_202) rfl ?_
      refine XS.bipush X437.here hx rfl (hb hby at_204) ?_
      refine XS.lushr X437.here hx rfl (hb hby at_206) rfl ?_
      refine X437.ldc2Long hx hown (mvT hZ (hw _ (List.mem_of_getElem? (i := 47) rfl))) (g := (mkF m 207 #[.val (.long q0), .second, .val (.long q1), .second, .val (.long q2), .second, .val (.long q3), .second, .val (.int p4), .val (.int (0 : Int32)), .val (.int (Int32.ofNat n)), .val (.long (q0 &&& (9223372034724069375 : Int64))), .second, .val (.long q1), .second, .val (.long (q2 &&& (33554431 : Int64))), .second, .val (.ref b380), .val (.ref br403), .val (.ref b407), .val (.long (q0 &&& (9223372034724069375 : Int64))), .second, .val (.int (1 : Int32))] [(.long (((q0 &&& (9223372034724069375 : Int64)).toUInt64 >>> ((16 : Int32) &&& 0x3f).toInt64.toUInt64).toInt64)), (.int (own_len (q0 &&& (9223372034724069375 : Int64))))])) rfl (hb hby at_207) _ ?_
      refine XS.land X437.here hx rfl (hb hby at_210) rfl ?_
      refine XS.l2i X437.here hx rfl (hb hby at_211) rfl ?_
      exact h
    have b212_439 : (own_len (q0 &&& (9223372034724069375 : Int64))) = (((((q0 &&& (9223372034724069375 : Int64)).toUInt64 >>> ((16 : Int32) &&& 0x3f).toInt64.toUInt64).toInt64) &&& (255 : Int64)).toInt32) := rfl
    have k440 : ∀ t, Steps p.tables e below (T437.setTop (mkF m 224 #[.val (.long q0), .second, .val (.long q1), .second, .val (.long q2), .second, .val (.long q3), .second, .val (.int p4), .val (.int (0 : Int32)), .val (.int (Int32.ofNat n)), .val (.long (q0 &&& (9223372034724069375 : Int64))), .second, .val (.long q1), .second, .val (.long (q2 &&& (33554431 : Int64))), .second, .val (.ref b380), .val (.ref br403), .val (.ref b407), .val (.long (q0 &&& (9223372034724069375 : Int64))), .second, .val (.int (1 : Int32))] [(.int (1 : Int32))])) t → Steps p.tables e below (s₁.setTop (mkF m 0 #[.val (.long q0), .second, .val (.long q1), .second, .val (.long q2), .second, .val (.long q3), .second, .val (.int p4), .unset, .unset, .unset, .unset, .unset, .unset, .unset, .unset, .unset, .unset, .unset, .unset, .unset, .unset] [])) t := by
      intro t h
      refine k438 t ?_
      show Steps p.tables e below (T437.setTop (mkF m 212 #[.val (.long q0), .second, .val (.long q1), .second, .val (.long q2), .second, .val (.long q3), .second, .val (.int p4), .val (.int (0 : Int32)), .val (.int (Int32.ofNat n)), .val (.long (q0 &&& (9223372034724069375 : Int64))), .second, .val (.long q1), .second, .val (.long (q2 &&& (33554431 : Int64))), .second, .val (.ref b380), .val (.ref br403), .val (.ref b407), .val (.long (q0 &&& (9223372034724069375 : Int64))), .second, .val (.int (1 : Int32))] [(.int (((((q0 &&& (9223372034724069375 : Int64)).toUInt64 >>> ((16 : Int32) &&& 0x3f).toInt64.toUInt64).toInt64) &&& (255 : Int64)).toInt32)), (.int (own_len (q0 &&& (9223372034724069375 : Int64))))])) _
      refine XS.icmpNo X437.here hx rfl (hb hby at_212) rfl (teq b212_439).2 ?_
      refine XS.iconst X437.here hx rfl (hb hby at_215) ?_
      refine XS.goto X437.here hx rfl (pc0 := 216) (pc' := 220) rfl (hb hby at_216) (by decide) (by decide) ?_
      refine XS.istore X437.here hx rfl (hb hby at_220) rfl (l' := #[.val (.long q0), .second, .val (.long q1), .second, .val (.long q2), .second, .val (.long q3), .second, .val (.int p4), .val (.int (0 : Int32)), .val (.int (Int32.ofNat n)), .val (.long (q0 &&& (9223372034724069375 : Int64))), .second, .val (.long q1), .second, .val (.long (q2 &&& (33554431 : Int64))), .second, .val (.ref b380), .val (.ref br403), .val (.ref b407), .val (.long (q0 &&& (9223372034724069375 : Int64))), .second, .val (.int (1 : Int32))]) rfl ?_
      refine XS.iload X437.here hx rfl (hb hby at_222) rfl ?_
      exact h
    obtain ⟨cl441, Ar441, hin441, hat441⟩ := own_LA.at (i := 0) (j := (0 : Int32)) Ao417 rfl (by decide) (by decide)
    have k442 : ∀ t, Steps p.tables e below (T437.setTop (mkF m 234 #[.val (.long q0), .second, .val (.long q1), .second, .val (.long q2), .second, .val (.long q3), .second, .val (.int p4), .val (.int (0 : Int32)), .val (.int (Int32.ofNat n)), .val (.long (q0 &&& (9223372034724069375 : Int64))), .second, .val (.long q1), .second, .val (.long (q2 &&& (33554431 : Int64))), .second, .val (.ref b380), .val (.ref br403), .val (.ref b407), .val (.long (q0 &&& (9223372034724069375 : Int64))), .second, .val (.int (1 : Int32))] [(.int (lcmpW (q0 &&& (9223372034724069375 : Int64)) (q0 &&& (9223372034724069375 : Int64))))])) t → Steps p.tables e below (s₁.setTop (mkF m 0 #[.val (.long q0), .second, .val (.long q1), .second, .val (.long q2), .second, .val (.long q3), .second, .val (.int p4), .unset, .unset, .unset, .unset, .unset, .unset, .unset, .unset, .unset, .unset, .unset, .unset, .unset, .unset] [])) t := by
      intro t h
      refine k440 t ?_
      show Steps p.tables e below (T437.setTop (mkF m 224 #[.val (.long q0), .second, .val (.long q1), .second, .val (.long q2), .second, .val (.long q3), .second, .val (.int p4), .val (.int (0 : Int32)), .val (.int (Int32.ofNat n)), .val (.long (q0 &&& (9223372034724069375 : Int64))), .second, .val (.long q1), .second, .val (.long (q2 &&& (33554431 : Int64))), .second, .val (.ref b380), .val (.ref br403), .val (.ref b407), .val (.long (q0 &&& (9223372034724069375 : Int64))), .second, .val (.int (1 : Int32))] [(.int (1 : Int32))])) _
      refine XS.ifNo X437.here hx rfl (hb hby at_224) rfl ((if0 _ _).trans (feq (by decide : ¬ ((1 : Int32) = (0 : Int32)))).1) ?_
      refine XS.aload X437.here hx rfl (hb hby at_227) rfl rfl ?_
      refine XS.iconst X437.here hx rfl (hb hby at_229) ?_
      refine X437.laload hx (j := (0 : Int32)) (v := (.long (q0 &&& (9223372034724069375 : Int64)))) (by rw [eq437]; exact Ar441.1) (State.isArrayOf_alike hZ.alike Ar441.2.1) Ar441.2.2 hin441 hat441 (g := (mkF m 230 #[.val (.long q0), .second, .val (.long q1), .second, .val (.long q2), .second, .val (.long q3), .second, .val (.int p4), .val (.int (0 : Int32)), .val (.int (Int32.ofNat n)), .val (.long (q0 &&& (9223372034724069375 : Int64))), .second, .val (.long q1), .second, .val (.long (q2 &&& (33554431 : Int64))), .second, .val (.ref b380), .val (.ref br403), .val (.ref b407), .val (.long (q0 &&& (9223372034724069375 : Int64))), .second, .val (.int (1 : Int32))] [(.int (0 : Int32)), (.ref b407)])) rfl rfl (hb hby at_230) _ ?_
      refine XS.lload X437.here hx rfl (hb hby at_231) rfl ?_
      refine XS.lcmp X437.here hx rfl (hb hby at_233) rfl ?_
      exact h
    have b234_443 : (lcmpW (q0 &&& (9223372034724069375 : Int64)) (q0 &&& (9223372034724069375 : Int64))) = (0 : Int32) := (lw_eq _ _).mpr rfl
    have k444 : ∀ t, Steps p.tables e below (T437.setTop (mkF m 246 #[.val (.long q0), .second, .val (.long q1), .second, .val (.long q2), .second, .val (.long q3), .second, .val (.int p4), .val (.int (0 : Int32)), .val (.int (Int32.ofNat n)), .val (.long (q0 &&& (9223372034724069375 : Int64))), .second, .val (.long q1), .second, .val (.long (q2 &&& (33554431 : Int64))), .second, .val (.ref b380), .val (.ref br403), .val (.ref b407), .val (.long (q0 &&& (9223372034724069375 : Int64))), .second, .val (.int (1 : Int32))] [(.int (0 : Int32))])) t → Steps p.tables e below (s₁.setTop (mkF m 0 #[.val (.long q0), .second, .val (.long q1), .second, .val (.long q2), .second, .val (.long q3), .second, .val (.int p4), .unset, .unset, .unset, .unset, .unset, .unset, .unset, .unset, .unset, .unset, .unset, .unset, .unset, .unset] [])) t := by
      intro t h
      refine k442 t ?_
      show Steps p.tables e below (T437.setTop (mkF m 234 #[.val (.long q0), .second, .val (.long q1), .second, .val (.long q2), .second, .val (.long q3), .second, .val (.int p4), .val (.int (0 : Int32)), .val (.int (Int32.ofNat n)), .val (.long (q0 &&& (9223372034724069375 : Int64))), .second, .val (.long q1), .second, .val (.long (q2 &&& (33554431 : Int64))), .second, .val (.ref b380), .val (.ref br403), .val (.ref b407), .val (.long (q0 &&& (9223372034724069375 : Int64))), .second, .val (.int (1 : Int32))] [(.int (lcmpW (q0 &&& (9223372034724069375 : Int64)) (q0 &&& (9223372034724069375 : Int64))))])) _
      refine XS.ifNo X437.here hx rfl (hb hby at_234) rfl ((if0 _ _).trans (teq b234_443).2) ?_
      refine XS.iconst X437.here hx rfl (hb hby at_237) ?_
      refine XS.goto X437.here hx rfl (pc0 := 238) (pc' := 242) rfl (hb hby at_238) (by decide) (by decide) ?_
      refine XS.istore X437.here hx rfl (hb hby at_242) rfl (l' := #[.val (.long q0), .second, .val (.long q1), .second, .val (.long q2), .second, .val (.long q3), .second, .val (.int p4), .val (.int (0 : Int32)), .val (.int (Int32.ofNat n)), .val (.long (q0 &&& (9223372034724069375 : Int64))), .second, .val (.long q1), .second, .val (.long (q2 &&& (33554431 : Int64))), .second, .val (.ref b380), .val (.ref br403), .val (.ref b407), .val (.long (q0 &&& (9223372034724069375 : Int64))), .second, .val (.int (1 : Int32))]) rfl ?_
      refine XS.iload X437.here hx rfl (hb hby at_244) rfl ?_
      exact h
    have k445 : ∀ t, Steps p.tables e below (T437.setTop (mkF m 283 #[.val (.long q0), .second, .val (.long q1), .second, .val (.long q2), .second, .val (.long q3), .second, .val (.int p4), .val (.int (0 : Int32)), .val (.int (Int32.ofNat n)), .val (.long (q0 &&& (9223372034724069375 : Int64))), .second, .val (.long q1), .second, .val (.long (q2 &&& (33554431 : Int64))), .second, .val (.ref b380), .val (.ref br403), .val (.ref b407), .val (.long (q0 &&& (9223372034724069375 : Int64))), .second, .val (.int (1 : Int32))] [(.int (1 : Int32))])) t → Steps p.tables e below (s₁.setTop (mkF m 0 #[.val (.long q0), .second, .val (.long q1), .second, .val (.long q2), .second, .val (.long q3), .second, .val (.int p4), .unset, .unset, .unset, .unset, .unset, .unset, .unset, .unset, .unset, .unset, .unset, .unset, .unset, .unset] [])) t := by
      intro t h
      refine k444 t ?_
      show Steps p.tables e below (T437.setTop (mkF m 246 #[.val (.long q0), .second, .val (.long q1), .second, .val (.long q2), .second, .val (.long q3), .second, .val (.int p4), .val (.int (0 : Int32)), .val (.int (Int32.ofNat n)), .val (.long (q0 &&& (9223372034724069375 : Int64))), .second, .val (.long q1), .second, .val (.long (q2 &&& (33554431 : Int64))), .second, .val (.ref b380), .val (.ref br403), .val (.ref b407), .val (.long (q0 &&& (9223372034724069375 : Int64))), .second, .val (.int (1 : Int32))] [(.int (0 : Int32))])) _
      refine XS.ifYes X437.here hx rfl (pc0 := 246) (pc' := 281) rfl (hb hby at_246) rfl ((if0 _ _).trans (teq (by decide : (0 : Int32) = (0 : Int32))).1) (by decide) (by decide) ?_
      refine XS.iload X437.here hx rfl (hb hby at_281) rfl ?_
      exact h
    obtain ⟨fs, hr, hrun, hended, hW, hsame⟩ := X437.leave (v := some (.int (1 : Int32))) (fun h => by rw [Bd.returns] at h; cases h) Bd.notSynchronized
    refine ⟨_, _, pre0 _ (k445 _ ?_), hrun, hended, _, _, rfl, ?_, ⟨_, rfl⟩, hW, hsame.mono (by decide) (by decide)⟩
    · exact retN X437 hx (t := .boolean) Bd.returns (by simp) (hb hby at_283) hr
    · show Q_rm0 Z _ _ _ _ _ h0 n0 _ T437.heap _
      rw [eq437]
      exact ⟨rfl, N437⟩
set_option maxRecDepth 65536 in
set_option maxHeartbeats 40000000 in
theorem comes_1 {Post : Tables → Env → Array Value → State → Outcome → State → Prop} (hpost : ∀ tb e args s v u, (limb_1_1.after args s (.returned v) u = true ∧ limb_1_2.after args s (.returned v) u = true ∧ True) → FrameEnd s (.returned v) u (Jvm.fieldLocs frame_1_writes args s ++ Jvm.arrayLocs frame_1_arrays args s ++ Jvm.staticLocs frame_1_statics s) 16 128 → Post tb e args s (.returned v) u) :
    ArmFor flags0 classFile x code maxLocals ret World_1 tables_1 room_1 Calls_1 rest_1 Pre_1 Post := by
  intro l hfl _ _ p e ha hc hk s m args below hf hA hF happ hP
  obtain ⟨hcalls, hrest, hpre⟩ := hP
  obtain ⟨-, -, -, hnamed, -, -, -, hat⟩ := (Spec.applies_iff hf).mp happ
  obtain ⟨hg, hn⟩ := and_e (Cond.before_iff.mp (show (Jvm.Cond.and given_1 narrow_1).before args s = true from hpre))
  obtain ⟨g1, g2⟩ := and_e hg
  obtain ⟨g3, g4⟩ := and_e g2
  obtain ⟨g5, g6⟩ := and_e g4
  obtain ⟨g7, g8⟩ := and_e g6
  obtain ⟨g9, g10⟩ := and_e g8
  obtain ⟨w0, w1, w2, w3, w4, rfl⟩ : ∃ w0 w1 w2 w3 w4 : Value, args = #[w0, w1, w2, w3, w4] := by
    have hs : args.size = 5 := by simpa [Cond.value, given_1] using g1
    obtain ⟨L⟩ := args
    match L, hs with
    | [w0, w1, w2, w3, w4], _ => exact ⟨w0, w1, w2, w3, w4, rfl⟩
  have hw := fun d (hd : d ∈ tables_1) => atoms_spec (ws := Jvm.Cond.code x code maxLocals ret :: tables_1) hat d (List.mem_cons_of_mem _ hd)
  have hfit : Fit s := fun {y c} hc i hi => by
    obtain ⟨ha, rfl⟩ := Array.getElem?_eq_some_iff.mp hc
    have q := List.all_eq_true.mp ((Array.all_eq_true_iff_forall_mem.mp hF) _ (Array.getElem_mem ha)) i (List.mem_range.mpr hi)
    simpa [Array.getElem?_eq_getElem hi] using q
  obtain ⟨i0, ei0⟩ := isL_v g3
  obtain rfl : w0 = (.long i0) := Option.some.inj ei0
  obtain ⟨i1, ei1⟩ := isL_v g5
  obtain rfl : w1 = (.long i1) := Option.some.inj ei1
  obtain ⟨i2, ei2⟩ := isL_v g7
  obtain rfl : w2 = (.long i2) := Option.some.inj ei2
  obtain ⟨i3, ei3⟩ := isL_v g9
  obtain rfl : w3 = (.long i3) := Option.some.inj ei3
  obtain ⟨i4, ei4⟩ := is_v g10
  obtain rfl : w4 = (.int i4) := Option.some.inj ei4
  obtain ⟨n, o, h1, h2, h3, _, L, rfl, ⟨rfl, N⟩, hq⟩ := rm0 l s _ hw tables_1 i0 i1 i2 i3 i4  s.heap s.heap.size (Nat.le_refl _)  p e ha hc hk s m _ below hf ((Spec.applies_iff_loose hf).mp happ).1 ⟨rfl, State.Warmed39.refl s, rfl⟩ trivial
  refine ⟨n, _, h1, h2, h3, hpost _ _ _ _ _ _ ⟨Cond.after_iff.mpr rfl, Cond.after_iff.mpr (eq_i res_at (Term.int_eval (1)) rfl), trivial⟩ ⟨hq.1, hq.2.1, (hq.2.2.sift fun y hy => Or.inr (N y hy)).mono (by decide) (by decide)⟩⟩
theorem main_1_1 : Claimed_1_1 := comes_1 fun _ _ _ _ _ _ h hF => ⟨h.1, hF⟩
theorem main_1_2 : Claimed_1_2 := comes_1 fun _ _ _ _ _ _ h hF => ⟨h.2.1, hF⟩
end Jvm.Pilot.@@N@@
namespace Jvm.Pilot.@@N@@
open Jvm Jvm.ClassFile Sem Op Lib Jvm.Free Jvm.Stand Jvm.Pilot.@@N@@.Jvm.D
/-! MADE BY PROGRAM (witnessworld.py) out of the Statement's table words and the real class files: 11 classes; the members and pool entries that the words name. The judged class is class 1, her method 1. -/
namespace start1
open Jvm.ClassFile
def u (s : String) : CpInfo := .utf8 (stringToUtf16 s)
/-- a pool by its gaps: so many unusable entries, then the entry; so many at the end -/
def gap : Nat → List CpInfo → List CpInfo
  | 0, r => r
  | n + 1, r => .unusable :: gap n r
def poolList (es : List (Nat × CpInfo)) (last : Nat) : List CpInfo := es.foldr (fun e r => gap e.1 (e.2 :: r)) (gap last [])
def pool (es : List (Nat × CpInfo)) (last : Nat) : Array CpInfo := ⟨poolList es last⟩
def fileOf (pool : Array CpInfo) (this : Nat) (attrs : Array Attribute := #[]) (ms : Array MethodInfo := #[]) (fl : Nat := 33) (sup : Nat := 0) (ifs : Array Nat := #[]) (fds : Array FieldInfo := #[]) : ClassFile where
  minorVersion := 0
  majorVersion := 65
  constantPool := pool
  accessFlags := fl
  thisClass := this
  superClass := sup
  interfaces := ifs
  fields := fds
  methods := ms
  attributes := attrs
def plain (name : String) (sup : Option ClassId) : Class where
  name := name
  kind := .ordinary
  loader := none
  accessFlags := 33
  super := sup
  interfaces := #[]
  cf := none
  fields := #[]
  methods := #[]
  instanceTypes := #[]
  staticTypes := #[]
  resolved := #[]
  callSites := []
  init := .initialized
  statics := none
  mirror := none

def pool0 : Array CpInfo := pool [(5, u "<init>"), (0, u "()V"), (1, .class_ 10), (1, u "java/lang/Object")] 113

def k0c0 : Code := { maxStack := 0, maxLocals := 1, code := object_method_1_code, exceptionTable := #[], attributes := #[] }
def k0m0 : Method := { name := "<init>", desc := "()V", sig := { parameters := [], returnType := none }, accessFlags := 1, code := some k0c0 }
/-- java/lang/Object -/
def k0 : Class := { plain "java/lang/Object" none with
  accessFlags := 33
  interfaces := #[]
  cf := some (fileOf pool0 8 #[] #[{ accessFlags := 1, nameIndex := 5, descriptorIndex := 6, attributes := #[] }] 33 0 #[] #[])
  fields := #[]
  methods := #[k0m0]
  instanceTypes := #[]
  staticTypes := #[]
  resolved := Array.replicate 124 none
  statics := none }

def pool1 : Array CpInfo := pool [(2, .class_ 4), (1, u "java/lang/Object"), (0, u "<init>"), (0, u "()V"), (0, .integer 2147483647), (0, .long 9223372034724069375), (1, .long 33554431), (1, .methodref 13 14), (0, .class_ 15), (0, .nameAndType 16 17), (0, u "com/example/mynah/mynah/rpsl/PrefixRange"), (0, u "ofKey"), (0, u "([JI)Lcom/example/mynah/mynah/rpsl/PrefixRange;"), (0, .methodref 13 19), (0, .nameAndType 20 21), (0, u "writeKey"), (0, u "([JI)V"), (0, .methodref 13 23), (0, .nameAndType 24 25), (0, u "isIpv6"), (0, u "()Z"), (0, .methodref 13 27), (0, .nameAndType 28 29), (0, u "keyLongs"), (0, u "()I"), (0, .methodref 13 31), (0, .nameAndType 32 29), (0, u "length"), (0, .long 255), (1, .class_ 36), (0, u "com/example/mynah/mynah/rpsl/PrefixRangeOfKeyPinLaw"), (2, u "law"), (0, u "(JJJJI)Z")] 5

def k1m0 : Method := { name := "<init>", desc := "()V", sig := { parameters := [], returnType := none }, accessFlags := 2, code := none }
def k1c1 : Code := { maxStack := 5, maxLocals := 23, code := code, exceptionTable := #[], attributes := #[] }
def k1m1 : Method := { name := "law", desc := "(JJJJI)Z", sig := { parameters := [.long, .long, .long, .long, .int], returnType := some .boolean }, accessFlags := 9, code := some k1c1 }
/-- com/example/mynah/mynah/rpsl/PrefixRangeOfKeyPinLaw -/
def k1 : Class := { plain "com/example/mynah/mynah/rpsl/PrefixRangeOfKeyPinLaw" (some 0) with
  accessFlags := 49
  interfaces := #[]
  cf := some (fileOf pool1 35 #[] #[{ accessFlags := 2, nameIndex := 5, descriptorIndex := 6, attributes := #[] }, { accessFlags := 9, nameIndex := 39, descriptorIndex := 40, attributes := #[] }] 49 2 #[] #[])
  fields := #[]
  methods := #[k1m0, k1m1]
  instanceTypes := #[]
  staticTypes := #[]
  resolved := Array.replicate 46 none
  statics := none }

def pool2 : Array CpInfo := pool [(1, .methodref 2 3), (0, .class_ 4), (0, .nameAndType 5 6), (0, u "java/lang/Object"), (0, u "<init>"), (0, u "()V"), (0, .fieldref 8 9), (0, .class_ 10), (0, .nameAndType 11 12), (0, u "com/example/mynah/mynah/rpsl/PrefixRange"), (0, u "address"), (0, u "[B"), (0, .fieldref 8 14), (0, .nameAndType 15 16), (0, u "length"), (0, u "I"), (0, .fieldref 8 18), (0, .nameAndType 19 16), (0, u "least"), (0, .fieldref 8 21), (0, .nameAndType 22 16), (0, u "most"), (21, u "()Z"), (7, u "()I"), (8, .methodref 8 62), (0, .nameAndType 5 63), (0, u "([BIII)V"), (29, .long 255), (5, .methodref 8 100), (0, .nameAndType 101 44), (0, u "isIpv6"), (0, .long 9223372036854775808), (49, u "IPV4_KEY_LONGS"), (2, u "IPV6_KEY_LONGS"), (1, u "IPV4_LENGTH"), (1, u "IPV6_LENGTH"), (1, u "IPV6_LOWEST_BIT"), (6, u "ofKey"), (0, u "([JI)Lcom/example/mynah/mynah/rpsl/PrefixRange;"), (4, u "writeKey"), (0, u "([JI)V"), (0, u "keyLongs")] 28

def k2c0 : Code := { maxStack := 2, maxLocals := 5, code := prog_50_method_1_code, exceptionTable := #[], attributes := #[] }
def k2m0 : Method := { name := "<init>", desc := "([BIII)V", sig := { parameters := [(.array .byte), .int, .int, .int], returnType := none }, accessFlags := 2, code := some k2c0 }
def k2c1 : Code := { maxStack := 8, maxLocals := 11, code := prog_50_method_4_code, exceptionTable := #[], attributes := #[] }
def k2m1 : Method := { name := "ofKey", desc := "([JI)Lcom/example/mynah/mynah/rpsl/PrefixRange;", sig := { parameters := [(.array .long), .int], returnType := some (.object "com/example/mynah/mynah/rpsl/PrefixRange") }, accessFlags := 9, code := some k2c1 }
def k2c2 : Code := { maxStack := 7, maxLocals := 9, code := prog_50_method_6_code, exceptionTable := #[], attributes := #[] }
def k2m2 : Method := { name := "writeKey", desc := "([JI)V", sig := { parameters := [(.array .long), .int], returnType := none }, accessFlags := 1, code := some k2c2 }
def k2c3 : Code := { maxStack := 1, maxLocals := 1, code := prog_50_method_7_code, exceptionTable := #[], attributes := #[] }
def k2m3 : Method := { name := "keyLongs", desc := "()I", sig := { parameters := [], returnType := some .int }, accessFlags := 1, code := some k2c3 }
def k2c4 : Code := { maxStack := 2, maxLocals := 1, code := prog_50_method_8_code, exceptionTable := #[], attributes := #[] }
def k2m4 : Method := { name := "isIpv6", desc := "()Z", sig := { parameters := [], returnType := some .boolean }, accessFlags := 1, code := some k2c4 }
def k2c5 : Code := { maxStack := 1, maxLocals := 1, code := prog_50_method_15_code, exceptionTable := #[], attributes := #[] }
def k2m5 : Method := { name := "length", desc := "()I", sig := { parameters := [], returnType := some .int }, accessFlags := 0, code := some k2c5 }
/-- com/example/mynah/mynah/rpsl/PrefixRange -/
def k2 : Class := { plain "com/example/mynah/mynah/rpsl/PrefixRange" (some 0) with
  accessFlags := 33
  interfaces := #[]
  cf := some (fileOf pool2 8 #[] #[{ accessFlags := 2, nameIndex := 5, descriptorIndex := 63, attributes := #[] }, { accessFlags := 9, nameIndex := 168, descriptorIndex := 169, attributes := #[] }, { accessFlags := 1, nameIndex := 174, descriptorIndex := 175, attributes := #[] }, { accessFlags := 1, nameIndex := 176, descriptorIndex := 52, attributes := #[] }, { accessFlags := 1, nameIndex := 101, descriptorIndex := 44, attributes := #[] }, { accessFlags := 0, nameIndex := 15, descriptorIndex := 52, attributes := #[] }] 33 2 #[] #[{ accessFlags := 25, nameIndex := 152, descriptorIndex := 16, attributes := #[] }, { accessFlags := 25, nameIndex := 155, descriptorIndex := 16, attributes := #[] }, { accessFlags := 26, nameIndex := 157, descriptorIndex := 16, attributes := #[] }, { accessFlags := 26, nameIndex := 159, descriptorIndex := 16, attributes := #[] }, { accessFlags := 26, nameIndex := 161, descriptorIndex := 16, attributes := #[] }, { accessFlags := 18, nameIndex := 11, descriptorIndex := 12, attributes := #[] }, { accessFlags := 18, nameIndex := 15, descriptorIndex := 16, attributes := #[] }, { accessFlags := 18, nameIndex := 19, descriptorIndex := 16, attributes := #[] }, { accessFlags := 18, nameIndex := 22, descriptorIndex := 16, attributes := #[] }])
  fields := #[{ name := "IPV4_KEY_LONGS", type := .int, accessFlags := 25, slot := 0, constantValue := 0 }, { name := "IPV6_KEY_LONGS", type := .int, accessFlags := 25, slot := 1, constantValue := 0 }, { name := "IPV4_LENGTH", type := .int, accessFlags := 26, slot := 2, constantValue := 0 }, { name := "IPV6_LENGTH", type := .int, accessFlags := 26, slot := 3, constantValue := 0 }, { name := "IPV6_LOWEST_BIT", type := .int, accessFlags := 26, slot := 4, constantValue := 0 }, { name := "address", type := (.array .byte), accessFlags := 18, slot := 0, constantValue := 0 }, { name := "length", type := .int, accessFlags := 18, slot := 1, constantValue := 0 }, { name := "least", type := .int, accessFlags := 18, slot := 2, constantValue := 0 }, { name := "most", type := .int, accessFlags := 18, slot := 3, constantValue := 0 }]
  methods := #[k2m0, k2m1, k2m2, k2m3, k2m4, k2m5]
  instanceTypes := #[(.array .byte), .int, .int, .int]
  staticTypes := #[.int, .int, .int, .int, .int]
  resolved := Array.replicate 205 none
  statics := none }

def pool3 : Array CpInfo := pool [(1, u "java/lang/Cloneable"), (0, .class_ 1), (0, u "java/lang/Object"), (0, .class_ 3)] 3

/-- java/lang/Cloneable -/
def k3 : Class := { plain "java/lang/Cloneable" (some 0) with
  accessFlags := 1537
  interfaces := #[]
  cf := some (fileOf pool3 2 #[] #[] 1537 4 #[] #[])
  fields := #[]
  methods := #[]
  instanceTypes := #[]
  staticTypes := #[]
  resolved := Array.replicate 8 none
  statics := none }

def pool4 : Array CpInfo := pool [(1, u "java/io/Serializable"), (0, .class_ 1), (0, u "java/lang/Object"), (0, .class_ 3)] 3

/-- java/io/Serializable -/
def k4 : Class := { plain "java/io/Serializable" (some 0) with
  accessFlags := 1537
  interfaces := #[]
  cf := some (fileOf pool4 2 #[] #[] 1537 4 #[] #[])
  fields := #[]
  methods := #[]
  instanceTypes := #[]
  staticTypes := #[]
  resolved := Array.replicate 8 none
  statics := none }

/-- the primitive byte -/
def k5 : Class := { plain "byte" none with kind := .primitive 'B', accessFlags := 0x411 }
/-- [B -/
def k6 : Class := { plain "[B" (some 0) with kind := .array 5 .byte, interfaces := #[3, 4], accessFlags := 1041 }

/-- the primitive int -/
def k7 : Class := { plain "int" none with kind := .primitive 'I', accessFlags := 0x411 }
/-- [I -/
def k8 : Class := { plain "[I" (some 0) with kind := .array 7 .int, interfaces := #[3, 4], accessFlags := 1041 }

/-- the primitive long -/
def k9 : Class := { plain "long" none with kind := .primitive 'J', accessFlags := 0x411 }
/-- [J -/
def k10 : Class := { plain "[J" (some 0) with kind := .array 9 .long, interfaces := #[3, 4], accessFlags := 1041 }

def heap : Heap := #[]
def classes : Array Class := #[k0, k1, k2, k3, k4, k5, k6, k7, k8, k9, k10]
def interned : List (Array UInt16 × Addr) := []
def slotsUsed : Nat := 0
def theMethod : MethodId := ⟨1, 1⟩
def args0 : Array Value := #[.long 5, .long 5, .long 5, .long 5, .int 3]
def aboutOver (below : List Frame) : State where
  vm := { classes := classes, interned := interned.toArray }
  heap := heap
  slotsUsed := slotsUsed
  threads := #[{ frames := .invoking theMethod args0 :: below }]
def below0 : List Frame := [.native { method := ⟨0, 0⟩, args := #[] }]
def about1 : State := aboutOver below0
def p0 : Program := .bare "" "" ""
def e0 : Env := launch0.env 0 0 0
theorem w_frames : about1.frames = Frame.invoking theMethod args0 :: below0 := rfl
set_option maxRecDepth 65536 in
theorem w_args : argsFit about1.vm theMethod args0 = true := by decide +kernel
set_option maxRecDepth 65536 in
theorem w_heap : heapFits about1 = true := by decide +kernel
set_option maxRecDepth 65536 in
theorem w_runnable : about1.curStatus? = some .runnable := by decide +kernel
set_option maxRecDepth 65536 in
theorem w_alone : about1.alone = true := by decide +kernel
set_option maxRecDepth 65536 in
theorem w_named : about1.methodNamed? x = some theMethod := by decide +kernel
set_option maxRecDepth 65536 in
theorem w_hears : about1.hears theMethod below0 = true := by decide +kernel
set_option maxRecDepth 65536 in
theorem w_ripe : about1.ripe theMethod args0 below0 = true := by decide +kernel
theorem w_running : about1.status = .running := rfl
set_option maxRecDepth 65536 in
theorem w_room : about1.hasRoom e0.platform room_1 = true :=
  launch0.hasRoom_least _ room_1 (by decide +kernel) (by decide +kernel) (by decide +kernel) (by decide +kernel) (by decide +kernel) (by decide +kernel)
theorem allAtoms_all (ts : List Jvm.Cond) (a : Array Jvm.Value) (st : Jvm.State) : (allAtoms ts).before a st = ts.all (fun c => c.before a st) := by
  induction ts with
  | nil => rfl
  | cons c t ih =>
    show (Jvm.Cond.and c (allAtoms t)).before a st = _
    rw [Jvm.Cond.before_and, ih, List.all_cons]
def words1 : List Jvm.Cond := Jvm.Cond.code x code maxLocals ret :: tables_1
/-- a 'code' word, met by the world's own term for the bytes: nothing is compared byte by byte -/
theorem code_word {y : MethodName} {bytes : ByteArray} {mx : Nat} {rt : Option FieldType} {a : Array Value} {s : State} {m : MethodId} {meth : Method} {c : Code} (h1 : s.methodNamed? y = some m) (h2 : s.vm.method? m = some meth) (h3 : meth.code = some c) (h4 : c.code = bytes)
    (h5 : (c.maxLocals == mx && c.exceptionTable.isEmpty && decide (c.maxStack ≤ mostOperands) && decide (meth.sig.returnType = rt) && !meth.locks && decide (parseMethodDescriptor y.desc = some meth.sig)) = true) : (Jvm.Cond.code y bytes mx rt).before a s = true := by
  simp only [Bool.and_eq_true, beq_iff_eq, Bool.not_eq_true', decide_eq_true_eq] at h5
  obtain ⟨⟨⟨⟨⟨g1, g2⟩, g3⟩, g4⟩, g5⟩, g6⟩ := h5
  simp [Cond.before, Cond.holds, Cond.value, h1, h2, h3, h4, g1, g2, g3, g4, g5, g6]
def isCode : Jvm.Cond → Bool
  | .code _ _ _ _ => true
  | _ => false
theorem all_split {L : List Jvm.Cond} {P : Jvm.Cond → Bool} (h1 : L.all (fun c => isCode c || P c) = true) (h2 : ∀ c ∈ L.filter isCode, P c = true) : L.all P = true := by
  refine List.all_eq_true.mpr fun c hc => ?_
  have h := List.all_eq_true.mp h1 c hc
  rcases Bool.eq_false_or_eq_true (isCode c) with hi | hi
  · exact h2 c (List.mem_filter.mpr ⟨hc, hi⟩)
  · simpa [hi] using h
set_option maxRecDepth 65536 in
theorem w_c0 : (Jvm.Cond.code x code maxLocals ret).before args0 about1 = true := code_word (m := ⟨1, 1⟩) (meth := k1m1) (c := k1c1) (by decide +kernel) rfl rfl rfl (by decide +kernel)
set_option maxRecDepth 65536 in
theorem w_c1 : (Jvm.Cond.code ({ cls := "com/example/mynah/mynah/rpsl/PrefixRange", name := "ofKey", desc := "([JI)Lcom/example/mynah/mynah/rpsl/PrefixRange;" } : Jvm.MethodName) prog_50_method_4_code (11 : Nat) (Option.some (Jvm.ClassFile.FieldType.object "com/example/mynah/mynah/rpsl/PrefixRange"))).before args0 about1 = true := code_word (m := ⟨2, 1⟩) (meth := k2m1) (c := k2c1) (by decide +kernel) rfl rfl rfl (by decide +kernel)
set_option maxRecDepth 65536 in
theorem w_c2 : (Jvm.Cond.code ({ cls := "com/example/mynah/mynah/rpsl/PrefixRange", name := "<init>", desc := "([BIII)V" } : Jvm.MethodName) prog_50_method_1_code (5 : Nat) (Option.none : Option Jvm.ClassFile.FieldType)).before args0 about1 = true := code_word (m := ⟨2, 0⟩) (meth := k2m0) (c := k2c0) (by decide +kernel) rfl rfl rfl (by decide +kernel)
set_option maxRecDepth 65536 in
theorem w_c3 : (Jvm.Cond.code ({ cls := "java/lang/Object", name := "<init>", desc := "()V" } : Jvm.MethodName) object_method_1_code (1 : Nat) (Option.none : Option Jvm.ClassFile.FieldType)).before args0 about1 = true := code_word (m := ⟨0, 0⟩) (meth := k0m0) (c := k0c0) (by decide +kernel) rfl rfl rfl (by decide +kernel)
set_option maxRecDepth 65536 in
theorem w_c4 : (Jvm.Cond.code ({ cls := "com/example/mynah/mynah/rpsl/PrefixRange", name := "writeKey", desc := "([JI)V" } : Jvm.MethodName) prog_50_method_6_code (9 : Nat) (Option.none : Option Jvm.ClassFile.FieldType)).before args0 about1 = true := code_word (m := ⟨2, 2⟩) (meth := k2m2) (c := k2c2) (by decide +kernel) rfl rfl rfl (by decide +kernel)
set_option maxRecDepth 65536 in
theorem w_c5 : (Jvm.Cond.code ({ cls := "com/example/mynah/mynah/rpsl/PrefixRange", name := "isIpv6", desc := "()Z" } : Jvm.MethodName) prog_50_method_8_code (1 : Nat) (Option.some Jvm.ClassFile.FieldType.boolean)).before args0 about1 = true := code_word (m := ⟨2, 4⟩) (meth := k2m4) (c := k2c4) (by decide +kernel) rfl rfl rfl (by decide +kernel)
set_option maxRecDepth 65536 in
theorem w_c6 : (Jvm.Cond.code ({ cls := "com/example/mynah/mynah/rpsl/PrefixRange", name := "keyLongs", desc := "()I" } : Jvm.MethodName) prog_50_method_7_code (1 : Nat) (Option.some Jvm.ClassFile.FieldType.int)).before args0 about1 = true := code_word (m := ⟨2, 3⟩) (meth := k2m3) (c := k2c3) (by decide +kernel) rfl rfl rfl (by decide +kernel)
set_option maxRecDepth 65536 in
theorem w_c7 : (Jvm.Cond.code ({ cls := "com/example/mynah/mynah/rpsl/PrefixRange", name := "length", desc := "()I" } : Jvm.MethodName) prog_50_method_15_code (1 : Nat) (Option.some Jvm.ClassFile.FieldType.int)).before args0 about1 = true := code_word (m := ⟨2, 5⟩) (meth := k2m5) (c := k2c5) (by decide +kernel) rfl rfl rfl (by decide +kernel)
def codes1 : List Jvm.Cond := [Jvm.Cond.code x code maxLocals ret, Jvm.Cond.code ({ cls := "com/example/mynah/mynah/rpsl/PrefixRange", name := "ofKey", desc := "([JI)Lcom/example/mynah/mynah/rpsl/PrefixRange;" } : Jvm.MethodName) prog_50_method_4_code (11 : Nat) (Option.some (Jvm.ClassFile.FieldType.object "com/example/mynah/mynah/rpsl/PrefixRange")), Jvm.Cond.code ({ cls := "com/example/mynah/mynah/rpsl/PrefixRange", name := "<init>", desc := "([BIII)V" } : Jvm.MethodName) prog_50_method_1_code (5 : Nat) (Option.none : Option Jvm.ClassFile.FieldType), Jvm.Cond.code ({ cls := "java/lang/Object", name := "<init>", desc := "()V" } : Jvm.MethodName) object_method_1_code (1 : Nat) (Option.none : Option Jvm.ClassFile.FieldType), Jvm.Cond.code ({ cls := "com/example/mynah/mynah/rpsl/PrefixRange", name := "writeKey", desc := "([JI)V" } : Jvm.MethodName) prog_50_method_6_code (9 : Nat) (Option.none : Option Jvm.ClassFile.FieldType), Jvm.Cond.code ({ cls := "com/example/mynah/mynah/rpsl/PrefixRange", name := "isIpv6", desc := "()Z" } : Jvm.MethodName) prog_50_method_8_code (1 : Nat) (Option.some Jvm.ClassFile.FieldType.boolean), Jvm.Cond.code ({ cls := "com/example/mynah/mynah/rpsl/PrefixRange", name := "keyLongs", desc := "()I" } : Jvm.MethodName) prog_50_method_7_code (1 : Nat) (Option.some Jvm.ClassFile.FieldType.int), Jvm.Cond.code ({ cls := "com/example/mynah/mynah/rpsl/PrefixRange", name := "length", desc := "()I" } : Jvm.MethodName) prog_50_method_15_code (1 : Nat) (Option.some Jvm.ClassFile.FieldType.int)]
set_option maxRecDepth 65536 in
theorem codes_eq : words1.filter isCode = codes1 := rfl
theorem w_codes : ∀ c ∈ words1.filter isCode, c.before args0 about1 = true := by
  rw [codes_eq]
  intro c hc
  simp only [codes1, List.mem_cons, List.not_mem_nil, or_false] at hc
  rcases hc with rfl | rfl | rfl | rfl | rfl | rfl | rfl | rfl
  · exact w_c0
  · exact w_c1
  · exact w_c2
  · exact w_c3
  · exact w_c4
  · exact w_c5
  · exact w_c6
  · exact w_c7
set_option maxRecDepth 65536 in
theorem w_t1 : (words1.take 24).all (fun c => isCode c || c.before args0 about1) = true := by decide +kernel
set_option maxRecDepth 65536 in
theorem w_t2 : ((words1.drop 24).take 24).all (fun c => isCode c || c.before args0 about1) = true := by decide +kernel
set_option maxRecDepth 65536 in
theorem w_t3 : ((words1.drop 24).drop 24).all (fun c => isCode c || c.before args0 about1) = true := by decide +kernel
theorem w_tables : (allAtoms (Jvm.Cond.code x code maxLocals ret :: tables_1)).before args0 about1 = true := by
  rw [allAtoms_all]
  show words1.all (fun c => c.before args0 about1) = true
  refine all_split ?_ w_codes
  rw [← List.take_append_drop 24 words1, List.all_append, w_t1, ← List.take_append_drop 24 (words1.drop 24), List.all_append, w_t2, w_t3]
  rfl
set_option maxRecDepth 65536 in
theorem w_case : (Jvm.Cond.and given_1 narrow_1).before args0 about1 = true := by decide +kernel
theorem w_applies : (headSpec (Jvm.Cond.code x code maxLocals ret :: tables_1) room_1).applies x e0.platform about1 = true :=
  (Spec.applies_iff w_frames).mpr ⟨w_running, w_runnable, w_alone, w_named, w_hears, w_ripe, w_room, w_tables⟩
theorem atStart : AtStart classFile x code maxLocals ret World_1 tables_1 room_1 Calls_1 rest_1 Pre_1 launch0 p0 e0 about1 theMethod args0 below0 :=
  ⟨lists_1, trivial, launch0.admits_env _ _ _, launch0.least_env, fairChoices_fair.cas, fairChoices_fair.clock, w_frames, w_args, w_heap, w_applies, trivial, trivial, w_case⟩
end start1
theorem witness_1 : WitnessClaimed_1 := ⟨start1.p0, start1.e0, start1.about1, start1.theMethod, start1.args0, start1.below0, start1.atStart⟩
end Jvm.Pilot.@@N@@
