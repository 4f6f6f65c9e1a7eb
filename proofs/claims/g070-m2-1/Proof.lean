import JvmDerived
import JvmDerived.Pilot.@@N@@Statement
import JvmDerived.Pilot.@@N@@Code
set_option linter.unusedVariables false
set_option linter.unusedSimpArgs false
namespace Jvm.Pilot.@@N@@
open Jvm Jvm.ClassFile Sem Op Lib Jvm.Free Jvm.Stand Jvm.LawKit Jvm.RoadKit Bundle Jvm.Pilot.@@N@@.Jvm.D
def own_sh (k : Nat) : Jvm.FP.Core.Datum → Jvm.FP.Core.Datum
  | .nan => .nan
  | .inf s => .inf s
  | .fin s c q => .fin s c (q + k)
def own_Dy (k : Nat) (i : Int) (a : UInt64) : Prop := Jvm.FP.Core.Whole i (own_sh k (Jvm.FP.Core.val64 a))
section
open Jvm.FP.Core
theorem own_sh_sum (k : Nat) (x y : Datum) : own_sh k (exactSum x y) = exactSum (own_sh k x) (own_sh k y) := by
  cases x <;> cases y <;> simp only [own_sh, exactSum]
  · rename_i s t; by_cases e : s = t
    · simp only [if_pos e]
    · simp only [if_neg e]
  · rename_i s c q t d r
    have h1 : min (q + (k : Int)) (r + k) = min q r + k := by omega
    have h2 : q + (k : Int) - (min q r + k) = q - min q r := by omega
    have h3 : r + (k : Int) - (min q r + k) = r - min q r := by omega
    rw [h1]
    unfold sumUnits inUnits
    rw [h2, h3]
theorem own_sh_neg (k : Nat) (x : Datum) : own_sh k (negate x) = negate (own_sh k x) := by
  cases x <;> rfl
theorem own_sh_prod (k l : Nat) (x y : Datum) : own_sh (k + l) (exactProduct x y) = exactProduct (own_sh k x) (own_sh l y) := by
  cases x <;> cases y <;> simp only [own_sh, exactProduct]
  · rename_i s t d r; by_cases e : d = 0
    · simp only [if_pos e]
    · simp only [if_neg e]
  · rename_i s c q t; by_cases e : c = 0
    · simp only [if_pos e]
    · simp only [if_neg e]
  · congr 1
    omega
theorem own_sh_order (k : Nat) (x y : Datum) : order (own_sh k x) (own_sh k y) = order x y := by
  cases x <;> cases y <;> simp only [own_sh, order]
  rename_i s c q t d r
  have h1 : min (q + (k : Int)) (r + k) = min q r + k := by omega
  have h2 : q + (k : Int) - (min q r + k) = q - min q r := by omega
  have h3 : r + (k : Int) - (min q r + k) = r - min q r := by omega
  rw [h1]
  unfold inUnits
  rw [h2, h3]
theorem own_round_sh {k : Nat} (hk : k ≤ 900) {i : Int} (hi : i.natAbs ≤ 2 ^ 53) {d : Datum} (h : Whole i (own_sh k d)) :
    Whole i (own_sh k (round b64 d)) := by
  cases d with
  | nan => exact h.elim
  | inf => exact h.elim
  | fin s c q =>
    have hn := whole_natAbs h
    by_cases hi0 : i = 0
    · have hc : c = 0 := (whole_zero h).mpr hi0
      subst hc hi0
      show Whole 0 (own_sh k (roundRatio b64 s 0 1 q))
      unfold roundRatio
      rw [if_pos rfl]
      show signed s (0 * _) = 0 * _
      rw [Nat.zero_mul, Int.zero_mul]
      exact signed_zero s
    · obtain ⟨c', q', hfit, hv⟩ := natFit good_b64 wide_b64 s (show i.natAbs ≤ 2 ^ b64.p from hi)
      rw [show (0 - q').toNat = (-q').toNat by omega, show (q' - 0).toNat = q'.toNat by omega, Nat.mul_one] at hv
      have hs := whole_sign h hi0
      obtain ⟨f1, f2, f3, f4⟩ := hfit
      have f1' : c' < 2 ^ 53 := f1
      have f2' : (-1074 : Int) ≤ q' := f2
      have f3' : q' ≤ (971 : Int) := f3
      have hq : -53 < q' := by
        refine Int.lt_of_not_ge fun hge => ?_
        rw [show q'.toNat = 0 by omega, Nat.pow_zero, Nat.mul_one] at hv
        have h53 : 2 ^ 53 ≤ 2 ^ (-q').toNat := Nat.pow_le_pow_right (by decide) (by omega)
        have h1 : 1 * 2 ^ (-q').toNat ≤ i.natAbs * 2 ^ (-q').toNat := Nat.mul_le_mul_right _ (by omega)
        omega
      have f4' : b64.tails ≤ c' := by
        rcases f4 with f4 | f4
        · have : q' = (-1074 : Int) := f4
          omega
        · exact f4
      have hfit' : Jvm.FP.Core.fits b64 (.fin s c' (q' - k)) :=
        ⟨f1, by show (-1074 : Int) ≤ _; omega, by show _ ≤ (971 : Int); omega, .inr f4'⟩
      have hr : round b64 (.fin s c q) = .fin s c' (q' - k) := by
        refine roundRatio_exact good_b64 (by decide) hfit' ?_
        have hp := Nat.mul_pos (Nat.two_pow_pos q'.toNat) (Nat.two_pow_pos (-(q + (k : Int))).toNat)
        refine Nat.eq_of_mul_eq_mul_right hp ?_
        have hx : (q - (q' - (k : Int))).toNat + (q'.toNat + (-(q + (k : Int))).toNat) =
          (q' - (k : Int) - q).toNat + ((q + (k : Int)).toNat + (-q').toNat) := by omega
        calc c * 2 ^ (q - (q' - (k : Int))).toNat * (2 ^ q'.toNat * 2 ^ (-(q + (k : Int))).toNat)
            = c * 2 ^ ((q - (q' - (k : Int))).toNat + (q'.toNat + (-(q + (k : Int))).toNat)) := by
              simp only [Nat.pow_add, Nat.mul_assoc]
          _ = (c * 2 ^ (q + (k : Int)).toNat) * (2 ^ (q' - (k : Int) - q).toNat * 2 ^ (-q').toNat) := by
              rw [hx]; simp only [Nat.pow_add]; ac_rfl
          _ = (i.natAbs * 2 ^ (-q').toNat) * (2 ^ (-(q + (k : Int))).toNat * 2 ^ (q' - (k : Int) - q).toNat) := by
              rw [hn]; ac_rfl
          _ = _ := by rw [hv]; simp only [Nat.mul_one]; ac_rfl
      rw [hr]
      show signed s (c' * 2 ^ (q' - (k : Int) + k).toNat) = i * ((2 ^ (-(q' - (k : Int) + k)).toNat : Nat) : Int)
      rw [show q' - (k : Int) + k = q' by omega, ← hv, signed_mul]
      congr 1
      rw [hs]
      unfold signed
      by_cases h : i < 0 <;> simp [h] <;> omega
theorem own_Dy_up0 {k : Nat} {i : Int} {a : UInt64} (j : Nat) (h : own_Dy k i a) : own_Dy (k + j) (i * ((2 ^ j : Nat) : Int)) a := by
  unfold own_Dy at *
  cases ha : val64 a with
  | nan => rw [ha] at h; exact h.elim
  | inf => rw [ha] at h; exact h.elim
  | fin s c q =>
    rw [ha] at h
    have h2 : Whole ((2 ^ j : Nat) : Int) (.fin false 1 j) := by
      show signed false (1 * 2 ^ (j : Int).toNat) = ((2 ^ j : Nat) : Int) * ((2 ^ (-(j : Int)).toNat : Nat) : Int)
      rw [show (j : Int).toNat = j by omega, show (-(j : Int)).toNat = 0 by omega]
      simp [signed]
    have h3 := whole_product h h2
    have h4 : exactProduct (own_sh k (.fin s c q)) (.fin false 1 j) = own_sh (k + j) (.fin s c q) := by
      show Datum.fin (s != false) (c * 1) (q + k + j) = Datum.fin s c (q + ((k + j : Nat) : Int))
      rw [Nat.mul_one, show q + ((k + j : Nat) : Int) = q + k + j by omega]
      cases s <;> rfl
    rw [h4] at h3
    exact h3
theorem own_Dy_up {k K : Nat} {i p : Int} {a : UInt64} (j : Nat) (hK : K = k + j) (hp : ((2 ^ j : Nat) : Int) = p) (h : own_Dy k i a) : own_Dy K (i * p) a := by
  subst hK hp; exact own_Dy_up0 j h
theorem own_Dy_add {k : Nat} {i j : Int} {a b : UInt64} (hk : k ≤ 900) (h1 : own_Dy k i a) (h2 : own_Dy k j b) (h : (i + j).natAbs ≤ 2 ^ 53) :
    own_Dy k (i + j) (dadd a b) := by
  unfold own_Dy at *
  rw [val64_dadd]
  refine own_round_sh hk h ?_
  rw [own_sh_sum]
  exact whole_sum h1 h2
theorem own_Dy_sub {k : Nat} {i j : Int} {a b : UInt64} (hk : k ≤ 900) (h1 : own_Dy k i a) (h2 : own_Dy k j b) (h : (i - j).natAbs ≤ 2 ^ 53) :
    own_Dy k (i - j) (dsub a b) := by
  unfold own_Dy at *
  rw [val64_dsub]
  refine own_round_sh hk h ?_
  rw [own_sh_sum, own_sh_neg]
  exact whole_sum h1 (whole_negate h2)
theorem own_Dy_mul {k l K : Nat} {i j : Int} {a b : UInt64} (hK : K = k + l) (hk : K ≤ 900) (h1 : own_Dy k i a) (h2 : own_Dy l j b) (h : (i * j).natAbs ≤ 2 ^ 53) :
    own_Dy K (i * j) (dmul a b) := by
  subst hK
  unfold own_Dy at *
  rw [val64_dmul]
  refine own_round_sh hk h ?_
  rw [own_sh_prod]
  exact whole_product h1 h2
theorem own_v8 : val64 4620693217682128896 = .fin false (2 ^ 52) (-49) := by decide +kernel
theorem own_Dy_div8 {i : Int} {a : UInt64} (h1 : own_Dy 0 i a) (h : i.natAbs ≤ 2 ^ 53) : own_Dy 3 i (ddiv a 4620693217682128896) := by
  unfold own_Dy at *
  rw [val64_ddiv, own_v8]
  cases ha : val64 a with
  | nan => rw [ha] at h1; exact h1.elim
  | inf => rw [ha] at h1; exact h1.elim
  | fin s c q =>
    rw [ha] at h1
    have h2 : quotient b64 (.fin s c q) (.fin false (2 ^ 52) (-49)) = round b64 (.fin s c (q - 3)) := by
      show (if (2 : Nat) ^ 52 = 0 then (if c = 0 then Datum.nan else Datum.inf (s != false)) else roundRatio b64 (s != false) c (2 ^ 52) (q - (-49))) = roundRatio b64 s c 1 (q - 3)
      rw [if_neg (by decide), show (s != false) = s by cases s <;> rfl]
      refine roundRatio_congr (by decide) (by decide) ?_
      rw [show (q - -49 - (q - 3)).toNat = 52 by omega, show (q - 3 - (q - -49)).toNat = 0 by omega]
      simp
    rw [h2]
    refine own_round_sh (by decide) h ?_
    show Whole i (.fin s c (q - 3 + ((3 : Nat) : Int)))
    rw [show q - 3 + ((3 : Nat) : Int) = q + ((0 : Nat) : Int) by omega]
    exact h1
theorem own_Dy_cmp {k : Nat} {i j : Int} {a b : UInt64} (h1 : own_Dy k i a) (h2 : own_Dy k j b) : dcmp a b = some (compare i j) := by
  have h := order_whole h1 h2
  rw [own_sh_order] at h
  exact h
theorem own_sh_zero (d : Datum) : own_sh 0 d = d := by
  cases d <;> simp [own_sh]
theorem own_Dy_int {i : Int} {a : UInt64} (h : DInt i a) : own_Dy 0 i a := by
  unfold own_Dy
  rw [own_sh_zero]
  exact h
theorem own_Dy_num {k : Nat} {i : Int} {a : UInt64} (h : own_Dy k i a) : val64 a ≠ .nan := by
  intro hn
  unfold own_Dy at h
  rw [hn] at h
  exact h
theorem own_Dy_mul512 {k K : Nat} {i : Int} {a : UInt64} (hK : k + 9 = K) (hk : k ≤ 900) (h1 : own_Dy K i a) (h : i.natAbs ≤ 2 ^ 53) : own_Dy k i (dmul a 4647714815446351872) := by
  subst hK
  unfold own_Dy at *
  rw [val64_dmul, show val64 4647714815446351872 = .fin false (2 ^ 52) (-43) by decide +kernel]
  refine own_round_sh hk h ?_
  cases ha : val64 a with
  | nan => rw [ha] at h1; exact h1.elim
  | inf => rw [ha] at h1; exact h1.elim
  | fin s c q =>
    rw [ha] at h1
    have h2 : Whole 1 (.fin false (2 ^ 52) (-52)) := by
      show signed false (2 ^ 52 * 2 ^ (-52 : Int).toNat) = 1 * ((2 ^ (-(-52 : Int)).toNat : Nat) : Int)
      decide +kernel
    have h3 := whole_product h1 h2
    rw [Int.mul_one] at h3
    have h4 : exactProduct (own_sh (k + 9) (.fin s c q)) (.fin false (2 ^ 52) (-52)) = own_sh k (exactProduct (.fin s c q) (.fin false (2 ^ 52) (-43))) := by
      show Datum.fin (s != false) (c * 2 ^ 52) (q + ((k + 9 : Nat) : Int) + -52) = Datum.fin (s != false) (c * 2 ^ 52) (q + -43 + (k : Int))
      rw [show q + ((k + 9 : Nat) : Int) + -52 = q + -43 + (k : Int) by omega]
    rw [h4] at h3
    exact h3
theorem own_D0 : own_Dy 0 0 0 := by
  unfold own_Dy
  rw [show val64 0 = .fin false 0 (-1074) by decide +kernel]
  show signed false (0 * 2 ^ ((-1074) + ((0 : Nat) : Int)).toNat) = 0 * _
  rw [Nat.zero_mul, Int.zero_mul]; rfl
theorem own_Di (c : Int32) : own_Dy 0 c.toInt (i2d c) := own_Dy_int (i2d_int c)
theorem own_Bi (c : Int32) : c.toInt.natAbs ≤ 2147483648 := by
  have h1 := c.toInt_lt
  have h2 := c.le_toInt
  omega
theorem own_badd {i j : Int} {A B C : Nat} (hi : i.natAbs ≤ A) (hj : j.natAbs ≤ B) (h : A + B ≤ C) : (i + j).natAbs ≤ C := by omega
theorem own_bsub {i j : Int} {A B C : Nat} (hi : i.natAbs ≤ A) (hj : j.natAbs ≤ B) (h : A + B ≤ C) : (i - j).natAbs ≤ C := by omega
theorem own_bmul {i j : Int} {A B C : Nat} (hi : i.natAbs ≤ A) (hj : j.natAbs ≤ B) (h : A * B ≤ C) : (i * j).natAbs ≤ C := by
  rw [Int.natAbs_mul]
  exact Nat.le_trans (Nat.mul_le_mul hi hj) h
theorem own_cmp0 {k : Nat} {i j : Int} {a b : UInt64} (h1 : own_Dy k i a) (h2 : own_Dy k j b) (q : i = j) (o : CmpOp) : cmpValue (Jvm.FP.dcmp a b) o = 0 := by
  subst q
  have h : Jvm.FP.dcmp a b = some (compare i i) := own_Dy_cmp h1 h2
  rw [h, compare_self_int]
  cases o <;> rfl
def own_L (a : Int64) (i : Int) (B : Nat) : Prop := a.toInt = i ∧ i.natAbs ≤ B
theorem own_L_i (c : Int32) : own_L c.toInt64 c.toInt 2147483648 := ⟨Int32.toInt_toInt64 c, own_Bi c⟩
theorem own_L_mul {a b : Int64} {i j : Int} {A B C : Nat} (x : own_L a i A) (y : own_L b j B) (h : A * B ≤ C) (hC : C < 9223372036854775808) : own_L (a * b) (i * j) C := by
  have hb := own_bmul x.2 y.2 h
  refine ⟨?_, hb⟩
  rw [Int64.toInt_mul, x.1, y.1]
  refine Int.bmod_eq_of_le ?_ ?_ <;> omega
theorem own_L_add {a b : Int64} {i j : Int} {A B C : Nat} (x : own_L a i A) (y : own_L b j B) (h : A + B ≤ C) (hC : C < 9223372036854775808) : own_L (a + b) (i + j) C := by
  have hb := own_badd x.2 y.2 h
  refine ⟨?_, hb⟩
  rw [Int64.toInt_add, x.1, y.1]
  refine Int.bmod_eq_of_le ?_ ?_ <;> omega
theorem own_L_sub {a b : Int64} {i j : Int} {A B C : Nat} (x : own_L a i A) (y : own_L b j B) (h : A + B ≤ C) (hC : C < 9223372036854775808) : own_L (a - b) (i - j) C := by
  have hb := own_bsub x.2 y.2 h
  refine ⟨?_, hb⟩
  rw [Int64.toInt_sub, x.1, y.1]
  refine Int.bmod_eq_of_le ?_ ?_ <;> omega
theorem own_L_d {a : Int64} {i : Int} {A : Nat} (x : own_L a i A) (h : A ≤ 2 ^ 53) : own_Dy 0 i (l2d a) := by
  have q := l2d_int (a := a) (by rw [x.1]; exact Nat.le_trans x.2 h)
  rw [x.1] at q
  exact own_Dy_int q
theorem own_m (x : Int32) : own_L (((((x.toUInt32 >>> ((3 : Int32) &&& 31).toUInt32).toInt32) % (17 : Int32)).toInt64) - (8 : Int64)) (((((x.toUInt32 >>> ((3 : Int32) &&& 31).toUInt32).toInt32) % (17 : Int32)).toInt64) - (8 : Int64)).toInt 8 := by
  refine ⟨rfl, ?_⟩
  have h1 := RoadKit.c_iushr x 3 3 (by decide) (by decide)
  have h2 := (RoadKit.c_irem ((x.toUInt32 >>> ((3 : Int32) &&& 31).toUInt32).toInt32) 17 17 rfl).1 (by rw [h1]; omega)
  have h3 := RoadKit.c_i2l ((((x.toUInt32 >>> ((3 : Int32) &&& 31).toUInt32).toInt32) % (17 : Int32)))
  have h4 := Int64.toInt_sub ((((x.toUInt32 >>> ((3 : Int32) &&& 31).toUInt32).toInt32) % (17 : Int32)).toInt64) 8
  rw [h3, h2, show (8 : Int64).toInt = 8 from rfl] at h4
  rw [h4, Int.bmod_eq_of_le (by omega) (by omega)]
  omega
theorem own_n (x : Int32) (n : Int32) (hn : n = (((x &&& (7 : Int32)) % (5 : Int32)) + (1 : Int32))) (h1 : ¬ n = 1) (h2 : ¬ n = 2) (h3 : ¬ n = 3) (h4 : ¬ n = 4) : n = 5 := by
  have a1 := RoadKit.c_mask x 7 3 (by decide) (by decide)
  have a2 := (RoadKit.c_irem (x &&& 7) 5 5 rfl).1 (by rw [a1]; omega)
  have a3 := Int32.toInt_add ((x &&& (7 : Int32)) % (5 : Int32)) 1
  rw [← hn, a2, show (1 : Int32).toInt = 1 from rfl, Int.bmod_eq_of_le (by omega) (by omega)] at a3
  rw [← Int32.toInt_inj] at *
  simp only [Int32.reduceToInt] at *
  omega
theorem own_D2 : own_Dy 0 2 4611686018427387904 := by
  unfold own_Dy
  rw [show val64 4611686018427387904 = .fin false (2 ^ 52) (-51) by decide +kernel]
  show signed false (2 ^ 52 * 2 ^ ((-51) + ((0 : Nat) : Int)).toNat) = 2 * ((2 ^ (-((-51) + ((0 : Nat) : Int))).toNat : Nat) : Int)
  decide +kernel
end
def own_B (Z : State) (h : Heap) (a : Addr) (l : List UInt64) : Prop := ∃ c : Cell, Arr Z h a c .double ∧ c.slots = (l.map Value.double).toArray
theorem own_B.ext {Z : State} {h h' : Heap} {a : Addr} {l : List UInt64} (V : own_B Z h a l) (E : Ext h h') : own_B Z h' a l := by obtain ⟨c, A, r⟩ := V; exact ⟨c, A.ext E, r⟩
theorem own_B.other {Z : State} {h h' : Heap} {a b : Addr} {sl : Nat} {v : Value} {l : List UInt64} (V : own_B Z h b l) (W : Wr h h' a sl v) (q : b ≠ a) : own_B Z h' b l := by obtain ⟨c, A, r⟩ := V; exact ⟨c, A.other W q, r⟩
theorem own_B.keep {Z : State} {h h' : Heap} {a : Addr} {ws : List Addr} {l : List UInt64} (V : own_B Z h a l) (K : Keep h h' ws) (q : a ∉ ws) : own_B Z h' a l := by obtain ⟨c, A, r⟩ := V; exact ⟨c, ⟨K.2.1 a c A.1 q, A.2⟩, r⟩
theorem own_B.lt {Z : State} {h : Heap} {a : Addr} {l : List UInt64} (V : own_B Z h a l) : a < h.size := by obtain ⟨c, A, -⟩ := V; exact A.lt
theorem own_B.new {Z : State} {h : Heap} {a : Addr} {k : ClassId} {n : Int32} (A : Arr Z h a (newA k .double n) .double) {l : List UInt64} (q : List.replicate n.toNatClampNeg (0 : UInt64) = l) : own_B Z h a l := by
  subst q
  refine ⟨_, A, ?_⟩
  rw [List.map_replicate]
  simp [newA, defaultValue]
theorem own_B.size {c : Cell} {l : List UInt64} {n : Int32} (S : c.slots = (l.map Value.double).toArray) (q : l.length = n.toNatClampNeg) : c.slots.size = n.toNatClampNeg := by rw [S]; simpa using q
theorem own_B.set {Z : State} {h h' : Heap} {a : Addr} {c : Cell} {l l' : List UInt64} {i : Nat} {x : UInt64} (A : Arr Z h a c .double) (S : c.slots = (l.map Value.double).toArray) (W : Wr h h' a i (.double x)) (q : l.set i x = l') : own_B Z h' a l' := by
  subst q
  refine ⟨c.setSlot i (.double x), A.same W, ?_⟩
  show c.slots.setIfInBounds i (.double x) = _
  rw [S, List.map_set]
  simp
theorem own_B.at {c : Cell} {l : List UInt64} (S : c.slots = (l.map Value.double).toArray) {i : Nat} {x : UInt64} (q : l[i]? = some x) : c.slots[i]? = some (.double x) := by
  rw [S]; simp [q]
theorem own_id1 (M c0 : Int) : ((((c0 * 8) + (M * 0)) - (0 * 8)) * 64) = (512 * c0) := by grind
theorem own_id2 (M c0 c1 : Int) : ((((c0 * 64) + (M * (((c1 * 8) + ((2 * M) * 0)) - (0 * 8)))) - (0 * 64)) * 8) = ((512 * c0) + (c1 * (64 * M))) := by grind
theorem own_id3 (M c0 c1 c2 : Int) : (((c0 * 512) + (M * (((c1 * 64) + ((2 * M) * (((c2 * 8) + ((2 * M) * 0)) - (0 * 8)))) - (0 * 64)))) - ((((c2 * 8) + ((2 * M) * 0)) - (0 * 8)) * 64)) = (((512 * c0) + (c1 * (64 * M))) + (c2 * (((16 * M) * M) - 512))) := by grind
theorem own_id4 (M c0 c1 c2 c3 : Int) : (((c0 * 4096) + (M * (((c1 * 512) + ((2 * M) * (((c2 * 64) + ((2 * M) * (((c3 * 8) + ((2 * M) * 0)) - (0 * 8)))) - (0 * 64)))) - ((((c3 * 8) + ((2 * M) * 0)) - (0 * 8)) * 64)))) - ((((c2 * 64) + ((2 * M) * (((c3 * 8) + ((2 * M) * 0)) - (0 * 8)))) - (0 * 64)) * 64)) = (((((512 * c0) + (c1 * (64 * M))) + (c2 * (((16 * M) * M) - 512))) + (c3 * ((((4 * M) * M) * M) - (192 * M)))) * 8) := by grind
theorem own_id5 (M c0 c1 c2 c3 c4 : Int) : (((c0 * 32768) + (M * (((c1 * 4096) + ((2 * M) * (((c2 * 512) + ((2 * M) * (((c3 * 64) + ((2 * M) * (((c4 * 8) + ((2 * M) * 0)) - (0 * 8)))) - (0 * 64)))) - ((((c4 * 8) + ((2 * M) * 0)) - (0 * 8)) * 64)))) - ((((c3 * 64) + ((2 * M) * (((c4 * 8) + ((2 * M) * 0)) - (0 * 8)))) - (0 * 64)) * 64)))) - ((((c2 * 512) + ((2 * M) * (((c3 * 64) + ((2 * M) * (((c4 * 8) + ((2 * M) * 0)) - (0 * 8)))) - (0 * 64)))) - ((((c4 * 8) + ((2 * M) * 0)) - (0 * 8)) * 64)) * 64)) = ((((((512 * c0) + (c1 * (64 * M))) + (c2 * (((16 * M) * M) - 512))) + (c3 * ((((4 * M) * M) * M) - (192 * M)))) + (c4 * (((((M * M) * M) * M) - ((64 * M) * M)) + 512))) * 64) := by grind
theorem d1s1_0 : decode prog_28_method_4_code 0 = .ok (.dconst 0, 1) := by decide +kernel
theorem d1s1_1 : decode prog_28_method_4_code 1 = .ok (.dstore_n 3, 1) := by decide +kernel
theorem d1s1_2 : decode prog_28_method_4_code 2 = .ok (.dconst 0, 1) := by decide +kernel
theorem d1s1_3 : decode prog_28_method_4_code 3 = .ok (.dstore 5, 2) := by decide +kernel
theorem d1s1_5 : decode prog_28_method_4_code 5 = .ok (.aload_n 0, 1) := by decide +kernel
theorem d1s1_6 : decode prog_28_method_4_code 6 = .ok (.arraylength, 1) := by decide +kernel
theorem d1s1_7 : decode prog_28_method_4_code 7 = .ok (.iconst 1, 1) := by decide +kernel
theorem d1s1_8 : decode prog_28_method_4_code 8 = .ok (.isub, 1) := by decide +kernel
theorem d1s1_9 : decode prog_28_method_4_code 9 = .ok (.istore 7, 2) := by decide +kernel
theorem d1s1_11 : decode prog_28_method_4_code 11 = .ok (.iload 7, 2) := by decide +kernel
theorem d1s1_13 : decode prog_28_method_4_code 13 = .ok (.iconst 1, 1) := by decide +kernel
theorem d1s1_14 : decode prog_28_method_4_code 14 = .ok (.if_icmp .lt 32, 3) := by decide +kernel
theorem d1s1_46 : decode prog_28_method_4_code 46 = .ok (.aload_n 0, 1) := by decide +kernel
theorem d1s1_47 : decode prog_28_method_4_code 47 = .ok (.iconst 0, 1) := by decide +kernel
theorem d1s1_48 : decode prog_28_method_4_code 48 = .ok (.daload, 1) := by decide +kernel
theorem d1s1_49 : decode prog_28_method_4_code 49 = .ok (.dload_n 1, 1) := by decide +kernel
theorem d1s1_50 : decode prog_28_method_4_code 50 = .ok (.dload_n 3, 1) := by decide +kernel
theorem d1s1_51 : decode prog_28_method_4_code 51 = .ok (.dmul, 1) := by decide +kernel
theorem d1s1_52 : decode prog_28_method_4_code 52 = .ok (.dadd, 1) := by decide +kernel
theorem d1s1_53 : decode prog_28_method_4_code 53 = .ok (.dload 5, 2) := by decide +kernel
theorem d1s1_55 : decode prog_28_method_4_code 55 = .ok (.dsub, 1) := by decide +kernel
theorem d1s1_56 : decode prog_28_method_4_code 56 = .ok (.dreturn, 1) := by decide +kernel
theorem pn_1s1 : plainName "com/example/matchstat/matchstat/Chebyshev" = true := by first | (simp [plainName, overriddenIn]; done) | decide +kernel
theorem ef_1s1 (m : MethodId) (x0 : Addr) (x1 : UInt64) : entryFrame m #[(.ref x0), (.double x1)] 10 = mkF m 0 #[.val (.ref x0), .val (.double x1), .second, .unset, .unset, .unset, .unset, .unset, .unset, .unset] [] := by first | (simp [entryFrame, mkF, argsToLocals, Value.category]; done) | rfl
def Q1s1 (Z : State) (ra : Addr) (sd : UInt64) (x0' : UInt64) (M : Int) (c0 : Int) (h0 : Heap) (n0 : Nat) (v : Option Value) (h : Heap) (L : List Loc) : Prop := ∃ r, v = some (.double r) ∧ Fr n0 L ∧ h = h0 ∧ own_Dy 3 (((c0 * 8) + (M * 0)) - (0 * 8)) r ∧ ((((c0 * 8) + (M * 0)) - (0 * 8)) : Int).natAbs ≤ 17179869184
set_option maxRecDepth 65536 in
set_option maxHeartbeats 40000000 in
theorem rm1s1 (l : Launch) (Z : State) (a0 : Array Value) (hw : ∀ d ∈ tables_1, d.before a0 Z = true) (ws : List Jvm.Cond) (ra : Addr) (sd : UInt64) (x0' : UInt64) (M : Int) (c0 : Int) (h0 : Heap) (n0 : Nat) (Z0 : n0 ≤ h0.size) (V_ra : own_B Z h0 ra [x0']) (DM : own_Dy 3 M sd) (BM : M.natAbs ≤ 8) (Dc0 : own_Dy 0 c0 x0') (Bc0 : c0.natAbs ≤ 2147483648) :
    MetFree l (⟨"com/example/matchstat/matchstat/Chebyshev", "sum", "([DD)D"⟩ : MethodName) (head1 (Jvm.Cond.code (⟨"com/example/matchstat/matchstat/Chebyshev", "sum", "([DD)D"⟩ : MethodName) prog_28_method_4_code 10 (some .double) :: ws) ({ frames := 0, cells := 0, slots := 0, locals := 0 } : Room)) (fun ar U => ar = #[(.ref ra), (.double sd)] ∧ Z.Warmed39 U.vm ∧ U.heap = h0) (fun _ _ _ _ _ => True) (fun _ U o U' => ∃ v L, o = .returned v ∧ Q1s1 Z ra sd x0' M c0 h0 n0 v U'.heap L ∧ FrameEnd U o U' L ({ frames := 0, cells := 0, slots := 0, locals := 0 } : Room).cells ({ frames := 0, cells := 0, slots := 0, locals := 0 } : Room).slots) := by
  refine MetFree.of_bodySF (plainFor_of_name pn_1s1) hisR ?_
  intro p e s m args below meth c s₁ Bd hml0 hP hK
  obtain ⟨rfl, hZ, hh⟩ := hP
  have hx := Bd.exec
  have hby := Bd.bytes
  have hml : c.maxLocals = 10 := hml0
  have hown : s.vm.findClass "com/example/matchstat/matchstat/Chebyshev" = some m.cls := findClass_of_methodNamed Bd.named
  have hnm := (name_of_methodNamed Bd.named Bd.method).1
  have X0 : Stand p l e ({ frames := 0, cells := 0, slots := 0, locals := 0 } : Room) s m #[(.ref ra), (.double sd)] below meth c s₁ [] 0 0 := Stand.of_body Bd
  have e0 : s₁.heap = h0 := by rw [← hh, Bd.state]; rfl
  have N0 := Fr.nil n0
  have K0 : Keep h0 h0 [] := Keep.refl h0 _
  have pre0 : ∀ t, Steps p.tables e below (s₁.setTop (mkF m 0 #[.val (.ref ra), .val (.double sd), .second, .unset, .unset, .unset, .unset, .unset, .unset, .unset] [])) t → Steps p.tables e below (s₁.setTop (entryFrame m #[(.ref ra), (.double sd)] 10)) t := fun t k => castTop (ef_1s1 m ra sd) k
  obtain ⟨cl61, Ar61, Sq61⟩ := id V_ra
  have S61 : cl61.slots.size = ((1 : Int32)).toNatClampNeg := own_B.size Sq61 rfl
  have M61 : ¬ (1 : Int32) < 0 := by decide
  obtain ⟨cl482, Ar482, Sq482⟩ := id V_ra
  have S482 : cl482.slots.size = ((1 : Int32)).toNatClampNeg := own_B.size Sq482 rfl
  have hin482 : ¬ ((0 : Int32) < 0 ∨ cl482.slots.size ≤ ((0 : Int32)).toNatClampNeg) := inb_of S482 ⟨by decide, by decide⟩
  have hat482 : cl482.slots[((0 : Int32)).toNatClampNeg]? = some (.double x0') := own_B.at Sq482 rfl
  have B3 : ((M * 0) : Int).natAbs ≤ 0 := own_bmul BM (by decide : (0 : Int).natAbs ≤ 0) (by decide)
  obtain ⟨d3, v3⟩ : ∃ z : UInt64, FP.dmul sd (0 : UInt64) = z := ⟨_, rfl⟩
  have D3 : own_Dy 3 (M * 0) d3 := by
    rw [← v3]
    exact own_Dy_mul rfl (by decide) DM own_D0 (Nat.le_trans B3 (by decide))
  have nn3 : Jvm.Free.Fl.NoNaN64 (FP.dmul sd (0 : UInt64)) := by
    rw [v3]
    exact Jvm.Free.Fl.val64_no.mpr (own_Dy_num D3)
  have B4 : (((c0 * 8) + (M * 0)) : Int).natAbs ≤ 17179869184 := own_badd (own_bmul (C := 17179869184) Bc0 (by decide : (8 : Int).natAbs ≤ 8) (by decide)) B3 (by decide)
  obtain ⟨d4, v4⟩ : ∃ z : UInt64, FP.dadd x0' d3 = z := ⟨_, rfl⟩
  have D4 : own_Dy 3 ((c0 * 8) + (M * 0)) d4 := by
    rw [← v4]
    exact own_Dy_add (by decide) (own_Dy_up (K := 3) (p := 8) 3 rfl (by decide) Dc0) D3 (Nat.le_trans B4 (by decide))
  have nn4 : Jvm.Free.Fl.NoNaN64 (FP.dadd x0' d3) := by
    rw [v4]
    exact Jvm.Free.Fl.val64_no.mpr (own_Dy_num D4)
  have B5 : ((((c0 * 8) + (M * 0)) - (0 * 8)) : Int).natAbs ≤ 17179869184 := own_bsub B4 (own_bmul (C := 0) (by decide : (0 : Int).natAbs ≤ 0) (by decide : (8 : Int).natAbs ≤ 8) (by decide)) (by decide)
  obtain ⟨d5, v5⟩ : ∃ z : UInt64, FP.dsub d4 (0 : UInt64) = z := ⟨_, rfl⟩
  have D5 : own_Dy 3 (((c0 * 8) + (M * 0)) - (0 * 8)) d5 := by
    rw [← v5]
    exact own_Dy_sub (by decide) D4 (own_Dy_up (K := 3) (p := 8) 3 rfl (by decide) own_D0) (Nat.le_trans B5 (by decide))
  have nn5 : Jvm.Free.Fl.NoNaN64 (FP.dsub d4 (0 : UInt64)) := by
    rw [v5]
    exact Jvm.Free.Fl.val64_no.mpr (own_Dy_num D5)
  obtain ⟨fs, hr, hrun, hended, hW, hsame⟩ := X0.leave (v := some (.double d5)) (fun h => by rw [Bd.returns] at h; cases h)
  refine ⟨_, _, pre0 _ ?_, hrun, hended, _, _, rfl, ?_, ⟨_, rfl⟩, hW, hsame.mono (by decide) (by decide)⟩
  · show Steps p.tables e below (s₁.setTop (mkF m 0 #[.val (.ref ra), .val (.double sd), .second, .unset, .unset, .unset, .unset, .unset, .unset, .unset] [])) _
    refine XS.dconst0 X0.here hx rfl (hb hby d1s1_0) (v := (0 : UInt64)) rfl ?_
    show Steps p.tables e below (s₁.setTop (mkF m 1 #[.val (.ref ra), .val (.double sd), .second, .unset, .unset, .unset, .unset, .unset, .unset, .unset] [(.double (0 : UInt64))])) _
    refine XS.dstoreN X0.here hx rfl (hb hby d1s1_1) rfl (l' := #[.val (.ref ra), .val (.double sd), .second, .val (.double (0 : UInt64)), .second, .unset, .unset, .unset, .unset, .unset]) rfl ?_
    show Steps p.tables e below (s₁.setTop (mkF m 2 #[.val (.ref ra), .val (.double sd), .second, .val (.double (0 : UInt64)), .second, .unset, .unset, .unset, .unset, .unset] [])) _
    refine XS.dconst0 X0.here hx rfl (hb hby d1s1_2) (v := (0 : UInt64)) rfl ?_
    show Steps p.tables e below (s₁.setTop (mkF m 3 #[.val (.ref ra), .val (.double sd), .second, .val (.double (0 : UInt64)), .second, .unset, .unset, .unset, .unset, .unset] [(.double (0 : UInt64))])) _
    refine XS.dstore X0.here hx rfl (hb hby d1s1_3) rfl (l' := #[.val (.ref ra), .val (.double sd), .second, .val (.double (0 : UInt64)), .second, .val (.double (0 : UInt64)), .second, .unset, .unset, .unset]) rfl ?_
    show Steps p.tables e below (s₁.setTop (mkF m 5 #[.val (.ref ra), .val (.double sd), .second, .val (.double (0 : UInt64)), .second, .val (.double (0 : UInt64)), .second, .unset, .unset, .unset] [])) _
    refine XS.aloadN X0.here hx rfl (hb hby d1s1_5) rfl rfl ?_
    show Steps p.tables e below (s₁.setTop (mkF m 6 #[.val (.ref ra), .val (.double sd), .second, .val (.double (0 : UInt64)), .second, .val (.double (0 : UInt64)), .second, .unset, .unset, .unset] [(.ref ra)])) _
    refine X0.arraylength hx (cell := cl61) (by rw [e0]; exact Ar61.1) (State.isArrayOf_alike hZ.alike Ar61.2.1) (g := (mkF m 6 #[.val (.ref ra), .val (.double sd), .second, .val (.double (0 : UInt64)), .second, .val (.double (0 : UInt64)), .second, .unset, .unset, .unset] [(.ref ra)])) rfl (rest := []) rfl (hb hby d1s1_6) _ ?_
    rw [len_of S61 M61]
    show Steps p.tables e below (s₁.setTop (mkF m 7 #[.val (.ref ra), .val (.double sd), .second, .val (.double (0 : UInt64)), .second, .val (.double (0 : UInt64)), .second, .unset, .unset, .unset] [(.int (1 : Int32))])) _
    refine XS.iconst X0.here hx rfl (hb hby d1s1_7) ?_
    show Steps p.tables e below (s₁.setTop (mkF m 8 #[.val (.ref ra), .val (.double sd), .second, .val (.double (0 : UInt64)), .second, .val (.double (0 : UInt64)), .second, .unset, .unset, .unset] [(.int (1 : Int32)), (.int (1 : Int32))])) _
    refine XS.isub X0.here hx rfl (hb hby d1s1_8) rfl ?_
    show Steps p.tables e below (s₁.setTop (mkF m 9 #[.val (.ref ra), .val (.double sd), .second, .val (.double (0 : UInt64)), .second, .val (.double (0 : UInt64)), .second, .unset, .unset, .unset] [(.int (0 : Int32))])) _
    refine XS.istore X0.here hx rfl (hb hby d1s1_9) rfl (l' := #[.val (.ref ra), .val (.double sd), .second, .val (.double (0 : UInt64)), .second, .val (.double (0 : UInt64)), .second, .val (.int (0 : Int32)), .unset, .unset]) rfl ?_
    show Steps p.tables e below (s₁.setTop (mkF m 11 #[.val (.ref ra), .val (.double sd), .second, .val (.double (0 : UInt64)), .second, .val (.double (0 : UInt64)), .second, .val (.int (0 : Int32)), .unset, .unset] [])) _
    refine XS.iload X0.here hx rfl (hb hby d1s1_11) rfl ?_
    show Steps p.tables e below (s₁.setTop (mkF m 13 #[.val (.ref ra), .val (.double sd), .second, .val (.double (0 : UInt64)), .second, .val (.double (0 : UInt64)), .second, .val (.int (0 : Int32)), .unset, .unset] [(.int (0 : Int32))])) _
    refine XS.iconst X0.here hx rfl (hb hby d1s1_13) ?_
    show Steps p.tables e below (s₁.setTop (mkF m 14 #[.val (.ref ra), .val (.double sd), .second, .val (.double (0 : UInt64)), .second, .val (.double (0 : UInt64)), .second, .val (.int (0 : Int32)), .unset, .unset] [(.int (1 : Int32)), (.int (0 : Int32))])) _
    refine XS.icmpYes X0.here hx rfl (pc0 := 14) (pc' := 46) rfl (hb hby d1s1_14) rfl (tlt (by decide : (0 : Int32) < (1 : Int32))).1 (by decide) (by decide) ?_
    show Steps p.tables e below (s₁.setTop (mkF m 46 #[.val (.ref ra), .val (.double sd), .second, .val (.double (0 : UInt64)), .second, .val (.double (0 : UInt64)), .second, .val (.int (0 : Int32)), .unset, .unset] [])) _
    refine XS.aloadN X0.here hx rfl (hb hby d1s1_46) rfl rfl ?_
    show Steps p.tables e below (s₁.setTop (mkF m 47 #[.val (.ref ra), .val (.double sd), .second, .val (.double (0 : UInt64)), .second, .val (.double (0 : UInt64)), .second, .val (.int (0 : Int32)), .unset, .unset] [(.ref ra)])) _
    refine XS.iconst X0.here hx rfl (hb hby d1s1_47) ?_
    show Steps p.tables e below (s₁.setTop (mkF m 48 #[.val (.ref ra), .val (.double sd), .second, .val (.double (0 : UInt64)), .second, .val (.double (0 : UInt64)), .second, .val (.int (0 : Int32)), .unset, .unset] [(.int (0 : Int32)), (.ref ra)])) _
    refine X0.daload hx (j := (0 : Int32)) (v := (.double x0')) (by rw [e0]; exact Ar482.1) (State.isArrayOf_alike hZ.alike Ar482.2.1) Ar482.2.2 hin482 hat482 (g := (mkF m 48 #[.val (.ref ra), .val (.double sd), .second, .val (.double (0 : UInt64)), .second, .val (.double (0 : UInt64)), .second, .val (.int (0 : Int32)), .unset, .unset] [(.int (0 : Int32)), (.ref ra)])) rfl rfl (hb hby d1s1_48) _ ?_
    show Steps p.tables e below (s₁.setTop (mkF m 49 #[.val (.ref ra), .val (.double sd), .second, .val (.double (0 : UInt64)), .second, .val (.double (0 : UInt64)), .second, .val (.int (0 : Int32)), .unset, .unset] [(.double x0')])) _
    refine XS.dloadN X0.here hx rfl (hb hby d1s1_49) rfl ?_
    show Steps p.tables e below (s₁.setTop (mkF m 50 #[.val (.ref ra), .val (.double sd), .second, .val (.double (0 : UInt64)), .second, .val (.double (0 : UInt64)), .second, .val (.int (0 : Int32)), .unset, .unset] [(.double sd), (.double x0')])) _
    refine XS.dloadN X0.here hx rfl (hb hby d1s1_50) rfl ?_
    show Steps p.tables e below (s₁.setTop (mkF m 51 #[.val (.ref ra), .val (.double sd), .second, .val (.double (0 : UInt64)), .second, .val (.double (0 : UInt64)), .second, .val (.int (0 : Int32)), .unset, .unset] [(.double (0 : UInt64)), (.double sd), (.double x0')])) _
    refine XS.dmulS X0.here hx rfl (hb hby d1s1_51) rfl nn3 v3 ?_
    show Steps p.tables e below (s₁.setTop (mkF m 52 #[.val (.ref ra), .val (.double sd), .second, .val (.double (0 : UInt64)), .second, .val (.double (0 : UInt64)), .second, .val (.int (0 : Int32)), .unset, .unset] [(.double d3), (.double x0')])) _
    refine XS.daddS X0.here hx rfl (hb hby d1s1_52) rfl nn4 v4 ?_
    show Steps p.tables e below (s₁.setTop (mkF m 53 #[.val (.ref ra), .val (.double sd), .second, .val (.double (0 : UInt64)), .second, .val (.double (0 : UInt64)), .second, .val (.int (0 : Int32)), .unset, .unset] [(.double d4)])) _
    refine XS.dload X0.here hx rfl (hb hby d1s1_53) rfl ?_
    show Steps p.tables e below (s₁.setTop (mkF m 55 #[.val (.ref ra), .val (.double sd), .second, .val (.double (0 : UInt64)), .second, .val (.double (0 : UInt64)), .second, .val (.int (0 : Int32)), .unset, .unset] [(.double (0 : UInt64)), (.double d4)])) _
    refine XS.dsubS X0.here hx rfl (hb hby d1s1_55) rfl nn5 v5 ?_
    show Steps p.tables e below (s₁.setTop (mkF m 56 #[.val (.ref ra), .val (.double sd), .second, .val (.double (0 : UInt64)), .second, .val (.double (0 : UInt64)), .second, .val (.int (0 : Int32)), .unset, .unset] [(.double d5)])) _
    exact retOut X0 hx Bd.returns rfl (Or.inr (Or.inr (Or.inl ⟨rfl, rfl, _, rfl⟩))) (hb hby d1s1_56) hr
  · show Q1s1 Z ra sd x0' M c0 h0 n0 _ s₁.heap _
    rw [e0]
    exact ⟨_, rfl, N0, rfl, D5, B5⟩
theorem d1s2_0 : decode prog_28_method_4_code 0 = .ok (.dconst 0, 1) := by decide +kernel
theorem d1s2_1 : decode prog_28_method_4_code 1 = .ok (.dstore_n 3, 1) := by decide +kernel
theorem d1s2_2 : decode prog_28_method_4_code 2 = .ok (.dconst 0, 1) := by decide +kernel
theorem d1s2_3 : decode prog_28_method_4_code 3 = .ok (.dstore 5, 2) := by decide +kernel
theorem d1s2_5 : decode prog_28_method_4_code 5 = .ok (.aload_n 0, 1) := by decide +kernel
theorem d1s2_6 : decode prog_28_method_4_code 6 = .ok (.arraylength, 1) := by decide +kernel
theorem d1s2_7 : decode prog_28_method_4_code 7 = .ok (.iconst 1, 1) := by decide +kernel
theorem d1s2_8 : decode prog_28_method_4_code 8 = .ok (.isub, 1) := by decide +kernel
theorem d1s2_9 : decode prog_28_method_4_code 9 = .ok (.istore 7, 2) := by decide +kernel
theorem d1s2_11 : decode prog_28_method_4_code 11 = .ok (.iload 7, 2) := by decide +kernel
theorem d1s2_13 : decode prog_28_method_4_code 13 = .ok (.iconst 1, 1) := by decide +kernel
theorem d1s2_14 : decode prog_28_method_4_code 14 = .ok (.if_icmp .lt 32, 3) := by decide +kernel
theorem d1s2_17 : decode prog_28_method_4_code 17 = .ok (.aload_n 0, 1) := by decide +kernel
theorem d1s2_18 : decode prog_28_method_4_code 18 = .ok (.iload 7, 2) := by decide +kernel
theorem d1s2_20 : decode prog_28_method_4_code 20 = .ok (.daload, 1) := by decide +kernel
theorem d1s2_21 : decode prog_28_method_4_code 21 = .ok (.ldc2_w 13, 3) := by decide +kernel
theorem d1s2_24 : decode prog_28_method_4_code 24 = .ok (.dload_n 1, 1) := by decide +kernel
theorem d1s2_25 : decode prog_28_method_4_code 25 = .ok (.dmul, 1) := by decide +kernel
theorem d1s2_26 : decode prog_28_method_4_code 26 = .ok (.dload_n 3, 1) := by decide +kernel
theorem d1s2_27 : decode prog_28_method_4_code 27 = .ok (.dmul, 1) := by decide +kernel
theorem d1s2_28 : decode prog_28_method_4_code 28 = .ok (.dadd, 1) := by decide +kernel
theorem d1s2_29 : decode prog_28_method_4_code 29 = .ok (.dload 5, 2) := by decide +kernel
theorem d1s2_31 : decode prog_28_method_4_code 31 = .ok (.dsub, 1) := by decide +kernel
theorem d1s2_32 : decode prog_28_method_4_code 32 = .ok (.dstore 8, 2) := by decide +kernel
theorem d1s2_34 : decode prog_28_method_4_code 34 = .ok (.dload_n 3, 1) := by decide +kernel
theorem d1s2_35 : decode prog_28_method_4_code 35 = .ok (.dstore 5, 2) := by decide +kernel
theorem d1s2_37 : decode prog_28_method_4_code 37 = .ok (.dload 8, 2) := by decide +kernel
theorem d1s2_39 : decode prog_28_method_4_code 39 = .ok (.dstore_n 3, 1) := by decide +kernel
theorem d1s2_40 : decode prog_28_method_4_code 40 = .ok (.iinc 7 (-1), 3) := by decide +kernel
theorem d1s2_43 : decode prog_28_method_4_code 43 = .ok (.goto (-32), 3) := by decide +kernel
theorem d1s2_46 : decode prog_28_method_4_code 46 = .ok (.aload_n 0, 1) := by decide +kernel
theorem d1s2_47 : decode prog_28_method_4_code 47 = .ok (.iconst 0, 1) := by decide +kernel
theorem d1s2_48 : decode prog_28_method_4_code 48 = .ok (.daload, 1) := by decide +kernel
theorem d1s2_49 : decode prog_28_method_4_code 49 = .ok (.dload_n 1, 1) := by decide +kernel
theorem d1s2_50 : decode prog_28_method_4_code 50 = .ok (.dload_n 3, 1) := by decide +kernel
theorem d1s2_51 : decode prog_28_method_4_code 51 = .ok (.dmul, 1) := by decide +kernel
theorem d1s2_52 : decode prog_28_method_4_code 52 = .ok (.dadd, 1) := by decide +kernel
theorem d1s2_53 : decode prog_28_method_4_code 53 = .ok (.dload 5, 2) := by decide +kernel
theorem d1s2_55 : decode prog_28_method_4_code 55 = .ok (.dsub, 1) := by decide +kernel
theorem d1s2_56 : decode prog_28_method_4_code 56 = .ok (.dreturn, 1) := by decide +kernel
theorem pn_1s2 : plainName "com/example/matchstat/matchstat/Chebyshev" = true := by first | (simp [plainName, overriddenIn]; done) | decide +kernel
theorem ef_1s2 (m : MethodId) (x0 : Addr) (x1 : UInt64) : entryFrame m #[(.ref x0), (.double x1)] 10 = mkF m 0 #[.val (.ref x0), .val (.double x1), .second, .unset, .unset, .unset, .unset, .unset, .unset, .unset] [] := by first | (simp [entryFrame, mkF, argsToLocals, Value.category]; done) | rfl
def Q1s2 (Z : State) (ra : Addr) (sd : UInt64) (x0' : UInt64) (x1' : UInt64) (M : Int) (c0 : Int) (c1 : Int) (h0 : Heap) (n0 : Nat) (v : Option Value) (h : Heap) (L : List Loc) : Prop := ∃ r, v = some (.double r) ∧ Fr n0 L ∧ h = h0 ∧ own_Dy 6 (((c0 * 64) + (M * (((c1 * 8) + ((2 * M) * 0)) - (0 * 8)))) - (0 * 64)) r ∧ ((((c0 * 64) + (M * (((c1 * 8) + ((2 * M) * 0)) - (0 * 8)))) - (0 * 64)) : Int).natAbs ≤ 274877906944
set_option maxRecDepth 65536 in
set_option maxHeartbeats 40000000 in
theorem rm1s2 (l : Launch) (Z : State) (a0 : Array Value) (hw : ∀ d ∈ tables_1, d.before a0 Z = true) (ws : List Jvm.Cond) (ra : Addr) (sd : UInt64) (x0' : UInt64) (x1' : UInt64) (M : Int) (c0 : Int) (c1 : Int) (h0 : Heap) (n0 : Nat) (Z0 : n0 ≤ h0.size) (V_ra : own_B Z h0 ra [x0', x1']) (DM : own_Dy 3 M sd) (BM : M.natAbs ≤ 8) (Dc0 : own_Dy 0 c0 x0') (Bc0 : c0.natAbs ≤ 2147483648) (Dc1 : own_Dy 0 c1 x1') (Bc1 : c1.natAbs ≤ 2147483648) :
    MetFree l (⟨"com/example/matchstat/matchstat/Chebyshev", "sum", "([DD)D"⟩ : MethodName) (head1 (Jvm.Cond.code (⟨"com/example/matchstat/matchstat/Chebyshev", "sum", "([DD)D"⟩ : MethodName) prog_28_method_4_code 10 (some .double) :: ws) ({ frames := 0, cells := 0, slots := 0, locals := 0 } : Room)) (fun ar U => ar = #[(.ref ra), (.double sd)] ∧ Z.Warmed39 U.vm ∧ U.heap = h0) (fun _ _ _ _ _ => True) (fun _ U o U' => ∃ v L, o = .returned v ∧ Q1s2 Z ra sd x0' x1' M c0 c1 h0 n0 v U'.heap L ∧ FrameEnd U o U' L ({ frames := 0, cells := 0, slots := 0, locals := 0 } : Room).cells ({ frames := 0, cells := 0, slots := 0, locals := 0 } : Room).slots) := by
  refine MetFree.of_bodySF (plainFor_of_name pn_1s2) hisR ?_
  intro p e s m args below meth c s₁ Bd hml0 hP hK
  obtain ⟨rfl, hZ, hh⟩ := hP
  have hx := Bd.exec
  have hby := Bd.bytes
  have hml : c.maxLocals = 10 := hml0
  have hown : s.vm.findClass "com/example/matchstat/matchstat/Chebyshev" = some m.cls := findClass_of_methodNamed Bd.named
  have hnm := (name_of_methodNamed Bd.named Bd.method).1
  have X0 : Stand p l e ({ frames := 0, cells := 0, slots := 0, locals := 0 } : Room) s m #[(.ref ra), (.double sd)] below meth c s₁ [] 0 0 := Stand.of_body Bd
  have e0 : s₁.heap = h0 := by rw [← hh, Bd.state]; rfl
  have N0 := Fr.nil n0
  have K0 : Keep h0 h0 [] := Keep.refl h0 _
  have pre0 : ∀ t, Steps p.tables e below (s₁.setTop (mkF m 0 #[.val (.ref ra), .val (.double sd), .second, .unset, .unset, .unset, .unset, .unset, .unset, .unset] [])) t → Steps p.tables e below (s₁.setTop (entryFrame m #[(.ref ra), (.double sd)] 10)) t := fun t k => castTop (ef_1s2 m ra sd) k
  obtain ⟨cl61, Ar61, Sq61⟩ := id V_ra
  have S61 : cl61.slots.size = ((2 : Int32)).toNatClampNeg := own_B.size Sq61 rfl
  have M61 : ¬ (2 : Int32) < 0 := by decide
  obtain ⟨cl202, Ar202, Sq202⟩ := id V_ra
  have S202 : cl202.slots.size = ((2 : Int32)).toNatClampNeg := own_B.size Sq202 rfl
  have hin202 : ¬ ((1 : Int32) < 0 ∨ cl202.slots.size ≤ ((1 : Int32)).toNatClampNeg) := inb_of S202 ⟨by decide, by decide⟩
  have hat202 : cl202.slots[((1 : Int32)).toNatClampNeg]? = some (.double x1') := own_B.at Sq202 rfl
  have B3 : ((2 * M) : Int).natAbs ≤ 16 := own_bmul (by decide : (2 : Int).natAbs ≤ 2) BM (by decide)
  obtain ⟨d3, v3⟩ : ∃ z : UInt64, FP.dmul (4611686018427387904 : UInt64) sd = z := ⟨_, rfl⟩
  have D3 : own_Dy 3 (2 * M) d3 := by
    rw [← v3]
    exact own_Dy_mul rfl (by decide) own_D2 DM (Nat.le_trans B3 (by decide))
  have nn3 : Jvm.Free.Fl.NoNaN64 (FP.dmul (4611686018427387904 : UInt64) sd) := by
    rw [v3]
    exact Jvm.Free.Fl.val64_no.mpr (own_Dy_num D3)
  have B4 : (((2 * M) * 0) : Int).natAbs ≤ 0 := own_bmul B3 (by decide : (0 : Int).natAbs ≤ 0) (by decide)
  obtain ⟨d4, v4⟩ : ∃ z : UInt64, FP.dmul d3 (0 : UInt64) = z := ⟨_, rfl⟩
  have D4 : own_Dy 3 ((2 * M) * 0) d4 := by
    rw [← v4]
    exact own_Dy_mul rfl (by decide) D3 own_D0 (Nat.le_trans B4 (by decide))
  have nn4 : Jvm.Free.Fl.NoNaN64 (FP.dmul d3 (0 : UInt64)) := by
    rw [v4]
    exact Jvm.Free.Fl.val64_no.mpr (own_Dy_num D4)
  have B5 : (((c1 * 8) + ((2 * M) * 0)) : Int).natAbs ≤ 17179869184 := own_badd (own_bmul (C := 17179869184) Bc1 (by decide : (8 : Int).natAbs ≤ 8) (by decide)) B4 (by decide)
  obtain ⟨d5, v5⟩ : ∃ z : UInt64, FP.dadd x1' d4 = z := ⟨_, rfl⟩
  have D5 : own_Dy 3 ((c1 * 8) + ((2 * M) * 0)) d5 := by
    rw [← v5]
    exact own_Dy_add (by decide) (own_Dy_up (K := 3) (p := 8) 3 rfl (by decide) Dc1) D4 (Nat.le_trans B5 (by decide))
  have nn5 : Jvm.Free.Fl.NoNaN64 (FP.dadd x1' d4) := by
    rw [v5]
    exact Jvm.Free.Fl.val64_no.mpr (own_Dy_num D5)
  have B6 : ((((c1 * 8) + ((2 * M) * 0)) - (0 * 8)) : Int).natAbs ≤ 17179869184 := own_bsub B5 (own_bmul (C := 0) (by decide : (0 : Int).natAbs ≤ 0) (by decide : (8 : Int).natAbs ≤ 8) (by decide)) (by decide)
  obtain ⟨d6, v6⟩ : ∃ z : UInt64, FP.dsub d5 (0 : UInt64) = z := ⟨_, rfl⟩
  have D6 : own_Dy 3 (((c1 * 8) + ((2 * M) * 0)) - (0 * 8)) d6 := by
    rw [← v6]
    exact own_Dy_sub (by decide) D5 (own_Dy_up (K := 3) (p := 8) 3 rfl (by decide) own_D0) (Nat.le_trans B6 (by decide))
  have nn6 : Jvm.Free.Fl.NoNaN64 (FP.dsub d5 (0 : UInt64)) := by
    rw [v6]
    exact Jvm.Free.Fl.val64_no.mpr (own_Dy_num D6)
  obtain ⟨cl487, Ar487, Sq487⟩ := id V_ra
  have S487 : cl487.slots.size = ((2 : Int32)).toNatClampNeg := own_B.size Sq487 rfl
  have hin487 : ¬ ((0 : Int32) < 0 ∨ cl487.slots.size ≤ ((0 : Int32)).toNatClampNeg) := inb_of S487 ⟨by decide, by decide⟩
  have hat487 : cl487.slots[((0 : Int32)).toNatClampNeg]? = some (.double x0') := own_B.at Sq487 rfl
  have B8 : ((M * (((c1 * 8) + ((2 * M) * 0)) - (0 * 8))) : Int).natAbs ≤ 137438953472 := own_bmul BM B6 (by decide)
  obtain ⟨d8, v8⟩ : ∃ z : UInt64, FP.dmul sd d6 = z := ⟨_, rfl⟩
  have D8 : own_Dy 6 (M * (((c1 * 8) + ((2 * M) * 0)) - (0 * 8))) d8 := by
    rw [← v8]
    exact own_Dy_mul rfl (by decide) DM D6 (Nat.le_trans B8 (by decide))
  have nn8 : Jvm.Free.Fl.NoNaN64 (FP.dmul sd d6) := by
    rw [v8]
    exact Jvm.Free.Fl.val64_no.mpr (own_Dy_num D8)
  have B9 : (((c0 * 64) + (M * (((c1 * 8) + ((2 * M) * 0)) - (0 * 8)))) : Int).natAbs ≤ 274877906944 := own_badd (own_bmul (C := 137438953472) Bc0 (by decide : (64 : Int).natAbs ≤ 64) (by decide)) B8 (by decide)
  obtain ⟨d9, v9⟩ : ∃ z : UInt64, FP.dadd x0' d8 = z := ⟨_, rfl⟩
  have D9 : own_Dy 6 ((c0 * 64) + (M * (((c1 * 8) + ((2 * M) * 0)) - (0 * 8)))) d9 := by
    rw [← v9]
    exact own_Dy_add (by decide) (own_Dy_up (K := 6) (p := 64) 6 rfl (by decide) Dc0) D8 (Nat.le_trans B9 (by decide))
  have nn9 : Jvm.Free.Fl.NoNaN64 (FP.dadd x0' d8) := by
    rw [v9]
    exact Jvm.Free.Fl.val64_no.mpr (own_Dy_num D9)
  have B10 : ((((c0 * 64) + (M * (((c1 * 8) + ((2 * M) * 0)) - (0 * 8)))) - (0 * 64)) : Int).natAbs ≤ 274877906944 := own_bsub B9 (own_bmul (C := 0) (by decide : (0 : Int).natAbs ≤ 0) (by decide : (64 : Int).natAbs ≤ 64) (by decide)) (by decide)
  obtain ⟨d10, v10⟩ : ∃ z : UInt64, FP.dsub d9 (0 : UInt64) = z := ⟨_, rfl⟩
  have D10 : own_Dy 6 (((c0 * 64) + (M * (((c1 * 8) + ((2 * M) * 0)) - (0 * 8)))) - (0 * 64)) d10 := by
    rw [← v10]
    exact own_Dy_sub (by decide) D9 (own_Dy_up (K := 6) (p := 64) 6 rfl (by decide) own_D0) (Nat.le_trans B10 (by decide))
  have nn10 : Jvm.Free.Fl.NoNaN64 (FP.dsub d9 (0 : UInt64)) := by
    rw [v10]
    exact Jvm.Free.Fl.val64_no.mpr (own_Dy_num D10)
  obtain ⟨fs, hr, hrun, hended, hW, hsame⟩ := X0.leave (v := some (.double d10)) (fun h => by rw [Bd.returns] at h; cases h)
  refine ⟨_, _, pre0 _ ?_, hrun, hended, _, _, rfl, ?_, ⟨_, rfl⟩, hW, hsame.mono (by decide) (by decide)⟩
  · show Steps p.tables e below (s₁.setTop (mkF m 0 #[.val (.ref ra), .val (.double sd), .second, .unset, .unset, .unset, .unset, .unset, .unset, .unset] [])) _
    refine XS.dconst0 X0.here hx rfl (hb hby d1s2_0) (v := (0 : UInt64)) rfl ?_
    show Steps p.tables e below (s₁.setTop (mkF m 1 #[.val (.ref ra), .val (.double sd), .second, .unset, .unset, .unset, .unset, .unset, .unset, .unset] [(.double (0 : UInt64))])) _
    refine XS.dstoreN X0.here hx rfl (hb hby d1s2_1) rfl (l' := #[.val (.ref ra), .val (.double sd), .second, .val (.double (0 : UInt64)), .second, .unset, .unset, .unset, .unset, .unset]) rfl ?_
    show Steps p.tables e below (s₁.setTop (mkF m 2 #[.val (.ref ra), .val (.double sd), .second, .val (.double (0 : UInt64)), .second, .unset, .unset, .unset, .unset, .unset] [])) _
    refine XS.dconst0 X0.here hx rfl (hb hby d1s2_2) (v := (0 : UInt64)) rfl ?_
    show Steps p.tables e below (s₁.setTop (mkF m 3 #[.val (.ref ra), .val (.double sd), .second, .val (.double (0 : UInt64)), .second, .unset, .unset, .unset, .unset, .unset] [(.double (0 : UInt64))])) _
    refine XS.dstore X0.here hx rfl (hb hby d1s2_3) rfl (l' := #[.val (.ref ra), .val (.double sd), .second, .val (.double (0 : UInt64)), .second, .val (.double (0 : UInt64)), .second, .unset, .unset, .unset]) rfl ?_
    show Steps p.tables e below (s₁.setTop (mkF m 5 #[.val (.ref ra), .val (.double sd), .second, .val (.double (0 : UInt64)), .second, .val (.double (0 : UInt64)), .second, .unset, .unset, .unset] [])) _
    refine XS.aloadN X0.here hx rfl (hb hby d1s2_5) rfl rfl ?_
    show Steps p.tables e below (s₁.setTop (mkF m 6 #[.val (.ref ra), .val (.double sd), .second, .val (.double (0 : UInt64)), .second, .val (.double (0 : UInt64)), .second, .unset, .unset, .unset] [(.ref ra)])) _
    refine X0.arraylength hx (cell := cl61) (by rw [e0]; exact Ar61.1) (State.isArrayOf_alike hZ.alike Ar61.2.1) (g := (mkF m 6 #[.val (.ref ra), .val (.double sd), .second, .val (.double (0 : UInt64)), .second, .val (.double (0 : UInt64)), .second, .unset, .unset, .unset] [(.ref ra)])) rfl (rest := []) rfl (hb hby d1s2_6) _ ?_
    rw [len_of S61 M61]
    show Steps p.tables e below (s₁.setTop (mkF m 7 #[.val (.ref ra), .val (.double sd), .second, .val (.double (0 : UInt64)), .second, .val (.double (0 : UInt64)), .second, .unset, .unset, .unset] [(.int (2 : Int32))])) _
    refine XS.iconst X0.here hx rfl (hb hby d1s2_7) ?_
    show Steps p.tables e below (s₁.setTop (mkF m 8 #[.val (.ref ra), .val (.double sd), .second, .val (.double (0 : UInt64)), .second, .val (.double (0 : UInt64)), .second, .unset, .unset, .unset] [(.int (1 : Int32)), (.int (2 : Int32))])) _
    refine XS.isub X0.here hx rfl (hb hby d1s2_8) rfl ?_
    show Steps p.tables e below (s₁.setTop (mkF m 9 #[.val (.ref ra), .val (.double sd), .second, .val (.double (0 : UInt64)), .second, .val (.double (0 : UInt64)), .second, .unset, .unset, .unset] [(.int (1 : Int32))])) _
    refine XS.istore X0.here hx rfl (hb hby d1s2_9) rfl (l' := #[.val (.ref ra), .val (.double sd), .second, .val (.double (0 : UInt64)), .second, .val (.double (0 : UInt64)), .second, .val (.int (1 : Int32)), .unset, .unset]) rfl ?_
    show Steps p.tables e below (s₁.setTop (mkF m 11 #[.val (.ref ra), .val (.double sd), .second, .val (.double (0 : UInt64)), .second, .val (.double (0 : UInt64)), .second, .val (.int (1 : Int32)), .unset, .unset] [])) _
    refine XS.iload X0.here hx rfl (hb hby d1s2_11) rfl ?_
    show Steps p.tables e below (s₁.setTop (mkF m 13 #[.val (.ref ra), .val (.double sd), .second, .val (.double (0 : UInt64)), .second, .val (.double (0 : UInt64)), .second, .val (.int (1 : Int32)), .unset, .unset] [(.int (1 : Int32))])) _
    refine XS.iconst X0.here hx rfl (hb hby d1s2_13) ?_
    show Steps p.tables e below (s₁.setTop (mkF m 14 #[.val (.ref ra), .val (.double sd), .second, .val (.double (0 : UInt64)), .second, .val (.double (0 : UInt64)), .second, .val (.int (1 : Int32)), .unset, .unset] [(.int (1 : Int32)), (.int (1 : Int32))])) _
    refine XS.icmpNo X0.here hx rfl (hb hby d1s2_14) rfl (flt (by decide : ¬ ((1 : Int32) < (1 : Int32)))).1 ?_
    show Steps p.tables e below (s₁.setTop (mkF m 17 #[.val (.ref ra), .val (.double sd), .second, .val (.double (0 : UInt64)), .second, .val (.double (0 : UInt64)), .second, .val (.int (1 : Int32)), .unset, .unset] [])) _
    refine XS.aloadN X0.here hx rfl (hb hby d1s2_17) rfl rfl ?_
    show Steps p.tables e below (s₁.setTop (mkF m 18 #[.val (.ref ra), .val (.double sd), .second, .val (.double (0 : UInt64)), .second, .val (.double (0 : UInt64)), .second, .val (.int (1 : Int32)), .unset, .unset] [(.ref ra)])) _
    refine XS.iload X0.here hx rfl (hb hby d1s2_18) rfl ?_
    show Steps p.tables e below (s₁.setTop (mkF m 20 #[.val (.ref ra), .val (.double sd), .second, .val (.double (0 : UInt64)), .second, .val (.double (0 : UInt64)), .second, .val (.int (1 : Int32)), .unset, .unset] [(.int (1 : Int32)), (.ref ra)])) _
    refine X0.daload hx (j := (1 : Int32)) (v := (.double x1')) (by rw [e0]; exact Ar202.1) (State.isArrayOf_alike hZ.alike Ar202.2.1) Ar202.2.2 hin202 hat202 (g := (mkF m 20 #[.val (.ref ra), .val (.double sd), .second, .val (.double (0 : UInt64)), .second, .val (.double (0 : UInt64)), .second, .val (.int (1 : Int32)), .unset, .unset] [(.int (1 : Int32)), (.ref ra)])) rfl rfl (hb hby d1s2_20) _ ?_
    show Steps p.tables e below (s₁.setTop (mkF m 21 #[.val (.ref ra), .val (.double sd), .second, .val (.double (0 : UInt64)), .second, .val (.double (0 : UInt64)), .second, .val (.int (1 : Int32)), .unset, .unset] [(.double x1')])) _
    refine X0.ldc2DoubleC hx hown (mvT hZ (hw _ (List.mem_of_getElem? (i := 13) rfl))) (g := (mkF m 21 #[.val (.ref ra), .val (.double sd), .second, .val (.double (0 : UInt64)), .second, .val (.double (0 : UInt64)), .second, .val (.int (1 : Int32)), .unset, .unset] [(.double x1')])) rfl (hb hby d1s2_21) _ ?_
    show Steps p.tables e below (s₁.setTop (mkF m 24 #[.val (.ref ra), .val (.double sd), .second, .val (.double (0 : UInt64)), .second, .val (.double (0 : UInt64)), .second, .val (.int (1 : Int32)), .unset, .unset] [(.double (4611686018427387904 : UInt64)), (.double x1')])) _
    refine XS.dloadN X0.here hx rfl (hb hby d1s2_24) rfl ?_
    show Steps p.tables e below (s₁.setTop (mkF m 25 #[.val (.ref ra), .val (.double sd), .second, .val (.double (0 : UInt64)), .second, .val (.double (0 : UInt64)), .second, .val (.int (1 : Int32)), .unset, .unset] [(.double sd), (.double (4611686018427387904 : UInt64)), (.double x1')])) _
    refine XS.dmulS X0.here hx rfl (hb hby d1s2_25) rfl nn3 v3 ?_
    show Steps p.tables e below (s₁.setTop (mkF m 26 #[.val (.ref ra), .val (.double sd), .second, .val (.double (0 : UInt64)), .second, .val (.double (0 : UInt64)), .second, .val (.int (1 : Int32)), .unset, .unset] [(.double d3), (.double x1')])) _
    refine XS.dloadN X0.here hx rfl (hb hby d1s2_26) rfl ?_
    show Steps p.tables e below (s₁.setTop (mkF m 27 #[.val (.ref ra), .val (.double sd), .second, .val (.double (0 : UInt64)), .second, .val (.double (0 : UInt64)), .second, .val (.int (1 : Int32)), .unset, .unset] [(.double (0 : UInt64)), (.double d3), (.double x1')])) _
    refine XS.dmulS X0.here hx rfl (hb hby d1s2_27) rfl nn4 v4 ?_
    show Steps p.tables e below (s₁.setTop (mkF m 28 #[.val (.ref ra), .val (.double sd), .second, .val (.double (0 : UInt64)), .second, .val (.double (0 : UInt64)), .second, .val (.int (1 : Int32)), .unset, .unset] [(.double d4), (.double x1')])) _
    refine XS.daddS X0.here hx rfl (hb hby d1s2_28) rfl nn5 v5 ?_
    show Steps p.tables e below (s₁.setTop (mkF m 29 #[.val (.ref ra), .val (.double sd), .second, .val (.double (0 : UInt64)), .second, .val (.double (0 : UInt64)), .second, .val (.int (1 : Int32)), .unset, .unset] [(.double d5)])) _
    refine XS.dload X0.here hx rfl (hb hby d1s2_29) rfl ?_
    show Steps p.tables e below (s₁.setTop (mkF m 31 #[.val (.ref ra), .val (.double sd), .second, .val (.double (0 : UInt64)), .second, .val (.double (0 : UInt64)), .second, .val (.int (1 : Int32)), .unset, .unset] [(.double (0 : UInt64)), (.double d5)])) _
    refine XS.dsubS X0.here hx rfl (hb hby d1s2_31) rfl nn6 v6 ?_
    show Steps p.tables e below (s₁.setTop (mkF m 32 #[.val (.ref ra), .val (.double sd), .second, .val (.double (0 : UInt64)), .second, .val (.double (0 : UInt64)), .second, .val (.int (1 : Int32)), .unset, .unset] [(.double d6)])) _
    refine XS.dstore X0.here hx rfl (hb hby d1s2_32) rfl (l' := #[.val (.ref ra), .val (.double sd), .second, .val (.double (0 : UInt64)), .second, .val (.double (0 : UInt64)), .second, .val (.int (1 : Int32)), .val (.double d6), .second]) rfl ?_
    show Steps p.tables e below (s₁.setTop (mkF m 34 #[.val (.ref ra), .val (.double sd), .second, .val (.double (0 : UInt64)), .second, .val (.double (0 : UInt64)), .second, .val (.int (1 : Int32)), .val (.double d6), .second] [])) _
    refine XS.dloadN X0.here hx rfl (hb hby d1s2_34) rfl ?_
    show Steps p.tables e below (s₁.setTop (mkF m 35 #[.val (.ref ra), .val (.double sd), .second, .val (.double (0 : UInt64)), .second, .val (.double (0 : UInt64)), .second, .val (.int (1 : Int32)), .val (.double d6), .second] [(.double (0 : UInt64))])) _
    refine XS.dstore X0.here hx rfl (hb hby d1s2_35) rfl (l' := #[.val (.ref ra), .val (.double sd), .second, .val (.double (0 : UInt64)), .second, .val (.double (0 : UInt64)), .second, .val (.int (1 : Int32)), .val (.double d6), .second]) rfl ?_
    show Steps p.tables e below (s₁.setTop (mkF m 37 #[.val (.ref ra), .val (.double sd), .second, .val (.double (0 : UInt64)), .second, .val (.double (0 : UInt64)), .second, .val (.int (1 : Int32)), .val (.double d6), .second] [])) _
    refine XS.dload X0.here hx rfl (hb hby d1s2_37) rfl ?_
    show Steps p.tables e below (s₁.setTop (mkF m 39 #[.val (.ref ra), .val (.double sd), .second, .val (.double (0 : UInt64)), .second, .val (.double (0 : UInt64)), .second, .val (.int (1 : Int32)), .val (.double d6), .second] [(.double d6)])) _
    refine XS.dstoreN X0.here hx rfl (hb hby d1s2_39) rfl (l' := #[.val (.ref ra), .val (.double sd), .second, .val (.double d6), .second, .val (.double (0 : UInt64)), .second, .val (.int (1 : Int32)), .val (.double d6), .second]) rfl ?_
    show Steps p.tables e below (s₁.setTop (mkF m 40 #[.val (.ref ra), .val (.double sd), .second, .val (.double d6), .second, .val (.double (0 : UInt64)), .second, .val (.int (1 : Int32)), .val (.double d6), .second] [])) _
    refine XS.iinc X0.here hx rfl (hb hby d1s2_40) rfl (l' := #[.val (.ref ra), .val (.double sd), .second, .val (.double d6), .second, .val (.double (0 : UInt64)), .second, .val (.int (0 : Int32)), .val (.double d6), .second]) rfl ?_
    show Steps p.tables e below (s₁.setTop (mkF m 43 #[.val (.ref ra), .val (.double sd), .second, .val (.double d6), .second, .val (.double (0 : UInt64)), .second, .val (.int (0 : Int32)), .val (.double d6), .second] [])) _
    refine XS.goto X0.here hx rfl (pc0 := 43) (pc' := 11) rfl (hb hby d1s2_43) (by decide) (by decide) ?_
    show Steps p.tables e below (s₁.setTop (mkF m 11 #[.val (.ref ra), .val (.double sd), .second, .val (.double d6), .second, .val (.double (0 : UInt64)), .second, .val (.int (0 : Int32)), .val (.double d6), .second] [])) _
    refine XS.iload X0.here hx rfl (hb hby d1s2_11) rfl ?_
    show Steps p.tables e below (s₁.setTop (mkF m 13 #[.val (.ref ra), .val (.double sd), .second, .val (.double d6), .second, .val (.double (0 : UInt64)), .second, .val (.int (0 : Int32)), .val (.double d6), .second] [(.int (0 : Int32))])) _
    refine XS.iconst X0.here hx rfl (hb hby d1s2_13) ?_
    show Steps p.tables e below (s₁.setTop (mkF m 14 #[.val (.ref ra), .val (.double sd), .second, .val (.double d6), .second, .val (.double (0 : UInt64)), .second, .val (.int (0 : Int32)), .val (.double d6), .second] [(.int (1 : Int32)), (.int (0 : Int32))])) _
    refine XS.icmpYes X0.here hx rfl (pc0 := 14) (pc' := 46) rfl (hb hby d1s2_14) rfl (tlt (by decide : (0 : Int32) < (1 : Int32))).1 (by decide) (by decide) ?_
    show Steps p.tables e below (s₁.setTop (mkF m 46 #[.val (.ref ra), .val (.double sd), .second, .val (.double d6), .second, .val (.double (0 : UInt64)), .second, .val (.int (0 : Int32)), .val (.double d6), .second] [])) _
    refine XS.aloadN X0.here hx rfl (hb hby d1s2_46) rfl rfl ?_
    show Steps p.tables e below (s₁.setTop (mkF m 47 #[.val (.ref ra), .val (.double sd), .second, .val (.double d6), .second, .val (.double (0 : UInt64)), .second, .val (.int (0 : Int32)), .val (.double d6), .second] [(.ref ra)])) _
    refine XS.iconst X0.here hx rfl (hb hby d1s2_47) ?_
    show Steps p.tables e below (s₁.setTop (mkF m 48 #[.val (.ref ra), .val (.double sd), .second, .val (.double d6), .second, .val (.double (0 : UInt64)), .second, .val (.int (0 : Int32)), .val (.double d6), .second] [(.int (0 : Int32)), (.ref ra)])) _
    refine X0.daload hx (j := (0 : Int32)) (v := (.double x0')) (by rw [e0]; exact Ar487.1) (State.isArrayOf_alike hZ.alike Ar487.2.1) Ar487.2.2 hin487 hat487 (g := (mkF m 48 #[.val (.ref ra), .val (.double sd), .second, .val (.double d6), .second, .val (.double (0 : UInt64)), .second, .val (.int (0 : Int32)), .val (.double d6), .second] [(.int (0 : Int32)), (.ref ra)])) rfl rfl (hb hby d1s2_48) _ ?_
    show Steps p.tables e below (s₁.setTop (mkF m 49 #[.val (.ref ra), .val (.double sd), .second, .val (.double d6), .second, .val (.double (0 : UInt64)), .second, .val (.int (0 : Int32)), .val (.double d6), .second] [(.double x0')])) _
    refine XS.dloadN X0.here hx rfl (hb hby d1s2_49) rfl ?_
    show Steps p.tables e below (s₁.setTop (mkF m 50 #[.val (.ref ra), .val (.double sd), .second, .val (.double d6), .second, .val (.double (0 : UInt64)), .second, .val (.int (0 : Int32)), .val (.double d6), .second] [(.double sd), (.double x0')])) _
    refine XS.dloadN X0.here hx rfl (hb hby d1s2_50) rfl ?_
    show Steps p.tables e below (s₁.setTop (mkF m 51 #[.val (.ref ra), .val (.double sd), .second, .val (.double d6), .second, .val (.double (0 : UInt64)), .second, .val (.int (0 : Int32)), .val (.double d6), .second] [(.double d6), (.double sd), (.double x0')])) _
    refine XS.dmulS X0.here hx rfl (hb hby d1s2_51) rfl nn8 v8 ?_
    show Steps p.tables e below (s₁.setTop (mkF m 52 #[.val (.ref ra), .val (.double sd), .second, .val (.double d6), .second, .val (.double (0 : UInt64)), .second, .val (.int (0 : Int32)), .val (.double d6), .second] [(.double d8), (.double x0')])) _
    refine XS.daddS X0.here hx rfl (hb hby d1s2_52) rfl nn9 v9 ?_
    show Steps p.tables e below (s₁.setTop (mkF m 53 #[.val (.ref ra), .val (.double sd), .second, .val (.double d6), .second, .val (.double (0 : UInt64)), .second, .val (.int (0 : Int32)), .val (.double d6), .second] [(.double d9)])) _
    refine XS.dload X0.here hx rfl (hb hby d1s2_53) rfl ?_
    show Steps p.tables e below (s₁.setTop (mkF m 55 #[.val (.ref ra), .val (.double sd), .second, .val (.double d6), .second, .val (.double (0 : UInt64)), .second, .val (.int (0 : Int32)), .val (.double d6), .second] [(.double (0 : UInt64)), (.double d9)])) _
    refine XS.dsubS X0.here hx rfl (hb hby d1s2_55) rfl nn10 v10 ?_
    show Steps p.tables e below (s₁.setTop (mkF m 56 #[.val (.ref ra), .val (.double sd), .second, .val (.double d6), .second, .val (.double (0 : UInt64)), .second, .val (.int (0 : Int32)), .val (.double d6), .second] [(.double d10)])) _
    exact retOut X0 hx Bd.returns rfl (Or.inr (Or.inr (Or.inl ⟨rfl, rfl, _, rfl⟩))) (hb hby d1s2_56) hr
  · show Q1s2 Z ra sd x0' x1' M c0 c1 h0 n0 _ s₁.heap _
    rw [e0]
    exact ⟨_, rfl, N0, rfl, D10, B10⟩
theorem d1s3_0 : decode prog_28_method_4_code 0 = .ok (.dconst 0, 1) := by decide +kernel
theorem d1s3_1 : decode prog_28_method_4_code 1 = .ok (.dstore_n 3, 1) := by decide +kernel
theorem d1s3_2 : decode prog_28_method_4_code 2 = .ok (.dconst 0, 1) := by decide +kernel
theorem d1s3_3 : decode prog_28_method_4_code 3 = .ok (.dstore 5, 2) := by decide +kernel
theorem d1s3_5 : decode prog_28_method_4_code 5 = .ok (.aload_n 0, 1) := by decide +kernel
theorem d1s3_6 : decode prog_28_method_4_code 6 = .ok (.arraylength, 1) := by decide +kernel
theorem d1s3_7 : decode prog_28_method_4_code 7 = .ok (.iconst 1, 1) := by decide +kernel
theorem d1s3_8 : decode prog_28_method_4_code 8 = .ok (.isub, 1) := by decide +kernel
theorem d1s3_9 : decode prog_28_method_4_code 9 = .ok (.istore 7, 2) := by decide +kernel
theorem d1s3_11 : decode prog_28_method_4_code 11 = .ok (.iload 7, 2) := by decide +kernel
theorem d1s3_13 : decode prog_28_method_4_code 13 = .ok (.iconst 1, 1) := by decide +kernel
theorem d1s3_14 : decode prog_28_method_4_code 14 = .ok (.if_icmp .lt 32, 3) := by decide +kernel
theorem d1s3_17 : decode prog_28_method_4_code 17 = .ok (.aload_n 0, 1) := by decide +kernel
theorem d1s3_18 : decode prog_28_method_4_code 18 = .ok (.iload 7, 2) := by decide +kernel
theorem d1s3_20 : decode prog_28_method_4_code 20 = .ok (.daload, 1) := by decide +kernel
theorem d1s3_21 : decode prog_28_method_4_code 21 = .ok (.ldc2_w 13, 3) := by decide +kernel
theorem d1s3_24 : decode prog_28_method_4_code 24 = .ok (.dload_n 1, 1) := by decide +kernel
theorem d1s3_25 : decode prog_28_method_4_code 25 = .ok (.dmul, 1) := by decide +kernel
theorem d1s3_26 : decode prog_28_method_4_code 26 = .ok (.dload_n 3, 1) := by decide +kernel
theorem d1s3_27 : decode prog_28_method_4_code 27 = .ok (.dmul, 1) := by decide +kernel
theorem d1s3_28 : decode prog_28_method_4_code 28 = .ok (.dadd, 1) := by decide +kernel
theorem d1s3_29 : decode prog_28_method_4_code 29 = .ok (.dload 5, 2) := by decide +kernel
theorem d1s3_31 : decode prog_28_method_4_code 31 = .ok (.dsub, 1) := by decide +kernel
theorem d1s3_32 : decode prog_28_method_4_code 32 = .ok (.dstore 8, 2) := by decide +kernel
theorem d1s3_34 : decode prog_28_method_4_code 34 = .ok (.dload_n 3, 1) := by decide +kernel
theorem d1s3_35 : decode prog_28_method_4_code 35 = .ok (.dstore 5, 2) := by decide +kernel
theorem d1s3_37 : decode prog_28_method_4_code 37 = .ok (.dload 8, 2) := by decide +kernel
theorem d1s3_39 : decode prog_28_method_4_code 39 = .ok (.dstore_n 3, 1) := by decide +kernel
theorem d1s3_40 : decode prog_28_method_4_code 40 = .ok (.iinc 7 (-1), 3) := by decide +kernel
theorem d1s3_43 : decode prog_28_method_4_code 43 = .ok (.goto (-32), 3) := by decide +kernel
theorem d1s3_46 : decode prog_28_method_4_code 46 = .ok (.aload_n 0, 1) := by decide +kernel
theorem d1s3_47 : decode prog_28_method_4_code 47 = .ok (.iconst 0, 1) := by decide +kernel
theorem d1s3_48 : decode prog_28_method_4_code 48 = .ok (.daload, 1) := by decide +kernel
theorem d1s3_49 : decode prog_28_method_4_code 49 = .ok (.dload_n 1, 1) := by decide +kernel
theorem d1s3_50 : decode prog_28_method_4_code 50 = .ok (.dload_n 3, 1) := by decide +kernel
theorem d1s3_51 : decode prog_28_method_4_code 51 = .ok (.dmul, 1) := by decide +kernel
theorem d1s3_52 : decode prog_28_method_4_code 52 = .ok (.dadd, 1) := by decide +kernel
theorem d1s3_53 : decode prog_28_method_4_code 53 = .ok (.dload 5, 2) := by decide +kernel
theorem d1s3_55 : decode prog_28_method_4_code 55 = .ok (.dsub, 1) := by decide +kernel
theorem d1s3_56 : decode prog_28_method_4_code 56 = .ok (.dreturn, 1) := by decide +kernel
theorem pn_1s3 : plainName "com/example/matchstat/matchstat/Chebyshev" = true := by first | (simp [plainName, overriddenIn]; done) | decide +kernel
theorem ef_1s3 (m : MethodId) (x0 : Addr) (x1 : UInt64) : entryFrame m #[(.ref x0), (.double x1)] 10 = mkF m 0 #[.val (.ref x0), .val (.double x1), .second, .unset, .unset, .unset, .unset, .unset, .unset, .unset] [] := by first | (simp [entryFrame, mkF, argsToLocals, Value.category]; done) | rfl
def Q1s3 (Z : State) (ra : Addr) (sd : UInt64) (x0' : UInt64) (x1' : UInt64) (x2' : UInt64) (M : Int) (c0 : Int) (c1 : Int) (c2 : Int) (h0 : Heap) (n0 : Nat) (v : Option Value) (h : Heap) (L : List Loc) : Prop := ∃ r, v = some (.double r) ∧ Fr n0 L ∧ h = h0 ∧ own_Dy 9 (((c0 * 512) + (M * (((c1 * 64) + ((2 * M) * (((c2 * 8) + ((2 * M) * 0)) - (0 * 8)))) - (0 * 64)))) - ((((c2 * 8) + ((2 * M) * 0)) - (0 * 8)) * 64)) r ∧ ((((c0 * 512) + (M * (((c1 * 64) + ((2 * M) * (((c2 * 8) + ((2 * M) * 0)) - (0 * 8)))) - (0 * 64)))) - ((((c2 * 8) + ((2 * M) * 0)) - (0 * 8)) * 64)) : Int).natAbs ≤ 5497558138880
set_option maxRecDepth 65536 in
set_option maxHeartbeats 40000000 in
theorem rm1s3 (l : Launch) (Z : State) (a0 : Array Value) (hw : ∀ d ∈ tables_1, d.before a0 Z = true) (ws : List Jvm.Cond) (ra : Addr) (sd : UInt64) (x0' : UInt64) (x1' : UInt64) (x2' : UInt64) (M : Int) (c0 : Int) (c1 : Int) (c2 : Int) (h0 : Heap) (n0 : Nat) (Z0 : n0 ≤ h0.size) (V_ra : own_B Z h0 ra [x0', x1', x2']) (DM : own_Dy 3 M sd) (BM : M.natAbs ≤ 8) (Dc0 : own_Dy 0 c0 x0') (Bc0 : c0.natAbs ≤ 2147483648) (Dc1 : own_Dy 0 c1 x1') (Bc1 : c1.natAbs ≤ 2147483648) (Dc2 : own_Dy 0 c2 x2') (Bc2 : c2.natAbs ≤ 2147483648) :
    MetFree l (⟨"com/example/matchstat/matchstat/Chebyshev", "sum", "([DD)D"⟩ : MethodName) (head1 (Jvm.Cond.code (⟨"com/example/matchstat/matchstat/Chebyshev", "sum", "([DD)D"⟩ : MethodName) prog_28_method_4_code 10 (some .double) :: ws) ({ frames := 0, cells := 0, slots := 0, locals := 0 } : Room)) (fun ar U => ar = #[(.ref ra), (.double sd)] ∧ Z.Warmed39 U.vm ∧ U.heap = h0) (fun _ _ _ _ _ => True) (fun _ U o U' => ∃ v L, o = .returned v ∧ Q1s3 Z ra sd x0' x1' x2' M c0 c1 c2 h0 n0 v U'.heap L ∧ FrameEnd U o U' L ({ frames := 0, cells := 0, slots := 0, locals := 0 } : Room).cells ({ frames := 0, cells := 0, slots := 0, locals := 0 } : Room).slots) := by
  refine MetFree.of_bodySF (plainFor_of_name pn_1s3) hisR ?_
  intro p e s m args below meth c s₁ Bd hml0 hP hK
  obtain ⟨rfl, hZ, hh⟩ := hP
  have hx := Bd.exec
  have hby := Bd.bytes
  have hml : c.maxLocals = 10 := hml0
  have hown : s.vm.findClass "com/example/matchstat/matchstat/Chebyshev" = some m.cls := findClass_of_methodNamed Bd.named
  have hnm := (name_of_methodNamed Bd.named Bd.method).1
  have X0 : Stand p l e ({ frames := 0, cells := 0, slots := 0, locals := 0 } : Room) s m #[(.ref ra), (.double sd)] below meth c s₁ [] 0 0 := Stand.of_body Bd
  have e0 : s₁.heap = h0 := by rw [← hh, Bd.state]; rfl
  have N0 := Fr.nil n0
  have K0 : Keep h0 h0 [] := Keep.refl h0 _
  have pre0 : ∀ t, Steps p.tables e below (s₁.setTop (mkF m 0 #[.val (.ref ra), .val (.double sd), .second, .unset, .unset, .unset, .unset, .unset, .unset, .unset] [])) t → Steps p.tables e below (s₁.setTop (entryFrame m #[(.ref ra), (.double sd)] 10)) t := fun t k => castTop (ef_1s3 m ra sd) k
  obtain ⟨cl61, Ar61, Sq61⟩ := id V_ra
  have S61 : cl61.slots.size = ((3 : Int32)).toNatClampNeg := own_B.size Sq61 rfl
  have M61 : ¬ (3 : Int32) < 0 := by decide
  obtain ⟨cl202, Ar202, Sq202⟩ := id V_ra
  have S202 : cl202.slots.size = ((3 : Int32)).toNatClampNeg := own_B.size Sq202 rfl
  have hin202 : ¬ ((2 : Int32) < 0 ∨ cl202.slots.size ≤ ((2 : Int32)).toNatClampNeg) := inb_of S202 ⟨by decide, by decide⟩
  have hat202 : cl202.slots[((2 : Int32)).toNatClampNeg]? = some (.double x2') := own_B.at Sq202 rfl
  have B3 : ((2 * M) : Int).natAbs ≤ 16 := own_bmul (by decide : (2 : Int).natAbs ≤ 2) BM (by decide)
  obtain ⟨d3, v3⟩ : ∃ z : UInt64, FP.dmul (4611686018427387904 : UInt64) sd = z := ⟨_, rfl⟩
  have D3 : own_Dy 3 (2 * M) d3 := by
    rw [← v3]
    exact own_Dy_mul rfl (by decide) own_D2 DM (Nat.le_trans B3 (by decide))
  have nn3 : Jvm.Free.Fl.NoNaN64 (FP.dmul (4611686018427387904 : UInt64) sd) := by
    rw [v3]
    exact Jvm.Free.Fl.val64_no.mpr (own_Dy_num D3)
  have B4 : (((2 * M) * 0) : Int).natAbs ≤ 0 := own_bmul B3 (by decide : (0 : Int).natAbs ≤ 0) (by decide)
  obtain ⟨d4, v4⟩ : ∃ z : UInt64, FP.dmul d3 (0 : UInt64) = z := ⟨_, rfl⟩
  have D4 : own_Dy 3 ((2 * M) * 0) d4 := by
    rw [← v4]
    exact own_Dy_mul rfl (by decide) D3 own_D0 (Nat.le_trans B4 (by decide))
  have nn4 : Jvm.Free.Fl.NoNaN64 (FP.dmul d3 (0 : UInt64)) := by
    rw [v4]
    exact Jvm.Free.Fl.val64_no.mpr (own_Dy_num D4)
  have B5 : (((c2 * 8) + ((2 * M) * 0)) : Int).natAbs ≤ 17179869184 := own_badd (own_bmul (C := 17179869184) Bc2 (by decide : (8 : Int).natAbs ≤ 8) (by decide)) B4 (by decide)
  obtain ⟨d5, v5⟩ : ∃ z : UInt64, FP.dadd x2' d4 = z := ⟨_, rfl⟩
  have D5 : own_Dy 3 ((c2 * 8) + ((2 * M) * 0)) d5 := by
    rw [← v5]
    exact own_Dy_add (by decide) (own_Dy_up (K := 3) (p := 8) 3 rfl (by decide) Dc2) D4 (Nat.le_trans B5 (by decide))
  have nn5 : Jvm.Free.Fl.NoNaN64 (FP.dadd x2' d4) := by
    rw [v5]
    exact Jvm.Free.Fl.val64_no.mpr (own_Dy_num D5)
  have B6 : ((((c2 * 8) + ((2 * M) * 0)) - (0 * 8)) : Int).natAbs ≤ 17179869184 := own_bsub B5 (own_bmul (C := 0) (by decide : (0 : Int).natAbs ≤ 0) (by decide : (8 : Int).natAbs ≤ 8) (by decide)) (by decide)
  obtain ⟨d6, v6⟩ : ∃ z : UInt64, FP.dsub d5 (0 : UInt64) = z := ⟨_, rfl⟩
  have D6 : own_Dy 3 (((c2 * 8) + ((2 * M) * 0)) - (0 * 8)) d6 := by
    rw [← v6]
    exact own_Dy_sub (by decide) D5 (own_Dy_up (K := 3) (p := 8) 3 rfl (by decide) own_D0) (Nat.le_trans B6 (by decide))
  have nn6 : Jvm.Free.Fl.NoNaN64 (FP.dsub d5 (0 : UInt64)) := by
    rw [v6]
    exact Jvm.Free.Fl.val64_no.mpr (own_Dy_num D6)
  obtain ⟨cl207, Ar207, Sq207⟩ := id V_ra
  have S207 : cl207.slots.size = ((3 : Int32)).toNatClampNeg := own_B.size Sq207 rfl
  have hin207 : ¬ ((1 : Int32) < 0 ∨ cl207.slots.size ≤ ((1 : Int32)).toNatClampNeg) := inb_of S207 ⟨by decide, by decide⟩
  have hat207 : cl207.slots[((1 : Int32)).toNatClampNeg]? = some (.double x1') := own_B.at Sq207 rfl
  have B8 : ((2 * M) : Int).natAbs ≤ 16 := own_bmul (by decide : (2 : Int).natAbs ≤ 2) BM (by decide)
  obtain ⟨d8, v8⟩ : ∃ z : UInt64, FP.dmul (4611686018427387904 : UInt64) sd = z := ⟨_, rfl⟩
  have D8 : own_Dy 3 (2 * M) d8 := by
    rw [← v8]
    exact own_Dy_mul rfl (by decide) own_D2 DM (Nat.le_trans B8 (by decide))
  have nn8 : Jvm.Free.Fl.NoNaN64 (FP.dmul (4611686018427387904 : UInt64) sd) := by
    rw [v8]
    exact Jvm.Free.Fl.val64_no.mpr (own_Dy_num D8)
  have B9 : (((2 * M) * (((c2 * 8) + ((2 * M) * 0)) - (0 * 8))) : Int).natAbs ≤ 274877906944 := own_bmul B8 B6 (by decide)
  obtain ⟨d9, v9⟩ : ∃ z : UInt64, FP.dmul d8 d6 = z := ⟨_, rfl⟩
  have D9 : own_Dy 6 ((2 * M) * (((c2 * 8) + ((2 * M) * 0)) - (0 * 8))) d9 := by
    rw [← v9]
    exact own_Dy_mul rfl (by decide) D8 D6 (Nat.le_trans B9 (by decide))
  have nn9 : Jvm.Free.Fl.NoNaN64 (FP.dmul d8 d6) := by
    rw [v9]
    exact Jvm.Free.Fl.val64_no.mpr (own_Dy_num D9)
  have B10 : (((c1 * 64) + ((2 * M) * (((c2 * 8) + ((2 * M) * 0)) - (0 * 8)))) : Int).natAbs ≤ 412316860416 := own_badd (own_bmul (C := 137438953472) Bc1 (by decide : (64 : Int).natAbs ≤ 64) (by decide)) B9 (by decide)
  obtain ⟨d10, v10⟩ : ∃ z : UInt64, FP.dadd x1' d9 = z := ⟨_, rfl⟩
  have D10 : own_Dy 6 ((c1 * 64) + ((2 * M) * (((c2 * 8) + ((2 * M) * 0)) - (0 * 8)))) d10 := by
    rw [← v10]
    exact own_Dy_add (by decide) (own_Dy_up (K := 6) (p := 64) 6 rfl (by decide) Dc1) D9 (Nat.le_trans B10 (by decide))
  have nn10 : Jvm.Free.Fl.NoNaN64 (FP.dadd x1' d9) := by
    rw [v10]
    exact Jvm.Free.Fl.val64_no.mpr (own_Dy_num D10)
  have B11 : ((((c1 * 64) + ((2 * M) * (((c2 * 8) + ((2 * M) * 0)) - (0 * 8)))) - (0 * 64)) : Int).natAbs ≤ 412316860416 := own_bsub B10 (own_bmul (C := 0) (by decide : (0 : Int).natAbs ≤ 0) (by decide : (64 : Int).natAbs ≤ 64) (by decide)) (by decide)
  obtain ⟨d11, v11⟩ : ∃ z : UInt64, FP.dsub d10 (0 : UInt64) = z := ⟨_, rfl⟩
  have D11 : own_Dy 6 (((c1 * 64) + ((2 * M) * (((c2 * 8) + ((2 * M) * 0)) - (0 * 8)))) - (0 * 64)) d11 := by
    rw [← v11]
    exact own_Dy_sub (by decide) D10 (own_Dy_up (K := 6) (p := 64) 6 rfl (by decide) own_D0) (Nat.le_trans B11 (by decide))
  have nn11 : Jvm.Free.Fl.NoNaN64 (FP.dsub d10 (0 : UInt64)) := by
    rw [v11]
    exact Jvm.Free.Fl.val64_no.mpr (own_Dy_num D11)
  obtain ⟨cl4812, Ar4812, Sq4812⟩ := id V_ra
  have S4812 : cl4812.slots.size = ((3 : Int32)).toNatClampNeg := own_B.size Sq4812 rfl
  have hin4812 : ¬ ((0 : Int32) < 0 ∨ cl4812.slots.size ≤ ((0 : Int32)).toNatClampNeg) := inb_of S4812 ⟨by decide, by decide⟩
  have hat4812 : cl4812.slots[((0 : Int32)).toNatClampNeg]? = some (.double x0') := own_B.at Sq4812 rfl
  have B13 : ((M * (((c1 * 64) + ((2 * M) * (((c2 * 8) + ((2 * M) * 0)) - (0 * 8)))) - (0 * 64))) : Int).natAbs ≤ 3298534883328 := own_bmul BM B11 (by decide)
  obtain ⟨d13, v13⟩ : ∃ z : UInt64, FP.dmul sd d11 = z := ⟨_, rfl⟩
  have D13 : own_Dy 9 (M * (((c1 * 64) + ((2 * M) * (((c2 * 8) + ((2 * M) * 0)) - (0 * 8)))) - (0 * 64))) d13 := by
    rw [← v13]
    exact own_Dy_mul rfl (by decide) DM D11 (Nat.le_trans B13 (by decide))
  have nn13 : Jvm.Free.Fl.NoNaN64 (FP.dmul sd d11) := by
    rw [v13]
    exact Jvm.Free.Fl.val64_no.mpr (own_Dy_num D13)
  have B14 : (((c0 * 512) + (M * (((c1 * 64) + ((2 * M) * (((c2 * 8) + ((2 * M) * 0)) - (0 * 8)))) - (0 * 64)))) : Int).natAbs ≤ 4398046511104 := own_badd (own_bmul (C := 1099511627776) Bc0 (by decide : (512 : Int).natAbs ≤ 512) (by decide)) B13 (by decide)
  obtain ⟨d14, v14⟩ : ∃ z : UInt64, FP.dadd x0' d13 = z := ⟨_, rfl⟩
  have D14 : own_Dy 9 ((c0 * 512) + (M * (((c1 * 64) + ((2 * M) * (((c2 * 8) + ((2 * M) * 0)) - (0 * 8)))) - (0 * 64)))) d14 := by
    rw [← v14]
    exact own_Dy_add (by decide) (own_Dy_up (K := 9) (p := 512) 9 rfl (by decide) Dc0) D13 (Nat.le_trans B14 (by decide))
  have nn14 : Jvm.Free.Fl.NoNaN64 (FP.dadd x0' d13) := by
    rw [v14]
    exact Jvm.Free.Fl.val64_no.mpr (own_Dy_num D14)
  have B15 : ((((c0 * 512) + (M * (((c1 * 64) + ((2 * M) * (((c2 * 8) + ((2 * M) * 0)) - (0 * 8)))) - (0 * 64)))) - ((((c2 * 8) + ((2 * M) * 0)) - (0 * 8)) * 64)) : Int).natAbs ≤ 5497558138880 := own_bsub B14 (own_bmul (C := 1099511627776) B6 (by decide : (64 : Int).natAbs ≤ 64) (by decide)) (by decide)
  obtain ⟨d15, v15⟩ : ∃ z : UInt64, FP.dsub d14 d6 = z := ⟨_, rfl⟩
  have D15 : own_Dy 9 (((c0 * 512) + (M * (((c1 * 64) + ((2 * M) * (((c2 * 8) + ((2 * M) * 0)) - (0 * 8)))) - (0 * 64)))) - ((((c2 * 8) + ((2 * M) * 0)) - (0 * 8)) * 64)) d15 := by
    rw [← v15]
    exact own_Dy_sub (by decide) D14 (own_Dy_up (K := 9) (p := 64) 6 rfl (by decide) D6) (Nat.le_trans B15 (by decide))
  have nn15 : Jvm.Free.Fl.NoNaN64 (FP.dsub d14 d6) := by
    rw [v15]
    exact Jvm.Free.Fl.val64_no.mpr (own_Dy_num D15)
  obtain ⟨fs, hr, hrun, hended, hW, hsame⟩ := X0.leave (v := some (.double d15)) (fun h => by rw [Bd.returns] at h; cases h)
  refine ⟨_, _, pre0 _ ?_, hrun, hended, _, _, rfl, ?_, ⟨_, rfl⟩, hW, hsame.mono (by decide) (by decide)⟩
  · show Steps p.tables e below (s₁.setTop (mkF m 0 #[.val (.ref ra), .val (.double sd), .second, .unset, .unset, .unset, .unset, .unset, .unset, .unset] [])) _
    refine XS.dconst0 X0.here hx rfl (hb hby d1s3_0) (v := (0 : UInt64)) rfl ?_
    show Steps p.tables e below (s₁.setTop (mkF m 1 #[.val (.ref ra), .val (.double sd), .second, .unset, .unset, .unset, .unset, .unset, .unset, .unset] [(.double (0 : UInt64))])) _
    refine XS.dstoreN X0.here hx rfl (hb hby d1s3_1) rfl (l' := #[.val (.ref ra), .val (.double sd), .second, .val (.double (0 : UInt64)), .second, .unset, .unset, .unset, .unset, .unset]) rfl ?_
    show Steps p.tables e below (s₁.setTop (mkF m 2 #[.val (.ref ra), .val (.double sd), .second, .val (.double (0 : UInt64)), .second, .unset, .unset, .unset, .unset, .unset] [])) _
    refine XS.dconst0 X0.here hx rfl (hb hby d1s3_2) (v := (0 : UInt64)) rfl ?_
    show Steps p.tables e below (s₁.setTop (mkF m 3 #[.val (.ref ra), .val (.double sd), .second, .val (.double (0 : UInt64)), .second, .unset, .unset, .unset, .unset, .unset] [(.double (0 : UInt64))])) _
    refine XS.dstore X0.here hx rfl (hb hby d1s3_3) rfl (l' := #[.val (.ref ra), .val (.double sd), .second, .val (.double (0 : UInt64)), .second, .val (.double (0 : UInt64)), .second, .unset, .unset, .unset]) rfl ?_
    show Steps p.tables e below (s₁.setTop (mkF m 5 #[.val (.ref ra), .val (.double sd), .second, .val (.double (0 : UInt64)), .second, .val (.double (0 : UInt64)), .second, .unset, .unset, .unset] [])) _
    refine XS.aloadN X0.here hx rfl (hb hby d1s3_5) rfl rfl ?_
    show Steps p.tables e below (s₁.setTop (mkF m 6 #[.val (.ref ra), .val (.double sd), .second, .val (.double (0 : UInt64)), .second, .val (.double (0 : UInt64)), .second, .unset, .unset, .unset] [(.ref ra)])) _
    refine X0.arraylength hx (cell := cl61) (by rw [e0]; exact Ar61.1) (State.isArrayOf_alike hZ.alike Ar61.2.1) (g := (mkF m 6 #[.val (.ref ra), .val (.double sd), .second, .val (.double (0 : UInt64)), .second, .val (.double (0 : UInt64)), .second, .unset, .unset, .unset] [(.ref ra)])) rfl (rest := []) rfl (hb hby d1s3_6) _ ?_
    rw [len_of S61 M61]
    show Steps p.tables e below (s₁.setTop (mkF m 7 #[.val (.ref ra), .val (.double sd), .second, .val (.double (0 : UInt64)), .second, .val (.double (0 : UInt64)), .second, .unset, .unset, .unset] [(.int (3 : Int32))])) _
    refine XS.iconst X0.here hx rfl (hb hby d1s3_7) ?_
    show Steps p.tables e below (s₁.setTop (mkF m 8 #[.val (.ref ra), .val (.double sd), .second, .val (.double (0 : UInt64)), .second, .val (.double (0 : UInt64)), .second, .unset, .unset, .unset] [(.int (1 : Int32)), (.int (3 : Int32))])) _
    refine XS.isub X0.here hx rfl (hb hby d1s3_8) rfl ?_
    show Steps p.tables e below (s₁.setTop (mkF m 9 #[.val (.ref ra), .val (.double sd), .second, .val (.double (0 : UInt64)), .second, .val (.double (0 : UInt64)), .second, .unset, .unset, .unset] [(.int (2 : Int32))])) _
    refine XS.istore X0.here hx rfl (hb hby d1s3_9) rfl (l' := #[.val (.ref ra), .val (.double sd), .second, .val (.double (0 : UInt64)), .second, .val (.double (0 : UInt64)), .second, .val (.int (2 : Int32)), .unset, .unset]) rfl ?_
    show Steps p.tables e below (s₁.setTop (mkF m 11 #[.val (.ref ra), .val (.double sd), .second, .val (.double (0 : UInt64)), .second, .val (.double (0 : UInt64)), .second, .val (.int (2 : Int32)), .unset, .unset] [])) _
    refine XS.iload X0.here hx rfl (hb hby d1s3_11) rfl ?_
    show Steps p.tables e below (s₁.setTop (mkF m 13 #[.val (.ref ra), .val (.double sd), .second, .val (.double (0 : UInt64)), .second, .val (.double (0 : UInt64)), .second, .val (.int (2 : Int32)), .unset, .unset] [(.int (2 : Int32))])) _
    refine XS.iconst X0.here hx rfl (hb hby d1s3_13) ?_
    show Steps p.tables e below (s₁.setTop (mkF m 14 #[.val (.ref ra), .val (.double sd), .second, .val (.double (0 : UInt64)), .second, .val (.double (0 : UInt64)), .second, .val (.int (2 : Int32)), .unset, .unset] [(.int (1 : Int32)), (.int (2 : Int32))])) _
    refine XS.icmpNo X0.here hx rfl (hb hby d1s3_14) rfl (flt (by decide : ¬ ((2 : Int32) < (1 : Int32)))).1 ?_
    show Steps p.tables e below (s₁.setTop (mkF m 17 #[.val (.ref ra), .val (.double sd), .second, .val (.double (0 : UInt64)), .second, .val (.double (0 : UInt64)), .second, .val (.int (2 : Int32)), .unset, .unset] [])) _
    refine XS.aloadN X0.here hx rfl (hb hby d1s3_17) rfl rfl ?_
    show Steps p.tables e below (s₁.setTop (mkF m 18 #[.val (.ref ra), .val (.double sd), .second, .val (.double (0 : UInt64)), .second, .val (.double (0 : UInt64)), .second, .val (.int (2 : Int32)), .unset, .unset] [(.ref ra)])) _
    refine XS.iload X0.here hx rfl (hb hby d1s3_18) rfl ?_
    show Steps p.tables e below (s₁.setTop (mkF m 20 #[.val (.ref ra), .val (.double sd), .second, .val (.double (0 : UInt64)), .second, .val (.double (0 : UInt64)), .second, .val (.int (2 : Int32)), .unset, .unset] [(.int (2 : Int32)), (.ref ra)])) _
    refine X0.daload hx (j := (2 : Int32)) (v := (.double x2')) (by rw [e0]; exact Ar202.1) (State.isArrayOf_alike hZ.alike Ar202.2.1) Ar202.2.2 hin202 hat202 (g := (mkF m 20 #[.val (.ref ra), .val (.double sd), .second, .val (.double (0 : UInt64)), .second, .val (.double (0 : UInt64)), .second, .val (.int (2 : Int32)), .unset, .unset] [(.int (2 : Int32)), (.ref ra)])) rfl rfl (hb hby d1s3_20) _ ?_
    show Steps p.tables e below (s₁.setTop (mkF m 21 #[.val (.ref ra), .val (.double sd), .second, .val (.double (0 : UInt64)), .second, .val (.double (0 : UInt64)), .second, .val (.int (2 : Int32)), .unset, .unset] [(.double x2')])) _
    refine X0.ldc2DoubleC hx hown (mvT hZ (hw _ (List.mem_of_getElem? (i := 13) rfl))) (g := (mkF m 21 #[.val (.ref ra), .val (.double sd), .second, .val (.double (0 : UInt64)), .second, .val (.double (0 : UInt64)), .second, .val (.int (2 : Int32)), .unset, .unset] [(.double x2')])) rfl (hb hby d1s3_21) _ ?_
    show Steps p.tables e below (s₁.setTop (mkF m 24 #[.val (.ref ra), .val (.double sd), .second, .val (.double (0 : UInt64)), .second, .val (.double (0 : UInt64)), .second, .val (.int (2 : Int32)), .unset, .unset] [(.double (4611686018427387904 : UInt64)), (.double x2')])) _
    refine XS.dloadN X0.here hx rfl (hb hby d1s3_24) rfl ?_
    show Steps p.tables e below (s₁.setTop (mkF m 25 #[.val (.ref ra), .val (.double sd), .second, .val (.double (0 : UInt64)), .second, .val (.double (0 : UInt64)), .second, .val (.int (2 : Int32)), .unset, .unset] [(.double sd), (.double (4611686018427387904 : UInt64)), (.double x2')])) _
    refine XS.dmulS X0.here hx rfl (hb hby d1s3_25) rfl nn3 v3 ?_
    show Steps p.tables e below (s₁.setTop (mkF m 26 #[.val (.ref ra), .val (.double sd), .second, .val (.double (0 : UInt64)), .second, .val (.double (0 : UInt64)), .second, .val (.int (2 : Int32)), .unset, .unset] [(.double d3), (.double x2')])) _
    refine XS.dloadN X0.here hx rfl (hb hby d1s3_26) rfl ?_
    show Steps p.tables e below (s₁.setTop (mkF m 27 #[.val (.ref ra), .val (.double sd), .second, .val (.double (0 : UInt64)), .second, .val (.double (0 : UInt64)), .second, .val (.int (2 : Int32)), .unset, .unset] [(.double (0 : UInt64)), (.double d3), (.double x2')])) _
    refine XS.dmulS X0.here hx rfl (hb hby d1s3_27) rfl nn4 v4 ?_
    show Steps p.tables e below (s₁.setTop (mkF m 28 #[.val (.ref ra), .val (.double sd), .second, .val (.double (0 : UInt64)), .second, .val (.double (0 : UInt64)), .second, .val (.int (2 : Int32)), .unset, .unset] [(.double d4), (.double x2')])) _
    refine XS.daddS X0.here hx rfl (hb hby d1s3_28) rfl nn5 v5 ?_
    show Steps p.tables e below (s₁.setTop (mkF m 29 #[.val (.ref ra), .val (.double sd), .second, .val (.double (0 : UInt64)), .second, .val (.double (0 : UInt64)), .second, .val (.int (2 : Int32)), .unset, .unset] [(.double d5)])) _
    refine XS.dload X0.here hx rfl (hb hby d1s3_29) rfl ?_
    show Steps p.tables e below (s₁.setTop (mkF m 31 #[.val (.ref ra), .val (.double sd), .second, .val (.double (0 : UInt64)), .second, .val (.double (0 : UInt64)), .second, .val (.int (2 : Int32)), .unset, .unset] [(.double (0 : UInt64)), (.double d5)])) _
    refine XS.dsubS X0.here hx rfl (hb hby d1s3_31) rfl nn6 v6 ?_
    show Steps p.tables e below (s₁.setTop (mkF m 32 #[.val (.ref ra), .val (.double sd), .second, .val (.double (0 : UInt64)), .second, .val (.double (0 : UInt64)), .second, .val (.int (2 : Int32)), .unset, .unset] [(.double d6)])) _
    refine XS.dstore X0.here hx rfl (hb hby d1s3_32) rfl (l' := #[.val (.ref ra), .val (.double sd), .second, .val (.double (0 : UInt64)), .second, .val (.double (0 : UInt64)), .second, .val (.int (2 : Int32)), .val (.double d6), .second]) rfl ?_
    show Steps p.tables e below (s₁.setTop (mkF m 34 #[.val (.ref ra), .val (.double sd), .second, .val (.double (0 : UInt64)), .second, .val (.double (0 : UInt64)), .second, .val (.int (2 : Int32)), .val (.double d6), .second] [])) _
    refine XS.dloadN X0.here hx rfl (hb hby d1s3_34) rfl ?_
    show Steps p.tables e below (s₁.setTop (mkF m 35 #[.val (.ref ra), .val (.double sd), .second, .val (.double (0 : UInt64)), .second, .val (.double (0 : UInt64)), .second, .val (.int (2 : Int32)), .val (.double d6), .second] [(.double (0 : UInt64))])) _
    refine XS.dstore X0.here hx rfl (hb hby d1s3_35) rfl (l' := #[.val (.ref ra), .val (.double sd), .second, .val (.double (0 : UInt64)), .second, .val (.double (0 : UInt64)), .second, .val (.int (2 : Int32)), .val (.double d6), .second]) rfl ?_
    show Steps p.tables e below (s₁.setTop (mkF m 37 #[.val (.ref ra), .val (.double sd), .second, .val (.double (0 : UInt64)), .second, .val (.double (0 : UInt64)), .second, .val (.int (2 : Int32)), .val (.double d6), .second] [])) _
    refine XS.dload X0.here hx rfl (hb hby d1s3_37) rfl ?_
    show Steps p.tables e below (s₁.setTop (mkF m 39 #[.val (.ref ra), .val (.double sd), .second, .val (.double (0 : UInt64)), .second, .val (.double (0 : UInt64)), .second, .val (.int (2 : Int32)), .val (.double d6), .second] [(.double d6)])) _
    refine XS.dstoreN X0.here hx rfl (hb hby d1s3_39) rfl (l' := #[.val (.ref ra), .val (.double sd), .second, .val (.double d6), .second, .val (.double (0 : UInt64)), .second, .val (.int (2 : Int32)), .val (.double d6), .second]) rfl ?_
    show Steps p.tables e below (s₁.setTop (mkF m 40 #[.val (.ref ra), .val (.double sd), .second, .val (.double d6), .second, .val (.double (0 : UInt64)), .second, .val (.int (2 : Int32)), .val (.double d6), .second] [])) _
    refine XS.iinc X0.here hx rfl (hb hby d1s3_40) rfl (l' := #[.val (.ref ra), .val (.double sd), .second, .val (.double d6), .second, .val (.double (0 : UInt64)), .second, .val (.int (1 : Int32)), .val (.double d6), .second]) rfl ?_
    show Steps p.tables e below (s₁.setTop (mkF m 43 #[.val (.ref ra), .val (.double sd), .second, .val (.double d6), .second, .val (.double (0 : UInt64)), .second, .val (.int (1 : Int32)), .val (.double d6), .second] [])) _
    refine XS.goto X0.here hx rfl (pc0 := 43) (pc' := 11) rfl (hb hby d1s3_43) (by decide) (by decide) ?_
    show Steps p.tables e below (s₁.setTop (mkF m 11 #[.val (.ref ra), .val (.double sd), .second, .val (.double d6), .second, .val (.double (0 : UInt64)), .second, .val (.int (1 : Int32)), .val (.double d6), .second] [])) _
    refine XS.iload X0.here hx rfl (hb hby d1s3_11) rfl ?_
    show Steps p.tables e below (s₁.setTop (mkF m 13 #[.val (.ref ra), .val (.double sd), .second, .val (.double d6), .second, .val (.double (0 : UInt64)), .second, .val (.int (1 : Int32)), .val (.double d6), .second] [(.int (1 : Int32))])) _
    refine XS.iconst X0.here hx rfl (hb hby d1s3_13) ?_
    show Steps p.tables e below (s₁.setTop (mkF m 14 #[.val (.ref ra), .val (.double sd), .second, .val (.double d6), .second, .val (.double (0 : UInt64)), .second, .val (.int (1 : Int32)), .val (.double d6), .second] [(.int (1 : Int32)), (.int (1 : Int32))])) _
    refine XS.icmpNo X0.here hx rfl (hb hby d1s3_14) rfl (flt (by decide : ¬ ((1 : Int32) < (1 : Int32)))).1 ?_
    show Steps p.tables e below (s₁.setTop (mkF m 17 #[.val (.ref ra), .val (.double sd), .second, .val (.double d6), .second, .val (.double (0 : UInt64)), .second, .val (.int (1 : Int32)), .val (.double d6), .second] [])) _
    refine XS.aloadN X0.here hx rfl (hb hby d1s3_17) rfl rfl ?_
    show Steps p.tables e below (s₁.setTop (mkF m 18 #[.val (.ref ra), .val (.double sd), .second, .val (.double d6), .second, .val (.double (0 : UInt64)), .second, .val (.int (1 : Int32)), .val (.double d6), .second] [(.ref ra)])) _
    refine XS.iload X0.here hx rfl (hb hby d1s3_18) rfl ?_
    show Steps p.tables e below (s₁.setTop (mkF m 20 #[.val (.ref ra), .val (.double sd), .second, .val (.double d6), .second, .val (.double (0 : UInt64)), .second, .val (.int (1 : Int32)), .val (.double d6), .second] [(.int (1 : Int32)), (.ref ra)])) _
    refine X0.daload hx (j := (1 : Int32)) (v := (.double x1')) (by rw [e0]; exact Ar207.1) (State.isArrayOf_alike hZ.alike Ar207.2.1) Ar207.2.2 hin207 hat207 (g := (mkF m 20 #[.val (.ref ra), .val (.double sd), .second, .val (.double d6), .second, .val (.double (0 : UInt64)), .second, .val (.int (1 : Int32)), .val (.double d6), .second] [(.int (1 : Int32)), (.ref ra)])) rfl rfl (hb hby d1s3_20) _ ?_
    show Steps p.tables e below (s₁.setTop (mkF m 21 #[.val (.ref ra), .val (.double sd), .second, .val (.double d6), .second, .val (.double (0 : UInt64)), .second, .val (.int (1 : Int32)), .val (.double d6), .second] [(.double x1')])) _
    refine X0.ldc2DoubleC hx hown (mvT hZ (hw _ (List.mem_of_getElem? (i := 13) rfl))) (g := (mkF m 21 #[.val (.ref ra), .val (.double sd), .second, .val (.double d6), .second, .val (.double (0 : UInt64)), .second, .val (.int (1 : Int32)), .val (.double d6), .second] [(.double x1')])) rfl (hb hby d1s3_21) _ ?_
    show Steps p.tables e below (s₁.setTop (mkF m 24 #[.val (.ref ra), .val (.double sd), .second, .val (.double d6), .second, .val (.double (0 : UInt64)), .second, .val (.int (1 : Int32)), .val (.double d6), .second] [(.double (4611686018427387904 : UInt64)), (.double x1')])) _
    refine XS.dloadN X0.here hx rfl (hb hby d1s3_24) rfl ?_
    show Steps p.tables e below (s₁.setTop (mkF m 25 #[.val (.ref ra), .val (.double sd), .second, .val (.double d6), .second, .val (.double (0 : UInt64)), .second, .val (.int (1 : Int32)), .val (.double d6), .second] [(.double sd), (.double (4611686018427387904 : UInt64)), (.double x1')])) _
    refine XS.dmulS X0.here hx rfl (hb hby d1s3_25) rfl nn8 v8 ?_
    show Steps p.tables e below (s₁.setTop (mkF m 26 #[.val (.ref ra), .val (.double sd), .second, .val (.double d6), .second, .val (.double (0 : UInt64)), .second, .val (.int (1 : Int32)), .val (.double d6), .second] [(.double d8), (.double x1')])) _
    refine XS.dloadN X0.here hx rfl (hb hby d1s3_26) rfl ?_
    show Steps p.tables e below (s₁.setTop (mkF m 27 #[.val (.ref ra), .val (.double sd), .second, .val (.double d6), .second, .val (.double (0 : UInt64)), .second, .val (.int (1 : Int32)), .val (.double d6), .second] [(.double d6), (.double d8), (.double x1')])) _
    refine XS.dmulS X0.here hx rfl (hb hby d1s3_27) rfl nn9 v9 ?_
    show Steps p.tables e below (s₁.setTop (mkF m 28 #[.val (.ref ra), .val (.double sd), .second, .val (.double d6), .second, .val (.double (0 : UInt64)), .second, .val (.int (1 : Int32)), .val (.double d6), .second] [(.double d9), (.double x1')])) _
    refine XS.daddS X0.here hx rfl (hb hby d1s3_28) rfl nn10 v10 ?_
    show Steps p.tables e below (s₁.setTop (mkF m 29 #[.val (.ref ra), .val (.double sd), .second, .val (.double d6), .second, .val (.double (0 : UInt64)), .second, .val (.int (1 : Int32)), .val (.double d6), .second] [(.double d10)])) _
    refine XS.dload X0.here hx rfl (hb hby d1s3_29) rfl ?_
    show Steps p.tables e below (s₁.setTop (mkF m 31 #[.val (.ref ra), .val (.double sd), .second, .val (.double d6), .second, .val (.double (0 : UInt64)), .second, .val (.int (1 : Int32)), .val (.double d6), .second] [(.double (0 : UInt64)), (.double d10)])) _
    refine XS.dsubS X0.here hx rfl (hb hby d1s3_31) rfl nn11 v11 ?_
    show Steps p.tables e below (s₁.setTop (mkF m 32 #[.val (.ref ra), .val (.double sd), .second, .val (.double d6), .second, .val (.double (0 : UInt64)), .second, .val (.int (1 : Int32)), .val (.double d6), .second] [(.double d11)])) _
    refine XS.dstore X0.here hx rfl (hb hby d1s3_32) rfl (l' := #[.val (.ref ra), .val (.double sd), .second, .val (.double d6), .second, .val (.double (0 : UInt64)), .second, .val (.int (1 : Int32)), .val (.double d11), .second]) rfl ?_
    show Steps p.tables e below (s₁.setTop (mkF m 34 #[.val (.ref ra), .val (.double sd), .second, .val (.double d6), .second, .val (.double (0 : UInt64)), .second, .val (.int (1 : Int32)), .val (.double d11), .second] [])) _
    refine XS.dloadN X0.here hx rfl (hb hby d1s3_34) rfl ?_
    show Steps p.tables e below (s₁.setTop (mkF m 35 #[.val (.ref ra), .val (.double sd), .second, .val (.double d6), .second, .val (.double (0 : UInt64)), .second, .val (.int (1 : Int32)), .val (.double d11), .second] [(.double d6)])) _
    refine XS.dstore X0.here hx rfl (hb hby d1s3_35) rfl (l' := #[.val (.ref ra), .val (.double sd), .second, .val (.double d6), .second, .val (.double d6), .second, .val (.int (1 : Int32)), .val (.double d11), .second]) rfl ?_
    show Steps p.tables e below (s₁.setTop (mkF m 37 #[.val (.ref ra), .val (.double sd), .second, .val (.double d6), .second, .val (.double d6), .second, .val (.int (1 : Int32)), .val (.double d11), .second] [])) _
    refine XS.dload X0.here hx rfl (hb hby d1s3_37) rfl ?_
    show Steps p.tables e below (s₁.setTop (mkF m 39 #[.val (.ref ra), .val (.double sd), .second, .val (.double d6), .second, .val (.double d6), .second, .val (.int (1 : Int32)), .val (.double d11), .second] [(.double d11)])) _
    refine XS.dstoreN X0.here hx rfl (hb hby d1s3_39) rfl (l' := #[.val (.ref ra), .val (.double sd), .second, .val (.double d11), .second, .val (.double d6), .second, .val (.int (1 : Int32)), .val (.double d11), .second]) rfl ?_
    show Steps p.tables e below (s₁.setTop (mkF m 40 #[.val (.ref ra), .val (.double sd), .second, .val (.double d11), .second, .val (.double d6), .second, .val (.int (1 : Int32)), .val (.double d11), .second] [])) _
    refine XS.iinc X0.here hx rfl (hb hby d1s3_40) rfl (l' := #[.val (.ref ra), .val (.double sd), .second, .val (.double d11), .second, .val (.double d6), .second, .val (.int (0 : Int32)), .val (.double d11), .second]) rfl ?_
    show Steps p.tables e below (s₁.setTop (mkF m 43 #[.val (.ref ra), .val (.double sd), .second, .val (.double d11), .second, .val (.double d6), .second, .val (.int (0 : Int32)), .val (.double d11), .second] [])) _
    refine XS.goto X0.here hx rfl (pc0 := 43) (pc' := 11) rfl (hb hby d1s3_43) (by decide) (by decide) ?_
    show Steps p.tables e below (s₁.setTop (mkF m 11 #[.val (.ref ra), .val (.double sd), .second, .val (.double d11), .second, .val (.double d6), .second, .val (.int (0 : Int32)), .val (.double d11), .second] [])) _
    refine XS.iload X0.here hx rfl (hb hby d1s3_11) rfl ?_
    show Steps p.tables e below (s₁.setTop (mkF m 13 #[.val (.ref ra), .val (.double sd), .second, .val (.double d11), .second, .val (.double d6), .second, .val (.int (0 : Int32)), .val (.double d11), .second] [(.int (0 : Int32))])) _
    refine XS.iconst X0.here hx rfl (hb hby d1s3_13) ?_
    show Steps p.tables e below (s₁.setTop (mkF m 14 #[.val (.ref ra), .val (.double sd), .second, .val (.double d11), .second, .val (.double d6), .second, .val (.int (0 : Int32)), .val (.double d11), .second] [(.int (1 : Int32)), (.int (0 : Int32))])) _
    refine XS.icmpYes X0.here hx rfl (pc0 := 14) (pc' := 46) rfl (hb hby d1s3_14) rfl (tlt (by decide : (0 : Int32) < (1 : Int32))).1 (by decide) (by decide) ?_
    show Steps p.tables e below (s₁.setTop (mkF m 46 #[.val (.ref ra), .val (.double sd), .second, .val (.double d11), .second, .val (.double d6), .second, .val (.int (0 : Int32)), .val (.double d11), .second] [])) _
    refine XS.aloadN X0.here hx rfl (hb hby d1s3_46) rfl rfl ?_
    show Steps p.tables e below (s₁.setTop (mkF m 47 #[.val (.ref ra), .val (.double sd), .second, .val (.double d11), .second, .val (.double d6), .second, .val (.int (0 : Int32)), .val (.double d11), .second] [(.ref ra)])) _
    refine XS.iconst X0.here hx rfl (hb hby d1s3_47) ?_
    show Steps p.tables e below (s₁.setTop (mkF m 48 #[.val (.ref ra), .val (.double sd), .second, .val (.double d11), .second, .val (.double d6), .second, .val (.int (0 : Int32)), .val (.double d11), .second] [(.int (0 : Int32)), (.ref ra)])) _
    refine X0.daload hx (j := (0 : Int32)) (v := (.double x0')) (by rw [e0]; exact Ar4812.1) (State.isArrayOf_alike hZ.alike Ar4812.2.1) Ar4812.2.2 hin4812 hat4812 (g := (mkF m 48 #[.val (.ref ra), .val (.double sd), .second, .val (.double d11), .second, .val (.double d6), .second, .val (.int (0 : Int32)), .val (.double d11), .second] [(.int (0 : Int32)), (.ref ra)])) rfl rfl (hb hby d1s3_48) _ ?_
    show Steps p.tables e below (s₁.setTop (mkF m 49 #[.val (.ref ra), .val (.double sd), .second, .val (.double d11), .second, .val (.double d6), .second, .val (.int (0 : Int32)), .val (.double d11), .second] [(.double x0')])) _
    refine XS.dloadN X0.here hx rfl (hb hby d1s3_49) rfl ?_
    show Steps p.tables e below (s₁.setTop (mkF m 50 #[.val (.ref ra), .val (.double sd), .second, .val (.double d11), .second, .val (.double d6), .second, .val (.int (0 : Int32)), .val (.double d11), .second] [(.double sd), (.double x0')])) _
    refine XS.dloadN X0.here hx rfl (hb hby d1s3_50) rfl ?_
    show Steps p.tables e below (s₁.setTop (mkF m 51 #[.val (.ref ra), .val (.double sd), .second, .val (.double d11), .second, .val (.double d6), .second, .val (.int (0 : Int32)), .val (.double d11), .second] [(.double d11), (.double sd), (.double x0')])) _
    refine XS.dmulS X0.here hx rfl (hb hby d1s3_51) rfl nn13 v13 ?_
    show Steps p.tables e below (s₁.setTop (mkF m 52 #[.val (.ref ra), .val (.double sd), .second, .val (.double d11), .second, .val (.double d6), .second, .val (.int (0 : Int32)), .val (.double d11), .second] [(.double d13), (.double x0')])) _
    refine XS.daddS X0.here hx rfl (hb hby d1s3_52) rfl nn14 v14 ?_
    show Steps p.tables e below (s₁.setTop (mkF m 53 #[.val (.ref ra), .val (.double sd), .second, .val (.double d11), .second, .val (.double d6), .second, .val (.int (0 : Int32)), .val (.double d11), .second] [(.double d14)])) _
    refine XS.dload X0.here hx rfl (hb hby d1s3_53) rfl ?_
    show Steps p.tables e below (s₁.setTop (mkF m 55 #[.val (.ref ra), .val (.double sd), .second, .val (.double d11), .second, .val (.double d6), .second, .val (.int (0 : Int32)), .val (.double d11), .second] [(.double d6), (.double d14)])) _
    refine XS.dsubS X0.here hx rfl (hb hby d1s3_55) rfl nn15 v15 ?_
    show Steps p.tables e below (s₁.setTop (mkF m 56 #[.val (.ref ra), .val (.double sd), .second, .val (.double d11), .second, .val (.double d6), .second, .val (.int (0 : Int32)), .val (.double d11), .second] [(.double d15)])) _
    exact retOut X0 hx Bd.returns rfl (Or.inr (Or.inr (Or.inl ⟨rfl, rfl, _, rfl⟩))) (hb hby d1s3_56) hr
  · show Q1s3 Z ra sd x0' x1' x2' M c0 c1 c2 h0 n0 _ s₁.heap _
    rw [e0]
    exact ⟨_, rfl, N0, rfl, D15, B15⟩
theorem d1s4_0 : decode prog_28_method_4_code 0 = .ok (.dconst 0, 1) := by decide +kernel
theorem d1s4_1 : decode prog_28_method_4_code 1 = .ok (.dstore_n 3, 1) := by decide +kernel
theorem d1s4_2 : decode prog_28_method_4_code 2 = .ok (.dconst 0, 1) := by decide +kernel
theorem d1s4_3 : decode prog_28_method_4_code 3 = .ok (.dstore 5, 2) := by decide +kernel
theorem d1s4_5 : decode prog_28_method_4_code 5 = .ok (.aload_n 0, 1) := by decide +kernel
theorem d1s4_6 : decode prog_28_method_4_code 6 = .ok (.arraylength, 1) := by decide +kernel
theorem d1s4_7 : decode prog_28_method_4_code 7 = .ok (.iconst 1, 1) := by decide +kernel
theorem d1s4_8 : decode prog_28_method_4_code 8 = .ok (.isub, 1) := by decide +kernel
theorem d1s4_9 : decode prog_28_method_4_code 9 = .ok (.istore 7, 2) := by decide +kernel
theorem d1s4_11 : decode prog_28_method_4_code 11 = .ok (.iload 7, 2) := by decide +kernel
theorem d1s4_13 : decode prog_28_method_4_code 13 = .ok (.iconst 1, 1) := by decide +kernel
theorem d1s4_14 : decode prog_28_method_4_code 14 = .ok (.if_icmp .lt 32, 3) := by decide +kernel
theorem d1s4_17 : decode prog_28_method_4_code 17 = .ok (.aload_n 0, 1) := by decide +kernel
theorem d1s4_18 : decode prog_28_method_4_code 18 = .ok (.iload 7, 2) := by decide +kernel
theorem d1s4_20 : decode prog_28_method_4_code 20 = .ok (.daload, 1) := by decide +kernel
theorem d1s4_21 : decode prog_28_method_4_code 21 = .ok (.ldc2_w 13, 3) := by decide +kernel
theorem d1s4_24 : decode prog_28_method_4_code 24 = .ok (.dload_n 1, 1) := by decide +kernel
theorem d1s4_25 : decode prog_28_method_4_code 25 = .ok (.dmul, 1) := by decide +kernel
theorem d1s4_26 : decode prog_28_method_4_code 26 = .ok (.dload_n 3, 1) := by decide +kernel
theorem d1s4_27 : decode prog_28_method_4_code 27 = .ok (.dmul, 1) := by decide +kernel
theorem d1s4_28 : decode prog_28_method_4_code 28 = .ok (.dadd, 1) := by decide +kernel
theorem d1s4_29 : decode prog_28_method_4_code 29 = .ok (.dload 5, 2) := by decide +kernel
theorem d1s4_31 : decode prog_28_method_4_code 31 = .ok (.dsub, 1) := by decide +kernel
theorem d1s4_32 : decode prog_28_method_4_code 32 = .ok (.dstore 8, 2) := by decide +kernel
theorem d1s4_34 : decode prog_28_method_4_code 34 = .ok (.dload_n 3, 1) := by decide +kernel
theorem d1s4_35 : decode prog_28_method_4_code 35 = .ok (.dstore 5, 2) := by decide +kernel
theorem d1s4_37 : decode prog_28_method_4_code 37 = .ok (.dload 8, 2) := by decide +kernel
theorem d1s4_39 : decode prog_28_method_4_code 39 = .ok (.dstore_n 3, 1) := by decide +kernel
theorem d1s4_40 : decode prog_28_method_4_code 40 = .ok (.iinc 7 (-1), 3) := by decide +kernel
theorem d1s4_43 : decode prog_28_method_4_code 43 = .ok (.goto (-32), 3) := by decide +kernel
theorem d1s4_46 : decode prog_28_method_4_code 46 = .ok (.aload_n 0, 1) := by decide +kernel
theorem d1s4_47 : decode prog_28_method_4_code 47 = .ok (.iconst 0, 1) := by decide +kernel
theorem d1s4_48 : decode prog_28_method_4_code 48 = .ok (.daload, 1) := by decide +kernel
theorem d1s4_49 : decode prog_28_method_4_code 49 = .ok (.dload_n 1, 1) := by decide +kernel
theorem d1s4_50 : decode prog_28_method_4_code 50 = .ok (.dload_n 3, 1) := by decide +kernel
theorem d1s4_51 : decode prog_28_method_4_code 51 = .ok (.dmul, 1) := by decide +kernel
theorem d1s4_52 : decode prog_28_method_4_code 52 = .ok (.dadd, 1) := by decide +kernel
theorem d1s4_53 : decode prog_28_method_4_code 53 = .ok (.dload 5, 2) := by decide +kernel
theorem d1s4_55 : decode prog_28_method_4_code 55 = .ok (.dsub, 1) := by decide +kernel
theorem d1s4_56 : decode prog_28_method_4_code 56 = .ok (.dreturn, 1) := by decide +kernel
theorem pn_1s4 : plainName "com/example/matchstat/matchstat/Chebyshev" = true := by first | (simp [plainName, overriddenIn]; done) | decide +kernel
theorem ef_1s4 (m : MethodId) (x0 : Addr) (x1 : UInt64) : entryFrame m #[(.ref x0), (.double x1)] 10 = mkF m 0 #[.val (.ref x0), .val (.double x1), .second, .unset, .unset, .unset, .unset, .unset, .unset, .unset] [] := by first | (simp [entryFrame, mkF, argsToLocals, Value.category]; done) | rfl
def Q1s4 (Z : State) (ra : Addr) (sd : UInt64) (x0' : UInt64) (x1' : UInt64) (x2' : UInt64) (x3' : UInt64) (M : Int) (c0 : Int) (c1 : Int) (c2 : Int) (c3 : Int) (h0 : Heap) (n0 : Nat) (v : Option Value) (h : Heap) (L : List Loc) : Prop := ∃ r, v = some (.double r) ∧ Fr n0 L ∧ h = h0 ∧ own_Dy 12 (((c0 * 4096) + (M * (((c1 * 512) + ((2 * M) * (((c2 * 64) + ((2 * M) * (((c3 * 8) + ((2 * M) * 0)) - (0 * 8)))) - (0 * 64)))) - ((((c3 * 8) + ((2 * M) * 0)) - (0 * 8)) * 64)))) - ((((c2 * 64) + ((2 * M) * (((c3 * 8) + ((2 * M) * 0)) - (0 * 8)))) - (0 * 64)) * 64)) r ∧ ((((c0 * 4096) + (M * (((c1 * 512) + ((2 * M) * (((c2 * 64) + ((2 * M) * (((c3 * 8) + ((2 * M) * 0)) - (0 * 8)))) - (0 * 64)))) - ((((c3 * 8) + ((2 * M) * 0)) - (0 * 8)) * 64)))) - ((((c2 * 64) + ((2 * M) * (((c3 * 8) + ((2 * M) * 0)) - (0 * 8)))) - (0 * 64)) * 64)) : Int).natAbs ≤ 105553116266496
set_option maxRecDepth 65536 in
set_option maxHeartbeats 40000000 in
theorem rm1s4 (l : Launch) (Z : State) (a0 : Array Value) (hw : ∀ d ∈ tables_1, d.before a0 Z = true) (ws : List Jvm.Cond) (ra : Addr) (sd : UInt64) (x0' : UInt64) (x1' : UInt64) (x2' : UInt64) (x3' : UInt64) (M : Int) (c0 : Int) (c1 : Int) (c2 : Int) (c3 : Int) (h0 : Heap) (n0 : Nat) (Z0 : n0 ≤ h0.size) (V_ra : own_B Z h0 ra [x0', x1', x2', x3']) (DM : own_Dy 3 M sd) (BM : M.natAbs ≤ 8) (Dc0 : own_Dy 0 c0 x0') (Bc0 : c0.natAbs ≤ 2147483648) (Dc1 : own_Dy 0 c1 x1') (Bc1 : c1.natAbs ≤ 2147483648) (Dc2 : own_Dy 0 c2 x2') (Bc2 : c2.natAbs ≤ 2147483648) (Dc3 : own_Dy 0 c3 x3') (Bc3 : c3.natAbs ≤ 2147483648) :
    MetFree l (⟨"com/example/matchstat/matchstat/Chebyshev", "sum", "([DD)D"⟩ : MethodName) (head1 (Jvm.Cond.code (⟨"com/example/matchstat/matchstat/Chebyshev", "sum", "([DD)D"⟩ : MethodName) prog_28_method_4_code 10 (some .double) :: ws) ({ frames := 0, cells := 0, slots := 0, locals := 0 } : Room)) (fun ar U => ar = #[(.ref ra), (.double sd)] ∧ Z.Warmed39 U.vm ∧ U.heap = h0) (fun _ _ _ _ _ => True) (fun _ U o U' => ∃ v L, o = .returned v ∧ Q1s4 Z ra sd x0' x1' x2' x3' M c0 c1 c2 c3 h0 n0 v U'.heap L ∧ FrameEnd U o U' L ({ frames := 0, cells := 0, slots := 0, locals := 0 } : Room).cells ({ frames := 0, cells := 0, slots := 0, locals := 0 } : Room).slots) := by
  refine MetFree.of_bodySF (plainFor_of_name pn_1s4) hisR ?_
  intro p e s m args below meth c s₁ Bd hml0 hP hK
  obtain ⟨rfl, hZ, hh⟩ := hP
  have hx := Bd.exec
  have hby := Bd.bytes
  have hml : c.maxLocals = 10 := hml0
  have hown : s.vm.findClass "com/example/matchstat/matchstat/Chebyshev" = some m.cls := findClass_of_methodNamed Bd.named
  have hnm := (name_of_methodNamed Bd.named Bd.method).1
  have X0 : Stand p l e ({ frames := 0, cells := 0, slots := 0, locals := 0 } : Room) s m #[(.ref ra), (.double sd)] below meth c s₁ [] 0 0 := Stand.of_body Bd
  have e0 : s₁.heap = h0 := by rw [← hh, Bd.state]; rfl
  have N0 := Fr.nil n0
  have K0 : Keep h0 h0 [] := Keep.refl h0 _
  have pre0 : ∀ t, Steps p.tables e below (s₁.setTop (mkF m 0 #[.val (.ref ra), .val (.double sd), .second, .unset, .unset, .unset, .unset, .unset, .unset, .unset] [])) t → Steps p.tables e below (s₁.setTop (entryFrame m #[(.ref ra), (.double sd)] 10)) t := fun t k => castTop (ef_1s4 m ra sd) k
  obtain ⟨cl61, Ar61, Sq61⟩ := id V_ra
  have S61 : cl61.slots.size = ((4 : Int32)).toNatClampNeg := own_B.size Sq61 rfl
  have M61 : ¬ (4 : Int32) < 0 := by decide
  obtain ⟨cl202, Ar202, Sq202⟩ := id V_ra
  have S202 : cl202.slots.size = ((4 : Int32)).toNatClampNeg := own_B.size Sq202 rfl
  have hin202 : ¬ ((3 : Int32) < 0 ∨ cl202.slots.size ≤ ((3 : Int32)).toNatClampNeg) := inb_of S202 ⟨by decide, by decide⟩
  have hat202 : cl202.slots[((3 : Int32)).toNatClampNeg]? = some (.double x3') := own_B.at Sq202 rfl
  have B3 : ((2 * M) : Int).natAbs ≤ 16 := own_bmul (by decide : (2 : Int).natAbs ≤ 2) BM (by decide)
  obtain ⟨d3, v3⟩ : ∃ z : UInt64, FP.dmul (4611686018427387904 : UInt64) sd = z := ⟨_, rfl⟩
  have D3 : own_Dy 3 (2 * M) d3 := by
    rw [← v3]
    exact own_Dy_mul rfl (by decide) own_D2 DM (Nat.le_trans B3 (by decide))
  have nn3 : Jvm.Free.Fl.NoNaN64 (FP.dmul (4611686018427387904 : UInt64) sd) := by
    rw [v3]
    exact Jvm.Free.Fl.val64_no.mpr (own_Dy_num D3)
  have B4 : (((2 * M) * 0) : Int).natAbs ≤ 0 := own_bmul B3 (by decide : (0 : Int).natAbs ≤ 0) (by decide)
  obtain ⟨d4, v4⟩ : ∃ z : UInt64, FP.dmul d3 (0 : UInt64) = z := ⟨_, rfl⟩
  have D4 : own_Dy 3 ((2 * M) * 0) d4 := by
    rw [← v4]
    exact own_Dy_mul rfl (by decide) D3 own_D0 (Nat.le_trans B4 (by decide))
  have nn4 : Jvm.Free.Fl.NoNaN64 (FP.dmul d3 (0 : UInt64)) := by
    rw [v4]
    exact Jvm.Free.Fl.val64_no.mpr (own_Dy_num D4)
  have B5 : (((c3 * 8) + ((2 * M) * 0)) : Int).natAbs ≤ 17179869184 := own_badd (own_bmul (C := 17179869184) Bc3 (by decide : (8 : Int).natAbs ≤ 8) (by decide)) B4 (by decide)
  obtain ⟨d5, v5⟩ : ∃ z : UInt64, FP.dadd x3' d4 = z := ⟨_, rfl⟩
  have D5 : own_Dy 3 ((c3 * 8) + ((2 * M) * 0)) d5 := by
    rw [← v5]
    exact own_Dy_add (by decide) (own_Dy_up (K := 3) (p := 8) 3 rfl (by decide) Dc3) D4 (Nat.le_trans B5 (by decide))
  have nn5 : Jvm.Free.Fl.NoNaN64 (FP.dadd x3' d4) := by
    rw [v5]
    exact Jvm.Free.Fl.val64_no.mpr (own_Dy_num D5)
  have B6 : ((((c3 * 8) + ((2 * M) * 0)) - (0 * 8)) : Int).natAbs ≤ 17179869184 := own_bsub B5 (own_bmul (C := 0) (by decide : (0 : Int).natAbs ≤ 0) (by decide : (8 : Int).natAbs ≤ 8) (by decide)) (by decide)
  obtain ⟨d6, v6⟩ : ∃ z : UInt64, FP.dsub d5 (0 : UInt64) = z := ⟨_, rfl⟩
  have D6 : own_Dy 3 (((c3 * 8) + ((2 * M) * 0)) - (0 * 8)) d6 := by
    rw [← v6]
    exact own_Dy_sub (by decide) D5 (own_Dy_up (K := 3) (p := 8) 3 rfl (by decide) own_D0) (Nat.le_trans B6 (by decide))
  have nn6 : Jvm.Free.Fl.NoNaN64 (FP.dsub d5 (0 : UInt64)) := by
    rw [v6]
    exact Jvm.Free.Fl.val64_no.mpr (own_Dy_num D6)
  obtain ⟨cl207, Ar207, Sq207⟩ := id V_ra
  have S207 : cl207.slots.size = ((4 : Int32)).toNatClampNeg := own_B.size Sq207 rfl
  have hin207 : ¬ ((2 : Int32) < 0 ∨ cl207.slots.size ≤ ((2 : Int32)).toNatClampNeg) := inb_of S207 ⟨by decide, by decide⟩
  have hat207 : cl207.slots[((2 : Int32)).toNatClampNeg]? = some (.double x2') := own_B.at Sq207 rfl
  have B8 : ((2 * M) : Int).natAbs ≤ 16 := own_bmul (by decide : (2 : Int).natAbs ≤ 2) BM (by decide)
  obtain ⟨d8, v8⟩ : ∃ z : UInt64, FP.dmul (4611686018427387904 : UInt64) sd = z := ⟨_, rfl⟩
  have D8 : own_Dy 3 (2 * M) d8 := by
    rw [← v8]
    exact own_Dy_mul rfl (by decide) own_D2 DM (Nat.le_trans B8 (by decide))
  have nn8 : Jvm.Free.Fl.NoNaN64 (FP.dmul (4611686018427387904 : UInt64) sd) := by
    rw [v8]
    exact Jvm.Free.Fl.val64_no.mpr (own_Dy_num D8)
  have B9 : (((2 * M) * (((c3 * 8) + ((2 * M) * 0)) - (0 * 8))) : Int).natAbs ≤ 274877906944 := own_bmul B8 B6 (by decide)
  obtain ⟨d9, v9⟩ : ∃ z : UInt64, FP.dmul d8 d6 = z := ⟨_, rfl⟩
  have D9 : own_Dy 6 ((2 * M) * (((c3 * 8) + ((2 * M) * 0)) - (0 * 8))) d9 := by
    rw [← v9]
    exact own_Dy_mul rfl (by decide) D8 D6 (Nat.le_trans B9 (by decide))
  have nn9 : Jvm.Free.Fl.NoNaN64 (FP.dmul d8 d6) := by
    rw [v9]
    exact Jvm.Free.Fl.val64_no.mpr (own_Dy_num D9)
  have B10 : (((c2 * 64) + ((2 * M) * (((c3 * 8) + ((2 * M) * 0)) - (0 * 8)))) : Int).natAbs ≤ 412316860416 := own_badd (own_bmul (C := 137438953472) Bc2 (by decide : (64 : Int).natAbs ≤ 64) (by decide)) B9 (by decide)
  obtain ⟨d10, v10⟩ : ∃ z : UInt64, FP.dadd x2' d9 = z := ⟨_, rfl⟩
  have D10 : own_Dy 6 ((c2 * 64) + ((2 * M) * (((c3 * 8) + ((2 * M) * 0)) - (0 * 8)))) d10 := by
    rw [← v10]
    exact own_Dy_add (by decide) (own_Dy_up (K := 6) (p := 64) 6 rfl (by decide) Dc2) D9 (Nat.le_trans B10 (by decide))
  have nn10 : Jvm.Free.Fl.NoNaN64 (FP.dadd x2' d9) := by
    rw [v10]
    exact Jvm.Free.Fl.val64_no.mpr (own_Dy_num D10)
  have B11 : ((((c2 * 64) + ((2 * M) * (((c3 * 8) + ((2 * M) * 0)) - (0 * 8)))) - (0 * 64)) : Int).natAbs ≤ 412316860416 := own_bsub B10 (own_bmul (C := 0) (by decide : (0 : Int).natAbs ≤ 0) (by decide : (64 : Int).natAbs ≤ 64) (by decide)) (by decide)
  obtain ⟨d11, v11⟩ : ∃ z : UInt64, FP.dsub d10 (0 : UInt64) = z := ⟨_, rfl⟩
  have D11 : own_Dy 6 (((c2 * 64) + ((2 * M) * (((c3 * 8) + ((2 * M) * 0)) - (0 * 8)))) - (0 * 64)) d11 := by
    rw [← v11]
    exact own_Dy_sub (by decide) D10 (own_Dy_up (K := 6) (p := 64) 6 rfl (by decide) own_D0) (Nat.le_trans B11 (by decide))
  have nn11 : Jvm.Free.Fl.NoNaN64 (FP.dsub d10 (0 : UInt64)) := by
    rw [v11]
    exact Jvm.Free.Fl.val64_no.mpr (own_Dy_num D11)
  obtain ⟨cl2012, Ar2012, Sq2012⟩ := id V_ra
  have S2012 : cl2012.slots.size = ((4 : Int32)).toNatClampNeg := own_B.size Sq2012 rfl
  have hin2012 : ¬ ((1 : Int32) < 0 ∨ cl2012.slots.size ≤ ((1 : Int32)).toNatClampNeg) := inb_of S2012 ⟨by decide, by decide⟩
  have hat2012 : cl2012.slots[((1 : Int32)).toNatClampNeg]? = some (.double x1') := own_B.at Sq2012 rfl
  have B13 : ((2 * M) : Int).natAbs ≤ 16 := own_bmul (by decide : (2 : Int).natAbs ≤ 2) BM (by decide)
  obtain ⟨d13, v13⟩ : ∃ z : UInt64, FP.dmul (4611686018427387904 : UInt64) sd = z := ⟨_, rfl⟩
  have D13 : own_Dy 3 (2 * M) d13 := by
    rw [← v13]
    exact own_Dy_mul rfl (by decide) own_D2 DM (Nat.le_trans B13 (by decide))
  have nn13 : Jvm.Free.Fl.NoNaN64 (FP.dmul (4611686018427387904 : UInt64) sd) := by
    rw [v13]
    exact Jvm.Free.Fl.val64_no.mpr (own_Dy_num D13)
  have B14 : (((2 * M) * (((c2 * 64) + ((2 * M) * (((c3 * 8) + ((2 * M) * 0)) - (0 * 8)))) - (0 * 64))) : Int).natAbs ≤ 6597069766656 := own_bmul B13 B11 (by decide)
  obtain ⟨d14, v14⟩ : ∃ z : UInt64, FP.dmul d13 d11 = z := ⟨_, rfl⟩
  have D14 : own_Dy 9 ((2 * M) * (((c2 * 64) + ((2 * M) * (((c3 * 8) + ((2 * M) * 0)) - (0 * 8)))) - (0 * 64))) d14 := by
    rw [← v14]
    exact own_Dy_mul rfl (by decide) D13 D11 (Nat.le_trans B14 (by decide))
  have nn14 : Jvm.Free.Fl.NoNaN64 (FP.dmul d13 d11) := by
    rw [v14]
    exact Jvm.Free.Fl.val64_no.mpr (own_Dy_num D14)
  have B15 : (((c1 * 512) + ((2 * M) * (((c2 * 64) + ((2 * M) * (((c3 * 8) + ((2 * M) * 0)) - (0 * 8)))) - (0 * 64)))) : Int).natAbs ≤ 7696581394432 := own_badd (own_bmul (C := 1099511627776) Bc1 (by decide : (512 : Int).natAbs ≤ 512) (by decide)) B14 (by decide)
  obtain ⟨d15, v15⟩ : ∃ z : UInt64, FP.dadd x1' d14 = z := ⟨_, rfl⟩
  have D15 : own_Dy 9 ((c1 * 512) + ((2 * M) * (((c2 * 64) + ((2 * M) * (((c3 * 8) + ((2 * M) * 0)) - (0 * 8)))) - (0 * 64)))) d15 := by
    rw [← v15]
    exact own_Dy_add (by decide) (own_Dy_up (K := 9) (p := 512) 9 rfl (by decide) Dc1) D14 (Nat.le_trans B15 (by decide))
  have nn15 : Jvm.Free.Fl.NoNaN64 (FP.dadd x1' d14) := by
    rw [v15]
    exact Jvm.Free.Fl.val64_no.mpr (own_Dy_num D15)
  have B16 : ((((c1 * 512) + ((2 * M) * (((c2 * 64) + ((2 * M) * (((c3 * 8) + ((2 * M) * 0)) - (0 * 8)))) - (0 * 64)))) - ((((c3 * 8) + ((2 * M) * 0)) - (0 * 8)) * 64)) : Int).natAbs ≤ 8796093022208 := own_bsub B15 (own_bmul (C := 1099511627776) B6 (by decide : (64 : Int).natAbs ≤ 64) (by decide)) (by decide)
  obtain ⟨d16, v16⟩ : ∃ z : UInt64, FP.dsub d15 d6 = z := ⟨_, rfl⟩
  have D16 : own_Dy 9 (((c1 * 512) + ((2 * M) * (((c2 * 64) + ((2 * M) * (((c3 * 8) + ((2 * M) * 0)) - (0 * 8)))) - (0 * 64)))) - ((((c3 * 8) + ((2 * M) * 0)) - (0 * 8)) * 64)) d16 := by
    rw [← v16]
    exact own_Dy_sub (by decide) D15 (own_Dy_up (K := 9) (p := 64) 6 rfl (by decide) D6) (Nat.le_trans B16 (by decide))
  have nn16 : Jvm.Free.Fl.NoNaN64 (FP.dsub d15 d6) := by
    rw [v16]
    exact Jvm.Free.Fl.val64_no.mpr (own_Dy_num D16)
  obtain ⟨cl4817, Ar4817, Sq4817⟩ := id V_ra
  have S4817 : cl4817.slots.size = ((4 : Int32)).toNatClampNeg := own_B.size Sq4817 rfl
  have hin4817 : ¬ ((0 : Int32) < 0 ∨ cl4817.slots.size ≤ ((0 : Int32)).toNatClampNeg) := inb_of S4817 ⟨by decide, by decide⟩
  have hat4817 : cl4817.slots[((0 : Int32)).toNatClampNeg]? = some (.double x0') := own_B.at Sq4817 rfl
  have B18 : ((M * (((c1 * 512) + ((2 * M) * (((c2 * 64) + ((2 * M) * (((c3 * 8) + ((2 * M) * 0)) - (0 * 8)))) - (0 * 64)))) - ((((c3 * 8) + ((2 * M) * 0)) - (0 * 8)) * 64))) : Int).natAbs ≤ 70368744177664 := own_bmul BM B16 (by decide)
  obtain ⟨d18, v18⟩ : ∃ z : UInt64, FP.dmul sd d16 = z := ⟨_, rfl⟩
  have D18 : own_Dy 12 (M * (((c1 * 512) + ((2 * M) * (((c2 * 64) + ((2 * M) * (((c3 * 8) + ((2 * M) * 0)) - (0 * 8)))) - (0 * 64)))) - ((((c3 * 8) + ((2 * M) * 0)) - (0 * 8)) * 64))) d18 := by
    rw [← v18]
    exact own_Dy_mul rfl (by decide) DM D16 (Nat.le_trans B18 (by decide))
  have nn18 : Jvm.Free.Fl.NoNaN64 (FP.dmul sd d16) := by
    rw [v18]
    exact Jvm.Free.Fl.val64_no.mpr (own_Dy_num D18)
  have B19 : (((c0 * 4096) + (M * (((c1 * 512) + ((2 * M) * (((c2 * 64) + ((2 * M) * (((c3 * 8) + ((2 * M) * 0)) - (0 * 8)))) - (0 * 64)))) - ((((c3 * 8) + ((2 * M) * 0)) - (0 * 8)) * 64)))) : Int).natAbs ≤ 79164837199872 := own_badd (own_bmul (C := 8796093022208) Bc0 (by decide : (4096 : Int).natAbs ≤ 4096) (by decide)) B18 (by decide)
  obtain ⟨d19, v19⟩ : ∃ z : UInt64, FP.dadd x0' d18 = z := ⟨_, rfl⟩
  have D19 : own_Dy 12 ((c0 * 4096) + (M * (((c1 * 512) + ((2 * M) * (((c2 * 64) + ((2 * M) * (((c3 * 8) + ((2 * M) * 0)) - (0 * 8)))) - (0 * 64)))) - ((((c3 * 8) + ((2 * M) * 0)) - (0 * 8)) * 64)))) d19 := by
    rw [← v19]
    exact own_Dy_add (by decide) (own_Dy_up (K := 12) (p := 4096) 12 rfl (by decide) Dc0) D18 (Nat.le_trans B19 (by decide))
  have nn19 : Jvm.Free.Fl.NoNaN64 (FP.dadd x0' d18) := by
    rw [v19]
    exact Jvm.Free.Fl.val64_no.mpr (own_Dy_num D19)
  have B20 : ((((c0 * 4096) + (M * (((c1 * 512) + ((2 * M) * (((c2 * 64) + ((2 * M) * (((c3 * 8) + ((2 * M) * 0)) - (0 * 8)))) - (0 * 64)))) - ((((c3 * 8) + ((2 * M) * 0)) - (0 * 8)) * 64)))) - ((((c2 * 64) + ((2 * M) * (((c3 * 8) + ((2 * M) * 0)) - (0 * 8)))) - (0 * 64)) * 64)) : Int).natAbs ≤ 105553116266496 := own_bsub B19 (own_bmul (C := 26388279066624) B11 (by decide : (64 : Int).natAbs ≤ 64) (by decide)) (by decide)
  obtain ⟨d20, v20⟩ : ∃ z : UInt64, FP.dsub d19 d11 = z := ⟨_, rfl⟩
  have D20 : own_Dy 12 (((c0 * 4096) + (M * (((c1 * 512) + ((2 * M) * (((c2 * 64) + ((2 * M) * (((c3 * 8) + ((2 * M) * 0)) - (0 * 8)))) - (0 * 64)))) - ((((c3 * 8) + ((2 * M) * 0)) - (0 * 8)) * 64)))) - ((((c2 * 64) + ((2 * M) * (((c3 * 8) + ((2 * M) * 0)) - (0 * 8)))) - (0 * 64)) * 64)) d20 := by
    rw [← v20]
    exact own_Dy_sub (by decide) D19 (own_Dy_up (K := 12) (p := 64) 6 rfl (by decide) D11) (Nat.le_trans B20 (by decide))
  have nn20 : Jvm.Free.Fl.NoNaN64 (FP.dsub d19 d11) := by
    rw [v20]
    exact Jvm.Free.Fl.val64_no.mpr (own_Dy_num D20)
  obtain ⟨fs, hr, hrun, hended, hW, hsame⟩ := X0.leave (v := some (.double d20)) (fun h => by rw [Bd.returns] at h; cases h)
  refine ⟨_, _, pre0 _ ?_, hrun, hended, _, _, rfl, ?_, ⟨_, rfl⟩, hW, hsame.mono (by decide) (by decide)⟩
  · show Steps p.tables e below (s₁.setTop (mkF m 0 #[.val (.ref ra), .val (.double sd), .second, .unset, .unset, .unset, .unset, .unset, .unset, .unset] [])) _
    refine XS.dconst0 X0.here hx rfl (hb hby d1s4_0) (v := (0 : UInt64)) rfl ?_
    show Steps p.tables e below (s₁.setTop (mkF m 1 #[.val (.ref ra), .val (.double sd), .second, .unset, .unset, .unset, .unset, .unset, .unset, .unset] [(.double (0 : UInt64))])) _
    refine XS.dstoreN X0.here hx rfl (hb hby d1s4_1) rfl (l' := #[.val (.ref ra), .val (.double sd), .second, .val (.double (0 : UInt64)), .second, .unset, .unset, .unset, .unset, .unset]) rfl ?_
    show Steps p.tables e below (s₁.setTop (mkF m 2 #[.val (.ref ra), .val (.double sd), .second, .val (.double (0 : UInt64)), .second, .unset, .unset, .unset, .unset, .unset] [])) _
    refine XS.dconst0 X0.here hx rfl (hb hby d1s4_2) (v := (0 : UInt64)) rfl ?_
    show Steps p.tables e below (s₁.setTop (mkF m 3 #[.val (.ref ra), .val (.double sd), .second, .val (.double (0 : UInt64)), .second, .unset, .unset, .unset, .unset, .unset] [(.double (0 : UInt64))])) _
    refine XS.dstore X0.here hx rfl (hb hby d1s4_3) rfl (l' := #[.val (.ref ra), .val (.double sd), .second, .val (.double (0 : UInt64)), .second, .val (.double (0 : UInt64)), .second, .unset, .unset, .unset]) rfl ?_
    show Steps p.tables e below (s₁.setTop (mkF m 5 #[.val (.ref ra), .val (.double sd), .second, .val (.double (0 : UInt64)), .second, .val (.double (0 : UInt64)), .second, .unset, .unset, .unset] [])) _
    refine XS.aloadN X0.here hx rfl (hb hby d1s4_5) rfl rfl ?_
    show Steps p.tables e below (s₁.setTop (mkF m 6 #[.val (.ref ra), .val (.double sd), .second, .val (.double (0 : UInt64)), .second, .val (.double (0 : UInt64)), .second, .unset, .unset, .unset] [(.ref ra)])) _
    refine X0.arraylength hx (cell := cl61) (by rw [e0]; exact Ar61.1) (State.isArrayOf_alike hZ.alike Ar61.2.1) (g := (mkF m 6 #[.val (.ref ra), .val (.double sd), .second, .val (.double (0 : UInt64)), .second, .val (.double (0 : UInt64)), .second, .unset, .unset, .unset] [(.ref ra)])) rfl (rest := []) rfl (hb hby d1s4_6) _ ?_
    rw [len_of S61 M61]
    show Steps p.tables e below (s₁.setTop (mkF m 7 #[.val (.ref ra), .val (.double sd), .second, .val (.double (0 : UInt64)), .second, .val (.double (0 : UInt64)), .second, .unset, .unset, .unset] [(.int (4 : Int32))])) _
    refine XS.iconst X0.here hx rfl (hb hby d1s4_7) ?_
    show Steps p.tables e below (s₁.setTop (mkF m 8 #[.val (.ref ra), .val (.double sd), .second, .val (.double (0 : UInt64)), .second, .val (.double (0 : UInt64)), .second, .unset, .unset, .unset] [(.int (1 : Int32)), (.int (4 : Int32))])) _
    refine XS.isub X0.here hx rfl (hb hby d1s4_8) rfl ?_
    show Steps p.tables e below (s₁.setTop (mkF m 9 #[.val (.ref ra), .val (.double sd), .second, .val (.double (0 : UInt64)), .second, .val (.double (0 : UInt64)), .second, .unset, .unset, .unset] [(.int (3 : Int32))])) _
    refine XS.istore X0.here hx rfl (hb hby d1s4_9) rfl (l' := #[.val (.ref ra), .val (.double sd), .second, .val (.double (0 : UInt64)), .second, .val (.double (0 : UInt64)), .second, .val (.int (3 : Int32)), .unset, .unset]) rfl ?_
    show Steps p.tables e below (s₁.setTop (mkF m 11 #[.val (.ref ra), .val (.double sd), .second, .val (.double (0 : UInt64)), .second, .val (.double (0 : UInt64)), .second, .val (.int (3 : Int32)), .unset, .unset] [])) _
    refine XS.iload X0.here hx rfl (hb hby d1s4_11) rfl ?_
    show Steps p.tables e below (s₁.setTop (mkF m 13 #[.val (.ref ra), .val (.double sd), .second, .val (.double (0 : UInt64)), .second, .val (.double (0 : UInt64)), .second, .val (.int (3 : Int32)), .unset, .unset] [(.int (3 : Int32))])) _
    refine XS.iconst X0.here hx rfl (hb hby d1s4_13) ?_
    show Steps p.tables e below (s₁.setTop (mkF m 14 #[.val (.ref ra), .val (.double sd), .second, .val (.double (0 : UInt64)), .second, .val (.double (0 : UInt64)), .second, .val (.int (3 : Int32)), .unset, .unset] [(.int (1 : Int32)), (.int (3 : Int32))])) _
    refine XS.icmpNo X0.here hx rfl (hb hby d1s4_14) rfl (flt (by decide : ¬ ((3 : Int32) < (1 : Int32)))).1 ?_
    show Steps p.tables e below (s₁.setTop (mkF m 17 #[.val (.ref ra), .val (.double sd), .second, .val (.double (0 : UInt64)), .second, .val (.double (0 : UInt64)), .second, .val (.int (3 : Int32)), .unset, .unset] [])) _
    refine XS.aloadN X0.here hx rfl (hb hby d1s4_17) rfl rfl ?_
    show Steps p.tables e below (s₁.setTop (mkF m 18 #[.val (.ref ra), .val (.double sd), .second, .val (.double (0 : UInt64)), .second, .val (.double (0 : UInt64)), .second, .val (.int (3 : Int32)), .unset, .unset] [(.ref ra)])) _
    refine XS.iload X0.here hx rfl (hb hby d1s4_18) rfl ?_
    show Steps p.tables e below (s₁.setTop (mkF m 20 #[.val (.ref ra), .val (.double sd), .second, .val (.double (0 : UInt64)), .second, .val (.double (0 : UInt64)), .second, .val (.int (3 : Int32)), .unset, .unset] [(.int (3 : Int32)), (.ref ra)])) _
    refine X0.daload hx (j := (3 : Int32)) (v := (.double x3')) (by rw [e0]; exact Ar202.1) (State.isArrayOf_alike hZ.alike Ar202.2.1) Ar202.2.2 hin202 hat202 (g := (mkF m 20 #[.val (.ref ra), .val (.double sd), .second, .val (.double (0 : UInt64)), .second, .val (.double (0 : UInt64)), .second, .val (.int (3 : Int32)), .unset, .unset] [(.int (3 : Int32)), (.ref ra)])) rfl rfl (hb hby d1s4_20) _ ?_
    show Steps p.tables e below (s₁.setTop (mkF m 21 #[.val (.ref ra), .val (.double sd), .second, .val (.double (0 : UInt64)), .second, .val (.double (0 : UInt64)), .second, .val (.int (3 : Int32)), .unset, .unset] [(.double x3')])) _
    refine X0.ldc2DoubleC hx hown (mvT hZ (hw _ (List.mem_of_getElem? (i := 13) rfl))) (g := (mkF m 21 #[.val (.ref ra), .val (.double sd), .second, .val (.double (0 : UInt64)), .second, .val (.double (0 : UInt64)), .second, .val (.int (3 : Int32)), .unset, .unset] [(.double x3')])) rfl (hb hby d1s4_21) _ ?_
    show Steps p.tables e below (s₁.setTop (mkF m 24 #[.val (.ref ra), .val (.double sd), .second, .val (.double (0 : UInt64)), .second, .val (.double (0 : UInt64)), .second, .val (.int (3 : Int32)), .unset, .unset] [(.double (4611686018427387904 : UInt64)), (.double x3')])) _
    refine XS.dloadN X0.here hx rfl (hb hby d1s4_24) rfl ?_
    show Steps p.tables e below (s₁.setTop (mkF m 25 #[.val (.ref ra), .val (.double sd), .second, .val (.double (0 : UInt64)), .second, .val (.double (0 : UInt64)), .second, .val (.int (3 : Int32)), .unset, .unset] [(.double sd), (.double (4611686018427387904 : UInt64)), (.double x3')])) _
    refine XS.dmulS X0.here hx rfl (hb hby d1s4_25) rfl nn3 v3 ?_
    show Steps p.tables e below (s₁.setTop (mkF m 26 #[.val (.ref ra), .val (.double sd), .second, .val (.double (0 : UInt64)), .second, .val (.double (0 : UInt64)), .second, .val (.int (3 : Int32)), .unset, .unset] [(.double d3), (.double x3')])) _
    refine XS.dloadN X0.here hx rfl (hb hby d1s4_26) rfl ?_
    show Steps p.tables e below (s₁.setTop (mkF m 27 #[.val (.ref ra), .val (.double sd), .second, .val (.double (0 : UInt64)), .second, .val (.double (0 : UInt64)), .second, .val (.int (3 : Int32)), .unset, .unset] [(.double (0 : UInt64)), (.double d3), (.double x3')])) _
    refine XS.dmulS X0.here hx rfl (hb hby d1s4_27) rfl nn4 v4 ?_
    show Steps p.tables e below (s₁.setTop (mkF m 28 #[.val (.ref ra), .val (.double sd), .second, .val (.double (0 : UInt64)), .second, .val (.double (0 : UInt64)), .second, .val (.int (3 : Int32)), .unset, .unset] [(.double d4), (.double x3')])) _
    refine XS.daddS X0.here hx rfl (hb hby d1s4_28) rfl nn5 v5 ?_
    show Steps p.tables e below (s₁.setTop (mkF m 29 #[.val (.ref ra), .val (.double sd), .second, .val (.double (0 : UInt64)), .second, .val (.double (0 : UInt64)), .second, .val (.int (3 : Int32)), .unset, .unset] [(.double d5)])) _
    refine XS.dload X0.here hx rfl (hb hby d1s4_29) rfl ?_
    show Steps p.tables e below (s₁.setTop (mkF m 31 #[.val (.ref ra), .val (.double sd), .second, .val (.double (0 : UInt64)), .second, .val (.double (0 : UInt64)), .second, .val (.int (3 : Int32)), .unset, .unset] [(.double (0 : UInt64)), (.double d5)])) _
    refine XS.dsubS X0.here hx rfl (hb hby d1s4_31) rfl nn6 v6 ?_
    show Steps p.tables e below (s₁.setTop (mkF m 32 #[.val (.ref ra), .val (.double sd), .second, .val (.double (0 : UInt64)), .second, .val (.double (0 : UInt64)), .second, .val (.int (3 : Int32)), .unset, .unset] [(.double d6)])) _
    refine XS.dstore X0.here hx rfl (hb hby d1s4_32) rfl (l' := #[.val (.ref ra), .val (.double sd), .second, .val (.double (0 : UInt64)), .second, .val (.double (0 : UInt64)), .second, .val (.int (3 : Int32)), .val (.double d6), .second]) rfl ?_
    show Steps p.tables e below (s₁.setTop (mkF m 34 #[.val (.ref ra), .val (.double sd), .second, .val (.double (0 : UInt64)), .second, .val (.double (0 : UInt64)), .second, .val (.int (3 : Int32)), .val (.double d6), .second] [])) _
    refine XS.dloadN X0.here hx rfl (hb hby d1s4_34) rfl ?_
    show Steps p.tables e below (s₁.setTop (mkF m 35 #[.val (.ref ra), .val (.double sd), .second, .val (.double (0 : UInt64)), .second, .val (.double (0 : UInt64)), .second, .val (.int (3 : Int32)), .val (.double d6), .second] [(.double (0 : UInt64))])) _
    refine XS.dstore X0.here hx rfl (hb hby d1s4_35) rfl (l' := #[.val (.ref ra), .val (.double sd), .second, .val (.double (0 : UInt64)), .second, .val (.double (0 : UInt64)), .second, .val (.int (3 : Int32)), .val (.double d6), .second]) rfl ?_
    show Steps p.tables e below (s₁.setTop (mkF m 37 #[.val (.ref ra), .val (.double sd), .second, .val (.double (0 : UInt64)), .second, .val (.double (0 : UInt64)), .second, .val (.int (3 : Int32)), .val (.double d6), .second] [])) _
    refine XS.dload X0.here hx rfl (hb hby d1s4_37) rfl ?_
    show Steps p.tables e below (s₁.setTop (mkF m 39 #[.val (.ref ra), .val (.double sd), .second, .val (.double (0 : UInt64)), .second, .val (.double (0 : UInt64)), .second, .val (.int (3 : Int32)), .val (.double d6), .second] [(.double d6)])) _
    refine XS.dstoreN X0.here hx rfl (hb hby d1s4_39) rfl (l' := #[.val (.ref ra), .val (.double sd), .second, .val (.double d6), .second, .val (.double (0 : UInt64)), .second, .val (.int (3 : Int32)), .val (.double d6), .second]) rfl ?_
    show Steps p.tables e below (s₁.setTop (mkF m 40 #[.val (.ref ra), .val (.double sd), .second, .val (.double d6), .second, .val (.double (0 : UInt64)), .second, .val (.int (3 : Int32)), .val (.double d6), .second] [])) _
    refine XS.iinc X0.here hx rfl (hb hby d1s4_40) rfl (l' := #[.val (.ref ra), .val (.double sd), .second, .val (.double d6), .second, .val (.double (0 : UInt64)), .second, .val (.int (2 : Int32)), .val (.double d6), .second]) rfl ?_
    show Steps p.tables e below (s₁.setTop (mkF m 43 #[.val (.ref ra), .val (.double sd), .second, .val (.double d6), .second, .val (.double (0 : UInt64)), .second, .val (.int (2 : Int32)), .val (.double d6), .second] [])) _
    refine XS.goto X0.here hx rfl (pc0 := 43) (pc' := 11) rfl (hb hby d1s4_43) (by decide) (by decide) ?_
    show Steps p.tables e below (s₁.setTop (mkF m 11 #[.val (.ref ra), .val (.double sd), .second, .val (.double d6), .second, .val (.double (0 : UInt64)), .second, .val (.int (2 : Int32)), .val (.double d6), .second] [])) _
    refine XS.iload X0.here hx rfl (hb hby d1s4_11) rfl ?_
    show Steps p.tables e below (s₁.setTop (mkF m 13 #[.val (.ref ra), .val (.double sd), .second, .val (.double d6), .second, .val (.double (0 : UInt64)), .second, .val (.int (2 : Int32)), .val (.double d6), .second] [(.int (2 : Int32))])) _
    refine XS.iconst X0.here hx rfl (hb hby d1s4_13) ?_
    show Steps p.tables e below (s₁.setTop (mkF m 14 #[.val (.ref ra), .val (.double sd), .second, .val (.double d6), .second, .val (.double (0 : UInt64)), .second, .val (.int (2 : Int32)), .val (.double d6), .second] [(.int (1 : Int32)), (.int (2 : Int32))])) _
    refine XS.icmpNo X0.here hx rfl (hb hby d1s4_14) rfl (flt (by decide : ¬ ((2 : Int32) < (1 : Int32)))).1 ?_
    show Steps p.tables e below (s₁.setTop (mkF m 17 #[.val (.ref ra), .val (.double sd), .second, .val (.double d6), .second, .val (.double (0 : UInt64)), .second, .val (.int (2 : Int32)), .val (.double d6), .second] [])) _
    refine XS.aloadN X0.here hx rfl (hb hby d1s4_17) rfl rfl ?_
    show Steps p.tables e below (s₁.setTop (mkF m 18 #[.val (.ref ra), .val (.double sd), .second, .val (.double d6), .second, .val (.double (0 : UInt64)), .second, .val (.int (2 : Int32)), .val (.double d6), .second] [(.ref ra)])) _
    refine XS.iload X0.here hx rfl (hb hby d1s4_18) rfl ?_
    show Steps p.tables e below (s₁.setTop (mkF m 20 #[.val (.ref ra), .val (.double sd), .second, .val (.double d6), .second, .val (.double (0 : UInt64)), .second, .val (.int (2 : Int32)), .val (.double d6), .second] [(.int (2 : Int32)), (.ref ra)])) _
    refine X0.daload hx (j := (2 : Int32)) (v := (.double x2')) (by rw [e0]; exact Ar207.1) (State.isArrayOf_alike hZ.alike Ar207.2.1) Ar207.2.2 hin207 hat207 (g := (mkF m 20 #[.val (.ref ra), .val (.double sd), .second, .val (.double d6), .second, .val (.double (0 : UInt64)), .second, .val (.int (2 : Int32)), .val (.double d6), .second] [(.int (2 : Int32)), (.ref ra)])) rfl rfl (hb hby d1s4_20) _ ?_
    show Steps p.tables e below (s₁.setTop (mkF m 21 #[.val (.ref ra), .val (.double sd), .second, .val (.double d6), .second, .val (.double (0 : UInt64)), .second, .val (.int (2 : Int32)), .val (.double d6), .second] [(.double x2')])) _
    refine X0.ldc2DoubleC hx hown (mvT hZ (hw _ (List.mem_of_getElem? (i := 13) rfl))) (g := (mkF m 21 #[.val (.ref ra), .val (.double sd), .second, .val (.double d6), .second, .val (.double (0 : UInt64)), .second, .val (.int (2 : Int32)), .val (.double d6), .second] [(.double x2')])) rfl (hb hby d1s4_21) _ ?_
    show Steps p.tables e below (s₁.setTop (mkF m 24 #[.val (.ref ra), .val (.double sd), .second, .val (.double d6), .second, .val (.double (0 : UInt64)), .second, .val (.int (2 : Int32)), .val (.double d6), .second] [(.double (4611686018427387904 : UInt64)), (.double x2')])) _
    refine XS.dloadN X0.here hx rfl (hb hby d1s4_24) rfl ?_
    show Steps p.tables e below (s₁.setTop (mkF m 25 #[.val (.ref ra), .val (.double sd), .second, .val (.double d6), .second, .val (.double (0 : UInt64)), .second, .val (.int (2 : Int32)), .val (.double d6), .second] [(.double sd), (.double (4611686018427387904 : UInt64)), (.double x2')])) _
    refine XS.dmulS X0.here hx rfl (hb hby d1s4_25) rfl nn8 v8 ?_
    show Steps p.tables e below (s₁.setTop (mkF m 26 #[.val (.ref ra), .val (.double sd), .second, .val (.double d6), .second, .val (.double (0 : UInt64)), .second, .val (.int (2 : Int32)), .val (.double d6), .second] [(.double d8), (.double x2')])) _
    refine XS.dloadN X0.here hx rfl (hb hby d1s4_26) rfl ?_
    show Steps p.tables e below (s₁.setTop (mkF m 27 #[.val (.ref ra), .val (.double sd), .second, .val (.double d6), .second, .val (.double (0 : UInt64)), .second, .val (.int (2 : Int32)), .val (.double d6), .second] [(.double d6), (.double d8), (.double x2')])) _
    refine XS.dmulS X0.here hx rfl (hb hby d1s4_27) rfl nn9 v9 ?_
    show Steps p.tables e below (s₁.setTop (mkF m 28 #[.val (.ref ra), .val (.double sd), .second, .val (.double d6), .second, .val (.double (0 : UInt64)), .second, .val (.int (2 : Int32)), .val (.double d6), .second] [(.double d9), (.double x2')])) _
    refine XS.daddS X0.here hx rfl (hb hby d1s4_28) rfl nn10 v10 ?_
    show Steps p.tables e below (s₁.setTop (mkF m 29 #[.val (.ref ra), .val (.double sd), .second, .val (.double d6), .second, .val (.double (0 : UInt64)), .second, .val (.int (2 : Int32)), .val (.double d6), .second] [(.double d10)])) _
    refine XS.dload X0.here hx rfl (hb hby d1s4_29) rfl ?_
    show Steps p.tables e below (s₁.setTop (mkF m 31 #[.val (.ref ra), .val (.double sd), .second, .val (.double d6), .second, .val (.double (0 : UInt64)), .second, .val (.int (2 : Int32)), .val (.double d6), .second] [(.double (0 : UInt64)), (.double d10)])) _
    refine XS.dsubS X0.here hx rfl (hb hby d1s4_31) rfl nn11 v11 ?_
    show Steps p.tables e below (s₁.setTop (mkF m 32 #[.val (.ref ra), .val (.double sd), .second, .val (.double d6), .second, .val (.double (0 : UInt64)), .second, .val (.int (2 : Int32)), .val (.double d6), .second] [(.double d11)])) _
    refine XS.dstore X0.here hx rfl (hb hby d1s4_32) rfl (l' := #[.val (.ref ra), .val (.double sd), .second, .val (.double d6), .second, .val (.double (0 : UInt64)), .second, .val (.int (2 : Int32)), .val (.double d11), .second]) rfl ?_
    show Steps p.tables e below (s₁.setTop (mkF m 34 #[.val (.ref ra), .val (.double sd), .second, .val (.double d6), .second, .val (.double (0 : UInt64)), .second, .val (.int (2 : Int32)), .val (.double d11), .second] [])) _
    refine XS.dloadN X0.here hx rfl (hb hby d1s4_34) rfl ?_
    show Steps p.tables e below (s₁.setTop (mkF m 35 #[.val (.ref ra), .val (.double sd), .second, .val (.double d6), .second, .val (.double (0 : UInt64)), .second, .val (.int (2 : Int32)), .val (.double d11), .second] [(.double d6)])) _
    refine XS.dstore X0.here hx rfl (hb hby d1s4_35) rfl (l' := #[.val (.ref ra), .val (.double sd), .second, .val (.double d6), .second, .val (.double d6), .second, .val (.int (2 : Int32)), .val (.double d11), .second]) rfl ?_
    show Steps p.tables e below (s₁.setTop (mkF m 37 #[.val (.ref ra), .val (.double sd), .second, .val (.double d6), .second, .val (.double d6), .second, .val (.int (2 : Int32)), .val (.double d11), .second] [])) _
    refine XS.dload X0.here hx rfl (hb hby d1s4_37) rfl ?_
    show Steps p.tables e below (s₁.setTop (mkF m 39 #[.val (.ref ra), .val (.double sd), .second, .val (.double d6), .second, .val (.double d6), .second, .val (.int (2 : Int32)), .val (.double d11), .second] [(.double d11)])) _
    refine XS.dstoreN X0.here hx rfl (hb hby d1s4_39) rfl (l' := #[.val (.ref ra), .val (.double sd), .second, .val (.double d11), .second, .val (.double d6), .second, .val (.int (2 : Int32)), .val (.double d11), .second]) rfl ?_
    show Steps p.tables e below (s₁.setTop (mkF m 40 #[.val (.ref ra), .val (.double sd), .second, .val (.double d11), .second, .val (.double d6), .second, .val (.int (2 : Int32)), .val (.double d11), .second] [])) _
    refine XS.iinc X0.here hx rfl (hb hby d1s4_40) rfl (l' := #[.val (.ref ra), .val (.double sd), .second, .val (.double d11), .second, .val (.double d6), .second, .val (.int (1 : Int32)), .val (.double d11), .second]) rfl ?_
    show Steps p.tables e below (s₁.setTop (mkF m 43 #[.val (.ref ra), .val (.double sd), .second, .val (.double d11), .second, .val (.double d6), .second, .val (.int (1 : Int32)), .val (.double d11), .second] [])) _
    refine XS.goto X0.here hx rfl (pc0 := 43) (pc' := 11) rfl (hb hby d1s4_43) (by decide) (by decide) ?_
    show Steps p.tables e below (s₁.setTop (mkF m 11 #[.val (.ref ra), .val (.double sd), .second, .val (.double d11), .second, .val (.double d6), .second, .val (.int (1 : Int32)), .val (.double d11), .second] [])) _
    refine XS.iload X0.here hx rfl (hb hby d1s4_11) rfl ?_
    show Steps p.tables e below (s₁.setTop (mkF m 13 #[.val (.ref ra), .val (.double sd), .second, .val (.double d11), .second, .val (.double d6), .second, .val (.int (1 : Int32)), .val (.double d11), .second] [(.int (1 : Int32))])) _
    refine XS.iconst X0.here hx rfl (hb hby d1s4_13) ?_
    show Steps p.tables e below (s₁.setTop (mkF m 14 #[.val (.ref ra), .val (.double sd), .second, .val (.double d11), .second, .val (.double d6), .second, .val (.int (1 : Int32)), .val (.double d11), .second] [(.int (1 : Int32)), (.int (1 : Int32))])) _
    refine XS.icmpNo X0.here hx rfl (hb hby d1s4_14) rfl (flt (by decide : ¬ ((1 : Int32) < (1 : Int32)))).1 ?_
    show Steps p.tables e below (s₁.setTop (mkF m 17 #[.val (.ref ra), .val (.double sd), .second, .val (.double d11), .second, .val (.double d6), .second, .val (.int (1 : Int32)), .val (.double d11), .second] [])) _
    refine XS.aloadN X0.here hx rfl (hb hby d1s4_17) rfl rfl ?_
    show Steps p.tables e below (s₁.setTop (mkF m 18 #[.val (.ref ra), .val (.double sd), .second, .val (.double d11), .second, .val (.double d6), .second, .val (.int (1 : Int32)), .val (.double d11), .second] [(.ref ra)])) _
    refine XS.iload X0.here hx rfl (hb hby d1s4_18) rfl ?_
    show Steps p.tables e below (s₁.setTop (mkF m 20 #[.val (.ref ra), .val (.double sd), .second, .val (.double d11), .second, .val (.double d6), .second, .val (.int (1 : Int32)), .val (.double d11), .second] [(.int (1 : Int32)), (.ref ra)])) _
    refine X0.daload hx (j := (1 : Int32)) (v := (.double x1')) (by rw [e0]; exact Ar2012.1) (State.isArrayOf_alike hZ.alike Ar2012.2.1) Ar2012.2.2 hin2012 hat2012 (g := (mkF m 20 #[.val (.ref ra), .val (.double sd), .second, .val (.double d11), .second, .val (.double d6), .second, .val (.int (1 : Int32)), .val (.double d11), .second] [(.int (1 : Int32)), (.ref ra)])) rfl rfl (hb hby d1s4_20) _ ?_
    show Steps p.tables e below (s₁.setTop (mkF m 21 #[.val (.ref ra), .val (.double sd), .second, .val (.double d11), .second, .val (.double d6), .second, .val (.int (1 : Int32)), .val (.double d11), .second] [(.double x1')])) _
    refine X0.ldc2DoubleC hx hown (mvT hZ (hw _ (List.mem_of_getElem? (i := 13) rfl))) (g := (mkF m 21 #[.val (.ref ra), .val (.double sd), .second, .val (.double d11), .second, .val (.double d6), .second, .val (.int (1 : Int32)), .val (.double d11), .second] [(.double x1')])) rfl (hb hby d1s4_21) _ ?_
    show Steps p.tables e below (s₁.setTop (mkF m 24 #[.val (.ref ra), .val (.double sd), .second, .val (.double d11), .second, .val (.double d6), .second, .val (.int (1 : Int32)), .val (.double d11), .second] [(.double (4611686018427387904 : UInt64)), (.double x1')])) _
    refine XS.dloadN X0.here hx rfl (hb hby d1s4_24) rfl ?_
    show Steps p.tables e below (s₁.setTop (mkF m 25 #[.val (.ref ra), .val (.double sd), .second, .val (.double d11), .second, .val (.double d6), .second, .val (.int (1 : Int32)), .val (.double d11), .second] [(.double sd), (.double (4611686018427387904 : UInt64)), (.double x1')])) _
    refine XS.dmulS X0.here hx rfl (hb hby d1s4_25) rfl nn13 v13 ?_
    show Steps p.tables e below (s₁.setTop (mkF m 26 #[.val (.ref ra), .val (.double sd), .second, .val (.double d11), .second, .val (.double d6), .second, .val (.int (1 : Int32)), .val (.double d11), .second] [(.double d13), (.double x1')])) _
    refine XS.dloadN X0.here hx rfl (hb hby d1s4_26) rfl ?_
    show Steps p.tables e below (s₁.setTop (mkF m 27 #[.val (.ref ra), .val (.double sd), .second, .val (.double d11), .second, .val (.double d6), .second, .val (.int (1 : Int32)), .val (.double d11), .second] [(.double d11), (.double d13), (.double x1')])) _
    refine XS.dmulS X0.here hx rfl (hb hby d1s4_27) rfl nn14 v14 ?_
    show Steps p.tables e below (s₁.setTop (mkF m 28 #[.val (.ref ra), .val (.double sd), .second, .val (.double d11), .second, .val (.double d6), .second, .val (.int (1 : Int32)), .val (.double d11), .second] [(.double d14), (.double x1')])) _
    refine XS.daddS X0.here hx rfl (hb hby d1s4_28) rfl nn15 v15 ?_
    show Steps p.tables e below (s₁.setTop (mkF m 29 #[.val (.ref ra), .val (.double sd), .second, .val (.double d11), .second, .val (.double d6), .second, .val (.int (1 : Int32)), .val (.double d11), .second] [(.double d15)])) _
    refine XS.dload X0.here hx rfl (hb hby d1s4_29) rfl ?_
    show Steps p.tables e below (s₁.setTop (mkF m 31 #[.val (.ref ra), .val (.double sd), .second, .val (.double d11), .second, .val (.double d6), .second, .val (.int (1 : Int32)), .val (.double d11), .second] [(.double d6), (.double d15)])) _
    refine XS.dsubS X0.here hx rfl (hb hby d1s4_31) rfl nn16 v16 ?_
    show Steps p.tables e below (s₁.setTop (mkF m 32 #[.val (.ref ra), .val (.double sd), .second, .val (.double d11), .second, .val (.double d6), .second, .val (.int (1 : Int32)), .val (.double d11), .second] [(.double d16)])) _
    refine XS.dstore X0.here hx rfl (hb hby d1s4_32) rfl (l' := #[.val (.ref ra), .val (.double sd), .second, .val (.double d11), .second, .val (.double d6), .second, .val (.int (1 : Int32)), .val (.double d16), .second]) rfl ?_
    show Steps p.tables e below (s₁.setTop (mkF m 34 #[.val (.ref ra), .val (.double sd), .second, .val (.double d11), .second, .val (.double d6), .second, .val (.int (1 : Int32)), .val (.double d16), .second] [])) _
    refine XS.dloadN X0.here hx rfl (hb hby d1s4_34) rfl ?_
    show Steps p.tables e below (s₁.setTop (mkF m 35 #[.val (.ref ra), .val (.double sd), .second, .val (.double d11), .second, .val (.double d6), .second, .val (.int (1 : Int32)), .val (.double d16), .second] [(.double d11)])) _
    refine XS.dstore X0.here hx rfl (hb hby d1s4_35) rfl (l' := #[.val (.ref ra), .val (.double sd), .second, .val (.double d11), .second, .val (.double d11), .second, .val (.int (1 : Int32)), .val (.double d16), .second]) rfl ?_
    show Steps p.tables e below (s₁.setTop (mkF m 37 #[.val (.ref ra), .val (.double sd), .second, .val (.double d11), .second, .val (.double d11), .second, .val (.int (1 : Int32)), .val (.double d16), .second] [])) _
    refine XS.dload X0.here hx rfl (hb hby d1s4_37) rfl ?_
    show Steps p.tables e below (s₁.setTop (mkF m 39 #[.val (.ref ra), .val (.double sd), .second, .val (.double d11), .second, .val (.double d11), .second, .val (.int (1 : Int32)), .val (.double d16), .second] [(.double d16)])) _
    refine XS.dstoreN X0.here hx rfl (hb hby d1s4_39) rfl (l' := #[.val (.ref ra), .val (.double sd), .second, .val (.double d16), .second, .val (.double d11), .second, .val (.int (1 : Int32)), .val (.double d16), .second]) rfl ?_
    show Steps p.tables e below (s₁.setTop (mkF m 40 #[.val (.ref ra), .val (.double sd), .second, .val (.double d16), .second, .val (.double d11), .second, .val (.int (1 : Int32)), .val (.double d16), .second] [])) _
    refine XS.iinc X0.here hx rfl (hb hby d1s4_40) rfl (l' := #[.val (.ref ra), .val (.double sd), .second, .val (.double d16), .second, .val (.double d11), .second, .val (.int (0 : Int32)), .val (.double d16), .second]) rfl ?_
    show Steps p.tables e below (s₁.setTop (mkF m 43 #[.val (.ref ra), .val (.double sd), .second, .val (.double d16), .second, .val (.double d11), .second, .val (.int (0 : Int32)), .val (.double d16), .second] [])) _
    refine XS.goto X0.here hx rfl (pc0 := 43) (pc' := 11) rfl (hb hby d1s4_43) (by decide) (by decide) ?_
    show Steps p.tables e below (s₁.setTop (mkF m 11 #[.val (.ref ra), .val (.double sd), .second, .val (.double d16), .second, .val (.double d11), .second, .val (.int (0 : Int32)), .val (.double d16), .second] [])) _
    refine XS.iload X0.here hx rfl (hb hby d1s4_11) rfl ?_
    show Steps p.tables e below (s₁.setTop (mkF m 13 #[.val (.ref ra), .val (.double sd), .second, .val (.double d16), .second, .val (.double d11), .second, .val (.int (0 : Int32)), .val (.double d16), .second] [(.int (0 : Int32))])) _
    refine XS.iconst X0.here hx rfl (hb hby d1s4_13) ?_
    show Steps p.tables e below (s₁.setTop (mkF m 14 #[.val (.ref ra), .val (.double sd), .second, .val (.double d16), .second, .val (.double d11), .second, .val (.int (0 : Int32)), .val (.double d16), .second] [(.int (1 : Int32)), (.int (0 : Int32))])) _
    refine XS.icmpYes X0.here hx rfl (pc0 := 14) (pc' := 46) rfl (hb hby d1s4_14) rfl (tlt (by decide : (0 : Int32) < (1 : Int32))).1 (by decide) (by decide) ?_
    show Steps p.tables e below (s₁.setTop (mkF m 46 #[.val (.ref ra), .val (.double sd), .second, .val (.double d16), .second, .val (.double d11), .second, .val (.int (0 : Int32)), .val (.double d16), .second] [])) _
    refine XS.aloadN X0.here hx rfl (hb hby d1s4_46) rfl rfl ?_
    show Steps p.tables e below (s₁.setTop (mkF m 47 #[.val (.ref ra), .val (.double sd), .second, .val (.double d16), .second, .val (.double d11), .second, .val (.int (0 : Int32)), .val (.double d16), .second] [(.ref ra)])) _
    refine XS.iconst X0.here hx rfl (hb hby d1s4_47) ?_
    show Steps p.tables e below (s₁.setTop (mkF m 48 #[.val (.ref ra), .val (.double sd), .second, .val (.double d16), .second, .val (.double d11), .second, .val (.int (0 : Int32)), .val (.double d16), .second] [(.int (0 : Int32)), (.ref ra)])) _
    refine X0.daload hx (j := (0 : Int32)) (v := (.double x0')) (by rw [e0]; exact Ar4817.1) (State.isArrayOf_alike hZ.alike Ar4817.2.1) Ar4817.2.2 hin4817 hat4817 (g := (mkF m 48 #[.val (.ref ra), .val (.double sd), .second, .val (.double d16), .second, .val (.double d11), .second, .val (.int (0 : Int32)), .val (.double d16), .second] [(.int (0 : Int32)), (.ref ra)])) rfl rfl (hb hby d1s4_48) _ ?_
    show Steps p.tables e below (s₁.setTop (mkF m 49 #[.val (.ref ra), .val (.double sd), .second, .val (.double d16), .second, .val (.double d11), .second, .val (.int (0 : Int32)), .val (.double d16), .second] [(.double x0')])) _
    refine XS.dloadN X0.here hx rfl (hb hby d1s4_49) rfl ?_
    show Steps p.tables e below (s₁.setTop (mkF m 50 #[.val (.ref ra), .val (.double sd), .second, .val (.double d16), .second, .val (.double d11), .second, .val (.int (0 : Int32)), .val (.double d16), .second] [(.double sd), (.double x0')])) _
    refine XS.dloadN X0.here hx rfl (hb hby d1s4_50) rfl ?_
    show Steps p.tables e below (s₁.setTop (mkF m 51 #[.val (.ref ra), .val (.double sd), .second, .val (.double d16), .second, .val (.double d11), .second, .val (.int (0 : Int32)), .val (.double d16), .second] [(.double d16), (.double sd), (.double x0')])) _
    refine XS.dmulS X0.here hx rfl (hb hby d1s4_51) rfl nn18 v18 ?_
    show Steps p.tables e below (s₁.setTop (mkF m 52 #[.val (.ref ra), .val (.double sd), .second, .val (.double d16), .second, .val (.double d11), .second, .val (.int (0 : Int32)), .val (.double d16), .second] [(.double d18), (.double x0')])) _
    refine XS.daddS X0.here hx rfl (hb hby d1s4_52) rfl nn19 v19 ?_
    show Steps p.tables e below (s₁.setTop (mkF m 53 #[.val (.ref ra), .val (.double sd), .second, .val (.double d16), .second, .val (.double d11), .second, .val (.int (0 : Int32)), .val (.double d16), .second] [(.double d19)])) _
    refine XS.dload X0.here hx rfl (hb hby d1s4_53) rfl ?_
    show Steps p.tables e below (s₁.setTop (mkF m 55 #[.val (.ref ra), .val (.double sd), .second, .val (.double d16), .second, .val (.double d11), .second, .val (.int (0 : Int32)), .val (.double d16), .second] [(.double d11), (.double d19)])) _
    refine XS.dsubS X0.here hx rfl (hb hby d1s4_55) rfl nn20 v20 ?_
    show Steps p.tables e below (s₁.setTop (mkF m 56 #[.val (.ref ra), .val (.double sd), .second, .val (.double d16), .second, .val (.double d11), .second, .val (.int (0 : Int32)), .val (.double d16), .second] [(.double d20)])) _
    exact retOut X0 hx Bd.returns rfl (Or.inr (Or.inr (Or.inl ⟨rfl, rfl, _, rfl⟩))) (hb hby d1s4_56) hr
  · show Q1s4 Z ra sd x0' x1' x2' x3' M c0 c1 c2 c3 h0 n0 _ s₁.heap _
    rw [e0]
    exact ⟨_, rfl, N0, rfl, D20, B20⟩
theorem d1s5_0 : decode prog_28_method_4_code 0 = .ok (.dconst 0, 1) := by decide +kernel
theorem d1s5_1 : decode prog_28_method_4_code 1 = .ok (.dstore_n 3, 1) := by decide +kernel
theorem d1s5_2 : decode prog_28_method_4_code 2 = .ok (.dconst 0, 1) := by decide +kernel
theorem d1s5_3 : decode prog_28_method_4_code 3 = .ok (.dstore 5, 2) := by decide +kernel
theorem d1s5_5 : decode prog_28_method_4_code 5 = .ok (.aload_n 0, 1) := by decide +kernel
theorem d1s5_6 : decode prog_28_method_4_code 6 = .ok (.arraylength, 1) := by decide +kernel
theorem d1s5_7 : decode prog_28_method_4_code 7 = .ok (.iconst 1, 1) := by decide +kernel
theorem d1s5_8 : decode prog_28_method_4_code 8 = .ok (.isub, 1) := by decide +kernel
theorem d1s5_9 : decode prog_28_method_4_code 9 = .ok (.istore 7, 2) := by decide +kernel
theorem d1s5_11 : decode prog_28_method_4_code 11 = .ok (.iload 7, 2) := by decide +kernel
theorem d1s5_13 : decode prog_28_method_4_code 13 = .ok (.iconst 1, 1) := by decide +kernel
theorem d1s5_14 : decode prog_28_method_4_code 14 = .ok (.if_icmp .lt 32, 3) := by decide +kernel
theorem d1s5_17 : decode prog_28_method_4_code 17 = .ok (.aload_n 0, 1) := by decide +kernel
theorem d1s5_18 : decode prog_28_method_4_code 18 = .ok (.iload 7, 2) := by decide +kernel
theorem d1s5_20 : decode prog_28_method_4_code 20 = .ok (.daload, 1) := by decide +kernel
theorem d1s5_21 : decode prog_28_method_4_code 21 = .ok (.ldc2_w 13, 3) := by decide +kernel
theorem d1s5_24 : decode prog_28_method_4_code 24 = .ok (.dload_n 1, 1) := by decide +kernel
theorem d1s5_25 : decode prog_28_method_4_code 25 = .ok (.dmul, 1) := by decide +kernel
theorem d1s5_26 : decode prog_28_method_4_code 26 = .ok (.dload_n 3, 1) := by decide +kernel
theorem d1s5_27 : decode prog_28_method_4_code 27 = .ok (.dmul, 1) := by decide +kernel
theorem d1s5_28 : decode prog_28_method_4_code 28 = .ok (.dadd, 1) := by decide +kernel
theorem d1s5_29 : decode prog_28_method_4_code 29 = .ok (.dload 5, 2) := by decide +kernel
theorem d1s5_31 : decode prog_28_method_4_code 31 = .ok (.dsub, 1) := by decide +kernel
theorem d1s5_32 : decode prog_28_method_4_code 32 = .ok (.dstore 8, 2) := by decide +kernel
theorem d1s5_34 : decode prog_28_method_4_code 34 = .ok (.dload_n 3, 1) := by decide +kernel
theorem d1s5_35 : decode prog_28_method_4_code 35 = .ok (.dstore 5, 2) := by decide +kernel
theorem d1s5_37 : decode prog_28_method_4_code 37 = .ok (.dload 8, 2) := by decide +kernel
theorem d1s5_39 : decode prog_28_method_4_code 39 = .ok (.dstore_n 3, 1) := by decide +kernel
theorem d1s5_40 : decode prog_28_method_4_code 40 = .ok (.iinc 7 (-1), 3) := by decide +kernel
theorem d1s5_43 : decode prog_28_method_4_code 43 = .ok (.goto (-32), 3) := by decide +kernel
theorem d1s5_46 : decode prog_28_method_4_code 46 = .ok (.aload_n 0, 1) := by decide +kernel
theorem d1s5_47 : decode prog_28_method_4_code 47 = .ok (.iconst 0, 1) := by decide +kernel
theorem d1s5_48 : decode prog_28_method_4_code 48 = .ok (.daload, 1) := by decide +kernel
theorem d1s5_49 : decode prog_28_method_4_code 49 = .ok (.dload_n 1, 1) := by decide +kernel
theorem d1s5_50 : decode prog_28_method_4_code 50 = .ok (.dload_n 3, 1) := by decide +kernel
theorem d1s5_51 : decode prog_28_method_4_code 51 = .ok (.dmul, 1) := by decide +kernel
theorem d1s5_52 : decode prog_28_method_4_code 52 = .ok (.dadd, 1) := by decide +kernel
theorem d1s5_53 : decode prog_28_method_4_code 53 = .ok (.dload 5, 2) := by decide +kernel
theorem d1s5_55 : decode prog_28_method_4_code 55 = .ok (.dsub, 1) := by decide +kernel
theorem d1s5_56 : decode prog_28_method_4_code 56 = .ok (.dreturn, 1) := by decide +kernel
theorem pn_1s5 : plainName "com/example/matchstat/matchstat/Chebyshev" = true := by first | (simp [plainName, overriddenIn]; done) | decide +kernel
theorem ef_1s5 (m : MethodId) (x0 : Addr) (x1 : UInt64) : entryFrame m #[(.ref x0), (.double x1)] 10 = mkF m 0 #[.val (.ref x0), .val (.double x1), .second, .unset, .unset, .unset, .unset, .unset, .unset, .unset] [] := by first | (simp [entryFrame, mkF, argsToLocals, Value.category]; done) | rfl
def Q1s5 (Z : State) (ra : Addr) (sd : UInt64) (x0' : UInt64) (x1' : UInt64) (x2' : UInt64) (x3' : UInt64) (x4' : UInt64) (M : Int) (c0 : Int) (c1 : Int) (c2 : Int) (c3 : Int) (c4 : Int) (h0 : Heap) (n0 : Nat) (v : Option Value) (h : Heap) (L : List Loc) : Prop := ∃ r, v = some (.double r) ∧ Fr n0 L ∧ h = h0 ∧ own_Dy 15 (((c0 * 32768) + (M * (((c1 * 4096) + ((2 * M) * (((c2 * 512) + ((2 * M) * (((c3 * 64) + ((2 * M) * (((c4 * 8) + ((2 * M) * 0)) - (0 * 8)))) - (0 * 64)))) - ((((c4 * 8) + ((2 * M) * 0)) - (0 * 8)) * 64)))) - ((((c3 * 64) + ((2 * M) * (((c4 * 8) + ((2 * M) * 0)) - (0 * 8)))) - (0 * 64)) * 64)))) - ((((c2 * 512) + ((2 * M) * (((c3 * 64) + ((2 * M) * (((c4 * 8) + ((2 * M) * 0)) - (0 * 8)))) - (0 * 64)))) - ((((c4 * 8) + ((2 * M) * 0)) - (0 * 8)) * 64)) * 64)) r ∧ ((((c0 * 32768) + (M * (((c1 * 4096) + ((2 * M) * (((c2 * 512) + ((2 * M) * (((c3 * 64) + ((2 * M) * (((c4 * 8) + ((2 * M) * 0)) - (0 * 8)))) - (0 * 64)))) - ((((c4 * 8) + ((2 * M) * 0)) - (0 * 8)) * 64)))) - ((((c3 * 64) + ((2 * M) * (((c4 * 8) + ((2 * M) * 0)) - (0 * 8)))) - (0 * 64)) * 64)))) - ((((c2 * 512) + ((2 * M) * (((c3 * 64) + ((2 * M) * (((c4 * 8) + ((2 * M) * 0)) - (0 * 8)))) - (0 * 64)))) - ((((c4 * 8) + ((2 * M) * 0)) - (0 * 8)) * 64)) * 64)) : Int).natAbs ≤ 2040693581152256
set_option maxRecDepth 65536 in
set_option maxHeartbeats 40000000 in
theorem rm1s5 (l : Launch) (Z : State) (a0 : Array Value) (hw : ∀ d ∈ tables_1, d.before a0 Z = true) (ws : List Jvm.Cond) (ra : Addr) (sd : UInt64) (x0' : UInt64) (x1' : UInt64) (x2' : UInt64) (x3' : UInt64) (x4' : UInt64) (M : Int) (c0 : Int) (c1 : Int) (c2 : Int) (c3 : Int) (c4 : Int) (h0 : Heap) (n0 : Nat) (Z0 : n0 ≤ h0.size) (V_ra : own_B Z h0 ra [x0', x1', x2', x3', x4']) (DM : own_Dy 3 M sd) (BM : M.natAbs ≤ 8) (Dc0 : own_Dy 0 c0 x0') (Bc0 : c0.natAbs ≤ 2147483648) (Dc1 : own_Dy 0 c1 x1') (Bc1 : c1.natAbs ≤ 2147483648) (Dc2 : own_Dy 0 c2 x2') (Bc2 : c2.natAbs ≤ 2147483648) (Dc3 : own_Dy 0 c3 x3') (Bc3 : c3.natAbs ≤ 2147483648) (Dc4 : own_Dy 0 c4 x4') (Bc4 : c4.natAbs ≤ 2147483648) :
    MetFree l (⟨"com/example/matchstat/matchstat/Chebyshev", "sum", "([DD)D"⟩ : MethodName) (head1 (Jvm.Cond.code (⟨"com/example/matchstat/matchstat/Chebyshev", "sum", "([DD)D"⟩ : MethodName) prog_28_method_4_code 10 (some .double) :: ws) ({ frames := 0, cells := 0, slots := 0, locals := 0 } : Room)) (fun ar U => ar = #[(.ref ra), (.double sd)] ∧ Z.Warmed39 U.vm ∧ U.heap = h0) (fun _ _ _ _ _ => True) (fun _ U o U' => ∃ v L, o = .returned v ∧ Q1s5 Z ra sd x0' x1' x2' x3' x4' M c0 c1 c2 c3 c4 h0 n0 v U'.heap L ∧ FrameEnd U o U' L ({ frames := 0, cells := 0, slots := 0, locals := 0 } : Room).cells ({ frames := 0, cells := 0, slots := 0, locals := 0 } : Room).slots) := by
  refine MetFree.of_bodySF (plainFor_of_name pn_1s5) hisR ?_
  intro p e s m args below meth c s₁ Bd hml0 hP hK
  obtain ⟨rfl, hZ, hh⟩ := hP
  have hx := Bd.exec
  have hby := Bd.bytes
  have hml : c.maxLocals = 10 := hml0
  have hown : s.vm.findClass "com/example/matchstat/matchstat/Chebyshev" = some m.cls := findClass_of_methodNamed Bd.named
  have hnm := (name_of_methodNamed Bd.named Bd.method).1
  have X0 : Stand p l e ({ frames := 0, cells := 0, slots := 0, locals := 0 } : Room) s m #[(.ref ra), (.double sd)] below meth c s₁ [] 0 0 := Stand.of_body Bd
  have e0 : s₁.heap = h0 := by rw [← hh, Bd.state]; rfl
  have N0 := Fr.nil n0
  have K0 : Keep h0 h0 [] := Keep.refl h0 _
  have pre0 : ∀ t, Steps p.tables e below (s₁.setTop (mkF m 0 #[.val (.ref ra), .val (.double sd), .second, .unset, .unset, .unset, .unset, .unset, .unset, .unset] [])) t → Steps p.tables e below (s₁.setTop (entryFrame m #[(.ref ra), (.double sd)] 10)) t := fun t k => castTop (ef_1s5 m ra sd) k
  obtain ⟨cl61, Ar61, Sq61⟩ := id V_ra
  have S61 : cl61.slots.size = ((5 : Int32)).toNatClampNeg := own_B.size Sq61 rfl
  have M61 : ¬ (5 : Int32) < 0 := by decide
  obtain ⟨cl202, Ar202, Sq202⟩ := id V_ra
  have S202 : cl202.slots.size = ((5 : Int32)).toNatClampNeg := own_B.size Sq202 rfl
  have hin202 : ¬ ((4 : Int32) < 0 ∨ cl202.slots.size ≤ ((4 : Int32)).toNatClampNeg) := inb_of S202 ⟨by decide, by decide⟩
  have hat202 : cl202.slots[((4 : Int32)).toNatClampNeg]? = some (.double x4') := own_B.at Sq202 rfl
  have B3 : ((2 * M) : Int).natAbs ≤ 16 := own_bmul (by decide : (2 : Int).natAbs ≤ 2) BM (by decide)
  obtain ⟨d3, v3⟩ : ∃ z : UInt64, FP.dmul (4611686018427387904 : UInt64) sd = z := ⟨_, rfl⟩
  have D3 : own_Dy 3 (2 * M) d3 := by
    rw [← v3]
    exact own_Dy_mul rfl (by decide) own_D2 DM (Nat.le_trans B3 (by decide))
  have nn3 : Jvm.Free.Fl.NoNaN64 (FP.dmul (4611686018427387904 : UInt64) sd) := by
    rw [v3]
    exact Jvm.Free.Fl.val64_no.mpr (own_Dy_num D3)
  have B4 : (((2 * M) * 0) : Int).natAbs ≤ 0 := own_bmul B3 (by decide : (0 : Int).natAbs ≤ 0) (by decide)
  obtain ⟨d4, v4⟩ : ∃ z : UInt64, FP.dmul d3 (0 : UInt64) = z := ⟨_, rfl⟩
  have D4 : own_Dy 3 ((2 * M) * 0) d4 := by
    rw [← v4]
    exact own_Dy_mul rfl (by decide) D3 own_D0 (Nat.le_trans B4 (by decide))
  have nn4 : Jvm.Free.Fl.NoNaN64 (FP.dmul d3 (0 : UInt64)) := by
    rw [v4]
    exact Jvm.Free.Fl.val64_no.mpr (own_Dy_num D4)
  have B5 : (((c4 * 8) + ((2 * M) * 0)) : Int).natAbs ≤ 17179869184 := own_badd (own_bmul (C := 17179869184) Bc4 (by decide : (8 : Int).natAbs ≤ 8) (by decide)) B4 (by decide)
  obtain ⟨d5, v5⟩ : ∃ z : UInt64, FP.dadd x4' d4 = z := ⟨_, rfl⟩
  have D5 : own_Dy 3 ((c4 * 8) + ((2 * M) * 0)) d5 := by
    rw [← v5]
    exact own_Dy_add (by decide) (own_Dy_up (K := 3) (p := 8) 3 rfl (by decide) Dc4) D4 (Nat.le_trans B5 (by decide))
  have nn5 : Jvm.Free.Fl.NoNaN64 (FP.dadd x4' d4) := by
    rw [v5]
    exact Jvm.Free.Fl.val64_no.mpr (own_Dy_num D5)
  have B6 : ((((c4 * 8) + ((2 * M) * 0)) - (0 * 8)) : Int).natAbs ≤ 17179869184 := own_bsub B5 (own_bmul (C := 0) (by decide : (0 : Int).natAbs ≤ 0) (by decide : (8 : Int).natAbs ≤ 8) (by decide)) (by decide)
  obtain ⟨d6, v6⟩ : ∃ z : UInt64, FP.dsub d5 (0 : UInt64) = z := ⟨_, rfl⟩
  have D6 : own_Dy 3 (((c4 * 8) + ((2 * M) * 0)) - (0 * 8)) d6 := by
    rw [← v6]
    exact own_Dy_sub (by decide) D5 (own_Dy_up (K := 3) (p := 8) 3 rfl (by decide) own_D0) (Nat.le_trans B6 (by decide))
  have nn6 : Jvm.Free.Fl.NoNaN64 (FP.dsub d5 (0 : UInt64)) := by
    rw [v6]
    exact Jvm.Free.Fl.val64_no.mpr (own_Dy_num D6)
  obtain ⟨cl207, Ar207, Sq207⟩ := id V_ra
  have S207 : cl207.slots.size = ((5 : Int32)).toNatClampNeg := own_B.size Sq207 rfl
  have hin207 : ¬ ((3 : Int32) < 0 ∨ cl207.slots.size ≤ ((3 : Int32)).toNatClampNeg) := inb_of S207 ⟨by decide, by decide⟩
  have hat207 : cl207.slots[((3 : Int32)).toNatClampNeg]? = some (.double x3') := own_B.at Sq207 rfl
  have B8 : ((2 * M) : Int).natAbs ≤ 16 := own_bmul (by decide : (2 : Int).natAbs ≤ 2) BM (by decide)
  obtain ⟨d8, v8⟩ : ∃ z : UInt64, FP.dmul (4611686018427387904 : UInt64) sd = z := ⟨_, rfl⟩
  have D8 : own_Dy 3 (2 * M) d8 := by
    rw [← v8]
    exact own_Dy_mul rfl (by decide) own_D2 DM (Nat.le_trans B8 (by decide))
  have nn8 : Jvm.Free.Fl.NoNaN64 (FP.dmul (4611686018427387904 : UInt64) sd) := by
    rw [v8]
    exact Jvm.Free.Fl.val64_no.mpr (own_Dy_num D8)
  have B9 : (((2 * M) * (((c4 * 8) + ((2 * M) * 0)) - (0 * 8))) : Int).natAbs ≤ 274877906944 := own_bmul B8 B6 (by decide)
  obtain ⟨d9, v9⟩ : ∃ z : UInt64, FP.dmul d8 d6 = z := ⟨_, rfl⟩
  have D9 : own_Dy 6 ((2 * M) * (((c4 * 8) + ((2 * M) * 0)) - (0 * 8))) d9 := by
    rw [← v9]
    exact own_Dy_mul rfl (by decide) D8 D6 (Nat.le_trans B9 (by decide))
  have nn9 : Jvm.Free.Fl.NoNaN64 (FP.dmul d8 d6) := by
    rw [v9]
    exact Jvm.Free.Fl.val64_no.mpr (own_Dy_num D9)
  have B10 : (((c3 * 64) + ((2 * M) * (((c4 * 8) + ((2 * M) * 0)) - (0 * 8)))) : Int).natAbs ≤ 412316860416 := own_badd (own_bmul (C := 137438953472) Bc3 (by decide : (64 : Int).natAbs ≤ 64) (by decide)) B9 (by decide)
  obtain ⟨d10, v10⟩ : ∃ z : UInt64, FP.dadd x3' d9 = z := ⟨_, rfl⟩
  have D10 : own_Dy 6 ((c3 * 64) + ((2 * M) * (((c4 * 8) + ((2 * M) * 0)) - (0 * 8)))) d10 := by
    rw [← v10]
    exact own_Dy_add (by decide) (own_Dy_up (K := 6) (p := 64) 6 rfl (by decide) Dc3) D9 (Nat.le_trans B10 (by decide))
  have nn10 : Jvm.Free.Fl.NoNaN64 (FP.dadd x3' d9) := by
    rw [v10]
    exact Jvm.Free.Fl.val64_no.mpr (own_Dy_num D10)
  have B11 : ((((c3 * 64) + ((2 * M) * (((c4 * 8) + ((2 * M) * 0)) - (0 * 8)))) - (0 * 64)) : Int).natAbs ≤ 412316860416 := own_bsub B10 (own_bmul (C := 0) (by decide : (0 : Int).natAbs ≤ 0) (by decide : (64 : Int).natAbs ≤ 64) (by decide)) (by decide)
  obtain ⟨d11, v11⟩ : ∃ z : UInt64, FP.dsub d10 (0 : UInt64) = z := ⟨_, rfl⟩
  have D11 : own_Dy 6 (((c3 * 64) + ((2 * M) * (((c4 * 8) + ((2 * M) * 0)) - (0 * 8)))) - (0 * 64)) d11 := by
    rw [← v11]
    exact own_Dy_sub (by decide) D10 (own_Dy_up (K := 6) (p := 64) 6 rfl (by decide) own_D0) (Nat.le_trans B11 (by decide))
  have nn11 : Jvm.Free.Fl.NoNaN64 (FP.dsub d10 (0 : UInt64)) := by
    rw [v11]
    exact Jvm.Free.Fl.val64_no.mpr (own_Dy_num D11)
  obtain ⟨cl2012, Ar2012, Sq2012⟩ := id V_ra
  have S2012 : cl2012.slots.size = ((5 : Int32)).toNatClampNeg := own_B.size Sq2012 rfl
  have hin2012 : ¬ ((2 : Int32) < 0 ∨ cl2012.slots.size ≤ ((2 : Int32)).toNatClampNeg) := inb_of S2012 ⟨by decide, by decide⟩
  have hat2012 : cl2012.slots[((2 : Int32)).toNatClampNeg]? = some (.double x2') := own_B.at Sq2012 rfl
  have B13 : ((2 * M) : Int).natAbs ≤ 16 := own_bmul (by decide : (2 : Int).natAbs ≤ 2) BM (by decide)
  obtain ⟨d13, v13⟩ : ∃ z : UInt64, FP.dmul (4611686018427387904 : UInt64) sd = z := ⟨_, rfl⟩
  have D13 : own_Dy 3 (2 * M) d13 := by
    rw [← v13]
    exact own_Dy_mul rfl (by decide) own_D2 DM (Nat.le_trans B13 (by decide))
  have nn13 : Jvm.Free.Fl.NoNaN64 (FP.dmul (4611686018427387904 : UInt64) sd) := by
    rw [v13]
    exact Jvm.Free.Fl.val64_no.mpr (own_Dy_num D13)
  have B14 : (((2 * M) * (((c3 * 64) + ((2 * M) * (((c4 * 8) + ((2 * M) * 0)) - (0 * 8)))) - (0 * 64))) : Int).natAbs ≤ 6597069766656 := own_bmul B13 B11 (by decide)
  obtain ⟨d14, v14⟩ : ∃ z : UInt64, FP.dmul d13 d11 = z := ⟨_, rfl⟩
  have D14 : own_Dy 9 ((2 * M) * (((c3 * 64) + ((2 * M) * (((c4 * 8) + ((2 * M) * 0)) - (0 * 8)))) - (0 * 64))) d14 := by
    rw [← v14]
    exact own_Dy_mul rfl (by decide) D13 D11 (Nat.le_trans B14 (by decide))
  have nn14 : Jvm.Free.Fl.NoNaN64 (FP.dmul d13 d11) := by
    rw [v14]
    exact Jvm.Free.Fl.val64_no.mpr (own_Dy_num D14)
  have B15 : (((c2 * 512) + ((2 * M) * (((c3 * 64) + ((2 * M) * (((c4 * 8) + ((2 * M) * 0)) - (0 * 8)))) - (0 * 64)))) : Int).natAbs ≤ 7696581394432 := own_badd (own_bmul (C := 1099511627776) Bc2 (by decide : (512 : Int).natAbs ≤ 512) (by decide)) B14 (by decide)
  obtain ⟨d15, v15⟩ : ∃ z : UInt64, FP.dadd x2' d14 = z := ⟨_, rfl⟩
  have D15 : own_Dy 9 ((c2 * 512) + ((2 * M) * (((c3 * 64) + ((2 * M) * (((c4 * 8) + ((2 * M) * 0)) - (0 * 8)))) - (0 * 64)))) d15 := by
    rw [← v15]
    exact own_Dy_add (by decide) (own_Dy_up (K := 9) (p := 512) 9 rfl (by decide) Dc2) D14 (Nat.le_trans B15 (by decide))
  have nn15 : Jvm.Free.Fl.NoNaN64 (FP.dadd x2' d14) := by
    rw [v15]
    exact Jvm.Free.Fl.val64_no.mpr (own_Dy_num D15)
  have B16 : ((((c2 * 512) + ((2 * M) * (((c3 * 64) + ((2 * M) * (((c4 * 8) + ((2 * M) * 0)) - (0 * 8)))) - (0 * 64)))) - ((((c4 * 8) + ((2 * M) * 0)) - (0 * 8)) * 64)) : Int).natAbs ≤ 8796093022208 := own_bsub B15 (own_bmul (C := 1099511627776) B6 (by decide : (64 : Int).natAbs ≤ 64) (by decide)) (by decide)
  obtain ⟨d16, v16⟩ : ∃ z : UInt64, FP.dsub d15 d6 = z := ⟨_, rfl⟩
  have D16 : own_Dy 9 (((c2 * 512) + ((2 * M) * (((c3 * 64) + ((2 * M) * (((c4 * 8) + ((2 * M) * 0)) - (0 * 8)))) - (0 * 64)))) - ((((c4 * 8) + ((2 * M) * 0)) - (0 * 8)) * 64)) d16 := by
    rw [← v16]
    exact own_Dy_sub (by decide) D15 (own_Dy_up (K := 9) (p := 64) 6 rfl (by decide) D6) (Nat.le_trans B16 (by decide))
  have nn16 : Jvm.Free.Fl.NoNaN64 (FP.dsub d15 d6) := by
    rw [v16]
    exact Jvm.Free.Fl.val64_no.mpr (own_Dy_num D16)
  obtain ⟨cl2017, Ar2017, Sq2017⟩ := id V_ra
  have S2017 : cl2017.slots.size = ((5 : Int32)).toNatClampNeg := own_B.size Sq2017 rfl
  have hin2017 : ¬ ((1 : Int32) < 0 ∨ cl2017.slots.size ≤ ((1 : Int32)).toNatClampNeg) := inb_of S2017 ⟨by decide, by decide⟩
  have hat2017 : cl2017.slots[((1 : Int32)).toNatClampNeg]? = some (.double x1') := own_B.at Sq2017 rfl
  have B18 : ((2 * M) : Int).natAbs ≤ 16 := own_bmul (by decide : (2 : Int).natAbs ≤ 2) BM (by decide)
  obtain ⟨d18, v18⟩ : ∃ z : UInt64, FP.dmul (4611686018427387904 : UInt64) sd = z := ⟨_, rfl⟩
  have D18 : own_Dy 3 (2 * M) d18 := by
    rw [← v18]
    exact own_Dy_mul rfl (by decide) own_D2 DM (Nat.le_trans B18 (by decide))
  have nn18 : Jvm.Free.Fl.NoNaN64 (FP.dmul (4611686018427387904 : UInt64) sd) := by
    rw [v18]
    exact Jvm.Free.Fl.val64_no.mpr (own_Dy_num D18)
  have B19 : (((2 * M) * (((c2 * 512) + ((2 * M) * (((c3 * 64) + ((2 * M) * (((c4 * 8) + ((2 * M) * 0)) - (0 * 8)))) - (0 * 64)))) - ((((c4 * 8) + ((2 * M) * 0)) - (0 * 8)) * 64))) : Int).natAbs ≤ 140737488355328 := own_bmul B18 B16 (by decide)
  obtain ⟨d19, v19⟩ : ∃ z : UInt64, FP.dmul d18 d16 = z := ⟨_, rfl⟩
  have D19 : own_Dy 12 ((2 * M) * (((c2 * 512) + ((2 * M) * (((c3 * 64) + ((2 * M) * (((c4 * 8) + ((2 * M) * 0)) - (0 * 8)))) - (0 * 64)))) - ((((c4 * 8) + ((2 * M) * 0)) - (0 * 8)) * 64))) d19 := by
    rw [← v19]
    exact own_Dy_mul rfl (by decide) D18 D16 (Nat.le_trans B19 (by decide))
  have nn19 : Jvm.Free.Fl.NoNaN64 (FP.dmul d18 d16) := by
    rw [v19]
    exact Jvm.Free.Fl.val64_no.mpr (own_Dy_num D19)
  have B20 : (((c1 * 4096) + ((2 * M) * (((c2 * 512) + ((2 * M) * (((c3 * 64) + ((2 * M) * (((c4 * 8) + ((2 * M) * 0)) - (0 * 8)))) - (0 * 64)))) - ((((c4 * 8) + ((2 * M) * 0)) - (0 * 8)) * 64)))) : Int).natAbs ≤ 149533581377536 := own_badd (own_bmul (C := 8796093022208) Bc1 (by decide : (4096 : Int).natAbs ≤ 4096) (by decide)) B19 (by decide)
  obtain ⟨d20, v20⟩ : ∃ z : UInt64, FP.dadd x1' d19 = z := ⟨_, rfl⟩
  have D20 : own_Dy 12 ((c1 * 4096) + ((2 * M) * (((c2 * 512) + ((2 * M) * (((c3 * 64) + ((2 * M) * (((c4 * 8) + ((2 * M) * 0)) - (0 * 8)))) - (0 * 64)))) - ((((c4 * 8) + ((2 * M) * 0)) - (0 * 8)) * 64)))) d20 := by
    rw [← v20]
    exact own_Dy_add (by decide) (own_Dy_up (K := 12) (p := 4096) 12 rfl (by decide) Dc1) D19 (Nat.le_trans B20 (by decide))
  have nn20 : Jvm.Free.Fl.NoNaN64 (FP.dadd x1' d19) := by
    rw [v20]
    exact Jvm.Free.Fl.val64_no.mpr (own_Dy_num D20)
  have B21 : ((((c1 * 4096) + ((2 * M) * (((c2 * 512) + ((2 * M) * (((c3 * 64) + ((2 * M) * (((c4 * 8) + ((2 * M) * 0)) - (0 * 8)))) - (0 * 64)))) - ((((c4 * 8) + ((2 * M) * 0)) - (0 * 8)) * 64)))) - ((((c3 * 64) + ((2 * M) * (((c4 * 8) + ((2 * M) * 0)) - (0 * 8)))) - (0 * 64)) * 64)) : Int).natAbs ≤ 175921860444160 := own_bsub B20 (own_bmul (C := 26388279066624) B11 (by decide : (64 : Int).natAbs ≤ 64) (by decide)) (by decide)
  obtain ⟨d21, v21⟩ : ∃ z : UInt64, FP.dsub d20 d11 = z := ⟨_, rfl⟩
  have D21 : own_Dy 12 (((c1 * 4096) + ((2 * M) * (((c2 * 512) + ((2 * M) * (((c3 * 64) + ((2 * M) * (((c4 * 8) + ((2 * M) * 0)) - (0 * 8)))) - (0 * 64)))) - ((((c4 * 8) + ((2 * M) * 0)) - (0 * 8)) * 64)))) - ((((c3 * 64) + ((2 * M) * (((c4 * 8) + ((2 * M) * 0)) - (0 * 8)))) - (0 * 64)) * 64)) d21 := by
    rw [← v21]
    exact own_Dy_sub (by decide) D20 (own_Dy_up (K := 12) (p := 64) 6 rfl (by decide) D11) (Nat.le_trans B21 (by decide))
  have nn21 : Jvm.Free.Fl.NoNaN64 (FP.dsub d20 d11) := by
    rw [v21]
    exact Jvm.Free.Fl.val64_no.mpr (own_Dy_num D21)
  obtain ⟨cl4822, Ar4822, Sq4822⟩ := id V_ra
  have S4822 : cl4822.slots.size = ((5 : Int32)).toNatClampNeg := own_B.size Sq4822 rfl
  have hin4822 : ¬ ((0 : Int32) < 0 ∨ cl4822.slots.size ≤ ((0 : Int32)).toNatClampNeg) := inb_of S4822 ⟨by decide, by decide⟩
  have hat4822 : cl4822.slots[((0 : Int32)).toNatClampNeg]? = some (.double x0') := own_B.at Sq4822 rfl
  have B23 : ((M * (((c1 * 4096) + ((2 * M) * (((c2 * 512) + ((2 * M) * (((c3 * 64) + ((2 * M) * (((c4 * 8) + ((2 * M) * 0)) - (0 * 8)))) - (0 * 64)))) - ((((c4 * 8) + ((2 * M) * 0)) - (0 * 8)) * 64)))) - ((((c3 * 64) + ((2 * M) * (((c4 * 8) + ((2 * M) * 0)) - (0 * 8)))) - (0 * 64)) * 64))) : Int).natAbs ≤ 1407374883553280 := own_bmul BM B21 (by decide)
  obtain ⟨d23, v23⟩ : ∃ z : UInt64, FP.dmul sd d21 = z := ⟨_, rfl⟩
  have D23 : own_Dy 15 (M * (((c1 * 4096) + ((2 * M) * (((c2 * 512) + ((2 * M) * (((c3 * 64) + ((2 * M) * (((c4 * 8) + ((2 * M) * 0)) - (0 * 8)))) - (0 * 64)))) - ((((c4 * 8) + ((2 * M) * 0)) - (0 * 8)) * 64)))) - ((((c3 * 64) + ((2 * M) * (((c4 * 8) + ((2 * M) * 0)) - (0 * 8)))) - (0 * 64)) * 64))) d23 := by
    rw [← v23]
    exact own_Dy_mul rfl (by decide) DM D21 (Nat.le_trans B23 (by decide))
  have nn23 : Jvm.Free.Fl.NoNaN64 (FP.dmul sd d21) := by
    rw [v23]
    exact Jvm.Free.Fl.val64_no.mpr (own_Dy_num D23)
  have B24 : (((c0 * 32768) + (M * (((c1 * 4096) + ((2 * M) * (((c2 * 512) + ((2 * M) * (((c3 * 64) + ((2 * M) * (((c4 * 8) + ((2 * M) * 0)) - (0 * 8)))) - (0 * 64)))) - ((((c4 * 8) + ((2 * M) * 0)) - (0 * 8)) * 64)))) - ((((c3 * 64) + ((2 * M) * (((c4 * 8) + ((2 * M) * 0)) - (0 * 8)))) - (0 * 64)) * 64)))) : Int).natAbs ≤ 1477743627730944 := own_badd (own_bmul (C := 70368744177664) Bc0 (by decide : (32768 : Int).natAbs ≤ 32768) (by decide)) B23 (by decide)
  obtain ⟨d24, v24⟩ : ∃ z : UInt64, FP.dadd x0' d23 = z := ⟨_, rfl⟩
  have D24 : own_Dy 15 ((c0 * 32768) + (M * (((c1 * 4096) + ((2 * M) * (((c2 * 512) + ((2 * M) * (((c3 * 64) + ((2 * M) * (((c4 * 8) + ((2 * M) * 0)) - (0 * 8)))) - (0 * 64)))) - ((((c4 * 8) + ((2 * M) * 0)) - (0 * 8)) * 64)))) - ((((c3 * 64) + ((2 * M) * (((c4 * 8) + ((2 * M) * 0)) - (0 * 8)))) - (0 * 64)) * 64)))) d24 := by
    rw [← v24]
    exact own_Dy_add (by decide) (own_Dy_up (K := 15) (p := 32768) 15 rfl (by decide) Dc0) D23 (Nat.le_trans B24 (by decide))
  have nn24 : Jvm.Free.Fl.NoNaN64 (FP.dadd x0' d23) := by
    rw [v24]
    exact Jvm.Free.Fl.val64_no.mpr (own_Dy_num D24)
  have B25 : ((((c0 * 32768) + (M * (((c1 * 4096) + ((2 * M) * (((c2 * 512) + ((2 * M) * (((c3 * 64) + ((2 * M) * (((c4 * 8) + ((2 * M) * 0)) - (0 * 8)))) - (0 * 64)))) - ((((c4 * 8) + ((2 * M) * 0)) - (0 * 8)) * 64)))) - ((((c3 * 64) + ((2 * M) * (((c4 * 8) + ((2 * M) * 0)) - (0 * 8)))) - (0 * 64)) * 64)))) - ((((c2 * 512) + ((2 * M) * (((c3 * 64) + ((2 * M) * (((c4 * 8) + ((2 * M) * 0)) - (0 * 8)))) - (0 * 64)))) - ((((c4 * 8) + ((2 * M) * 0)) - (0 * 8)) * 64)) * 64)) : Int).natAbs ≤ 2040693581152256 := own_bsub B24 (own_bmul (C := 562949953421312) B16 (by decide : (64 : Int).natAbs ≤ 64) (by decide)) (by decide)
  obtain ⟨d25, v25⟩ : ∃ z : UInt64, FP.dsub d24 d16 = z := ⟨_, rfl⟩
  have D25 : own_Dy 15 (((c0 * 32768) + (M * (((c1 * 4096) + ((2 * M) * (((c2 * 512) + ((2 * M) * (((c3 * 64) + ((2 * M) * (((c4 * 8) + ((2 * M) * 0)) - (0 * 8)))) - (0 * 64)))) - ((((c4 * 8) + ((2 * M) * 0)) - (0 * 8)) * 64)))) - ((((c3 * 64) + ((2 * M) * (((c4 * 8) + ((2 * M) * 0)) - (0 * 8)))) - (0 * 64)) * 64)))) - ((((c2 * 512) + ((2 * M) * (((c3 * 64) + ((2 * M) * (((c4 * 8) + ((2 * M) * 0)) - (0 * 8)))) - (0 * 64)))) - ((((c4 * 8) + ((2 * M) * 0)) - (0 * 8)) * 64)) * 64)) d25 := by
    rw [← v25]
    exact own_Dy_sub (by decide) D24 (own_Dy_up (K := 15) (p := 64) 6 rfl (by decide) D16) (Nat.le_trans B25 (by decide))
  have nn25 : Jvm.Free.Fl.NoNaN64 (FP.dsub d24 d16) := by
    rw [v25]
    exact Jvm.Free.Fl.val64_no.mpr (own_Dy_num D25)
  obtain ⟨fs, hr, hrun, hended, hW, hsame⟩ := X0.leave (v := some (.double d25)) (fun h => by rw [Bd.returns] at h; cases h)
  refine ⟨_, _, pre0 _ ?_, hrun, hended, _, _, rfl, ?_, ⟨_, rfl⟩, hW, hsame.mono (by decide) (by decide)⟩
  · show Steps p.tables e below (s₁.setTop (mkF m 0 #[.val (.ref ra), .val (.double sd), .second, .unset, .unset, .unset, .unset, .unset, .unset, .unset] [])) _
    refine XS.dconst0 X0.here hx rfl (hb hby d1s5_0) (v := (0 : UInt64)) rfl ?_
    show Steps p.tables e below (s₁.setTop (mkF m 1 #[.val (.ref ra), .val (.double sd), .second, .unset, .unset, .unset, .unset, .unset, .unset, .unset] [(.double (0 : UInt64))])) _
    refine XS.dstoreN X0.here hx rfl (hb hby d1s5_1) rfl (l' := #[.val (.ref ra), .val (.double sd), .second, .val (.double (0 : UInt64)), .second, .unset, .unset, .unset, .unset, .unset]) rfl ?_
    show Steps p.tables e below (s₁.setTop (mkF m 2 #[.val (.ref ra), .val (.double sd), .second, .val (.double (0 : UInt64)), .second, .unset, .unset, .unset, .unset, .unset] [])) _
    refine XS.dconst0 X0.here hx rfl (hb hby d1s5_2) (v := (0 : UInt64)) rfl ?_
    show Steps p.tables e below (s₁.setTop (mkF m 3 #[.val (.ref ra), .val (.double sd), .second, .val (.double (0 : UInt64)), .second, .unset, .unset, .unset, .unset, .unset] [(.double (0 : UInt64))])) _
    refine XS.dstore X0.here hx rfl (hb hby d1s5_3) rfl (l' := #[.val (.ref ra), .val (.double sd), .second, .val (.double (0 : UInt64)), .second, .val (.double (0 : UInt64)), .second, .unset, .unset, .unset]) rfl ?_
    show Steps p.tables e below (s₁.setTop (mkF m 5 #[.val (.ref ra), .val (.double sd), .second, .val (.double (0 : UInt64)), .second, .val (.double (0 : UInt64)), .second, .unset, .unset, .unset] [])) _
    refine XS.aloadN X0.here hx rfl (hb hby d1s5_5) rfl rfl ?_
    show Steps p.tables e below (s₁.setTop (mkF m 6 #[.val (.ref ra), .val (.double sd), .second, .val (.double (0 : UInt64)), .second, .val (.double (0 : UInt64)), .second, .unset, .unset, .unset] [(.ref ra)])) _
    refine X0.arraylength hx (cell := cl61) (by rw [e0]; exact Ar61.1) (State.isArrayOf_alike hZ.alike Ar61.2.1) (g := (mkF m 6 #[.val (.ref ra), .val (.double sd), .second, .val (.double (0 : UInt64)), .second, .val (.double (0 : UInt64)), .second, .unset, .unset, .unset] [(.ref ra)])) rfl (rest := []) rfl (hb hby d1s5_6) _ ?_
    rw [len_of S61 M61]
    show Steps p.tables e below (s₁.setTop (mkF m 7 #[.val (.ref ra), .val (.double sd), .second, .val (.double (0 : UInt64)), .second, .val (.double (0 : UInt64)), .second, .unset, .unset, .unset] [(.int (5 : Int32))])) _
    refine XS.iconst X0.here hx rfl (hb hby d1s5_7) ?_
    show Steps p.tables e below (s₁.setTop (mkF m 8 #[.val (.ref ra), .val (.double sd), .second, .val (.double (0 : UInt64)), .second, .val (.double (0 : UInt64)), .second, .unset, .unset, .unset] [(.int (1 : Int32)), (.int (5 : Int32))])) _
    refine XS.isub X0.here hx rfl (hb hby d1s5_8) rfl ?_
    show Steps p.tables e below (s₁.setTop (mkF m 9 #[.val (.ref ra), .val (.double sd), .second, .val (.double (0 : UInt64)), .second, .val (.double (0 : UInt64)), .second, .unset, .unset, .unset] [(.int (4 : Int32))])) _
    refine XS.istore X0.here hx rfl (hb hby d1s5_9) rfl (l' := #[.val (.ref ra), .val (.double sd), .second, .val (.double (0 : UInt64)), .second, .val (.double (0 : UInt64)), .second, .val (.int (4 : Int32)), .unset, .unset]) rfl ?_
    show Steps p.tables e below (s₁.setTop (mkF m 11 #[.val (.ref ra), .val (.double sd), .second, .val (.double (0 : UInt64)), .second, .val (.double (0 : UInt64)), .second, .val (.int (4 : Int32)), .unset, .unset] [])) _
    refine XS.iload X0.here hx rfl (hb hby d1s5_11) rfl ?_
    show Steps p.tables e below (s₁.setTop (mkF m 13 #[.val (.ref ra), .val (.double sd), .second, .val (.double (0 : UInt64)), .second, .val (.double (0 : UInt64)), .second, .val (.int (4 : Int32)), .unset, .unset] [(.int (4 : Int32))])) _
    refine XS.iconst X0.here hx rfl (hb hby d1s5_13) ?_
    show Steps p.tables e below (s₁.setTop (mkF m 14 #[.val (.ref ra), .val (.double sd), .second, .val (.double (0 : UInt64)), .second, .val (.double (0 : UInt64)), .second, .val (.int (4 : Int32)), .unset, .unset] [(.int (1 : Int32)), (.int (4 : Int32))])) _
    refine XS.icmpNo X0.here hx rfl (hb hby d1s5_14) rfl (flt (by decide : ¬ ((4 : Int32) < (1 : Int32)))).1 ?_
    show Steps p.tables e below (s₁.setTop (mkF m 17 #[.val (.ref ra), .val (.double sd), .second, .val (.double (0 : UInt64)), .second, .val (.double (0 : UInt64)), .second, .val (.int (4 : Int32)), .unset, .unset] [])) _
    refine XS.aloadN X0.here hx rfl (hb hby d1s5_17) rfl rfl ?_
    show Steps p.tables e below (s₁.setTop (mkF m 18 #[.val (.ref ra), .val (.double sd), .second, .val (.double (0 : UInt64)), .second, .val (.double (0 : UInt64)), .second, .val (.int (4 : Int32)), .unset, .unset] [(.ref ra)])) _
    refine XS.iload X0.here hx rfl (hb hby d1s5_18) rfl ?_
    show Steps p.tables e below (s₁.setTop (mkF m 20 #[.val (.ref ra), .val (.double sd), .second, .val (.double (0 : UInt64)), .second, .val (.double (0 : UInt64)), .second, .val (.int (4 : Int32)), .unset, .unset] [(.int (4 : Int32)), (.ref ra)])) _
    refine X0.daload hx (j := (4 : Int32)) (v := (.double x4')) (by rw [e0]; exact Ar202.1) (State.isArrayOf_alike hZ.alike Ar202.2.1) Ar202.2.2 hin202 hat202 (g := (mkF m 20 #[.val (.ref ra), .val (.double sd), .second, .val (.double (0 : UInt64)), .second, .val (.double (0 : UInt64)), .second, .val (.int (4 : Int32)), .unset, .unset] [(.int (4 : Int32)), (.ref ra)])) rfl rfl (hb hby d1s5_20) _ ?_
    show Steps p.tables e below (s₁.setTop (mkF m 21 #[.val (.ref ra), .val (.double sd), .second, .val (.double (0 : UInt64)), .second, .val (.double (0 : UInt64)), .second, .val (.int (4 : Int32)), .unset, .unset] [(.double x4')])) _
    refine X0.ldc2DoubleC hx hown (mvT hZ (hw _ (List.mem_of_getElem? (i := 13) rfl))) (g := (mkF m 21 #[.val (.ref ra), .val (.double sd), .second, .val (.double (0 : UInt64)), .second, .val (.double (0 : UInt64)), .second, .val (.int (4 : Int32)), .unset, .unset] [(.double x4')])) rfl (hb hby d1s5_21) _ ?_
    show Steps p.tables e below (s₁.setTop (mkF m 24 #[.val (.ref ra), .val (.double sd), .second, .val (.double (0 : UInt64)), .second, .val (.double (0 : UInt64)), .second, .val (.int (4 : Int32)), .unset, .unset] [(.double (4611686018427387904 : UInt64)), (.double x4')])) _
    refine XS.dloadN X0.here hx rfl (hb hby d1s5_24) rfl ?_
    show Steps p.tables e below (s₁.setTop (mkF m 25 #[.val (.ref ra), .val (.double sd), .second, .val (.double (0 : UInt64)), .second, .val (.double (0 : UInt64)), .second, .val (.int (4 : Int32)), .unset, .unset] [(.double sd), (.double (4611686018427387904 : UInt64)), (.double x4')])) _
    refine XS.dmulS X0.here hx rfl (hb hby d1s5_25) rfl nn3 v3 ?_
    show Steps p.tables e below (s₁.setTop (mkF m 26 #[.val (.ref ra), .val (.double sd), .second, .val (.double (0 : UInt64)), .second, .val (.double (0 : UInt64)), .second, .val (.int (4 : Int32)), .unset, .unset] [(.double d3), (.double x4')])) _
    refine XS.dloadN X0.here hx rfl (hb hby d1s5_26) rfl ?_
    show Steps p.tables e below (s₁.setTop (mkF m 27 #[.val (.ref ra), .val (.double sd), .second, .val (.double (0 : UInt64)), .second, .val (.double (0 : UInt64)), .second, .val (.int (4 : Int32)), .unset, .unset] [(.double (0 : UInt64)), (.double d3), (.double x4')])) _
    refine XS.dmulS X0.here hx rfl (hb hby d1s5_27) rfl nn4 v4 ?_
    show Steps p.tables e below (s₁.setTop (mkF m 28 #[.val (.ref ra), .val (.double sd), .second, .val (.double (0 : UInt64)), .second, .val (.double (0 : UInt64)), .second, .val (.int (4 : Int32)), .unset, .unset] [(.double d4), (.double x4')])) _
    refine XS.daddS X0.here hx rfl (hb hby d1s5_28) rfl nn5 v5 ?_
    show Steps p.tables e below (s₁.setTop (mkF m 29 #[.val (.ref ra), .val (.double sd), .second, .val (.double (0 : UInt64)), .second, .val (.double (0 : UInt64)), .second, .val (.int (4 : Int32)), .unset, .unset] [(.double d5)])) _
    refine XS.dload X0.here hx rfl (hb hby d1s5_29) rfl ?_
    show Steps p.tables e below (s₁.setTop (mkF m 31 #[.val (.ref ra), .val (.double sd), .second, .val (.double (0 : UInt64)), .second, .val (.double (0 : UInt64)), .second, .val (.int (4 : Int32)), .unset, .unset] [(.double (0 : UInt64)), (.double d5)])) _
    refine XS.dsubS X0.here hx rfl (hb hby d1s5_31) rfl nn6 v6 ?_
    show Steps p.tables e below (s₁.setTop (mkF m 32 #[.val (.ref ra), .val (.double sd), .second, .val (.double (0 : UInt64)), .second, .val (.double (0 : UInt64)), .second, .val (.int (4 : Int32)), .unset, .unset] [(.double d6)])) _
    refine XS.dstore X0.here hx rfl (hb hby d1s5_32) rfl (l' := #[.val (.ref ra), .val (.double sd), .second, .val (.double (0 : UInt64)), .second, .val (.double (0 : UInt64)), .second, .val (.int (4 : Int32)), .val (.double d6), .second]) rfl ?_
    show Steps p.tables e below (s₁.setTop (mkF m 34 #[.val (.ref ra), .val (.double sd), .second, .val (.double (0 : UInt64)), .second, .val (.double (0 : UInt64)), .second, .val (.int (4 : Int32)), .val (.double d6), .second] [])) _
    refine XS.dloadN X0.here hx rfl (hb hby d1s5_34) rfl ?_
    show Steps p.tables e below (s₁.setTop (mkF m 35 #[.val (.ref ra), .val (.double sd), .second, .val (.double (0 : UInt64)), .second, .val (.double (0 : UInt64)), .second, .val (.int (4 : Int32)), .val (.double d6), .second] [(.double (0 : UInt64))])) _
    refine XS.dstore X0.here hx rfl (hb hby d1s5_35) rfl (l' := #[.val (.ref ra), .val (.double sd), .second, .val (.double (0 : UInt64)), .second, .val (.double (0 : UInt64)), .second, .val (.int (4 : Int32)), .val (.double d6), .second]) rfl ?_
    show Steps p.tables e below (s₁.setTop (mkF m 37 #[.val (.ref ra), .val (.double sd), .second, .val (.double (0 : UInt64)), .second, .val (.double (0 : UInt64)), .second, .val (.int (4 : Int32)), .val (.double d6), .second] [])) _
    refine XS.dload X0.here hx rfl (hb hby d1s5_37) rfl ?_
    show Steps p.tables e below (s₁.setTop (mkF m 39 #[.val (.ref ra), .val (.double sd), .second, .val (.double (0 : UInt64)), .second, .val (.double (0 : UInt64)), .second, .val (.int (4 : Int32)), .val (.double d6), .second] [(.double d6)])) _
    refine XS.dstoreN X0.here hx rfl (hb hby d1s5_39) rfl (l' := #[.val (.ref ra), .val (.double sd), .second, .val (.double d6), .second, .val (.double (0 : UInt64)), .second, .val (.int (4 : Int32)), .val (.double d6), .second]) rfl ?_
    show Steps p.tables e below (s₁.setTop (mkF m 40 #[.val (.ref ra), .val (.double sd), .second, .val (.double d6), .second, .val (.double (0 : UInt64)), .second, .val (.int (4 : Int32)), .val (.double d6), .second] [])) _
    refine XS.iinc X0.here hx rfl (hb hby d1s5_40) rfl (l' := #[.val (.ref ra), .val (.double sd), .second, .val (.double d6), .second, .val (.double (0 : UInt64)), .second, .val (.int (3 : Int32)), .val (.double d6), .second]) rfl ?_
    show Steps p.tables e below (s₁.setTop (mkF m 43 #[.val (.ref ra), .val (.double sd), .second, .val (.double d6), .second, .val (.double (0 : UInt64)), .second, .val (.int (3 : Int32)), .val (.double d6), .second] [])) _
    refine XS.goto X0.here hx rfl (pc0 := 43) (pc' := 11) rfl (hb hby d1s5_43) (by decide) (by decide) ?_
    show Steps p.tables e below (s₁.setTop (mkF m 11 #[.val (.ref ra), .val (.double sd), .second, .val (.double d6), .second, .val (.double (0 : UInt64)), .second, .val (.int (3 : Int32)), .val (.double d6), .second] [])) _
    refine XS.iload X0.here hx rfl (hb hby d1s5_11) rfl ?_
    show Steps p.tables e below (s₁.setTop (mkF m 13 #[.val (.ref ra), .val (.double sd), .second, .val (.double d6), .second, .val (.double (0 : UInt64)), .second, .val (.int (3 : Int32)), .val (.double d6), .second] [(.int (3 : Int32))])) _
    refine XS.iconst X0.here hx rfl (hb hby d1s5_13) ?_
    show Steps p.tables e below (s₁.setTop (mkF m 14 #[.val (.ref ra), .val (.double sd), .second, .val (.double d6), .second, .val (.double (0 : UInt64)), .second, .val (.int (3 : Int32)), .val (.double d6), .second] [(.int (1 : Int32)), (.int (3 : Int32))])) _
    refine XS.icmpNo X0.here hx rfl (hb hby d1s5_14) rfl (flt (by decide : ¬ ((3 : Int32) < (1 : Int32)))).1 ?_
    show Steps p.tables e below (s₁.setTop (mkF m 17 #[.val (.ref ra), .val (.double sd), .second, .val (.double d6), .second, .val (.double (0 : UInt64)), .second, .val (.int (3 : Int32)), .val (.double d6), .second] [])) _
    refine XS.aloadN X0.here hx rfl (hb hby d1s5_17) rfl rfl ?_
    show Steps p.tables e below (s₁.setTop (mkF m 18 #[.val (.ref ra), .val (.double sd), .second, .val (.double d6), .second, .val (.double (0 : UInt64)), .second, .val (.int (3 : Int32)), .val (.double d6), .second] [(.ref ra)])) _
    refine XS.iload X0.here hx rfl (hb hby d1s5_18) rfl ?_
    show Steps p.tables e below (s₁.setTop (mkF m 20 #[.val (.ref ra), .val (.double sd), .second, .val (.double d6), .second, .val (.double (0 : UInt64)), .second, .val (.int (3 : Int32)), .val (.double d6), .second] [(.int (3 : Int32)), (.ref ra)])) _
    refine X0.daload hx (j := (3 : Int32)) (v := (.double x3')) (by rw [e0]; exact Ar207.1) (State.isArrayOf_alike hZ.alike Ar207.2.1) Ar207.2.2 hin207 hat207 (g := (mkF m 20 #[.val (.ref ra), .val (.double sd), .second, .val (.double d6), .second, .val (.double (0 : UInt64)), .second, .val (.int (3 : Int32)), .val (.double d6), .second] [(.int (3 : Int32)), (.ref ra)])) rfl rfl (hb hby d1s5_20) _ ?_
    show Steps p.tables e below (s₁.setTop (mkF m 21 #[.val (.ref ra), .val (.double sd), .second, .val (.double d6), .second, .val (.double (0 : UInt64)), .second, .val (.int (3 : Int32)), .val (.double d6), .second] [(.double x3')])) _
    refine X0.ldc2DoubleC hx hown (mvT hZ (hw _ (List.mem_of_getElem? (i := 13) rfl))) (g := (mkF m 21 #[.val (.ref ra), .val (.double sd), .second, .val (.double d6), .second, .val (.double (0 : UInt64)), .second, .val (.int (3 : Int32)), .val (.double d6), .second] [(.double x3')])) rfl (hb hby d1s5_21) _ ?_
    show Steps p.tables e below (s₁.setTop (mkF m 24 #[.val (.ref ra), .val (.double sd), .second, .val (.double d6), .second, .val (.double (0 : UInt64)), .second, .val (.int (3 : Int32)), .val (.double d6), .second] [(.double (4611686018427387904 : UInt64)), (.double x3')])) _
    refine XS.dloadN X0.here hx rfl (hb hby d1s5_24) rfl ?_
    show Steps p.tables e below (s₁.setTop (mkF m 25 #[.val (.ref ra), .val (.double sd), .second, .val (.double d6), .second, .val (.double (0 : UInt64)), .second, .val (.int (3 : Int32)), .val (.double d6), .second] [(.double sd), (.double (4611686018427387904 : UInt64)), (.double x3')])) _
    refine XS.dmulS X0.here hx rfl (hb hby d1s5_25) rfl nn8 v8 ?_
    show Steps p.tables e below (s₁.setTop (mkF m 26 #[.val (.ref ra), .val (.double sd), .second, .val (.double d6), .second, .val (.double (0 : UInt64)), .second, .val (.int (3 : Int32)), .val (.double d6), .second] [(.double d8), (.double x3')])) _
    refine XS.dloadN X0.here hx rfl (hb hby d1s5_26) rfl ?_
    show Steps p.tables e below (s₁.setTop (mkF m 27 #[.val (.ref ra), .val (.double sd), .second, .val (.double d6), .second, .val (.double (0 : UInt64)), .second, .val (.int (3 : Int32)), .val (.double d6), .second] [(.double d6), (.double d8), (.double x3')])) _
    refine XS.dmulS X0.here hx rfl (hb hby d1s5_27) rfl nn9 v9 ?_
    show Steps p.tables e below (s₁.setTop (mkF m 28 #[.val (.ref ra), .val (.double sd), .second, .val (.double d6), .second, .val (.double (0 : UInt64)), .second, .val (.int (3 : Int32)), .val (.double d6), .second] [(.double d9), (.double x3')])) _
    refine XS.daddS X0.here hx rfl (hb hby d1s5_28) rfl nn10 v10 ?_
    show Steps p.tables e below (s₁.setTop (mkF m 29 #[.val (.ref ra), .val (.double sd), .second, .val (.double d6), .second, .val (.double (0 : UInt64)), .second, .val (.int (3 : Int32)), .val (.double d6), .second] [(.double d10)])) _
    refine XS.dload X0.here hx rfl (hb hby d1s5_29) rfl ?_
    show Steps p.tables e below (s₁.setTop (mkF m 31 #[.val (.ref ra), .val (.double sd), .second, .val (.double d6), .second, .val (.double (0 : UInt64)), .second, .val (.int (3 : Int32)), .val (.double d6), .second] [(.double (0 : UInt64)), (.double d10)])) _
    refine XS.dsubS X0.here hx rfl (hb hby d1s5_31) rfl nn11 v11 ?_
    show Steps p.tables e below (s₁.setTop (mkF m 32 #[.val (.ref ra), .val (.double sd), .second, .val (.double d6), .second, .val (.double (0 : UInt64)), .second, .val (.int (3 : Int32)), .val (.double d6), .second] [(.double d11)])) _
    refine XS.dstore X0.here hx rfl (hb hby d1s5_32) rfl (l' := #[.val (.ref ra), .val (.double sd), .second, .val (.double d6), .second, .val (.double (0 : UInt64)), .second, .val (.int (3 : Int32)), .val (.double d11), .second]) rfl ?_
    show Steps p.tables e below (s₁.setTop (mkF m 34 #[.val (.ref ra), .val (.double sd), .second, .val (.double d6), .second, .val (.double (0 : UInt64)), .second, .val (.int (3 : Int32)), .val (.double d11), .second] [])) _
    refine XS.dloadN X0.here hx rfl (hb hby d1s5_34) rfl ?_
    show Steps p.tables e below (s₁.setTop (mkF m 35 #[.val (.ref ra), .val (.double sd), .second, .val (.double d6), .second, .val (.double (0 : UInt64)), .second, .val (.int (3 : Int32)), .val (.double d11), .second] [(.double d6)])) _
    refine XS.dstore X0.here hx rfl (hb hby d1s5_35) rfl (l' := #[.val (.ref ra), .val (.double sd), .second, .val (.double d6), .second, .val (.double d6), .second, .val (.int (3 : Int32)), .val (.double d11), .second]) rfl ?_
    show Steps p.tables e below (s₁.setTop (mkF m 37 #[.val (.ref ra), .val (.double sd), .second, .val (.double d6), .second, .val (.double d6), .second, .val (.int (3 : Int32)), .val (.double d11), .second] [])) _
    refine XS.dload X0.here hx rfl (hb hby d1s5_37) rfl ?_
    show Steps p.tables e below (s₁.setTop (mkF m 39 #[.val (.ref ra), .val (.double sd), .second, .val (.double d6), .second, .val (.double d6), .second, .val (.int (3 : Int32)), .val (.double d11), .second] [(.double d11)])) _
    refine XS.dstoreN X0.here hx rfl (hb hby d1s5_39) rfl (l' := #[.val (.ref ra), .val (.double sd), .second, .val (.double d11), .second, .val (.double d6), .second, .val (.int (3 : Int32)), .val (.double d11), .second]) rfl ?_
    show Steps p.tables e below (s₁.setTop (mkF m 40 #[.val (.ref ra), .val (.double sd), .second, .val (.double d11), .second, .val (.double d6), .second, .val (.int (3 : Int32)), .val (.double d11), .second] [])) _
    refine XS.iinc X0.here hx rfl (hb hby d1s5_40) rfl (l' := #[.val (.ref ra), .val (.double sd), .second, .val (.double d11), .second, .val (.double d6), .second, .val (.int (2 : Int32)), .val (.double d11), .second]) rfl ?_
    show Steps p.tables e below (s₁.setTop (mkF m 43 #[.val (.ref ra), .val (.double sd), .second, .val (.double d11), .second, .val (.double d6), .second, .val (.int (2 : Int32)), .val (.double d11), .second] [])) _
    refine XS.goto X0.here hx rfl (pc0 := 43) (pc' := 11) rfl (hb hby d1s5_43) (by decide) (by decide) ?_
    show Steps p.tables e below (s₁.setTop (mkF m 11 #[.val (.ref ra), .val (.double sd), .second, .val (.double d11), .second, .val (.double d6), .second, .val (.int (2 : Int32)), .val (.double d11), .second] [])) _
    refine XS.iload X0.here hx rfl (hb hby d1s5_11) rfl ?_
    show Steps p.tables e below (s₁.setTop (mkF m 13 #[.val (.ref ra), .val (.double sd), .second, .val (.double d11), .second, .val (.double d6), .second, .val (.int (2 : Int32)), .val (.double d11), .second] [(.int (2 : Int32))])) _
    refine XS.iconst X0.here hx rfl (hb hby d1s5_13) ?_
    show Steps p.tables e below (s₁.setTop (mkF m 14 #[.val (.ref ra), .val (.double sd), .second, .val (.double d11), .second, .val (.double d6), .second, .val (.int (2 : Int32)), .val (.double d11), .second] [(.int (1 : Int32)), (.int (2 : Int32))])) _
    refine XS.icmpNo X0.here hx rfl (hb hby d1s5_14) rfl (flt (by decide : ¬ ((2 : Int32) < (1 : Int32)))).1 ?_
    show Steps p.tables e below (s₁.setTop (mkF m 17 #[.val (.ref ra), .val (.double sd), .second, .val (.double d11), .second, .val (.double d6), .second, .val (.int (2 : Int32)), .val (.double d11), .second] [])) _
    refine XS.aloadN X0.here hx rfl (hb hby d1s5_17) rfl rfl ?_
    show Steps p.tables e below (s₁.setTop (mkF m 18 #[.val (.ref ra), .val (.double sd), .second, .val (.double d11), .second, .val (.double d6), .second, .val (.int (2 : Int32)), .val (.double d11), .second] [(.ref ra)])) _
    refine XS.iload X0.here hx rfl (hb hby d1s5_18) rfl ?_
    show Steps p.tables e below (s₁.setTop (mkF m 20 #[.val (.ref ra), .val (.double sd), .second, .val (.double d11), .second, .val (.double d6), .second, .val (.int (2 : Int32)), .val (.double d11), .second] [(.int (2 : Int32)), (.ref ra)])) _
    refine X0.daload hx (j := (2 : Int32)) (v := (.double x2')) (by rw [e0]; exact Ar2012.1) (State.isArrayOf_alike hZ.alike Ar2012.2.1) Ar2012.2.2 hin2012 hat2012 (g := (mkF m 20 #[.val (.ref ra), .val (.double sd), .second, .val (.double d11), .second, .val (.double d6), .second, .val (.int (2 : Int32)), .val (.double d11), .second] [(.int (2 : Int32)), (.ref ra)])) rfl rfl (hb hby d1s5_20) _ ?_
    show Steps p.tables e below (s₁.setTop (mkF m 21 #[.val (.ref ra), .val (.double sd), .second, .val (.double d11), .second, .val (.double d6), .second, .val (.int (2 : Int32)), .val (.double d11), .second] [(.double x2')])) _
    refine X0.ldc2DoubleC hx hown (mvT hZ (hw _ (List.mem_of_getElem? (i := 13) rfl))) (g := (mkF m 21 #[.val (.ref ra), .val (.double sd), .second, .val (.double d11), .second, .val (.double d6), .second, .val (.int (2 : Int32)), .val (.double d11), .second] [(.double x2')])) rfl (hb hby d1s5_21) _ ?_
    show Steps p.tables e below (s₁.setTop (mkF m 24 #[.val (.ref ra), .val (.double sd), .second, .val (.double d11), .second, .val (.double d6), .second, .val (.int (2 : Int32)), .val (.double d11), .second] [(.double (4611686018427387904 : UInt64)), (.double x2')])) _
    refine XS.dloadN X0.here hx rfl (hb hby d1s5_24) rfl ?_
    show Steps p.tables e below (s₁.setTop (mkF m 25 #[.val (.ref ra), .val (.double sd), .second, .val (.double d11), .second, .val (.double d6), .second, .val (.int (2 : Int32)), .val (.double d11), .second] [(.double sd), (.double (4611686018427387904 : UInt64)), (.double x2')])) _
    refine XS.dmulS X0.here hx rfl (hb hby d1s5_25) rfl nn13 v13 ?_
    show Steps p.tables e below (s₁.setTop (mkF m 26 #[.val (.ref ra), .val (.double sd), .second, .val (.double d11), .second, .val (.double d6), .second, .val (.int (2 : Int32)), .val (.double d11), .second] [(.double d13), (.double x2')])) _
    refine XS.dloadN X0.here hx rfl (hb hby d1s5_26) rfl ?_
    show Steps p.tables e below (s₁.setTop (mkF m 27 #[.val (.ref ra), .val (.double sd), .second, .val (.double d11), .second, .val (.double d6), .second, .val (.int (2 : Int32)), .val (.double d11), .second] [(.double d11), (.double d13), (.double x2')])) _
    refine XS.dmulS X0.here hx rfl (hb hby d1s5_27) rfl nn14 v14 ?_
    show Steps p.tables e below (s₁.setTop (mkF m 28 #[.val (.ref ra), .val (.double sd), .second, .val (.double d11), .second, .val (.double d6), .second, .val (.int (2 : Int32)), .val (.double d11), .second] [(.double d14), (.double x2')])) _
    refine XS.daddS X0.here hx rfl (hb hby d1s5_28) rfl nn15 v15 ?_
    show Steps p.tables e below (s₁.setTop (mkF m 29 #[.val (.ref ra), .val (.double sd), .second, .val (.double d11), .second, .val (.double d6), .second, .val (.int (2 : Int32)), .val (.double d11), .second] [(.double d15)])) _
    refine XS.dload X0.here hx rfl (hb hby d1s5_29) rfl ?_
    show Steps p.tables e below (s₁.setTop (mkF m 31 #[.val (.ref ra), .val (.double sd), .second, .val (.double d11), .second, .val (.double d6), .second, .val (.int (2 : Int32)), .val (.double d11), .second] [(.double d6), (.double d15)])) _
    refine XS.dsubS X0.here hx rfl (hb hby d1s5_31) rfl nn16 v16 ?_
    show Steps p.tables e below (s₁.setTop (mkF m 32 #[.val (.ref ra), .val (.double sd), .second, .val (.double d11), .second, .val (.double d6), .second, .val (.int (2 : Int32)), .val (.double d11), .second] [(.double d16)])) _
    refine XS.dstore X0.here hx rfl (hb hby d1s5_32) rfl (l' := #[.val (.ref ra), .val (.double sd), .second, .val (.double d11), .second, .val (.double d6), .second, .val (.int (2 : Int32)), .val (.double d16), .second]) rfl ?_
    show Steps p.tables e below (s₁.setTop (mkF m 34 #[.val (.ref ra), .val (.double sd), .second, .val (.double d11), .second, .val (.double d6), .second, .val (.int (2 : Int32)), .val (.double d16), .second] [])) _
    refine XS.dloadN X0.here hx rfl (hb hby d1s5_34) rfl ?_
    show Steps p.tables e below (s₁.setTop (mkF m 35 #[.val (.ref ra), .val (.double sd), .second, .val (.double d11), .second, .val (.double d6), .second, .val (.int (2 : Int32)), .val (.double d16), .second] [(.double d11)])) _
    refine XS.dstore X0.here hx rfl (hb hby d1s5_35) rfl (l' := #[.val (.ref ra), .val (.double sd), .second, .val (.double d11), .second, .val (.double d11), .second, .val (.int (2 : Int32)), .val (.double d16), .second]) rfl ?_
    show Steps p.tables e below (s₁.setTop (mkF m 37 #[.val (.ref ra), .val (.double sd), .second, .val (.double d11), .second, .val (.double d11), .second, .val (.int (2 : Int32)), .val (.double d16), .second] [])) _
    refine XS.dload X0.here hx rfl (hb hby d1s5_37) rfl ?_
    show Steps p.tables e below (s₁.setTop (mkF m 39 #[.val (.ref ra), .val (.double sd), .second, .val (.double d11), .second, .val (.double d11), .second, .val (.int (2 : Int32)), .val (.double d16), .second] [(.double d16)])) _
    refine XS.dstoreN X0.here hx rfl (hb hby d1s5_39) rfl (l' := #[.val (.ref ra), .val (.double sd), .second, .val (.double d16), .second, .val (.double d11), .second, .val (.int (2 : Int32)), .val (.double d16), .second]) rfl ?_
    show Steps p.tables e below (s₁.setTop (mkF m 40 #[.val (.ref ra), .val (.double sd), .second, .val (.double d16), .second, .val (.double d11), .second, .val (.int (2 : Int32)), .val (.double d16), .second] [])) _
    refine XS.iinc X0.here hx rfl (hb hby d1s5_40) rfl (l' := #[.val (.ref ra), .val (.double sd), .second, .val (.double d16), .second, .val (.double d11), .second, .val (.int (1 : Int32)), .val (.double d16), .second]) rfl ?_
    show Steps p.tables e below (s₁.setTop (mkF m 43 #[.val (.ref ra), .val (.double sd), .second, .val (.double d16), .second, .val (.double d11), .second, .val (.int (1 : Int32)), .val (.double d16), .second] [])) _
    refine XS.goto X0.here hx rfl (pc0 := 43) (pc' := 11) rfl (hb hby d1s5_43) (by decide) (by decide) ?_
    show Steps p.tables e below (s₁.setTop (mkF m 11 #[.val (.ref ra), .val (.double sd), .second, .val (.double d16), .second, .val (.double d11), .second, .val (.int (1 : Int32)), .val (.double d16), .second] [])) _
    refine XS.iload X0.here hx rfl (hb hby d1s5_11) rfl ?_
    show Steps p.tables e below (s₁.setTop (mkF m 13 #[.val (.ref ra), .val (.double sd), .second, .val (.double d16), .second, .val (.double d11), .second, .val (.int (1 : Int32)), .val (.double d16), .second] [(.int (1 : Int32))])) _
    refine XS.iconst X0.here hx rfl (hb hby d1s5_13) ?_
    show Steps p.tables e below (s₁.setTop (mkF m 14 #[.val (.ref ra), .val (.double sd), .second, .val (.double d16), .second, .val (.double d11), .second, .val (.int (1 : Int32)), .val (.double d16), .second] [(.int (1 : Int32)), (.int (1 : Int32))])) _
    refine XS.icmpNo X0.here hx rfl (hb hby d1s5_14) rfl (flt (by decide : ¬ ((1 : Int32) < (1 : Int32)))).1 ?_
    show Steps p.tables e below (s₁.setTop (mkF m 17 #[.val (.ref ra), .val (.double sd), .second, .val (.double d16), .second, .val (.double d11), .second, .val (.int (1 : Int32)), .val (.double d16), .second] [])) _
    refine XS.aloadN X0.here hx rfl (hb hby d1s5_17) rfl rfl ?_
    show Steps p.tables e below (s₁.setTop (mkF m 18 #[.val (.ref ra), .val (.double sd), .second, .val (.double d16), .second, .val (.double d11), .second, .val (.int (1 : Int32)), .val (.double d16), .second] [(.ref ra)])) _
    refine XS.iload X0.here hx rfl (hb hby d1s5_18) rfl ?_
    show Steps p.tables e below (s₁.setTop (mkF m 20 #[.val (.ref ra), .val (.double sd), .second, .val (.double d16), .second, .val (.double d11), .second, .val (.int (1 : Int32)), .val (.double d16), .second] [(.int (1 : Int32)), (.ref ra)])) _
    refine X0.daload hx (j := (1 : Int32)) (v := (.double x1')) (by rw [e0]; exact Ar2017.1) (State.isArrayOf_alike hZ.alike Ar2017.2.1) Ar2017.2.2 hin2017 hat2017 (g := (mkF m 20 #[.val (.ref ra), .val (.double sd), .second, .val (.double d16), .second, .val (.double d11), .second, .val (.int (1 : Int32)), .val (.double d16), .second] [(.int (1 : Int32)), (.ref ra)])) rfl rfl (hb hby d1s5_20) _ ?_
    show Steps p.tables e below (s₁.setTop (mkF m 21 #[.val (.ref ra), .val (.double sd), .second, .val (.double d16), .second, .val (.double d11), .second, .val (.int (1 : Int32)), .val (.double d16), .second] [(.double x1')])) _
    refine X0.ldc2DoubleC hx hown (mvT hZ (hw _ (List.mem_of_getElem? (i := 13) rfl))) (g := (mkF m 21 #[.val (.ref ra), .val (.double sd), .second, .val (.double d16), .second, .val (.double d11), .second, .val (.int (1 : Int32)), .val (.double d16), .second] [(.double x1')])) rfl (hb hby d1s5_21) _ ?_
    show Steps p.tables e below (s₁.setTop (mkF m 24 #[.val (.ref ra), .val (.double sd), .second, .val (.double d16), .second, .val (.double d11), .second, .val (.int (1 : Int32)), .val (.double d16), .second] [(.double (4611686018427387904 : UInt64)), (.double x1')])) _
    refine XS.dloadN X0.here hx rfl (hb hby d1s5_24) rfl ?_
    show Steps p.tables e below (s₁.setTop (mkF m 25 #[.val (.ref ra), .val (.double sd), .second, .val (.double d16), .second, .val (.double d11), .second, .val (.int (1 : Int32)), .val (.double d16), .second] [(.double sd), (.double (4611686018427387904 : UInt64)), (.double x1')])) _
    refine XS.dmulS X0.here hx rfl (hb hby d1s5_25) rfl nn18 v18 ?_
    show Steps p.tables e below (s₁.setTop (mkF m 26 #[.val (.ref ra), .val (.double sd), .second, .val (.double d16), .second, .val (.double d11), .second, .val (.int (1 : Int32)), .val (.double d16), .second] [(.double d18), (.double x1')])) _
    refine XS.dloadN X0.here hx rfl (hb hby d1s5_26) rfl ?_
    show Steps p.tables e below (s₁.setTop (mkF m 27 #[.val (.ref ra), .val (.double sd), .second, .val (.double d16), .second, .val (.double d11), .second, .val (.int (1 : Int32)), .val (.double d16), .second] [(.double d16), (.double d18), (.double x1')])) _
    refine XS.dmulS X0.here hx rfl (hb hby d1s5_27) rfl nn19 v19 ?_
    show Steps p.tables e below (s₁.setTop (mkF m 28 #[.val (.ref ra), .val (.double sd), .second, .val (.double d16), .second, .val (.double d11), .second, .val (.int (1 : Int32)), .val (.double d16), .second] [(.double d19), (.double x1')])) _
    refine XS.daddS X0.here hx rfl (hb hby d1s5_28) rfl nn20 v20 ?_
    show Steps p.tables e below (s₁.setTop (mkF m 29 #[.val (.ref ra), .val (.double sd), .second, .val (.double d16), .second, .val (.double d11), .second, .val (.int (1 : Int32)), .val (.double d16), .second] [(.double d20)])) _
    refine XS.dload X0.here hx rfl (hb hby d1s5_29) rfl ?_
    show Steps p.tables e below (s₁.setTop (mkF m 31 #[.val (.ref ra), .val (.double sd), .second, .val (.double d16), .second, .val (.double d11), .second, .val (.int (1 : Int32)), .val (.double d16), .second] [(.double d11), (.double d20)])) _
    refine XS.dsubS X0.here hx rfl (hb hby d1s5_31) rfl nn21 v21 ?_
    show Steps p.tables e below (s₁.setTop (mkF m 32 #[.val (.ref ra), .val (.double sd), .second, .val (.double d16), .second, .val (.double d11), .second, .val (.int (1 : Int32)), .val (.double d16), .second] [(.double d21)])) _
    refine XS.dstore X0.here hx rfl (hb hby d1s5_32) rfl (l' := #[.val (.ref ra), .val (.double sd), .second, .val (.double d16), .second, .val (.double d11), .second, .val (.int (1 : Int32)), .val (.double d21), .second]) rfl ?_
    show Steps p.tables e below (s₁.setTop (mkF m 34 #[.val (.ref ra), .val (.double sd), .second, .val (.double d16), .second, .val (.double d11), .second, .val (.int (1 : Int32)), .val (.double d21), .second] [])) _
    refine XS.dloadN X0.here hx rfl (hb hby d1s5_34) rfl ?_
    show Steps p.tables e below (s₁.setTop (mkF m 35 #[.val (.ref ra), .val (.double sd), .second, .val (.double d16), .second, .val (.double d11), .second, .val (.int (1 : Int32)), .val (.double d21), .second] [(.double d16)])) _
    refine XS.dstore X0.here hx rfl (hb hby d1s5_35) rfl (l' := #[.val (.ref ra), .val (.double sd), .second, .val (.double d16), .second, .val (.double d16), .second, .val (.int (1 : Int32)), .val (.double d21), .second]) rfl ?_
    show Steps p.tables e below (s₁.setTop (mkF m 37 #[.val (.ref ra), .val (.double sd), .second, .val (.double d16), .second, .val (.double d16), .second, .val (.int (1 : Int32)), .val (.double d21), .second] [])) _
    refine XS.dload X0.here hx rfl (hb hby d1s5_37) rfl ?_
    show Steps p.tables e below (s₁.setTop (mkF m 39 #[.val (.ref ra), .val (.double sd), .second, .val (.double d16), .second, .val (.double d16), .second, .val (.int (1 : Int32)), .val (.double d21), .second] [(.double d21)])) _
    refine XS.dstoreN X0.here hx rfl (hb hby d1s5_39) rfl (l' := #[.val (.ref ra), .val (.double sd), .second, .val (.double d21), .second, .val (.double d16), .second, .val (.int (1 : Int32)), .val (.double d21), .second]) rfl ?_
    show Steps p.tables e below (s₁.setTop (mkF m 40 #[.val (.ref ra), .val (.double sd), .second, .val (.double d21), .second, .val (.double d16), .second, .val (.int (1 : Int32)), .val (.double d21), .second] [])) _
    refine XS.iinc X0.here hx rfl (hb hby d1s5_40) rfl (l' := #[.val (.ref ra), .val (.double sd), .second, .val (.double d21), .second, .val (.double d16), .second, .val (.int (0 : Int32)), .val (.double d21), .second]) rfl ?_
    show Steps p.tables e below (s₁.setTop (mkF m 43 #[.val (.ref ra), .val (.double sd), .second, .val (.double d21), .second, .val (.double d16), .second, .val (.int (0 : Int32)), .val (.double d21), .second] [])) _
    refine XS.goto X0.here hx rfl (pc0 := 43) (pc' := 11) rfl (hb hby d1s5_43) (by decide) (by decide) ?_
    show Steps p.tables e below (s₁.setTop (mkF m 11 #[.val (.ref ra), .val (.double sd), .second, .val (.double d21), .second, .val (.double d16), .second, .val (.int (0 : Int32)), .val (.double d21), .second] [])) _
    refine XS.iload X0.here hx rfl (hb hby d1s5_11) rfl ?_
    show Steps p.tables e below (s₁.setTop (mkF m 13 #[.val (.ref ra), .val (.double sd), .second, .val (.double d21), .second, .val (.double d16), .second, .val (.int (0 : Int32)), .val (.double d21), .second] [(.int (0 : Int32))])) _
    refine XS.iconst X0.here hx rfl (hb hby d1s5_13) ?_
    show Steps p.tables e below (s₁.setTop (mkF m 14 #[.val (.ref ra), .val (.double sd), .second, .val (.double d21), .second, .val (.double d16), .second, .val (.int (0 : Int32)), .val (.double d21), .second] [(.int (1 : Int32)), (.int (0 : Int32))])) _
    refine XS.icmpYes X0.here hx rfl (pc0 := 14) (pc' := 46) rfl (hb hby d1s5_14) rfl (tlt (by decide : (0 : Int32) < (1 : Int32))).1 (by decide) (by decide) ?_
    show Steps p.tables e below (s₁.setTop (mkF m 46 #[.val (.ref ra), .val (.double sd), .second, .val (.double d21), .second, .val (.double d16), .second, .val (.int (0 : Int32)), .val (.double d21), .second] [])) _
    refine XS.aloadN X0.here hx rfl (hb hby d1s5_46) rfl rfl ?_
    show Steps p.tables e below (s₁.setTop (mkF m 47 #[.val (.ref ra), .val (.double sd), .second, .val (.double d21), .second, .val (.double d16), .second, .val (.int (0 : Int32)), .val (.double d21), .second] [(.ref ra)])) _
    refine XS.iconst X0.here hx rfl (hb hby d1s5_47) ?_
    show Steps p.tables e below (s₁.setTop (mkF m 48 #[.val (.ref ra), .val (.double sd), .second, .val (.double d21), .second, .val (.double d16), .second, .val (.int (0 : Int32)), .val (.double d21), .second] [(.int (0 : Int32)), (.ref ra)])) _
    refine X0.daload hx (j := (0 : Int32)) (v := (.double x0')) (by rw [e0]; exact Ar4822.1) (State.isArrayOf_alike hZ.alike Ar4822.2.1) Ar4822.2.2 hin4822 hat4822 (g := (mkF m 48 #[.val (.ref ra), .val (.double sd), .second, .val (.double d21), .second, .val (.double d16), .second, .val (.int (0 : Int32)), .val (.double d21), .second] [(.int (0 : Int32)), (.ref ra)])) rfl rfl (hb hby d1s5_48) _ ?_
    show Steps p.tables e below (s₁.setTop (mkF m 49 #[.val (.ref ra), .val (.double sd), .second, .val (.double d21), .second, .val (.double d16), .second, .val (.int (0 : Int32)), .val (.double d21), .second] [(.double x0')])) _
    refine XS.dloadN X0.here hx rfl (hb hby d1s5_49) rfl ?_
    show Steps p.tables e below (s₁.setTop (mkF m 50 #[.val (.ref ra), .val (.double sd), .second, .val (.double d21), .second, .val (.double d16), .second, .val (.int (0 : Int32)), .val (.double d21), .second] [(.double sd), (.double x0')])) _
    refine XS.dloadN X0.here hx rfl (hb hby d1s5_50) rfl ?_
    show Steps p.tables e below (s₁.setTop (mkF m 51 #[.val (.ref ra), .val (.double sd), .second, .val (.double d21), .second, .val (.double d16), .second, .val (.int (0 : Int32)), .val (.double d21), .second] [(.double d21), (.double sd), (.double x0')])) _
    refine XS.dmulS X0.here hx rfl (hb hby d1s5_51) rfl nn23 v23 ?_
    show Steps p.tables e below (s₁.setTop (mkF m 52 #[.val (.ref ra), .val (.double sd), .second, .val (.double d21), .second, .val (.double d16), .second, .val (.int (0 : Int32)), .val (.double d21), .second] [(.double d23), (.double x0')])) _
    refine XS.daddS X0.here hx rfl (hb hby d1s5_52) rfl nn24 v24 ?_
    show Steps p.tables e below (s₁.setTop (mkF m 53 #[.val (.ref ra), .val (.double sd), .second, .val (.double d21), .second, .val (.double d16), .second, .val (.int (0 : Int32)), .val (.double d21), .second] [(.double d24)])) _
    refine XS.dload X0.here hx rfl (hb hby d1s5_53) rfl ?_
    show Steps p.tables e below (s₁.setTop (mkF m 55 #[.val (.ref ra), .val (.double sd), .second, .val (.double d21), .second, .val (.double d16), .second, .val (.int (0 : Int32)), .val (.double d21), .second] [(.double d16), (.double d24)])) _
    refine XS.dsubS X0.here hx rfl (hb hby d1s5_55) rfl nn25 v25 ?_
    show Steps p.tables e below (s₁.setTop (mkF m 56 #[.val (.ref ra), .val (.double sd), .second, .val (.double d21), .second, .val (.double d16), .second, .val (.int (0 : Int32)), .val (.double d21), .second] [(.double d25)])) _
    exact retOut X0 hx Bd.returns rfl (Or.inr (Or.inr (Or.inl ⟨rfl, rfl, _, rfl⟩))) (hb hby d1s5_56) hr
  · show Q1s5 Z ra sd x0' x1' x2' x3' x4' M c0 c1 c2 c3 c4 h0 n0 _ s₁.heap _
    rw [e0]
    exact ⟨_, rfl, N0, rfl, D25, B25⟩
theorem pn_0 : plainName "com/example/matchstat/matchstat/ChebyshevSumPinLaw" = true := by first | (simp [plainName, overriddenIn]; done) | decide +kernel
theorem pd0_0 : parseMethodDescriptor "([DD)D" = some ⟨[(.array .double), .double], some .double⟩ := by decide +kernel
theorem ef_0 (m : MethodId) (x0 : Int32) (x1 : Int32) (x2 : Int32) (x3 : Int32) (x4 : Int32) (x5 : Int32) : entryFrame m #[(.int x0), (.int x1), (.int x2), (.int x3), (.int x4), (.int x5)] maxLocals = mkF m 0 #[.val (.int x0), .val (.int x1), .val (.int x2), .val (.int x3), .val (.int x4), .val (.int x5), .unset, .unset, .unset, .unset, .unset, .unset, .unset, .unset, .unset, .unset, .unset, .unset, .unset, .unset, .unset, .unset, .unset, .unset] [] := by first | (simp [entryFrame, mkF, argsToLocals, Value.category, maxLocals]; done) | rfl
def Q0 (Z : State) (z0 : Int32) (z1 : Int32) (z2 : Int32) (z3 : Int32) (z4 : Int32) (z5 : Int32) (h0 : Heap) (n0 : Nat) (v : Option Value) (h : Heap) (L : List Loc) : Prop := v = some (.int (1 : Int32)) ∧ Fr n0 L
set_option maxRecDepth 65536 in
set_option maxHeartbeats 40000000 in
theorem rm0 (l : Launch) (Z : State) (a0 : Array Value) (hw : ∀ d ∈ tables_1, d.before a0 Z = true) (ws : List Jvm.Cond) (z0 : Int32) (z1 : Int32) (z2 : Int32) (z3 : Int32) (z4 : Int32) (z5 : Int32) (h0 : Heap) (n0 : Nat) (Z0 : n0 ≤ h0.size)  :
    MetFree l x (head1 (Jvm.Cond.code x code maxLocals ret :: ws) room_1) (fun ar U => ar = #[(.int z0), (.int z1), (.int z2), (.int z3), (.int z4), (.int z5)] ∧ Z.Warmed39 U.vm ∧ U.heap = h0) (fun _ _ _ _ _ => True) (fun _ U o U' => ∃ v L, o = .returned v ∧ Q0 Z z0 z1 z2 z3 z4 z5 h0 n0 v U'.heap L ∧ FrameEnd U o U' L room_1.cells room_1.slots) := by
  refine MetFree.of_bodySF (plainFor_of_name pn_0) hisR ?_
  intro p e s m args below meth c s₁ Bd hml0 hP hK
  obtain ⟨rfl, hZ, hh⟩ := hP
  have hx := Bd.exec
  have hby := Bd.bytes
  have hml : c.maxLocals = 24 := hml0
  have hown : s.vm.findClass "com/example/matchstat/matchstat/ChebyshevSumPinLaw" = some m.cls := findClass_of_methodNamed Bd.named
  have hnm := (name_of_methodNamed Bd.named Bd.method).1
  have X0 : Stand p l e room_1 s m #[(.int z0), (.int z1), (.int z2), (.int z3), (.int z4), (.int z5)] below meth c s₁ [] 0 0 := Stand.of_body Bd
  have e0 : s₁.heap = h0 := by rw [← hh, Bd.state]; rfl
  have N0 := Fr.nil n0
  have K0 : Keep h0 h0 [] := Keep.refl h0 _
  have pre0 : ∀ t, Steps p.tables e below (s₁.setTop (mkF m 0 #[.val (.int z0), .val (.int z1), .val (.int z2), .val (.int z3), .val (.int z4), .val (.int z5), .unset, .unset, .unset, .unset, .unset, .unset, .unset, .unset, .unset, .unset, .unset, .unset, .unset, .unset, .unset, .unset, .unset, .unset] [])) t → Steps p.tables e below (s₁.setTop (entryFrame m #[(.int z0), (.int z1), (.int z2), (.int z3), (.int z4), (.int z5)] maxLocals)) t := fun t k => castTop (ef_0 m z0 z1 z2 z3 z4 z5) k
  have pre1 : ∀ t, Steps p.tables e below (s₁.setTop (mkF m 10 #[.val (.int z0), .val (.int z1), .val (.int z2), .val (.int z3), .val (.int z4), .val (.int z5), .val (.int (((z0 &&& (7 : Int32)) % (5 : Int32)) + (1 : Int32))), .unset, .unset, .unset, .unset, .unset, .unset, .unset, .unset, .unset, .unset, .unset, .unset, .unset, .unset, .unset, .unset, .unset] [])) t → Steps p.tables e below (s₁.setTop (entryFrame m #[(.int z0), (.int z1), (.int z2), (.int z3), (.int z4), (.int z5)] maxLocals)) t := by
    intro t kt
    refine pre0 t ?_
    show Steps p.tables e below (s₁.setTop (mkF m 0 #[.val (.int z0), .val (.int z1), .val (.int z2), .val (.int z3), .val (.int z4), .val (.int z5), .unset, .unset, .unset, .unset, .unset, .unset, .unset, .unset, .unset, .unset, .unset, .unset, .unset, .unset, .unset, .unset, .unset, .unset] [])) _
    refine XS.iloadN X0.here hx rfl (hb hby at_0) rfl ?_
    show Steps p.tables e below (s₁.setTop (mkF m 1 #[.val (.int z0), .val (.int z1), .val (.int z2), .val (.int z3), .val (.int z4), .val (.int z5), .unset, .unset, .unset, .unset, .unset, .unset, .unset, .unset, .unset, .unset, .unset, .unset, .unset, .unset, .unset, .unset, .unset, .unset] [(.int z0)])) _
    refine XS.bipush X0.here hx rfl (hb hby at_1) ?_
    show Steps p.tables e below (s₁.setTop (mkF m 3 #[.val (.int z0), .val (.int z1), .val (.int z2), .val (.int z3), .val (.int z4), .val (.int z5), .unset, .unset, .unset, .unset, .unset, .unset, .unset, .unset, .unset, .unset, .unset, .unset, .unset, .unset, .unset, .unset, .unset, .unset] [(.int (7 : Int32)), (.int z0)])) _
    refine XS.iand X0.here hx rfl (hb hby at_3) rfl ?_
    show Steps p.tables e below (s₁.setTop (mkF m 4 #[.val (.int z0), .val (.int z1), .val (.int z2), .val (.int z3), .val (.int z4), .val (.int z5), .unset, .unset, .unset, .unset, .unset, .unset, .unset, .unset, .unset, .unset, .unset, .unset, .unset, .unset, .unset, .unset, .unset, .unset] [(.int (z0 &&& (7 : Int32)))])) _
    refine XS.iconst X0.here hx rfl (hb hby at_4) ?_
    show Steps p.tables e below (s₁.setTop (mkF m 5 #[.val (.int z0), .val (.int z1), .val (.int z2), .val (.int z3), .val (.int z4), .val (.int z5), .unset, .unset, .unset, .unset, .unset, .unset, .unset, .unset, .unset, .unset, .unset, .unset, .unset, .unset, .unset, .unset, .unset, .unset] [(.int (5 : Int32)), (.int (z0 &&& (7 : Int32)))])) _
    refine iremM X0 hx rfl (hb hby at_5) rfl (by decide) ?_
    show Steps p.tables e below (s₁.setTop (mkF m 6 #[.val (.int z0), .val (.int z1), .val (.int z2), .val (.int z3), .val (.int z4), .val (.int z5), .unset, .unset, .unset, .unset, .unset, .unset, .unset, .unset, .unset, .unset, .unset, .unset, .unset, .unset, .unset, .unset, .unset, .unset] [(.int ((z0 &&& (7 : Int32)) % (5 : Int32)))])) _
    refine XS.iconst X0.here hx rfl (hb hby at_6) ?_
    show Steps p.tables e below (s₁.setTop (mkF m 7 #[.val (.int z0), .val (.int z1), .val (.int z2), .val (.int z3), .val (.int z4), .val (.int z5), .unset, .unset, .unset, .unset, .unset, .unset, .unset, .unset, .unset, .unset, .unset, .unset, .unset, .unset, .unset, .unset, .unset, .unset] [(.int (1 : Int32)), (.int ((z0 &&& (7 : Int32)) % (5 : Int32)))])) _
    refine XS.iadd X0.here hx rfl (hb hby at_7) rfl ?_
    show Steps p.tables e below (s₁.setTop (mkF m 8 #[.val (.int z0), .val (.int z1), .val (.int z2), .val (.int z3), .val (.int z4), .val (.int z5), .unset, .unset, .unset, .unset, .unset, .unset, .unset, .unset, .unset, .unset, .unset, .unset, .unset, .unset, .unset, .unset, .unset, .unset] [(.int (((z0 &&& (7 : Int32)) % (5 : Int32)) + (1 : Int32)))])) _
    refine XS.istore X0.here hx rfl (hb hby at_8) rfl (l' := #[.val (.int z0), .val (.int z1), .val (.int z2), .val (.int z3), .val (.int z4), .val (.int z5), .val (.int (((z0 &&& (7 : Int32)) % (5 : Int32)) + (1 : Int32))), .unset, .unset, .unset, .unset, .unset, .unset, .unset, .unset, .unset, .unset, .unset, .unset, .unset, .unset, .unset, .unset, .unset]) rfl ?_
    exact kt
  obtain ⟨nv, h_nv⟩ : ∃ z : Int32, z = (((z0 &&& (7 : Int32)) % (5 : Int32)) + (1 : Int32)) := ⟨_, rfl⟩
  have pre2 : ∀ t, Steps p.tables e below (s₁.setTop (mkF m 10 #[.val (.int z0), .val (.int z1), .val (.int z2), .val (.int z3), .val (.int z4), .val (.int z5), .val (.int nv), .unset, .unset, .unset, .unset, .unset, .unset, .unset, .unset, .unset, .unset, .unset, .unset, .unset, .unset, .unset, .unset, .unset] [])) t → Steps p.tables e below (s₁.setTop (entryFrame m #[(.int z0), (.int z1), (.int z2), (.int z3), (.int z4), (.int z5)] maxLocals)) t := by rw [h_nv]; exact pre1
  have pre3 : ∀ t, Steps p.tables e below (s₁.setTop (mkF m 23 #[.val (.int z0), .val (.int z1), .val (.int z2), .val (.int z3), .val (.int z4), .val (.int z5), .val (.int nv), .val (.long (((((z0.toUInt32 >>> ((3 : Int32) &&& 31).toUInt32).toInt32) % (17 : Int32)).toInt64) - (8 : Int64))), .second, .unset, .unset, .unset, .unset, .unset, .unset, .unset, .unset, .unset, .unset, .unset, .unset, .unset, .unset, .unset] [])) t → Steps p.tables e below (s₁.setTop (entryFrame m #[(.int z0), (.int z1), (.int z2), (.int z3), (.int z4), (.int z5)] maxLocals)) t := by
    intro t kt
    refine pre2 t ?_
    show Steps p.tables e below (s₁.setTop (mkF m 10 #[.val (.int z0), .val (.int z1), .val (.int z2), .val (.int z3), .val (.int z4), .val (.int z5), .val (.int nv), .unset, .unset, .unset, .unset, .unset, .unset, .unset, .unset, .unset, .unset, .unset, .unset, .unset, .unset, .unset, .unset, .unset] [])) _
    refine XS.iloadN X0.here hx rfl (hb hby at_10) rfl ?_
    show Steps p.tables e below (s₁.setTop (mkF m 11 #[.val (.int z0), .val (.int z1), .val (.int z2), .val (.int z3), .val (.int z4), .val (.int z5), .val (.int nv), .unset, .unset, .unset, .unset, .unset, .unset, .unset, .unset, .unset, .unset, .unset, .unset, .unset, .unset, .unset, .unset, .unset] [(.int z0)])) _
    refine XS.iconst X0.here hx rfl (hb hby at_11) ?_
    show Steps p.tables e below (s₁.setTop (mkF m 12 #[.val (.int z0), .val (.int z1), .val (.int z2), .val (.int z3), .val (.int z4), .val (.int z5), .val (.int nv), .unset, .unset, .unset, .unset, .unset, .unset, .unset, .unset, .unset, .unset, .unset, .unset, .unset, .unset, .unset, .unset, .unset] [(.int (3 : Int32)), (.int z0)])) _
    refine XS.iushr X0.here hx rfl (hb hby at_12) rfl ?_
    show Steps p.tables e below (s₁.setTop (mkF m 13 #[.val (.int z0), .val (.int z1), .val (.int z2), .val (.int z3), .val (.int z4), .val (.int z5), .val (.int nv), .unset, .unset, .unset, .unset, .unset, .unset, .unset, .unset, .unset, .unset, .unset, .unset, .unset, .unset, .unset, .unset, .unset] [(.int ((z0.toUInt32 >>> ((3 : Int32) &&& 31).toUInt32).toInt32))])) _
    refine XS.bipush X0.here hx rfl (hb hby at_13) ?_
    show Steps p.tables e below (s₁.setTop (mkF m 15 #[.val (.int z0), .val (.int z1), .val (.int z2), .val (.int z3), .val (.int z4), .val (.int z5), .val (.int nv), .unset, .unset, .unset, .unset, .unset, .unset, .unset, .unset, .unset, .unset, .unset, .unset, .unset, .unset, .unset, .unset, .unset] [(.int (17 : Int32)), (.int ((z0.toUInt32 >>> ((3 : Int32) &&& 31).toUInt32).toInt32))])) _
    refine iremM X0 hx rfl (hb hby at_15) rfl (by decide) ?_
    show Steps p.tables e below (s₁.setTop (mkF m 16 #[.val (.int z0), .val (.int z1), .val (.int z2), .val (.int z3), .val (.int z4), .val (.int z5), .val (.int nv), .unset, .unset, .unset, .unset, .unset, .unset, .unset, .unset, .unset, .unset, .unset, .unset, .unset, .unset, .unset, .unset, .unset] [(.int (((z0.toUInt32 >>> ((3 : Int32) &&& 31).toUInt32).toInt32) % (17 : Int32)))])) _
    refine XS.i2l X0.here hx rfl (hb hby at_16) rfl ?_
    show Steps p.tables e below (s₁.setTop (mkF m 17 #[.val (.int z0), .val (.int z1), .val (.int z2), .val (.int z3), .val (.int z4), .val (.int z5), .val (.int nv), .unset, .unset, .unset, .unset, .unset, .unset, .unset, .unset, .unset, .unset, .unset, .unset, .unset, .unset, .unset, .unset, .unset] [(.long ((((z0.toUInt32 >>> ((3 : Int32) &&& 31).toUInt32).toInt32) % (17 : Int32)).toInt64))])) _
    refine X0.ldc2Long hx hown (mvT hZ (hw _ (List.mem_of_getElem? (i := 0) rfl))) (g := (mkF m 17 #[.val (.int z0), .val (.int z1), .val (.int z2), .val (.int z3), .val (.int z4), .val (.int z5), .val (.int nv), .unset, .unset, .unset, .unset, .unset, .unset, .unset, .unset, .unset, .unset, .unset, .unset, .unset, .unset, .unset, .unset, .unset] [(.long ((((z0.toUInt32 >>> ((3 : Int32) &&& 31).toUInt32).toInt32) % (17 : Int32)).toInt64))])) rfl (hb hby at_17) _ ?_
    show Steps p.tables e below (s₁.setTop (mkF m 20 #[.val (.int z0), .val (.int z1), .val (.int z2), .val (.int z3), .val (.int z4), .val (.int z5), .val (.int nv), .unset, .unset, .unset, .unset, .unset, .unset, .unset, .unset, .unset, .unset, .unset, .unset, .unset, .unset, .unset, .unset, .unset] [(.long (8 : Int64)), (.long ((((z0.toUInt32 >>> ((3 : Int32) &&& 31).toUInt32).toInt32) % (17 : Int32)).toInt64))])) _
    refine XS.lsub X0.here hx rfl (hb hby at_20) rfl ?_
    show Steps p.tables e below (s₁.setTop (mkF m 21 #[.val (.int z0), .val (.int z1), .val (.int z2), .val (.int z3), .val (.int z4), .val (.int z5), .val (.int nv), .unset, .unset, .unset, .unset, .unset, .unset, .unset, .unset, .unset, .unset, .unset, .unset, .unset, .unset, .unset, .unset, .unset] [(.long (((((z0.toUInt32 >>> ((3 : Int32) &&& 31).toUInt32).toInt32) % (17 : Int32)).toInt64) - (8 : Int64)))])) _
    refine XS.lstore X0.here hx rfl (hb hby at_21) rfl (l' := #[.val (.int z0), .val (.int z1), .val (.int z2), .val (.int z3), .val (.int z4), .val (.int z5), .val (.int nv), .val (.long (((((z0.toUInt32 >>> ((3 : Int32) &&& 31).toUInt32).toInt32) % (17 : Int32)).toInt64) - (8 : Int64))), .second, .unset, .unset, .unset, .unset, .unset, .unset, .unset, .unset, .unset, .unset, .unset, .unset, .unset, .unset, .unset]) rfl ?_
    exact kt
  obtain ⟨mm, h_mm⟩ : ∃ z : Int64, z = (((((z0.toUInt32 >>> ((3 : Int32) &&& 31).toUInt32).toInt32) % (17 : Int32)).toInt64) - (8 : Int64)) := ⟨_, rfl⟩
  have pre4 : ∀ t, Steps p.tables e below (s₁.setTop (mkF m 23 #[.val (.int z0), .val (.int z1), .val (.int z2), .val (.int z3), .val (.int z4), .val (.int z5), .val (.int nv), .val (.long mm), .second, .unset, .unset, .unset, .unset, .unset, .unset, .unset, .unset, .unset, .unset, .unset, .unset, .unset, .unset, .unset] [])) t → Steps p.tables e below (s₁.setTop (entryFrame m #[(.int z0), (.int z1), (.int z2), (.int z3), (.int z4), (.int z5)] maxLocals)) t := by rw [h_mm]; exact pre3
  have hL : own_L mm mm.toInt 8 := by
    rw [h_mm]
    exact own_m _
  have l5 : own_L mm mm.toInt 8 := hL
  have B6 : (mm.toInt : Int).natAbs ≤ 8 := l5.2
  obtain ⟨d6, v6⟩ : ∃ z : UInt64, FP.l2d mm = z := ⟨_, rfl⟩
  have D6 : own_Dy 0 mm.toInt d6 := by
    rw [← v6]
    exact own_L_d l5 (by decide)
  have nn6 : Jvm.Free.Fl.NoNaN64 (FP.l2d mm) := by
    rw [v6]
    exact Jvm.Free.Fl.val64_no.mpr (own_Dy_num D6)
  have B7 : (mm.toInt : Int).natAbs ≤ 8 := B6
  obtain ⟨d7, v7⟩ : ∃ z : UInt64, FP.ddiv d6 (4620693217682128896 : UInt64) = z := ⟨_, rfl⟩
  have D7 : own_Dy 3 mm.toInt d7 := by
    rw [← v7]
    exact own_Dy_div8 D6 (Nat.le_trans B7 (by decide))
  have nn7 : Jvm.Free.Fl.NoNaN64 (FP.ddiv d6 (4620693217682128896 : UInt64)) := by
    rw [v7]
    exact Jvm.Free.Fl.val64_no.mpr (own_Dy_num D7)
  have pre8 : ∀ t, Steps p.tables e below (s₁.setTop (mkF m 35 #[.val (.int z0), .val (.int z1), .val (.int z2), .val (.int z3), .val (.int z4), .val (.int z5), .val (.int nv), .val (.long mm), .second, .val (.double d7), .second, .unset, .unset, .unset, .unset, .unset, .unset, .unset, .unset, .unset, .unset, .unset, .unset, .unset] [(.int (1 : Int32)), (.int nv)])) t → Steps p.tables e below (s₁.setTop (entryFrame m #[(.int z0), (.int z1), (.int z2), (.int z3), (.int z4), (.int z5)] maxLocals)) t := by
    intro t kt
    refine pre4 t ?_
    show Steps p.tables e below (s₁.setTop (mkF m 23 #[.val (.int z0), .val (.int z1), .val (.int z2), .val (.int z3), .val (.int z4), .val (.int z5), .val (.int nv), .val (.long mm), .second, .unset, .unset, .unset, .unset, .unset, .unset, .unset, .unset, .unset, .unset, .unset, .unset, .unset, .unset, .unset] [])) _
    refine XS.lload X0.here hx rfl (hb hby at_23) rfl ?_
    show Steps p.tables e below (s₁.setTop (mkF m 25 #[.val (.int z0), .val (.int z1), .val (.int z2), .val (.int z3), .val (.int z4), .val (.int z5), .val (.int nv), .val (.long mm), .second, .unset, .unset, .unset, .unset, .unset, .unset, .unset, .unset, .unset, .unset, .unset, .unset, .unset, .unset, .unset] [(.long mm)])) _
    refine XS.l2dS X0.here hx rfl (hb hby at_25) rfl v6 ?_
    show Steps p.tables e below (s₁.setTop (mkF m 26 #[.val (.int z0), .val (.int z1), .val (.int z2), .val (.int z3), .val (.int z4), .val (.int z5), .val (.int nv), .val (.long mm), .second, .unset, .unset, .unset, .unset, .unset, .unset, .unset, .unset, .unset, .unset, .unset, .unset, .unset, .unset, .unset] [(.double d6)])) _
    refine X0.ldc2DoubleC hx hown (mvT hZ (hw _ (List.mem_of_getElem? (i := 1) rfl))) (g := (mkF m 26 #[.val (.int z0), .val (.int z1), .val (.int z2), .val (.int z3), .val (.int z4), .val (.int z5), .val (.int nv), .val (.long mm), .second, .unset, .unset, .unset, .unset, .unset, .unset, .unset, .unset, .unset, .unset, .unset, .unset, .unset, .unset, .unset] [(.double d6)])) rfl (hb hby at_26) _ ?_
    show Steps p.tables e below (s₁.setTop (mkF m 29 #[.val (.int z0), .val (.int z1), .val (.int z2), .val (.int z3), .val (.int z4), .val (.int z5), .val (.int nv), .val (.long mm), .second, .unset, .unset, .unset, .unset, .unset, .unset, .unset, .unset, .unset, .unset, .unset, .unset, .unset, .unset, .unset] [(.double (4620693217682128896 : UInt64)), (.double d6)])) _
    refine XS.ddivS X0.here hx rfl (hb hby at_29) rfl nn7 v7 ?_
    show Steps p.tables e below (s₁.setTop (mkF m 30 #[.val (.int z0), .val (.int z1), .val (.int z2), .val (.int z3), .val (.int z4), .val (.int z5), .val (.int nv), .val (.long mm), .second, .unset, .unset, .unset, .unset, .unset, .unset, .unset, .unset, .unset, .unset, .unset, .unset, .unset, .unset, .unset] [(.double d7)])) _
    refine XS.dstore X0.here hx rfl (hb hby at_30) rfl (l' := #[.val (.int z0), .val (.int z1), .val (.int z2), .val (.int z3), .val (.int z4), .val (.int z5), .val (.int nv), .val (.long mm), .second, .val (.double d7), .second, .unset, .unset, .unset, .unset, .unset, .unset, .unset, .unset, .unset, .unset, .unset, .unset, .unset]) rfl ?_
    show Steps p.tables e below (s₁.setTop (mkF m 32 #[.val (.int z0), .val (.int z1), .val (.int z2), .val (.int z3), .val (.int z4), .val (.int z5), .val (.int nv), .val (.long mm), .second, .val (.double d7), .second, .unset, .unset, .unset, .unset, .unset, .unset, .unset, .unset, .unset, .unset, .unset, .unset, .unset] [])) _
    refine XS.iload X0.here hx rfl (hb hby at_32) rfl ?_
    show Steps p.tables e below (s₁.setTop (mkF m 34 #[.val (.int z0), .val (.int z1), .val (.int z2), .val (.int z3), .val (.int z4), .val (.int z5), .val (.int nv), .val (.long mm), .second, .val (.double d7), .second, .unset, .unset, .unset, .unset, .unset, .unset, .unset, .unset, .unset, .unset, .unset, .unset, .unset] [(.int nv)])) _
    refine XS.iconst X0.here hx rfl (hb hby at_34) ?_
    exact kt
  by_cases hc35_9 : nv = (1 : Int32)
  · obtain ⟨T10, h10, k10, X10, e10, E10, A10, st10⟩ := newP X0 hx hZ (hw _ (List.mem_of_getElem? (i := 2) rfl)) e0 (g := (mkF m 39 #[.val (.int z0), .val (.int z1), .val (.int z2), .val (.int z3), .val (.int z4), .val (.int z5), .val (.int nv), .val (.long mm), .second, .val (.double d7), .second, .unset, .unset, .unset, .unset, .unset, .unset, .unset, .unset, .unset, .unset, .unset, .unset, .unset] [(.int (1 : Int32))])) rfl (hb hby at_39) rfl (by decide) (cap := 1) (by decide) (by decide) (by decide) (by decide)
    obtain ⟨b10, g10⟩ : ∃ z, z = h0.size := ⟨_, rfl⟩
    rw [← g10] at A10 st10
    have g_b10 : n0 ≤ b10 := Nat.le_trans Z0 (Nat.le_of_eq g10.symm)
    have sz_b10 : h0.size ≤ b10 := Nat.le_trans K0.1 (Nat.le_of_eq g10.symm)
    have Zs10 : n0 ≤ h10.size := Nat.le_trans Z0 E10.1
    have K10 : Keep h0 h10 [] := K0.ext E10
    have V_b10 : own_B Z h10 b10 [0] := own_B.new A10 rfl
    have B11 : (z1.toInt : Int).natAbs ≤ 2147483648 := own_Bi z1
    obtain ⟨d11, v11⟩ : ∃ z : UInt64, FP.i2d z1 = z := ⟨_, rfl⟩
    have D11 : own_Dy 0 z1.toInt d11 := by
      rw [← v11]
      exact own_Di z1
    have nn11 : Jvm.Free.Fl.NoNaN64 (FP.i2d z1) := by
      rw [v11]
      exact Jvm.Free.Fl.val64_no.mpr (own_Dy_num D11)
    obtain ⟨cl4512, Ar4512, Sq4512⟩ := V_b10
    have S4512 : cl4512.slots.size = ((1 : Int32)).toNatClampNeg := own_B.size Sq4512 rfl
    have hin4512 : ¬ ((0 : Int32) < 0 ∨ cl4512.slots.size ≤ ((0 : Int32)).toNatClampNeg) := inb_of S4512 ⟨by decide, by decide⟩
    obtain ⟨T13, h13, X13, e13, W13, st13⟩ := stD X10 hx hZ e10 Ar4512 (j := (0 : Int32)) hin4512 (g := (mkF m 45 #[.val (.int z0), .val (.int z1), .val (.int z2), .val (.int z3), .val (.int z4), .val (.int z5), .val (.int nv), .val (.long mm), .second, .val (.double d7), .second, .unset, .unset, .unset, .unset, .unset, .unset, .unset, .unset, .unset, .unset, .unset, .unset, .unset] [(.double d11), (.int (0 : Int32)), (.ref b10), (.ref b10)])) rfl rfl (hb hby at_45)
    have Zs13 : n0 ≤ h13.size := Nat.le_trans Zs10 (Keep.of_wr W13).1
    have K13 : Keep h0 h13 [] := K10.wr W13 (Or.inr sz_b10)
    have N13 := Fr.snoc X13 N0 g_b10
    have V_b10 : own_B Z h13 b10 [d11] := own_B.set Ar4512 Sq4512 W13 rfl
    obtain ⟨_, _, ⟨T14, L14, k14, n14⟩, -, X14, ⟨Lc14, hQ14, l14, y14, z14⟩, st14⟩ := Jvm.LawKit.callS X13 hx (y := (⟨"com/example/matchstat/matchstat/Chebyshev", "sum", "([DD)D"⟩ : MethodName)) hown (mvT hZ (hw _ (List.mem_of_getElem? (i := 8) rfl))) (mvT hZ (hw _ (List.mem_of_getElem? (i := 9) rfl))) (mvT hZ (hw _ (List.mem_of_getElem? (i := 10) rfl))) (mvT hZ (hw _ (List.mem_of_getElem? (i := 11) rfl))) (by decide) (backOf (W := 0) (rm1s1 l Z a0 hw [] b10 d7 d11 mm.toInt z1.toInt h13 n0 Zs13 V_b10 D7 B7 D11 B11) hZ (hw _ (List.mem_of_getElem? (i := 11) rfl)) (hw _ (List.mem_of_getElem? (i := 10) rfl)) (by decide) (by decide)) (g := (mkF m 320 #[.val (.int z0), .val (.int z1), .val (.int z2), .val (.int z3), .val (.int z4), .val (.int z5), .val (.int nv), .val (.long mm), .second, .val (.double d7), .second, .val (.ref b10), .val (.long ((64 : Int64) * mm)), .second, .val (.long ((((16 : Int64) * mm) * mm) - (512 : Int64))), .second, .val (.long (((((4 : Int64) * mm) * mm) * mm) - ((192 : Int64) * mm))), .second, .val (.long (((((mm * mm) * mm) * mm) - (((64 : Int64) * mm) * mm)) + (512 : Int64))), .second, .val (.long ((512 : Int64) * (z1.toInt64))), .second, .unset, .unset] [(.double d7), (.ref b10)])) rfl (by rw [hml]; rfl) (argsL := [(.ref b10), (.double d7)]) (rest := []) (lenOf pd0_0 rfl) rfl (by show 2 * 0 + _ ≤ _; exact Nat.le_of_eq rfl) (hb hby at_320) (fun _ _ => ⟨rfl, e13, (by decide : 1 + 0 ≤ _), (by decide : 1 + 0 ≤ _)⟩)
    dsimp only [Pt.U, Pt.locs, Pt.cells, Pt.slots] at X14 l14 y14 z14 st14 hQ14
    subst l14 y14 z14
    obtain ⟨r14, rfl, N14q, hh14, Dr14, Br14⟩ := hQ14
    have N14 := Fr.app N13 N14q
    have B15 : (((((z1.toInt * 8) + (mm.toInt * 0)) - (0 * 8)) * 64) : Int).natAbs ≤ 1099511627776 := (own_bmul (C := 1099511627776) Br14 (by decide : (64 : Int).natAbs ≤ 64) (by decide))
    obtain ⟨d15, v15⟩ : ∃ z : UInt64, FP.dmul r14 (4647714815446351872 : UInt64) = z := ⟨_, rfl⟩
    have D15 : own_Dy 0 ((((z1.toInt * 8) + (mm.toInt * 0)) - (0 * 8)) * 64) d15 := by
      rw [← v15]
      exact own_Dy_mul512 rfl (by decide) (own_Dy_up (K := 9) (p := 64) 6 rfl (by decide) Dr14) (Nat.le_trans B15 (by decide))
    have nn15 : Jvm.Free.Fl.NoNaN64 (FP.dmul r14 (4647714815446351872 : UInt64)) := by
      rw [v15]
      exact Jvm.Free.Fl.val64_no.mpr (own_Dy_num D15)
    have l16 : own_L ((512 : Int64) * (z1.toInt64)) (512 * z1.toInt) 1099511627776 := (own_L_mul (⟨by decide, by decide⟩ : own_L (512 : Int64) 512 512) (own_L_i z1) (C := 1099511627776) (by decide) (by decide))
    have B17 : ((512 * z1.toInt) : Int).natAbs ≤ 1099511627776 := l16.2
    obtain ⟨d17, v17⟩ : ∃ z : UInt64, FP.l2d ((512 : Int64) * (z1.toInt64)) = z := ⟨_, rfl⟩
    have D17 : own_Dy 0 (512 * z1.toInt) d17 := by
      rw [← v17]
      exact own_L_d l16 (by decide)
    have nn17 : Jvm.Free.Fl.NoNaN64 (FP.l2d ((512 : Int64) * (z1.toInt64))) := by
      rw [v17]
      exact Jvm.Free.Fl.val64_no.mpr (own_Dy_num D17)
    have q18 : cmpValue (FP.dcmp d15 d17) .l = 0 := own_cmp0 D15 D17 (own_id1 mm.toInt z1.toInt) .l
    obtain ⟨fs, hr, hrun, hended, hW, hsame⟩ := X14.leave (v := some (.int (1 : Int32))) (fun h => by rw [Bd.returns] at h; cases h)
    refine ⟨_, _, pre8 _ ?_, hrun, hended, _, _, rfl, ?_, ⟨_, rfl⟩, hW, hsame.mono (by decide) (by decide)⟩
    · show Steps p.tables e below (s₁.setTop (mkF m 35 #[.val (.int z0), .val (.int z1), .val (.int z2), .val (.int z3), .val (.int z4), .val (.int z5), .val (.int nv), .val (.long mm), .second, .val (.double d7), .second, .unset, .unset, .unset, .unset, .unset, .unset, .unset, .unset, .unset, .unset, .unset, .unset, .unset] [(.int (1 : Int32)), (.int nv)])) _
      refine XS.icmpNo X0.here hx rfl (hb hby at_35) rfl (teq hc35_9).2 ?_
      show Steps p.tables e below (s₁.setTop (mkF m 38 #[.val (.int z0), .val (.int z1), .val (.int z2), .val (.int z3), .val (.int z4), .val (.int z5), .val (.int nv), .val (.long mm), .second, .val (.double d7), .second, .unset, .unset, .unset, .unset, .unset, .unset, .unset, .unset, .unset, .unset, .unset, .unset, .unset] [])) _
      refine XS.iconst X0.here hx rfl (hb hby at_38) ?_
      show Steps p.tables e below (s₁.setTop (mkF m 39 #[.val (.int z0), .val (.int z1), .val (.int z2), .val (.int z3), .val (.int z4), .val (.int z5), .val (.int nv), .val (.long mm), .second, .val (.double d7), .second, .unset, .unset, .unset, .unset, .unset, .unset, .unset, .unset, .unset, .unset, .unset, .unset, .unset] [(.int (1 : Int32))])) _
      refine st10 _ ?_
      show Steps p.tables e below (T10.setTop (mkF m 41 #[.val (.int z0), .val (.int z1), .val (.int z2), .val (.int z3), .val (.int z4), .val (.int z5), .val (.int nv), .val (.long mm), .second, .val (.double d7), .second, .unset, .unset, .unset, .unset, .unset, .unset, .unset, .unset, .unset, .unset, .unset, .unset, .unset] [(.ref b10)])) _
      refine XS.dup X10.here hx rfl (hb hby at_41) rfl rfl ?_
      show Steps p.tables e below (T10.setTop (mkF m 42 #[.val (.int z0), .val (.int z1), .val (.int z2), .val (.int z3), .val (.int z4), .val (.int z5), .val (.int nv), .val (.long mm), .second, .val (.double d7), .second, .unset, .unset, .unset, .unset, .unset, .unset, .unset, .unset, .unset, .unset, .unset, .unset, .unset] [(.ref b10), (.ref b10)])) _
      refine XS.iconst X10.here hx rfl (hb hby at_42) ?_
      show Steps p.tables e below (T10.setTop (mkF m 43 #[.val (.int z0), .val (.int z1), .val (.int z2), .val (.int z3), .val (.int z4), .val (.int z5), .val (.int nv), .val (.long mm), .second, .val (.double d7), .second, .unset, .unset, .unset, .unset, .unset, .unset, .unset, .unset, .unset, .unset, .unset, .unset, .unset] [(.int (0 : Int32)), (.ref b10), (.ref b10)])) _
      refine XS.iloadN X10.here hx rfl (hb hby at_43) rfl ?_
      show Steps p.tables e below (T10.setTop (mkF m 44 #[.val (.int z0), .val (.int z1), .val (.int z2), .val (.int z3), .val (.int z4), .val (.int z5), .val (.int nv), .val (.long mm), .second, .val (.double d7), .second, .unset, .unset, .unset, .unset, .unset, .unset, .unset, .unset, .unset, .unset, .unset, .unset, .unset] [(.int z1), (.int (0 : Int32)), (.ref b10), (.ref b10)])) _
      refine XS.i2dS X10.here hx rfl (hb hby at_44) rfl v11 ?_
      show Steps p.tables e below (T10.setTop (mkF m 45 #[.val (.int z0), .val (.int z1), .val (.int z2), .val (.int z3), .val (.int z4), .val (.int z5), .val (.int nv), .val (.long mm), .second, .val (.double d7), .second, .unset, .unset, .unset, .unset, .unset, .unset, .unset, .unset, .unset, .unset, .unset, .unset, .unset] [(.double d11), (.int (0 : Int32)), (.ref b10), (.ref b10)])) _
      refine st13 _ ?_
      show Steps p.tables e below (T13.setTop (mkF m 46 #[.val (.int z0), .val (.int z1), .val (.int z2), .val (.int z3), .val (.int z4), .val (.int z5), .val (.int nv), .val (.long mm), .second, .val (.double d7), .second, .unset, .unset, .unset, .unset, .unset, .unset, .unset, .unset, .unset, .unset, .unset, .unset, .unset] [(.ref b10)])) _
      refine XS.astore X13.here hx rfl (hb hby at_46) rfl rfl (l' := #[.val (.int z0), .val (.int z1), .val (.int z2), .val (.int z3), .val (.int z4), .val (.int z5), .val (.int nv), .val (.long mm), .second, .val (.double d7), .second, .val (.ref b10), .unset, .unset, .unset, .unset, .unset, .unset, .unset, .unset, .unset, .unset, .unset, .unset]) rfl ?_
      show Steps p.tables e below (T13.setTop (mkF m 48 #[.val (.int z0), .val (.int z1), .val (.int z2), .val (.int z3), .val (.int z4), .val (.int z5), .val (.int nv), .val (.long mm), .second, .val (.double d7), .second, .val (.ref b10), .unset, .unset, .unset, .unset, .unset, .unset, .unset, .unset, .unset, .unset, .unset, .unset] [])) _
      refine XS.goto X13.here hx rfl (pc0 := 48) (pc' := 171) rfl (hb hby at_48) (by decide) (by decide) ?_
      show Steps p.tables e below (T13.setTop (mkF m 171 #[.val (.int z0), .val (.int z1), .val (.int z2), .val (.int z3), .val (.int z4), .val (.int z5), .val (.int nv), .val (.long mm), .second, .val (.double d7), .second, .val (.ref b10), .unset, .unset, .unset, .unset, .unset, .unset, .unset, .unset, .unset, .unset, .unset, .unset] [])) _
      refine X13.ldc2Long hx hown (mvT hZ (hw _ (List.mem_of_getElem? (i := 3) rfl))) (g := (mkF m 171 #[.val (.int z0), .val (.int z1), .val (.int z2), .val (.int z3), .val (.int z4), .val (.int z5), .val (.int nv), .val (.long mm), .second, .val (.double d7), .second, .val (.ref b10), .unset, .unset, .unset, .unset, .unset, .unset, .unset, .unset, .unset, .unset, .unset, .unset] [])) rfl (hb hby at_171) _ ?_
      show Steps p.tables e below (T13.setTop (mkF m 174 #[.val (.int z0), .val (.int z1), .val (.int z2), .val (.int z3), .val (.int z4), .val (.int z5), .val (.int nv), .val (.long mm), .second, .val (.double d7), .second, .val (.ref b10), .unset, .unset, .unset, .unset, .unset, .unset, .unset, .unset, .unset, .unset, .unset, .unset] [(.long (64 : Int64))])) _
      refine XS.lload X13.here hx rfl (hb hby at_174) rfl ?_
      show Steps p.tables e below (T13.setTop (mkF m 176 #[.val (.int z0), .val (.int z1), .val (.int z2), .val (.int z3), .val (.int z4), .val (.int z5), .val (.int nv), .val (.long mm), .second, .val (.double d7), .second, .val (.ref b10), .unset, .unset, .unset, .unset, .unset, .unset, .unset, .unset, .unset, .unset, .unset, .unset] [(.long mm), (.long (64 : Int64))])) _
      refine XS.lmul X13.here hx rfl (hb hby at_176) rfl ?_
      show Steps p.tables e below (T13.setTop (mkF m 177 #[.val (.int z0), .val (.int z1), .val (.int z2), .val (.int z3), .val (.int z4), .val (.int z5), .val (.int nv), .val (.long mm), .second, .val (.double d7), .second, .val (.ref b10), .unset, .unset, .unset, .unset, .unset, .unset, .unset, .unset, .unset, .unset, .unset, .unset] [(.long ((64 : Int64) * mm))])) _
      refine XS.lstore X13.here hx rfl (hb hby at_177) rfl (l' := #[.val (.int z0), .val (.int z1), .val (.int z2), .val (.int z3), .val (.int z4), .val (.int z5), .val (.int nv), .val (.long mm), .second, .val (.double d7), .second, .val (.ref b10), .val (.long ((64 : Int64) * mm)), .second, .unset, .unset, .unset, .unset, .unset, .unset, .unset, .unset, .unset, .unset]) rfl ?_
      show Steps p.tables e below (T13.setTop (mkF m 179 #[.val (.int z0), .val (.int z1), .val (.int z2), .val (.int z3), .val (.int z4), .val (.int z5), .val (.int nv), .val (.long mm), .second, .val (.double d7), .second, .val (.ref b10), .val (.long ((64 : Int64) * mm)), .second, .unset, .unset, .unset, .unset, .unset, .unset, .unset, .unset, .unset, .unset] [])) _
      refine X13.ldc2Long hx hown (mvT hZ (hw _ (List.mem_of_getElem? (i := 4) rfl))) (g := (mkF m 179 #[.val (.int z0), .val (.int z1), .val (.int z2), .val (.int z3), .val (.int z4), .val (.int z5), .val (.int nv), .val (.long mm), .second, .val (.double d7), .second, .val (.ref b10), .val (.long ((64 : Int64) * mm)), .second, .unset, .unset, .unset, .unset, .unset, .unset, .unset, .unset, .unset, .unset] [])) rfl (hb hby at_179) _ ?_
      show Steps p.tables e below (T13.setTop (mkF m 182 #[.val (.int z0), .val (.int z1), .val (.int z2), .val (.int z3), .val (.int z4), .val (.int z5), .val (.int nv), .val (.long mm), .second, .val (.double d7), .second, .val (.ref b10), .val (.long ((64 : Int64) * mm)), .second, .unset, .unset, .unset, .unset, .unset, .unset, .unset, .unset, .unset, .unset] [(.long (16 : Int64))])) _
      refine XS.lload X13.here hx rfl (hb hby at_182) rfl ?_
      show Steps p.tables e below (T13.setTop (mkF m 184 #[.val (.int z0), .val (.int z1), .val (.int z2), .val (.int z3), .val (.int z4), .val (.int z5), .val (.int nv), .val (.long mm), .second, .val (.double d7), .second, .val (.ref b10), .val (.long ((64 : Int64) * mm)), .second, .unset, .unset, .unset, .unset, .unset, .unset, .unset, .unset, .unset, .unset] [(.long mm), (.long (16 : Int64))])) _
      refine XS.lmul X13.here hx rfl (hb hby at_184) rfl ?_
      show Steps p.tables e below (T13.setTop (mkF m 185 #[.val (.int z0), .val (.int z1), .val (.int z2), .val (.int z3), .val (.int z4), .val (.int z5), .val (.int nv), .val (.long mm), .second, .val (.double d7), .second, .val (.ref b10), .val (.long ((64 : Int64) * mm)), .second, .unset, .unset, .unset, .unset, .unset, .unset, .unset, .unset, .unset, .unset] [(.long ((16 : Int64) * mm))])) _
      refine XS.lload X13.here hx rfl (hb hby at_185) rfl ?_
      show Steps p.tables e below (T13.setTop (mkF m 187 #[.val (.int z0), .val (.int z1), .val (.int z2), .val (.int z3), .val (.int z4), .val (.int z5), .val (.int nv), .val (.long mm), .second, .val (.double d7), .second, .val (.ref b10), .val (.long ((64 : Int64) * mm)), .second, .unset, .unset, .unset, .unset, .unset, .unset, .unset, .unset, .unset, .unset] [(.long mm), (.long ((16 : Int64) * mm))])) _
      refine XS.lmul X13.here hx rfl (hb hby at_187) rfl ?_
      show Steps p.tables e below (T13.setTop (mkF m 188 #[.val (.int z0), .val (.int z1), .val (.int z2), .val (.int z3), .val (.int z4), .val (.int z5), .val (.int nv), .val (.long mm), .second, .val (.double d7), .second, .val (.ref b10), .val (.long ((64 : Int64) * mm)), .second, .unset, .unset, .unset, .unset, .unset, .unset, .unset, .unset, .unset, .unset] [(.long (((16 : Int64) * mm) * mm))])) _
      refine X13.ldc2Long hx hown (mvT hZ (hw _ (List.mem_of_getElem? (i := 5) rfl))) (g := (mkF m 188 #[.val (.int z0), .val (.int z1), .val (.int z2), .val (.int z3), .val (.int z4), .val (.int z5), .val (.int nv), .val (.long mm), .second, .val (.double d7), .second, .val (.ref b10), .val (.long ((64 : Int64) * mm)), .second, .unset, .unset, .unset, .unset, .unset, .unset, .unset, .unset, .unset, .unset] [(.long (((16 : Int64) * mm) * mm))])) rfl (hb hby at_188) _ ?_
      show Steps p.tables e below (T13.setTop (mkF m 191 #[.val (.int z0), .val (.int z1), .val (.int z2), .val (.int z3), .val (.int z4), .val (.int z5), .val (.int nv), .val (.long mm), .second, .val (.double d7), .second, .val (.ref b10), .val (.long ((64 : Int64) * mm)), .second, .unset, .unset, .unset, .unset, .unset, .unset, .unset, .unset, .unset, .unset] [(.long (512 : Int64)), (.long (((16 : Int64) * mm) * mm))])) _
      refine XS.lsub X13.here hx rfl (hb hby at_191) rfl ?_
      show Steps p.tables e below (T13.setTop (mkF m 192 #[.val (.int z0), .val (.int z1), .val (.int z2), .val (.int z3), .val (.int z4), .val (.int z5), .val (.int nv), .val (.long mm), .second, .val (.double d7), .second, .val (.ref b10), .val (.long ((64 : Int64) * mm)), .second, .unset, .unset, .unset, .unset, .unset, .unset, .unset, .unset, .unset, .unset] [(.long ((((16 : Int64) * mm) * mm) - (512 : Int64)))])) _
      refine XS.lstore X13.here hx rfl (hb hby at_192) rfl (l' := #[.val (.int z0), .val (.int z1), .val (.int z2), .val (.int z3), .val (.int z4), .val (.int z5), .val (.int nv), .val (.long mm), .second, .val (.double d7), .second, .val (.ref b10), .val (.long ((64 : Int64) * mm)), .second, .val (.long ((((16 : Int64) * mm) * mm) - (512 : Int64))), .second, .unset, .unset, .unset, .unset, .unset, .unset, .unset, .unset]) rfl ?_
      show Steps p.tables e below (T13.setTop (mkF m 194 #[.val (.int z0), .val (.int z1), .val (.int z2), .val (.int z3), .val (.int z4), .val (.int z5), .val (.int nv), .val (.long mm), .second, .val (.double d7), .second, .val (.ref b10), .val (.long ((64 : Int64) * mm)), .second, .val (.long ((((16 : Int64) * mm) * mm) - (512 : Int64))), .second, .unset, .unset, .unset, .unset, .unset, .unset, .unset, .unset] [])) _
      refine X13.ldc2Long hx hown (mvT hZ (hw _ (List.mem_of_getElem? (i := 6) rfl))) (g := (mkF m 194 #[.val (.int z0), .val (.int z1), .val (.int z2), .val (.int z3), .val (.int z4), .val (.int z5), .val (.int nv), .val (.long mm), .second, .val (.double d7), .second, .val (.ref b10), .val (.long ((64 : Int64) * mm)), .second, .val (.long ((((16 : Int64) * mm) * mm) - (512 : Int64))), .second, .unset, .unset, .unset, .unset, .unset, .unset, .unset, .unset] [])) rfl (hb hby at_194) _ ?_
      show Steps p.tables e below (T13.setTop (mkF m 197 #[.val (.int z0), .val (.int z1), .val (.int z2), .val (.int z3), .val (.int z4), .val (.int z5), .val (.int nv), .val (.long mm), .second, .val (.double d7), .second, .val (.ref b10), .val (.long ((64 : Int64) * mm)), .second, .val (.long ((((16 : Int64) * mm) * mm) - (512 : Int64))), .second, .unset, .unset, .unset, .unset, .unset, .unset, .unset, .unset] [(.long (4 : Int64))])) _
      refine XS.lload X13.here hx rfl (hb hby at_197) rfl ?_
      show Steps p.tables e below (T13.setTop (mkF m 199 #[.val (.int z0), .val (.int z1), .val (.int z2), .val (.int z3), .val (.int z4), .val (.int z5), .val (.int nv), .val (.long mm), .second, .val (.double d7), .second, .val (.ref b10), .val (.long ((64 : Int64) * mm)), .second, .val (.long ((((16 : Int64) * mm) * mm) - (512 : Int64))), .second, .unset, .unset, .unset, .unset, .unset, .unset, .unset, .unset] [(.long mm), (.long (4 : Int64))])) _
      refine XS.lmul X13.here hx rfl (hb hby at_199) rfl ?_
      show Steps p.tables e below (T13.setTop (mkF m 200 #[.val (.int z0), .val (.int z1), .val (.int z2), .val (.int z3), .val (.int z4), .val (.int z5), .val (.int nv), .val (.long mm), .second, .val (.double d7), .second, .val (.ref b10), .val (.long ((64 : Int64) * mm)), .second, .val (.long ((((16 : Int64) * mm) * mm) - (512 : Int64))), .second, .unset, .unset, .unset, .unset, .unset, .unset, .unset, .unset] [(.long ((4 : Int64) * mm))])) _
      refine XS.lload X13.here hx rfl (hb hby at_200) rfl ?_
      show Steps p.tables e below (T13.setTop (mkF m 202 #[.val (.int z0), .val (.int z1), .val (.int z2), .val (.int z3), .val (.int z4), .val (.int z5), .val (.int nv), .val (.long mm), .second, .val (.double d7), .second, .val (.ref b10), .val (.long ((64 : Int64) * mm)), .second, .val (.long ((((16 : Int64) * mm) * mm) - (512 : Int64))), .second, .unset, .unset, .unset, .unset, .unset, .unset, .unset, .unset] [(.long mm), (.long ((4 : Int64) * mm))])) _
      refine XS.lmul X13.here hx rfl (hb hby at_202) rfl ?_
      show Steps p.tables e below (T13.setTop (mkF m 203 #[.val (.int z0), .val (.int z1), .val (.int z2), .val (.int z3), .val (.int z4), .val (.int z5), .val (.int nv), .val (.long mm), .second, .val (.double d7), .second, .val (.ref b10), .val (.long ((64 : Int64) * mm)), .second, .val (.long ((((16 : Int64) * mm) * mm) - (512 : Int64))), .second, .unset, .unset, .unset, .unset, .unset, .unset, .unset, .unset] [(.long (((4 : Int64) * mm) * mm))])) _
      refine XS.lload X13.here hx rfl (hb hby at_203) rfl ?_
      show Steps p.tables e below (T13.setTop (mkF m 205 #[.val (.int z0), .val (.int z1), .val (.int z2), .val (.int z3), .val (.int z4), .val (.int z5), .val (.int nv), .val (.long mm), .second, .val (.double d7), .second, .val (.ref b10), .val (.long ((64 : Int64) * mm)), .second, .val (.long ((((16 : Int64) * mm) * mm) - (512 : Int64))), .second, .unset, .unset, .unset, .unset, .unset, .unset, .unset, .unset] [(.long mm), (.long (((4 : Int64) * mm) * mm))])) _
      refine XS.lmul X13.here hx rfl (hb hby at_205) rfl ?_
      show Steps p.tables e below (T13.setTop (mkF m 206 #[.val (.int z0), .val (.int z1), .val (.int z2), .val (.int z3), .val (.int z4), .val (.int z5), .val (.int nv), .val (.long mm), .second, .val (.double d7), .second, .val (.ref b10), .val (.long ((64 : Int64) * mm)), .second, .val (.long ((((16 : Int64) * mm) * mm) - (512 : Int64))), .second, .unset, .unset, .unset, .unset, .unset, .unset, .unset, .unset] [(.long ((((4 : Int64) * mm) * mm) * mm))])) _
      refine X13.ldc2Long hx hown (mvT hZ (hw _ (List.mem_of_getElem? (i := 7) rfl))) (g := (mkF m 206 #[.val (.int z0), .val (.int z1), .val (.int z2), .val (.int z3), .val (.int z4), .val (.int z5), .val (.int nv), .val (.long mm), .second, .val (.double d7), .second, .val (.ref b10), .val (.long ((64 : Int64) * mm)), .second, .val (.long ((((16 : Int64) * mm) * mm) - (512 : Int64))), .second, .unset, .unset, .unset, .unset, .unset, .unset, .unset, .unset] [(.long ((((4 : Int64) * mm) * mm) * mm))])) rfl (hb hby at_206) _ ?_
      show Steps p.tables e below (T13.setTop (mkF m 209 #[.val (.int z0), .val (.int z1), .val (.int z2), .val (.int z3), .val (.int z4), .val (.int z5), .val (.int nv), .val (.long mm), .second, .val (.double d7), .second, .val (.ref b10), .val (.long ((64 : Int64) * mm)), .second, .val (.long ((((16 : Int64) * mm) * mm) - (512 : Int64))), .second, .unset, .unset, .unset, .unset, .unset, .unset, .unset, .unset] [(.long (192 : Int64)), (.long ((((4 : Int64) * mm) * mm) * mm))])) _
      refine XS.lload X13.here hx rfl (hb hby at_209) rfl ?_
      show Steps p.tables e below (T13.setTop (mkF m 211 #[.val (.int z0), .val (.int z1), .val (.int z2), .val (.int z3), .val (.int z4), .val (.int z5), .val (.int nv), .val (.long mm), .second, .val (.double d7), .second, .val (.ref b10), .val (.long ((64 : Int64) * mm)), .second, .val (.long ((((16 : Int64) * mm) * mm) - (512 : Int64))), .second, .unset, .unset, .unset, .unset, .unset, .unset, .unset, .unset] [(.long mm), (.long (192 : Int64)), (.long ((((4 : Int64) * mm) * mm) * mm))])) _
      refine XS.lmul X13.here hx rfl (hb hby at_211) rfl ?_
      show Steps p.tables e below (T13.setTop (mkF m 212 #[.val (.int z0), .val (.int z1), .val (.int z2), .val (.int z3), .val (.int z4), .val (.int z5), .val (.int nv), .val (.long mm), .second, .val (.double d7), .second, .val (.ref b10), .val (.long ((64 : Int64) * mm)), .second, .val (.long ((((16 : Int64) * mm) * mm) - (512 : Int64))), .second, .unset, .unset, .unset, .unset, .unset, .unset, .unset, .unset] [(.long ((192 : Int64) * mm)), (.long ((((4 : Int64) * mm) * mm) * mm))])) _
      refine XS.lsub X13.here hx rfl (hb hby at_212) rfl ?_
      show Steps p.tables e below (T13.setTop (mkF m 213 #[.val (.int z0), .val (.int z1), .val (.int z2), .val (.int z3), .val (.int z4), .val (.int z5), .val (.int nv), .val (.long mm), .second, .val (.double d7), .second, .val (.ref b10), .val (.long ((64 : Int64) * mm)), .second, .val (.long ((((16 : Int64) * mm) * mm) - (512 : Int64))), .second, .unset, .unset, .unset, .unset, .unset, .unset, .unset, .unset] [(.long (((((4 : Int64) * mm) * mm) * mm) - ((192 : Int64) * mm)))])) _
      refine XS.lstore X13.here hx rfl (hb hby at_213) rfl (l' := #[.val (.int z0), .val (.int z1), .val (.int z2), .val (.int z3), .val (.int z4), .val (.int z5), .val (.int nv), .val (.long mm), .second, .val (.double d7), .second, .val (.ref b10), .val (.long ((64 : Int64) * mm)), .second, .val (.long ((((16 : Int64) * mm) * mm) - (512 : Int64))), .second, .val (.long (((((4 : Int64) * mm) * mm) * mm) - ((192 : Int64) * mm))), .second, .unset, .unset, .unset, .unset, .unset, .unset]) rfl ?_
      show Steps p.tables e below (T13.setTop (mkF m 215 #[.val (.int z0), .val (.int z1), .val (.int z2), .val (.int z3), .val (.int z4), .val (.int z5), .val (.int nv), .val (.long mm), .second, .val (.double d7), .second, .val (.ref b10), .val (.long ((64 : Int64) * mm)), .second, .val (.long ((((16 : Int64) * mm) * mm) - (512 : Int64))), .second, .val (.long (((((4 : Int64) * mm) * mm) * mm) - ((192 : Int64) * mm))), .second, .unset, .unset, .unset, .unset, .unset, .unset] [])) _
      refine XS.lload X13.here hx rfl (hb hby at_215) rfl ?_
      show Steps p.tables e below (T13.setTop (mkF m 217 #[.val (.int z0), .val (.int z1), .val (.int z2), .val (.int z3), .val (.int z4), .val (.int z5), .val (.int nv), .val (.long mm), .second, .val (.double d7), .second, .val (.ref b10), .val (.long ((64 : Int64) * mm)), .second, .val (.long ((((16 : Int64) * mm) * mm) - (512 : Int64))), .second, .val (.long (((((4 : Int64) * mm) * mm) * mm) - ((192 : Int64) * mm))), .second, .unset, .unset, .unset, .unset, .unset, .unset] [(.long mm)])) _
      refine XS.lload X13.here hx rfl (hb hby at_217) rfl ?_
      show Steps p.tables e below (T13.setTop (mkF m 219 #[.val (.int z0), .val (.int z1), .val (.int z2), .val (.int z3), .val (.int z4), .val (.int z5), .val (.int nv), .val (.long mm), .second, .val (.double d7), .second, .val (.ref b10), .val (.long ((64 : Int64) * mm)), .second, .val (.long ((((16 : Int64) * mm) * mm) - (512 : Int64))), .second, .val (.long (((((4 : Int64) * mm) * mm) * mm) - ((192 : Int64) * mm))), .second, .unset, .unset, .unset, .unset, .unset, .unset] [(.long mm), (.long mm)])) _
      refine XS.lmul X13.here hx rfl (hb hby at_219) rfl ?_
      show Steps p.tables e below (T13.setTop (mkF m 220 #[.val (.int z0), .val (.int z1), .val (.int z2), .val (.int z3), .val (.int z4), .val (.int z5), .val (.int nv), .val (.long mm), .second, .val (.double d7), .second, .val (.ref b10), .val (.long ((64 : Int64) * mm)), .second, .val (.long ((((16 : Int64) * mm) * mm) - (512 : Int64))), .second, .val (.long (((((4 : Int64) * mm) * mm) * mm) - ((192 : Int64) * mm))), .second, .unset, .unset, .unset, .unset, .unset, .unset] [(.long (mm * mm))])) _
      refine XS.lload X13.here hx rfl (hb hby at_220) rfl ?_
      show Steps p.tables e below (T13.setTop (mkF m 222 #[.val (.int z0), .val (.int z1), .val (.int z2), .val (.int z3), .val (.int z4), .val (.int z5), .val (.int nv), .val (.long mm), .second, .val (.double d7), .second, .val (.ref b10), .val (.long ((64 : Int64) * mm)), .second, .val (.long ((((16 : Int64) * mm) * mm) - (512 : Int64))), .second, .val (.long (((((4 : Int64) * mm) * mm) * mm) - ((192 : Int64) * mm))), .second, .unset, .unset, .unset, .unset, .unset, .unset] [(.long mm), (.long (mm * mm))])) _
      refine XS.lmul X13.here hx rfl (hb hby at_222) rfl ?_
      show Steps p.tables e below (T13.setTop (mkF m 223 #[.val (.int z0), .val (.int z1), .val (.int z2), .val (.int z3), .val (.int z4), .val (.int z5), .val (.int nv), .val (.long mm), .second, .val (.double d7), .second, .val (.ref b10), .val (.long ((64 : Int64) * mm)), .second, .val (.long ((((16 : Int64) * mm) * mm) - (512 : Int64))), .second, .val (.long (((((4 : Int64) * mm) * mm) * mm) - ((192 : Int64) * mm))), .second, .unset, .unset, .unset, .unset, .unset, .unset] [(.long ((mm * mm) * mm))])) _
      refine XS.lload X13.here hx rfl (hb hby at_223) rfl ?_
      show Steps p.tables e below (T13.setTop (mkF m 225 #[.val (.int z0), .val (.int z1), .val (.int z2), .val (.int z3), .val (.int z4), .val (.int z5), .val (.int nv), .val (.long mm), .second, .val (.double d7), .second, .val (.ref b10), .val (.long ((64 : Int64) * mm)), .second, .val (.long ((((16 : Int64) * mm) * mm) - (512 : Int64))), .second, .val (.long (((((4 : Int64) * mm) * mm) * mm) - ((192 : Int64) * mm))), .second, .unset, .unset, .unset, .unset, .unset, .unset] [(.long mm), (.long ((mm * mm) * mm))])) _
      refine XS.lmul X13.here hx rfl (hb hby at_225) rfl ?_
      show Steps p.tables e below (T13.setTop (mkF m 226 #[.val (.int z0), .val (.int z1), .val (.int z2), .val (.int z3), .val (.int z4), .val (.int z5), .val (.int nv), .val (.long mm), .second, .val (.double d7), .second, .val (.ref b10), .val (.long ((64 : Int64) * mm)), .second, .val (.long ((((16 : Int64) * mm) * mm) - (512 : Int64))), .second, .val (.long (((((4 : Int64) * mm) * mm) * mm) - ((192 : Int64) * mm))), .second, .unset, .unset, .unset, .unset, .unset, .unset] [(.long (((mm * mm) * mm) * mm))])) _
      refine X13.ldc2Long hx hown (mvT hZ (hw _ (List.mem_of_getElem? (i := 3) rfl))) (g := (mkF m 226 #[.val (.int z0), .val (.int z1), .val (.int z2), .val (.int z3), .val (.int z4), .val (.int z5), .val (.int nv), .val (.long mm), .second, .val (.double d7), .second, .val (.ref b10), .val (.long ((64 : Int64) * mm)), .second, .val (.long ((((16 : Int64) * mm) * mm) - (512 : Int64))), .second, .val (.long (((((4 : Int64) * mm) * mm) * mm) - ((192 : Int64) * mm))), .second, .unset, .unset, .unset, .unset, .unset, .unset] [(.long (((mm * mm) * mm) * mm))])) rfl (hb hby at_226) _ ?_
      show Steps p.tables e below (T13.setTop (mkF m 229 #[.val (.int z0), .val (.int z1), .val (.int z2), .val (.int z3), .val (.int z4), .val (.int z5), .val (.int nv), .val (.long mm), .second, .val (.double d7), .second, .val (.ref b10), .val (.long ((64 : Int64) * mm)), .second, .val (.long ((((16 : Int64) * mm) * mm) - (512 : Int64))), .second, .val (.long (((((4 : Int64) * mm) * mm) * mm) - ((192 : Int64) * mm))), .second, .unset, .unset, .unset, .unset, .unset, .unset] [(.long (64 : Int64)), (.long (((mm * mm) * mm) * mm))])) _
      refine XS.lload X13.here hx rfl (hb hby at_229) rfl ?_
      show Steps p.tables e below (T13.setTop (mkF m 231 #[.val (.int z0), .val (.int z1), .val (.int z2), .val (.int z3), .val (.int z4), .val (.int z5), .val (.int nv), .val (.long mm), .second, .val (.double d7), .second, .val (.ref b10), .val (.long ((64 : Int64) * mm)), .second, .val (.long ((((16 : Int64) * mm) * mm) - (512 : Int64))), .second, .val (.long (((((4 : Int64) * mm) * mm) * mm) - ((192 : Int64) * mm))), .second, .unset, .unset, .unset, .unset, .unset, .unset] [(.long mm), (.long (64 : Int64)), (.long (((mm * mm) * mm) * mm))])) _
      refine XS.lmul X13.here hx rfl (hb hby at_231) rfl ?_
      show Steps p.tables e below (T13.setTop (mkF m 232 #[.val (.int z0), .val (.int z1), .val (.int z2), .val (.int z3), .val (.int z4), .val (.int z5), .val (.int nv), .val (.long mm), .second, .val (.double d7), .second, .val (.ref b10), .val (.long ((64 : Int64) * mm)), .second, .val (.long ((((16 : Int64) * mm) * mm) - (512 : Int64))), .second, .val (.long (((((4 : Int64) * mm) * mm) * mm) - ((192 : Int64) * mm))), .second, .unset, .unset, .unset, .unset, .unset, .unset] [(.long ((64 : Int64) * mm)), (.long (((mm * mm) * mm) * mm))])) _
      refine XS.lload X13.here hx rfl (hb hby at_232) rfl ?_
      show Steps p.tables e below (T13.setTop (mkF m 234 #[.val (.int z0), .val (.int z1), .val (.int z2), .val (.int z3), .val (.int z4), .val (.int z5), .val (.int nv), .val (.long mm), .second, .val (.double d7), .second, .val (.ref b10), .val (.long ((64 : Int64) * mm)), .second, .val (.long ((((16 : Int64) * mm) * mm) - (512 : Int64))), .second, .val (.long (((((4 : Int64) * mm) * mm) * mm) - ((192 : Int64) * mm))), .second, .unset, .unset, .unset, .unset, .unset, .unset] [(.long mm), (.long ((64 : Int64) * mm)), (.long (((mm * mm) * mm) * mm))])) _
      refine XS.lmul X13.here hx rfl (hb hby at_234) rfl ?_
      show Steps p.tables e below (T13.setTop (mkF m 235 #[.val (.int z0), .val (.int z1), .val (.int z2), .val (.int z3), .val (.int z4), .val (.int z5), .val (.int nv), .val (.long mm), .second, .val (.double d7), .second, .val (.ref b10), .val (.long ((64 : Int64) * mm)), .second, .val (.long ((((16 : Int64) * mm) * mm) - (512 : Int64))), .second, .val (.long (((((4 : Int64) * mm) * mm) * mm) - ((192 : Int64) * mm))), .second, .unset, .unset, .unset, .unset, .unset, .unset] [(.long (((64 : Int64) * mm) * mm)), (.long (((mm * mm) * mm) * mm))])) _
      refine XS.lsub X13.here hx rfl (hb hby at_235) rfl ?_
      show Steps p.tables e below (T13.setTop (mkF m 236 #[.val (.int z0), .val (.int z1), .val (.int z2), .val (.int z3), .val (.int z4), .val (.int z5), .val (.int nv), .val (.long mm), .second, .val (.double d7), .second, .val (.ref b10), .val (.long ((64 : Int64) * mm)), .second, .val (.long ((((16 : Int64) * mm) * mm) - (512 : Int64))), .second, .val (.long (((((4 : Int64) * mm) * mm) * mm) - ((192 : Int64) * mm))), .second, .unset, .unset, .unset, .unset, .unset, .unset] [(.long ((((mm * mm) * mm) * mm) - (((64 : Int64) * mm) * mm)))])) _
      refine X13.ldc2Long hx hown (mvT hZ (hw _ (List.mem_of_getElem? (i := 5) rfl))) (g := (mkF m 236 #[.val (.int z0), .val (.int z1), .val (.int z2), .val (.int z3), .val (.int z4), .val (.int z5), .val (.int nv), .val (.long mm), .second, .val (.double d7), .second, .val (.ref b10), .val (.long ((64 : Int64) * mm)), .second, .val (.long ((((16 : Int64) * mm) * mm) - (512 : Int64))), .second, .val (.long (((((4 : Int64) * mm) * mm) * mm) - ((192 : Int64) * mm))), .second, .unset, .unset, .unset, .unset, .unset, .unset] [(.long ((((mm * mm) * mm) * mm) - (((64 : Int64) * mm) * mm)))])) rfl (hb hby at_236) _ ?_
      show Steps p.tables e below (T13.setTop (mkF m 239 #[.val (.int z0), .val (.int z1), .val (.int z2), .val (.int z3), .val (.int z4), .val (.int z5), .val (.int nv), .val (.long mm), .second, .val (.double d7), .second, .val (.ref b10), .val (.long ((64 : Int64) * mm)), .second, .val (.long ((((16 : Int64) * mm) * mm) - (512 : Int64))), .second, .val (.long (((((4 : Int64) * mm) * mm) * mm) - ((192 : Int64) * mm))), .second, .unset, .unset, .unset, .unset, .unset, .unset] [(.long (512 : Int64)), (.long ((((mm * mm) * mm) * mm) - (((64 : Int64) * mm) * mm)))])) _
      refine XS.ladd X13.here hx rfl (hb hby at_239) rfl ?_
      show Steps p.tables e below (T13.setTop (mkF m 240 #[.val (.int z0), .val (.int z1), .val (.int z2), .val (.int z3), .val (.int z4), .val (.int z5), .val (.int nv), .val (.long mm), .second, .val (.double d7), .second, .val (.ref b10), .val (.long ((64 : Int64) * mm)), .second, .val (.long ((((16 : Int64) * mm) * mm) - (512 : Int64))), .second, .val (.long (((((4 : Int64) * mm) * mm) * mm) - ((192 : Int64) * mm))), .second, .unset, .unset, .unset, .unset, .unset, .unset] [(.long (((((mm * mm) * mm) * mm) - (((64 : Int64) * mm) * mm)) + (512 : Int64)))])) _
      refine XS.lstore X13.here hx rfl (hb hby at_240) rfl (l' := #[.val (.int z0), .val (.int z1), .val (.int z2), .val (.int z3), .val (.int z4), .val (.int z5), .val (.int nv), .val (.long mm), .second, .val (.double d7), .second, .val (.ref b10), .val (.long ((64 : Int64) * mm)), .second, .val (.long ((((16 : Int64) * mm) * mm) - (512 : Int64))), .second, .val (.long (((((4 : Int64) * mm) * mm) * mm) - ((192 : Int64) * mm))), .second, .val (.long (((((mm * mm) * mm) * mm) - (((64 : Int64) * mm) * mm)) + (512 : Int64))), .second, .unset, .unset, .unset, .unset]) rfl ?_
      show Steps p.tables e below (T13.setTop (mkF m 242 #[.val (.int z0), .val (.int z1), .val (.int z2), .val (.int z3), .val (.int z4), .val (.int z5), .val (.int nv), .val (.long mm), .second, .val (.double d7), .second, .val (.ref b10), .val (.long ((64 : Int64) * mm)), .second, .val (.long ((((16 : Int64) * mm) * mm) - (512 : Int64))), .second, .val (.long (((((4 : Int64) * mm) * mm) * mm) - ((192 : Int64) * mm))), .second, .val (.long (((((mm * mm) * mm) * mm) - (((64 : Int64) * mm) * mm)) + (512 : Int64))), .second, .unset, .unset, .unset, .unset] [])) _
      refine X13.ldc2Long hx hown (mvT hZ (hw _ (List.mem_of_getElem? (i := 5) rfl))) (g := (mkF m 242 #[.val (.int z0), .val (.int z1), .val (.int z2), .val (.int z3), .val (.int z4), .val (.int z5), .val (.int nv), .val (.long mm), .second, .val (.double d7), .second, .val (.ref b10), .val (.long ((64 : Int64) * mm)), .second, .val (.long ((((16 : Int64) * mm) * mm) - (512 : Int64))), .second, .val (.long (((((4 : Int64) * mm) * mm) * mm) - ((192 : Int64) * mm))), .second, .val (.long (((((mm * mm) * mm) * mm) - (((64 : Int64) * mm) * mm)) + (512 : Int64))), .second, .unset, .unset, .unset, .unset] [])) rfl (hb hby at_242) _ ?_
      show Steps p.tables e below (T13.setTop (mkF m 245 #[.val (.int z0), .val (.int z1), .val (.int z2), .val (.int z3), .val (.int z4), .val (.int z5), .val (.int nv), .val (.long mm), .second, .val (.double d7), .second, .val (.ref b10), .val (.long ((64 : Int64) * mm)), .second, .val (.long ((((16 : Int64) * mm) * mm) - (512 : Int64))), .second, .val (.long (((((4 : Int64) * mm) * mm) * mm) - ((192 : Int64) * mm))), .second, .val (.long (((((mm * mm) * mm) * mm) - (((64 : Int64) * mm) * mm)) + (512 : Int64))), .second, .unset, .unset, .unset, .unset] [(.long (512 : Int64))])) _
      refine XS.iloadN X13.here hx rfl (hb hby at_245) rfl ?_
      show Steps p.tables e below (T13.setTop (mkF m 246 #[.val (.int z0), .val (.int z1), .val (.int z2), .val (.int z3), .val (.int z4), .val (.int z5), .val (.int nv), .val (.long mm), .second, .val (.double d7), .second, .val (.ref b10), .val (.long ((64 : Int64) * mm)), .second, .val (.long ((((16 : Int64) * mm) * mm) - (512 : Int64))), .second, .val (.long (((((4 : Int64) * mm) * mm) * mm) - ((192 : Int64) * mm))), .second, .val (.long (((((mm * mm) * mm) * mm) - (((64 : Int64) * mm) * mm)) + (512 : Int64))), .second, .unset, .unset, .unset, .unset] [(.int z1), (.long (512 : Int64))])) _
      refine XS.i2l X13.here hx rfl (hb hby at_246) rfl ?_
      show Steps p.tables e below (T13.setTop (mkF m 247 #[.val (.int z0), .val (.int z1), .val (.int z2), .val (.int z3), .val (.int z4), .val (.int z5), .val (.int nv), .val (.long mm), .second, .val (.double d7), .second, .val (.ref b10), .val (.long ((64 : Int64) * mm)), .second, .val (.long ((((16 : Int64) * mm) * mm) - (512 : Int64))), .second, .val (.long (((((4 : Int64) * mm) * mm) * mm) - ((192 : Int64) * mm))), .second, .val (.long (((((mm * mm) * mm) * mm) - (((64 : Int64) * mm) * mm)) + (512 : Int64))), .second, .unset, .unset, .unset, .unset] [(.long (z1.toInt64)), (.long (512 : Int64))])) _
      refine XS.lmul X13.here hx rfl (hb hby at_247) rfl ?_
      show Steps p.tables e below (T13.setTop (mkF m 248 #[.val (.int z0), .val (.int z1), .val (.int z2), .val (.int z3), .val (.int z4), .val (.int z5), .val (.int nv), .val (.long mm), .second, .val (.double d7), .second, .val (.ref b10), .val (.long ((64 : Int64) * mm)), .second, .val (.long ((((16 : Int64) * mm) * mm) - (512 : Int64))), .second, .val (.long (((((4 : Int64) * mm) * mm) * mm) - ((192 : Int64) * mm))), .second, .val (.long (((((mm * mm) * mm) * mm) - (((64 : Int64) * mm) * mm)) + (512 : Int64))), .second, .unset, .unset, .unset, .unset] [(.long ((512 : Int64) * (z1.toInt64)))])) _
      refine XS.lstore X13.here hx rfl (hb hby at_248) rfl (l' := #[.val (.int z0), .val (.int z1), .val (.int z2), .val (.int z3), .val (.int z4), .val (.int z5), .val (.int nv), .val (.long mm), .second, .val (.double d7), .second, .val (.ref b10), .val (.long ((64 : Int64) * mm)), .second, .val (.long ((((16 : Int64) * mm) * mm) - (512 : Int64))), .second, .val (.long (((((4 : Int64) * mm) * mm) * mm) - ((192 : Int64) * mm))), .second, .val (.long (((((mm * mm) * mm) * mm) - (((64 : Int64) * mm) * mm)) + (512 : Int64))), .second, .val (.long ((512 : Int64) * (z1.toInt64))), .second, .unset, .unset]) rfl ?_
      show Steps p.tables e below (T13.setTop (mkF m 250 #[.val (.int z0), .val (.int z1), .val (.int z2), .val (.int z3), .val (.int z4), .val (.int z5), .val (.int nv), .val (.long mm), .second, .val (.double d7), .second, .val (.ref b10), .val (.long ((64 : Int64) * mm)), .second, .val (.long ((((16 : Int64) * mm) * mm) - (512 : Int64))), .second, .val (.long (((((4 : Int64) * mm) * mm) * mm) - ((192 : Int64) * mm))), .second, .val (.long (((((mm * mm) * mm) * mm) - (((64 : Int64) * mm) * mm)) + (512 : Int64))), .second, .val (.long ((512 : Int64) * (z1.toInt64))), .second, .unset, .unset] [])) _
      refine XS.iload X13.here hx rfl (hb hby at_250) rfl ?_
      show Steps p.tables e below (T13.setTop (mkF m 252 #[.val (.int z0), .val (.int z1), .val (.int z2), .val (.int z3), .val (.int z4), .val (.int z5), .val (.int nv), .val (.long mm), .second, .val (.double d7), .second, .val (.ref b10), .val (.long ((64 : Int64) * mm)), .second, .val (.long ((((16 : Int64) * mm) * mm) - (512 : Int64))), .second, .val (.long (((((4 : Int64) * mm) * mm) * mm) - ((192 : Int64) * mm))), .second, .val (.long (((((mm * mm) * mm) * mm) - (((64 : Int64) * mm) * mm)) + (512 : Int64))), .second, .val (.long ((512 : Int64) * (z1.toInt64))), .second, .unset, .unset] [(.int nv)])) _
      refine XS.iconst X13.here hx rfl (hb hby at_252) ?_
      show Steps p.tables e below (T13.setTop (mkF m 253 #[.val (.int z0), .val (.int z1), .val (.int z2), .val (.int z3), .val (.int z4), .val (.int z5), .val (.int nv), .val (.long mm), .second, .val (.double d7), .second, .val (.ref b10), .val (.long ((64 : Int64) * mm)), .second, .val (.long ((((16 : Int64) * mm) * mm) - (512 : Int64))), .second, .val (.long (((((4 : Int64) * mm) * mm) * mm) - ((192 : Int64) * mm))), .second, .val (.long (((((mm * mm) * mm) * mm) - (((64 : Int64) * mm) * mm)) + (512 : Int64))), .second, .val (.long ((512 : Int64) * (z1.toInt64))), .second, .unset, .unset] [(.int (2 : Int32)), (.int nv)])) _
      refine XS.icmpYes X13.here hx rfl (pc0 := 253) (pc' := 266) rfl (hb hby at_253) rfl (tlt (by rw [hc35_9]; decide : nv < (2 : Int32))).1 (by decide) (by decide) ?_
      show Steps p.tables e below (T13.setTop (mkF m 266 #[.val (.int z0), .val (.int z1), .val (.int z2), .val (.int z3), .val (.int z4), .val (.int z5), .val (.int nv), .val (.long mm), .second, .val (.double d7), .second, .val (.ref b10), .val (.long ((64 : Int64) * mm)), .second, .val (.long ((((16 : Int64) * mm) * mm) - (512 : Int64))), .second, .val (.long (((((4 : Int64) * mm) * mm) * mm) - ((192 : Int64) * mm))), .second, .val (.long (((((mm * mm) * mm) * mm) - (((64 : Int64) * mm) * mm)) + (512 : Int64))), .second, .val (.long ((512 : Int64) * (z1.toInt64))), .second, .unset, .unset] [])) _
      refine XS.iload X13.here hx rfl (hb hby at_266) rfl ?_
      show Steps p.tables e below (T13.setTop (mkF m 268 #[.val (.int z0), .val (.int z1), .val (.int z2), .val (.int z3), .val (.int z4), .val (.int z5), .val (.int nv), .val (.long mm), .second, .val (.double d7), .second, .val (.ref b10), .val (.long ((64 : Int64) * mm)), .second, .val (.long ((((16 : Int64) * mm) * mm) - (512 : Int64))), .second, .val (.long (((((4 : Int64) * mm) * mm) * mm) - ((192 : Int64) * mm))), .second, .val (.long (((((mm * mm) * mm) * mm) - (((64 : Int64) * mm) * mm)) + (512 : Int64))), .second, .val (.long ((512 : Int64) * (z1.toInt64))), .second, .unset, .unset] [(.int nv)])) _
      refine XS.iconst X13.here hx rfl (hb hby at_268) ?_
      show Steps p.tables e below (T13.setTop (mkF m 269 #[.val (.int z0), .val (.int z1), .val (.int z2), .val (.int z3), .val (.int z4), .val (.int z5), .val (.int nv), .val (.long mm), .second, .val (.double d7), .second, .val (.ref b10), .val (.long ((64 : Int64) * mm)), .second, .val (.long ((((16 : Int64) * mm) * mm) - (512 : Int64))), .second, .val (.long (((((4 : Int64) * mm) * mm) * mm) - ((192 : Int64) * mm))), .second, .val (.long (((((mm * mm) * mm) * mm) - (((64 : Int64) * mm) * mm)) + (512 : Int64))), .second, .val (.long ((512 : Int64) * (z1.toInt64))), .second, .unset, .unset] [(.int (3 : Int32)), (.int nv)])) _
      refine XS.icmpYes X13.here hx rfl (pc0 := 269) (pc' := 282) rfl (hb hby at_269) rfl (tlt (by rw [hc35_9]; decide : nv < (3 : Int32))).1 (by decide) (by decide) ?_
      show Steps p.tables e below (T13.setTop (mkF m 282 #[.val (.int z0), .val (.int z1), .val (.int z2), .val (.int z3), .val (.int z4), .val (.int z5), .val (.int nv), .val (.long mm), .second, .val (.double d7), .second, .val (.ref b10), .val (.long ((64 : Int64) * mm)), .second, .val (.long ((((16 : Int64) * mm) * mm) - (512 : Int64))), .second, .val (.long (((((4 : Int64) * mm) * mm) * mm) - ((192 : Int64) * mm))), .second, .val (.long (((((mm * mm) * mm) * mm) - (((64 : Int64) * mm) * mm)) + (512 : Int64))), .second, .val (.long ((512 : Int64) * (z1.toInt64))), .second, .unset, .unset] [])) _
      refine XS.iload X13.here hx rfl (hb hby at_282) rfl ?_
      show Steps p.tables e below (T13.setTop (mkF m 284 #[.val (.int z0), .val (.int z1), .val (.int z2), .val (.int z3), .val (.int z4), .val (.int z5), .val (.int nv), .val (.long mm), .second, .val (.double d7), .second, .val (.ref b10), .val (.long ((64 : Int64) * mm)), .second, .val (.long ((((16 : Int64) * mm) * mm) - (512 : Int64))), .second, .val (.long (((((4 : Int64) * mm) * mm) * mm) - ((192 : Int64) * mm))), .second, .val (.long (((((mm * mm) * mm) * mm) - (((64 : Int64) * mm) * mm)) + (512 : Int64))), .second, .val (.long ((512 : Int64) * (z1.toInt64))), .second, .unset, .unset] [(.int nv)])) _
      refine XS.iconst X13.here hx rfl (hb hby at_284) ?_
      show Steps p.tables e below (T13.setTop (mkF m 285 #[.val (.int z0), .val (.int z1), .val (.int z2), .val (.int z3), .val (.int z4), .val (.int z5), .val (.int nv), .val (.long mm), .second, .val (.double d7), .second, .val (.ref b10), .val (.long ((64 : Int64) * mm)), .second, .val (.long ((((16 : Int64) * mm) * mm) - (512 : Int64))), .second, .val (.long (((((4 : Int64) * mm) * mm) * mm) - ((192 : Int64) * mm))), .second, .val (.long (((((mm * mm) * mm) * mm) - (((64 : Int64) * mm) * mm)) + (512 : Int64))), .second, .val (.long ((512 : Int64) * (z1.toInt64))), .second, .unset, .unset] [(.int (4 : Int32)), (.int nv)])) _
      refine XS.icmpYes X13.here hx rfl (pc0 := 285) (pc' := 299) rfl (hb hby at_285) rfl (tlt (by rw [hc35_9]; decide : nv < (4 : Int32))).1 (by decide) (by decide) ?_
      show Steps p.tables e below (T13.setTop (mkF m 299 #[.val (.int z0), .val (.int z1), .val (.int z2), .val (.int z3), .val (.int z4), .val (.int z5), .val (.int nv), .val (.long mm), .second, .val (.double d7), .second, .val (.ref b10), .val (.long ((64 : Int64) * mm)), .second, .val (.long ((((16 : Int64) * mm) * mm) - (512 : Int64))), .second, .val (.long (((((4 : Int64) * mm) * mm) * mm) - ((192 : Int64) * mm))), .second, .val (.long (((((mm * mm) * mm) * mm) - (((64 : Int64) * mm) * mm)) + (512 : Int64))), .second, .val (.long ((512 : Int64) * (z1.toInt64))), .second, .unset, .unset] [])) _
      refine XS.iload X13.here hx rfl (hb hby at_299) rfl ?_
      show Steps p.tables e below (T13.setTop (mkF m 301 #[.val (.int z0), .val (.int z1), .val (.int z2), .val (.int z3), .val (.int z4), .val (.int z5), .val (.int nv), .val (.long mm), .second, .val (.double d7), .second, .val (.ref b10), .val (.long ((64 : Int64) * mm)), .second, .val (.long ((((16 : Int64) * mm) * mm) - (512 : Int64))), .second, .val (.long (((((4 : Int64) * mm) * mm) * mm) - ((192 : Int64) * mm))), .second, .val (.long (((((mm * mm) * mm) * mm) - (((64 : Int64) * mm) * mm)) + (512 : Int64))), .second, .val (.long ((512 : Int64) * (z1.toInt64))), .second, .unset, .unset] [(.int nv)])) _
      refine XS.iconst X13.here hx rfl (hb hby at_301) ?_
      show Steps p.tables e below (T13.setTop (mkF m 302 #[.val (.int z0), .val (.int z1), .val (.int z2), .val (.int z3), .val (.int z4), .val (.int z5), .val (.int nv), .val (.long mm), .second, .val (.double d7), .second, .val (.ref b10), .val (.long ((64 : Int64) * mm)), .second, .val (.long ((((16 : Int64) * mm) * mm) - (512 : Int64))), .second, .val (.long (((((4 : Int64) * mm) * mm) * mm) - ((192 : Int64) * mm))), .second, .val (.long (((((mm * mm) * mm) * mm) - (((64 : Int64) * mm) * mm)) + (512 : Int64))), .second, .val (.long ((512 : Int64) * (z1.toInt64))), .second, .unset, .unset] [(.int (5 : Int32)), (.int nv)])) _
      refine XS.icmpYes X13.here hx rfl (pc0 := 302) (pc' := 316) rfl (hb hby at_302) rfl (tlt (by rw [hc35_9]; decide : nv < (5 : Int32))).1 (by decide) (by decide) ?_
      show Steps p.tables e below (T13.setTop (mkF m 316 #[.val (.int z0), .val (.int z1), .val (.int z2), .val (.int z3), .val (.int z4), .val (.int z5), .val (.int nv), .val (.long mm), .second, .val (.double d7), .second, .val (.ref b10), .val (.long ((64 : Int64) * mm)), .second, .val (.long ((((16 : Int64) * mm) * mm) - (512 : Int64))), .second, .val (.long (((((4 : Int64) * mm) * mm) * mm) - ((192 : Int64) * mm))), .second, .val (.long (((((mm * mm) * mm) * mm) - (((64 : Int64) * mm) * mm)) + (512 : Int64))), .second, .val (.long ((512 : Int64) * (z1.toInt64))), .second, .unset, .unset] [])) _
      refine XS.aload X13.here hx rfl (hb hby at_316) rfl rfl ?_
      show Steps p.tables e below (T13.setTop (mkF m 318 #[.val (.int z0), .val (.int z1), .val (.int z2), .val (.int z3), .val (.int z4), .val (.int z5), .val (.int nv), .val (.long mm), .second, .val (.double d7), .second, .val (.ref b10), .val (.long ((64 : Int64) * mm)), .second, .val (.long ((((16 : Int64) * mm) * mm) - (512 : Int64))), .second, .val (.long (((((4 : Int64) * mm) * mm) * mm) - ((192 : Int64) * mm))), .second, .val (.long (((((mm * mm) * mm) * mm) - (((64 : Int64) * mm) * mm)) + (512 : Int64))), .second, .val (.long ((512 : Int64) * (z1.toInt64))), .second, .unset, .unset] [(.ref b10)])) _
      refine XS.dload X13.here hx rfl (hb hby at_318) rfl ?_
      show Steps p.tables e below (T13.setTop (mkF m 320 #[.val (.int z0), .val (.int z1), .val (.int z2), .val (.int z3), .val (.int z4), .val (.int z5), .val (.int nv), .val (.long mm), .second, .val (.double d7), .second, .val (.ref b10), .val (.long ((64 : Int64) * mm)), .second, .val (.long ((((16 : Int64) * mm) * mm) - (512 : Int64))), .second, .val (.long (((((4 : Int64) * mm) * mm) * mm) - ((192 : Int64) * mm))), .second, .val (.long (((((mm * mm) * mm) * mm) - (((64 : Int64) * mm) * mm)) + (512 : Int64))), .second, .val (.long ((512 : Int64) * (z1.toInt64))), .second, .unset, .unset] [(.double d7), (.ref b10)])) _
      refine st14 _ ?_
      show Steps p.tables e below (T14.setTop (mkF m 323 #[.val (.int z0), .val (.int z1), .val (.int z2), .val (.int z3), .val (.int z4), .val (.int z5), .val (.int nv), .val (.long mm), .second, .val (.double d7), .second, .val (.ref b10), .val (.long ((64 : Int64) * mm)), .second, .val (.long ((((16 : Int64) * mm) * mm) - (512 : Int64))), .second, .val (.long (((((4 : Int64) * mm) * mm) * mm) - ((192 : Int64) * mm))), .second, .val (.long (((((mm * mm) * mm) * mm) - (((64 : Int64) * mm) * mm)) + (512 : Int64))), .second, .val (.long ((512 : Int64) * (z1.toInt64))), .second, .unset, .unset] [(.double r14)])) _
      refine XS.dstore X14.here hx rfl (hb hby at_323) rfl (l' := #[.val (.int z0), .val (.int z1), .val (.int z2), .val (.int z3), .val (.int z4), .val (.int z5), .val (.int nv), .val (.long mm), .second, .val (.double d7), .second, .val (.ref b10), .val (.long ((64 : Int64) * mm)), .second, .val (.long ((((16 : Int64) * mm) * mm) - (512 : Int64))), .second, .val (.long (((((4 : Int64) * mm) * mm) * mm) - ((192 : Int64) * mm))), .second, .val (.long (((((mm * mm) * mm) * mm) - (((64 : Int64) * mm) * mm)) + (512 : Int64))), .second, .val (.long ((512 : Int64) * (z1.toInt64))), .second, .val (.double r14), .second]) rfl ?_
      show Steps p.tables e below (T14.setTop (mkF m 325 #[.val (.int z0), .val (.int z1), .val (.int z2), .val (.int z3), .val (.int z4), .val (.int z5), .val (.int nv), .val (.long mm), .second, .val (.double d7), .second, .val (.ref b10), .val (.long ((64 : Int64) * mm)), .second, .val (.long ((((16 : Int64) * mm) * mm) - (512 : Int64))), .second, .val (.long (((((4 : Int64) * mm) * mm) * mm) - ((192 : Int64) * mm))), .second, .val (.long (((((mm * mm) * mm) * mm) - (((64 : Int64) * mm) * mm)) + (512 : Int64))), .second, .val (.long ((512 : Int64) * (z1.toInt64))), .second, .val (.double r14), .second] [])) _
      refine XS.dload X14.here hx rfl (hb hby at_325) rfl ?_
      show Steps p.tables e below (T14.setTop (mkF m 327 #[.val (.int z0), .val (.int z1), .val (.int z2), .val (.int z3), .val (.int z4), .val (.int z5), .val (.int nv), .val (.long mm), .second, .val (.double d7), .second, .val (.ref b10), .val (.long ((64 : Int64) * mm)), .second, .val (.long ((((16 : Int64) * mm) * mm) - (512 : Int64))), .second, .val (.long (((((4 : Int64) * mm) * mm) * mm) - ((192 : Int64) * mm))), .second, .val (.long (((((mm * mm) * mm) * mm) - (((64 : Int64) * mm) * mm)) + (512 : Int64))), .second, .val (.long ((512 : Int64) * (z1.toInt64))), .second, .val (.double r14), .second] [(.double r14)])) _
      refine X14.ldc2DoubleC hx hown (mvT hZ (hw _ (List.mem_of_getElem? (i := 12) rfl))) (g := (mkF m 327 #[.val (.int z0), .val (.int z1), .val (.int z2), .val (.int z3), .val (.int z4), .val (.int z5), .val (.int nv), .val (.long mm), .second, .val (.double d7), .second, .val (.ref b10), .val (.long ((64 : Int64) * mm)), .second, .val (.long ((((16 : Int64) * mm) * mm) - (512 : Int64))), .second, .val (.long (((((4 : Int64) * mm) * mm) * mm) - ((192 : Int64) * mm))), .second, .val (.long (((((mm * mm) * mm) * mm) - (((64 : Int64) * mm) * mm)) + (512 : Int64))), .second, .val (.long ((512 : Int64) * (z1.toInt64))), .second, .val (.double r14), .second] [(.double r14)])) rfl (hb hby at_327) _ ?_
      show Steps p.tables e below (T14.setTop (mkF m 330 #[.val (.int z0), .val (.int z1), .val (.int z2), .val (.int z3), .val (.int z4), .val (.int z5), .val (.int nv), .val (.long mm), .second, .val (.double d7), .second, .val (.ref b10), .val (.long ((64 : Int64) * mm)), .second, .val (.long ((((16 : Int64) * mm) * mm) - (512 : Int64))), .second, .val (.long (((((4 : Int64) * mm) * mm) * mm) - ((192 : Int64) * mm))), .second, .val (.long (((((mm * mm) * mm) * mm) - (((64 : Int64) * mm) * mm)) + (512 : Int64))), .second, .val (.long ((512 : Int64) * (z1.toInt64))), .second, .val (.double r14), .second] [(.double (4647714815446351872 : UInt64)), (.double r14)])) _
      refine XS.dmulS X14.here hx rfl (hb hby at_330) rfl nn15 v15 ?_
      show Steps p.tables e below (T14.setTop (mkF m 331 #[.val (.int z0), .val (.int z1), .val (.int z2), .val (.int z3), .val (.int z4), .val (.int z5), .val (.int nv), .val (.long mm), .second, .val (.double d7), .second, .val (.ref b10), .val (.long ((64 : Int64) * mm)), .second, .val (.long ((((16 : Int64) * mm) * mm) - (512 : Int64))), .second, .val (.long (((((4 : Int64) * mm) * mm) * mm) - ((192 : Int64) * mm))), .second, .val (.long (((((mm * mm) * mm) * mm) - (((64 : Int64) * mm) * mm)) + (512 : Int64))), .second, .val (.long ((512 : Int64) * (z1.toInt64))), .second, .val (.double r14), .second] [(.double d15)])) _
      refine XS.lload X14.here hx rfl (hb hby at_331) rfl ?_
      show Steps p.tables e below (T14.setTop (mkF m 333 #[.val (.int z0), .val (.int z1), .val (.int z2), .val (.int z3), .val (.int z4), .val (.int z5), .val (.int nv), .val (.long mm), .second, .val (.double d7), .second, .val (.ref b10), .val (.long ((64 : Int64) * mm)), .second, .val (.long ((((16 : Int64) * mm) * mm) - (512 : Int64))), .second, .val (.long (((((4 : Int64) * mm) * mm) * mm) - ((192 : Int64) * mm))), .second, .val (.long (((((mm * mm) * mm) * mm) - (((64 : Int64) * mm) * mm)) + (512 : Int64))), .second, .val (.long ((512 : Int64) * (z1.toInt64))), .second, .val (.double r14), .second] [(.long ((512 : Int64) * (z1.toInt64))), (.double d15)])) _
      refine XS.l2dS X14.here hx rfl (hb hby at_333) rfl v17 ?_
      show Steps p.tables e below (T14.setTop (mkF m 334 #[.val (.int z0), .val (.int z1), .val (.int z2), .val (.int z3), .val (.int z4), .val (.int z5), .val (.int nv), .val (.long mm), .second, .val (.double d7), .second, .val (.ref b10), .val (.long ((64 : Int64) * mm)), .second, .val (.long ((((16 : Int64) * mm) * mm) - (512 : Int64))), .second, .val (.long (((((4 : Int64) * mm) * mm) * mm) - ((192 : Int64) * mm))), .second, .val (.long (((((mm * mm) * mm) * mm) - (((64 : Int64) * mm) * mm)) + (512 : Int64))), .second, .val (.long ((512 : Int64) * (z1.toInt64))), .second, .val (.double r14), .second] [(.double d17), (.double d15)])) _
      refine XS.dcmpS X14.here hx rfl (hb hby at_334) rfl (v := (0 : Int32)) q18 ?_
      show Steps p.tables e below (T14.setTop (mkF m 335 #[.val (.int z0), .val (.int z1), .val (.int z2), .val (.int z3), .val (.int z4), .val (.int z5), .val (.int nv), .val (.long mm), .second, .val (.double d7), .second, .val (.ref b10), .val (.long ((64 : Int64) * mm)), .second, .val (.long ((((16 : Int64) * mm) * mm) - (512 : Int64))), .second, .val (.long (((((4 : Int64) * mm) * mm) * mm) - ((192 : Int64) * mm))), .second, .val (.long (((((mm * mm) * mm) * mm) - (((64 : Int64) * mm) * mm)) + (512 : Int64))), .second, .val (.long ((512 : Int64) * (z1.toInt64))), .second, .val (.double r14), .second] [(.int (0 : Int32))])) _
      refine XS.ifNo X14.here hx rfl (hb hby at_335) rfl ((if0 _ _).trans (teq (by decide : (0 : Int32) = (0 : Int32))).2) ?_
      show Steps p.tables e below (T14.setTop (mkF m 338 #[.val (.int z0), .val (.int z1), .val (.int z2), .val (.int z3), .val (.int z4), .val (.int z5), .val (.int nv), .val (.long mm), .second, .val (.double d7), .second, .val (.ref b10), .val (.long ((64 : Int64) * mm)), .second, .val (.long ((((16 : Int64) * mm) * mm) - (512 : Int64))), .second, .val (.long (((((4 : Int64) * mm) * mm) * mm) - ((192 : Int64) * mm))), .second, .val (.long (((((mm * mm) * mm) * mm) - (((64 : Int64) * mm) * mm)) + (512 : Int64))), .second, .val (.long ((512 : Int64) * (z1.toInt64))), .second, .val (.double r14), .second] [])) _
      refine XS.iconst X14.here hx rfl (hb hby at_338) ?_
      show Steps p.tables e below (T14.setTop (mkF m 339 #[.val (.int z0), .val (.int z1), .val (.int z2), .val (.int z3), .val (.int z4), .val (.int z5), .val (.int nv), .val (.long mm), .second, .val (.double d7), .second, .val (.ref b10), .val (.long ((64 : Int64) * mm)), .second, .val (.long ((((16 : Int64) * mm) * mm) - (512 : Int64))), .second, .val (.long (((((4 : Int64) * mm) * mm) * mm) - ((192 : Int64) * mm))), .second, .val (.long (((((mm * mm) * mm) * mm) - (((64 : Int64) * mm) * mm)) + (512 : Int64))), .second, .val (.long ((512 : Int64) * (z1.toInt64))), .second, .val (.double r14), .second] [(.int (1 : Int32))])) _
      refine XS.goto X14.here hx rfl (pc0 := 339) (pc' := 343) rfl (hb hby at_339) (by decide) (by decide) ?_
      show Steps p.tables e below (T14.setTop (mkF m 343 #[.val (.int z0), .val (.int z1), .val (.int z2), .val (.int z3), .val (.int z4), .val (.int z5), .val (.int nv), .val (.long mm), .second, .val (.double d7), .second, .val (.ref b10), .val (.long ((64 : Int64) * mm)), .second, .val (.long ((((16 : Int64) * mm) * mm) - (512 : Int64))), .second, .val (.long (((((4 : Int64) * mm) * mm) * mm) - ((192 : Int64) * mm))), .second, .val (.long (((((mm * mm) * mm) * mm) - (((64 : Int64) * mm) * mm)) + (512 : Int64))), .second, .val (.long ((512 : Int64) * (z1.toInt64))), .second, .val (.double r14), .second] [(.int (1 : Int32))])) _
      exact retN X14 hx (t := .boolean) Bd.returns (by simp) (hb hby at_343) hr
    · show Q0 Z z0 z1 z2 z3 z4 z5 h0 n0 _ T14.heap _
      rw [hh14]
      exact ⟨rfl, N14⟩
  · have pre19 : ∀ t, Steps p.tables e below (s₁.setTop (mkF m 54 #[.val (.int z0), .val (.int z1), .val (.int z2), .val (.int z3), .val (.int z4), .val (.int z5), .val (.int nv), .val (.long mm), .second, .val (.double d7), .second, .unset, .unset, .unset, .unset, .unset, .unset, .unset, .unset, .unset, .unset, .unset, .unset, .unset] [(.int (2 : Int32)), (.int nv)])) t → Steps p.tables e below (s₁.setTop (entryFrame m #[(.int z0), (.int z1), (.int z2), (.int z3), (.int z4), (.int z5)] maxLocals)) t := by
      intro t kt
      refine pre8 t ?_
      show Steps p.tables e below (s₁.setTop (mkF m 35 #[.val (.int z0), .val (.int z1), .val (.int z2), .val (.int z3), .val (.int z4), .val (.int z5), .val (.int nv), .val (.long mm), .second, .val (.double d7), .second, .unset, .unset, .unset, .unset, .unset, .unset, .unset, .unset, .unset, .unset, .unset, .unset, .unset] [(.int (1 : Int32)), (.int nv)])) _
      refine XS.icmpYes X0.here hx rfl (pc0 := 35) (pc' := 51) rfl (hb hby at_35) rfl (feq hc35_9).2 (by decide) (by decide) ?_
      show Steps p.tables e below (s₁.setTop (mkF m 51 #[.val (.int z0), .val (.int z1), .val (.int z2), .val (.int z3), .val (.int z4), .val (.int z5), .val (.int nv), .val (.long mm), .second, .val (.double d7), .second, .unset, .unset, .unset, .unset, .unset, .unset, .unset, .unset, .unset, .unset, .unset, .unset, .unset] [])) _
      refine XS.iload X0.here hx rfl (hb hby at_51) rfl ?_
      show Steps p.tables e below (s₁.setTop (mkF m 53 #[.val (.int z0), .val (.int z1), .val (.int z2), .val (.int z3), .val (.int z4), .val (.int z5), .val (.int nv), .val (.long mm), .second, .val (.double d7), .second, .unset, .unset, .unset, .unset, .unset, .unset, .unset, .unset, .unset, .unset, .unset, .unset, .unset] [(.int nv)])) _
      refine XS.iconst X0.here hx rfl (hb hby at_53) ?_
      exact kt
    by_cases hc54_20 : nv = (2 : Int32)
    · obtain ⟨T21, h21, k21, X21, e21, E21, A21, st21⟩ := newP X0 hx hZ (hw _ (List.mem_of_getElem? (i := 2) rfl)) e0 (g := (mkF m 58 #[.val (.int z0), .val (.int z1), .val (.int z2), .val (.int z3), .val (.int z4), .val (.int z5), .val (.int nv), .val (.long mm), .second, .val (.double d7), .second, .unset, .unset, .unset, .unset, .unset, .unset, .unset, .unset, .unset, .unset, .unset, .unset, .unset] [(.int (2 : Int32))])) rfl (hb hby at_58) rfl (by decide) (cap := 2) (by decide) (by decide) (by decide) (by decide)
      obtain ⟨b21, g21⟩ : ∃ z, z = h0.size := ⟨_, rfl⟩
      rw [← g21] at A21 st21
      have g_b21 : n0 ≤ b21 := Nat.le_trans Z0 (Nat.le_of_eq g21.symm)
      have sz_b21 : h0.size ≤ b21 := Nat.le_trans K0.1 (Nat.le_of_eq g21.symm)
      have Zs21 : n0 ≤ h21.size := Nat.le_trans Z0 E21.1
      have K21 : Keep h0 h21 [] := K0.ext E21
      have V_b21 : own_B Z h21 b21 [0, 0] := own_B.new A21 rfl
      have B22 : (z1.toInt : Int).natAbs ≤ 2147483648 := own_Bi z1
      obtain ⟨d22, v22⟩ : ∃ z : UInt64, FP.i2d z1 = z := ⟨_, rfl⟩
      have D22 : own_Dy 0 z1.toInt d22 := by
        rw [← v22]
        exact own_Di z1
      have nn22 : Jvm.Free.Fl.NoNaN64 (FP.i2d z1) := by
        rw [v22]
        exact Jvm.Free.Fl.val64_no.mpr (own_Dy_num D22)
      obtain ⟨cl6423, Ar6423, Sq6423⟩ := V_b21
      have S6423 : cl6423.slots.size = ((2 : Int32)).toNatClampNeg := own_B.size Sq6423 rfl
      have hin6423 : ¬ ((0 : Int32) < 0 ∨ cl6423.slots.size ≤ ((0 : Int32)).toNatClampNeg) := inb_of S6423 ⟨by decide, by decide⟩
      obtain ⟨T24, h24, X24, e24, W24, st24⟩ := stD X21 hx hZ e21 Ar6423 (j := (0 : Int32)) hin6423 (g := (mkF m 64 #[.val (.int z0), .val (.int z1), .val (.int z2), .val (.int z3), .val (.int z4), .val (.int z5), .val (.int nv), .val (.long mm), .second, .val (.double d7), .second, .unset, .unset, .unset, .unset, .unset, .unset, .unset, .unset, .unset, .unset, .unset, .unset, .unset] [(.double d22), (.int (0 : Int32)), (.ref b21), (.ref b21)])) rfl rfl (hb hby at_64)
      have Zs24 : n0 ≤ h24.size := Nat.le_trans Zs21 (Keep.of_wr W24).1
      have K24 : Keep h0 h24 [] := K21.wr W24 (Or.inr sz_b21)
      have N24 := Fr.snoc X24 N0 g_b21
      have V_b21 : own_B Z h24 b21 [d22, 0] := own_B.set Ar6423 Sq6423 W24 rfl
      have B25 : (z2.toInt : Int).natAbs ≤ 2147483648 := own_Bi z2
      obtain ⟨d25, v25⟩ : ∃ z : UInt64, FP.i2d z2 = z := ⟨_, rfl⟩
      have D25 : own_Dy 0 z2.toInt d25 := by
        rw [← v25]
        exact own_Di z2
      have nn25 : Jvm.Free.Fl.NoNaN64 (FP.i2d z2) := by
        rw [v25]
        exact Jvm.Free.Fl.val64_no.mpr (own_Dy_num D25)
      obtain ⟨cl6926, Ar6926, Sq6926⟩ := V_b21
      have S6926 : cl6926.slots.size = ((2 : Int32)).toNatClampNeg := own_B.size Sq6926 rfl
      have hin6926 : ¬ ((1 : Int32) < 0 ∨ cl6926.slots.size ≤ ((1 : Int32)).toNatClampNeg) := inb_of S6926 ⟨by decide, by decide⟩
      obtain ⟨T27, h27, X27, e27, W27, st27⟩ := stD X24 hx hZ e24 Ar6926 (j := (1 : Int32)) hin6926 (g := (mkF m 69 #[.val (.int z0), .val (.int z1), .val (.int z2), .val (.int z3), .val (.int z4), .val (.int z5), .val (.int nv), .val (.long mm), .second, .val (.double d7), .second, .unset, .unset, .unset, .unset, .unset, .unset, .unset, .unset, .unset, .unset, .unset, .unset, .unset] [(.double d25), (.int (1 : Int32)), (.ref b21), (.ref b21)])) rfl rfl (hb hby at_69)
      have Zs27 : n0 ≤ h27.size := Nat.le_trans Zs24 (Keep.of_wr W27).1
      have K27 : Keep h0 h27 [] := K24.wr W27 (Or.inr sz_b21)
      have N27 := Fr.snoc X27 N24 g_b21
      have V_b21 : own_B Z h27 b21 [d22, d25] := own_B.set Ar6926 Sq6926 W27 rfl
      obtain ⟨_, _, ⟨T28, L28, k28, n28⟩, -, X28, ⟨Lc28, hQ28, l28, y28, z28⟩, st28⟩ := Jvm.LawKit.callS X27 hx (y := (⟨"com/example/matchstat/matchstat/Chebyshev", "sum", "([DD)D"⟩ : MethodName)) hown (mvT hZ (hw _ (List.mem_of_getElem? (i := 8) rfl))) (mvT hZ (hw _ (List.mem_of_getElem? (i := 9) rfl))) (mvT hZ (hw _ (List.mem_of_getElem? (i := 10) rfl))) (mvT hZ (hw _ (List.mem_of_getElem? (i := 11) rfl))) (by decide) (backOf (W := 0) (rm1s2 l Z a0 hw [] b21 d7 d22 d25 mm.toInt z1.toInt z2.toInt h27 n0 Zs27 V_b21 D7 B7 D22 B22 D25 B25) hZ (hw _ (List.mem_of_getElem? (i := 11) rfl)) (hw _ (List.mem_of_getElem? (i := 10) rfl)) (by decide) (by decide)) (g := (mkF m 320 #[.val (.int z0), .val (.int z1), .val (.int z2), .val (.int z3), .val (.int z4), .val (.int z5), .val (.int nv), .val (.long mm), .second, .val (.double d7), .second, .val (.ref b21), .val (.long ((64 : Int64) * mm)), .second, .val (.long ((((16 : Int64) * mm) * mm) - (512 : Int64))), .second, .val (.long (((((4 : Int64) * mm) * mm) * mm) - ((192 : Int64) * mm))), .second, .val (.long (((((mm * mm) * mm) * mm) - (((64 : Int64) * mm) * mm)) + (512 : Int64))), .second, .val (.long (((512 : Int64) * (z1.toInt64)) + ((z2.toInt64) * ((64 : Int64) * mm)))), .second, .unset, .unset] [(.double d7), (.ref b21)])) rfl (by rw [hml]; rfl) (argsL := [(.ref b21), (.double d7)]) (rest := []) (lenOf pd0_0 rfl) rfl (by show 2 * 0 + _ ≤ _; exact Nat.le_of_eq rfl) (hb hby at_320) (fun _ _ => ⟨rfl, e27, (by decide : 1 + 0 ≤ _), (by decide : 2 + 0 ≤ _)⟩)
      dsimp only [Pt.U, Pt.locs, Pt.cells, Pt.slots] at X28 l28 y28 z28 st28 hQ28
      subst l28 y28 z28
      obtain ⟨r28, rfl, N28q, hh28, Dr28, Br28⟩ := hQ28
      have N28 := Fr.app N27 N28q
      have B29 : (((((z1.toInt * 64) + (mm.toInt * (((z2.toInt * 8) + ((2 * mm.toInt) * 0)) - (0 * 8)))) - (0 * 64)) * 8) : Int).natAbs ≤ 2199023255552 := (own_bmul (C := 2199023255552) Br28 (by decide : (8 : Int).natAbs ≤ 8) (by decide))
      obtain ⟨d29, v29⟩ : ∃ z : UInt64, FP.dmul r28 (4647714815446351872 : UInt64) = z := ⟨_, rfl⟩
      have D29 : own_Dy 0 ((((z1.toInt * 64) + (mm.toInt * (((z2.toInt * 8) + ((2 * mm.toInt) * 0)) - (0 * 8)))) - (0 * 64)) * 8) d29 := by
        rw [← v29]
        exact own_Dy_mul512 rfl (by decide) (own_Dy_up (K := 9) (p := 8) 3 rfl (by decide) Dr28) (Nat.le_trans B29 (by decide))
      have nn29 : Jvm.Free.Fl.NoNaN64 (FP.dmul r28 (4647714815446351872 : UInt64)) := by
        rw [v29]
        exact Jvm.Free.Fl.val64_no.mpr (own_Dy_num D29)
      have l30 : own_L (((512 : Int64) * (z1.toInt64)) + ((z2.toInt64) * ((64 : Int64) * mm))) ((512 * z1.toInt) + (z2.toInt * (64 * mm.toInt))) 2199023255552 := (own_L_add (own_L_mul (⟨by decide, by decide⟩ : own_L (512 : Int64) 512 512) (own_L_i z1) (C := 1099511627776) (by decide) (by decide)) (own_L_mul (own_L_i z2) (own_L_mul (⟨by decide, by decide⟩ : own_L (64 : Int64) 64 64) hL (C := 512) (by decide) (by decide)) (C := 1099511627776) (by decide) (by decide)) (C := 2199023255552) (by decide) (by decide))
      have B31 : (((512 * z1.toInt) + (z2.toInt * (64 * mm.toInt))) : Int).natAbs ≤ 2199023255552 := l30.2
      obtain ⟨d31, v31⟩ : ∃ z : UInt64, FP.l2d (((512 : Int64) * (z1.toInt64)) + ((z2.toInt64) * ((64 : Int64) * mm))) = z := ⟨_, rfl⟩
      have D31 : own_Dy 0 ((512 * z1.toInt) + (z2.toInt * (64 * mm.toInt))) d31 := by
        rw [← v31]
        exact own_L_d l30 (by decide)
      have nn31 : Jvm.Free.Fl.NoNaN64 (FP.l2d (((512 : Int64) * (z1.toInt64)) + ((z2.toInt64) * ((64 : Int64) * mm)))) := by
        rw [v31]
        exact Jvm.Free.Fl.val64_no.mpr (own_Dy_num D31)
      have q32 : cmpValue (FP.dcmp d29 d31) .l = 0 := own_cmp0 D29 D31 (own_id2 mm.toInt z1.toInt z2.toInt) .l
      obtain ⟨fs, hr, hrun, hended, hW, hsame⟩ := X28.leave (v := some (.int (1 : Int32))) (fun h => by rw [Bd.returns] at h; cases h)
      refine ⟨_, _, pre19 _ ?_, hrun, hended, _, _, rfl, ?_, ⟨_, rfl⟩, hW, hsame.mono (by decide) (by decide)⟩
      · show Steps p.tables e below (s₁.setTop (mkF m 54 #[.val (.int z0), .val (.int z1), .val (.int z2), .val (.int z3), .val (.int z4), .val (.int z5), .val (.int nv), .val (.long mm), .second, .val (.double d7), .second, .unset, .unset, .unset, .unset, .unset, .unset, .unset, .unset, .unset, .unset, .unset, .unset, .unset] [(.int (2 : Int32)), (.int nv)])) _
        refine XS.icmpNo X0.here hx rfl (hb hby at_54) rfl (teq hc54_20).2 ?_
        show Steps p.tables e below (s₁.setTop (mkF m 57 #[.val (.int z0), .val (.int z1), .val (.int z2), .val (.int z3), .val (.int z4), .val (.int z5), .val (.int nv), .val (.long mm), .second, .val (.double d7), .second, .unset, .unset, .unset, .unset, .unset, .unset, .unset, .unset, .unset, .unset, .unset, .unset, .unset] [])) _
        refine XS.iconst X0.here hx rfl (hb hby at_57) ?_
        show Steps p.tables e below (s₁.setTop (mkF m 58 #[.val (.int z0), .val (.int z1), .val (.int z2), .val (.int z3), .val (.int z4), .val (.int z5), .val (.int nv), .val (.long mm), .second, .val (.double d7), .second, .unset, .unset, .unset, .unset, .unset, .unset, .unset, .unset, .unset, .unset, .unset, .unset, .unset] [(.int (2 : Int32))])) _
        refine st21 _ ?_
        show Steps p.tables e below (T21.setTop (mkF m 60 #[.val (.int z0), .val (.int z1), .val (.int z2), .val (.int z3), .val (.int z4), .val (.int z5), .val (.int nv), .val (.long mm), .second, .val (.double d7), .second, .unset, .unset, .unset, .unset, .unset, .unset, .unset, .unset, .unset, .unset, .unset, .unset, .unset] [(.ref b21)])) _
        refine XS.dup X21.here hx rfl (hb hby at_60) rfl rfl ?_
        show Steps p.tables e below (T21.setTop (mkF m 61 #[.val (.int z0), .val (.int z1), .val (.int z2), .val (.int z3), .val (.int z4), .val (.int z5), .val (.int nv), .val (.long mm), .second, .val (.double d7), .second, .unset, .unset, .unset, .unset, .unset, .unset, .unset, .unset, .unset, .unset, .unset, .unset, .unset] [(.ref b21), (.ref b21)])) _
        refine XS.iconst X21.here hx rfl (hb hby at_61) ?_
        show Steps p.tables e below (T21.setTop (mkF m 62 #[.val (.int z0), .val (.int z1), .val (.int z2), .val (.int z3), .val (.int z4), .val (.int z5), .val (.int nv), .val (.long mm), .second, .val (.double d7), .second, .unset, .unset, .unset, .unset, .unset, .unset, .unset, .unset, .unset, .unset, .unset, .unset, .unset] [(.int (0 : Int32)), (.ref b21), (.ref b21)])) _
        refine XS.iloadN X21.here hx rfl (hb hby at_62) rfl ?_
        show Steps p.tables e below (T21.setTop (mkF m 63 #[.val (.int z0), .val (.int z1), .val (.int z2), .val (.int z3), .val (.int z4), .val (.int z5), .val (.int nv), .val (.long mm), .second, .val (.double d7), .second, .unset, .unset, .unset, .unset, .unset, .unset, .unset, .unset, .unset, .unset, .unset, .unset, .unset] [(.int z1), (.int (0 : Int32)), (.ref b21), (.ref b21)])) _
        refine XS.i2dS X21.here hx rfl (hb hby at_63) rfl v22 ?_
        show Steps p.tables e below (T21.setTop (mkF m 64 #[.val (.int z0), .val (.int z1), .val (.int z2), .val (.int z3), .val (.int z4), .val (.int z5), .val (.int nv), .val (.long mm), .second, .val (.double d7), .second, .unset, .unset, .unset, .unset, .unset, .unset, .unset, .unset, .unset, .unset, .unset, .unset, .unset] [(.double d22), (.int (0 : Int32)), (.ref b21), (.ref b21)])) _
        refine st24 _ ?_
        show Steps p.tables e below (T24.setTop (mkF m 65 #[.val (.int z0), .val (.int z1), .val (.int z2), .val (.int z3), .val (.int z4), .val (.int z5), .val (.int nv), .val (.long mm), .second, .val (.double d7), .second, .unset, .unset, .unset, .unset, .unset, .unset, .unset, .unset, .unset, .unset, .unset, .unset, .unset] [(.ref b21)])) _
        refine XS.dup X24.here hx rfl (hb hby at_65) rfl rfl ?_
        show Steps p.tables e below (T24.setTop (mkF m 66 #[.val (.int z0), .val (.int z1), .val (.int z2), .val (.int z3), .val (.int z4), .val (.int z5), .val (.int nv), .val (.long mm), .second, .val (.double d7), .second, .unset, .unset, .unset, .unset, .unset, .unset, .unset, .unset, .unset, .unset, .unset, .unset, .unset] [(.ref b21), (.ref b21)])) _
        refine XS.iconst X24.here hx rfl (hb hby at_66) ?_
        show Steps p.tables e below (T24.setTop (mkF m 67 #[.val (.int z0), .val (.int z1), .val (.int z2), .val (.int z3), .val (.int z4), .val (.int z5), .val (.int nv), .val (.long mm), .second, .val (.double d7), .second, .unset, .unset, .unset, .unset, .unset, .unset, .unset, .unset, .unset, .unset, .unset, .unset, .unset] [(.int (1 : Int32)), (.ref b21), (.ref b21)])) _
        refine XS.iloadN X24.here hx rfl (hb hby at_67) rfl ?_
        show Steps p.tables e below (T24.setTop (mkF m 68 #[.val (.int z0), .val (.int z1), .val (.int z2), .val (.int z3), .val (.int z4), .val (.int z5), .val (.int nv), .val (.long mm), .second, .val (.double d7), .second, .unset, .unset, .unset, .unset, .unset, .unset, .unset, .unset, .unset, .unset, .unset, .unset, .unset] [(.int z2), (.int (1 : Int32)), (.ref b21), (.ref b21)])) _
        refine XS.i2dS X24.here hx rfl (hb hby at_68) rfl v25 ?_
        show Steps p.tables e below (T24.setTop (mkF m 69 #[.val (.int z0), .val (.int z1), .val (.int z2), .val (.int z3), .val (.int z4), .val (.int z5), .val (.int nv), .val (.long mm), .second, .val (.double d7), .second, .unset, .unset, .unset, .unset, .unset, .unset, .unset, .unset, .unset, .unset, .unset, .unset, .unset] [(.double d25), (.int (1 : Int32)), (.ref b21), (.ref b21)])) _
        refine st27 _ ?_
        show Steps p.tables e below (T27.setTop (mkF m 70 #[.val (.int z0), .val (.int z1), .val (.int z2), .val (.int z3), .val (.int z4), .val (.int z5), .val (.int nv), .val (.long mm), .second, .val (.double d7), .second, .unset, .unset, .unset, .unset, .unset, .unset, .unset, .unset, .unset, .unset, .unset, .unset, .unset] [(.ref b21)])) _
        refine XS.astore X27.here hx rfl (hb hby at_70) rfl rfl (l' := #[.val (.int z0), .val (.int z1), .val (.int z2), .val (.int z3), .val (.int z4), .val (.int z5), .val (.int nv), .val (.long mm), .second, .val (.double d7), .second, .val (.ref b21), .unset, .unset, .unset, .unset, .unset, .unset, .unset, .unset, .unset, .unset, .unset, .unset]) rfl ?_
        show Steps p.tables e below (T27.setTop (mkF m 72 #[.val (.int z0), .val (.int z1), .val (.int z2), .val (.int z3), .val (.int z4), .val (.int z5), .val (.int nv), .val (.long mm), .second, .val (.double d7), .second, .val (.ref b21), .unset, .unset, .unset, .unset, .unset, .unset, .unset, .unset, .unset, .unset, .unset, .unset] [])) _
        refine XS.goto X27.here hx rfl (pc0 := 72) (pc' := 171) rfl (hb hby at_72) (by decide) (by decide) ?_
        show Steps p.tables e below (T27.setTop (mkF m 171 #[.val (.int z0), .val (.int z1), .val (.int z2), .val (.int z3), .val (.int z4), .val (.int z5), .val (.int nv), .val (.long mm), .second, .val (.double d7), .second, .val (.ref b21), .unset, .unset, .unset, .unset, .unset, .unset, .unset, .unset, .unset, .unset, .unset, .unset] [])) _
        refine X27.ldc2Long hx hown (mvT hZ (hw _ (List.mem_of_getElem? (i := 3) rfl))) (g := (mkF m 171 #[.val (.int z0), .val (.int z1), .val (.int z2), .val (.int z3), .val (.int z4), .val (.int z5), .val (.int nv), .val (.long mm), .second, .val (.double d7), .second, .val (.ref b21), .unset, .unset, .unset, .unset, .unset, .unset, .unset, .unset, .unset, .unset, .unset, .unset] [])) rfl (hb hby at_171) _ ?_
        show Steps p.tables e below (T27.setTop (mkF m 174 #[.val (.int z0), .val (.int z1), .val (.int z2), .val (.int z3), .val (.int z4), .val (.int z5), .val (.int nv), .val (.long mm), .second, .val (.double d7), .second, .val (.ref b21), .unset, .unset, .unset, .unset, .unset, .unset, .unset, .unset, .unset, .unset, .unset, .unset] [(.long (64 : Int64))])) _
        refine XS.lload X27.here hx rfl (hb hby at_174) rfl ?_
        show Steps p.tables e below (T27.setTop (mkF m 176 #[.val (.int z0), .val (.int z1), .val (.int z2), .val (.int z3), .val (.int z4), .val (.int z5), .val (.int nv), .val (.long mm), .second, .val (.double d7), .second, .val (.ref b21), .unset, .unset, .unset, .unset, .unset, .unset, .unset, .unset, .unset, .unset, .unset, .unset] [(.long mm), (.long (64 : Int64))])) _
        refine XS.lmul X27.here hx rfl (hb hby at_176) rfl ?_
        show Steps p.tables e below (T27.setTop (mkF m 177 #[.val (.int z0), .val (.int z1), .val (.int z2), .val (.int z3), .val (.int z4), .val (.int z5), .val (.int nv), .val (.long mm), .second, .val (.double d7), .second, .val (.ref b21), .unset, .unset, .unset, .unset, .unset, .unset, .unset, .unset, .unset, .unset, .unset, .unset] [(.long ((64 : Int64) * mm))])) _
        refine XS.lstore X27.here hx rfl (hb hby at_177) rfl (l' := #[.val (.int z0), .val (.int z1), .val (.int z2), .val (.int z3), .val (.int z4), .val (.int z5), .val (.int nv), .val (.long mm), .second, .val (.double d7), .second, .val (.ref b21), .val (.long ((64 : Int64) * mm)), .second, .unset, .unset, .unset, .unset, .unset, .unset, .unset, .unset, .unset, .unset]) rfl ?_
        show Steps p.tables e below (T27.setTop (mkF m 179 #[.val (.int z0), .val (.int z1), .val (.int z2), .val (.int z3), .val (.int z4), .val (.int z5), .val (.int nv), .val (.long mm), .second, .val (.double d7), .second, .val (.ref b21), .val (.long ((64 : Int64) * mm)), .second, .unset, .unset, .unset, .unset, .unset, .unset, .unset, .unset, .unset, .unset] [])) _
        refine X27.ldc2Long hx hown (mvT hZ (hw _ (List.mem_of_getElem? (i := 4) rfl))) (g := (mkF m 179 #[.val (.int z0), .val (.int z1), .val (.int z2), .val (.int z3), .val (.int z4), .val (.int z5), .val (.int nv), .val (.long mm), .second, .val (.double d7), .second, .val (.ref b21), .val (.long ((64 : Int64) * mm)), .second, .unset, .unset, .unset, .unset, .unset, .unset, .unset, .unset, .unset, .unset] [])) rfl (hb hby at_179) _ ?_
        show Steps p.tables e below (T27.setTop (mkF m 182 #[.val (.int z0), .val (.int z1), .val (.int z2), .val (.int z3), .val (.int z4), .val (.int z5), .val (.int nv), .val (.long mm), .second, .val (.double d7), .second, .val (.ref b21), .val (.long ((64 : Int64) * mm)), .second, .unset, .unset, .unset, .unset, .unset, .unset, .unset, .unset, .unset, .unset] [(.long (16 : Int64))])) _
        refine XS.lload X27.here hx rfl (hb hby at_182) rfl ?_
        show Steps p.tables e below (T27.setTop (mkF m 184 #[.val (.int z0), .val (.int z1), .val (.int z2), .val (.int z3), .val (.int z4), .val (.int z5), .val (.int nv), .val (.long mm), .second, .val (.double d7), .second, .val (.ref b21), .val (.long ((64 : Int64) * mm)), .second, .unset, .unset, .unset, .unset, .unset, .unset, .unset, .unset, .unset, .unset] [(.long mm), (.long (16 : Int64))])) _
        refine XS.lmul X27.here hx rfl (hb hby at_184) rfl ?_
        show Steps p.tables e below (T27.setTop (mkF m 185 #[.val (.int z0), .val (.int z1), .val (.int z2), .val (.int z3), .val (.int z4), .val (.int z5), .val (.int nv), .val (.long mm), .second, .val (.double d7), .second, .val (.ref b21), .val (.long ((64 : Int64) * mm)), .second, .unset, .unset, .unset, .unset, .unset, .unset, .unset, .unset, .unset, .unset] [(.long ((16 : Int64) * mm))])) _
        refine XS.lload X27.here hx rfl (hb hby at_185) rfl ?_
        show Steps p.tables e below (T27.setTop (mkF m 187 #[.val (.int z0), .val (.int z1), .val (.int z2), .val (.int z3), .val (.int z4), .val (.int z5), .val (.int nv), .val (.long mm), .second, .val (.double d7), .second, .val (.ref b21), .val (.long ((64 : Int64) * mm)), .second, .unset, .unset, .unset, .unset, .unset, .unset, .unset, .unset, .unset, .unset] [(.long mm), (.long ((16 : Int64) * mm))])) _
        refine XS.lmul X27.here hx rfl (hb hby at_187) rfl ?_
        show Steps p.tables e below (T27.setTop (mkF m 188 #[.val (.int z0), .val (.int z1), .val (.int z2), .val (.int z3), .val (.int z4), .val (.int z5), .val (.int nv), .val (.long mm), .second, .val (.double d7), .second, .val (.ref b21), .val (.long ((64 : Int64) * mm)), .second, .unset, .unset, .unset, .unset, .unset, .unset, .unset, .unset, .unset, .unset] [(.long (((16 : Int64) * mm) * mm))])) _
        refine X27.ldc2Long hx hown (mvT hZ (hw _ (List.mem_of_getElem? (i := 5) rfl))) (g := (mkF m 188 #[.val (.int z0), .val (.int z1), .val (.int z2), .val (.int z3), .val (.int z4), .val (.int z5), .val (.int nv), .val (.long mm), .second, .val (.double d7), .second, .val (.ref b21), .val (.long ((64 : Int64) * mm)), .second, .unset, .unset, .unset, .unset, .unset, .unset, .unset, .unset, .unset, .unset] [(.long (((16 : Int64) * mm) * mm))])) rfl (hb hby at_188) _ ?_
        show Steps p.tables e below (T27.setTop (mkF m 191 #[.val (.int z0), .val (.int z1), .val (.int z2), .val (.int z3), .val (.int z4), .val (.int z5), .val (.int nv), .val (.long mm), .second, .val (.double d7), .second, .val (.ref b21), .val (.long ((64 : Int64) * mm)), .second, .unset, .unset, .unset, .unset, .unset, .unset, .unset, .unset, .unset, .unset] [(.long (512 : Int64)), (.long (((16 : Int64) * mm) * mm))])) _
        refine XS.lsub X27.here hx rfl (hb hby at_191) rfl ?_
        show Steps p.tables e below (T27.setTop (mkF m 192 #[.val (.int z0), .val (.int z1), .val (.int z2), .val (.int z3), .val (.int z4), .val (.int z5), .val (.int nv), .val (.long mm), .second, .val (.double d7), .second, .val (.ref b21), .val (.long ((64 : Int64) * mm)), .second, .unset, .unset, .unset, .unset, .unset, .unset, .unset, .unset, .unset, .unset] [(.long ((((16 : Int64) * mm) * mm) - (512 : Int64)))])) _
        refine XS.lstore X27.here hx rfl (hb hby at_192) rfl (l' := #[.val (.int z0), .val (.int z1), .val (.int z2), .val (.int z3), .val (.int z4), .val (.int z5), .val (.int nv), .val (.long mm), .second, .val (.double d7), .second, .val (.ref b21), .val (.long ((64 : Int64) * mm)), .second, .val (.long ((((16 : Int64) * mm) * mm) - (512 : Int64))), .second, .unset, .unset, .unset, .unset, .unset, .unset, .unset, .unset]) rfl ?_
        show Steps p.tables e below (T27.setTop (mkF m 194 #[.val (.int z0), .val (.int z1), .val (.int z2), .val (.int z3), .val (.int z4), .val (.int z5), .val (.int nv), .val (.long mm), .second, .val (.double d7), .second, .val (.ref b21), .val (.long ((64 : Int64) * mm)), .second, .val (.long ((((16 : Int64) * mm) * mm) - (512 : Int64))), .second, .unset, .unset, .unset, .unset, .unset, .unset, .unset, .unset] [])) _
        refine X27.ldc2Long hx hown (mvT hZ (hw _ (List.mem_of_getElem? (i := 6) rfl))) (g := (mkF m 194 #[.val (.int z0), .val (.int z1), .val (.int z2), .val (.int z3), .val (.int z4), .val (.int z5), .val (.int nv), .val (.long mm), .second, .val (.double d7), .second, .val (.ref b21), .val (.long ((64 : Int64) * mm)), .second, .val (.long ((((16 : Int64) * mm) * mm) - (512 : Int64))), .second, .unset, .unset, .unset, .unset, .unset, .unset, .unset, .unset] [])) rfl (hb hby at_194) _ ?_
        show Steps p.tables e below (T27.setTop (mkF m 197 #[.val (.int z0), .val (.int z1), .val (.int z2), .val (.int z3), .val (.int z4), .val (.int z5), .val (.int nv), .val (.long mm), .second, .val (.double d7), .second, .val (.ref b21), .val (.long ((64 : Int64) * mm)), .second, .val (.long ((((16 : Int64) * mm) * mm) - (512 : Int64))), .second, .unset, .unset, .unset, .unset, .unset, .unset, .unset, .unset] [(.long (4 : Int64))])) _
        refine XS.lload X27.here hx rfl (hb hby at_197) rfl ?_
        show Steps p.tables e below (T27.setTop (mkF m 199 #[.val (.int z0), .val (.int z1), .val (.int z2), .val (.int z3), .val (.int z4), .val (.int z5), .val (.int nv), .val (.long mm), .second, .val (.double d7), .second, .val (.ref b21), .val (.long ((64 : Int64) * mm)), .second, .val (.long ((((16 : Int64) * mm) * mm) - (512 : Int64))), .second, .unset, .unset, .unset, .unset, .unset, .unset, .unset, .unset] [(.long mm), (.long (4 : Int64))])) _
        refine XS.lmul X27.here hx rfl (hb hby at_199) rfl ?_
        show Steps p.tables e below (T27.setTop (mkF m 200 #[.val (.int z0), .val (.int z1), .val (.int z2), .val (.int z3), .val (.int z4), .val (.int z5), .val (.int nv), .val (.long mm), .second, .val (.double d7), .second, .val (.ref b21), .val (.long ((64 : Int64) * mm)), .second, .val (.long ((((16 : Int64) * mm) * mm) - (512 : Int64))), .second, .unset, .unset, .unset, .unset, .unset, .unset, .unset, .unset] [(.long ((4 : Int64) * mm))])) _
        refine XS.lload X27.here hx rfl (hb hby at_200) rfl ?_
        show Steps p.tables e below (T27.setTop (mkF m 202 #[.val (.int z0), .val (.int z1), .val (.int z2), .val (.int z3), .val (.int z4), .val (.int z5), .val (.int nv), .val (.long mm), .second, .val (.double d7), .second, .val (.ref b21), .val (.long ((64 : Int64) * mm)), .second, .val (.long ((((16 : Int64) * mm) * mm) - (512 : Int64))), .second, .unset, .unset, .unset, .unset, .unset, .unset, .unset, .unset] [(.long mm), (.long ((4 : Int64) * mm))])) _
        refine XS.lmul X27.here hx rfl (hb hby at_202) rfl ?_
        show Steps p.tables e below (T27.setTop (mkF m 203 #[.val (.int z0), .val (.int z1), .val (.int z2), .val (.int z3), .val (.int z4), .val (.int z5), .val (.int nv), .val (.long mm), .second, .val (.double d7), .second, .val (.ref b21), .val (.long ((64 : Int64) * mm)), .second, .val (.long ((((16 : Int64) * mm) * mm) - (512 : Int64))), .second, .unset, .unset, .unset, .unset, .unset, .unset, .unset, .unset] [(.long (((4 : Int64) * mm) * mm))])) _
        refine XS.lload X27.here hx rfl (hb hby at_203) rfl ?_
        show Steps p.tables e below (T27.setTop (mkF m 205 #[.val (.int z0), .val (.int z1), .val (.int z2), .val (.int z3), .val (.int z4), .val (.int z5), .val (.int nv), .val (.long mm), .second, .val (.double d7), .second, .val (.ref b21), .val (.long ((64 : Int64) * mm)), .second, .val (.long ((((16 : Int64) * mm) * mm) - (512 : Int64))), .second, .unset, .unset, .unset, .unset, .unset, .unset, .unset, .unset] [(.long mm), (.long (((4 : Int64) * mm) * mm))])) _
        refine XS.lmul X27.here hx rfl (hb hby at_205) rfl ?_
        show Steps p.tables e below (T27.setTop (mkF m 206 #[.val (.int z0), .val (.int z1), .val (.int z2), .val (.int z3), .val (.int z4), .val (.int z5), .val (.int nv), .val (.long mm), .second, .val (.double d7), .second, .val (.ref b21), .val (.long ((64 : Int64) * mm)), .second, .val (.long ((((16 : Int64) * mm) * mm) - (512 : Int64))), .second, .unset, .unset, .unset, .unset, .unset, .unset, .unset, .unset] [(.long ((((4 : Int64) * mm) * mm) * mm))])) _
        refine X27.ldc2Long hx hown (mvT hZ (hw _ (List.mem_of_getElem? (i := 7) rfl))) (g := (mkF m 206 #[.val (.int z0), .val (.int z1), .val (.int z2), .val (.int z3), .val (.int z4), .val (.int z5), .val (.int nv), .val (.long mm), .second, .val (.double d7), .second, .val (.ref b21), .val (.long ((64 : Int64) * mm)), .second, .val (.long ((((16 : Int64) * mm) * mm) - (512 : Int64))), .second, .unset, .unset, .unset, .unset, .unset, .unset, .unset, .unset] [(.long ((((4 : Int64) * mm) * mm) * mm))])) rfl (hb hby at_206) _ ?_
        show Steps p.tables e below (T27.setTop (mkF m 209 #[.val (.int z0), .val (.int z1), .val (.int z2), .val (.int z3), .val (.int z4), .val (.int z5), .val (.int nv), .val (.long mm), .second, .val (.double d7), .second, .val (.ref b21), .val (.long ((64 : Int64) * mm)), .second, .val (.long ((((16 : Int64) * mm) * mm) - (512 : Int64))), .second, .unset, .unset, .unset, .unset, .unset, .unset, .unset, .unset] [(.long (192 : Int64)), (.long ((((4 : Int64) * mm) * mm) * mm))])) _
        refine XS.lload X27.here hx rfl (hb hby at_209) rfl ?_
        show Steps p.tables e below (T27.setTop (mkF m 211 #[.val (.int z0), .val (.int z1), .val (.int z2), .val (.int z3), .val (.int z4), .val (.int z5), .val (.int nv), .val (.long mm), .second, .val (.double d7), .second, .val (.ref b21), .val (.long ((64 : Int64) * mm)), .second, .val (.long ((((16 : Int64) * mm) * mm) - (512 : Int64))), .second, .unset, .unset, .unset, .unset, .unset, .unset, .unset, .unset] [(.long mm), (.long (192 : Int64)), (.long ((((4 : Int64) * mm) * mm) * mm))])) _
        refine XS.lmul X27.here hx rfl (hb hby at_211) rfl ?_
        show Steps p.tables e below (T27.setTop (mkF m 212 #[.val (.int z0), .val (.int z1), .val (.int z2), .val (.int z3), .val (.int z4), .val (.int z5), .val (.int nv), .val (.long mm), .second, .val (.double d7), .second, .val (.ref b21), .val (.long ((64 : Int64) * mm)), .second, .val (.long ((((16 : Int64) * mm) * mm) - (512 : Int64))), .second, .unset, .unset, .unset, .unset, .unset, .unset, .unset, .unset] [(.long ((192 : Int64) * mm)), (.long ((((4 : Int64) * mm) * mm) * mm))])) _
        refine XS.lsub X27.here hx rfl (hb hby at_212) rfl ?_
        show Steps p.tables e below (T27.setTop (mkF m 213 #[.val (.int z0), .val (.int z1), .val (.int z2), .val (.int z3), .val (.int z4), .val (.int z5), .val (.int nv), .val (.long mm), .second, .val (.double d7), .second, .val (.ref b21), .val (.long ((64 : Int64) * mm)), .second, .val (.long ((((16 : Int64) * mm) * mm) - (512 : Int64))), .second, .unset, .unset, .unset, .unset, .unset, .unset, .unset, .unset] [(.long (((((4 : Int64) * mm) * mm) * mm) - ((192 : Int64) * mm)))])) _
        refine XS.lstore X27.here hx rfl (hb hby at_213) rfl (l' := #[.val (.int z0), .val (.int z1), .val (.int z2), .val (.int z3), .val (.int z4), .val (.int z5), .val (.int nv), .val (.long mm), .second, .val (.double d7), .second, .val (.ref b21), .val (.long ((64 : Int64) * mm)), .second, .val (.long ((((16 : Int64) * mm) * mm) - (512 : Int64))), .second, .val (.long (((((4 : Int64) * mm) * mm) * mm) - ((192 : Int64) * mm))), .second, .unset, .unset, .unset, .unset, .unset, .unset]) rfl ?_
        show Steps p.tables e below (T27.setTop (mkF m 215 #[.val (.int z0), .val (.int z1), .val (.int z2), .val (.int z3), .val (.int z4), .val (.int z5), .val (.int nv), .val (.long mm), .second, .val (.double d7), .second, .val (.ref b21), .val (.long ((64 : Int64) * mm)), .second, .val (.long ((((16 : Int64) * mm) * mm) - (512 : Int64))), .second, .val (.long (((((4 : Int64) * mm) * mm) * mm) - ((192 : Int64) * mm))), .second, .unset, .unset, .unset, .unset, .unset, .unset] [])) _
        refine XS.lload X27.here hx rfl (hb hby at_215) rfl ?_
        show Steps p.tables e below (T27.setTop (mkF m 217 #[.val (.int z0), .val (.int z1), .val (.int z2), .val (.int z3), .val (.int z4), .val (.int z5), .val (.int nv), .val (.long mm), .second, .val (.double d7), .second, .val (.ref b21), .val (.long ((64 : Int64) * mm)), .second, .val (.long ((((16 : Int64) * mm) * mm) - (512 : Int64))), .second, .val (.long (((((4 : Int64) * mm) * mm) * mm) - ((192 : Int64) * mm))), .second, .unset, .unset, .unset, .unset, .unset, .unset] [(.long mm)])) _
        refine XS.lload X27.here hx rfl (hb hby at_217) rfl ?_
        show Steps p.tables e below (T27.setTop (mkF m 219 #[.val (.int z0), .val (.int z1), .val (.int z2), .val (.int z3), .val (.int z4), .val (.int z5), .val (.int nv), .val (.long mm), .second, .val (.double d7), .second, .val (.ref b21), .val (.long ((64 : Int64) * mm)), .second, .val (.long ((((16 : Int64) * mm) * mm) - (512 : Int64))), .second, .val (.long (((((4 : Int64) * mm) * mm) * mm) - ((192 : Int64) * mm))), .second, .unset, .unset, .unset, .unset, .unset, .unset] [(.long mm), (.long mm)])) _
        refine XS.lmul X27.here hx rfl (hb hby at_219) rfl ?_
        show Steps p.tables e below (T27.setTop (mkF m 220 #[.val (.int z0), .val (.int z1), .val (.int z2), .val (.int z3), .val (.int z4), .val (.int z5), .val (.int nv), .val (.long mm), .second, .val (.double d7), .second, .val (.ref b21), .val (.long ((64 : Int64) * mm)), .second, .val (.long ((((16 : Int64) * mm) * mm) - (512 : Int64))), .second, .val (.long (((((4 : Int64) * mm) * mm) * mm) - ((192 : Int64) * mm))), .second, .unset, .unset, .unset, .unset, .unset, .unset] [(.long (mm * mm))])) _
        refine XS.lload X27.here hx rfl (hb hby at_220) rfl ?_
        show Steps p.tables e below (T27.setTop (mkF m 222 #[.val (.int z0), .val (.int z1), .val (.int z2), .val (.int z3), .val (.int z4), .val (.int z5), .val (.int nv), .val (.long mm), .second, .val (.double d7), .second, .val (.ref b21), .val (.long ((64 : Int64) * mm)), .second, .val (.long ((((16 : Int64) * mm) * mm) - (512 : Int64))), .second, .val (.long (((((4 : Int64) * mm) * mm) * mm) - ((192 : Int64) * mm))), .second, .unset, .unset, .unset, .unset, .unset, .unset] [(.long mm), (.long (mm * mm))])) _
        refine XS.lmul X27.here hx rfl (hb hby at_222) rfl ?_
        show Steps p.tables e below (T27.setTop (mkF m 223 #[.val (.int z0), .val (.int z1), .val (.int z2), .val (.int z3), .val (.int z4), .val (.int z5), .val (.int nv), .val (.long mm), .second, .val (.double d7), .second, .val (.ref b21), .val (.long ((64 : Int64) * mm)), .second, .val (.long ((((16 : Int64) * mm) * mm) - (512 : Int64))), .second, .val (.long (((((4 : Int64) * mm) * mm) * mm) - ((192 : Int64) * mm))), .second, .unset, .unset, .unset, .unset, .unset, .unset] [(.long ((mm * mm) * mm))])) _
        refine XS.lload X27.here hx rfl (hb hby at_223) rfl ?_
        show Steps p.tables e below (T27.setTop (mkF m 225 #[.val (.int z0), .val (.int z1), .val (.int z2), .val (.int z3), .val (.int z4), .val (.int z5), .val (.int nv), .val (.long mm), .second, .val (.double d7), .second, .val (.ref b21), .val (.long ((64 : Int64) * mm)), .second, .val (.long ((((16 : Int64) * mm) * mm) - (512 : Int64))), .second, .val (.long (((((4 : Int64) * mm) * mm) * mm) - ((192 : Int64) * mm))), .second, .unset, .unset, .unset, .unset, .unset, .unset] [(.long mm), (.long ((mm * mm) * mm))])) _
        refine XS.lmul X27.here hx rfl (hb hby at_225) rfl ?_
        show Steps p.tables e below (T27.setTop (mkF m 226 #[.val (.int z0), .val (.int z1), .val (.int z2), .val (.int z3), .val (.int z4), .val (.int z5), .val (.int nv), .val (.long mm), .second, .val (.double d7), .second, .val (.ref b21), .val (.long ((64 : Int64) * mm)), .second, .val (.long ((((16 : Int64) * mm) * mm) - (512 : Int64))), .second, .val (.long (((((4 : Int64) * mm) * mm) * mm) - ((192 : Int64) * mm))), .second, .unset, .unset, .unset, .unset, .unset, .unset] [(.long (((mm * mm) * mm) * mm))])) _
        refine X27.ldc2Long hx hown (mvT hZ (hw _ (List.mem_of_getElem? (i := 3) rfl))) (g := (mkF m 226 #[.val (.int z0), .val (.int z1), .val (.int z2), .val (.int z3), .val (.int z4), .val (.int z5), .val (.int nv), .val (.long mm), .second, .val (.double d7), .second, .val (.ref b21), .val (.long ((64 : Int64) * mm)), .second, .val (.long ((((16 : Int64) * mm) * mm) - (512 : Int64))), .second, .val (.long (((((4 : Int64) * mm) * mm) * mm) - ((192 : Int64) * mm))), .second, .unset, .unset, .unset, .unset, .unset, .unset] [(.long (((mm * mm) * mm) * mm))])) rfl (hb hby at_226) _ ?_
        show Steps p.tables e below (T27.setTop (mkF m 229 #[.val (.int z0), .val (.int z1), .val (.int z2), .val (.int z3), .val (.int z4), .val (.int z5), .val (.int nv), .val (.long mm), .second, .val (.double d7), .second, .val (.ref b21), .val (.long ((64 : Int64) * mm)), .second, .val (.long ((((16 : Int64) * mm) * mm) - (512 : Int64))), .second, .val (.long (((((4 : Int64) * mm) * mm) * mm) - ((192 : Int64) * mm))), .second, .unset, .unset, .unset, .unset, .unset, .unset] [(.long (64 : Int64)), (.long (((mm * mm) * mm) * mm))])) _
        refine XS.lload X27.here hx rfl (hb hby at_229) rfl ?_
        show Steps p.tables e below (T27.setTop (mkF m 231 #[.val (.int z0), .val (.int z1), .val (.int z2), .val (.int z3), .val (.int z4), .val (.int z5), .val (.int nv), .val (.long mm), .second, .val (.double d7), .second, .val (.ref b21), .val (.long ((64 : Int64) * mm)), .second, .val (.long ((((16 : Int64) * mm) * mm) - (512 : Int64))), .second, .val (.long (((((4 : Int64) * mm) * mm) * mm) - ((192 : Int64) * mm))), .second, .unset, .unset, .unset, .unset, .unset, .unset] [(.long mm), (.long (64 : Int64)), (.long (((mm * mm) * mm) * mm))])) _
        refine XS.lmul X27.here hx rfl (hb hby at_231) rfl ?_
        show Steps p.tables e below (T27.setTop (mkF m 232 #[.val (.int z0), .val (.int z1), .val (.int z2), .val (.int z3), .val (.int z4), .val (.int z5), .val (.int nv), .val (.long mm), .second, .val (.double d7), .second, .val (.ref b21), .val (.long ((64 : Int64) * mm)), .second, .val (.long ((((16 : Int64) * mm) * mm) - (512 : Int64))), .second, .val (.long (((((4 : Int64) * mm) * mm) * mm) - ((192 : Int64) * mm))), .second, .unset, .unset, .unset, .unset, .unset, .unset] [(.long ((64 : Int64) * mm)), (.long (((mm * mm) * mm) * mm))])) _
        refine XS.lload X27.here hx rfl (hb hby at_232) rfl ?_
        show Steps p.tables e below (T27.setTop (mkF m 234 #[.val (.int z0), .val (.int z1), .val (.int z2), .val (.int z3), .val (.int z4), .val (.int z5), .val (.int nv), .val (.long mm), .second, .val (.double d7), .second, .val (.ref b21), .val (.long ((64 : Int64) * mm)), .second, .val (.long ((((16 : Int64) * mm) * mm) - (512 : Int64))), .second, .val (.long (((((4 : Int64) * mm) * mm) * mm) - ((192 : Int64) * mm))), .second, .unset, .unset, .unset, .unset, .unset, .unset] [(.long mm), (.long ((64 : Int64) * mm)), (.long (((mm * mm) * mm) * mm))])) _
        refine XS.lmul X27.here hx rfl (hb hby at_234) rfl ?_
        show Steps p.tables e below (T27.setTop (mkF m 235 #[.val (.int z0), .val (.int z1), .val (.int z2), .val (.int z3), .val (.int z4), .val (.int z5), .val (.int nv), .val (.long mm), .second, .val (.double d7), .second, .val (.ref b21), .val (.long ((64 : Int64) * mm)), .second, .val (.long ((((16 : Int64) * mm) * mm) - (512 : Int64))), .second, .val (.long (((((4 : Int64) * mm) * mm) * mm) - ((192 : Int64) * mm))), .second, .unset, .unset, .unset, .unset, .unset, .unset] [(.long (((64 : Int64) * mm) * mm)), (.long (((mm * mm) * mm) * mm))])) _
        refine XS.lsub X27.here hx rfl (hb hby at_235) rfl ?_
        show Steps p.tables e below (T27.setTop (mkF m 236 #[.val (.int z0), .val (.int z1), .val (.int z2), .val (.int z3), .val (.int z4), .val (.int z5), .val (.int nv), .val (.long mm), .second, .val (.double d7), .second, .val (.ref b21), .val (.long ((64 : Int64) * mm)), .second, .val (.long ((((16 : Int64) * mm) * mm) - (512 : Int64))), .second, .val (.long (((((4 : Int64) * mm) * mm) * mm) - ((192 : Int64) * mm))), .second, .unset, .unset, .unset, .unset, .unset, .unset] [(.long ((((mm * mm) * mm) * mm) - (((64 : Int64) * mm) * mm)))])) _
        refine X27.ldc2Long hx hown (mvT hZ (hw _ (List.mem_of_getElem? (i := 5) rfl))) (g := (mkF m 236 #[.val (.int z0), .val (.int z1), .val (.int z2), .val (.int z3), .val (.int z4), .val (.int z5), .val (.int nv), .val (.long mm), .second, .val (.double d7), .second, .val (.ref b21), .val (.long ((64 : Int64) * mm)), .second, .val (.long ((((16 : Int64) * mm) * mm) - (512 : Int64))), .second, .val (.long (((((4 : Int64) * mm) * mm) * mm) - ((192 : Int64) * mm))), .second, .unset, .unset, .unset, .unset, .unset, .unset] [(.long ((((mm * mm) * mm) * mm) - (((64 : Int64) * mm) * mm)))])) rfl (hb hby at_236) _ ?_
        show Steps p.tables e below (T27.setTop (mkF m 239 #[.val (.int z0), .val (.int z1), .val (.int z2), .val (.int z3), .val (.int z4), .val (.int z5), .val (.int nv), .val (.long mm), .second, .val (.double d7), .second, .val (.ref b21), .val (.long ((64 : Int64) * mm)), .second, .val (.long ((((16 : Int64) * mm) * mm) - (512 : Int64))), .second, .val (.long (((((4 : Int64) * mm) * mm) * mm) - ((192 : Int64) * mm))), .second, .unset, .unset, .unset, .unset, .unset, .unset] [(.long (512 : Int64)), (.long ((((mm * mm) * mm) * mm) - (((64 : Int64) * mm) * mm)))])) _
        refine XS.ladd X27.here hx rfl (hb hby at_239) rfl ?_
        show Steps p.tables e below (T27.setTop (mkF m 240 #[.val (.int z0), .val (.int z1), .val (.int z2), .val (.int z3), .val (.int z4), .val (.int z5), .val (.int nv), .val (.long mm), .second, .val (.double d7), .second, .val (.ref b21), .val (.long ((64 : Int64) * mm)), .second, .val (.long ((((16 : Int64) * mm) * mm) - (512 : Int64))), .second, .val (.long (((((4 : Int64) * mm) * mm) * mm) - ((192 : Int64) * mm))), .second, .unset, .unset, .unset, .unset, .unset, .unset] [(.long (((((mm * mm) * mm) * mm) - (((64 : Int64) * mm) * mm)) + (512 : Int64)))])) _
        refine XS.lstore X27.here hx rfl (hb hby at_240) rfl (l' := #[.val (.int z0), .val (.int z1), .val (.int z2), .val (.int z3), .val (.int z4), .val (.int z5), .val (.int nv), .val (.long mm), .second, .val (.double d7), .second, .val (.ref b21), .val (.long ((64 : Int64) * mm)), .second, .val (.long ((((16 : Int64) * mm) * mm) - (512 : Int64))), .second, .val (.long (((((4 : Int64) * mm) * mm) * mm) - ((192 : Int64) * mm))), .second, .val (.long (((((mm * mm) * mm) * mm) - (((64 : Int64) * mm) * mm)) + (512 : Int64))), .second, .unset, .unset, .unset, .unset]) rfl ?_
        show Steps p.tables e below (T27.setTop (mkF m 242 #[.val (.int z0), .val (.int z1), .val (.int z2), .val (.int z3), .val (.int z4), .val (.int z5), .val (.int nv), .val (.long mm), .second, .val (.double d7), .second, .val (.ref b21), .val (.long ((64 : Int64) * mm)), .second, .val (.long ((((16 : Int64) * mm) * mm) - (512 : Int64))), .second, .val (.long (((((4 : Int64) * mm) * mm) * mm) - ((192 : Int64) * mm))), .second, .val (.long (((((mm * mm) * mm) * mm) - (((64 : Int64) * mm) * mm)) + (512 : Int64))), .second, .unset, .unset, .unset, .unset] [])) _
        refine X27.ldc2Long hx hown (mvT hZ (hw _ (List.mem_of_getElem? (i := 5) rfl))) (g := (mkF m 242 #[.val (.int z0), .val (.int z1), .val (.int z2), .val (.int z3), .val (.int z4), .val (.int z5), .val (.int nv), .val (.long mm), .second, .val (.double d7), .second, .val (.ref b21), .val (.long ((64 : Int64) * mm)), .second, .val (.long ((((16 : Int64) * mm) * mm) - (512 : Int64))), .second, .val (.long (((((4 : Int64) * mm) * mm) * mm) - ((192 : Int64) * mm))), .second, .val (.long (((((mm * mm) * mm) * mm) - (((64 : Int64) * mm) * mm)) + (512 : Int64))), .second, .unset, .unset, .unset, .unset] [])) rfl (hb hby at_242) _ ?_
        show Steps p.tables e below (T27.setTop (mkF m 245 #[.val (.int z0), .val (.int z1), .val (.int z2), .val (.int z3), .val (.int z4), .val (.int z5), .val (.int nv), .val (.long mm), .second, .val (.double d7), .second, .val (.ref b21), .val (.long ((64 : Int64) * mm)), .second, .val (.long ((((16 : Int64) * mm) * mm) - (512 : Int64))), .second, .val (.long (((((4 : Int64) * mm) * mm) * mm) - ((192 : Int64) * mm))), .second, .val (.long (((((mm * mm) * mm) * mm) - (((64 : Int64) * mm) * mm)) + (512 : Int64))), .second, .unset, .unset, .unset, .unset] [(.long (512 : Int64))])) _
        refine XS.iloadN X27.here hx rfl (hb hby at_245) rfl ?_
        show Steps p.tables e below (T27.setTop (mkF m 246 #[.val (.int z0), .val (.int z1), .val (.int z2), .val (.int z3), .val (.int z4), .val (.int z5), .val (.int nv), .val (.long mm), .second, .val (.double d7), .second, .val (.ref b21), .val (.long ((64 : Int64) * mm)), .second, .val (.long ((((16 : Int64) * mm) * mm) - (512 : Int64))), .second, .val (.long (((((4 : Int64) * mm) * mm) * mm) - ((192 : Int64) * mm))), .second, .val (.long (((((mm * mm) * mm) * mm) - (((64 : Int64) * mm) * mm)) + (512 : Int64))), .second, .unset, .unset, .unset, .unset] [(.int z1), (.long (512 : Int64))])) _
        refine XS.i2l X27.here hx rfl (hb hby at_246) rfl ?_
        show Steps p.tables e below (T27.setTop (mkF m 247 #[.val (.int z0), .val (.int z1), .val (.int z2), .val (.int z3), .val (.int z4), .val (.int z5), .val (.int nv), .val (.long mm), .second, .val (.double d7), .second, .val (.ref b21), .val (.long ((64 : Int64) * mm)), .second, .val (.long ((((16 : Int64) * mm) * mm) - (512 : Int64))), .second, .val (.long (((((4 : Int64) * mm) * mm) * mm) - ((192 : Int64) * mm))), .second, .val (.long (((((mm * mm) * mm) * mm) - (((64 : Int64) * mm) * mm)) + (512 : Int64))), .second, .unset, .unset, .unset, .unset] [(.long (z1.toInt64)), (.long (512 : Int64))])) _
        refine XS.lmul X27.here hx rfl (hb hby at_247) rfl ?_
        show Steps p.tables e below (T27.setTop (mkF m 248 #[.val (.int z0), .val (.int z1), .val (.int z2), .val (.int z3), .val (.int z4), .val (.int z5), .val (.int nv), .val (.long mm), .second, .val (.double d7), .second, .val (.ref b21), .val (.long ((64 : Int64) * mm)), .second, .val (.long ((((16 : Int64) * mm) * mm) - (512 : Int64))), .second, .val (.long (((((4 : Int64) * mm) * mm) * mm) - ((192 : Int64) * mm))), .second, .val (.long (((((mm * mm) * mm) * mm) - (((64 : Int64) * mm) * mm)) + (512 : Int64))), .second, .unset, .unset, .unset, .unset] [(.long ((512 : Int64) * (z1.toInt64)))])) _
        refine XS.lstore X27.here hx rfl (hb hby at_248) rfl (l' := #[.val (.int z0), .val (.int z1), .val (.int z2), .val (.int z3), .val (.int z4), .val (.int z5), .val (.int nv), .val (.long mm), .second, .val (.double d7), .second, .val (.ref b21), .val (.long ((64 : Int64) * mm)), .second, .val (.long ((((16 : Int64) * mm) * mm) - (512 : Int64))), .second, .val (.long (((((4 : Int64) * mm) * mm) * mm) - ((192 : Int64) * mm))), .second, .val (.long (((((mm * mm) * mm) * mm) - (((64 : Int64) * mm) * mm)) + (512 : Int64))), .second, .val (.long ((512 : Int64) * (z1.toInt64))), .second, .unset, .unset]) rfl ?_
        show Steps p.tables e below (T27.setTop (mkF m 250 #[.val (.int z0), .val (.int z1), .val (.int z2), .val (.int z3), .val (.int z4), .val (.int z5), .val (.int nv), .val (.long mm), .second, .val (.double d7), .second, .val (.ref b21), .val (.long ((64 : Int64) * mm)), .second, .val (.long ((((16 : Int64) * mm) * mm) - (512 : Int64))), .second, .val (.long (((((4 : Int64) * mm) * mm) * mm) - ((192 : Int64) * mm))), .second, .val (.long (((((mm * mm) * mm) * mm) - (((64 : Int64) * mm) * mm)) + (512 : Int64))), .second, .val (.long ((512 : Int64) * (z1.toInt64))), .second, .unset, .unset] [])) _
        refine XS.iload X27.here hx rfl (hb hby at_250) rfl ?_
        show Steps p.tables e below (T27.setTop (mkF m 252 #[.val (.int z0), .val (.int z1), .val (.int z2), .val (.int z3), .val (.int z4), .val (.int z5), .val (.int nv), .val (.long mm), .second, .val (.double d7), .second, .val (.ref b21), .val (.long ((64 : Int64) * mm)), .second, .val (.long ((((16 : Int64) * mm) * mm) - (512 : Int64))), .second, .val (.long (((((4 : Int64) * mm) * mm) * mm) - ((192 : Int64) * mm))), .second, .val (.long (((((mm * mm) * mm) * mm) - (((64 : Int64) * mm) * mm)) + (512 : Int64))), .second, .val (.long ((512 : Int64) * (z1.toInt64))), .second, .unset, .unset] [(.int nv)])) _
        refine XS.iconst X27.here hx rfl (hb hby at_252) ?_
        show Steps p.tables e below (T27.setTop (mkF m 253 #[.val (.int z0), .val (.int z1), .val (.int z2), .val (.int z3), .val (.int z4), .val (.int z5), .val (.int nv), .val (.long mm), .second, .val (.double d7), .second, .val (.ref b21), .val (.long ((64 : Int64) * mm)), .second, .val (.long ((((16 : Int64) * mm) * mm) - (512 : Int64))), .second, .val (.long (((((4 : Int64) * mm) * mm) * mm) - ((192 : Int64) * mm))), .second, .val (.long (((((mm * mm) * mm) * mm) - (((64 : Int64) * mm) * mm)) + (512 : Int64))), .second, .val (.long ((512 : Int64) * (z1.toInt64))), .second, .unset, .unset] [(.int (2 : Int32)), (.int nv)])) _
        refine XS.icmpNo X27.here hx rfl (hb hby at_253) rfl (flt (by rw [hc54_20]; decide : ¬ (nv < (2 : Int32)))).1 ?_
        show Steps p.tables e below (T27.setTop (mkF m 256 #[.val (.int z0), .val (.int z1), .val (.int z2), .val (.int z3), .val (.int z4), .val (.int z5), .val (.int nv), .val (.long mm), .second, .val (.double d7), .second, .val (.ref b21), .val (.long ((64 : Int64) * mm)), .second, .val (.long ((((16 : Int64) * mm) * mm) - (512 : Int64))), .second, .val (.long (((((4 : Int64) * mm) * mm) * mm) - ((192 : Int64) * mm))), .second, .val (.long (((((mm * mm) * mm) * mm) - (((64 : Int64) * mm) * mm)) + (512 : Int64))), .second, .val (.long ((512 : Int64) * (z1.toInt64))), .second, .unset, .unset] [])) _
        refine XS.lload X27.here hx rfl (hb hby at_256) rfl ?_
        show Steps p.tables e below (T27.setTop (mkF m 258 #[.val (.int z0), .val (.int z1), .val (.int z2), .val (.int z3), .val (.int z4), .val (.int z5), .val (.int nv), .val (.long mm), .second, .val (.double d7), .second, .val (.ref b21), .val (.long ((64 : Int64) * mm)), .second, .val (.long ((((16 : Int64) * mm) * mm) - (512 : Int64))), .second, .val (.long (((((4 : Int64) * mm) * mm) * mm) - ((192 : Int64) * mm))), .second, .val (.long (((((mm * mm) * mm) * mm) - (((64 : Int64) * mm) * mm)) + (512 : Int64))), .second, .val (.long ((512 : Int64) * (z1.toInt64))), .second, .unset, .unset] [(.long ((512 : Int64) * (z1.toInt64)))])) _
        refine XS.iloadN X27.here hx rfl (hb hby at_258) rfl ?_
        show Steps p.tables e below (T27.setTop (mkF m 259 #[.val (.int z0), .val (.int z1), .val (.int z2), .val (.int z3), .val (.int z4), .val (.int z5), .val (.int nv), .val (.long mm), .second, .val (.double d7), .second, .val (.ref b21), .val (.long ((64 : Int64) * mm)), .second, .val (.long ((((16 : Int64) * mm) * mm) - (512 : Int64))), .second, .val (.long (((((4 : Int64) * mm) * mm) * mm) - ((192 : Int64) * mm))), .second, .val (.long (((((mm * mm) * mm) * mm) - (((64 : Int64) * mm) * mm)) + (512 : Int64))), .second, .val (.long ((512 : Int64) * (z1.toInt64))), .second, .unset, .unset] [(.int z2), (.long ((512 : Int64) * (z1.toInt64)))])) _
        refine XS.i2l X27.here hx rfl (hb hby at_259) rfl ?_
        show Steps p.tables e below (T27.setTop (mkF m 260 #[.val (.int z0), .val (.int z1), .val (.int z2), .val (.int z3), .val (.int z4), .val (.int z5), .val (.int nv), .val (.long mm), .second, .val (.double d7), .second, .val (.ref b21), .val (.long ((64 : Int64) * mm)), .second, .val (.long ((((16 : Int64) * mm) * mm) - (512 : Int64))), .second, .val (.long (((((4 : Int64) * mm) * mm) * mm) - ((192 : Int64) * mm))), .second, .val (.long (((((mm * mm) * mm) * mm) - (((64 : Int64) * mm) * mm)) + (512 : Int64))), .second, .val (.long ((512 : Int64) * (z1.toInt64))), .second, .unset, .unset] [(.long (z2.toInt64)), (.long ((512 : Int64) * (z1.toInt64)))])) _
        refine XS.lload X27.here hx rfl (hb hby at_260) rfl ?_
        show Steps p.tables e below (T27.setTop (mkF m 262 #[.val (.int z0), .val (.int z1), .val (.int z2), .val (.int z3), .val (.int z4), .val (.int z5), .val (.int nv), .val (.long mm), .second, .val (.double d7), .second, .val (.ref b21), .val (.long ((64 : Int64) * mm)), .second, .val (.long ((((16 : Int64) * mm) * mm) - (512 : Int64))), .second, .val (.long (((((4 : Int64) * mm) * mm) * mm) - ((192 : Int64) * mm))), .second, .val (.long (((((mm * mm) * mm) * mm) - (((64 : Int64) * mm) * mm)) + (512 : Int64))), .second, .val (.long ((512 : Int64) * (z1.toInt64))), .second, .unset, .unset] [(.long ((64 : Int64) * mm)), (.long (z2.toInt64)), (.long ((512 : Int64) * (z1.toInt64)))])) _
        refine XS.lmul X27.here hx rfl (hb hby at_262) rfl ?_
        show Steps p.tables e below (T27.setTop (mkF m 263 #[.val (.int z0), .val (.int z1), .val (.int z2), .val (.int z3), .val (.int z4), .val (.int z5), .val (.int nv), .val (.long mm), .second, .val (.double d7), .second, .val (.ref b21), .val (.long ((64 : Int64) * mm)), .second, .val (.long ((((16 : Int64) * mm) * mm) - (512 : Int64))), .second, .val (.long (((((4 : Int64) * mm) * mm) * mm) - ((192 : Int64) * mm))), .second, .val (.long (((((mm * mm) * mm) * mm) - (((64 : Int64) * mm) * mm)) + (512 : Int64))), .second, .val (.long ((512 : Int64) * (z1.toInt64))), .second, .unset, .unset] [(.long ((z2.toInt64) * ((64 : Int64) * mm))), (.long ((512 : Int64) * (z1.toInt64)))])) _
        refine XS.ladd X27.here hx rfl (hb hby at_263) rfl ?_
        show Steps p.tables e below (T27.setTop (mkF m 264 #[.val (.int z0), .val (.int z1), .val (.int z2), .val (.int z3), .val (.int z4), .val (.int z5), .val (.int nv), .val (.long mm), .second, .val (.double d7), .second, .val (.ref b21), .val (.long ((64 : Int64) * mm)), .second, .val (.long ((((16 : Int64) * mm) * mm) - (512 : Int64))), .second, .val (.long (((((4 : Int64) * mm) * mm) * mm) - ((192 : Int64) * mm))), .second, .val (.long (((((mm * mm) * mm) * mm) - (((64 : Int64) * mm) * mm)) + (512 : Int64))), .second, .val (.long ((512 : Int64) * (z1.toInt64))), .second, .unset, .unset] [(.long (((512 : Int64) * (z1.toInt64)) + ((z2.toInt64) * ((64 : Int64) * mm))))])) _
        refine XS.lstore X27.here hx rfl (hb hby at_264) rfl (l' := #[.val (.int z0), .val (.int z1), .val (.int z2), .val (.int z3), .val (.int z4), .val (.int z5), .val (.int nv), .val (.long mm), .second, .val (.double d7), .second, .val (.ref b21), .val (.long ((64 : Int64) * mm)), .second, .val (.long ((((16 : Int64) * mm) * mm) - (512 : Int64))), .second, .val (.long (((((4 : Int64) * mm) * mm) * mm) - ((192 : Int64) * mm))), .second, .val (.long (((((mm * mm) * mm) * mm) - (((64 : Int64) * mm) * mm)) + (512 : Int64))), .second, .val (.long (((512 : Int64) * (z1.toInt64)) + ((z2.toInt64) * ((64 : Int64) * mm)))), .second, .unset, .unset]) rfl ?_
        show Steps p.tables e below (T27.setTop (mkF m 266 #[.val (.int z0), .val (.int z1), .val (.int z2), .val (.int z3), .val (.int z4), .val (.int z5), .val (.int nv), .val (.long mm), .second, .val (.double d7), .second, .val (.ref b21), .val (.long ((64 : Int64) * mm)), .second, .val (.long ((((16 : Int64) * mm) * mm) - (512 : Int64))), .second, .val (.long (((((4 : Int64) * mm) * mm) * mm) - ((192 : Int64) * mm))), .second, .val (.long (((((mm * mm) * mm) * mm) - (((64 : Int64) * mm) * mm)) + (512 : Int64))), .second, .val (.long (((512 : Int64) * (z1.toInt64)) + ((z2.toInt64) * ((64 : Int64) * mm)))), .second, .unset, .unset] [])) _
        refine XS.iload X27.here hx rfl (hb hby at_266) rfl ?_
        show Steps p.tables e below (T27.setTop (mkF m 268 #[.val (.int z0), .val (.int z1), .val (.int z2), .val (.int z3), .val (.int z4), .val (.int z5), .val (.int nv), .val (.long mm), .second, .val (.double d7), .second, .val (.ref b21), .val (.long ((64 : Int64) * mm)), .second, .val (.long ((((16 : Int64) * mm) * mm) - (512 : Int64))), .second, .val (.long (((((4 : Int64) * mm) * mm) * mm) - ((192 : Int64) * mm))), .second, .val (.long (((((mm * mm) * mm) * mm) - (((64 : Int64) * mm) * mm)) + (512 : Int64))), .second, .val (.long (((512 : Int64) * (z1.toInt64)) + ((z2.toInt64) * ((64 : Int64) * mm)))), .second, .unset, .unset] [(.int nv)])) _
        refine XS.iconst X27.here hx rfl (hb hby at_268) ?_
        show Steps p.tables e below (T27.setTop (mkF m 269 #[.val (.int z0), .val (.int z1), .val (.int z2), .val (.int z3), .val (.int z4), .val (.int z5), .val (.int nv), .val (.long mm), .second, .val (.double d7), .second, .val (.ref b21), .val (.long ((64 : Int64) * mm)), .second, .val (.long ((((16 : Int64) * mm) * mm) - (512 : Int64))), .second, .val (.long (((((4 : Int64) * mm) * mm) * mm) - ((192 : Int64) * mm))), .second, .val (.long (((((mm * mm) * mm) * mm) - (((64 : Int64) * mm) * mm)) + (512 : Int64))), .second, .val (.long (((512 : Int64) * (z1.toInt64)) + ((z2.toInt64) * ((64 : Int64) * mm)))), .second, .unset, .unset] [(.int (3 : Int32)), (.int nv)])) _
        refine XS.icmpYes X27.here hx rfl (pc0 := 269) (pc' := 282) rfl (hb hby at_269) rfl (tlt (by rw [hc54_20]; decide : nv < (3 : Int32))).1 (by decide) (by decide) ?_
        show Steps p.tables e below (T27.setTop (mkF m 282 #[.val (.int z0), .val (.int z1), .val (.int z2), .val (.int z3), .val (.int z4), .val (.int z5), .val (.int nv), .val (.long mm), .second, .val (.double d7), .second, .val (.ref b21), .val (.long ((64 : Int64) * mm)), .second, .val (.long ((((16 : Int64) * mm) * mm) - (512 : Int64))), .second, .val (.long (((((4 : Int64) * mm) * mm) * mm) - ((192 : Int64) * mm))), .second, .val (.long (((((mm * mm) * mm) * mm) - (((64 : Int64) * mm) * mm)) + (512 : Int64))), .second, .val (.long (((512 : Int64) * (z1.toInt64)) + ((z2.toInt64) * ((64 : Int64) * mm)))), .second, .unset, .unset] [])) _
        refine XS.iload X27.here hx rfl (hb hby at_282) rfl ?_
        show Steps p.tables e below (T27.setTop (mkF m 284 #[.val (.int z0), .val (.int z1), .val (.int z2), .val (.int z3), .val (.int z4), .val (.int z5), .val (.int nv), .val (.long mm), .second, .val (.double d7), .second, .val (.ref b21), .val (.long ((64 : Int64) * mm)), .second, .val (.long ((((16 : Int64) * mm) * mm) - (512 : Int64))), .second, .val (.long (((((4 : Int64) * mm) * mm) * mm) - ((192 : Int64) * mm))), .second, .val (.long (((((mm * mm) * mm) * mm) - (((64 : Int64) * mm) * mm)) + (512 : Int64))), .second, .val (.long (((512 : Int64) * (z1.toInt64)) + ((z2.toInt64) * ((64 : Int64) * mm)))), .second, .unset, .unset] [(.int nv)])) _
        refine XS.iconst X27.here hx rfl (hb hby at_284) ?_
        show Steps p.tables e below (T27.setTop (mkF m 285 #[.val (.int z0), .val (.int z1), .val (.int z2), .val (.int z3), .val (.int z4), .val (.int z5), .val (.int nv), .val (.long mm), .second, .val (.double d7), .second, .val (.ref b21), .val (.long ((64 : Int64) * mm)), .second, .val (.long ((((16 : Int64) * mm) * mm) - (512 : Int64))), .second, .val (.long (((((4 : Int64) * mm) * mm) * mm) - ((192 : Int64) * mm))), .second, .val (.long (((((mm * mm) * mm) * mm) - (((64 : Int64) * mm) * mm)) + (512 : Int64))), .second, .val (.long (((512 : Int64) * (z1.toInt64)) + ((z2.toInt64) * ((64 : Int64) * mm)))), .second, .unset, .unset] [(.int (4 : Int32)), (.int nv)])) _
        refine XS.icmpYes X27.here hx rfl (pc0 := 285) (pc' := 299) rfl (hb hby at_285) rfl (tlt (by rw [hc54_20]; decide : nv < (4 : Int32))).1 (by decide) (by decide) ?_
        show Steps p.tables e below (T27.setTop (mkF m 299 #[.val (.int z0), .val (.int z1), .val (.int z2), .val (.int z3), .val (.int z4), .val (.int z5), .val (.int nv), .val (.long mm), .second, .val (.double d7), .second, .val (.ref b21), .val (.long ((64 : Int64) * mm)), .second, .val (.long ((((16 : Int64) * mm) * mm) - (512 : Int64))), .second, .val (.long (((((4 : Int64) * mm) * mm) * mm) - ((192 : Int64) * mm))), .second, .val (.long (((((mm * mm) * mm) * mm) - (((64 : Int64) * mm) * mm)) + (512 : Int64))), .second, .val (.long (((512 : Int64) * (z1.toInt64)) + ((z2.toInt64) * ((64 : Int64) * mm)))), .second, .unset, .unset] [])) _
        refine XS.iload X27.here hx rfl (hb hby at_299) rfl ?_
        show Steps p.tables e below (T27.setTop (mkF m 301 #[.val (.int z0), .val (.int z1), .val (.int z2), .val (.int z3), .val (.int z4), .val (.int z5), .val (.int nv), .val (.long mm), .second, .val (.double d7), .second, .val (.ref b21), .val (.long ((64 : Int64) * mm)), .second, .val (.long ((((16 : Int64) * mm) * mm) - (512 : Int64))), .second, .val (.long (((((4 : Int64) * mm) * mm) * mm) - ((192 : Int64) * mm))), .second, .val (.long (((((mm * mm) * mm) * mm) - (((64 : Int64) * mm) * mm)) + (512 : Int64))), .second, .val (.long (((512 : Int64) * (z1.toInt64)) + ((z2.toInt64) * ((64 : Int64) * mm)))), .second, .unset, .unset] [(.int nv)])) _
        refine XS.iconst X27.here hx rfl (hb hby at_301) ?_
        show Steps p.tables e below (T27.setTop (mkF m 302 #[.val (.int z0), .val (.int z1), .val (.int z2), .val (.int z3), .val (.int z4), .val (.int z5), .val (.int nv), .val (.long mm), .second, .val (.double d7), .second, .val (.ref b21), .val (.long ((64 : Int64) * mm)), .second, .val (.long ((((16 : Int64) * mm) * mm) - (512 : Int64))), .second, .val (.long (((((4 : Int64) * mm) * mm) * mm) - ((192 : Int64) * mm))), .second, .val (.long (((((mm * mm) * mm) * mm) - (((64 : Int64) * mm) * mm)) + (512 : Int64))), .second, .val (.long (((512 : Int64) * (z1.toInt64)) + ((z2.toInt64) * ((64 : Int64) * mm)))), .second, .unset, .unset] [(.int (5 : Int32)), (.int nv)])) _
        refine XS.icmpYes X27.here hx rfl (pc0 := 302) (pc' := 316) rfl (hb hby at_302) rfl (tlt (by rw [hc54_20]; decide : nv < (5 : Int32))).1 (by decide) (by decide) ?_
        show Steps p.tables e below (T27.setTop (mkF m 316 #[.val (.int z0), .val (.int z1), .val (.int z2), .val (.int z3), .val (.int z4), .val (.int z5), .val (.int nv), .val (.long mm), .second, .val (.double d7), .second, .val (.ref b21), .val (.long ((64 : Int64) * mm)), .second, .val (.long ((((16 : Int64) * mm) * mm) - (512 : Int64))), .second, .val (.long (((((4 : Int64) * mm) * mm) * mm) - ((192 : Int64) * mm))), .second, .val (.long (((((mm * mm) * mm) * mm) - (((64 : Int64) * mm) * mm)) + (512 : Int64))), .second, .val (.long (((512 : Int64) * (z1.toInt64)) + ((z2.toInt64) * ((64 : Int64) * mm)))), .second, .unset, .unset] [])) _
        refine XS.aload X27.here hx rfl (hb hby at_316) rfl rfl ?_
        show Steps p.tables e below (T27.setTop (mkF m 318 #[.val (.int z0), .val (.int z1), .val (.int z2), .val (.int z3), .val (.int z4), .val (.int z5), .val (.int nv), .val (.long mm), .second, .val (.double d7), .second, .val (.ref b21), .val (.long ((64 : Int64) * mm)), .second, .val (.long ((((16 : Int64) * mm) * mm) - (512 : Int64))), .second, .val (.long (((((4 : Int64) * mm) * mm) * mm) - ((192 : Int64) * mm))), .second, .val (.long (((((mm * mm) * mm) * mm) - (((64 : Int64) * mm) * mm)) + (512 : Int64))), .second, .val (.long (((512 : Int64) * (z1.toInt64)) + ((z2.toInt64) * ((64 : Int64) * mm)))), .second, .unset, .unset] [(.ref b21)])) _
        refine XS.dload X27.here hx rfl (hb hby at_318) rfl ?_
        show Steps p.tables e below (T27.setTop (mkF m 320 #[.val (.int z0), .val (.int z1), .val (.int z2), .val (.int z3), .val (.int z4), .val (.int z5), .val (.int nv), .val (.long mm), .second, .val (.double d7), .second, .val (.ref b21), .val (.long ((64 : Int64) * mm)), .second, .val (.long ((((16 : Int64) * mm) * mm) - (512 : Int64))), .second, .val (.long (((((4 : Int64) * mm) * mm) * mm) - ((192 : Int64) * mm))), .second, .val (.long (((((mm * mm) * mm) * mm) - (((64 : Int64) * mm) * mm)) + (512 : Int64))), .second, .val (.long (((512 : Int64) * (z1.toInt64)) + ((z2.toInt64) * ((64 : Int64) * mm)))), .second, .unset, .unset] [(.double d7), (.ref b21)])) _
        refine st28 _ ?_
        show Steps p.tables e below (T28.setTop (mkF m 323 #[.val (.int z0), .val (.int z1), .val (.int z2), .val (.int z3), .val (.int z4), .val (.int z5), .val (.int nv), .val (.long mm), .second, .val (.double d7), .second, .val (.ref b21), .val (.long ((64 : Int64) * mm)), .second, .val (.long ((((16 : Int64) * mm) * mm) - (512 : Int64))), .second, .val (.long (((((4 : Int64) * mm) * mm) * mm) - ((192 : Int64) * mm))), .second, .val (.long (((((mm * mm) * mm) * mm) - (((64 : Int64) * mm) * mm)) + (512 : Int64))), .second, .val (.long (((512 : Int64) * (z1.toInt64)) + ((z2.toInt64) * ((64 : Int64) * mm)))), .second, .unset, .unset] [(.double r28)])) _
        refine XS.dstore X28.here hx rfl (hb hby at_323) rfl (l' := #[.val (.int z0), .val (.int z1), .val (.int z2), .val (.int z3), .val (.int z4), .val (.int z5), .val (.int nv), .val (.long mm), .second, .val (.double d7), .second, .val (.ref b21), .val (.long ((64 : Int64) * mm)), .second, .val (.long ((((16 : Int64) * mm) * mm) - (512 : Int64))), .second, .val (.long (((((4 : Int64) * mm) * mm) * mm) - ((192 : Int64) * mm))), .second, .val (.long (((((mm * mm) * mm) * mm) - (((64 : Int64) * mm) * mm)) + (512 : Int64))), .second, .val (.long (((512 : Int64) * (z1.toInt64)) + ((z2.toInt64) * ((64 : Int64) * mm)))), .second, .val (.double r28), .second]) rfl ?_
        show Steps p.tables e below (T28.setTop (mkF m 325 #[.val (.int z0), .val (.int z1), .val (.int z2), .val (.int z3), .val (.int z4), .val (.int z5), .val (.int nv), .val (.long mm), .second, .val (.double d7), .second, .val (.ref b21), .val (.long ((64 : Int64) * mm)), .second, .val (.long ((((16 : Int64) * mm) * mm) - (512 : Int64))), .second, .val (.long (((((4 : Int64) * mm) * mm) * mm) - ((192 : Int64) * mm))), .second, .val (.long (((((mm * mm) * mm) * mm) - (((64 : Int64) * mm) * mm)) + (512 : Int64))), .second, .val (.long (((512 : Int64) * (z1.toInt64)) + ((z2.toInt64) * ((64 : Int64) * mm)))), .second, .val (.double r28), .second] [])) _
        refine XS.dload X28.here hx rfl (hb hby at_325) rfl ?_
        show Steps p.tables e below (T28.setTop (mkF m 327 #[.val (.int z0), .val (.int z1), .val (.int z2), .val (.int z3), .val (.int z4), .val (.int z5), .val (.int nv), .val (.long mm), .second, .val (.double d7), .second, .val (.ref b21), .val (.long ((64 : Int64) * mm)), .second, .val (.long ((((16 : Int64) * mm) * mm) - (512 : Int64))), .second, .val (.long (((((4 : Int64) * mm) * mm) * mm) - ((192 : Int64) * mm))), .second, .val (.long (((((mm * mm) * mm) * mm) - (((64 : Int64) * mm) * mm)) + (512 : Int64))), .second, .val (.long (((512 : Int64) * (z1.toInt64)) + ((z2.toInt64) * ((64 : Int64) * mm)))), .second, .val (.double r28), .second] [(.double r28)])) _
        refine X28.ldc2DoubleC hx hown (mvT hZ (hw _ (List.mem_of_getElem? (i := 12) rfl))) (g := (mkF m 327 #[.val (.int z0), .val (.int z1), .val (.int z2), .val (.int z3), .val (.int z4), .val (.int z5), .val (.int nv), .val (.long mm), .second, .val (.double d7), .second, .val (.ref b21), .val (.long ((64 : Int64) * mm)), .second, .val (.long ((((16 : Int64) * mm) * mm) - (512 : Int64))), .second, .val (.long (((((4 : Int64) * mm) * mm) * mm) - ((192 : Int64) * mm))), .second, .val (.long (((((mm * mm) * mm) * mm) - (((64 : Int64) * mm) * mm)) + (512 : Int64))), .second, .val (.long (((512 : Int64) * (z1.toInt64)) + ((z2.toInt64) * ((64 : Int64) * mm)))), .second, .val (.double r28), .second] [(.double r28)])) rfl (hb hby at_327) _ ?_
        show Steps p.tables e below (T28.setTop (mkF m 330 #[.val (.int z0), .val (.int z1), .val (.int z2), .val (.int z3), .val (.int z4), .val (.int z5), .val (.int nv), .val (.long mm), .second, .val (.double d7), .second, .val (.ref b21), .val (.long ((64 : Int64) * mm)), .second, .val (.long ((((16 : Int64) * mm) * mm) - (512 : Int64))), .second, .val (.long (((((4 : Int64) * mm) * mm) * mm) - ((192 : Int64) * mm))), .second, .val (.long (((((mm * mm) * mm) * mm) - (((64 : Int64) * mm) * mm)) + (512 : Int64))), .second, .val (.long (((512 : Int64) * (z1.toInt64)) + ((z2.toInt64) * ((64 : Int64) * mm)))), .second, .val (.double r28), .second] [(.double (4647714815446351872 : UInt64)), (.double r28)])) _
        refine XS.dmulS X28.here hx rfl (hb hby at_330) rfl nn29 v29 ?_
        show Steps p.tables e below (T28.setTop (mkF m 331 #[.val (.int z0), .val (.int z1), .val (.int z2), .val (.int z3), .val (.int z4), .val (.int z5), .val (.int nv), .val (.long mm), .second, .val (.double d7), .second, .val (.ref b21), .val (.long ((64 : Int64) * mm)), .second, .val (.long ((((16 : Int64) * mm) * mm) - (512 : Int64))), .second, .val (.long (((((4 : Int64) * mm) * mm) * mm) - ((192 : Int64) * mm))), .second, .val (.long (((((mm * mm) * mm) * mm) - (((64 : Int64) * mm) * mm)) + (512 : Int64))), .second, .val (.long (((512 : Int64) * (z1.toInt64)) + ((z2.toInt64) * ((64 : Int64) * mm)))), .second, .val (.double r28), .second] [(.double d29)])) _
        refine XS.lload X28.here hx rfl (hb hby at_331) rfl ?_
        show Steps p.tables e below (T28.setTop (mkF m 333 #[.val (.int z0), .val (.int z1), .val (.int z2), .val (.int z3), .val (.int z4), .val (.int z5), .val (.int nv), .val (.long mm), .second, .val (.double d7), .second, .val (.ref b21), .val (.long ((64 : Int64) * mm)), .second, .val (.long ((((16 : Int64) * mm) * mm) - (512 : Int64))), .second, .val (.long (((((4 : Int64) * mm) * mm) * mm) - ((192 : Int64) * mm))), .second, .val (.long (((((mm * mm) * mm) * mm) - (((64 : Int64) * mm) * mm)) + (512 : Int64))), .second, .val (.long (((512 : Int64) * (z1.toInt64)) + ((z2.toInt64) * ((64 : Int64) * mm)))), .second, .val (.double r28), .second] [(.long (((512 : Int64) * (z1.toInt64)) + ((z2.toInt64) * ((64 : Int64) * mm)))), (.double d29)])) _
        refine XS.l2dS X28.here hx rfl (hb hby at_333) rfl v31 ?_
        show Steps p.tables e below (T28.setTop (mkF m 334 #[.val (.int z0), .val (.int z1), .val (.int z2), .val (.int z3), .val (.int z4), .val (.int z5), .val (.int nv), .val (.long mm), .second, .val (.double d7), .second, .val (.ref b21), .val (.long ((64 : Int64) * mm)), .second, .val (.long ((((16 : Int64) * mm) * mm) - (512 : Int64))), .second, .val (.long (((((4 : Int64) * mm) * mm) * mm) - ((192 : Int64) * mm))), .second, .val (.long (((((mm * mm) * mm) * mm) - (((64 : Int64) * mm) * mm)) + (512 : Int64))), .second, .val (.long (((512 : Int64) * (z1.toInt64)) + ((z2.toInt64) * ((64 : Int64) * mm)))), .second, .val (.double r28), .second] [(.double d31), (.double d29)])) _
        refine XS.dcmpS X28.here hx rfl (hb hby at_334) rfl (v := (0 : Int32)) q32 ?_
        show Steps p.tables e below (T28.setTop (mkF m 335 #[.val (.int z0), .val (.int z1), .val (.int z2), .val (.int z3), .val (.int z4), .val (.int z5), .val (.int nv), .val (.long mm), .second, .val (.double d7), .second, .val (.ref b21), .val (.long ((64 : Int64) * mm)), .second, .val (.long ((((16 : Int64) * mm) * mm) - (512 : Int64))), .second, .val (.long (((((4 : Int64) * mm) * mm) * mm) - ((192 : Int64) * mm))), .second, .val (.long (((((mm * mm) * mm) * mm) - (((64 : Int64) * mm) * mm)) + (512 : Int64))), .second, .val (.long (((512 : Int64) * (z1.toInt64)) + ((z2.toInt64) * ((64 : Int64) * mm)))), .second, .val (.double r28), .second] [(.int (0 : Int32))])) _
        refine XS.ifNo X28.here hx rfl (hb hby at_335) rfl ((if0 _ _).trans (teq (by decide : (0 : Int32) = (0 : Int32))).2) ?_
        show Steps p.tables e below (T28.setTop (mkF m 338 #[.val (.int z0), .val (.int z1), .val (.int z2), .val (.int z3), .val (.int z4), .val (.int z5), .val (.int nv), .val (.long mm), .second, .val (.double d7), .second, .val (.ref b21), .val (.long ((64 : Int64) * mm)), .second, .val (.long ((((16 : Int64) * mm) * mm) - (512 : Int64))), .second, .val (.long (((((4 : Int64) * mm) * mm) * mm) - ((192 : Int64) * mm))), .second, .val (.long (((((mm * mm) * mm) * mm) - (((64 : Int64) * mm) * mm)) + (512 : Int64))), .second, .val (.long (((512 : Int64) * (z1.toInt64)) + ((z2.toInt64) * ((64 : Int64) * mm)))), .second, .val (.double r28), .second] [])) _
        refine XS.iconst X28.here hx rfl (hb hby at_338) ?_
        show Steps p.tables e below (T28.setTop (mkF m 339 #[.val (.int z0), .val (.int z1), .val (.int z2), .val (.int z3), .val (.int z4), .val (.int z5), .val (.int nv), .val (.long mm), .second, .val (.double d7), .second, .val (.ref b21), .val (.long ((64 : Int64) * mm)), .second, .val (.long ((((16 : Int64) * mm) * mm) - (512 : Int64))), .second, .val (.long (((((4 : Int64) * mm) * mm) * mm) - ((192 : Int64) * mm))), .second, .val (.long (((((mm * mm) * mm) * mm) - (((64 : Int64) * mm) * mm)) + (512 : Int64))), .second, .val (.long (((512 : Int64) * (z1.toInt64)) + ((z2.toInt64) * ((64 : Int64) * mm)))), .second, .val (.double r28), .second] [(.int (1 : Int32))])) _
        refine XS.goto X28.here hx rfl (pc0 := 339) (pc' := 343) rfl (hb hby at_339) (by decide) (by decide) ?_
        show Steps p.tables e below (T28.setTop (mkF m 343 #[.val (.int z0), .val (.int z1), .val (.int z2), .val (.int z3), .val (.int z4), .val (.int z5), .val (.int nv), .val (.long mm), .second, .val (.double d7), .second, .val (.ref b21), .val (.long ((64 : Int64) * mm)), .second, .val (.long ((((16 : Int64) * mm) * mm) - (512 : Int64))), .second, .val (.long (((((4 : Int64) * mm) * mm) * mm) - ((192 : Int64) * mm))), .second, .val (.long (((((mm * mm) * mm) * mm) - (((64 : Int64) * mm) * mm)) + (512 : Int64))), .second, .val (.long (((512 : Int64) * (z1.toInt64)) + ((z2.toInt64) * ((64 : Int64) * mm)))), .second, .val (.double r28), .second] [(.int (1 : Int32))])) _
        exact retN X28 hx (t := .boolean) Bd.returns (by simp) (hb hby at_343) hr
      · show Q0 Z z0 z1 z2 z3 z4 z5 h0 n0 _ T28.heap _
        rw [hh28]
        exact ⟨rfl, N28⟩
    · have pre33 : ∀ t, Steps p.tables e below (s₁.setTop (mkF m 78 #[.val (.int z0), .val (.int z1), .val (.int z2), .val (.int z3), .val (.int z4), .val (.int z5), .val (.int nv), .val (.long mm), .second, .val (.double d7), .second, .unset, .unset, .unset, .unset, .unset, .unset, .unset, .unset, .unset, .unset, .unset, .unset, .unset] [(.int (3 : Int32)), (.int nv)])) t → Steps p.tables e below (s₁.setTop (entryFrame m #[(.int z0), (.int z1), (.int z2), (.int z3), (.int z4), (.int z5)] maxLocals)) t := by
        intro t kt
        refine pre19 t ?_
        show Steps p.tables e below (s₁.setTop (mkF m 54 #[.val (.int z0), .val (.int z1), .val (.int z2), .val (.int z3), .val (.int z4), .val (.int z5), .val (.int nv), .val (.long mm), .second, .val (.double d7), .second, .unset, .unset, .unset, .unset, .unset, .unset, .unset, .unset, .unset, .unset, .unset, .unset, .unset] [(.int (2 : Int32)), (.int nv)])) _
        refine XS.icmpYes X0.here hx rfl (pc0 := 54) (pc' := 75) rfl (hb hby at_54) rfl (feq hc54_20).2 (by decide) (by decide) ?_
        show Steps p.tables e below (s₁.setTop (mkF m 75 #[.val (.int z0), .val (.int z1), .val (.int z2), .val (.int z3), .val (.int z4), .val (.int z5), .val (.int nv), .val (.long mm), .second, .val (.double d7), .second, .unset, .unset, .unset, .unset, .unset, .unset, .unset, .unset, .unset, .unset, .unset, .unset, .unset] [])) _
        refine XS.iload X0.here hx rfl (hb hby at_75) rfl ?_
        show Steps p.tables e below (s₁.setTop (mkF m 77 #[.val (.int z0), .val (.int z1), .val (.int z2), .val (.int z3), .val (.int z4), .val (.int z5), .val (.int nv), .val (.long mm), .second, .val (.double d7), .second, .unset, .unset, .unset, .unset, .unset, .unset, .unset, .unset, .unset, .unset, .unset, .unset, .unset] [(.int nv)])) _
        refine XS.iconst X0.here hx rfl (hb hby at_77) ?_
        exact kt
      by_cases hc78_34 : nv = (3 : Int32)
      · obtain ⟨T35, h35, k35, X35, e35, E35, A35, st35⟩ := newP X0 hx hZ (hw _ (List.mem_of_getElem? (i := 2) rfl)) e0 (g := (mkF m 82 #[.val (.int z0), .val (.int z1), .val (.int z2), .val (.int z3), .val (.int z4), .val (.int z5), .val (.int nv), .val (.long mm), .second, .val (.double d7), .second, .unset, .unset, .unset, .unset, .unset, .unset, .unset, .unset, .unset, .unset, .unset, .unset, .unset] [(.int (3 : Int32))])) rfl (hb hby at_82) rfl (by decide) (cap := 3) (by decide) (by decide) (by decide) (by decide)
        obtain ⟨b35, g35⟩ : ∃ z, z = h0.size := ⟨_, rfl⟩
        rw [← g35] at A35 st35
        have g_b35 : n0 ≤ b35 := Nat.le_trans Z0 (Nat.le_of_eq g35.symm)
        have sz_b35 : h0.size ≤ b35 := Nat.le_trans K0.1 (Nat.le_of_eq g35.symm)
        have Zs35 : n0 ≤ h35.size := Nat.le_trans Z0 E35.1
        have K35 : Keep h0 h35 [] := K0.ext E35
        have V_b35 : own_B Z h35 b35 [0, 0, 0] := own_B.new A35 rfl
        have B36 : (z1.toInt : Int).natAbs ≤ 2147483648 := own_Bi z1
        obtain ⟨d36, v36⟩ : ∃ z : UInt64, FP.i2d z1 = z := ⟨_, rfl⟩
        have D36 : own_Dy 0 z1.toInt d36 := by
          rw [← v36]
          exact own_Di z1
        have nn36 : Jvm.Free.Fl.NoNaN64 (FP.i2d z1) := by
          rw [v36]
          exact Jvm.Free.Fl.val64_no.mpr (own_Dy_num D36)
        obtain ⟨cl8837, Ar8837, Sq8837⟩ := V_b35
        have S8837 : cl8837.slots.size = ((3 : Int32)).toNatClampNeg := own_B.size Sq8837 rfl
        have hin8837 : ¬ ((0 : Int32) < 0 ∨ cl8837.slots.size ≤ ((0 : Int32)).toNatClampNeg) := inb_of S8837 ⟨by decide, by decide⟩
        obtain ⟨T38, h38, X38, e38, W38, st38⟩ := stD X35 hx hZ e35 Ar8837 (j := (0 : Int32)) hin8837 (g := (mkF m 88 #[.val (.int z0), .val (.int z1), .val (.int z2), .val (.int z3), .val (.int z4), .val (.int z5), .val (.int nv), .val (.long mm), .second, .val (.double d7), .second, .unset, .unset, .unset, .unset, .unset, .unset, .unset, .unset, .unset, .unset, .unset, .unset, .unset] [(.double d36), (.int (0 : Int32)), (.ref b35), (.ref b35)])) rfl rfl (hb hby at_88)
        have Zs38 : n0 ≤ h38.size := Nat.le_trans Zs35 (Keep.of_wr W38).1
        have K38 : Keep h0 h38 [] := K35.wr W38 (Or.inr sz_b35)
        have N38 := Fr.snoc X38 N0 g_b35
        have V_b35 : own_B Z h38 b35 [d36, 0, 0] := own_B.set Ar8837 Sq8837 W38 rfl
        have B39 : (z2.toInt : Int).natAbs ≤ 2147483648 := own_Bi z2
        obtain ⟨d39, v39⟩ : ∃ z : UInt64, FP.i2d z2 = z := ⟨_, rfl⟩
        have D39 : own_Dy 0 z2.toInt d39 := by
          rw [← v39]
          exact own_Di z2
        have nn39 : Jvm.Free.Fl.NoNaN64 (FP.i2d z2) := by
          rw [v39]
          exact Jvm.Free.Fl.val64_no.mpr (own_Dy_num D39)
        obtain ⟨cl9340, Ar9340, Sq9340⟩ := V_b35
        have S9340 : cl9340.slots.size = ((3 : Int32)).toNatClampNeg := own_B.size Sq9340 rfl
        have hin9340 : ¬ ((1 : Int32) < 0 ∨ cl9340.slots.size ≤ ((1 : Int32)).toNatClampNeg) := inb_of S9340 ⟨by decide, by decide⟩
        obtain ⟨T41, h41, X41, e41, W41, st41⟩ := stD X38 hx hZ e38 Ar9340 (j := (1 : Int32)) hin9340 (g := (mkF m 93 #[.val (.int z0), .val (.int z1), .val (.int z2), .val (.int z3), .val (.int z4), .val (.int z5), .val (.int nv), .val (.long mm), .second, .val (.double d7), .second, .unset, .unset, .unset, .unset, .unset, .unset, .unset, .unset, .unset, .unset, .unset, .unset, .unset] [(.double d39), (.int (1 : Int32)), (.ref b35), (.ref b35)])) rfl rfl (hb hby at_93)
        have Zs41 : n0 ≤ h41.size := Nat.le_trans Zs38 (Keep.of_wr W41).1
        have K41 : Keep h0 h41 [] := K38.wr W41 (Or.inr sz_b35)
        have N41 := Fr.snoc X41 N38 g_b35
        have V_b35 : own_B Z h41 b35 [d36, d39, 0] := own_B.set Ar9340 Sq9340 W41 rfl
        have B42 : (z3.toInt : Int).natAbs ≤ 2147483648 := own_Bi z3
        obtain ⟨d42, v42⟩ : ∃ z : UInt64, FP.i2d z3 = z := ⟨_, rfl⟩
        have D42 : own_Dy 0 z3.toInt d42 := by
          rw [← v42]
          exact own_Di z3
        have nn42 : Jvm.Free.Fl.NoNaN64 (FP.i2d z3) := by
          rw [v42]
          exact Jvm.Free.Fl.val64_no.mpr (own_Dy_num D42)
        obtain ⟨cl9843, Ar9843, Sq9843⟩ := V_b35
        have S9843 : cl9843.slots.size = ((3 : Int32)).toNatClampNeg := own_B.size Sq9843 rfl
        have hin9843 : ¬ ((2 : Int32) < 0 ∨ cl9843.slots.size ≤ ((2 : Int32)).toNatClampNeg) := inb_of S9843 ⟨by decide, by decide⟩
        obtain ⟨T44, h44, X44, e44, W44, st44⟩ := stD X41 hx hZ e41 Ar9843 (j := (2 : Int32)) hin9843 (g := (mkF m 98 #[.val (.int z0), .val (.int z1), .val (.int z2), .val (.int z3), .val (.int z4), .val (.int z5), .val (.int nv), .val (.long mm), .second, .val (.double d7), .second, .unset, .unset, .unset, .unset, .unset, .unset, .unset, .unset, .unset, .unset, .unset, .unset, .unset] [(.double d42), (.int (2 : Int32)), (.ref b35), (.ref b35)])) rfl rfl (hb hby at_98)
        have Zs44 : n0 ≤ h44.size := Nat.le_trans Zs41 (Keep.of_wr W44).1
        have K44 : Keep h0 h44 [] := K41.wr W44 (Or.inr sz_b35)
        have N44 := Fr.snoc X44 N41 g_b35
        have V_b35 : own_B Z h44 b35 [d36, d39, d42] := own_B.set Ar9843 Sq9843 W44 rfl
        obtain ⟨_, _, ⟨T45, L45, k45, n45⟩, -, X45, ⟨Lc45, hQ45, l45, y45, z45⟩, st45⟩ := Jvm.LawKit.callS X44 hx (y := (⟨"com/example/matchstat/matchstat/Chebyshev", "sum", "([DD)D"⟩ : MethodName)) hown (mvT hZ (hw _ (List.mem_of_getElem? (i := 8) rfl))) (mvT hZ (hw _ (List.mem_of_getElem? (i := 9) rfl))) (mvT hZ (hw _ (List.mem_of_getElem? (i := 10) rfl))) (mvT hZ (hw _ (List.mem_of_getElem? (i := 11) rfl))) (by decide) (backOf (W := 0) (rm1s3 l Z a0 hw [] b35 d7 d36 d39 d42 mm.toInt z1.toInt z2.toInt z3.toInt h44 n0 Zs44 V_b35 D7 B7 D36 B36 D39 B39 D42 B42) hZ (hw _ (List.mem_of_getElem? (i := 11) rfl)) (hw _ (List.mem_of_getElem? (i := 10) rfl)) (by decide) (by decide)) (g := (mkF m 320 #[.val (.int z0), .val (.int z1), .val (.int z2), .val (.int z3), .val (.int z4), .val (.int z5), .val (.int nv), .val (.long mm), .second, .val (.double d7), .second, .val (.ref b35), .val (.long ((64 : Int64) * mm)), .second, .val (.long ((((16 : Int64) * mm) * mm) - (512 : Int64))), .second, .val (.long (((((4 : Int64) * mm) * mm) * mm) - ((192 : Int64) * mm))), .second, .val (.long (((((mm * mm) * mm) * mm) - (((64 : Int64) * mm) * mm)) + (512 : Int64))), .second, .val (.long ((((512 : Int64) * (z1.toInt64)) + ((z2.toInt64) * ((64 : Int64) * mm))) + ((z3.toInt64) * ((((16 : Int64) * mm) * mm) - (512 : Int64))))), .second, .unset, .unset] [(.double d7), (.ref b35)])) rfl (by rw [hml]; rfl) (argsL := [(.ref b35), (.double d7)]) (rest := []) (lenOf pd0_0 rfl) rfl (by show 2 * 0 + _ ≤ _; exact Nat.le_of_eq rfl) (hb hby at_320) (fun _ _ => ⟨rfl, e44, (by decide : 1 + 0 ≤ _), (by decide : 3 + 0 ≤ _)⟩)
        dsimp only [Pt.U, Pt.locs, Pt.cells, Pt.slots] at X45 l45 y45 z45 st45 hQ45
        subst l45 y45 z45
        obtain ⟨r45, rfl, N45q, hh45, Dr45, Br45⟩ := hQ45
        have N45 := Fr.app N44 N45q
        have B46 : ((((z1.toInt * 512) + (mm.toInt * (((z2.toInt * 64) + ((2 * mm.toInt) * (((z3.toInt * 8) + ((2 * mm.toInt) * 0)) - (0 * 8)))) - (0 * 64)))) - ((((z3.toInt * 8) + ((2 * mm.toInt) * 0)) - (0 * 8)) * 64)) : Int).natAbs ≤ 5497558138880 := Br45
        obtain ⟨d46, v46⟩ : ∃ z : UInt64, FP.dmul r45 (4647714815446351872 : UInt64) = z := ⟨_, rfl⟩
        have D46 : own_Dy 0 (((z1.toInt * 512) + (mm.toInt * (((z2.toInt * 64) + ((2 * mm.toInt) * (((z3.toInt * 8) + ((2 * mm.toInt) * 0)) - (0 * 8)))) - (0 * 64)))) - ((((z3.toInt * 8) + ((2 * mm.toInt) * 0)) - (0 * 8)) * 64)) d46 := by
          rw [← v46]
          exact own_Dy_mul512 rfl (by decide) Dr45 (Nat.le_trans B46 (by decide))
        have nn46 : Jvm.Free.Fl.NoNaN64 (FP.dmul r45 (4647714815446351872 : UInt64)) := by
          rw [v46]
          exact Jvm.Free.Fl.val64_no.mpr (own_Dy_num D46)
        have l47 : own_L ((((512 : Int64) * (z1.toInt64)) + ((z2.toInt64) * ((64 : Int64) * mm))) + ((z3.toInt64) * ((((16 : Int64) * mm) * mm) - (512 : Int64)))) (((512 * z1.toInt) + (z2.toInt * (64 * mm.toInt))) + (z3.toInt * (((16 * mm.toInt) * mm.toInt) - 512))) 5497558138880 := (own_L_add (own_L_add (own_L_mul (⟨by decide, by decide⟩ : own_L (512 : Int64) 512 512) (own_L_i z1) (C := 1099511627776) (by decide) (by decide)) (own_L_mul (own_L_i z2) (own_L_mul (⟨by decide, by decide⟩ : own_L (64 : Int64) 64 64) hL (C := 512) (by decide) (by decide)) (C := 1099511627776) (by decide) (by decide)) (C := 2199023255552) (by decide) (by decide)) (own_L_mul (own_L_i z3) (own_L_sub (own_L_mul (own_L_mul (⟨by decide, by decide⟩ : own_L (16 : Int64) 16 16) hL (C := 128) (by decide) (by decide)) hL (C := 1024) (by decide) (by decide)) (⟨by decide, by decide⟩ : own_L (512 : Int64) 512 512) (C := 1536) (by decide) (by decide)) (C := 3298534883328) (by decide) (by decide)) (C := 5497558138880) (by decide) (by decide))
        have B48 : ((((512 * z1.toInt) + (z2.toInt * (64 * mm.toInt))) + (z3.toInt * (((16 * mm.toInt) * mm.toInt) - 512))) : Int).natAbs ≤ 5497558138880 := l47.2
        obtain ⟨d48, v48⟩ : ∃ z : UInt64, FP.l2d ((((512 : Int64) * (z1.toInt64)) + ((z2.toInt64) * ((64 : Int64) * mm))) + ((z3.toInt64) * ((((16 : Int64) * mm) * mm) - (512 : Int64)))) = z := ⟨_, rfl⟩
        have D48 : own_Dy 0 (((512 * z1.toInt) + (z2.toInt * (64 * mm.toInt))) + (z3.toInt * (((16 * mm.toInt) * mm.toInt) - 512))) d48 := by
          rw [← v48]
          exact own_L_d l47 (by decide)
        have nn48 : Jvm.Free.Fl.NoNaN64 (FP.l2d ((((512 : Int64) * (z1.toInt64)) + ((z2.toInt64) * ((64 : Int64) * mm))) + ((z3.toInt64) * ((((16 : Int64) * mm) * mm) - (512 : Int64))))) := by
          rw [v48]
          exact Jvm.Free.Fl.val64_no.mpr (own_Dy_num D48)
        have q49 : cmpValue (FP.dcmp d46 d48) .l = 0 := own_cmp0 D46 D48 (own_id3 mm.toInt z1.toInt z2.toInt z3.toInt) .l
        obtain ⟨fs, hr, hrun, hended, hW, hsame⟩ := X45.leave (v := some (.int (1 : Int32))) (fun h => by rw [Bd.returns] at h; cases h)
        refine ⟨_, _, pre33 _ ?_, hrun, hended, _, _, rfl, ?_, ⟨_, rfl⟩, hW, hsame.mono (by decide) (by decide)⟩
        · show Steps p.tables e below (s₁.setTop (mkF m 78 #[.val (.int z0), .val (.int z1), .val (.int z2), .val (.int z3), .val (.int z4), .val (.int z5), .val (.int nv), .val (.long mm), .second, .val (.double d7), .second, .unset, .unset, .unset, .unset, .unset, .unset, .unset, .unset, .unset, .unset, .unset, .unset, .unset] [(.int (3 : Int32)), (.int nv)])) _
          refine XS.icmpNo X0.here hx rfl (hb hby at_78) rfl (teq hc78_34).2 ?_
          show Steps p.tables e below (s₁.setTop (mkF m 81 #[.val (.int z0), .val (.int z1), .val (.int z2), .val (.int z3), .val (.int z4), .val (.int z5), .val (.int nv), .val (.long mm), .second, .val (.double d7), .second, .unset, .unset, .unset, .unset, .unset, .unset, .unset, .unset, .unset, .unset, .unset, .unset, .unset] [])) _
          refine XS.iconst X0.here hx rfl (hb hby at_81) ?_
          show Steps p.tables e below (s₁.setTop (mkF m 82 #[.val (.int z0), .val (.int z1), .val (.int z2), .val (.int z3), .val (.int z4), .val (.int z5), .val (.int nv), .val (.long mm), .second, .val (.double d7), .second, .unset, .unset, .unset, .unset, .unset, .unset, .unset, .unset, .unset, .unset, .unset, .unset, .unset] [(.int (3 : Int32))])) _
          refine st35 _ ?_
          show Steps p.tables e below (T35.setTop (mkF m 84 #[.val (.int z0), .val (.int z1), .val (.int z2), .val (.int z3), .val (.int z4), .val (.int z5), .val (.int nv), .val (.long mm), .second, .val (.double d7), .second, .unset, .unset, .unset, .unset, .unset, .unset, .unset, .unset, .unset, .unset, .unset, .unset, .unset] [(.ref b35)])) _
          refine XS.dup X35.here hx rfl (hb hby at_84) rfl rfl ?_
          show Steps p.tables e below (T35.setTop (mkF m 85 #[.val (.int z0), .val (.int z1), .val (.int z2), .val (.int z3), .val (.int z4), .val (.int z5), .val (.int nv), .val (.long mm), .second, .val (.double d7), .second, .unset, .unset, .unset, .unset, .unset, .unset, .unset, .unset, .unset, .unset, .unset, .unset, .unset] [(.ref b35), (.ref b35)])) _
          refine XS.iconst X35.here hx rfl (hb hby at_85) ?_
          show Steps p.tables e below (T35.setTop (mkF m 86 #[.val (.int z0), .val (.int z1), .val (.int z2), .val (.int z3), .val (.int z4), .val (.int z5), .val (.int nv), .val (.long mm), .second, .val (.double d7), .second, .unset, .unset, .unset, .unset, .unset, .unset, .unset, .unset, .unset, .unset, .unset, .unset, .unset] [(.int (0 : Int32)), (.ref b35), (.ref b35)])) _
          refine XS.iloadN X35.here hx rfl (hb hby at_86) rfl ?_
          show Steps p.tables e below (T35.setTop (mkF m 87 #[.val (.int z0), .val (.int z1), .val (.int z2), .val (.int z3), .val (.int z4), .val (.int z5), .val (.int nv), .val (.long mm), .second, .val (.double d7), .second, .unset, .unset, .unset, .unset, .unset, .unset, .unset, .unset, .unset, .unset, .unset, .unset, .unset] [(.int z1), (.int (0 : Int32)), (.ref b35), (.ref b35)])) _
          refine XS.i2dS X35.here hx rfl (hb hby at_87) rfl v36 ?_
          show Steps p.tables e below (T35.setTop (mkF m 88 #[.val (.int z0), .val (.int z1), .val (.int z2), .val (.int z3), .val (.int z4), .val (.int z5), .val (.int nv), .val (.long mm), .second, .val (.double d7), .second, .unset, .unset, .unset, .unset, .unset, .unset, .unset, .unset, .unset, .unset, .unset, .unset, .unset] [(.double d36), (.int (0 : Int32)), (.ref b35), (.ref b35)])) _
          refine st38 _ ?_
          show Steps p.tables e below (T38.setTop (mkF m 89 #[.val (.int z0), .val (.int z1), .val (.int z2), .val (.int z3), .val (.int z4), .val (.int z5), .val (.int nv), .val (.long mm), .second, .val (.double d7), .second, .unset, .unset, .unset, .unset, .unset, .unset, .unset, .unset, .unset, .unset, .unset, .unset, .unset] [(.ref b35)])) _
          refine XS.dup X38.here hx rfl (hb hby at_89) rfl rfl ?_
          show Steps p.tables e below (T38.setTop (mkF m 90 #[.val (.int z0), .val (.int z1), .val (.int z2), .val (.int z3), .val (.int z4), .val (.int z5), .val (.int nv), .val (.long mm), .second, .val (.double d7), .second, .unset, .unset, .unset, .unset, .unset, .unset, .unset, .unset, .unset, .unset, .unset, .unset, .unset] [(.ref b35), (.ref b35)])) _
          refine XS.iconst X38.here hx rfl (hb hby at_90) ?_
          show Steps p.tables e below (T38.setTop (mkF m 91 #[.val (.int z0), .val (.int z1), .val (.int z2), .val (.int z3), .val (.int z4), .val (.int z5), .val (.int nv), .val (.long mm), .second, .val (.double d7), .second, .unset, .unset, .unset, .unset, .unset, .unset, .unset, .unset, .unset, .unset, .unset, .unset, .unset] [(.int (1 : Int32)), (.ref b35), (.ref b35)])) _
          refine XS.iloadN X38.here hx rfl (hb hby at_91) rfl ?_
          show Steps p.tables e below (T38.setTop (mkF m 92 #[.val (.int z0), .val (.int z1), .val (.int z2), .val (.int z3), .val (.int z4), .val (.int z5), .val (.int nv), .val (.long mm), .second, .val (.double d7), .second, .unset, .unset, .unset, .unset, .unset, .unset, .unset, .unset, .unset, .unset, .unset, .unset, .unset] [(.int z2), (.int (1 : Int32)), (.ref b35), (.ref b35)])) _
          refine XS.i2dS X38.here hx rfl (hb hby at_92) rfl v39 ?_
          show Steps p.tables e below (T38.setTop (mkF m 93 #[.val (.int z0), .val (.int z1), .val (.int z2), .val (.int z3), .val (.int z4), .val (.int z5), .val (.int nv), .val (.long mm), .second, .val (.double d7), .second, .unset, .unset, .unset, .unset, .unset, .unset, .unset, .unset, .unset, .unset, .unset, .unset, .unset] [(.double d39), (.int (1 : Int32)), (.ref b35), (.ref b35)])) _
          refine st41 _ ?_
          show Steps p.tables e below (T41.setTop (mkF m 94 #[.val (.int z0), .val (.int z1), .val (.int z2), .val (.int z3), .val (.int z4), .val (.int z5), .val (.int nv), .val (.long mm), .second, .val (.double d7), .second, .unset, .unset, .unset, .unset, .unset, .unset, .unset, .unset, .unset, .unset, .unset, .unset, .unset] [(.ref b35)])) _
          refine XS.dup X41.here hx rfl (hb hby at_94) rfl rfl ?_
          show Steps p.tables e below (T41.setTop (mkF m 95 #[.val (.int z0), .val (.int z1), .val (.int z2), .val (.int z3), .val (.int z4), .val (.int z5), .val (.int nv), .val (.long mm), .second, .val (.double d7), .second, .unset, .unset, .unset, .unset, .unset, .unset, .unset, .unset, .unset, .unset, .unset, .unset, .unset] [(.ref b35), (.ref b35)])) _
          refine XS.iconst X41.here hx rfl (hb hby at_95) ?_
          show Steps p.tables e below (T41.setTop (mkF m 96 #[.val (.int z0), .val (.int z1), .val (.int z2), .val (.int z3), .val (.int z4), .val (.int z5), .val (.int nv), .val (.long mm), .second, .val (.double d7), .second, .unset, .unset, .unset, .unset, .unset, .unset, .unset, .unset, .unset, .unset, .unset, .unset, .unset] [(.int (2 : Int32)), (.ref b35), (.ref b35)])) _
          refine XS.iloadN X41.here hx rfl (hb hby at_96) rfl ?_
          show Steps p.tables e below (T41.setTop (mkF m 97 #[.val (.int z0), .val (.int z1), .val (.int z2), .val (.int z3), .val (.int z4), .val (.int z5), .val (.int nv), .val (.long mm), .second, .val (.double d7), .second, .unset, .unset, .unset, .unset, .unset, .unset, .unset, .unset, .unset, .unset, .unset, .unset, .unset] [(.int z3), (.int (2 : Int32)), (.ref b35), (.ref b35)])) _
          refine XS.i2dS X41.here hx rfl (hb hby at_97) rfl v42 ?_
          show Steps p.tables e below (T41.setTop (mkF m 98 #[.val (.int z0), .val (.int z1), .val (.int z2), .val (.int z3), .val (.int z4), .val (.int z5), .val (.int nv), .val (.long mm), .second, .val (.double d7), .second, .unset, .unset, .unset, .unset, .unset, .unset, .unset, .unset, .unset, .unset, .unset, .unset, .unset] [(.double d42), (.int (2 : Int32)), (.ref b35), (.ref b35)])) _
          refine st44 _ ?_
          show Steps p.tables e below (T44.setTop (mkF m 99 #[.val (.int z0), .val (.int z1), .val (.int z2), .val (.int z3), .val (.int z4), .val (.int z5), .val (.int nv), .val (.long mm), .second, .val (.double d7), .second, .unset, .unset, .unset, .unset, .unset, .unset, .unset, .unset, .unset, .unset, .unset, .unset, .unset] [(.ref b35)])) _
          refine XS.astore X44.here hx rfl (hb hby at_99) rfl rfl (l' := #[.val (.int z0), .val (.int z1), .val (.int z2), .val (.int z3), .val (.int z4), .val (.int z5), .val (.int nv), .val (.long mm), .second, .val (.double d7), .second, .val (.ref b35), .unset, .unset, .unset, .unset, .unset, .unset, .unset, .unset, .unset, .unset, .unset, .unset]) rfl ?_
          show Steps p.tables e below (T44.setTop (mkF m 101 #[.val (.int z0), .val (.int z1), .val (.int z2), .val (.int z3), .val (.int z4), .val (.int z5), .val (.int nv), .val (.long mm), .second, .val (.double d7), .second, .val (.ref b35), .unset, .unset, .unset, .unset, .unset, .unset, .unset, .unset, .unset, .unset, .unset, .unset] [])) _
          refine XS.goto X44.here hx rfl (pc0 := 101) (pc' := 171) rfl (hb hby at_101) (by decide) (by decide) ?_
          show Steps p.tables e below (T44.setTop (mkF m 171 #[.val (.int z0), .val (.int z1), .val (.int z2), .val (.int z3), .val (.int z4), .val (.int z5), .val (.int nv), .val (.long mm), .second, .val (.double d7), .second, .val (.ref b35), .unset, .unset, .unset, .unset, .unset, .unset, .unset, .unset, .unset, .unset, .unset, .unset] [])) _
          refine X44.ldc2Long hx hown (mvT hZ (hw _ (List.mem_of_getElem? (i := 3) rfl))) (g := (mkF m 171 #[.val (.int z0), .val (.int z1), .val (.int z2), .val (.int z3), .val (.int z4), .val (.int z5), .val (.int nv), .val (.long mm), .second, .val (.double d7), .second, .val (.ref b35), .unset, .unset, .unset, .unset, .unset, .unset, .unset, .unset, .unset, .unset, .unset, .unset] [])) rfl (hb hby at_171) _ ?_
          show Steps p.tables e below (T44.setTop (mkF m 174 #[.val (.int z0), .val (.int z1), .val (.int z2), .val (.int z3), .val (.int z4), .val (.int z5), .val (.int nv), .val (.long mm), .second, .val (.double d7), .second, .val (.ref b35), .unset, .unset, .unset, .unset, .unset, .unset, .unset, .unset, .unset, .unset, .unset, .unset] [(.long (64 : Int64))])) _
          refine XS.lload X44.here hx rfl (hb hby at_174) rfl ?_
          show Steps p.tables e below (T44.setTop (mkF m 176 #[.val (.int z0), .val (.int z1), .val (.int z2), .val (.int z3), .val (.int z4), .val (.int z5), .val (.int nv), .val (.long mm), .second, .val (.double d7), .second, .val (.ref b35), .unset, .unset, .unset, .unset, .unset, .unset, .unset, .unset, .unset, .unset, .unset, .unset] [(.long mm), (.long (64 : Int64))])) _
          refine XS.lmul X44.here hx rfl (hb hby at_176) rfl ?_
          show Steps p.tables e below (T44.setTop (mkF m 177 #[.val (.int z0), .val (.int z1), .val (.int z2), .val (.int z3), .val (.int z4), .val (.int z5), .val (.int nv), .val (.long mm), .second, .val (.double d7), .second, .val (.ref b35), .unset, .unset, .unset, .unset, .unset, .unset, .unset, .unset, .unset, .unset, .unset, .unset] [(.long ((64 : Int64) * mm))])) _
          refine XS.lstore X44.here hx rfl (hb hby at_177) rfl (l' := #[.val (.int z0), .val (.int z1), .val (.int z2), .val (.int z3), .val (.int z4), .val (.int z5), .val (.int nv), .val (.long mm), .second, .val (.double d7), .second, .val (.ref b35), .val (.long ((64 : Int64) * mm)), .second, .unset, .unset, .unset, .unset, .unset, .unset, .unset, .unset, .unset, .unset]) rfl ?_
          show Steps p.tables e below (T44.setTop (mkF m 179 #[.val (.int z0), .val (.int z1), .val (.int z2), .val (.int z3), .val (.int z4), .val (.int z5), .val (.int nv), .val (.long mm), .second, .val (.double d7), .second, .val (.ref b35), .val (.long ((64 : Int64) * mm)), .second, .unset, .unset, .unset, .unset, .unset, .unset, .unset, .unset, .unset, .unset] [])) _
          refine X44.ldc2Long hx hown (mvT hZ (hw _ (List.mem_of_getElem? (i := 4) rfl))) (g := (mkF m 179 #[.val (.int z0), .val (.int z1), .val (.int z2), .val (.int z3), .val (.int z4), .val (.int z5), .val (.int nv), .val (.long mm), .second, .val (.double d7), .second, .val (.ref b35), .val (.long ((64 : Int64) * mm)), .second, .unset, .unset, .unset, .unset, .unset, .unset, .unset, .unset, .unset, .unset] [])) rfl (hb hby at_179) _ ?_
          show Steps p.tables e below (T44.setTop (mkF m 182 #[.val (.int z0), .val (.int z1), .val (.int z2), .val (.int z3), .val (.int z4), .val (.int z5), .val (.int nv), .val (.long mm), .second, .val (.double d7), .second, .val (.ref b35), .val (.long ((64 : Int64) * mm)), .second, .unset, .unset, .unset, .unset, .unset, .unset, .unset, .unset, .unset, .unset] [(.long (16 : Int64))])) _
          refine XS.lload X44.here hx rfl (hb hby at_182) rfl ?_
          show Steps p.tables e below (T44.setTop (mkF m 184 #[.val (.int z0), .val (.int z1), .val (.int z2), .val (.int z3), .val (.int z4), .val (.int z5), .val (.int nv), .val (.long mm), .second, .val (.double d7), .second, .val (.ref b35), .val (.long ((64 : Int64) * mm)), .second, .unset, .unset, .unset, .unset, .unset, .unset, .unset, .unset, .unset, .unset] [(.long mm), (.long (16 : Int64))])) _
          refine XS.lmul X44.here hx rfl (hb hby at_184) rfl ?_
          show Steps p.tables e below (T44.setTop (mkF m 185 #[.val (.int z0), .val (.int z1), .val (.int z2), .val (.int z3), .val (.int z4), .val (.int z5), .val (.int nv), .val (.long mm), .second, .val (.double d7), .second, .val (.ref b35), .val (.long ((64 : Int64) * mm)), .second, .unset, .unset, .unset, .unset, .unset, .unset, .unset, .unset, .unset, .unset] [(.long ((16 : Int64) * mm))])) _
          refine XS.lload X44.here hx rfl (hb hby at_185) rfl ?_
          show Steps p.tables e below (T44.setTop (mkF m 187 #[.val (.int z0), .val (.int z1), .val (.int z2), .val (.int z3), .val (.int z4), .val (.int z5), .val (.int nv), .val (.long mm), .second, .val (.double d7), .second, .val (.ref b35), .val (.long ((64 : Int64) * mm)), .second, .unset, .unset, .unset, .unset, .unset, .unset, .unset, .unset, .unset, .unset] [(.long mm), (.long ((16 : Int64) * mm))])) _
          refine XS.lmul X44.here hx rfl (hb hby at_187) rfl ?_
          show Steps p.tables e below (T44.setTop (mkF m 188 #[.val (.int z0), .val (.int z1), .val (.int z2), .val (.int z3), .val (.int z4), .val (.int z5), .val (.int nv), .val (.long mm), .second, .val (.double d7), .second, .val (.ref b35), .val (.long ((64 : Int64) * mm)), .second, .unset, .unset, .unset, .unset, .unset, .unset, .unset, .unset, .unset, .unset] [(.long (((16 : Int64) * mm) * mm))])) _
          refine X44.ldc2Long hx hown (mvT hZ (hw _ (List.mem_of_getElem? (i := 5) rfl))) (g := (mkF m 188 #[.val (.int z0), .val (.int z1), .val (.int z2), .val (.int z3), .val (.int z4), .val (.int z5), .val (.int nv), .val (.long mm), .second, .val (.double d7), .second, .val (.ref b35), .val (.long ((64 : Int64) * mm)), .second, .unset, .unset, .unset, .unset, .unset, .unset, .unset, .unset, .unset, .unset] [(.long (((16 : Int64) * mm) * mm))])) rfl (hb hby at_188) _ ?_
          show Steps p.tables e below (T44.setTop (mkF m 191 #[.val (.int z0), .val (.int z1), .val (.int z2), .val (.int z3), .val (.int z4), .val (.int z5), .val (.int nv), .val (.long mm), .second, .val (.double d7), .second, .val (.ref b35), .val (.long ((64 : Int64) * mm)), .second, .unset, .unset, .unset, .unset, .unset, .unset, .unset, .unset, .unset, .unset] [(.long (512 : Int64)), (.long (((16 : Int64) * mm) * mm))])) _
          refine XS.lsub X44.here hx rfl (hb hby at_191) rfl ?_
          show Steps p.tables e below (T44.setTop (mkF m 192 #[.val (.int z0), .val (.int z1), .val (.int z2), .val (.int z3), .val (.int z4), .val (.int z5), .val (.int nv), .val (.long mm), .second, .val (.double d7), .second, .val (.ref b35), .val (.long ((64 : Int64) * mm)), .second, .unset, .unset, .unset, .unset, .unset, .unset, .unset, .unset, .unset, .unset] [(.long ((((16 : Int64) * mm) * mm) - (512 : Int64)))])) _
          refine XS.lstore X44.here hx rfl (hb hby at_192) rfl (l' := #[.val (.int z0), .val (.int z1), .val (.int z2), .val (.int z3), .val (.int z4), .val (.int z5), .val (.int nv), .val (.long mm), .second, .val (.double d7), .second, .val (.ref b35), .val (.long ((64 : Int64) * mm)), .second, .val (.long ((((16 : Int64) * mm) * mm) - (512 : Int64))), .second, .unset, .unset, .unset, .unset, .unset, .unset, .unset, .unset]) rfl ?_
          show Steps p.tables e below (T44.setTop (mkF m 194 #[.val (.int z0), .val (.int z1), .val (.int z2), .val (.int z3), .val (.int z4), .val (.int z5), .val (.int nv), .val (.long mm), .second, .val (.double d7), .second, .val (.ref b35), .val (.long ((64 : Int64) * mm)), .second, .val (.long ((((16 : Int64) * mm) * mm) - (512 : Int64))), .second, .unset, .unset, .unset, .unset, .unset, .unset, .unset, .unset] [])) _
          refine X44.ldc2Long hx hown (mvT hZ (hw _ (List.mem_of_getElem? (i := 6) rfl))) (g := (mkF m 194 #[.val (.int z0), .val (.int z1), .val (.int z2), .val (.int z3), .val (.int z4), .val (.int z5), .val (.int nv), .val (.long mm), .second, .val (.double d7), .second, .val (.ref b35), .val (.long ((64 : Int64) * mm)), .second, .val (.long ((((16 : Int64) * mm) * mm) - (512 : Int64))), .second, .unset, .unset, .unset, .unset, .unset, .unset, .unset, .unset] [])) rfl (hb hby at_194) _ ?_
          show Steps p.tables e below (T44.setTop (mkF m 197 #[.val (.int z0), .val (.int z1), .val (.int z2), .val (.int z3), .val (.int z4), .val (.int z5), .val (.int nv), .val (.long mm), .second, .val (.double d7), .second, .val (.ref b35), .val (.long ((64 : Int64) * mm)), .second, .val (.long ((((16 : Int64) * mm) * mm) - (512 : Int64))), .second, .unset, .unset, .unset, .unset, .unset, .unset, .unset, .unset] [(.long (4 : Int64))])) _
          refine XS.lload X44.here hx rfl (hb hby at_197) rfl ?_
          show Steps p.tables e below (T44.setTop (mkF m 199 #[.val (.int z0), .val (.int z1), .val (.int z2), .val (.int z3), .val (.int z4), .val (.int z5), .val (.int nv), .val (.long mm), .second, .val (.double d7), .second, .val (.ref b35), .val (.long ((64 : Int64) * mm)), .second, .val (.long ((((16 : Int64) * mm) * mm) - (512 : Int64))), .second, .unset, .unset, .unset, .unset, .unset, .unset, .unset, .unset] [(.long mm), (.long (4 : Int64))])) _
          refine XS.lmul X44.here hx rfl (hb hby at_199) rfl ?_
          show Steps p.tables e below (T44.setTop (mkF m 200 #[.val (.int z0), .val (.int z1), .val (.int z2), .val (.int z3), .val (.int z4), .val (.int z5), .val (.int nv), .val (.long mm), .second, .val (.double d7), .second, .val (.ref b35), .val (.long ((64 : Int64) * mm)), .second, .val (.long ((((16 : Int64) * mm) * mm) - (512 : Int64))), .second, .unset, .unset, .unset, .unset, .unset, .unset, .unset, .unset] [(.long ((4 : Int64) * mm))])) _
          refine XS.lload X44.here hx rfl (hb hby at_200) rfl ?_
          show Steps p.tables e below (T44.setTop (mkF m 202 #[.val (.int z0), .val (.int z1), .val (.int z2), .val (.int z3), .val (.int z4), .val (.int z5), .val (.int nv), .val (.long mm), .second, .val (.double d7), .second, .val (.ref b35), .val (.long ((64 : Int64) * mm)), .second, .val (.long ((((16 : Int64) * mm) * mm) - (512 : Int64))), .second, .unset, .unset, .unset, .unset, .unset, .unset, .unset, .unset] [(.long mm), (.long ((4 : Int64) * mm))])) _
          refine XS.lmul X44.here hx rfl (hb hby at_202) rfl ?_
          show Steps p.tables e below (T44.setTop (mkF m 203 #[.val (.int z0), .val (.int z1), .val (.int z2), .val (.int z3), .val (.int z4), .val (.int z5), .val (.int nv), .val (.long mm), .second, .val (.double d7), .second, .val (.ref b35), .val (.long ((64 : Int64) * mm)), .second, .val (.long ((((16 : Int64) * mm) * mm) - (512 : Int64))), .second, .unset, .unset, .unset, .unset, .unset, .unset, .unset, .unset] [(.long (((4 : Int64) * mm) * mm))])) _
          refine XS.lload X44.here hx rfl (hb hby at_203) rfl ?_
          show Steps p.tables e below (T44.setTop (mkF m 205 #[.val (.int z0), .val (.int z1), .val (.int z2), .val (.int z3), .val (.int z4), .val (.int z5), .val (.int nv), .val (.long mm), .second, .val (.double d7), .second, .val (.ref b35), .val (.long ((64 : Int64) * mm)), .second, .val (.long ((((16 : Int64) * mm) * mm) - (512 : Int64))), .second, .unset, .unset, .unset, .unset, .unset, .unset, .unset, .unset] [(.long mm), (.long (((4 : Int64) * mm) * mm))])) _
          refine XS.lmul X44.here hx rfl (hb hby at_205) rfl ?_
          show Steps p.tables e below (T44.setTop (mkF m 206 #[.val (.int z0), .val (.int z1), .val (.int z2), .val (.int z3), .val (.int z4), .val (.int z5), .val (.int nv), .val (.long mm), .second, .val (.double d7), .second, .val (.ref b35), .val (.long ((64 : Int64) * mm)), .second, .val (.long ((((16 : Int64) * mm) * mm) - (512 : Int64))), .second, .unset, .unset, .unset, .unset, .unset, .unset, .unset, .unset] [(.long ((((4 : Int64) * mm) * mm) * mm))])) _
          refine X44.ldc2Long hx hown (mvT hZ (hw _ (List.mem_of_getElem? (i := 7) rfl))) (g := (mkF m 206 #[.val (.int z0), .val (.int z1), .val (.int z2), .val (.int z3), .val (.int z4), .val (.int z5), .val (.int nv), .val (.long mm), .second, .val (.double d7), .second, .val (.ref b35), .val (.long ((64 : Int64) * mm)), .second, .val (.long ((((16 : Int64) * mm) * mm) - (512 : Int64))), .second, .unset, .unset, .unset, .unset, .unset, .unset, .unset, .unset] [(.long ((((4 : Int64) * mm) * mm) * mm))])) rfl (hb hby at_206) _ ?_
          show Steps p.tables e below (T44.setTop (mkF m 209 #[.val (.int z0), .val (.int z1), .val (.int z2), .val (.int z3), .val (.int z4), .val (.int z5), .val (.int nv), .val (.long mm), .second, .val (.double d7), .second, .val (.ref b35), .val (.long ((64 : Int64) * mm)), .second, .val (.long ((((16 : Int64) * mm) * mm) - (512 : Int64))), .second, .unset, .unset, .unset, .unset, .unset, .unset, .unset, .unset] [(.long (192 : Int64)), (.long ((((4 : Int64) * mm) * mm) * mm))])) _
          refine XS.lload X44.here hx rfl (hb hby at_209) rfl ?_
          show Steps p.tables e below (T44.setTop (mkF m 211 #[.val (.int z0), .val (.int z1), .val (.int z2), .val (.int z3), .val (.int z4), .val (.int z5), .val (.int nv), .val (.long mm), .second, .val (.double d7), .second, .val (.ref b35), .val (.long ((64 : Int64) * mm)), .second, .val (.long ((((16 : Int64) * mm) * mm) - (512 : Int64))), .second, .unset, .unset, .unset, .unset, .unset, .unset, .unset, .unset] [(.long mm), (.long (192 : Int64)), (.long ((((4 : Int64) * mm) * mm) * mm))])) _
          refine XS.lmul X44.here hx rfl (hb hby at_211) rfl ?_
          show Steps p.tables e below (T44.setTop (mkF m 212 #[.val (.int z0), .val (.int z1), .val (.int z2), .val (.int z3), .val (.int z4), .val (.int z5), .val (.int nv), .val (.long mm), .second, .val (.double d7), .second, .val (.ref b35), .val (.long ((64 : Int64) * mm)), .second, .val (.long ((((16 : Int64) * mm) * mm) - (512 : Int64))), .second, .unset, .unset, .unset, .unset, .unset, .unset, .unset, .unset] [(.long ((192 : Int64) * mm)), (.long ((((4 : Int64) * mm) * mm) * mm))])) _
          refine XS.lsub X44.here hx rfl (hb hby at_212) rfl ?_
          show Steps p.tables e below (T44.setTop (mkF m 213 #[.val (.int z0), .val (.int z1), .val (.int z2), .val (.int z3), .val (.int z4), .val (.int z5), .val (.int nv), .val (.long mm), .second, .val (.double d7), .second, .val (.ref b35), .val (.long ((64 : Int64) * mm)), .second, .val (.long ((((16 : Int64) * mm) * mm) - (512 : Int64))), .second, .unset, .unset, .unset, .unset, .unset, .unset, .unset, .unset] [(.long (((((4 : Int64) * mm) * mm) * mm) - ((192 : Int64) * mm)))])) _
          refine XS.lstore X44.here hx rfl (hb hby at_213) rfl (l' := #[.val (.int z0), .val (.int z1), .val (.int z2), .val (.int z3), .val (.int z4), .val (.int z5), .val (.int nv), .val (.long mm), .second, .val (.double d7), .second, .val (.ref b35), .val (.long ((64 : Int64) * mm)), .second, .val (.long ((((16 : Int64) * mm) * mm) - (512 : Int64))), .second, .val (.long (((((4 : Int64) * mm) * mm) * mm) - ((192 : Int64) * mm))), .second, .unset, .unset, .unset, .unset, .unset, .unset]) rfl ?_
          show Steps p.tables e below (T44.setTop (mkF m 215 #[.val (.int z0), .val (.int z1), .val (.int z2), .val (.int z3), .val (.int z4), .val (.int z5), .val (.int nv), .val (.long mm), .second, .val (.double d7), .second, .val (.ref b35), .val (.long ((64 : Int64) * mm)), .second, .val (.long ((((16 : Int64) * mm) * mm) - (512 : Int64))), .second, .val (.long (((((4 : Int64) * mm) * mm) * mm) - ((192 : Int64) * mm))), .second, .unset, .unset, .unset, .unset, .unset, .unset] [])) _
          refine XS.lload X44.here hx rfl (hb hby at_215) rfl ?_
          show Steps p.tables e below (T44.setTop (mkF m 217 #[.val (.int z0), .val (.int z1), .val (.int z2), .val (.int z3), .val (.int z4), .val (.int z5), .val (.int nv), .val (.long mm), .second, .val (.double d7), .second, .val (.ref b35), .val (.long ((64 : Int64) * mm)), .second, .val (.long ((((16 : Int64) * mm) * mm) - (512 : Int64))), .second, .val (.long (((((4 : Int64) * mm) * mm) * mm) - ((192 : Int64) * mm))), .second, .unset, .unset, .unset, .unset, .unset, .unset] [(.long mm)])) _
          refine XS.lload X44.here hx rfl (hb hby at_217) rfl ?_
          show Steps p.tables e below (T44.setTop (mkF m 219 #[.val (.int z0), .val (.int z1), .val (.int z2), .val (.int z3), .val (.int z4), .val (.int z5), .val (.int nv), .val (.long mm), .second, .val (.double d7), .second, .val (.ref b35), .val (.long ((64 : Int64) * mm)), .second, .val (.long ((((16 : Int64) * mm) * mm) - (512 : Int64))), .second, .val (.long (((((4 : Int64) * mm) * mm) * mm) - ((192 : Int64) * mm))), .second, .unset, .unset, .unset, .unset, .unset, .unset] [(.long mm), (.long mm)])) _
          refine XS.lmul X44.here hx rfl (hb hby at_219) rfl ?_
          show Steps p.tables e below (T44.setTop (mkF m 220 #[.val (.int z0), .val (.int z1), .val (.int z2), .val (.int z3), .val (.int z4), .val (.int z5), .val (.int nv), .val (.long mm), .second, .val (.double d7), .second, .val (.ref b35), .val (.long ((64 : Int64) * mm)), .second, .val (.long ((((16 : Int64) * mm) * mm) - (512 : Int64))), .second, .val (.long (((((4 : Int64) * mm) * mm) * mm) - ((192 : Int64) * mm))), .second, .unset, .unset, .unset, .unset, .unset, .unset] [(.long (mm * mm))])) _
          refine XS.lload X44.here hx rfl (hb hby at_220) rfl ?_
          show Steps p.tables e below (T44.setTop (mkF m 222 #[.val (.int z0), .val (.int z1), .val (.int z2), .val (.int z3), .val (.int z4), .val (.int z5), .val (.int nv), .val (.long mm), .second, .val (.double d7), .second, .val (.ref b35), .val (.long ((64 : Int64) * mm)), .second, .val (.long ((((16 : Int64) * mm) * mm) - (512 : Int64))), .second, .val (.long (((((4 : Int64) * mm) * mm) * mm) - ((192 : Int64) * mm))), .second, .unset, .unset, .unset, .unset, .unset, .unset] [(.long mm), (.long (mm * mm))])) _
          refine XS.lmul X44.here hx rfl (hb hby at_222) rfl ?_
          show Steps p.tables e below (T44.setTop (mkF m 223 #[.val (.int z0), .val (.int z1), .val (.int z2), .val (.int z3), .val (.int z4), .val (.int z5), .val (.int nv), .val (.long mm), .second, .val (.double d7), .second, .val (.ref b35), .val (.long ((64 : Int64) * mm)), .second, .val (.long ((((16 : Int64) * mm) * mm) - (512 : Int64))), .second, .val (.long (((((4 : Int64) * mm) * mm) * mm) - ((192 : Int64) * mm))), .second, .unset, .unset, .unset, .unset, .unset, .unset] [(.long ((mm * mm) * mm))])) _
          refine XS.lload X44.here hx rfl (hb hby at_223) rfl ?_
          show Steps p.tables e below (T44.setTop (mkF m 225 #[.val (.int z0), .val (.int z1), .val (.int z2), .val (.int z3), .val (.int z4), .val (.int z5), .val (.int nv), .val (.long mm), .second, .val (.double d7), .second, .val (.ref b35), .val (.long ((64 : Int64) * mm)), .second, .val (.long ((((16 : Int64) * mm) * mm) - (512 : Int64))), .second, .val (.long (((((4 : Int64) * mm) * mm) * mm) - ((192 : Int64) * mm))), .second, .unset, .unset, .unset, .unset, .unset, .unset] [(.long mm), (.long ((mm * mm) * mm))])) _
          refine XS.lmul X44.here hx rfl (hb hby at_225) rfl ?_
          show Steps p.tables e below (T44.setTop (mkF m 226 #[.val (.int z0), .val (.int z1), .val (.int z2), .val (.int z3), .val (.int z4), .val (.int z5), .val (.int nv), .val (.long mm), .second, .val (.double d7), .second, .val (.ref b35), .val (.long ((64 : Int64) * mm)), .second, .val (.long ((((16 : Int64) * mm) * mm) - (512 : Int64))), .second, .val (.long (((((4 : Int64) * mm) * mm) * mm) - ((192 : Int64) * mm))), .second, .unset, .unset, .unset, .unset, .unset, .unset] [(.long (((mm * mm) * mm) * mm))])) _
          refine X44.ldc2Long hx hown (mvT hZ (hw _ (List.mem_of_getElem? (i := 3) rfl))) (g := (mkF m 226 #[.val (.int z0), .val (.int z1), .val (.int z2), .val (.int z3), .val (.int z4), .val (.int z5), .val (.int nv), .val (.long mm), .second, .val (.double d7), .second, .val (.ref b35), .val (.long ((64 : Int64) * mm)), .second, .val (.long ((((16 : Int64) * mm) * mm) - (512 : Int64))), .second, .val (.long (((((4 : Int64) * mm) * mm) * mm) - ((192 : Int64) * mm))), .second, .unset, .unset, .unset, .unset, .unset, .unset] [(.long (((mm * mm) * mm) * mm))])) rfl (hb hby at_226) _ ?_
          show Steps p.tables e below (T44.setTop (mkF m 229 #[.val (.int z0), .val (.int z1), .val (.int z2), .val (.int z3), .val (.int z4), .val (.int z5), .val (.int nv), .val (.long mm), .second, .val (.double d7), .second, .val (.ref b35), .val (.long ((64 : Int64) * mm)), .second, .val (.long ((((16 : Int64) * mm) * mm) - (512 : Int64))), .second, .val (.long (((((4 : Int64) * mm) * mm) * mm) - ((192 : Int64) * mm))), .second, .unset, .unset, .unset, .unset, .unset, .unset] [(.long (64 : Int64)), (.long (((mm * mm) * mm) * mm))])) _
          refine XS.lload X44.here hx rfl (hb hby at_229) rfl ?_
          show Steps p.tables e below (T44.setTop (mkF m 231 #[.val (.int z0), .val (.int z1), .val (.int z2), .val (.int z3), .val (.int z4), .val (.int z5), .val (.int nv), .val (.long mm), .second, .val (.double d7), .second, .val (.ref b35), .val (.long ((64 : Int64) * mm)), .second, .val (.long ((((16 : Int64) * mm) * mm) - (512 : Int64))), .second, .val (.long (((((4 : Int64) * mm) * mm) * mm) - ((192 : Int64) * mm))), .second, .unset, .unset, .unset, .unset, .unset, .unset] [(.long mm), (.long (64 : Int64)), (.long (((mm * mm) * mm) * mm))])) _
          refine XS.lmul X44.here hx rfl (hb hby at_231) rfl ?_
          show Steps p.tables e below (T44.setTop (mkF m 232 #[.val (.int z0), .val (.int z1), .val (.int z2), .val (.int z3), .val (.int z4), .val (.int z5), .val (.int nv), .val (.long mm), .second, .val (.double d7), .second, .val (.ref b35), .val (.long ((64 : Int64) * mm)), .second, .val (.long ((((16 : Int64) * mm) * mm) - (512 : Int64))), .second, .val (.long (((((4 : Int64) * mm) * mm) * mm) - ((192 : Int64) * mm))), .second, .unset, .unset, .unset, .unset, .unset, .unset] [(.long ((64 : Int64) * mm)), (.long (((mm * mm) * mm) * mm))])) _
          refine XS.lload X44.here hx rfl (hb hby at_232) rfl ?_
          show Steps p.tables e below (T44.setTop (mkF m 234 #[.val (.int z0), .val (.int z1), .val (.int z2), .val (.int z3), .val (.int z4), .val (.int z5), .val (.int nv), .val (.long mm), .second, .val (.double d7), .second, .val (.ref b35), .val (.long ((64 : Int64) * mm)), .second, .val (.long ((((16 : Int64) * mm) * mm) - (512 : Int64))), .second, .val (.long (((((4 : Int64) * mm) * mm) * mm) - ((192 : Int64) * mm))), .second, .unset, .unset, .unset, .unset, .unset, .unset] [(.long mm), (.long ((64 : Int64) * mm)), (.long (((mm * mm) * mm) * mm))])) _
          refine XS.lmul X44.here hx rfl (hb hby at_234) rfl ?_
          show Steps p.tables e below (T44.setTop (mkF m 235 #[.val (.int z0), .val (.int z1), .val (.int z2), .val (.int z3), .val (.int z4), .val (.int z5), .val (.int nv), .val (.long mm), .second, .val (.double d7), .second, .val (.ref b35), .val (.long ((64 : Int64) * mm)), .second, .val (.long ((((16 : Int64) * mm) * mm) - (512 : Int64))), .second, .val (.long (((((4 : Int64) * mm) * mm) * mm) - ((192 : Int64) * mm))), .second, .unset, .unset, .unset, .unset, .unset, .unset] [(.long (((64 : Int64) * mm) * mm)), (.long (((mm * mm) * mm) * mm))])) _
          refine XS.lsub X44.here hx rfl (hb hby at_235) rfl ?_
          show Steps p.tables e below (T44.setTop (mkF m 236 #[.val (.int z0), .val (.int z1), .val (.int z2), .val (.int z3), .val (.int z4), .val (.int z5), .val (.int nv), .val (.long mm), .second, .val (.double d7), .second, .val (.ref b35), .val (.long ((64 : Int64) * mm)), .second, .val (.long ((((16 : Int64) * mm) * mm) - (512 : Int64))), .second, .val (.long (((((4 : Int64) * mm) * mm) * mm) - ((192 : Int64) * mm))), .second, .unset, .unset, .unset, .unset, .unset, .unset] [(.long ((((mm * mm) * mm) * mm) - (((64 : Int64) * mm) * mm)))])) _
          refine X44.ldc2Long hx hown (mvT hZ (hw _ (List.mem_of_getElem? (i := 5) rfl))) (g := (mkF m 236 #[.val (.int z0), .val (.int z1), .val (.int z2), .val (.int z3), .val (.int z4), .val (.int z5), .val (.int nv), .val (.long mm), .second, .val (.double d7), .second, .val (.ref b35), .val (.long ((64 : Int64) * mm)), .second, .val (.long ((((16 : Int64) * mm) * mm) - (512 : Int64))), .second, .val (.long (((((4 : Int64) * mm) * mm) * mm) - ((192 : Int64) * mm))), .second, .unset, .unset, .unset, .unset, .unset, .unset] [(.long ((((mm * mm) * mm) * mm) - (((64 : Int64) * mm) * mm)))])) rfl (hb hby at_236) _ ?_
          show Steps p.tables e below (T44.setTop (mkF m 239 #[.val (.int z0), .val (.int z1), .val (.int z2), .val (.int z3), .val (.int z4), .val (.int z5), .val (.int nv), .val (.long mm), .second, .val (.double d7), .second, .val (.ref b35), .val (.long ((64 : Int64) * mm)), .second, .val (.long ((((16 : Int64) * mm) * mm) - (512 : Int64))), .second, .val (.long (((((4 : Int64) * mm) * mm) * mm) - ((192 : Int64) * mm))), .second, .unset, .unset, .unset, .unset, .unset, .unset] [(.long (512 : Int64)), (.long ((((mm * mm) * mm) * mm) - (((64 : Int64) * mm) * mm)))])) _
          refine XS.ladd X44.here hx rfl (hb hby at_239) rfl ?_
          show Steps p.tables e below (T44.setTop (mkF m 240 #[.val (.int z0), .val (.int z1), .val (.int z2), .val (.int z3), .val (.int z4), .val (.int z5), .val (.int nv), .val (.long mm), .second, .val (.double d7), .second, .val (.ref b35), .val (.long ((64 : Int64) * mm)), .second, .val (.long ((((16 : Int64) * mm) * mm) - (512 : Int64))), .second, .val (.long (((((4 : Int64) * mm) * mm) * mm) - ((192 : Int64) * mm))), .second, .unset, .unset, .unset, .unset, .unset, .unset] [(.long (((((mm * mm) * mm) * mm) - (((64 : Int64) * mm) * mm)) + (512 : Int64)))])) _
          refine XS.lstore X44.here hx rfl (hb hby at_240) rfl (l' := #[.val (.int z0), .val (.int z1), .val (.int z2), .val (.int z3), .val (.int z4), .val (.int z5), .val (.int nv), .val (.long mm), .second, .val (.double d7), .second, .val (.ref b35), .val (.long ((64 : Int64) * mm)), .second, .val (.long ((((16 : Int64) * mm) * mm) - (512 : Int64))), .second, .val (.long (((((4 : Int64) * mm) * mm) * mm) - ((192 : Int64) * mm))), .second, .val (.long (((((mm * mm) * mm) * mm) - (((64 : Int64) * mm) * mm)) + (512 : Int64))), .second, .unset, .unset, .unset, .unset]) rfl ?_
          show Steps p.tables e below (T44.setTop (mkF m 242 #[.val (.int z0), .val (.int z1), .val (.int z2), .val (.int z3), .val (.int z4), .val (.int z5), .val (.int nv), .val (.long mm), .second, .val (.double d7), .second, .val (.ref b35), .val (.long ((64 : Int64) * mm)), .second, .val (.long ((((16 : Int64) * mm) * mm) - (512 : Int64))), .second, .val (.long (((((4 : Int64) * mm) * mm) * mm) - ((192 : Int64) * mm))), .second, .val (.long (((((mm * mm) * mm) * mm) - (((64 : Int64) * mm) * mm)) + (512 : Int64))), .second, .unset, .unset, .unset, .unset] [])) _
          refine X44.ldc2Long hx hown (mvT hZ (hw _ (List.mem_of_getElem? (i := 5) rfl))) (g := (mkF m 242 #[.val (.int z0), .val (.int z1), .val (.int z2), .val (.int z3), .val (.int z4), .val (.int z5), .val (.int nv), .val (.long mm), .second, .val (.double d7), .second, .val (.ref b35), .val (.long ((64 : Int64) * mm)), .second, .val (.long ((((16 : Int64) * mm) * mm) - (512 : Int64))), .second, .val (.long (((((4 : Int64) * mm) * mm) * mm) - ((192 : Int64) * mm))), .second, .val (.long (((((mm * mm) * mm) * mm) - (((64 : Int64) * mm) * mm)) + (512 : Int64))), .second, .unset, .unset, .unset, .unset] [])) rfl (hb hby at_242) _ ?_
          show Steps p.tables e below (T44.setTop (mkF m 245 #[.val (.int z0), .val (.int z1), .val (.int z2), .val (.int z3), .val (.int z4), .val (.int z5), .val (.int nv), .val (.long mm), .second, .val (.double d7), .second, .val (.ref b35), .val (.long ((64 : Int64) * mm)), .second, .val (.long ((((16 : Int64) * mm) * mm) - (512 : Int64))), .second, .val (.long (((((4 : Int64) * mm) * mm) * mm) - ((192 : Int64) * mm))), .second, .val (.long (((((mm * mm) * mm) * mm) - (((64 : Int64) * mm) * mm)) + (512 : Int64))), .second, .unset, .unset, .unset, .unset] [(.long (512 : Int64))])) _
          refine XS.iloadN X44.here hx rfl (hb hby at_245) rfl ?_
          show Steps p.tables e below (T44.setTop (mkF m 246 #[.val (.int z0), .val (.int z1), .val (.int z2), .val (.int z3), .val (.int z4), .val (.int z5), .val (.int nv), .val (.long mm), .second, .val (.double d7), .second, .val (.ref b35), .val (.long ((64 : Int64) * mm)), .second, .val (.long ((((16 : Int64) * mm) * mm) - (512 : Int64))), .second, .val (.long (((((4 : Int64) * mm) * mm) * mm) - ((192 : Int64) * mm))), .second, .val (.long (((((mm * mm) * mm) * mm) - (((64 : Int64) * mm) * mm)) + (512 : Int64))), .second, .unset, .unset, .unset, .unset] [(.int z1), (.long (512 : Int64))])) _
          refine XS.i2l X44.here hx rfl (hb hby at_246) rfl ?_
          show Steps p.tables e below (T44.setTop (mkF m 247 #[.val (.int z0), .val (.int z1), .val (.int z2), .val (.int z3), .val (.int z4), .val (.int z5), .val (.int nv), .val (.long mm), .second, .val (.double d7), .second, .val (.ref b35), .val (.long ((64 : Int64) * mm)), .second, .val (.long ((((16 : Int64) * mm) * mm) - (512 : Int64))), .second, .val (.long (((((4 : Int64) * mm) * mm) * mm) - ((192 : Int64) * mm))), .second, .val (.long (((((mm * mm) * mm) * mm) - (((64 : Int64) * mm) * mm)) + (512 : Int64))), .second, .unset, .unset, .unset, .unset] [(.long (z1.toInt64)), (.long (512 : Int64))])) _
          refine XS.lmul X44.here hx rfl (hb hby at_247) rfl ?_
          show Steps p.tables e below (T44.setTop (mkF m 248 #[.val (.int z0), .val (.int z1), .val (.int z2), .val (.int z3), .val (.int z4), .val (.int z5), .val (.int nv), .val (.long mm), .second, .val (.double d7), .second, .val (.ref b35), .val (.long ((64 : Int64) * mm)), .second, .val (.long ((((16 : Int64) * mm) * mm) - (512 : Int64))), .second, .val (.long (((((4 : Int64) * mm) * mm) * mm) - ((192 : Int64) * mm))), .second, .val (.long (((((mm * mm) * mm) * mm) - (((64 : Int64) * mm) * mm)) + (512 : Int64))), .second, .unset, .unset, .unset, .unset] [(.long ((512 : Int64) * (z1.toInt64)))])) _
          refine XS.lstore X44.here hx rfl (hb hby at_248) rfl (l' := #[.val (.int z0), .val (.int z1), .val (.int z2), .val (.int z3), .val (.int z4), .val (.int z5), .val (.int nv), .val (.long mm), .second, .val (.double d7), .second, .val (.ref b35), .val (.long ((64 : Int64) * mm)), .second, .val (.long ((((16 : Int64) * mm) * mm) - (512 : Int64))), .second, .val (.long (((((4 : Int64) * mm) * mm) * mm) - ((192 : Int64) * mm))), .second, .val (.long (((((mm * mm) * mm) * mm) - (((64 : Int64) * mm) * mm)) + (512 : Int64))), .second, .val (.long ((512 : Int64) * (z1.toInt64))), .second, .unset, .unset]) rfl ?_
          show Steps p.tables e below (T44.setTop (mkF m 250 #[.val (.int z0), .val (.int z1), .val (.int z2), .val (.int z3), .val (.int z4), .val (.int z5), .val (.int nv), .val (.long mm), .second, .val (.double d7), .second, .val (.ref b35), .val (.long ((64 : Int64) * mm)), .second, .val (.long ((((16 : Int64) * mm) * mm) - (512 : Int64))), .second, .val (.long (((((4 : Int64) * mm) * mm) * mm) - ((192 : Int64) * mm))), .second, .val (.long (((((mm * mm) * mm) * mm) - (((64 : Int64) * mm) * mm)) + (512 : Int64))), .second, .val (.long ((512 : Int64) * (z1.toInt64))), .second, .unset, .unset] [])) _
          refine XS.iload X44.here hx rfl (hb hby at_250) rfl ?_
          show Steps p.tables e below (T44.setTop (mkF m 252 #[.val (.int z0), .val (.int z1), .val (.int z2), .val (.int z3), .val (.int z4), .val (.int z5), .val (.int nv), .val (.long mm), .second, .val (.double d7), .second, .val (.ref b35), .val (.long ((64 : Int64) * mm)), .second, .val (.long ((((16 : Int64) * mm) * mm) - (512 : Int64))), .second, .val (.long (((((4 : Int64) * mm) * mm) * mm) - ((192 : Int64) * mm))), .second, .val (.long (((((mm * mm) * mm) * mm) - (((64 : Int64) * mm) * mm)) + (512 : Int64))), .second, .val (.long ((512 : Int64) * (z1.toInt64))), .second, .unset, .unset] [(.int nv)])) _
          refine XS.iconst X44.here hx rfl (hb hby at_252) ?_
          show Steps p.tables e below (T44.setTop (mkF m 253 #[.val (.int z0), .val (.int z1), .val (.int z2), .val (.int z3), .val (.int z4), .val (.int z5), .val (.int nv), .val (.long mm), .second, .val (.double d7), .second, .val (.ref b35), .val (.long ((64 : Int64) * mm)), .second, .val (.long ((((16 : Int64) * mm) * mm) - (512 : Int64))), .second, .val (.long (((((4 : Int64) * mm) * mm) * mm) - ((192 : Int64) * mm))), .second, .val (.long (((((mm * mm) * mm) * mm) - (((64 : Int64) * mm) * mm)) + (512 : Int64))), .second, .val (.long ((512 : Int64) * (z1.toInt64))), .second, .unset, .unset] [(.int (2 : Int32)), (.int nv)])) _
          refine XS.icmpNo X44.here hx rfl (hb hby at_253) rfl (flt (by rw [hc78_34]; decide : ¬ (nv < (2 : Int32)))).1 ?_
          show Steps p.tables e below (T44.setTop (mkF m 256 #[.val (.int z0), .val (.int z1), .val (.int z2), .val (.int z3), .val (.int z4), .val (.int z5), .val (.int nv), .val (.long mm), .second, .val (.double d7), .second, .val (.ref b35), .val (.long ((64 : Int64) * mm)), .second, .val (.long ((((16 : Int64) * mm) * mm) - (512 : Int64))), .second, .val (.long (((((4 : Int64) * mm) * mm) * mm) - ((192 : Int64) * mm))), .second, .val (.long (((((mm * mm) * mm) * mm) - (((64 : Int64) * mm) * mm)) + (512 : Int64))), .second, .val (.long ((512 : Int64) * (z1.toInt64))), .second, .unset, .unset] [])) _
          refine XS.lload X44.here hx rfl (hb hby at_256) rfl ?_
          show Steps p.tables e below (T44.setTop (mkF m 258 #[.val (.int z0), .val (.int z1), .val (.int z2), .val (.int z3), .val (.int z4), .val (.int z5), .val (.int nv), .val (.long mm), .second, .val (.double d7), .second, .val (.ref b35), .val (.long ((64 : Int64) * mm)), .second, .val (.long ((((16 : Int64) * mm) * mm) - (512 : Int64))), .second, .val (.long (((((4 : Int64) * mm) * mm) * mm) - ((192 : Int64) * mm))), .second, .val (.long (((((mm * mm) * mm) * mm) - (((64 : Int64) * mm) * mm)) + (512 : Int64))), .second, .val (.long ((512 : Int64) * (z1.toInt64))), .second, .unset, .unset] [(.long ((512 : Int64) * (z1.toInt64)))])) _
          refine XS.iloadN X44.here hx rfl (hb hby at_258) rfl ?_
          show Steps p.tables e below (T44.setTop (mkF m 259 #[.val (.int z0), .val (.int z1), .val (.int z2), .val (.int z3), .val (.int z4), .val (.int z5), .val (.int nv), .val (.long mm), .second, .val (.double d7), .second, .val (.ref b35), .val (.long ((64 : Int64) * mm)), .second, .val (.long ((((16 : Int64) * mm) * mm) - (512 : Int64))), .second, .val (.long (((((4 : Int64) * mm) * mm) * mm) - ((192 : Int64) * mm))), .second, .val (.long (((((mm * mm) * mm) * mm) - (((64 : Int64) * mm) * mm)) + (512 : Int64))), .second, .val (.long ((512 : Int64) * (z1.toInt64))), .second, .unset, .unset] [(.int z2), (.long ((512 : Int64) * (z1.toInt64)))])) _
          refine XS.i2l X44.here hx rfl (hb hby at_259) rfl ?_
          show Steps p.tables e below (T44.setTop (mkF m 260 #[.val (.int z0), .val (.int z1), .val (.int z2), .val (.int z3), .val (.int z4), .val (.int z5), .val (.int nv), .val (.long mm), .second, .val (.double d7), .second, .val (.ref b35), .val (.long ((64 : Int64) * mm)), .second, .val (.long ((((16 : Int64) * mm) * mm) - (512 : Int64))), .second, .val (.long (((((4 : Int64) * mm) * mm) * mm) - ((192 : Int64) * mm))), .second, .val (.long (((((mm * mm) * mm) * mm) - (((64 : Int64) * mm) * mm)) + (512 : Int64))), .second, .val (.long ((512 : Int64) * (z1.toInt64))), .second, .unset, .unset] [(.long (z2.toInt64)), (.long ((512 : Int64) * (z1.toInt64)))])) _
          refine XS.lload X44.here hx rfl (hb hby at_260) rfl ?_
          show Steps p.tables e below (T44.setTop (mkF m 262 #[.val (.int z0), .val (.int z1), .val (.int z2), .val (.int z3), .val (.int z4), .val (.int z5), .val (.int nv), .val (.long mm), .second, .val (.double d7), .second, .val (.ref b35), .val (.long ((64 : Int64) * mm)), .second, .val (.long ((((16 : Int64) * mm) * mm) - (512 : Int64))), .second, .val (.long (((((4 : Int64) * mm) * mm) * mm) - ((192 : Int64) * mm))), .second, .val (.long (((((mm * mm) * mm) * mm) - (((64 : Int64) * mm) * mm)) + (512 : Int64))), .second, .val (.long ((512 : Int64) * (z1.toInt64))), .second, .unset, .unset] [(.long ((64 : Int64) * mm)), (.long (z2.toInt64)), (.long ((512 : Int64) * (z1.toInt64)))])) _
          refine XS.lmul X44.here hx rfl (hb hby at_262) rfl ?_
          show Steps p.tables e below (T44.setTop (mkF m 263 #[.val (.int z0), .val (.int z1), .val (.int z2), .val (.int z3), .val (.int z4), .val (.int z5), .val (.int nv), .val (.long mm), .second, .val (.double d7), .second, .val (.ref b35), .val (.long ((64 : Int64) * mm)), .second, .val (.long ((((16 : Int64) * mm) * mm) - (512 : Int64))), .second, .val (.long (((((4 : Int64) * mm) * mm) * mm) - ((192 : Int64) * mm))), .second, .val (.long (((((mm * mm) * mm) * mm) - (((64 : Int64) * mm) * mm)) + (512 : Int64))), .second, .val (.long ((512 : Int64) * (z1.toInt64))), .second, .unset, .unset] [(.long ((z2.toInt64) * ((64 : Int64) * mm))), (.long ((512 : Int64) * (z1.toInt64)))])) _
          refine XS.ladd X44.here hx rfl (hb hby at_263) rfl ?_
          show Steps p.tables e below (T44.setTop (mkF m 264 #[.val (.int z0), .val (.int z1), .val (.int z2), .val (.int z3), .val (.int z4), .val (.int z5), .val (.int nv), .val (.long mm), .second, .val (.double d7), .second, .val (.ref b35), .val (.long ((64 : Int64) * mm)), .second, .val (.long ((((16 : Int64) * mm) * mm) - (512 : Int64))), .second, .val (.long (((((4 : Int64) * mm) * mm) * mm) - ((192 : Int64) * mm))), .second, .val (.long (((((mm * mm) * mm) * mm) - (((64 : Int64) * mm) * mm)) + (512 : Int64))), .second, .val (.long ((512 : Int64) * (z1.toInt64))), .second, .unset, .unset] [(.long (((512 : Int64) * (z1.toInt64)) + ((z2.toInt64) * ((64 : Int64) * mm))))])) _
          refine XS.lstore X44.here hx rfl (hb hby at_264) rfl (l' := #[.val (.int z0), .val (.int z1), .val (.int z2), .val (.int z3), .val (.int z4), .val (.int z5), .val (.int nv), .val (.long mm), .second, .val (.double d7), .second, .val (.ref b35), .val (.long ((64 : Int64) * mm)), .second, .val (.long ((((16 : Int64) * mm) * mm) - (512 : Int64))), .second, .val (.long (((((4 : Int64) * mm) * mm) * mm) - ((192 : Int64) * mm))), .second, .val (.long (((((mm * mm) * mm) * mm) - (((64 : Int64) * mm) * mm)) + (512 : Int64))), .second, .val (.long (((512 : Int64) * (z1.toInt64)) + ((z2.toInt64) * ((64 : Int64) * mm)))), .second, .unset, .unset]) rfl ?_
          show Steps p.tables e below (T44.setTop (mkF m 266 #[.val (.int z0), .val (.int z1), .val (.int z2), .val (.int z3), .val (.int z4), .val (.int z5), .val (.int nv), .val (.long mm), .second, .val (.double d7), .second, .val (.ref b35), .val (.long ((64 : Int64) * mm)), .second, .val (.long ((((16 : Int64) * mm) * mm) - (512 : Int64))), .second, .val (.long (((((4 : Int64) * mm) * mm) * mm) - ((192 : Int64) * mm))), .second, .val (.long (((((mm * mm) * mm) * mm) - (((64 : Int64) * mm) * mm)) + (512 : Int64))), .second, .val (.long (((512 : Int64) * (z1.toInt64)) + ((z2.toInt64) * ((64 : Int64) * mm)))), .second, .unset, .unset] [])) _
          refine XS.iload X44.here hx rfl (hb hby at_266) rfl ?_
          show Steps p.tables e below (T44.setTop (mkF m 268 #[.val (.int z0), .val (.int z1), .val (.int z2), .val (.int z3), .val (.int z4), .val (.int z5), .val (.int nv), .val (.long mm), .second, .val (.double d7), .second, .val (.ref b35), .val (.long ((64 : Int64) * mm)), .second, .val (.long ((((16 : Int64) * mm) * mm) - (512 : Int64))), .second, .val (.long (((((4 : Int64) * mm) * mm) * mm) - ((192 : Int64) * mm))), .second, .val (.long (((((mm * mm) * mm) * mm) - (((64 : Int64) * mm) * mm)) + (512 : Int64))), .second, .val (.long (((512 : Int64) * (z1.toInt64)) + ((z2.toInt64) * ((64 : Int64) * mm)))), .second, .unset, .unset] [(.int nv)])) _
          refine XS.iconst X44.here hx rfl (hb hby at_268) ?_
          show Steps p.tables e below (T44.setTop (mkF m 269 #[.val (.int z0), .val (.int z1), .val (.int z2), .val (.int z3), .val (.int z4), .val (.int z5), .val (.int nv), .val (.long mm), .second, .val (.double d7), .second, .val (.ref b35), .val (.long ((64 : Int64) * mm)), .second, .val (.long ((((16 : Int64) * mm) * mm) - (512 : Int64))), .second, .val (.long (((((4 : Int64) * mm) * mm) * mm) - ((192 : Int64) * mm))), .second, .val (.long (((((mm * mm) * mm) * mm) - (((64 : Int64) * mm) * mm)) + (512 : Int64))), .second, .val (.long (((512 : Int64) * (z1.toInt64)) + ((z2.toInt64) * ((64 : Int64) * mm)))), .second, .unset, .unset] [(.int (3 : Int32)), (.int nv)])) _
          refine XS.icmpNo X44.here hx rfl (hb hby at_269) rfl (flt (by rw [hc78_34]; decide : ¬ (nv < (3 : Int32)))).1 ?_
          show Steps p.tables e below (T44.setTop (mkF m 272 #[.val (.int z0), .val (.int z1), .val (.int z2), .val (.int z3), .val (.int z4), .val (.int z5), .val (.int nv), .val (.long mm), .second, .val (.double d7), .second, .val (.ref b35), .val (.long ((64 : Int64) * mm)), .second, .val (.long ((((16 : Int64) * mm) * mm) - (512 : Int64))), .second, .val (.long (((((4 : Int64) * mm) * mm) * mm) - ((192 : Int64) * mm))), .second, .val (.long (((((mm * mm) * mm) * mm) - (((64 : Int64) * mm) * mm)) + (512 : Int64))), .second, .val (.long (((512 : Int64) * (z1.toInt64)) + ((z2.toInt64) * ((64 : Int64) * mm)))), .second, .unset, .unset] [])) _
          refine XS.lload X44.here hx rfl (hb hby at_272) rfl ?_
          show Steps p.tables e below (T44.setTop (mkF m 274 #[.val (.int z0), .val (.int z1), .val (.int z2), .val (.int z3), .val (.int z4), .val (.int z5), .val (.int nv), .val (.long mm), .second, .val (.double d7), .second, .val (.ref b35), .val (.long ((64 : Int64) * mm)), .second, .val (.long ((((16 : Int64) * mm) * mm) - (512 : Int64))), .second, .val (.long (((((4 : Int64) * mm) * mm) * mm) - ((192 : Int64) * mm))), .second, .val (.long (((((mm * mm) * mm) * mm) - (((64 : Int64) * mm) * mm)) + (512 : Int64))), .second, .val (.long (((512 : Int64) * (z1.toInt64)) + ((z2.toInt64) * ((64 : Int64) * mm)))), .second, .unset, .unset] [(.long (((512 : Int64) * (z1.toInt64)) + ((z2.toInt64) * ((64 : Int64) * mm))))])) _
          refine XS.iloadN X44.here hx rfl (hb hby at_274) rfl ?_
          show Steps p.tables e below (T44.setTop (mkF m 275 #[.val (.int z0), .val (.int z1), .val (.int z2), .val (.int z3), .val (.int z4), .val (.int z5), .val (.int nv), .val (.long mm), .second, .val (.double d7), .second, .val (.ref b35), .val (.long ((64 : Int64) * mm)), .second, .val (.long ((((16 : Int64) * mm) * mm) - (512 : Int64))), .second, .val (.long (((((4 : Int64) * mm) * mm) * mm) - ((192 : Int64) * mm))), .second, .val (.long (((((mm * mm) * mm) * mm) - (((64 : Int64) * mm) * mm)) + (512 : Int64))), .second, .val (.long (((512 : Int64) * (z1.toInt64)) + ((z2.toInt64) * ((64 : Int64) * mm)))), .second, .unset, .unset] [(.int z3), (.long (((512 : Int64) * (z1.toInt64)) + ((z2.toInt64) * ((64 : Int64) * mm))))])) _
          refine XS.i2l X44.here hx rfl (hb hby at_275) rfl ?_
          show Steps p.tables e below (T44.setTop (mkF m 276 #[.val (.int z0), .val (.int z1), .val (.int z2), .val (.int z3), .val (.int z4), .val (.int z5), .val (.int nv), .val (.long mm), .second, .val (.double d7), .second, .val (.ref b35), .val (.long ((64 : Int64) * mm)), .second, .val (.long ((((16 : Int64) * mm) * mm) - (512 : Int64))), .second, .val (.long (((((4 : Int64) * mm) * mm) * mm) - ((192 : Int64) * mm))), .second, .val (.long (((((mm * mm) * mm) * mm) - (((64 : Int64) * mm) * mm)) + (512 : Int64))), .second, .val (.long (((512 : Int64) * (z1.toInt64)) + ((z2.toInt64) * ((64 : Int64) * mm)))), .second, .unset, .unset] [(.long (z3.toInt64)), (.long (((512 : Int64) * (z1.toInt64)) + ((z2.toInt64) * ((64 : Int64) * mm))))])) _
          refine XS.lload X44.here hx rfl (hb hby at_276) rfl ?_
          show Steps p.tables e below (T44.setTop (mkF m 278 #[.val (.int z0), .val (.int z1), .val (.int z2), .val (.int z3), .val (.int z4), .val (.int z5), .val (.int nv), .val (.long mm), .second, .val (.double d7), .second, .val (.ref b35), .val (.long ((64 : Int64) * mm)), .second, .val (.long ((((16 : Int64) * mm) * mm) - (512 : Int64))), .second, .val (.long (((((4 : Int64) * mm) * mm) * mm) - ((192 : Int64) * mm))), .second, .val (.long (((((mm * mm) * mm) * mm) - (((64 : Int64) * mm) * mm)) + (512 : Int64))), .second, .val (.long (((512 : Int64) * (z1.toInt64)) + ((z2.toInt64) * ((64 : Int64) * mm)))), .second, .unset, .unset] [(.long ((((16 : Int64) * mm) * mm) - (512 : Int64))), (.long (z3.toInt64)), (.long (((512 : Int64) * (z1.toInt64)) + ((z2.toInt64) * ((64 : Int64) * mm))))])) _
          refine XS.lmul X44.here hx rfl (hb hby at_278) rfl ?_
          show Steps p.tables e below (T44.setTop (mkF m 279 #[.val (.int z0), .val (.int z1), .val (.int z2), .val (.int z3), .val (.int z4), .val (.int z5), .val (.int nv), .val (.long mm), .second, .val (.double d7), .second, .val (.ref b35), .val (.long ((64 : Int64) * mm)), .second, .val (.long ((((16 : Int64) * mm) * mm) - (512 : Int64))), .second, .val (.long (((((4 : Int64) * mm) * mm) * mm) - ((192 : Int64) * mm))), .second, .val (.long (((((mm * mm) * mm) * mm) - (((64 : Int64) * mm) * mm)) + (512 : Int64))), .second, .val (.long (((512 : Int64) * (z1.toInt64)) + ((z2.toInt64) * ((64 : Int64) * mm)))), .second, .unset, .unset] [(.long ((z3.toInt64) * ((((16 : Int64) * mm) * mm) - (512 : Int64)))), (.long (((512 : Int64) * (z1.toInt64)) + ((z2.toInt64) * ((64 : Int64) * mm))))])) _
          refine XS.ladd X44.here hx rfl (hb hby at_279) rfl ?_
          show Steps p.tables e below (T44.setTop (mkF m 280 #[.val (.int z0), .val (.int z1), .val (.int z2), .val (.int z3), .val (.int z4), .val (.int z5), .val (.int nv), .val (.long mm), .second, .val (.double d7), .second, .val (.ref b35), .val (.long ((64 : Int64) * mm)), .second, .val (.long ((((16 : Int64) * mm) * mm) - (512 : Int64))), .second, .val (.long (((((4 : Int64) * mm) * mm) * mm) - ((192 : Int64) * mm))), .second, .val (.long (((((mm * mm) * mm) * mm) - (((64 : Int64) * mm) * mm)) + (512 : Int64))), .second, .val (.long (((512 : Int64) * (z1.toInt64)) + ((z2.toInt64) * ((64 : Int64) * mm)))), .second, .unset, .unset] [(.long ((((512 : Int64) * (z1.toInt64)) + ((z2.toInt64) * ((64 : Int64) * mm))) + ((z3.toInt64) * ((((16 : Int64) * mm) * mm) - (512 : Int64)))))])) _
          refine XS.lstore X44.here hx rfl (hb hby at_280) rfl (l' := #[.val (.int z0), .val (.int z1), .val (.int z2), .val (.int z3), .val (.int z4), .val (.int z5), .val (.int nv), .val (.long mm), .second, .val (.double d7), .second, .val (.ref b35), .val (.long ((64 : Int64) * mm)), .second, .val (.long ((((16 : Int64) * mm) * mm) - (512 : Int64))), .second, .val (.long (((((4 : Int64) * mm) * mm) * mm) - ((192 : Int64) * mm))), .second, .val (.long (((((mm * mm) * mm) * mm) - (((64 : Int64) * mm) * mm)) + (512 : Int64))), .second, .val (.long ((((512 : Int64) * (z1.toInt64)) + ((z2.toInt64) * ((64 : Int64) * mm))) + ((z3.toInt64) * ((((16 : Int64) * mm) * mm) - (512 : Int64))))), .second, .unset, .unset]) rfl ?_
          show Steps p.tables e below (T44.setTop (mkF m 282 #[.val (.int z0), .val (.int z1), .val (.int z2), .val (.int z3), .val (.int z4), .val (.int z5), .val (.int nv), .val (.long mm), .second, .val (.double d7), .second, .val (.ref b35), .val (.long ((64 : Int64) * mm)), .second, .val (.long ((((16 : Int64) * mm) * mm) - (512 : Int64))), .second, .val (.long (((((4 : Int64) * mm) * mm) * mm) - ((192 : Int64) * mm))), .second, .val (.long (((((mm * mm) * mm) * mm) - (((64 : Int64) * mm) * mm)) + (512 : Int64))), .second, .val (.long ((((512 : Int64) * (z1.toInt64)) + ((z2.toInt64) * ((64 : Int64) * mm))) + ((z3.toInt64) * ((((16 : Int64) * mm) * mm) - (512 : Int64))))), .second, .unset, .unset] [])) _
          refine XS.iload X44.here hx rfl (hb hby at_282) rfl ?_
          show Steps p.tables e below (T44.setTop (mkF m 284 #[.val (.int z0), .val (.int z1), .val (.int z2), .val (.int z3), .val (.int z4), .val (.int z5), .val (.int nv), .val (.long mm), .second, .val (.double d7), .second, .val (.ref b35), .val (.long ((64 : Int64) * mm)), .second, .val (.long ((((16 : Int64) * mm) * mm) - (512 : Int64))), .second, .val (.long (((((4 : Int64) * mm) * mm) * mm) - ((192 : Int64) * mm))), .second, .val (.long (((((mm * mm) * mm) * mm) - (((64 : Int64) * mm) * mm)) + (512 : Int64))), .second, .val (.long ((((512 : Int64) * (z1.toInt64)) + ((z2.toInt64) * ((64 : Int64) * mm))) + ((z3.toInt64) * ((((16 : Int64) * mm) * mm) - (512 : Int64))))), .second, .unset, .unset] [(.int nv)])) _
          refine XS.iconst X44.here hx rfl (hb hby at_284) ?_
          show Steps p.tables e below (T44.setTop (mkF m 285 #[.val (.int z0), .val (.int z1), .val (.int z2), .val (.int z3), .val (.int z4), .val (.int z5), .val (.int nv), .val (.long mm), .second, .val (.double d7), .second, .val (.ref b35), .val (.long ((64 : Int64) * mm)), .second, .val (.long ((((16 : Int64) * mm) * mm) - (512 : Int64))), .second, .val (.long (((((4 : Int64) * mm) * mm) * mm) - ((192 : Int64) * mm))), .second, .val (.long (((((mm * mm) * mm) * mm) - (((64 : Int64) * mm) * mm)) + (512 : Int64))), .second, .val (.long ((((512 : Int64) * (z1.toInt64)) + ((z2.toInt64) * ((64 : Int64) * mm))) + ((z3.toInt64) * ((((16 : Int64) * mm) * mm) - (512 : Int64))))), .second, .unset, .unset] [(.int (4 : Int32)), (.int nv)])) _
          refine XS.icmpYes X44.here hx rfl (pc0 := 285) (pc' := 299) rfl (hb hby at_285) rfl (tlt (by rw [hc78_34]; decide : nv < (4 : Int32))).1 (by decide) (by decide) ?_
          show Steps p.tables e below (T44.setTop (mkF m 299 #[.val (.int z0), .val (.int z1), .val (.int z2), .val (.int z3), .val (.int z4), .val (.int z5), .val (.int nv), .val (.long mm), .second, .val (.double d7), .second, .val (.ref b35), .val (.long ((64 : Int64) * mm)), .second, .val (.long ((((16 : Int64) * mm) * mm) - (512 : Int64))), .second, .val (.long (((((4 : Int64) * mm) * mm) * mm) - ((192 : Int64) * mm))), .second, .val (.long (((((mm * mm) * mm) * mm) - (((64 : Int64) * mm) * mm)) + (512 : Int64))), .second, .val (.long ((((512 : Int64) * (z1.toInt64)) + ((z2.toInt64) * ((64 : Int64) * mm))) + ((z3.toInt64) * ((((16 : Int64) * mm) * mm) - (512 : Int64))))), .second, .unset, .unset] [])) _
          refine XS.iload X44.here hx rfl (hb hby at_299) rfl ?_
          show Steps p.tables e below (T44.setTop (mkF m 301 #[.val (.int z0), .val (.int z1), .val (.int z2), .val (.int z3), .val (.int z4), .val (.int z5), .val (.int nv), .val (.long mm), .second, .val (.double d7), .second, .val (.ref b35), .val (.long ((64 : Int64) * mm)), .second, .val (.long ((((16 : Int64) * mm) * mm) - (512 : Int64))), .second, .val (.long (((((4 : Int64) * mm) * mm) * mm) - ((192 : Int64) * mm))), .second, .val (.long (((((mm * mm) * mm) * mm) - (((64 : Int64) * mm) * mm)) + (512 : Int64))), .second, .val (.long ((((512 : Int64) * (z1.toInt64)) + ((z2.toInt64) * ((64 : Int64) * mm))) + ((z3.toInt64) * ((((16 : Int64) * mm) * mm) - (512 : Int64))))), .second, .unset, .unset] [(.int nv)])) _
          refine XS.iconst X44.here hx rfl (hb hby at_301) ?_
          show Steps p.tables e below (T44.setTop (mkF m 302 #[.val (.int z0), .val (.int z1), .val (.int z2), .val (.int z3), .val (.int z4), .val (.int z5), .val (.int nv), .val (.long mm), .second, .val (.double d7), .second, .val (.ref b35), .val (.long ((64 : Int64) * mm)), .second, .val (.long ((((16 : Int64) * mm) * mm) - (512 : Int64))), .second, .val (.long (((((4 : Int64) * mm) * mm) * mm) - ((192 : Int64) * mm))), .second, .val (.long (((((mm * mm) * mm) * mm) - (((64 : Int64) * mm) * mm)) + (512 : Int64))), .second, .val (.long ((((512 : Int64) * (z1.toInt64)) + ((z2.toInt64) * ((64 : Int64) * mm))) + ((z3.toInt64) * ((((16 : Int64) * mm) * mm) - (512 : Int64))))), .second, .unset, .unset] [(.int (5 : Int32)), (.int nv)])) _
          refine XS.icmpYes X44.here hx rfl (pc0 := 302) (pc' := 316) rfl (hb hby at_302) rfl (tlt (by rw [hc78_34]; decide : nv < (5 : Int32))).1 (by decide) (by decide) ?_
          show Steps p.tables e below (T44.setTop (mkF m 316 #[.val (.int z0), .val (.int z1), .val (.int z2), .val (.int z3), .val (.int z4), .val (.int z5), .val (.int nv), .val (.long mm), .second, .val (.double d7), .second, .val (.ref b35), .val (.long ((64 : Int64) * mm)), .second, .val (.long ((((16 : Int64) * mm) * mm) - (512 : Int64))), .second, .val (.long (((((4 : Int64) * mm) * mm) * mm) - ((192 : Int64) * mm))), .second, .val (.long (((((mm * mm) * mm) * mm) - (((64 : Int64) * mm) * mm)) + (512 : Int64))), .second, .val (.long ((((512 : Int64) * (z1.toInt64)) + ((z2.toInt64) * ((64 : Int64) * mm))) + ((z3.toInt64) * ((((16 : Int64) * mm) * mm) - (512 : Int64))))), .second, .unset, .unset] [])) _
          refine XS.aload X44.here hx rfl (hb hby at_316) rfl rfl ?_
          show Steps p.tables e below (T44.setTop (mkF m 318 #[.val (.int z0), .val (.int z1), .val (.int z2), .val (.int z3), .val (.int z4), .val (.int z5), .val (.int nv), .val (.long mm), .second, .val (.double d7), .second, .val (.ref b35), .val (.long ((64 : Int64) * mm)), .second, .val (.long ((((16 : Int64) * mm) * mm) - (512 : Int64))), .second, .val (.long (((((4 : Int64) * mm) * mm) * mm) - ((192 : Int64) * mm))), .second, .val (.long (((((mm * mm) * mm) * mm) - (((64 : Int64) * mm) * mm)) + (512 : Int64))), .second, .val (.long ((((512 : Int64) * (z1.toInt64)) + ((z2.toInt64) * ((64 : Int64) * mm))) + ((z3.toInt64) * ((((16 : Int64) * mm) * mm) - (512 : Int64))))), .second, .unset, .unset] [(.ref b35)])) _
          refine XS.dload X44.here hx rfl (hb hby at_318) rfl ?_
          show Steps p.tables e below (T44.setTop (mkF m 320 #[.val (.int z0), .val (.int z1), .val (.int z2), .val (.int z3), .val (.int z4), .val (.int z5), .val (.int nv), .val (.long mm), .second, .val (.double d7), .second, .val (.ref b35), .val (.long ((64 : Int64) * mm)), .second, .val (.long ((((16 : Int64) * mm) * mm) - (512 : Int64))), .second, .val (.long (((((4 : Int64) * mm) * mm) * mm) - ((192 : Int64) * mm))), .second, .val (.long (((((mm * mm) * mm) * mm) - (((64 : Int64) * mm) * mm)) + (512 : Int64))), .second, .val (.long ((((512 : Int64) * (z1.toInt64)) + ((z2.toInt64) * ((64 : Int64) * mm))) + ((z3.toInt64) * ((((16 : Int64) * mm) * mm) - (512 : Int64))))), .second, .unset, .unset] [(.double d7), (.ref b35)])) _
          refine st45 _ ?_
          show Steps p.tables e below (T45.setTop (mkF m 323 #[.val (.int z0), .val (.int z1), .val (.int z2), .val (.int z3), .val (.int z4), .val (.int z5), .val (.int nv), .val (.long mm), .second, .val (.double d7), .second, .val (.ref b35), .val (.long ((64 : Int64) * mm)), .second, .val (.long ((((16 : Int64) * mm) * mm) - (512 : Int64))), .second, .val (.long (((((4 : Int64) * mm) * mm) * mm) - ((192 : Int64) * mm))), .second, .val (.long (((((mm * mm) * mm) * mm) - (((64 : Int64) * mm) * mm)) + (512 : Int64))), .second, .val (.long ((((512 : Int64) * (z1.toInt64)) + ((z2.toInt64) * ((64 : Int64) * mm))) + ((z3.toInt64) * ((((16 : Int64) * mm) * mm) - (512 : Int64))))), .second, .unset, .unset] [(.double r45)])) _
          refine XS.dstore X45.here hx rfl (hb hby at_323) rfl (l' := #[.val (.int z0), .val (.int z1), .val (.int z2), .val (.int z3), .val (.int z4), .val (.int z5), .val (.int nv), .val (.long mm), .second, .val (.double d7), .second, .val (.ref b35), .val (.long ((64 : Int64) * mm)), .second, .val (.long ((((16 : Int64) * mm) * mm) - (512 : Int64))), .second, .val (.long (((((4 : Int64) * mm) * mm) * mm) - ((192 : Int64) * mm))), .second, .val (.long (((((mm * mm) * mm) * mm) - (((64 : Int64) * mm) * mm)) + (512 : Int64))), .second, .val (.long ((((512 : Int64) * (z1.toInt64)) + ((z2.toInt64) * ((64 : Int64) * mm))) + ((z3.toInt64) * ((((16 : Int64) * mm) * mm) - (512 : Int64))))), .second, .val (.double r45), .second]) rfl ?_
          show Steps p.tables e below (T45.setTop (mkF m 325 #[.val (.int z0), .val (.int z1), .val (.int z2), .val (.int z3), .val (.int z4), .val (.int z5), .val (.int nv), .val (.long mm), .second, .val (.double d7), .second, .val (.ref b35), .val (.long ((64 : Int64) * mm)), .second, .val (.long ((((16 : Int64) * mm) * mm) - (512 : Int64))), .second, .val (.long (((((4 : Int64) * mm) * mm) * mm) - ((192 : Int64) * mm))), .second, .val (.long (((((mm * mm) * mm) * mm) - (((64 : Int64) * mm) * mm)) + (512 : Int64))), .second, .val (.long ((((512 : Int64) * (z1.toInt64)) + ((z2.toInt64) * ((64 : Int64) * mm))) + ((z3.toInt64) * ((((16 : Int64) * mm) * mm) - (512 : Int64))))), .second, .val (.double r45), .second] [])) _
          refine XS.dload X45.here hx rfl (hb hby at_325) rfl ?_
          show Steps p.tables e below (T45.setTop (mkF m 327 #[.val (.int z0), .val (.int z1), .val (.int z2), .val (.int z3), .val (.int z4), .val (.int z5), .val (.int nv), .val (.long mm), .second, .val (.double d7), .second, .val (.ref b35), .val (.long ((64 : Int64) * mm)), .second, .val (.long ((((16 : Int64) * mm) * mm) - (512 : Int64))), .second, .val (.long (((((4 : Int64) * mm) * mm) * mm) - ((192 : Int64) * mm))), .second, .val (.long (((((mm * mm) * mm) * mm) - (((64 : Int64) * mm) * mm)) + (512 : Int64))), .second, .val (.long ((((512 : Int64) * (z1.toInt64)) + ((z2.toInt64) * ((64 : Int64) * mm))) + ((z3.toInt64) * ((((16 : Int64) * mm) * mm) - (512 : Int64))))), .second, .val (.double r45), .second] [(.double r45)])) _
          refine X45.ldc2DoubleC hx hown (mvT hZ (hw _ (List.mem_of_getElem? (i := 12) rfl))) (g := (mkF m 327 #[.val (.int z0), .val (.int z1), .val (.int z2), .val (.int z3), .val (.int z4), .val (.int z5), .val (.int nv), .val (.long mm), .second, .val (.double d7), .second, .val (.ref b35), .val (.long ((64 : Int64) * mm)), .second, .val (.long ((((16 : Int64) * mm) * mm) - (512 : Int64))), .second, .val (.long (((((4 : Int64) * mm) * mm) * mm) - ((192 : Int64) * mm))), .second, .val (.long (((((mm * mm) * mm) * mm) - (((64 : Int64) * mm) * mm)) + (512 : Int64))), .second, .val (.long ((((512 : Int64) * (z1.toInt64)) + ((z2.toInt64) * ((64 : Int64) * mm))) + ((z3.toInt64) * ((((16 : Int64) * mm) * mm) - (512 : Int64))))), .second, .val (.double r45), .second] [(.double r45)])) rfl (hb hby at_327) _ ?_
          show Steps p.tables e below (T45.setTop (mkF m 330 #[.val (.int z0), .val (.int z1), .val (.int z2), .val (.int z3), .val (.int z4), .val (.int z5), .val (.int nv), .val (.long mm), .second, .val (.double d7), .second, .val (.ref b35), .val (.long ((64 : Int64) * mm)), .second, .val (.long ((((16 : Int64) * mm) * mm) - (512 : Int64))), .second, .val (.long (((((4 : Int64) * mm) * mm) * mm) - ((192 : Int64) * mm))), .second, .val (.long (((((mm * mm) * mm) * mm) - (((64 : Int64) * mm) * mm)) + (512 : Int64))), .second, .val (.long ((((512 : Int64) * (z1.toInt64)) + ((z2.toInt64) * ((64 : Int64) * mm))) + ((z3.toInt64) * ((((16 : Int64) * mm) * mm) - (512 : Int64))))), .second, .val (.double r45), .second] [(.double (4647714815446351872 : UInt64)), (.double r45)])) _
          refine XS.dmulS X45.here hx rfl (hb hby at_330) rfl nn46 v46 ?_
          show Steps p.tables e below (T45.setTop (mkF m 331 #[.val (.int z0), .val (.int z1), .val (.int z2), .val (.int z3), .val (.int z4), .val (.int z5), .val (.int nv), .val (.long mm), .second, .val (.double d7), .second, .val (.ref b35), .val (.long ((64 : Int64) * mm)), .second, .val (.long ((((16 : Int64) * mm) * mm) - (512 : Int64))), .second, .val (.long (((((4 : Int64) * mm) * mm) * mm) - ((192 : Int64) * mm))), .second, .val (.long (((((mm * mm) * mm) * mm) - (((64 : Int64) * mm) * mm)) + (512 : Int64))), .second, .val (.long ((((512 : Int64) * (z1.toInt64)) + ((z2.toInt64) * ((64 : Int64) * mm))) + ((z3.toInt64) * ((((16 : Int64) * mm) * mm) - (512 : Int64))))), .second, .val (.double r45), .second] [(.double d46)])) _
          refine XS.lload X45.here hx rfl (hb hby at_331) rfl ?_
          show Steps p.tables e below (T45.setTop (mkF m 333 #[.val (.int z0), .val (.int z1), .val (.int z2), .val (.int z3), .val (.int z4), .val (.int z5), .val (.int nv), .val (.long mm), .second, .val (.double d7), .second, .val (.ref b35), .val (.long ((64 : Int64) * mm)), .second, .val (.long ((((16 : Int64) * mm) * mm) - (512 : Int64))), .second, .val (.long (((((4 : Int64) * mm) * mm) * mm) - ((192 : Int64) * mm))), .second, .val (.long (((((mm * mm) * mm) * mm) - (((64 : Int64) * mm) * mm)) + (512 : Int64))), .second, .val (.long ((((512 : Int64) * (z1.toInt64)) + ((z2.toInt64) * ((64 : Int64) * mm))) + ((z3.toInt64) * ((((16 : Int64) * mm) * mm) - (512 : Int64))))), .second, .val (.double r45), .second] [(.long ((((512 : Int64) * (z1.toInt64)) + ((z2.toInt64) * ((64 : Int64) * mm))) + ((z3.toInt64) * ((((16 : Int64) * mm) * mm) - (512 : Int64))))), (.double d46)])) _
          refine XS.l2dS X45.here hx rfl (hb hby at_333) rfl v48 ?_
          show Steps p.tables e below (T45.setTop (mkF m 334 #[.val (.int z0), .val (.int z1), .val (.int z2), .val (.int z3), .val (.int z4), .val (.int z5), .val (.int nv), .val (.long mm), .second, .val (.double d7), .second, .val (.ref b35), .val (.long ((64 : Int64) * mm)), .second, .val (.long ((((16 : Int64) * mm) * mm) - (512 : Int64))), .second, .val (.long (((((4 : Int64) * mm) * mm) * mm) - ((192 : Int64) * mm))), .second, .val (.long (((((mm * mm) * mm) * mm) - (((64 : Int64) * mm) * mm)) + (512 : Int64))), .second, .val (.long ((((512 : Int64) * (z1.toInt64)) + ((z2.toInt64) * ((64 : Int64) * mm))) + ((z3.toInt64) * ((((16 : Int64) * mm) * mm) - (512 : Int64))))), .second, .val (.double r45), .second] [(.double d48), (.double d46)])) _
          refine XS.dcmpS X45.here hx rfl (hb hby at_334) rfl (v := (0 : Int32)) q49 ?_
          show Steps p.tables e below (T45.setTop (mkF m 335 #[.val (.int z0), .val (.int z1), .val (.int z2), .val (.int z3), .val (.int z4), .val (.int z5), .val (.int nv), .val (.long mm), .second, .val (.double d7), .second, .val (.ref b35), .val (.long ((64 : Int64) * mm)), .second, .val (.long ((((16 : Int64) * mm) * mm) - (512 : Int64))), .second, .val (.long (((((4 : Int64) * mm) * mm) * mm) - ((192 : Int64) * mm))), .second, .val (.long (((((mm * mm) * mm) * mm) - (((64 : Int64) * mm) * mm)) + (512 : Int64))), .second, .val (.long ((((512 : Int64) * (z1.toInt64)) + ((z2.toInt64) * ((64 : Int64) * mm))) + ((z3.toInt64) * ((((16 : Int64) * mm) * mm) - (512 : Int64))))), .second, .val (.double r45), .second] [(.int (0 : Int32))])) _
          refine XS.ifNo X45.here hx rfl (hb hby at_335) rfl ((if0 _ _).trans (teq (by decide : (0 : Int32) = (0 : Int32))).2) ?_
          show Steps p.tables e below (T45.setTop (mkF m 338 #[.val (.int z0), .val (.int z1), .val (.int z2), .val (.int z3), .val (.int z4), .val (.int z5), .val (.int nv), .val (.long mm), .second, .val (.double d7), .second, .val (.ref b35), .val (.long ((64 : Int64) * mm)), .second, .val (.long ((((16 : Int64) * mm) * mm) - (512 : Int64))), .second, .val (.long (((((4 : Int64) * mm) * mm) * mm) - ((192 : Int64) * mm))), .second, .val (.long (((((mm * mm) * mm) * mm) - (((64 : Int64) * mm) * mm)) + (512 : Int64))), .second, .val (.long ((((512 : Int64) * (z1.toInt64)) + ((z2.toInt64) * ((64 : Int64) * mm))) + ((z3.toInt64) * ((((16 : Int64) * mm) * mm) - (512 : Int64))))), .second, .val (.double r45), .second] [])) _
          refine XS.iconst X45.here hx rfl (hb hby at_338) ?_
          show Steps p.tables e below (T45.setTop (mkF m 339 #[.val (.int z0), .val (.int z1), .val (.int z2), .val (.int z3), .val (.int z4), .val (.int z5), .val (.int nv), .val (.long mm), .second, .val (.double d7), .second, .val (.ref b35), .val (.long ((64 : Int64) * mm)), .second, .val (.long ((((16 : Int64) * mm) * mm) - (512 : Int64))), .second, .val (.long (((((4 : Int64) * mm) * mm) * mm) - ((192 : Int64) * mm))), .second, .val (.long (((((mm * mm) * mm) * mm) - (((64 : Int64) * mm) * mm)) + (512 : Int64))), .second, .val (.long ((((512 : Int64) * (z1.toInt64)) + ((z2.toInt64) * ((64 : Int64) * mm))) + ((z3.toInt64) * ((((16 : Int64) * mm) * mm) - (512 : Int64))))), .second, .val (.double r45), .second] [(.int (1 : Int32))])) _
          refine XS.goto X45.here hx rfl (pc0 := 339) (pc' := 343) rfl (hb hby at_339) (by decide) (by decide) ?_
          show Steps p.tables e below (T45.setTop (mkF m 343 #[.val (.int z0), .val (.int z1), .val (.int z2), .val (.int z3), .val (.int z4), .val (.int z5), .val (.int nv), .val (.long mm), .second, .val (.double d7), .second, .val (.ref b35), .val (.long ((64 : Int64) * mm)), .second, .val (.long ((((16 : Int64) * mm) * mm) - (512 : Int64))), .second, .val (.long (((((4 : Int64) * mm) * mm) * mm) - ((192 : Int64) * mm))), .second, .val (.long (((((mm * mm) * mm) * mm) - (((64 : Int64) * mm) * mm)) + (512 : Int64))), .second, .val (.long ((((512 : Int64) * (z1.toInt64)) + ((z2.toInt64) * ((64 : Int64) * mm))) + ((z3.toInt64) * ((((16 : Int64) * mm) * mm) - (512 : Int64))))), .second, .val (.double r45), .second] [(.int (1 : Int32))])) _
          exact retN X45 hx (t := .boolean) Bd.returns (by simp) (hb hby at_343) hr
        · show Q0 Z z0 z1 z2 z3 z4 z5 h0 n0 _ T45.heap _
          rw [hh45]
          exact ⟨rfl, N45⟩
      · have pre50 : ∀ t, Steps p.tables e below (s₁.setTop (mkF m 107 #[.val (.int z0), .val (.int z1), .val (.int z2), .val (.int z3), .val (.int z4), .val (.int z5), .val (.int nv), .val (.long mm), .second, .val (.double d7), .second, .unset, .unset, .unset, .unset, .unset, .unset, .unset, .unset, .unset, .unset, .unset, .unset, .unset] [(.int (4 : Int32)), (.int nv)])) t → Steps p.tables e below (s₁.setTop (entryFrame m #[(.int z0), (.int z1), (.int z2), (.int z3), (.int z4), (.int z5)] maxLocals)) t := by
          intro t kt
          refine pre33 t ?_
          show Steps p.tables e below (s₁.setTop (mkF m 78 #[.val (.int z0), .val (.int z1), .val (.int z2), .val (.int z3), .val (.int z4), .val (.int z5), .val (.int nv), .val (.long mm), .second, .val (.double d7), .second, .unset, .unset, .unset, .unset, .unset, .unset, .unset, .unset, .unset, .unset, .unset, .unset, .unset] [(.int (3 : Int32)), (.int nv)])) _
          refine XS.icmpYes X0.here hx rfl (pc0 := 78) (pc' := 104) rfl (hb hby at_78) rfl (feq hc78_34).2 (by decide) (by decide) ?_
          show Steps p.tables e below (s₁.setTop (mkF m 104 #[.val (.int z0), .val (.int z1), .val (.int z2), .val (.int z3), .val (.int z4), .val (.int z5), .val (.int nv), .val (.long mm), .second, .val (.double d7), .second, .unset, .unset, .unset, .unset, .unset, .unset, .unset, .unset, .unset, .unset, .unset, .unset, .unset] [])) _
          refine XS.iload X0.here hx rfl (hb hby at_104) rfl ?_
          show Steps p.tables e below (s₁.setTop (mkF m 106 #[.val (.int z0), .val (.int z1), .val (.int z2), .val (.int z3), .val (.int z4), .val (.int z5), .val (.int nv), .val (.long mm), .second, .val (.double d7), .second, .unset, .unset, .unset, .unset, .unset, .unset, .unset, .unset, .unset, .unset, .unset, .unset, .unset] [(.int nv)])) _
          refine XS.iconst X0.here hx rfl (hb hby at_106) ?_
          exact kt
        by_cases hc107_51 : nv = (4 : Int32)
        · obtain ⟨T52, h52, k52, X52, e52, E52, A52, st52⟩ := newP X0 hx hZ (hw _ (List.mem_of_getElem? (i := 2) rfl)) e0 (g := (mkF m 111 #[.val (.int z0), .val (.int z1), .val (.int z2), .val (.int z3), .val (.int z4), .val (.int z5), .val (.int nv), .val (.long mm), .second, .val (.double d7), .second, .unset, .unset, .unset, .unset, .unset, .unset, .unset, .unset, .unset, .unset, .unset, .unset, .unset] [(.int (4 : Int32))])) rfl (hb hby at_111) rfl (by decide) (cap := 4) (by decide) (by decide) (by decide) (by decide)
          obtain ⟨b52, g52⟩ : ∃ z, z = h0.size := ⟨_, rfl⟩
          rw [← g52] at A52 st52
          have g_b52 : n0 ≤ b52 := Nat.le_trans Z0 (Nat.le_of_eq g52.symm)
          have sz_b52 : h0.size ≤ b52 := Nat.le_trans K0.1 (Nat.le_of_eq g52.symm)
          have Zs52 : n0 ≤ h52.size := Nat.le_trans Z0 E52.1
          have K52 : Keep h0 h52 [] := K0.ext E52
          have V_b52 : own_B Z h52 b52 [0, 0, 0, 0] := own_B.new A52 rfl
          have B53 : (z1.toInt : Int).natAbs ≤ 2147483648 := own_Bi z1
          obtain ⟨d53, v53⟩ : ∃ z : UInt64, FP.i2d z1 = z := ⟨_, rfl⟩
          have D53 : own_Dy 0 z1.toInt d53 := by
            rw [← v53]
            exact own_Di z1
          have nn53 : Jvm.Free.Fl.NoNaN64 (FP.i2d z1) := by
            rw [v53]
            exact Jvm.Free.Fl.val64_no.mpr (own_Dy_num D53)
          obtain ⟨cl11754, Ar11754, Sq11754⟩ := V_b52
          have S11754 : cl11754.slots.size = ((4 : Int32)).toNatClampNeg := own_B.size Sq11754 rfl
          have hin11754 : ¬ ((0 : Int32) < 0 ∨ cl11754.slots.size ≤ ((0 : Int32)).toNatClampNeg) := inb_of S11754 ⟨by decide, by decide⟩
          obtain ⟨T55, h55, X55, e55, W55, st55⟩ := stD X52 hx hZ e52 Ar11754 (j := (0 : Int32)) hin11754 (g := (mkF m 117 #[.val (.int z0), .val (.int z1), .val (.int z2), .val (.int z3), .val (.int z4), .val (.int z5), .val (.int nv), .val (.long mm), .second, .val (.double d7), .second, .unset, .unset, .unset, .unset, .unset, .unset, .unset, .unset, .unset, .unset, .unset, .unset, .unset] [(.double d53), (.int (0 : Int32)), (.ref b52), (.ref b52)])) rfl rfl (hb hby at_117)
          have Zs55 : n0 ≤ h55.size := Nat.le_trans Zs52 (Keep.of_wr W55).1
          have K55 : Keep h0 h55 [] := K52.wr W55 (Or.inr sz_b52)
          have N55 := Fr.snoc X55 N0 g_b52
          have V_b52 : own_B Z h55 b52 [d53, 0, 0, 0] := own_B.set Ar11754 Sq11754 W55 rfl
          have B56 : (z2.toInt : Int).natAbs ≤ 2147483648 := own_Bi z2
          obtain ⟨d56, v56⟩ : ∃ z : UInt64, FP.i2d z2 = z := ⟨_, rfl⟩
          have D56 : own_Dy 0 z2.toInt d56 := by
            rw [← v56]
            exact own_Di z2
          have nn56 : Jvm.Free.Fl.NoNaN64 (FP.i2d z2) := by
            rw [v56]
            exact Jvm.Free.Fl.val64_no.mpr (own_Dy_num D56)
          obtain ⟨cl12257, Ar12257, Sq12257⟩ := V_b52
          have S12257 : cl12257.slots.size = ((4 : Int32)).toNatClampNeg := own_B.size Sq12257 rfl
          have hin12257 : ¬ ((1 : Int32) < 0 ∨ cl12257.slots.size ≤ ((1 : Int32)).toNatClampNeg) := inb_of S12257 ⟨by decide, by decide⟩
          obtain ⟨T58, h58, X58, e58, W58, st58⟩ := stD X55 hx hZ e55 Ar12257 (j := (1 : Int32)) hin12257 (g := (mkF m 122 #[.val (.int z0), .val (.int z1), .val (.int z2), .val (.int z3), .val (.int z4), .val (.int z5), .val (.int nv), .val (.long mm), .second, .val (.double d7), .second, .unset, .unset, .unset, .unset, .unset, .unset, .unset, .unset, .unset, .unset, .unset, .unset, .unset] [(.double d56), (.int (1 : Int32)), (.ref b52), (.ref b52)])) rfl rfl (hb hby at_122)
          have Zs58 : n0 ≤ h58.size := Nat.le_trans Zs55 (Keep.of_wr W58).1
          have K58 : Keep h0 h58 [] := K55.wr W58 (Or.inr sz_b52)
          have N58 := Fr.snoc X58 N55 g_b52
          have V_b52 : own_B Z h58 b52 [d53, d56, 0, 0] := own_B.set Ar12257 Sq12257 W58 rfl
          have B59 : (z3.toInt : Int).natAbs ≤ 2147483648 := own_Bi z3
          obtain ⟨d59, v59⟩ : ∃ z : UInt64, FP.i2d z3 = z := ⟨_, rfl⟩
          have D59 : own_Dy 0 z3.toInt d59 := by
            rw [← v59]
            exact own_Di z3
          have nn59 : Jvm.Free.Fl.NoNaN64 (FP.i2d z3) := by
            rw [v59]
            exact Jvm.Free.Fl.val64_no.mpr (own_Dy_num D59)
          obtain ⟨cl12760, Ar12760, Sq12760⟩ := V_b52
          have S12760 : cl12760.slots.size = ((4 : Int32)).toNatClampNeg := own_B.size Sq12760 rfl
          have hin12760 : ¬ ((2 : Int32) < 0 ∨ cl12760.slots.size ≤ ((2 : Int32)).toNatClampNeg) := inb_of S12760 ⟨by decide, by decide⟩
          obtain ⟨T61, h61, X61, e61, W61, st61⟩ := stD X58 hx hZ e58 Ar12760 (j := (2 : Int32)) hin12760 (g := (mkF m 127 #[.val (.int z0), .val (.int z1), .val (.int z2), .val (.int z3), .val (.int z4), .val (.int z5), .val (.int nv), .val (.long mm), .second, .val (.double d7), .second, .unset, .unset, .unset, .unset, .unset, .unset, .unset, .unset, .unset, .unset, .unset, .unset, .unset] [(.double d59), (.int (2 : Int32)), (.ref b52), (.ref b52)])) rfl rfl (hb hby at_127)
          have Zs61 : n0 ≤ h61.size := Nat.le_trans Zs58 (Keep.of_wr W61).1
          have K61 : Keep h0 h61 [] := K58.wr W61 (Or.inr sz_b52)
          have N61 := Fr.snoc X61 N58 g_b52
          have V_b52 : own_B Z h61 b52 [d53, d56, d59, 0] := own_B.set Ar12760 Sq12760 W61 rfl
          have B62 : (z4.toInt : Int).natAbs ≤ 2147483648 := own_Bi z4
          obtain ⟨d62, v62⟩ : ∃ z : UInt64, FP.i2d z4 = z := ⟨_, rfl⟩
          have D62 : own_Dy 0 z4.toInt d62 := by
            rw [← v62]
            exact own_Di z4
          have nn62 : Jvm.Free.Fl.NoNaN64 (FP.i2d z4) := by
            rw [v62]
            exact Jvm.Free.Fl.val64_no.mpr (own_Dy_num D62)
          obtain ⟨cl13363, Ar13363, Sq13363⟩ := V_b52
          have S13363 : cl13363.slots.size = ((4 : Int32)).toNatClampNeg := own_B.size Sq13363 rfl
          have hin13363 : ¬ ((3 : Int32) < 0 ∨ cl13363.slots.size ≤ ((3 : Int32)).toNatClampNeg) := inb_of S13363 ⟨by decide, by decide⟩
          obtain ⟨T64, h64, X64, e64, W64, st64⟩ := stD X61 hx hZ e61 Ar13363 (j := (3 : Int32)) hin13363 (g := (mkF m 133 #[.val (.int z0), .val (.int z1), .val (.int z2), .val (.int z3), .val (.int z4), .val (.int z5), .val (.int nv), .val (.long mm), .second, .val (.double d7), .second, .unset, .unset, .unset, .unset, .unset, .unset, .unset, .unset, .unset, .unset, .unset, .unset, .unset] [(.double d62), (.int (3 : Int32)), (.ref b52), (.ref b52)])) rfl rfl (hb hby at_133)
          have Zs64 : n0 ≤ h64.size := Nat.le_trans Zs61 (Keep.of_wr W64).1
          have K64 : Keep h0 h64 [] := K61.wr W64 (Or.inr sz_b52)
          have N64 := Fr.snoc X64 N61 g_b52
          have V_b52 : own_B Z h64 b52 [d53, d56, d59, d62] := own_B.set Ar13363 Sq13363 W64 rfl
          obtain ⟨_, _, ⟨T65, L65, k65, n65⟩, -, X65, ⟨Lc65, hQ65, l65, y65, z65⟩, st65⟩ := Jvm.LawKit.callS X64 hx (y := (⟨"com/example/matchstat/matchstat/Chebyshev", "sum", "([DD)D"⟩ : MethodName)) hown (mvT hZ (hw _ (List.mem_of_getElem? (i := 8) rfl))) (mvT hZ (hw _ (List.mem_of_getElem? (i := 9) rfl))) (mvT hZ (hw _ (List.mem_of_getElem? (i := 10) rfl))) (mvT hZ (hw _ (List.mem_of_getElem? (i := 11) rfl))) (by decide) (backOf (W := 0) (rm1s4 l Z a0 hw [] b52 d7 d53 d56 d59 d62 mm.toInt z1.toInt z2.toInt z3.toInt z4.toInt h64 n0 Zs64 V_b52 D7 B7 D53 B53 D56 B56 D59 B59 D62 B62) hZ (hw _ (List.mem_of_getElem? (i := 11) rfl)) (hw _ (List.mem_of_getElem? (i := 10) rfl)) (by decide) (by decide)) (g := (mkF m 320 #[.val (.int z0), .val (.int z1), .val (.int z2), .val (.int z3), .val (.int z4), .val (.int z5), .val (.int nv), .val (.long mm), .second, .val (.double d7), .second, .val (.ref b52), .val (.long ((64 : Int64) * mm)), .second, .val (.long ((((16 : Int64) * mm) * mm) - (512 : Int64))), .second, .val (.long (((((4 : Int64) * mm) * mm) * mm) - ((192 : Int64) * mm))), .second, .val (.long (((((mm * mm) * mm) * mm) - (((64 : Int64) * mm) * mm)) + (512 : Int64))), .second, .val (.long (((((512 : Int64) * (z1.toInt64)) + ((z2.toInt64) * ((64 : Int64) * mm))) + ((z3.toInt64) * ((((16 : Int64) * mm) * mm) - (512 : Int64)))) + ((z4.toInt64) * (((((4 : Int64) * mm) * mm) * mm) - ((192 : Int64) * mm))))), .second, .unset, .unset] [(.double d7), (.ref b52)])) rfl (by rw [hml]; rfl) (argsL := [(.ref b52), (.double d7)]) (rest := []) (lenOf pd0_0 rfl) rfl (by show 2 * 0 + _ ≤ _; exact Nat.le_of_eq rfl) (hb hby at_320) (fun _ _ => ⟨rfl, e64, (by decide : 1 + 0 ≤ _), (by decide : 4 + 0 ≤ _)⟩)
          dsimp only [Pt.U, Pt.locs, Pt.cells, Pt.slots] at X65 l65 y65 z65 st65 hQ65
          subst l65 y65 z65
          obtain ⟨r65, rfl, N65q, hh65, Dr65, Br65⟩ := hQ65
          have N65 := Fr.app N64 N65q
          have B66 : ((((z1.toInt * 4096) + (mm.toInt * (((z2.toInt * 512) + ((2 * mm.toInt) * (((z3.toInt * 64) + ((2 * mm.toInt) * (((z4.toInt * 8) + ((2 * mm.toInt) * 0)) - (0 * 8)))) - (0 * 64)))) - ((((z4.toInt * 8) + ((2 * mm.toInt) * 0)) - (0 * 8)) * 64)))) - ((((z3.toInt * 64) + ((2 * mm.toInt) * (((z4.toInt * 8) + ((2 * mm.toInt) * 0)) - (0 * 8)))) - (0 * 64)) * 64)) : Int).natAbs ≤ 105553116266496 := Br65
          obtain ⟨d66, v66⟩ : ∃ z : UInt64, FP.dmul r65 (4647714815446351872 : UInt64) = z := ⟨_, rfl⟩
          have D66 : own_Dy 3 (((z1.toInt * 4096) + (mm.toInt * (((z2.toInt * 512) + ((2 * mm.toInt) * (((z3.toInt * 64) + ((2 * mm.toInt) * (((z4.toInt * 8) + ((2 * mm.toInt) * 0)) - (0 * 8)))) - (0 * 64)))) - ((((z4.toInt * 8) + ((2 * mm.toInt) * 0)) - (0 * 8)) * 64)))) - ((((z3.toInt * 64) + ((2 * mm.toInt) * (((z4.toInt * 8) + ((2 * mm.toInt) * 0)) - (0 * 8)))) - (0 * 64)) * 64)) d66 := by
            rw [← v66]
            exact own_Dy_mul512 rfl (by decide) Dr65 (Nat.le_trans B66 (by decide))
          have nn66 : Jvm.Free.Fl.NoNaN64 (FP.dmul r65 (4647714815446351872 : UInt64)) := by
            rw [v66]
            exact Jvm.Free.Fl.val64_no.mpr (own_Dy_num D66)
          have l67 : own_L (((((512 : Int64) * (z1.toInt64)) + ((z2.toInt64) * ((64 : Int64) * mm))) + ((z3.toInt64) * ((((16 : Int64) * mm) * mm) - (512 : Int64)))) + ((z4.toInt64) * (((((4 : Int64) * mm) * mm) * mm) - ((192 : Int64) * mm)))) ((((512 * z1.toInt) + (z2.toInt * (64 * mm.toInt))) + (z3.toInt * (((16 * mm.toInt) * mm.toInt) - 512))) + (z4.toInt * ((((4 * mm.toInt) * mm.toInt) * mm.toInt) - (192 * mm.toInt)))) 13194139533312 := (own_L_add (own_L_add (own_L_add (own_L_mul (⟨by decide, by decide⟩ : own_L (512 : Int64) 512 512) (own_L_i z1) (C := 1099511627776) (by decide) (by decide)) (own_L_mul (own_L_i z2) (own_L_mul (⟨by decide, by decide⟩ : own_L (64 : Int64) 64 64) hL (C := 512) (by decide) (by decide)) (C := 1099511627776) (by decide) (by decide)) (C := 2199023255552) (by decide) (by decide)) (own_L_mul (own_L_i z3) (own_L_sub (own_L_mul (own_L_mul (⟨by decide, by decide⟩ : own_L (16 : Int64) 16 16) hL (C := 128) (by decide) (by decide)) hL (C := 1024) (by decide) (by decide)) (⟨by decide, by decide⟩ : own_L (512 : Int64) 512 512) (C := 1536) (by decide) (by decide)) (C := 3298534883328) (by decide) (by decide)) (C := 5497558138880) (by decide) (by decide)) (own_L_mul (own_L_i z4) (own_L_sub (own_L_mul (own_L_mul (own_L_mul (⟨by decide, by decide⟩ : own_L (4 : Int64) 4 4) hL (C := 32) (by decide) (by decide)) hL (C := 256) (by decide) (by decide)) hL (C := 2048) (by decide) (by decide)) (own_L_mul (⟨by decide, by decide⟩ : own_L (192 : Int64) 192 192) hL (C := 1536) (by decide) (by decide)) (C := 3584) (by decide) (by decide)) (C := 7696581394432) (by decide) (by decide)) (C := 13194139533312) (by decide) (by decide))
          have B68 : (((((512 * z1.toInt) + (z2.toInt * (64 * mm.toInt))) + (z3.toInt * (((16 * mm.toInt) * mm.toInt) - 512))) + (z4.toInt * ((((4 * mm.toInt) * mm.toInt) * mm.toInt) - (192 * mm.toInt)))) : Int).natAbs ≤ 13194139533312 := l67.2
          obtain ⟨d68, v68⟩ : ∃ z : UInt64, FP.l2d (((((512 : Int64) * (z1.toInt64)) + ((z2.toInt64) * ((64 : Int64) * mm))) + ((z3.toInt64) * ((((16 : Int64) * mm) * mm) - (512 : Int64)))) + ((z4.toInt64) * (((((4 : Int64) * mm) * mm) * mm) - ((192 : Int64) * mm)))) = z := ⟨_, rfl⟩
          have D68 : own_Dy 0 ((((512 * z1.toInt) + (z2.toInt * (64 * mm.toInt))) + (z3.toInt * (((16 * mm.toInt) * mm.toInt) - 512))) + (z4.toInt * ((((4 * mm.toInt) * mm.toInt) * mm.toInt) - (192 * mm.toInt)))) d68 := by
            rw [← v68]
            exact own_L_d l67 (by decide)
          have nn68 : Jvm.Free.Fl.NoNaN64 (FP.l2d (((((512 : Int64) * (z1.toInt64)) + ((z2.toInt64) * ((64 : Int64) * mm))) + ((z3.toInt64) * ((((16 : Int64) * mm) * mm) - (512 : Int64)))) + ((z4.toInt64) * (((((4 : Int64) * mm) * mm) * mm) - ((192 : Int64) * mm))))) := by
            rw [v68]
            exact Jvm.Free.Fl.val64_no.mpr (own_Dy_num D68)
          have q69 : cmpValue (FP.dcmp d66 d68) .l = 0 := own_cmp0 D66 (own_Dy_up (K := 3) (p := 8) 3 rfl (by decide) D68) (own_id4 mm.toInt z1.toInt z2.toInt z3.toInt z4.toInt) .l
          obtain ⟨fs, hr, hrun, hended, hW, hsame⟩ := X65.leave (v := some (.int (1 : Int32))) (fun h => by rw [Bd.returns] at h; cases h)
          refine ⟨_, _, pre50 _ ?_, hrun, hended, _, _, rfl, ?_, ⟨_, rfl⟩, hW, hsame.mono (by decide) (by decide)⟩
          · show Steps p.tables e below (s₁.setTop (mkF m 107 #[.val (.int z0), .val (.int z1), .val (.int z2), .val (.int z3), .val (.int z4), .val (.int z5), .val (.int nv), .val (.long mm), .second, .val (.double d7), .second, .unset, .unset, .unset, .unset, .unset, .unset, .unset, .unset, .unset, .unset, .unset, .unset, .unset] [(.int (4 : Int32)), (.int nv)])) _
            refine XS.icmpNo X0.here hx rfl (hb hby at_107) rfl (teq hc107_51).2 ?_
            show Steps p.tables e below (s₁.setTop (mkF m 110 #[.val (.int z0), .val (.int z1), .val (.int z2), .val (.int z3), .val (.int z4), .val (.int z5), .val (.int nv), .val (.long mm), .second, .val (.double d7), .second, .unset, .unset, .unset, .unset, .unset, .unset, .unset, .unset, .unset, .unset, .unset, .unset, .unset] [])) _
            refine XS.iconst X0.here hx rfl (hb hby at_110) ?_
            show Steps p.tables e below (s₁.setTop (mkF m 111 #[.val (.int z0), .val (.int z1), .val (.int z2), .val (.int z3), .val (.int z4), .val (.int z5), .val (.int nv), .val (.long mm), .second, .val (.double d7), .second, .unset, .unset, .unset, .unset, .unset, .unset, .unset, .unset, .unset, .unset, .unset, .unset, .unset] [(.int (4 : Int32))])) _
            refine st52 _ ?_
            show Steps p.tables e below (T52.setTop (mkF m 113 #[.val (.int z0), .val (.int z1), .val (.int z2), .val (.int z3), .val (.int z4), .val (.int z5), .val (.int nv), .val (.long mm), .second, .val (.double d7), .second, .unset, .unset, .unset, .unset, .unset, .unset, .unset, .unset, .unset, .unset, .unset, .unset, .unset] [(.ref b52)])) _
            refine XS.dup X52.here hx rfl (hb hby at_113) rfl rfl ?_
            show Steps p.tables e below (T52.setTop (mkF m 114 #[.val (.int z0), .val (.int z1), .val (.int z2), .val (.int z3), .val (.int z4), .val (.int z5), .val (.int nv), .val (.long mm), .second, .val (.double d7), .second, .unset, .unset, .unset, .unset, .unset, .unset, .unset, .unset, .unset, .unset, .unset, .unset, .unset] [(.ref b52), (.ref b52)])) _
            refine XS.iconst X52.here hx rfl (hb hby at_114) ?_
            show Steps p.tables e below (T52.setTop (mkF m 115 #[.val (.int z0), .val (.int z1), .val (.int z2), .val (.int z3), .val (.int z4), .val (.int z5), .val (.int nv), .val (.long mm), .second, .val (.double d7), .second, .unset, .unset, .unset, .unset, .unset, .unset, .unset, .unset, .unset, .unset, .unset, .unset, .unset] [(.int (0 : Int32)), (.ref b52), (.ref b52)])) _
            refine XS.iloadN X52.here hx rfl (hb hby at_115) rfl ?_
            show Steps p.tables e below (T52.setTop (mkF m 116 #[.val (.int z0), .val (.int z1), .val (.int z2), .val (.int z3), .val (.int z4), .val (.int z5), .val (.int nv), .val (.long mm), .second, .val (.double d7), .second, .unset, .unset, .unset, .unset, .unset, .unset, .unset, .unset, .unset, .unset, .unset, .unset, .unset] [(.int z1), (.int (0 : Int32)), (.ref b52), (.ref b52)])) _
            refine XS.i2dS X52.here hx rfl (hb hby at_116) rfl v53 ?_
            show Steps p.tables e below (T52.setTop (mkF m 117 #[.val (.int z0), .val (.int z1), .val (.int z2), .val (.int z3), .val (.int z4), .val (.int z5), .val (.int nv), .val (.long mm), .second, .val (.double d7), .second, .unset, .unset, .unset, .unset, .unset, .unset, .unset, .unset, .unset, .unset, .unset, .unset, .unset] [(.double d53), (.int (0 : Int32)), (.ref b52), (.ref b52)])) _
            refine st55 _ ?_
            show Steps p.tables e below (T55.setTop (mkF m 118 #[.val (.int z0), .val (.int z1), .val (.int z2), .val (.int z3), .val (.int z4), .val (.int z5), .val (.int nv), .val (.long mm), .second, .val (.double d7), .second, .unset, .unset, .unset, .unset, .unset, .unset, .unset, .unset, .unset, .unset, .unset, .unset, .unset] [(.ref b52)])) _
            refine XS.dup X55.here hx rfl (hb hby at_118) rfl rfl ?_
            show Steps p.tables e below (T55.setTop (mkF m 119 #[.val (.int z0), .val (.int z1), .val (.int z2), .val (.int z3), .val (.int z4), .val (.int z5), .val (.int nv), .val (.long mm), .second, .val (.double d7), .second, .unset, .unset, .unset, .unset, .unset, .unset, .unset, .unset, .unset, .unset, .unset, .unset, .unset] [(.ref b52), (.ref b52)])) _
            refine XS.iconst X55.here hx rfl (hb hby at_119) ?_
            show Steps p.tables e below (T55.setTop (mkF m 120 #[.val (.int z0), .val (.int z1), .val (.int z2), .val (.int z3), .val (.int z4), .val (.int z5), .val (.int nv), .val (.long mm), .second, .val (.double d7), .second, .unset, .unset, .unset, .unset, .unset, .unset, .unset, .unset, .unset, .unset, .unset, .unset, .unset] [(.int (1 : Int32)), (.ref b52), (.ref b52)])) _
            refine XS.iloadN X55.here hx rfl (hb hby at_120) rfl ?_
            show Steps p.tables e below (T55.setTop (mkF m 121 #[.val (.int z0), .val (.int z1), .val (.int z2), .val (.int z3), .val (.int z4), .val (.int z5), .val (.int nv), .val (.long mm), .second, .val (.double d7), .second, .unset, .unset, .unset, .unset, .unset, .unset, .unset, .unset, .unset, .unset, .unset, .unset, .unset] [(.int z2), (.int (1 : Int32)), (.ref b52), (.ref b52)])) _
            refine XS.i2dS X55.here hx rfl (hb hby at_121) rfl v56 ?_
            show Steps p.tables e below (T55.setTop (mkF m 122 #[.val (.int z0), .val (.int z1), .val (.int z2), .val (.int z3), .val (.int z4), .val (.int z5), .val (.int nv), .val (.long mm), .second, .val (.double d7), .second, .unset, .unset, .unset, .unset, .unset, .unset, .unset, .unset, .unset, .unset, .unset, .unset, .unset] [(.double d56), (.int (1 : Int32)), (.ref b52), (.ref b52)])) _
            refine st58 _ ?_
            show Steps p.tables e below (T58.setTop (mkF m 123 #[.val (.int z0), .val (.int z1), .val (.int z2), .val (.int z3), .val (.int z4), .val (.int z5), .val (.int nv), .val (.long mm), .second, .val (.double d7), .second, .unset, .unset, .unset, .unset, .unset, .unset, .unset, .unset, .unset, .unset, .unset, .unset, .unset] [(.ref b52)])) _
            refine XS.dup X58.here hx rfl (hb hby at_123) rfl rfl ?_
            show Steps p.tables e below (T58.setTop (mkF m 124 #[.val (.int z0), .val (.int z1), .val (.int z2), .val (.int z3), .val (.int z4), .val (.int z5), .val (.int nv), .val (.long mm), .second, .val (.double d7), .second, .unset, .unset, .unset, .unset, .unset, .unset, .unset, .unset, .unset, .unset, .unset, .unset, .unset] [(.ref b52), (.ref b52)])) _
            refine XS.iconst X58.here hx rfl (hb hby at_124) ?_
            show Steps p.tables e below (T58.setTop (mkF m 125 #[.val (.int z0), .val (.int z1), .val (.int z2), .val (.int z3), .val (.int z4), .val (.int z5), .val (.int nv), .val (.long mm), .second, .val (.double d7), .second, .unset, .unset, .unset, .unset, .unset, .unset, .unset, .unset, .unset, .unset, .unset, .unset, .unset] [(.int (2 : Int32)), (.ref b52), (.ref b52)])) _
            refine XS.iloadN X58.here hx rfl (hb hby at_125) rfl ?_
            show Steps p.tables e below (T58.setTop (mkF m 126 #[.val (.int z0), .val (.int z1), .val (.int z2), .val (.int z3), .val (.int z4), .val (.int z5), .val (.int nv), .val (.long mm), .second, .val (.double d7), .second, .unset, .unset, .unset, .unset, .unset, .unset, .unset, .unset, .unset, .unset, .unset, .unset, .unset] [(.int z3), (.int (2 : Int32)), (.ref b52), (.ref b52)])) _
            refine XS.i2dS X58.here hx rfl (hb hby at_126) rfl v59 ?_
            show Steps p.tables e below (T58.setTop (mkF m 127 #[.val (.int z0), .val (.int z1), .val (.int z2), .val (.int z3), .val (.int z4), .val (.int z5), .val (.int nv), .val (.long mm), .second, .val (.double d7), .second, .unset, .unset, .unset, .unset, .unset, .unset, .unset, .unset, .unset, .unset, .unset, .unset, .unset] [(.double d59), (.int (2 : Int32)), (.ref b52), (.ref b52)])) _
            refine st61 _ ?_
            show Steps p.tables e below (T61.setTop (mkF m 128 #[.val (.int z0), .val (.int z1), .val (.int z2), .val (.int z3), .val (.int z4), .val (.int z5), .val (.int nv), .val (.long mm), .second, .val (.double d7), .second, .unset, .unset, .unset, .unset, .unset, .unset, .unset, .unset, .unset, .unset, .unset, .unset, .unset] [(.ref b52)])) _
            refine XS.dup X61.here hx rfl (hb hby at_128) rfl rfl ?_
            show Steps p.tables e below (T61.setTop (mkF m 129 #[.val (.int z0), .val (.int z1), .val (.int z2), .val (.int z3), .val (.int z4), .val (.int z5), .val (.int nv), .val (.long mm), .second, .val (.double d7), .second, .unset, .unset, .unset, .unset, .unset, .unset, .unset, .unset, .unset, .unset, .unset, .unset, .unset] [(.ref b52), (.ref b52)])) _
            refine XS.iconst X61.here hx rfl (hb hby at_129) ?_
            show Steps p.tables e below (T61.setTop (mkF m 130 #[.val (.int z0), .val (.int z1), .val (.int z2), .val (.int z3), .val (.int z4), .val (.int z5), .val (.int nv), .val (.long mm), .second, .val (.double d7), .second, .unset, .unset, .unset, .unset, .unset, .unset, .unset, .unset, .unset, .unset, .unset, .unset, .unset] [(.int (3 : Int32)), (.ref b52), (.ref b52)])) _
            refine XS.iload X61.here hx rfl (hb hby at_130) rfl ?_
            show Steps p.tables e below (T61.setTop (mkF m 132 #[.val (.int z0), .val (.int z1), .val (.int z2), .val (.int z3), .val (.int z4), .val (.int z5), .val (.int nv), .val (.long mm), .second, .val (.double d7), .second, .unset, .unset, .unset, .unset, .unset, .unset, .unset, .unset, .unset, .unset, .unset, .unset, .unset] [(.int z4), (.int (3 : Int32)), (.ref b52), (.ref b52)])) _
            refine XS.i2dS X61.here hx rfl (hb hby at_132) rfl v62 ?_
            show Steps p.tables e below (T61.setTop (mkF m 133 #[.val (.int z0), .val (.int z1), .val (.int z2), .val (.int z3), .val (.int z4), .val (.int z5), .val (.int nv), .val (.long mm), .second, .val (.double d7), .second, .unset, .unset, .unset, .unset, .unset, .unset, .unset, .unset, .unset, .unset, .unset, .unset, .unset] [(.double d62), (.int (3 : Int32)), (.ref b52), (.ref b52)])) _
            refine st64 _ ?_
            show Steps p.tables e below (T64.setTop (mkF m 134 #[.val (.int z0), .val (.int z1), .val (.int z2), .val (.int z3), .val (.int z4), .val (.int z5), .val (.int nv), .val (.long mm), .second, .val (.double d7), .second, .unset, .unset, .unset, .unset, .unset, .unset, .unset, .unset, .unset, .unset, .unset, .unset, .unset] [(.ref b52)])) _
            refine XS.astore X64.here hx rfl (hb hby at_134) rfl rfl (l' := #[.val (.int z0), .val (.int z1), .val (.int z2), .val (.int z3), .val (.int z4), .val (.int z5), .val (.int nv), .val (.long mm), .second, .val (.double d7), .second, .val (.ref b52), .unset, .unset, .unset, .unset, .unset, .unset, .unset, .unset, .unset, .unset, .unset, .unset]) rfl ?_
            show Steps p.tables e below (T64.setTop (mkF m 136 #[.val (.int z0), .val (.int z1), .val (.int z2), .val (.int z3), .val (.int z4), .val (.int z5), .val (.int nv), .val (.long mm), .second, .val (.double d7), .second, .val (.ref b52), .unset, .unset, .unset, .unset, .unset, .unset, .unset, .unset, .unset, .unset, .unset, .unset] [])) _
            refine XS.goto X64.here hx rfl (pc0 := 136) (pc' := 171) rfl (hb hby at_136) (by decide) (by decide) ?_
            show Steps p.tables e below (T64.setTop (mkF m 171 #[.val (.int z0), .val (.int z1), .val (.int z2), .val (.int z3), .val (.int z4), .val (.int z5), .val (.int nv), .val (.long mm), .second, .val (.double d7), .second, .val (.ref b52), .unset, .unset, .unset, .unset, .unset, .unset, .unset, .unset, .unset, .unset, .unset, .unset] [])) _
            refine X64.ldc2Long hx hown (mvT hZ (hw _ (List.mem_of_getElem? (i := 3) rfl))) (g := (mkF m 171 #[.val (.int z0), .val (.int z1), .val (.int z2), .val (.int z3), .val (.int z4), .val (.int z5), .val (.int nv), .val (.long mm), .second, .val (.double d7), .second, .val (.ref b52), .unset, .unset, .unset, .unset, .unset, .unset, .unset, .unset, .unset, .unset, .unset, .unset] [])) rfl (hb hby at_171) _ ?_
            show Steps p.tables e below (T64.setTop (mkF m 174 #[.val (.int z0), .val (.int z1), .val (.int z2), .val (.int z3), .val (.int z4), .val (.int z5), .val (.int nv), .val (.long mm), .second, .val (.double d7), .second, .val (.ref b52), .unset, .unset, .unset, .unset, .unset, .unset, .unset, .unset, .unset, .unset, .unset, .unset] [(.long (64 : Int64))])) _
            refine XS.lload X64.here hx rfl (hb hby at_174) rfl ?_
            show Steps p.tables e below (T64.setTop (mkF m 176 #[.val (.int z0), .val (.int z1), .val (.int z2), .val (.int z3), .val (.int z4), .val (.int z5), .val (.int nv), .val (.long mm), .second, .val (.double d7), .second, .val (.ref b52), .unset, .unset, .unset, .unset, .unset, .unset, .unset, .unset, .unset, .unset, .unset, .unset] [(.long mm), (.long (64 : Int64))])) _
            refine XS.lmul X64.here hx rfl (hb hby at_176) rfl ?_
            show Steps p.tables e below (T64.setTop (mkF m 177 #[.val (.int z0), .val (.int z1), .val (.int z2), .val (.int z3), .val (.int z4), .val (.int z5), .val (.int nv), .val (.long mm), .second, .val (.double d7), .second, .val (.ref b52), .unset, .unset, .unset, .unset, .unset, .unset, .unset, .unset, .unset, .unset, .unset, .unset] [(.long ((64 : Int64) * mm))])) _
            refine XS.lstore X64.here hx rfl (hb hby at_177) rfl (l' := #[.val (.int z0), .val (.int z1), .val (.int z2), .val (.int z3), .val (.int z4), .val (.int z5), .val (.int nv), .val (.long mm), .second, .val (.double d7), .second, .val (.ref b52), .val (.long ((64 : Int64) * mm)), .second, .unset, .unset, .unset, .unset, .unset, .unset, .unset, .unset, .unset, .unset]) rfl ?_
            show Steps p.tables e below (T64.setTop (mkF m 179 #[.val (.int z0), .val (.int z1), .val (.int z2), .val (.int z3), .val (.int z4), .val (.int z5), .val (.int nv), .val (.long mm), .second, .val (.double d7), .second, .val (.ref b52), .val (.long ((64 : Int64) * mm)), .second, .unset, .unset, .unset, .unset, .unset, .unset, .unset, .unset, .unset, .unset] [])) _
            refine X64.ldc2Long hx hown (mvT hZ (hw _ (List.mem_of_getElem? (i := 4) rfl))) (g := (mkF m 179 #[.val (.int z0), .val (.int z1), .val (.int z2), .val (.int z3), .val (.int z4), .val (.int z5), .val (.int nv), .val (.long mm), .second, .val (.double d7), .second, .val (.ref b52), .val (.long ((64 : Int64) * mm)), .second, .unset, .unset, .unset, .unset, .unset, .unset, .unset, .unset, .unset, .unset] [])) rfl (hb hby at_179) _ ?_
            show Steps p.tables e below (T64.setTop (mkF m 182 #[.val (.int z0), .val (.int z1), .val (.int z2), .val (.int z3), .val (.int z4), .val (.int z5), .val (.int nv), .val (.long mm), .second, .val (.double d7), .second, .val (.ref b52), .val (.long ((64 : Int64) * mm)), .second, .unset, .unset, .unset, .unset, .unset, .unset, .unset, .unset, .unset, .unset] [(.long (16 : Int64))])) _
            refine XS.lload X64.here hx rfl (hb hby at_182) rfl ?_
            show Steps p.tables e below (T64.setTop (mkF m 184 #[.val (.int z0), .val (.int z1), .val (.int z2), .val (.int z3), .val (.int z4), .val (.int z5), .val (.int nv), .val (.long mm), .second, .val (.double d7), .second, .val (.ref b52), .val (.long ((64 : Int64) * mm)), .second, .unset, .unset, .unset, .unset, .unset, .unset, .unset, .unset, .unset, .unset] [(.long mm), (.long (16 : Int64))])) _
            refine XS.lmul X64.here hx rfl (hb hby at_184) rfl ?_
            show Steps p.tables e below (T64.setTop (mkF m 185 #[.val (.int z0), .val (.int z1), .val (.int z2), .val (.int z3), .val (.int z4), .val (.int z5), .val (.int nv), .val (.long mm), .second, .val (.double d7), .second, .val (.ref b52), .val (.long ((64 : Int64) * mm)), .second, .unset, .unset, .unset, .unset, .unset, .unset, .unset, .unset, .unset, .unset] [(.long ((16 : Int64) * mm))])) _
            refine XS.lload X64.here hx rfl (hb hby at_185) rfl ?_
            show Steps p.tables e below (T64.setTop (mkF m 187 #[.val (.int z0), .val (.int z1), .val (.int z2), .val (.int z3), .val (.int z4), .val (.int z5), .val (.int nv), .val (.long mm), .second, .val (.double d7), .second, .val (.ref b52), .val (.long ((64 : Int64) * mm)), .second, .unset, .unset, .unset, .unset, .unset, .unset, .unset, .unset, .unset, .unset] [(.long mm), (.long ((16 : Int64) * mm))])) _
            refine XS.lmul X64.here hx rfl (hb hby at_187) rfl ?_
            show Steps p.tables e below (T64.setTop (mkF m 188 #[.val (.int z0), .val (.int z1), .val (.int z2), .val (.int z3), .val (.int z4), .val (.int z5), .val (.int nv), .val (.long mm), .second, .val (.double d7), .second, .val (.ref b52), .val (.long ((64 : Int64) * mm)), .second, .unset, .unset, .unset, .unset, .unset, .unset, .unset, .unset, .unset, .unset] [(.long (((16 : Int64) * mm) * mm))])) _
            refine X64.ldc2Long hx hown (mvT hZ (hw _ (List.mem_of_getElem? (i := 5) rfl))) (g := (mkF m 188 #[.val (.int z0), .val (.int z1), .val (.int z2), .val (.int z3), .val (.int z4), .val (.int z5), .val (.int nv), .val (.long mm), .second, .val (.double d7), .second, .val (.ref b52), .val (.long ((64 : Int64) * mm)), .second, .unset, .unset, .unset, .unset, .unset, .unset, .unset, .unset, .unset, .unset] [(.long (((16 : Int64) * mm) * mm))])) rfl (hb hby at_188) _ ?_
            show Steps p.tables e below (T64.setTop (mkF m 191 #[.val (.int z0), .val (.int z1), .val (.int z2), .val (.int z3), .val (.int z4), .val (.int z5), .val (.int nv), .val (.long mm), .second, .val (.double d7), .second, .val (.ref b52), .val (.long ((64 : Int64) * mm)), .second, .unset, .unset, .unset, .unset, .unset, .unset, .unset, .unset, .unset, .unset] [(.long (512 : Int64)), (.long (((16 : Int64) * mm) * mm))])) _
            refine XS.lsub X64.here hx rfl (hb hby at_191) rfl ?_
            show Steps p.tables e below (T64.setTop (mkF m 192 #[.val (.int z0), .val (.int z1), .val (.int z2), .val (.int z3), .val (.int z4), .val (.int z5), .val (.int nv), .val (.long mm), .second, .val (.double d7), .second, .val (.ref b52), .val (.long ((64 : Int64) * mm)), .second, .unset, .unset, .unset, .unset, .unset, .unset, .unset, .unset, .unset, .unset] [(.long ((((16 : Int64) * mm) * mm) - (512 : Int64)))])) _
            refine XS.lstore X64.here hx rfl (hb hby at_192) rfl (l' := #[.val (.int z0), .val (.int z1), .val (.int z2), .val (.int z3), .val (.int z4), .val (.int z5), .val (.int nv), .val (.long mm), .second, .val (.double d7), .second, .val (.ref b52), .val (.long ((64 : Int64) * mm)), .second, .val (.long ((((16 : Int64) * mm) * mm) - (512 : Int64))), .second, .unset, .unset, .unset, .unset, .unset, .unset, .unset, .unset]) rfl ?_
            show Steps p.tables e below (T64.setTop (mkF m 194 #[.val (.int z0), .val (.int z1), .val (.int z2), .val (.int z3), .val (.int z4), .val (.int z5), .val (.int nv), .val (.long mm), .second, .val (.double d7), .second, .val (.ref b52), .val (.long ((64 : Int64) * mm)), .second, .val (.long ((((16 : Int64) * mm) * mm) - (512 : Int64))), .second, .unset, .unset, .unset, .unset, .unset, .unset, .unset, .unset] [])) _
            refine X64.ldc2Long hx hown (mvT hZ (hw _ (List.mem_of_getElem? (i := 6) rfl))) (g := (mkF m 194 #[.val (.int z0), .val (.int z1), .val (.int z2), .val (.int z3), .val (.int z4), .val (.int z5), .val (.int nv), .val (.long mm), .second, .val (.double d7), .second, .val (.ref b52), .val (.long ((64 : Int64) * mm)), .second, .val (.long ((((16 : Int64) * mm) * mm) - (512 : Int64))), .second, .unset, .unset, .unset, .unset, .unset, .unset, .unset, .unset] [])) rfl (hb hby at_194) _ ?_
            show Steps p.tables e below (T64.setTop (mkF m 197 #[.val (.int z0), .val (.int z1), .val (.int z2), .val (.int z3), .val (.int z4), .val (.int z5), .val (.int nv), .val (.long mm), .second, .val (.double d7), .second, .val (.ref b52), .val (.long ((64 : Int64) * mm)), .second, .val (.long ((((16 : Int64) * mm) * mm) - (512 : Int64))), .second, .unset, .unset, .unset, .unset, .unset, .unset, .unset, .unset] [(.long (4 : Int64))])) _
            refine XS.lload X64.here hx rfl (hb hby at_197) rfl ?_
            show Steps p.tables e below (T64.setTop (mkF m 199 #[.val (.int z0), .val (.int z1), .val (.int z2), .val (.int z3), .val (.int z4), .val (.int z5), .val (.int nv), .val (.long mm), .second, .val (.double d7), .second, .val (.ref b52), .val (.long ((64 : Int64) * mm)), .second, .val (.long ((((16 : Int64) * mm) * mm) - (512 : Int64))), .second, .unset, .unset, .unset, .unset, .unset, .unset, .unset, .unset] [(.long mm), (.long (4 : Int64))])) _
            refine XS.lmul X64.here hx rfl (hb hby at_199) rfl ?_
            show Steps p.tables e below (T64.setTop (mkF m 200 #[.val (.int z0), .val (.int z1), .val (.int z2), .val (.int z3), .val (.int z4), .val (.int z5), .val (.int nv), .val (.long mm), .second, .val (.double d7), .second, .val (.ref b52), .val (.long ((64 : Int64) * mm)), .second, .val (.long ((((16 : Int64) * mm) * mm) - (512 : Int64))), .second, .unset, .unset, .unset, .unset, .unset, .unset, .unset, .unset] [(.long ((4 : Int64) * mm))])) _
            refine XS.lload X64.here hx rfl (hb hby at_200) rfl ?_
            show Steps p.tables e below (T64.setTop (mkF m 202 #[.val (.int z0), .val (.int z1), .val (.int z2), .val (.int z3), .val (.int z4), .val (.int z5), .val (.int nv), .val (.long mm), .second, .val (.double d7), .second, .val (.ref b52), .val (.long ((64 : Int64) * mm)), .second, .val (.long ((((16 : Int64) * mm) * mm) - (512 : Int64))), .second, .unset, .unset, .unset, .unset, .unset, .unset, .unset, .unset] [(.long mm), (.long ((4 : Int64) * mm))])) _
            refine XS.lmul X64.here hx rfl (hb hby at_202) rfl ?_
            show Steps p.tables e below (T64.setTop (mkF m 203 #[.val (.int z0), .val (.int z1), .val (.int z2), .val (.int z3), .val (.int z4), .val (.int z5), .val (.int nv), .val (.long mm), .second, .val (.double d7), .second, .val (.ref b52), .val (.long ((64 : Int64) * mm)), .second, .val (.long ((((16 : Int64) * mm) * mm) - (512 : Int64))), .second, .unset, .unset, .unset, .unset, .unset, .unset, .unset, .unset] [(.long (((4 : Int64) * mm) * mm))])) _
            refine XS.lload X64.here hx rfl (hb hby at_203) rfl ?_
            show Steps p.tables e below (T64.setTop (mkF m 205 #[.val (.int z0), .val (.int z1), .val (.int z2), .val (.int z3), .val (.int z4), .val (.int z5), .val (.int nv), .val (.long mm), .second, .val (.double d7), .second, .val (.ref b52), .val (.long ((64 : Int64) * mm)), .second, .val (.long ((((16 : Int64) * mm) * mm) - (512 : Int64))), .second, .unset, .unset, .unset, .unset, .unset, .unset, .unset, .unset] [(.long mm), (.long (((4 : Int64) * mm) * mm))])) _
            refine XS.lmul X64.here hx rfl (hb hby at_205) rfl ?_
            show Steps p.tables e below (T64.setTop (mkF m 206 #[.val (.int z0), .val (.int z1), .val (.int z2), .val (.int z3), .val (.int z4), .val (.int z5), .val (.int nv), .val (.long mm), .second, .val (.double d7), .second, .val (.ref b52), .val (.long ((64 : Int64) * mm)), .second, .val (.long ((((16 : Int64) * mm) * mm) - (512 : Int64))), .second, .unset, .unset, .unset, .unset, .unset, .unset, .unset, .unset] [(.long ((((4 : Int64) * mm) * mm) * mm))])) _
            refine X64.ldc2Long hx hown (mvT hZ (hw _ (List.mem_of_getElem? (i := 7) rfl))) (g := (mkF m 206 #[.val (.int z0), .val (.int z1), .val (.int z2), .val (.int z3), .val (.int z4), .val (.int z5), .val (.int nv), .val (.long mm), .second, .val (.double d7), .second, .val (.ref b52), .val (.long ((64 : Int64) * mm)), .second, .val (.long ((((16 : Int64) * mm) * mm) - (512 : Int64))), .second, .unset, .unset, .unset, .unset, .unset, .unset, .unset, .unset] [(.long ((((4 : Int64) * mm) * mm) * mm))])) rfl (hb hby at_206) _ ?_
            show Steps p.tables e below (T64.setTop (mkF m 209 #[.val (.int z0), .val (.int z1), .val (.int z2), .val (.int z3), .val (.int z4), .val (.int z5), .val (.int nv), .val (.long mm), .second, .val (.double d7), .second, .val (.ref b52), .val (.long ((64 : Int64) * mm)), .second, .val (.long ((((16 : Int64) * mm) * mm) - (512 : Int64))), .second, .unset, .unset, .unset, .unset, .unset, .unset, .unset, .unset] [(.long (192 : Int64)), (.long ((((4 : Int64) * mm) * mm) * mm))])) _
            refine XS.lload X64.here hx rfl (hb hby at_209) rfl ?_
            show Steps p.tables e below (T64.setTop (mkF m 211 #[.val (.int z0), .val (.int z1), .val (.int z2), .val (.int z3), .val (.int z4), .val (.int z5), .val (.int nv), .val (.long mm), .second, .val (.double d7), .second, .val (.ref b52), .val (.long ((64 : Int64) * mm)), .second, .val (.long ((((16 : Int64) * mm) * mm) - (512 : Int64))), .second, .unset, .unset, .unset, .unset, .unset, .unset, .unset, .unset] [(.long mm), (.long (192 : Int64)), (.long ((((4 : Int64) * mm) * mm) * mm))])) _
            refine XS.lmul X64.here hx rfl (hb hby at_211) rfl ?_
            show Steps p.tables e below (T64.setTop (mkF m 212 #[.val (.int z0), .val (.int z1), .val (.int z2), .val (.int z3), .val (.int z4), .val (.int z5), .val (.int nv), .val (.long mm), .second, .val (.double d7), .second, .val (.ref b52), .val (.long ((64 : Int64) * mm)), .second, .val (.long ((((16 : Int64) * mm) * mm) - (512 : Int64))), .second, .unset, .unset, .unset, .unset, .unset, .unset, .unset, .unset] [(.long ((192 : Int64) * mm)), (.long ((((4 : Int64) * mm) * mm) * mm))])) _
            refine XS.lsub X64.here hx rfl (hb hby at_212) rfl ?_
            show Steps p.tables e below (T64.setTop (mkF m 213 #[.val (.int z0), .val (.int z1), .val (.int z2), .val (.int z3), .val (.int z4), .val (.int z5), .val (.int nv), .val (.long mm), .second, .val (.double d7), .second, .val (.ref b52), .val (.long ((64 : Int64) * mm)), .second, .val (.long ((((16 : Int64) * mm) * mm) - (512 : Int64))), .second, .unset, .unset, .unset, .unset, .unset, .unset, .unset, .unset] [(.long (((((4 : Int64) * mm) * mm) * mm) - ((192 : Int64) * mm)))])) _
            refine XS.lstore X64.here hx rfl (hb hby at_213) rfl (l' := #[.val (.int z0), .val (.int z1), .val (.int z2), .val (.int z3), .val (.int z4), .val (.int z5), .val (.int nv), .val (.long mm), .second, .val (.double d7), .second, .val (.ref b52), .val (.long ((64 : Int64) * mm)), .second, .val (.long ((((16 : Int64) * mm) * mm) - (512 : Int64))), .second, .val (.long (((((4 : Int64) * mm) * mm) * mm) - ((192 : Int64) * mm))), .second, .unset, .unset, .unset, .unset, .unset, .unset]) rfl ?_
            show Steps p.tables e below (T64.setTop (mkF m 215 #[.val (.int z0), .val (.int z1), .val (.int z2), .val (.int z3), .val (.int z4), .val (.int z5), .val (.int nv), .val (.long mm), .second, .val (.double d7), .second, .val (.ref b52), .val (.long ((64 : Int64) * mm)), .second, .val (.long ((((16 : Int64) * mm) * mm) - (512 : Int64))), .second, .val (.long (((((4 : Int64) * mm) * mm) * mm) - ((192 : Int64) * mm))), .second, .unset, .unset, .unset, .unset, .unset, .unset] [])) _
            refine XS.lload X64.here hx rfl (hb hby at_215) rfl ?_
            show Steps p.tables e below (T64.setTop (mkF m 217 #[.val (.int z0), .val (.int z1), .val (.int z2), .val (.int z3), .val (.int z4), .val (.int z5), .val (.int nv), .val (.long mm), .second, .val (.double d7), .second, .val (.ref b52), .val (.long ((64 : Int64) * mm)), .second, .val (.long ((((16 : Int64) * mm) * mm) - (512 : Int64))), .second, .val (.long (((((4 : Int64) * mm) * mm) * mm) - ((192 : Int64) * mm))), .second, .unset, .unset, .unset, .unset, .unset, .unset] [(.long mm)])) _
            refine XS.lload X64.here hx rfl (hb hby at_217) rfl ?_
            show Steps p.tables e below (T64.setTop (mkF m 219 #[.val (.int z0), .val (.int z1), .val (.int z2), .val (.int z3), .val (.int z4), .val (.int z5), .val (.int nv), .val (.long mm), .second, .val (.double d7), .second, .val (.ref b52), .val (.long ((64 : Int64) * mm)), .second, .val (.long ((((16 : Int64) * mm) * mm) - (512 : Int64))), .second, .val (.long (((((4 : Int64) * mm) * mm) * mm) - ((192 : Int64) * mm))), .second, .unset, .unset, .unset, .unset, .unset, .unset] [(.long mm), (.long mm)])) _
            refine XS.lmul X64.here hx rfl (hb hby at_219) rfl ?_
            show Steps p.tables e below (T64.setTop (mkF m 220 #[.val (.int z0), .val (.int z1), .val (.int z2), .val (.int z3), .val (.int z4), .val (.int z5), .val (.int nv), .val (.long mm), .second, .val (.double d7), .second, .val (.ref b52), .val (.long ((64 : Int64) * mm)), .second, .val (.long ((((16 : Int64) * mm) * mm) - (512 : Int64))), .second, .val (.long (((((4 : Int64) * mm) * mm) * mm) - ((192 : Int64) * mm))), .second, .unset, .unset, .unset, .unset, .unset, .unset] [(.long (mm * mm))])) _
            refine XS.lload X64.here hx rfl (hb hby at_220) rfl ?_
            show Steps p.tables e below (T64.setTop (mkF m 222 #[.val (.int z0), .val (.int z1), .val (.int z2), .val (.int z3), .val (.int z4), .val (.int z5), .val (.int nv), .val (.long mm), .second, .val (.double d7), .second, .val (.ref b52), .val (.long ((64 : Int64) * mm)), .second, .val (.long ((((16 : Int64) * mm) * mm) - (512 : Int64))), .second, .val (.long (((((4 : Int64) * mm) * mm) * mm) - ((192 : Int64) * mm))), .second, .unset, .unset, .unset, .unset, .unset, .unset] [(.long mm), (.long (mm * mm))])) _
            refine XS.lmul X64.here hx rfl (hb hby at_222) rfl ?_
            show Steps p.tables e below (T64.setTop (mkF m 223 #[.val (.int z0), .val (.int z1), .val (.int z2), .val (.int z3), .val (.int z4), .val (.int z5), .val (.int nv), .val (.long mm), .second, .val (.double d7), .second, .val (.ref b52), .val (.long ((64 : Int64) * mm)), .second, .val (.long ((((16 : Int64) * mm) * mm) - (512 : Int64))), .second, .val (.long (((((4 : Int64) * mm) * mm) * mm) - ((192 : Int64) * mm))), .second, .unset, .unset, .unset, .unset, .unset, .unset] [(.long ((mm * mm) * mm))])) _
            refine XS.lload X64.here hx rfl (hb hby at_223) rfl ?_
            show Steps p.tables e below (T64.setTop (mkF m 225 #[.val (.int z0), .val (.int z1), .val (.int z2), .val (.int z3), .val (.int z4), .val (.int z5), .val (.int nv), .val (.long mm), .second, .val (.double d7), .second, .val (.ref b52), .val (.long ((64 : Int64) * mm)), .second, .val (.long ((((16 : Int64) * mm) * mm) - (512 : Int64))), .second, .val (.long (((((4 : Int64) * mm) * mm) * mm) - ((192 : Int64) * mm))), .second, .unset, .unset, .unset, .unset, .unset, .unset] [(.long mm), (.long ((mm * mm) * mm))])) _
            refine XS.lmul X64.here hx rfl (hb hby at_225) rfl ?_
            show Steps p.tables e below (T64.setTop (mkF m 226 #[.val (.int z0), .val (.int z1), .val (.int z2), .val (.int z3), .val (.int z4), .val (.int z5), .val (.int nv), .val (.long mm), .second, .val (.double d7), .second, .val (.ref b52), .val (.long ((64 : Int64) * mm)), .second, .val (.long ((((16 : Int64) * mm) * mm) - (512 : Int64))), .second, .val (.long (((((4 : Int64) * mm) * mm) * mm) - ((192 : Int64) * mm))), .second, .unset, .unset, .unset, .unset, .unset, .unset] [(.long (((mm * mm) * mm) * mm))])) _
            refine X64.ldc2Long hx hown (mvT hZ (hw _ (List.mem_of_getElem? (i := 3) rfl))) (g := (mkF m 226 #[.val (.int z0), .val (.int z1), .val (.int z2), .val (.int z3), .val (.int z4), .val (.int z5), .val (.int nv), .val (.long mm), .second, .val (.double d7), .second, .val (.ref b52), .val (.long ((64 : Int64) * mm)), .second, .val (.long ((((16 : Int64) * mm) * mm) - (512 : Int64))), .second, .val (.long (((((4 : Int64) * mm) * mm) * mm) - ((192 : Int64) * mm))), .second, .unset, .unset, .unset, .unset, .unset, .unset] [(.long (((mm * mm) * mm) * mm))])) rfl (hb hby at_226) _ ?_
            show Steps p.tables e below (T64.setTop (mkF m 229 #[.val (.int z0), .val (.int z1), .val (.int z2), .val (.int z3), .val (.int z4), .val (.int z5), .val (.int nv), .val (.long mm), .second, .val (.double d7), .second, .val (.ref b52), .val (.long ((64 : Int64) * mm)), .second, .val (.long ((((16 : Int64) * mm) * mm) - (512 : Int64))), .second, .val (.long (((((4 : Int64) * mm) * mm) * mm) - ((192 : Int64) * mm))), .second, .unset, .unset, .unset, .unset, .unset, .unset] [(.long (64 : Int64)), (.long (((mm * mm) * mm) * mm))])) _
            refine XS.lload X64.here hx rfl (hb hby at_229) rfl ?_
            show Steps p.tables e below (T64.setTop (mkF m 231 #[.val (.int z0), .val (.int z1), .val (.int z2), .val (.int z3), .val (.int z4), .val (.int z5), .val (.int nv), .val (.long mm), .second, .val (.double d7), .second, .val (.ref b52), .val (.long ((64 : Int64) * mm)), .second, .val (.long ((((16 : Int64) * mm) * mm) - (512 : Int64))), .second, .val (.long (((((4 : Int64) * mm) * mm) * mm) - ((192 : Int64) * mm))), .second, .unset, .unset, .unset, .unset, .unset, .unset] [(.long mm), (.long (64 : Int64)), (.long (((mm * mm) * mm) * mm))])) _
            refine XS.lmul X64.here hx rfl (hb hby at_231) rfl ?_
            show Steps p.tables e below (T64.setTop (mkF m 232 #[.val (.int z0), .val (.int z1), .val (.int z2), .val (.int z3), .val (.int z4), .val (.int z5), .val (.int nv), .val (.long mm), .second, .val (.double d7), .second, .val (.ref b52), .val (.long ((64 : Int64) * mm)), .second, .val (.long ((((16 : Int64) * mm) * mm) - (512 : Int64))), .second, .val (.long (((((4 : Int64) * mm) * mm) * mm) - ((192 : Int64) * mm))), .second, .unset, .unset, .unset, .unset, .unset, .unset] [(.long ((64 : Int64) * mm)), (.long (((mm * mm) * mm) * mm))])) _
            refine XS.lload X64.here hx rfl (hb hby at_232) rfl ?_
            show Steps p.tables e below (T64.setTop (mkF m 234 #[.val (.int z0), .val (.int z1), .val (.int z2), .val (.int z3), .val (.int z4), .val (.int z5), .val (.int nv), .val (.long mm), .second, .val (.double d7), .second, .val (.ref b52), .val (.long ((64 : Int64) * mm)), .second, .val (.long ((((16 : Int64) * mm) * mm) - (512 : Int64))), .second, .val (.long (((((4 : Int64) * mm) * mm) * mm) - ((192 : Int64) * mm))), .second, .unset, .unset, .unset, .unset, .unset, .unset] [(.long mm), (.long ((64 : Int64) * mm)), (.long (((mm * mm) * mm) * mm))])) _
            refine XS.lmul X64.here hx rfl (hb hby at_234) rfl ?_
            show Steps p.tables e below (T64.setTop (mkF m 235 #[.val (.int z0), .val (.int z1), .val (.int z2), .val (.int z3), .val (.int z4), .val (.int z5), .val (.int nv), .val (.long mm), .second, .val (.double d7), .second, .val (.ref b52), .val (.long ((64 : Int64) * mm)), .second, .val (.long ((((16 : Int64) * mm) * mm) - (512 : Int64))), .second, .val (.long (((((4 : Int64) * mm) * mm) * mm) - ((192 : Int64) * mm))), .second, .unset, .unset, .unset, .unset, .unset, .unset] [(.long (((64 : Int64) * mm) * mm)), (.long (((mm * mm) * mm) * mm))])) _
            refine XS.lsub X64.here hx rfl (hb hby at_235) rfl ?_
            show Steps p.tables e below (T64.setTop (mkF m 236 #[.val (.int z0), .val (.int z1), .val (.int z2), .val (.int z3), .val (.int z4), .val (.int z5), .val (.int nv), .val (.long mm), .second, .val (.double d7), .second, .val (.ref b52), .val (.long ((64 : Int64) * mm)), .second, .val (.long ((((16 : Int64) * mm) * mm) - (512 : Int64))), .second, .val (.long (((((4 : Int64) * mm) * mm) * mm) - ((192 : Int64) * mm))), .second, .unset, .unset, .unset, .unset, .unset, .unset] [(.long ((((mm * mm) * mm) * mm) - (((64 : Int64) * mm) * mm)))])) _
            refine X64.ldc2Long hx hown (mvT hZ (hw _ (List.mem_of_getElem? (i := 5) rfl))) (g := (mkF m 236 #[.val (.int z0), .val (.int z1), .val (.int z2), .val (.int z3), .val (.int z4), .val (.int z5), .val (.int nv), .val (.long mm), .second, .val (.double d7), .second, .val (.ref b52), .val (.long ((64 : Int64) * mm)), .second, .val (.long ((((16 : Int64) * mm) * mm) - (512 : Int64))), .second, .val (.long (((((4 : Int64) * mm) * mm) * mm) - ((192 : Int64) * mm))), .second, .unset, .unset, .unset, .unset, .unset, .unset] [(.long ((((mm * mm) * mm) * mm) - (((64 : Int64) * mm) * mm)))])) rfl (hb hby at_236) _ ?_
            show Steps p.tables e below (T64.setTop (mkF m 239 #[.val (.int z0), .val (.int z1), .val (.int z2), .val (.int z3), .val (.int z4), .val (.int z5), .val (.int nv), .val (.long mm), .second, .val (.double d7), .second, .val (.ref b52), .val (.long ((64 : Int64) * mm)), .second, .val (.long ((((16 : Int64) * mm) * mm) - (512 : Int64))), .second, .val (.long (((((4 : Int64) * mm) * mm) * mm) - ((192 : Int64) * mm))), .second, .unset, .unset, .unset, .unset, .unset, .unset] [(.long (512 : Int64)), (.long ((((mm * mm) * mm) * mm) - (((64 : Int64) * mm) * mm)))])) _
            refine XS.ladd X64.here hx rfl (hb hby at_239) rfl ?_
            show Steps p.tables e below (T64.setTop (mkF m 240 #[.val (.int z0), .val (.int z1), .val (.int z2), .val (.int z3), .val (.int z4), .val (.int z5), .val (.int nv), .val (.long mm), .second, .val (.double d7), .second, .val (.ref b52), .val (.long ((64 : Int64) * mm)), .second, .val (.long ((((16 : Int64) * mm) * mm) - (512 : Int64))), .second, .val (.long (((((4 : Int64) * mm) * mm) * mm) - ((192 : Int64) * mm))), .second, .unset, .unset, .unset, .unset, .unset, .unset] [(.long (((((mm * mm) * mm) * mm) - (((64 : Int64) * mm) * mm)) + (512 : Int64)))])) _
            refine XS.lstore X64.here hx rfl (hb hby at_240) rfl (l' := #[.val (.int z0), .val (.int z1), .val (.int z2), .val (.int z3), .val (.int z4), .val (.int z5), .val (.int nv), .val (.long mm), .second, .val (.double d7), .second, .val (.ref b52), .val (.long ((64 : Int64) * mm)), .second, .val (.long ((((16 : Int64) * mm) * mm) - (512 : Int64))), .second, .val (.long (((((4 : Int64) * mm) * mm) * mm) - ((192 : Int64) * mm))), .second, .val (.long (((((mm * mm) * mm) * mm) - (((64 : Int64) * mm) * mm)) + (512 : Int64))), .second, .unset, .unset, .unset, .unset]) rfl ?_
            show Steps p.tables e below (T64.setTop (mkF m 242 #[.val (.int z0), .val (.int z1), .val (.int z2), .val (.int z3), .val (.int z4), .val (.int z5), .val (.int nv), .val (.long mm), .second, .val (.double d7), .second, .val (.ref b52), .val (.long ((64 : Int64) * mm)), .second, .val (.long ((((16 : Int64) * mm) * mm) - (512 : Int64))), .second, .val (.long (((((4 : Int64) * mm) * mm) * mm) - ((192 : Int64) * mm))), .second, .val (.long (((((mm * mm) * mm) * mm) - (((64 : Int64) * mm) * mm)) + (512 : Int64))), .second, .unset, .unset, .unset, .unset] [])) _
            refine X64.ldc2Long hx hown (mvT hZ (hw _ (List.mem_of_getElem? (i := 5) rfl))) (g := (mkF m 242 #[.val (.int z0), .val (.int z1), .val (.int z2), .val (.int z3), .val (.int z4), .val (.int z5), .val (.int nv), .val (.long mm), .second, .val (.double d7), .second, .val (.ref b52), .val (.long ((64 : Int64) * mm)), .second, .val (.long ((((16 : Int64) * mm) * mm) - (512 : Int64))), .second, .val (.long (((((4 : Int64) * mm) * mm) * mm) - ((192 : Int64) * mm))), .second, .val (.long (((((mm * mm) * mm) * mm) - (((64 : Int64) * mm) * mm)) + (512 : Int64))), .second, .unset, .unset, .unset, .unset] [])) rfl (hb hby at_242) _ ?_
            show Steps p.tables e below (T64.setTop (mkF m 245 #[.val (.int z0), .val (.int z1), .val (.int z2), .val (.int z3), .val (.int z4), .val (.int z5), .val (.int nv), .val (.long mm), .second, .val (.double d7), .second, .val (.ref b52), .val (.long ((64 : Int64) * mm)), .second, .val (.long ((((16 : Int64) * mm) * mm) - (512 : Int64))), .second, .val (.long (((((4 : Int64) * mm) * mm) * mm) - ((192 : Int64) * mm))), .second, .val (.long (((((mm * mm) * mm) * mm) - (((64 : Int64) * mm) * mm)) + (512 : Int64))), .second, .unset, .unset, .unset, .unset] [(.long (512 : Int64))])) _
            refine XS.iloadN X64.here hx rfl (hb hby at_245) rfl ?_
            show Steps p.tables e below (T64.setTop (mkF m 246 #[.val (.int z0), .val (.int z1), .val (.int z2), .val (.int z3), .val (.int z4), .val (.int z5), .val (.int nv), .val (.long mm), .second, .val (.double d7), .second, .val (.ref b52), .val (.long ((64 : Int64) * mm)), .second, .val (.long ((((16 : Int64) * mm) * mm) - (512 : Int64))), .second, .val (.long (((((4 : Int64) * mm) * mm) * mm) - ((192 : Int64) * mm))), .second, .val (.long (((((mm * mm) * mm) * mm) - (((64 : Int64) * mm) * mm)) + (512 : Int64))), .second, .unset, .unset, .unset, .unset] [(.int z1), (.long (512 : Int64))])) _
            refine XS.i2l X64.here hx rfl (hb hby at_246) rfl ?_
            show Steps p.tables e below (T64.setTop (mkF m 247 #[.val (.int z0), .val (.int z1), .val (.int z2), .val (.int z3), .val (.int z4), .val (.int z5), .val (.int nv), .val (.long mm), .second, .val (.double d7), .second, .val (.ref b52), .val (.long ((64 : Int64) * mm)), .second, .val (.long ((((16 : Int64) * mm) * mm) - (512 : Int64))), .second, .val (.long (((((4 : Int64) * mm) * mm) * mm) - ((192 : Int64) * mm))), .second, .val (.long (((((mm * mm) * mm) * mm) - (((64 : Int64) * mm) * mm)) + (512 : Int64))), .second, .unset, .unset, .unset, .unset] [(.long (z1.toInt64)), (.long (512 : Int64))])) _
            refine XS.lmul X64.here hx rfl (hb hby at_247) rfl ?_
            show Steps p.tables e below (T64.setTop (mkF m 248 #[.val (.int z0), .val (.int z1), .val (.int z2), .val (.int z3), .val (.int z4), .val (.int z5), .val (.int nv), .val (.long mm), .second, .val (.double d7), .second, .val (.ref b52), .val (.long ((64 : Int64) * mm)), .second, .val (.long ((((16 : Int64) * mm) * mm) - (512 : Int64))), .second, .val (.long (((((4 : Int64) * mm) * mm) * mm) - ((192 : Int64) * mm))), .second, .val (.long (((((mm * mm) * mm) * mm) - (((64 : Int64) * mm) * mm)) + (512 : Int64))), .second, .unset, .unset, .unset, .unset] [(.long ((512 : Int64) * (z1.toInt64)))])) _
            refine XS.lstore X64.here hx rfl (hb hby at_248) rfl (l' := #[.val (.int z0), .val (.int z1), .val (.int z2), .val (.int z3), .val (.int z4), .val (.int z5), .val (.int nv), .val (.long mm), .second, .val (.double d7), .second, .val (.ref b52), .val (.long ((64 : Int64) * mm)), .second, .val (.long ((((16 : Int64) * mm) * mm) - (512 : Int64))), .second, .val (.long (((((4 : Int64) * mm) * mm) * mm) - ((192 : Int64) * mm))), .second, .val (.long (((((mm * mm) * mm) * mm) - (((64 : Int64) * mm) * mm)) + (512 : Int64))), .second, .val (.long ((512 : Int64) * (z1.toInt64))), .second, .unset, .unset]) rfl ?_
            show Steps p.tables e below (T64.setTop (mkF m 250 #[.val (.int z0), .val (.int z1), .val (.int z2), .val (.int z3), .val (.int z4), .val (.int z5), .val (.int nv), .val (.long mm), .second, .val (.double d7), .second, .val (.ref b52), .val (.long ((64 : Int64) * mm)), .second, .val (.long ((((16 : Int64) * mm) * mm) - (512 : Int64))), .second, .val (.long (((((4 : Int64) * mm) * mm) * mm) - ((192 : Int64) * mm))), .second, .val (.long (((((mm * mm) * mm) * mm) - (((64 : Int64) * mm) * mm)) + (512 : Int64))), .second, .val (.long ((512 : Int64) * (z1.toInt64))), .second, .unset, .unset] [])) _
            refine XS.iload X64.here hx rfl (hb hby at_250) rfl ?_
            show Steps p.tables e below (T64.setTop (mkF m 252 #[.val (.int z0), .val (.int z1), .val (.int z2), .val (.int z3), .val (.int z4), .val (.int z5), .val (.int nv), .val (.long mm), .second, .val (.double d7), .second, .val (.ref b52), .val (.long ((64 : Int64) * mm)), .second, .val (.long ((((16 : Int64) * mm) * mm) - (512 : Int64))), .second, .val (.long (((((4 : Int64) * mm) * mm) * mm) - ((192 : Int64) * mm))), .second, .val (.long (((((mm * mm) * mm) * mm) - (((64 : Int64) * mm) * mm)) + (512 : Int64))), .second, .val (.long ((512 : Int64) * (z1.toInt64))), .second, .unset, .unset] [(.int nv)])) _
            refine XS.iconst X64.here hx rfl (hb hby at_252) ?_
            show Steps p.tables e below (T64.setTop (mkF m 253 #[.val (.int z0), .val (.int z1), .val (.int z2), .val (.int z3), .val (.int z4), .val (.int z5), .val (.int nv), .val (.long mm), .second, .val (.double d7), .second, .val (.ref b52), .val (.long ((64 : Int64) * mm)), .second, .val (.long ((((16 : Int64) * mm) * mm) - (512 : Int64))), .second, .val (.long (((((4 : Int64) * mm) * mm) * mm) - ((192 : Int64) * mm))), .second, .val (.long (((((mm * mm) * mm) * mm) - (((64 : Int64) * mm) * mm)) + (512 : Int64))), .second, .val (.long ((512 : Int64) * (z1.toInt64))), .second, .unset, .unset] [(.int (2 : Int32)), (.int nv)])) _
            refine XS.icmpNo X64.here hx rfl (hb hby at_253) rfl (flt (by rw [hc107_51]; decide : ¬ (nv < (2 : Int32)))).1 ?_
            show Steps p.tables e below (T64.setTop (mkF m 256 #[.val (.int z0), .val (.int z1), .val (.int z2), .val (.int z3), .val (.int z4), .val (.int z5), .val (.int nv), .val (.long mm), .second, .val (.double d7), .second, .val (.ref b52), .val (.long ((64 : Int64) * mm)), .second, .val (.long ((((16 : Int64) * mm) * mm) - (512 : Int64))), .second, .val (.long (((((4 : Int64) * mm) * mm) * mm) - ((192 : Int64) * mm))), .second, .val (.long (((((mm * mm) * mm) * mm) - (((64 : Int64) * mm) * mm)) + (512 : Int64))), .second, .val (.long ((512 : Int64) * (z1.toInt64))), .second, .unset, .unset] [])) _
            refine XS.lload X64.here hx rfl (hb hby at_256) rfl ?_
            show Steps p.tables e below (T64.setTop (mkF m 258 #[.val (.int z0), .val (.int z1), .val (.int z2), .val (.int z3), .val (.int z4), .val (.int z5), .val (.int nv), .val (.long mm), .second, .val (.double d7), .second, .val (.ref b52), .val (.long ((64 : Int64) * mm)), .second, .val (.long ((((16 : Int64) * mm) * mm) - (512 : Int64))), .second, .val (.long (((((4 : Int64) * mm) * mm) * mm) - ((192 : Int64) * mm))), .second, .val (.long (((((mm * mm) * mm) * mm) - (((64 : Int64) * mm) * mm)) + (512 : Int64))), .second, .val (.long ((512 : Int64) * (z1.toInt64))), .second, .unset, .unset] [(.long ((512 : Int64) * (z1.toInt64)))])) _
            refine XS.iloadN X64.here hx rfl (hb hby at_258) rfl ?_
            show Steps p.tables e below (T64.setTop (mkF m 259 #[.val (.int z0), .val (.int z1), .val (.int z2), .val (.int z3), .val (.int z4), .val (.int z5), .val (.int nv), .val (.long mm), .second, .val (.double d7), .second, .val (.ref b52), .val (.long ((64 : Int64) * mm)), .second, .val (.long ((((16 : Int64) * mm) * mm) - (512 : Int64))), .second, .val (.long (((((4 : Int64) * mm) * mm) * mm) - ((192 : Int64) * mm))), .second, .val (.long (((((mm * mm) * mm) * mm) - (((64 : Int64) * mm) * mm)) + (512 : Int64))), .second, .val (.long ((512 : Int64) * (z1.toInt64))), .second, .unset, .unset] [(.int z2), (.long ((512 : Int64) * (z1.toInt64)))])) _
            refine XS.i2l X64.here hx rfl (hb hby at_259) rfl ?_
            show Steps p.tables e below (T64.setTop (mkF m 260 #[.val (.int z0), .val (.int z1), .val (.int z2), .val (.int z3), .val (.int z4), .val (.int z5), .val (.int nv), .val (.long mm), .second, .val (.double d7), .second, .val (.ref b52), .val (.long ((64 : Int64) * mm)), .second, .val (.long ((((16 : Int64) * mm) * mm) - (512 : Int64))), .second, .val (.long (((((4 : Int64) * mm) * mm) * mm) - ((192 : Int64) * mm))), .second, .val (.long (((((mm * mm) * mm) * mm) - (((64 : Int64) * mm) * mm)) + (512 : Int64))), .second, .val (.long ((512 : Int64) * (z1.toInt64))), .second, .unset, .unset] [(.long (z2.toInt64)), (.long ((512 : Int64) * (z1.toInt64)))])) _
            refine XS.lload X64.here hx rfl (hb hby at_260) rfl ?_
            show Steps p.tables e below (T64.setTop (mkF m 262 #[.val (.int z0), .val (.int z1), .val (.int z2), .val (.int z3), .val (.int z4), .val (.int z5), .val (.int nv), .val (.long mm), .second, .val (.double d7), .second, .val (.ref b52), .val (.long ((64 : Int64) * mm)), .second, .val (.long ((((16 : Int64) * mm) * mm) - (512 : Int64))), .second, .val (.long (((((4 : Int64) * mm) * mm) * mm) - ((192 : Int64) * mm))), .second, .val (.long (((((mm * mm) * mm) * mm) - (((64 : Int64) * mm) * mm)) + (512 : Int64))), .second, .val (.long ((512 : Int64) * (z1.toInt64))), .second, .unset, .unset] [(.long ((64 : Int64) * mm)), (.long (z2.toInt64)), (.long ((512 : Int64) * (z1.toInt64)))])) _
            refine XS.lmul X64.here hx rfl (hb hby at_262) rfl ?_
            show Steps p.tables e below (T64.setTop (mkF m 263 #[.val (.int z0), .val (.int z1), .val (.int z2), .val (.int z3), .val (.int z4), .val (.int z5), .val (.int nv), .val (.long mm), .second, .val (.double d7), .second, .val (.ref b52), .val (.long ((64 : Int64) * mm)), .second, .val (.long ((((16 : Int64) * mm) * mm) - (512 : Int64))), .second, .val (.long (((((4 : Int64) * mm) * mm) * mm) - ((192 : Int64) * mm))), .second, .val (.long (((((mm * mm) * mm) * mm) - (((64 : Int64) * mm) * mm)) + (512 : Int64))), .second, .val (.long ((512 : Int64) * (z1.toInt64))), .second, .unset, .unset] [(.long ((z2.toInt64) * ((64 : Int64) * mm))), (.long ((512 : Int64) * (z1.toInt64)))])) _
            refine XS.ladd X64.here hx rfl (hb hby at_263) rfl ?_
            show Steps p.tables e below (T64.setTop (mkF m 264 #[.val (.int z0), .val (.int z1), .val (.int z2), .val (.int z3), .val (.int z4), .val (.int z5), .val (.int nv), .val (.long mm), .second, .val (.double d7), .second, .val (.ref b52), .val (.long ((64 : Int64) * mm)), .second, .val (.long ((((16 : Int64) * mm) * mm) - (512 : Int64))), .second, .val (.long (((((4 : Int64) * mm) * mm) * mm) - ((192 : Int64) * mm))), .second, .val (.long (((((mm * mm) * mm) * mm) - (((64 : Int64) * mm) * mm)) + (512 : Int64))), .second, .val (.long ((512 : Int64) * (z1.toInt64))), .second, .unset, .unset] [(.long (((512 : Int64) * (z1.toInt64)) + ((z2.toInt64) * ((64 : Int64) * mm))))])) _
            refine XS.lstore X64.here hx rfl (hb hby at_264) rfl (l' := #[.val (.int z0), .val (.int z1), .val (.int z2), .val (.int z3), .val (.int z4), .val (.int z5), .val (.int nv), .val (.long mm), .second, .val (.double d7), .second, .val (.ref b52), .val (.long ((64 : Int64) * mm)), .second, .val (.long ((((16 : Int64) * mm) * mm) - (512 : Int64))), .second, .val (.long (((((4 : Int64) * mm) * mm) * mm) - ((192 : Int64) * mm))), .second, .val (.long (((((mm * mm) * mm) * mm) - (((64 : Int64) * mm) * mm)) + (512 : Int64))), .second, .val (.long (((512 : Int64) * (z1.toInt64)) + ((z2.toInt64) * ((64 : Int64) * mm)))), .second, .unset, .unset]) rfl ?_
            show Steps p.tables e below (T64.setTop (mkF m 266 #[.val (.int z0), .val (.int z1), .val (.int z2), .val (.int z3), .val (.int z4), .val (.int z5), .val (.int nv), .val (.long mm), .second, .val (.double d7), .second, .val (.ref b52), .val (.long ((64 : Int64) * mm)), .second, .val (.long ((((16 : Int64) * mm) * mm) - (512 : Int64))), .second, .val (.long (((((4 : Int64) * mm) * mm) * mm) - ((192 : Int64) * mm))), .second, .val (.long (((((mm * mm) * mm) * mm) - (((64 : Int64) * mm) * mm)) + (512 : Int64))), .second, .val (.long (((512 : Int64) * (z1.toInt64)) + ((z2.toInt64) * ((64 : Int64) * mm)))), .second, .unset, .unset] [])) _
            refine XS.iload X64.here hx rfl (hb hby at_266) rfl ?_
            show Steps p.tables e below (T64.setTop (mkF m 268 #[.val (.int z0), .val (.int z1), .val (.int z2), .val (.int z3), .val (.int z4), .val (.int z5), .val (.int nv), .val (.long mm), .second, .val (.double d7), .second, .val (.ref b52), .val (.long ((64 : Int64) * mm)), .second, .val (.long ((((16 : Int64) * mm) * mm) - (512 : Int64))), .second, .val (.long (((((4 : Int64) * mm) * mm) * mm) - ((192 : Int64) * mm))), .second, .val (.long (((((mm * mm) * mm) * mm) - (((64 : Int64) * mm) * mm)) + (512 : Int64))), .second, .val (.long (((512 : Int64) * (z1.toInt64)) + ((z2.toInt64) * ((64 : Int64) * mm)))), .second, .unset, .unset] [(.int nv)])) _
            refine XS.iconst X64.here hx rfl (hb hby at_268) ?_
            show Steps p.tables e below (T64.setTop (mkF m 269 #[.val (.int z0), .val (.int z1), .val (.int z2), .val (.int z3), .val (.int z4), .val (.int z5), .val (.int nv), .val (.long mm), .second, .val (.double d7), .second, .val (.ref b52), .val (.long ((64 : Int64) * mm)), .second, .val (.long ((((16 : Int64) * mm) * mm) - (512 : Int64))), .second, .val (.long (((((4 : Int64) * mm) * mm) * mm) - ((192 : Int64) * mm))), .second, .val (.long (((((mm * mm) * mm) * mm) - (((64 : Int64) * mm) * mm)) + (512 : Int64))), .second, .val (.long (((512 : Int64) * (z1.toInt64)) + ((z2.toInt64) * ((64 : Int64) * mm)))), .second, .unset, .unset] [(.int (3 : Int32)), (.int nv)])) _
            refine XS.icmpNo X64.here hx rfl (hb hby at_269) rfl (flt (by rw [hc107_51]; decide : ¬ (nv < (3 : Int32)))).1 ?_
            show Steps p.tables e below (T64.setTop (mkF m 272 #[.val (.int z0), .val (.int z1), .val (.int z2), .val (.int z3), .val (.int z4), .val (.int z5), .val (.int nv), .val (.long mm), .second, .val (.double d7), .second, .val (.ref b52), .val (.long ((64 : Int64) * mm)), .second, .val (.long ((((16 : Int64) * mm) * mm) - (512 : Int64))), .second, .val (.long (((((4 : Int64) * mm) * mm) * mm) - ((192 : Int64) * mm))), .second, .val (.long (((((mm * mm) * mm) * mm) - (((64 : Int64) * mm) * mm)) + (512 : Int64))), .second, .val (.long (((512 : Int64) * (z1.toInt64)) + ((z2.toInt64) * ((64 : Int64) * mm)))), .second, .unset, .unset] [])) _
            refine XS.lload X64.here hx rfl (hb hby at_272) rfl ?_
            show Steps p.tables e below (T64.setTop (mkF m 274 #[.val (.int z0), .val (.int z1), .val (.int z2), .val (.int z3), .val (.int z4), .val (.int z5), .val (.int nv), .val (.long mm), .second, .val (.double d7), .second, .val (.ref b52), .val (.long ((64 : Int64) * mm)), .second, .val (.long ((((16 : Int64) * mm) * mm) - (512 : Int64))), .second, .val (.long (((((4 : Int64) * mm) * mm) * mm) - ((192 : Int64) * mm))), .second, .val (.long (((((mm * mm) * mm) * mm) - (((64 : Int64) * mm) * mm)) + (512 : Int64))), .second, .val (.long (((512 : Int64) * (z1.toInt64)) + ((z2.toInt64) * ((64 : Int64) * mm)))), .second, .unset, .unset] [(.long (((512 : Int64) * (z1.toInt64)) + ((z2.toInt64) * ((64 : Int64) * mm))))])) _
            refine XS.iloadN X64.here hx rfl (hb hby at_274) rfl ?_
            show Steps p.tables e below (T64.setTop (mkF m 275 #[.val (.int z0), .val (.int z1), .val (.int z2), .val (.int z3), .val (.int z4), .val (.int z5), .val (.int nv), .val (.long mm), .second, .val (.double d7), .second, .val (.ref b52), .val (.long ((64 : Int64) * mm)), .second, .val (.long ((((16 : Int64) * mm) * mm) - (512 : Int64))), .second, .val (.long (((((4 : Int64) * mm) * mm) * mm) - ((192 : Int64) * mm))), .second, .val (.long (((((mm * mm) * mm) * mm) - (((64 : Int64) * mm) * mm)) + (512 : Int64))), .second, .val (.long (((512 : Int64) * (z1.toInt64)) + ((z2.toInt64) * ((64 : Int64) * mm)))), .second, .unset, .unset] [(.int z3), (.long (((512 : Int64) * (z1.toInt64)) + ((z2.toInt64) * ((64 : Int64) * mm))))])) _
            refine XS.i2l X64.here hx rfl (hb hby at_275) rfl ?_
            show Steps p.tables e below (T64.setTop (mkF m 276 #[.val (.int z0), .val (.int z1), .val (.int z2), .val (.int z3), .val (.int z4), .val (.int z5), .val (.int nv), .val (.long mm), .second, .val (.double d7), .second, .val (.ref b52), .val (.long ((64 : Int64) * mm)), .second, .val (.long ((((16 : Int64) * mm) * mm) - (512 : Int64))), .second, .val (.long (((((4 : Int64) * mm) * mm) * mm) - ((192 : Int64) * mm))), .second, .val (.long (((((mm * mm) * mm) * mm) - (((64 : Int64) * mm) * mm)) + (512 : Int64))), .second, .val (.long (((512 : Int64) * (z1.toInt64)) + ((z2.toInt64) * ((64 : Int64) * mm)))), .second, .unset, .unset] [(.long (z3.toInt64)), (.long (((512 : Int64) * (z1.toInt64)) + ((z2.toInt64) * ((64 : Int64) * mm))))])) _
            refine XS.lload X64.here hx rfl (hb hby at_276) rfl ?_
            show Steps p.tables e below (T64.setTop (mkF m 278 #[.val (.int z0), .val (.int z1), .val (.int z2), .val (.int z3), .val (.int z4), .val (.int z5), .val (.int nv), .val (.long mm), .second, .val (.double d7), .second, .val (.ref b52), .val (.long ((64 : Int64) * mm)), .second, .val (.long ((((16 : Int64) * mm) * mm) - (512 : Int64))), .second, .val (.long (((((4 : Int64) * mm) * mm) * mm) - ((192 : Int64) * mm))), .second, .val (.long (((((mm * mm) * mm) * mm) - (((64 : Int64) * mm) * mm)) + (512 : Int64))), .second, .val (.long (((512 : Int64) * (z1.toInt64)) + ((z2.toInt64) * ((64 : Int64) * mm)))), .second, .unset, .unset] [(.long ((((16 : Int64) * mm) * mm) - (512 : Int64))), (.long (z3.toInt64)), (.long (((512 : Int64) * (z1.toInt64)) + ((z2.toInt64) * ((64 : Int64) * mm))))])) _
            refine XS.lmul X64.here hx rfl (hb hby at_278) rfl ?_
            show Steps p.tables e below (T64.setTop (mkF m 279 #[.val (.int z0), .val (.int z1), .val (.int z2), .val (.int z3), .val (.int z4), .val (.int z5), .val (.int nv), .val (.long mm), .second, .val (.double d7), .second, .val (.ref b52), .val (.long ((64 : Int64) * mm)), .second, .val (.long ((((16 : Int64) * mm) * mm) - (512 : Int64))), .second, .val (.long (((((4 : Int64) * mm) * mm) * mm) - ((192 : Int64) * mm))), .second, .val (.long (((((mm * mm) * mm) * mm) - (((64 : Int64) * mm) * mm)) + (512 : Int64))), .second, .val (.long (((512 : Int64) * (z1.toInt64)) + ((z2.toInt64) * ((64 : Int64) * mm)))), .second, .unset, .unset] [(.long ((z3.toInt64) * ((((16 : Int64) * mm) * mm) - (512 : Int64)))), (.long (((512 : Int64) * (z1.toInt64)) + ((z2.toInt64) * ((64 : Int64) * mm))))])) _
            refine XS.ladd X64.here hx rfl (hb hby at_279) rfl ?_
            show Steps p.tables e below (T64.setTop (mkF m 280 #[.val (.int z0), .val (.int z1), .val (.int z2), .val (.int z3), .val (.int z4), .val (.int z5), .val (.int nv), .val (.long mm), .second, .val (.double d7), .second, .val (.ref b52), .val (.long ((64 : Int64) * mm)), .second, .val (.long ((((16 : Int64) * mm) * mm) - (512 : Int64))), .second, .val (.long (((((4 : Int64) * mm) * mm) * mm) - ((192 : Int64) * mm))), .second, .val (.long (((((mm * mm) * mm) * mm) - (((64 : Int64) * mm) * mm)) + (512 : Int64))), .second, .val (.long (((512 : Int64) * (z1.toInt64)) + ((z2.toInt64) * ((64 : Int64) * mm)))), .second, .unset, .unset] [(.long ((((512 : Int64) * (z1.toInt64)) + ((z2.toInt64) * ((64 : Int64) * mm))) + ((z3.toInt64) * ((((16 : Int64) * mm) * mm) - (512 : Int64)))))])) _
            refine XS.lstore X64.here hx rfl (hb hby at_280) rfl (l' := #[.val (.int z0), .val (.int z1), .val (.int z2), .val (.int z3), .val (.int z4), .val (.int z5), .val (.int nv), .val (.long mm), .second, .val (.double d7), .second, .val (.ref b52), .val (.long ((64 : Int64) * mm)), .second, .val (.long ((((16 : Int64) * mm) * mm) - (512 : Int64))), .second, .val (.long (((((4 : Int64) * mm) * mm) * mm) - ((192 : Int64) * mm))), .second, .val (.long (((((mm * mm) * mm) * mm) - (((64 : Int64) * mm) * mm)) + (512 : Int64))), .second, .val (.long ((((512 : Int64) * (z1.toInt64)) + ((z2.toInt64) * ((64 : Int64) * mm))) + ((z3.toInt64) * ((((16 : Int64) * mm) * mm) - (512 : Int64))))), .second, .unset, .unset]) rfl ?_
            show Steps p.tables e below (T64.setTop (mkF m 282 #[.val (.int z0), .val (.int z1), .val (.int z2), .val (.int z3), .val (.int z4), .val (.int z5), .val (.int nv), .val (.long mm), .second, .val (.double d7), .second, .val (.ref b52), .val (.long ((64 : Int64) * mm)), .second, .val (.long ((((16 : Int64) * mm) * mm) - (512 : Int64))), .second, .val (.long (((((4 : Int64) * mm) * mm) * mm) - ((192 : Int64) * mm))), .second, .val (.long (((((mm * mm) * mm) * mm) - (((64 : Int64) * mm) * mm)) + (512 : Int64))), .second, .val (.long ((((512 : Int64) * (z1.toInt64)) + ((z2.toInt64) * ((64 : Int64) * mm))) + ((z3.toInt64) * ((((16 : Int64) * mm) * mm) - (512 : Int64))))), .second, .unset, .unset] [])) _
            refine XS.iload X64.here hx rfl (hb hby at_282) rfl ?_
            show Steps p.tables e below (T64.setTop (mkF m 284 #[.val (.int z0), .val (.int z1), .val (.int z2), .val (.int z3), .val (.int z4), .val (.int z5), .val (.int nv), .val (.long mm), .second, .val (.double d7), .second, .val (.ref b52), .val (.long ((64 : Int64) * mm)), .second, .val (.long ((((16 : Int64) * mm) * mm) - (512 : Int64))), .second, .val (.long (((((4 : Int64) * mm) * mm) * mm) - ((192 : Int64) * mm))), .second, .val (.long (((((mm * mm) * mm) * mm) - (((64 : Int64) * mm) * mm)) + (512 : Int64))), .second, .val (.long ((((512 : Int64) * (z1.toInt64)) + ((z2.toInt64) * ((64 : Int64) * mm))) + ((z3.toInt64) * ((((16 : Int64) * mm) * mm) - (512 : Int64))))), .second, .unset, .unset] [(.int nv)])) _
            refine XS.iconst X64.here hx rfl (hb hby at_284) ?_
            show Steps p.tables e below (T64.setTop (mkF m 285 #[.val (.int z0), .val (.int z1), .val (.int z2), .val (.int z3), .val (.int z4), .val (.int z5), .val (.int nv), .val (.long mm), .second, .val (.double d7), .second, .val (.ref b52), .val (.long ((64 : Int64) * mm)), .second, .val (.long ((((16 : Int64) * mm) * mm) - (512 : Int64))), .second, .val (.long (((((4 : Int64) * mm) * mm) * mm) - ((192 : Int64) * mm))), .second, .val (.long (((((mm * mm) * mm) * mm) - (((64 : Int64) * mm) * mm)) + (512 : Int64))), .second, .val (.long ((((512 : Int64) * (z1.toInt64)) + ((z2.toInt64) * ((64 : Int64) * mm))) + ((z3.toInt64) * ((((16 : Int64) * mm) * mm) - (512 : Int64))))), .second, .unset, .unset] [(.int (4 : Int32)), (.int nv)])) _
            refine XS.icmpNo X64.here hx rfl (hb hby at_285) rfl (flt (by rw [hc107_51]; decide : ¬ (nv < (4 : Int32)))).1 ?_
            show Steps p.tables e below (T64.setTop (mkF m 288 #[.val (.int z0), .val (.int z1), .val (.int z2), .val (.int z3), .val (.int z4), .val (.int z5), .val (.int nv), .val (.long mm), .second, .val (.double d7), .second, .val (.ref b52), .val (.long ((64 : Int64) * mm)), .second, .val (.long ((((16 : Int64) * mm) * mm) - (512 : Int64))), .second, .val (.long (((((4 : Int64) * mm) * mm) * mm) - ((192 : Int64) * mm))), .second, .val (.long (((((mm * mm) * mm) * mm) - (((64 : Int64) * mm) * mm)) + (512 : Int64))), .second, .val (.long ((((512 : Int64) * (z1.toInt64)) + ((z2.toInt64) * ((64 : Int64) * mm))) + ((z3.toInt64) * ((((16 : Int64) * mm) * mm) - (512 : Int64))))), .second, .unset, .unset] [])) _
            refine XS.lload X64.here hx rfl (hb hby at_288) rfl ?_
            show Steps p.tables e below (T64.setTop (mkF m 290 #[.val (.int z0), .val (.int z1), .val (.int z2), .val (.int z3), .val (.int z4), .val (.int z5), .val (.int nv), .val (.long mm), .second, .val (.double d7), .second, .val (.ref b52), .val (.long ((64 : Int64) * mm)), .second, .val (.long ((((16 : Int64) * mm) * mm) - (512 : Int64))), .second, .val (.long (((((4 : Int64) * mm) * mm) * mm) - ((192 : Int64) * mm))), .second, .val (.long (((((mm * mm) * mm) * mm) - (((64 : Int64) * mm) * mm)) + (512 : Int64))), .second, .val (.long ((((512 : Int64) * (z1.toInt64)) + ((z2.toInt64) * ((64 : Int64) * mm))) + ((z3.toInt64) * ((((16 : Int64) * mm) * mm) - (512 : Int64))))), .second, .unset, .unset] [(.long ((((512 : Int64) * (z1.toInt64)) + ((z2.toInt64) * ((64 : Int64) * mm))) + ((z3.toInt64) * ((((16 : Int64) * mm) * mm) - (512 : Int64)))))])) _
            refine XS.iload X64.here hx rfl (hb hby at_290) rfl ?_
            show Steps p.tables e below (T64.setTop (mkF m 292 #[.val (.int z0), .val (.int z1), .val (.int z2), .val (.int z3), .val (.int z4), .val (.int z5), .val (.int nv), .val (.long mm), .second, .val (.double d7), .second, .val (.ref b52), .val (.long ((64 : Int64) * mm)), .second, .val (.long ((((16 : Int64) * mm) * mm) - (512 : Int64))), .second, .val (.long (((((4 : Int64) * mm) * mm) * mm) - ((192 : Int64) * mm))), .second, .val (.long (((((mm * mm) * mm) * mm) - (((64 : Int64) * mm) * mm)) + (512 : Int64))), .second, .val (.long ((((512 : Int64) * (z1.toInt64)) + ((z2.toInt64) * ((64 : Int64) * mm))) + ((z3.toInt64) * ((((16 : Int64) * mm) * mm) - (512 : Int64))))), .second, .unset, .unset] [(.int z4), (.long ((((512 : Int64) * (z1.toInt64)) + ((z2.toInt64) * ((64 : Int64) * mm))) + ((z3.toInt64) * ((((16 : Int64) * mm) * mm) - (512 : Int64)))))])) _
            refine XS.i2l X64.here hx rfl (hb hby at_292) rfl ?_
            show Steps p.tables e below (T64.setTop (mkF m 293 #[.val (.int z0), .val (.int z1), .val (.int z2), .val (.int z3), .val (.int z4), .val (.int z5), .val (.int nv), .val (.long mm), .second, .val (.double d7), .second, .val (.ref b52), .val (.long ((64 : Int64) * mm)), .second, .val (.long ((((16 : Int64) * mm) * mm) - (512 : Int64))), .second, .val (.long (((((4 : Int64) * mm) * mm) * mm) - ((192 : Int64) * mm))), .second, .val (.long (((((mm * mm) * mm) * mm) - (((64 : Int64) * mm) * mm)) + (512 : Int64))), .second, .val (.long ((((512 : Int64) * (z1.toInt64)) + ((z2.toInt64) * ((64 : Int64) * mm))) + ((z3.toInt64) * ((((16 : Int64) * mm) * mm) - (512 : Int64))))), .second, .unset, .unset] [(.long (z4.toInt64)), (.long ((((512 : Int64) * (z1.toInt64)) + ((z2.toInt64) * ((64 : Int64) * mm))) + ((z3.toInt64) * ((((16 : Int64) * mm) * mm) - (512 : Int64)))))])) _
            refine XS.lload X64.here hx rfl (hb hby at_293) rfl ?_
            show Steps p.tables e below (T64.setTop (mkF m 295 #[.val (.int z0), .val (.int z1), .val (.int z2), .val (.int z3), .val (.int z4), .val (.int z5), .val (.int nv), .val (.long mm), .second, .val (.double d7), .second, .val (.ref b52), .val (.long ((64 : Int64) * mm)), .second, .val (.long ((((16 : Int64) * mm) * mm) - (512 : Int64))), .second, .val (.long (((((4 : Int64) * mm) * mm) * mm) - ((192 : Int64) * mm))), .second, .val (.long (((((mm * mm) * mm) * mm) - (((64 : Int64) * mm) * mm)) + (512 : Int64))), .second, .val (.long ((((512 : Int64) * (z1.toInt64)) + ((z2.toInt64) * ((64 : Int64) * mm))) + ((z3.toInt64) * ((((16 : Int64) * mm) * mm) - (512 : Int64))))), .second, .unset, .unset] [(.long (((((4 : Int64) * mm) * mm) * mm) - ((192 : Int64) * mm))), (.long (z4.toInt64)), (.long ((((512 : Int64) * (z1.toInt64)) + ((z2.toInt64) * ((64 : Int64) * mm))) + ((z3.toInt64) * ((((16 : Int64) * mm) * mm) - (512 : Int64)))))])) _
            refine XS.lmul X64.here hx rfl (hb hby at_295) rfl ?_
            show Steps p.tables e below (T64.setTop (mkF m 296 #[.val (.int z0), .val (.int z1), .val (.int z2), .val (.int z3), .val (.int z4), .val (.int z5), .val (.int nv), .val (.long mm), .second, .val (.double d7), .second, .val (.ref b52), .val (.long ((64 : Int64) * mm)), .second, .val (.long ((((16 : Int64) * mm) * mm) - (512 : Int64))), .second, .val (.long (((((4 : Int64) * mm) * mm) * mm) - ((192 : Int64) * mm))), .second, .val (.long (((((mm * mm) * mm) * mm) - (((64 : Int64) * mm) * mm)) + (512 : Int64))), .second, .val (.long ((((512 : Int64) * (z1.toInt64)) + ((z2.toInt64) * ((64 : Int64) * mm))) + ((z3.toInt64) * ((((16 : Int64) * mm) * mm) - (512 : Int64))))), .second, .unset, .unset] [(.long ((z4.toInt64) * (((((4 : Int64) * mm) * mm) * mm) - ((192 : Int64) * mm)))), (.long ((((512 : Int64) * (z1.toInt64)) + ((z2.toInt64) * ((64 : Int64) * mm))) + ((z3.toInt64) * ((((16 : Int64) * mm) * mm) - (512 : Int64)))))])) _
            refine XS.ladd X64.here hx rfl (hb hby at_296) rfl ?_
            show Steps p.tables e below (T64.setTop (mkF m 297 #[.val (.int z0), .val (.int z1), .val (.int z2), .val (.int z3), .val (.int z4), .val (.int z5), .val (.int nv), .val (.long mm), .second, .val (.double d7), .second, .val (.ref b52), .val (.long ((64 : Int64) * mm)), .second, .val (.long ((((16 : Int64) * mm) * mm) - (512 : Int64))), .second, .val (.long (((((4 : Int64) * mm) * mm) * mm) - ((192 : Int64) * mm))), .second, .val (.long (((((mm * mm) * mm) * mm) - (((64 : Int64) * mm) * mm)) + (512 : Int64))), .second, .val (.long ((((512 : Int64) * (z1.toInt64)) + ((z2.toInt64) * ((64 : Int64) * mm))) + ((z3.toInt64) * ((((16 : Int64) * mm) * mm) - (512 : Int64))))), .second, .unset, .unset] [(.long (((((512 : Int64) * (z1.toInt64)) + ((z2.toInt64) * ((64 : Int64) * mm))) + ((z3.toInt64) * ((((16 : Int64) * mm) * mm) - (512 : Int64)))) + ((z4.toInt64) * (((((4 : Int64) * mm) * mm) * mm) - ((192 : Int64) * mm)))))])) _
            refine XS.lstore X64.here hx rfl (hb hby at_297) rfl (l' := #[.val (.int z0), .val (.int z1), .val (.int z2), .val (.int z3), .val (.int z4), .val (.int z5), .val (.int nv), .val (.long mm), .second, .val (.double d7), .second, .val (.ref b52), .val (.long ((64 : Int64) * mm)), .second, .val (.long ((((16 : Int64) * mm) * mm) - (512 : Int64))), .second, .val (.long (((((4 : Int64) * mm) * mm) * mm) - ((192 : Int64) * mm))), .second, .val (.long (((((mm * mm) * mm) * mm) - (((64 : Int64) * mm) * mm)) + (512 : Int64))), .second, .val (.long (((((512 : Int64) * (z1.toInt64)) + ((z2.toInt64) * ((64 : Int64) * mm))) + ((z3.toInt64) * ((((16 : Int64) * mm) * mm) - (512 : Int64)))) + ((z4.toInt64) * (((((4 : Int64) * mm) * mm) * mm) - ((192 : Int64) * mm))))), .second, .unset, .unset]) rfl ?_
            show Steps p.tables e below (T64.setTop (mkF m 299 #[.val (.int z0), .val (.int z1), .val (.int z2), .val (.int z3), .val (.int z4), .val (.int z5), .val (.int nv), .val (.long mm), .second, .val (.double d7), .second, .val (.ref b52), .val (.long ((64 : Int64) * mm)), .second, .val (.long ((((16 : Int64) * mm) * mm) - (512 : Int64))), .second, .val (.long (((((4 : Int64) * mm) * mm) * mm) - ((192 : Int64) * mm))), .second, .val (.long (((((mm * mm) * mm) * mm) - (((64 : Int64) * mm) * mm)) + (512 : Int64))), .second, .val (.long (((((512 : Int64) * (z1.toInt64)) + ((z2.toInt64) * ((64 : Int64) * mm))) + ((z3.toInt64) * ((((16 : Int64) * mm) * mm) - (512 : Int64)))) + ((z4.toInt64) * (((((4 : Int64) * mm) * mm) * mm) - ((192 : Int64) * mm))))), .second, .unset, .unset] [])) _
            refine XS.iload X64.here hx rfl (hb hby at_299) rfl ?_
            show Steps p.tables e below (T64.setTop (mkF m 301 #[.val (.int z0), .val (.int z1), .val (.int z2), .val (.int z3), .val (.int z4), .val (.int z5), .val (.int nv), .val (.long mm), .second, .val (.double d7), .second, .val (.ref b52), .val (.long ((64 : Int64) * mm)), .second, .val (.long ((((16 : Int64) * mm) * mm) - (512 : Int64))), .second, .val (.long (((((4 : Int64) * mm) * mm) * mm) - ((192 : Int64) * mm))), .second, .val (.long (((((mm * mm) * mm) * mm) - (((64 : Int64) * mm) * mm)) + (512 : Int64))), .second, .val (.long (((((512 : Int64) * (z1.toInt64)) + ((z2.toInt64) * ((64 : Int64) * mm))) + ((z3.toInt64) * ((((16 : Int64) * mm) * mm) - (512 : Int64)))) + ((z4.toInt64) * (((((4 : Int64) * mm) * mm) * mm) - ((192 : Int64) * mm))))), .second, .unset, .unset] [(.int nv)])) _
            refine XS.iconst X64.here hx rfl (hb hby at_301) ?_
            show Steps p.tables e below (T64.setTop (mkF m 302 #[.val (.int z0), .val (.int z1), .val (.int z2), .val (.int z3), .val (.int z4), .val (.int z5), .val (.int nv), .val (.long mm), .second, .val (.double d7), .second, .val (.ref b52), .val (.long ((64 : Int64) * mm)), .second, .val (.long ((((16 : Int64) * mm) * mm) - (512 : Int64))), .second, .val (.long (((((4 : Int64) * mm) * mm) * mm) - ((192 : Int64) * mm))), .second, .val (.long (((((mm * mm) * mm) * mm) - (((64 : Int64) * mm) * mm)) + (512 : Int64))), .second, .val (.long (((((512 : Int64) * (z1.toInt64)) + ((z2.toInt64) * ((64 : Int64) * mm))) + ((z3.toInt64) * ((((16 : Int64) * mm) * mm) - (512 : Int64)))) + ((z4.toInt64) * (((((4 : Int64) * mm) * mm) * mm) - ((192 : Int64) * mm))))), .second, .unset, .unset] [(.int (5 : Int32)), (.int nv)])) _
            refine XS.icmpYes X64.here hx rfl (pc0 := 302) (pc' := 316) rfl (hb hby at_302) rfl (tlt (by rw [hc107_51]; decide : nv < (5 : Int32))).1 (by decide) (by decide) ?_
            show Steps p.tables e below (T64.setTop (mkF m 316 #[.val (.int z0), .val (.int z1), .val (.int z2), .val (.int z3), .val (.int z4), .val (.int z5), .val (.int nv), .val (.long mm), .second, .val (.double d7), .second, .val (.ref b52), .val (.long ((64 : Int64) * mm)), .second, .val (.long ((((16 : Int64) * mm) * mm) - (512 : Int64))), .second, .val (.long (((((4 : Int64) * mm) * mm) * mm) - ((192 : Int64) * mm))), .second, .val (.long (((((mm * mm) * mm) * mm) - (((64 : Int64) * mm) * mm)) + (512 : Int64))), .second, .val (.long (((((512 : Int64) * (z1.toInt64)) + ((z2.toInt64) * ((64 : Int64) * mm))) + ((z3.toInt64) * ((((16 : Int64) * mm) * mm) - (512 : Int64)))) + ((z4.toInt64) * (((((4 : Int64) * mm) * mm) * mm) - ((192 : Int64) * mm))))), .second, .unset, .unset] [])) _
            refine XS.aload X64.here hx rfl (hb hby at_316) rfl rfl ?_
            show Steps p.tables e below (T64.setTop (mkF m 318 #[.val (.int z0), .val (.int z1), .val (.int z2), .val (.int z3), .val (.int z4), .val (.int z5), .val (.int nv), .val (.long mm), .second, .val (.double d7), .second, .val (.ref b52), .val (.long ((64 : Int64) * mm)), .second, .val (.long ((((16 : Int64) * mm) * mm) - (512 : Int64))), .second, .val (.long (((((4 : Int64) * mm) * mm) * mm) - ((192 : Int64) * mm))), .second, .val (.long (((((mm * mm) * mm) * mm) - (((64 : Int64) * mm) * mm)) + (512 : Int64))), .second, .val (.long (((((512 : Int64) * (z1.toInt64)) + ((z2.toInt64) * ((64 : Int64) * mm))) + ((z3.toInt64) * ((((16 : Int64) * mm) * mm) - (512 : Int64)))) + ((z4.toInt64) * (((((4 : Int64) * mm) * mm) * mm) - ((192 : Int64) * mm))))), .second, .unset, .unset] [(.ref b52)])) _
            refine XS.dload X64.here hx rfl (hb hby at_318) rfl ?_
            show Steps p.tables e below (T64.setTop (mkF m 320 #[.val (.int z0), .val (.int z1), .val (.int z2), .val (.int z3), .val (.int z4), .val (.int z5), .val (.int nv), .val (.long mm), .second, .val (.double d7), .second, .val (.ref b52), .val (.long ((64 : Int64) * mm)), .second, .val (.long ((((16 : Int64) * mm) * mm) - (512 : Int64))), .second, .val (.long (((((4 : Int64) * mm) * mm) * mm) - ((192 : Int64) * mm))), .second, .val (.long (((((mm * mm) * mm) * mm) - (((64 : Int64) * mm) * mm)) + (512 : Int64))), .second, .val (.long (((((512 : Int64) * (z1.toInt64)) + ((z2.toInt64) * ((64 : Int64) * mm))) + ((z3.toInt64) * ((((16 : Int64) * mm) * mm) - (512 : Int64)))) + ((z4.toInt64) * (((((4 : Int64) * mm) * mm) * mm) - ((192 : Int64) * mm))))), .second, .unset, .unset] [(.double d7), (.ref b52)])) _
            refine st65 _ ?_
            show Steps p.tables e below (T65.setTop (mkF m 323 #[.val (.int z0), .val (.int z1), .val (.int z2), .val (.int z3), .val (.int z4), .val (.int z5), .val (.int nv), .val (.long mm), .second, .val (.double d7), .second, .val (.ref b52), .val (.long ((64 : Int64) * mm)), .second, .val (.long ((((16 : Int64) * mm) * mm) - (512 : Int64))), .second, .val (.long (((((4 : Int64) * mm) * mm) * mm) - ((192 : Int64) * mm))), .second, .val (.long (((((mm * mm) * mm) * mm) - (((64 : Int64) * mm) * mm)) + (512 : Int64))), .second, .val (.long (((((512 : Int64) * (z1.toInt64)) + ((z2.toInt64) * ((64 : Int64) * mm))) + ((z3.toInt64) * ((((16 : Int64) * mm) * mm) - (512 : Int64)))) + ((z4.toInt64) * (((((4 : Int64) * mm) * mm) * mm) - ((192 : Int64) * mm))))), .second, .unset, .unset] [(.double r65)])) _
            refine XS.dstore X65.here hx rfl (hb hby at_323) rfl (l' := #[.val (.int z0), .val (.int z1), .val (.int z2), .val (.int z3), .val (.int z4), .val (.int z5), .val (.int nv), .val (.long mm), .second, .val (.double d7), .second, .val (.ref b52), .val (.long ((64 : Int64) * mm)), .second, .val (.long ((((16 : Int64) * mm) * mm) - (512 : Int64))), .second, .val (.long (((((4 : Int64) * mm) * mm) * mm) - ((192 : Int64) * mm))), .second, .val (.long (((((mm * mm) * mm) * mm) - (((64 : Int64) * mm) * mm)) + (512 : Int64))), .second, .val (.long (((((512 : Int64) * (z1.toInt64)) + ((z2.toInt64) * ((64 : Int64) * mm))) + ((z3.toInt64) * ((((16 : Int64) * mm) * mm) - (512 : Int64)))) + ((z4.toInt64) * (((((4 : Int64) * mm) * mm) * mm) - ((192 : Int64) * mm))))), .second, .val (.double r65), .second]) rfl ?_
            show Steps p.tables e below (T65.setTop (mkF m 325 #[.val (.int z0), .val (.int z1), .val (.int z2), .val (.int z3), .val (.int z4), .val (.int z5), .val (.int nv), .val (.long mm), .second, .val (.double d7), .second, .val (.ref b52), .val (.long ((64 : Int64) * mm)), .second, .val (.long ((((16 : Int64) * mm) * mm) - (512 : Int64))), .second, .val (.long (((((4 : Int64) * mm) * mm) * mm) - ((192 : Int64) * mm))), .second, .val (.long (((((mm * mm) * mm) * mm) - (((64 : Int64) * mm) * mm)) + (512 : Int64))), .second, .val (.long (((((512 : Int64) * (z1.toInt64)) + ((z2.toInt64) * ((64 : Int64) * mm))) + ((z3.toInt64) * ((((16 : Int64) * mm) * mm) - (512 : Int64)))) + ((z4.toInt64) * (((((4 : Int64) * mm) * mm) * mm) - ((192 : Int64) * mm))))), .second, .val (.double r65), .second] [])) _
            refine XS.dload X65.here hx rfl (hb hby at_325) rfl ?_
            show Steps p.tables e below (T65.setTop (mkF m 327 #[.val (.int z0), .val (.int z1), .val (.int z2), .val (.int z3), .val (.int z4), .val (.int z5), .val (.int nv), .val (.long mm), .second, .val (.double d7), .second, .val (.ref b52), .val (.long ((64 : Int64) * mm)), .second, .val (.long ((((16 : Int64) * mm) * mm) - (512 : Int64))), .second, .val (.long (((((4 : Int64) * mm) * mm) * mm) - ((192 : Int64) * mm))), .second, .val (.long (((((mm * mm) * mm) * mm) - (((64 : Int64) * mm) * mm)) + (512 : Int64))), .second, .val (.long (((((512 : Int64) * (z1.toInt64)) + ((z2.toInt64) * ((64 : Int64) * mm))) + ((z3.toInt64) * ((((16 : Int64) * mm) * mm) - (512 : Int64)))) + ((z4.toInt64) * (((((4 : Int64) * mm) * mm) * mm) - ((192 : Int64) * mm))))), .second, .val (.double r65), .second] [(.double r65)])) _
            refine X65.ldc2DoubleC hx hown (mvT hZ (hw _ (List.mem_of_getElem? (i := 12) rfl))) (g := (mkF m 327 #[.val (.int z0), .val (.int z1), .val (.int z2), .val (.int z3), .val (.int z4), .val (.int z5), .val (.int nv), .val (.long mm), .second, .val (.double d7), .second, .val (.ref b52), .val (.long ((64 : Int64) * mm)), .second, .val (.long ((((16 : Int64) * mm) * mm) - (512 : Int64))), .second, .val (.long (((((4 : Int64) * mm) * mm) * mm) - ((192 : Int64) * mm))), .second, .val (.long (((((mm * mm) * mm) * mm) - (((64 : Int64) * mm) * mm)) + (512 : Int64))), .second, .val (.long (((((512 : Int64) * (z1.toInt64)) + ((z2.toInt64) * ((64 : Int64) * mm))) + ((z3.toInt64) * ((((16 : Int64) * mm) * mm) - (512 : Int64)))) + ((z4.toInt64) * (((((4 : Int64) * mm) * mm) * mm) - ((192 : Int64) * mm))))), .second, .val (.double r65), .second] [(.double r65)])) rfl (hb hby at_327) _ ?_
            show Steps p.tables e below (T65.setTop (mkF m 330 #[.val (.int z0), .val (.int z1), .val (.int z2), .val (.int z3), .val (.int z4), .val (.int z5), .val (.int nv), .val (.long mm), .second, .val (.double d7), .second, .val (.ref b52), .val (.long ((64 : Int64) * mm)), .second, .val (.long ((((16 : Int64) * mm) * mm) - (512 : Int64))), .second, .val (.long (((((4 : Int64) * mm) * mm) * mm) - ((192 : Int64) * mm))), .second, .val (.long (((((mm * mm) * mm) * mm) - (((64 : Int64) * mm) * mm)) + (512 : Int64))), .second, .val (.long (((((512 : Int64) * (z1.toInt64)) + ((z2.toInt64) * ((64 : Int64) * mm))) + ((z3.toInt64) * ((((16 : Int64) * mm) * mm) - (512 : Int64)))) + ((z4.toInt64) * (((((4 : Int64) * mm) * mm) * mm) - ((192 : Int64) * mm))))), .second, .val (.double r65), .second] [(.double (4647714815446351872 : UInt64)), (.double r65)])) _
            refine XS.dmulS X65.here hx rfl (hb hby at_330) rfl nn66 v66 ?_
            show Steps p.tables e below (T65.setTop (mkF m 331 #[.val (.int z0), .val (.int z1), .val (.int z2), .val (.int z3), .val (.int z4), .val (.int z5), .val (.int nv), .val (.long mm), .second, .val (.double d7), .second, .val (.ref b52), .val (.long ((64 : Int64) * mm)), .second, .val (.long ((((16 : Int64) * mm) * mm) - (512 : Int64))), .second, .val (.long (((((4 : Int64) * mm) * mm) * mm) - ((192 : Int64) * mm))), .second, .val (.long (((((mm * mm) * mm) * mm) - (((64 : Int64) * mm) * mm)) + (512 : Int64))), .second, .val (.long (((((512 : Int64) * (z1.toInt64)) + ((z2.toInt64) * ((64 : Int64) * mm))) + ((z3.toInt64) * ((((16 : Int64) * mm) * mm) - (512 : Int64)))) + ((z4.toInt64) * (((((4 : Int64) * mm) * mm) * mm) - ((192 : Int64) * mm))))), .second, .val (.double r65), .second] [(.double d66)])) _
            refine XS.lload X65.here hx rfl (hb hby at_331) rfl ?_
            show Steps p.tables e below (T65.setTop (mkF m 333 #[.val (.int z0), .val (.int z1), .val (.int z2), .val (.int z3), .val (.int z4), .val (.int z5), .val (.int nv), .val (.long mm), .second, .val (.double d7), .second, .val (.ref b52), .val (.long ((64 : Int64) * mm)), .second, .val (.long ((((16 : Int64) * mm) * mm) - (512 : Int64))), .second, .val (.long (((((4 : Int64) * mm) * mm) * mm) - ((192 : Int64) * mm))), .second, .val (.long (((((mm * mm) * mm) * mm) - (((64 : Int64) * mm) * mm)) + (512 : Int64))), .second, .val (.long (((((512 : Int64) * (z1.toInt64)) + ((z2.toInt64) * ((64 : Int64) * mm))) + ((z3.toInt64) * ((((16 : Int64) * mm) * mm) - (512 : Int64)))) + ((z4.toInt64) * (((((4 : Int64) * mm) * mm) * mm) - ((192 : Int64) * mm))))), .second, .val (.double r65), .second] [(.long (((((512 : Int64) * (z1.toInt64)) + ((z2.toInt64) * ((64 : Int64) * mm))) + ((z3.toInt64) * ((((16 : Int64) * mm) * mm) - (512 : Int64)))) + ((z4.toInt64) * (((((4 : Int64) * mm) * mm) * mm) - ((192 : Int64) * mm))))), (.double d66)])) _
            refine XS.l2dS X65.here hx rfl (hb hby at_333) rfl v68 ?_
            show Steps p.tables e below (T65.setTop (mkF m 334 #[.val (.int z0), .val (.int z1), .val (.int z2), .val (.int z3), .val (.int z4), .val (.int z5), .val (.int nv), .val (.long mm), .second, .val (.double d7), .second, .val (.ref b52), .val (.long ((64 : Int64) * mm)), .second, .val (.long ((((16 : Int64) * mm) * mm) - (512 : Int64))), .second, .val (.long (((((4 : Int64) * mm) * mm) * mm) - ((192 : Int64) * mm))), .second, .val (.long (((((mm * mm) * mm) * mm) - (((64 : Int64) * mm) * mm)) + (512 : Int64))), .second, .val (.long (((((512 : Int64) * (z1.toInt64)) + ((z2.toInt64) * ((64 : Int64) * mm))) + ((z3.toInt64) * ((((16 : Int64) * mm) * mm) - (512 : Int64)))) + ((z4.toInt64) * (((((4 : Int64) * mm) * mm) * mm) - ((192 : Int64) * mm))))), .second, .val (.double r65), .second] [(.double d68), (.double d66)])) _
            refine XS.dcmpS X65.here hx rfl (hb hby at_334) rfl (v := (0 : Int32)) q69 ?_
            show Steps p.tables e below (T65.setTop (mkF m 335 #[.val (.int z0), .val (.int z1), .val (.int z2), .val (.int z3), .val (.int z4), .val (.int z5), .val (.int nv), .val (.long mm), .second, .val (.double d7), .second, .val (.ref b52), .val (.long ((64 : Int64) * mm)), .second, .val (.long ((((16 : Int64) * mm) * mm) - (512 : Int64))), .second, .val (.long (((((4 : Int64) * mm) * mm) * mm) - ((192 : Int64) * mm))), .second, .val (.long (((((mm * mm) * mm) * mm) - (((64 : Int64) * mm) * mm)) + (512 : Int64))), .second, .val (.long (((((512 : Int64) * (z1.toInt64)) + ((z2.toInt64) * ((64 : Int64) * mm))) + ((z3.toInt64) * ((((16 : Int64) * mm) * mm) - (512 : Int64)))) + ((z4.toInt64) * (((((4 : Int64) * mm) * mm) * mm) - ((192 : Int64) * mm))))), .second, .val (.double r65), .second] [(.int (0 : Int32))])) _
            refine XS.ifNo X65.here hx rfl (hb hby at_335) rfl ((if0 _ _).trans (teq (by decide : (0 : Int32) = (0 : Int32))).2) ?_
            show Steps p.tables e below (T65.setTop (mkF m 338 #[.val (.int z0), .val (.int z1), .val (.int z2), .val (.int z3), .val (.int z4), .val (.int z5), .val (.int nv), .val (.long mm), .second, .val (.double d7), .second, .val (.ref b52), .val (.long ((64 : Int64) * mm)), .second, .val (.long ((((16 : Int64) * mm) * mm) - (512 : Int64))), .second, .val (.long (((((4 : Int64) * mm) * mm) * mm) - ((192 : Int64) * mm))), .second, .val (.long (((((mm * mm) * mm) * mm) - (((64 : Int64) * mm) * mm)) + (512 : Int64))), .second, .val (.long (((((512 : Int64) * (z1.toInt64)) + ((z2.toInt64) * ((64 : Int64) * mm))) + ((z3.toInt64) * ((((16 : Int64) * mm) * mm) - (512 : Int64)))) + ((z4.toInt64) * (((((4 : Int64) * mm) * mm) * mm) - ((192 : Int64) * mm))))), .second, .val (.double r65), .second] [])) _
            refine XS.iconst X65.here hx rfl (hb hby at_338) ?_
            show Steps p.tables e below (T65.setTop (mkF m 339 #[.val (.int z0), .val (.int z1), .val (.int z2), .val (.int z3), .val (.int z4), .val (.int z5), .val (.int nv), .val (.long mm), .second, .val (.double d7), .second, .val (.ref b52), .val (.long ((64 : Int64) * mm)), .second, .val (.long ((((16 : Int64) * mm) * mm) - (512 : Int64))), .second, .val (.long (((((4 : Int64) * mm) * mm) * mm) - ((192 : Int64) * mm))), .second, .val (.long (((((mm * mm) * mm) * mm) - (((64 : Int64) * mm) * mm)) + (512 : Int64))), .second, .val (.long (((((512 : Int64) * (z1.toInt64)) + ((z2.toInt64) * ((64 : Int64) * mm))) + ((z3.toInt64) * ((((16 : Int64) * mm) * mm) - (512 : Int64)))) + ((z4.toInt64) * (((((4 : Int64) * mm) * mm) * mm) - ((192 : Int64) * mm))))), .second, .val (.double r65), .second] [(.int (1 : Int32))])) _
            refine XS.goto X65.here hx rfl (pc0 := 339) (pc' := 343) rfl (hb hby at_339) (by decide) (by decide) ?_
            show Steps p.tables e below (T65.setTop (mkF m 343 #[.val (.int z0), .val (.int z1), .val (.int z2), .val (.int z3), .val (.int z4), .val (.int z5), .val (.int nv), .val (.long mm), .second, .val (.double d7), .second, .val (.ref b52), .val (.long ((64 : Int64) * mm)), .second, .val (.long ((((16 : Int64) * mm) * mm) - (512 : Int64))), .second, .val (.long (((((4 : Int64) * mm) * mm) * mm) - ((192 : Int64) * mm))), .second, .val (.long (((((mm * mm) * mm) * mm) - (((64 : Int64) * mm) * mm)) + (512 : Int64))), .second, .val (.long (((((512 : Int64) * (z1.toInt64)) + ((z2.toInt64) * ((64 : Int64) * mm))) + ((z3.toInt64) * ((((16 : Int64) * mm) * mm) - (512 : Int64)))) + ((z4.toInt64) * (((((4 : Int64) * mm) * mm) * mm) - ((192 : Int64) * mm))))), .second, .val (.double r65), .second] [(.int (1 : Int32))])) _
            exact retN X65 hx (t := .boolean) Bd.returns (by simp) (hb hby at_343) hr
          · show Q0 Z z0 z1 z2 z3 z4 z5 h0 n0 _ T65.heap _
            rw [hh65]
            exact ⟨rfl, N65⟩
        · have hn5 : nv = (5 : Int32) := own_n _ _ h_nv hc35_9 hc54_20 hc78_34 hc107_51
          obtain ⟨T70, h70, k70, X70, e70, E70, A70, st70⟩ := newP X0 hx hZ (hw _ (List.mem_of_getElem? (i := 2) rfl)) e0 (g := (mkF m 140 #[.val (.int z0), .val (.int z1), .val (.int z2), .val (.int z3), .val (.int z4), .val (.int z5), .val (.int nv), .val (.long mm), .second, .val (.double d7), .second, .unset, .unset, .unset, .unset, .unset, .unset, .unset, .unset, .unset, .unset, .unset, .unset, .unset] [(.int (5 : Int32))])) rfl (hb hby at_140) rfl (by decide) (cap := 5) (by decide) (by decide) (by decide) (by decide)
          obtain ⟨b70, g70⟩ : ∃ z, z = h0.size := ⟨_, rfl⟩
          rw [← g70] at A70 st70
          have g_b70 : n0 ≤ b70 := Nat.le_trans Z0 (Nat.le_of_eq g70.symm)
          have sz_b70 : h0.size ≤ b70 := Nat.le_trans K0.1 (Nat.le_of_eq g70.symm)
          have Zs70 : n0 ≤ h70.size := Nat.le_trans Z0 E70.1
          have K70 : Keep h0 h70 [] := K0.ext E70
          have V_b70 : own_B Z h70 b70 [0, 0, 0, 0, 0] := own_B.new A70 rfl
          have B71 : (z1.toInt : Int).natAbs ≤ 2147483648 := own_Bi z1
          obtain ⟨d71, v71⟩ : ∃ z : UInt64, FP.i2d z1 = z := ⟨_, rfl⟩
          have D71 : own_Dy 0 z1.toInt d71 := by
            rw [← v71]
            exact own_Di z1
          have nn71 : Jvm.Free.Fl.NoNaN64 (FP.i2d z1) := by
            rw [v71]
            exact Jvm.Free.Fl.val64_no.mpr (own_Dy_num D71)
          obtain ⟨cl14672, Ar14672, Sq14672⟩ := V_b70
          have S14672 : cl14672.slots.size = ((5 : Int32)).toNatClampNeg := own_B.size Sq14672 rfl
          have hin14672 : ¬ ((0 : Int32) < 0 ∨ cl14672.slots.size ≤ ((0 : Int32)).toNatClampNeg) := inb_of S14672 ⟨by decide, by decide⟩
          obtain ⟨T73, h73, X73, e73, W73, st73⟩ := stD X70 hx hZ e70 Ar14672 (j := (0 : Int32)) hin14672 (g := (mkF m 146 #[.val (.int z0), .val (.int z1), .val (.int z2), .val (.int z3), .val (.int z4), .val (.int z5), .val (.int nv), .val (.long mm), .second, .val (.double d7), .second, .unset, .unset, .unset, .unset, .unset, .unset, .unset, .unset, .unset, .unset, .unset, .unset, .unset] [(.double d71), (.int (0 : Int32)), (.ref b70), (.ref b70)])) rfl rfl (hb hby at_146)
          have Zs73 : n0 ≤ h73.size := Nat.le_trans Zs70 (Keep.of_wr W73).1
          have K73 : Keep h0 h73 [] := K70.wr W73 (Or.inr sz_b70)
          have N73 := Fr.snoc X73 N0 g_b70
          have V_b70 : own_B Z h73 b70 [d71, 0, 0, 0, 0] := own_B.set Ar14672 Sq14672 W73 rfl
          have B74 : (z2.toInt : Int).natAbs ≤ 2147483648 := own_Bi z2
          obtain ⟨d74, v74⟩ : ∃ z : UInt64, FP.i2d z2 = z := ⟨_, rfl⟩
          have D74 : own_Dy 0 z2.toInt d74 := by
            rw [← v74]
            exact own_Di z2
          have nn74 : Jvm.Free.Fl.NoNaN64 (FP.i2d z2) := by
            rw [v74]
            exact Jvm.Free.Fl.val64_no.mpr (own_Dy_num D74)
          obtain ⟨cl15175, Ar15175, Sq15175⟩ := V_b70
          have S15175 : cl15175.slots.size = ((5 : Int32)).toNatClampNeg := own_B.size Sq15175 rfl
          have hin15175 : ¬ ((1 : Int32) < 0 ∨ cl15175.slots.size ≤ ((1 : Int32)).toNatClampNeg) := inb_of S15175 ⟨by decide, by decide⟩
          obtain ⟨T76, h76, X76, e76, W76, st76⟩ := stD X73 hx hZ e73 Ar15175 (j := (1 : Int32)) hin15175 (g := (mkF m 151 #[.val (.int z0), .val (.int z1), .val (.int z2), .val (.int z3), .val (.int z4), .val (.int z5), .val (.int nv), .val (.long mm), .second, .val (.double d7), .second, .unset, .unset, .unset, .unset, .unset, .unset, .unset, .unset, .unset, .unset, .unset, .unset, .unset] [(.double d74), (.int (1 : Int32)), (.ref b70), (.ref b70)])) rfl rfl (hb hby at_151)
          have Zs76 : n0 ≤ h76.size := Nat.le_trans Zs73 (Keep.of_wr W76).1
          have K76 : Keep h0 h76 [] := K73.wr W76 (Or.inr sz_b70)
          have N76 := Fr.snoc X76 N73 g_b70
          have V_b70 : own_B Z h76 b70 [d71, d74, 0, 0, 0] := own_B.set Ar15175 Sq15175 W76 rfl
          have B77 : (z3.toInt : Int).natAbs ≤ 2147483648 := own_Bi z3
          obtain ⟨d77, v77⟩ : ∃ z : UInt64, FP.i2d z3 = z := ⟨_, rfl⟩
          have D77 : own_Dy 0 z3.toInt d77 := by
            rw [← v77]
            exact own_Di z3
          have nn77 : Jvm.Free.Fl.NoNaN64 (FP.i2d z3) := by
            rw [v77]
            exact Jvm.Free.Fl.val64_no.mpr (own_Dy_num D77)
          obtain ⟨cl15678, Ar15678, Sq15678⟩ := V_b70
          have S15678 : cl15678.slots.size = ((5 : Int32)).toNatClampNeg := own_B.size Sq15678 rfl
          have hin15678 : ¬ ((2 : Int32) < 0 ∨ cl15678.slots.size ≤ ((2 : Int32)).toNatClampNeg) := inb_of S15678 ⟨by decide, by decide⟩
          obtain ⟨T79, h79, X79, e79, W79, st79⟩ := stD X76 hx hZ e76 Ar15678 (j := (2 : Int32)) hin15678 (g := (mkF m 156 #[.val (.int z0), .val (.int z1), .val (.int z2), .val (.int z3), .val (.int z4), .val (.int z5), .val (.int nv), .val (.long mm), .second, .val (.double d7), .second, .unset, .unset, .unset, .unset, .unset, .unset, .unset, .unset, .unset, .unset, .unset, .unset, .unset] [(.double d77), (.int (2 : Int32)), (.ref b70), (.ref b70)])) rfl rfl (hb hby at_156)
          have Zs79 : n0 ≤ h79.size := Nat.le_trans Zs76 (Keep.of_wr W79).1
          have K79 : Keep h0 h79 [] := K76.wr W79 (Or.inr sz_b70)
          have N79 := Fr.snoc X79 N76 g_b70
          have V_b70 : own_B Z h79 b70 [d71, d74, d77, 0, 0] := own_B.set Ar15678 Sq15678 W79 rfl
          have B80 : (z4.toInt : Int).natAbs ≤ 2147483648 := own_Bi z4
          obtain ⟨d80, v80⟩ : ∃ z : UInt64, FP.i2d z4 = z := ⟨_, rfl⟩
          have D80 : own_Dy 0 z4.toInt d80 := by
            rw [← v80]
            exact own_Di z4
          have nn80 : Jvm.Free.Fl.NoNaN64 (FP.i2d z4) := by
            rw [v80]
            exact Jvm.Free.Fl.val64_no.mpr (own_Dy_num D80)
          obtain ⟨cl16281, Ar16281, Sq16281⟩ := V_b70
          have S16281 : cl16281.slots.size = ((5 : Int32)).toNatClampNeg := own_B.size Sq16281 rfl
          have hin16281 : ¬ ((3 : Int32) < 0 ∨ cl16281.slots.size ≤ ((3 : Int32)).toNatClampNeg) := inb_of S16281 ⟨by decide, by decide⟩
          obtain ⟨T82, h82, X82, e82, W82, st82⟩ := stD X79 hx hZ e79 Ar16281 (j := (3 : Int32)) hin16281 (g := (mkF m 162 #[.val (.int z0), .val (.int z1), .val (.int z2), .val (.int z3), .val (.int z4), .val (.int z5), .val (.int nv), .val (.long mm), .second, .val (.double d7), .second, .unset, .unset, .unset, .unset, .unset, .unset, .unset, .unset, .unset, .unset, .unset, .unset, .unset] [(.double d80), (.int (3 : Int32)), (.ref b70), (.ref b70)])) rfl rfl (hb hby at_162)
          have Zs82 : n0 ≤ h82.size := Nat.le_trans Zs79 (Keep.of_wr W82).1
          have K82 : Keep h0 h82 [] := K79.wr W82 (Or.inr sz_b70)
          have N82 := Fr.snoc X82 N79 g_b70
          have V_b70 : own_B Z h82 b70 [d71, d74, d77, d80, 0] := own_B.set Ar16281 Sq16281 W82 rfl
          have B83 : (z5.toInt : Int).natAbs ≤ 2147483648 := own_Bi z5
          obtain ⟨d83, v83⟩ : ∃ z : UInt64, FP.i2d z5 = z := ⟨_, rfl⟩
          have D83 : own_Dy 0 z5.toInt d83 := by
            rw [← v83]
            exact own_Di z5
          have nn83 : Jvm.Free.Fl.NoNaN64 (FP.i2d z5) := by
            rw [v83]
            exact Jvm.Free.Fl.val64_no.mpr (own_Dy_num D83)
          obtain ⟨cl16884, Ar16884, Sq16884⟩ := V_b70
          have S16884 : cl16884.slots.size = ((5 : Int32)).toNatClampNeg := own_B.size Sq16884 rfl
          have hin16884 : ¬ ((4 : Int32) < 0 ∨ cl16884.slots.size ≤ ((4 : Int32)).toNatClampNeg) := inb_of S16884 ⟨by decide, by decide⟩
          obtain ⟨T85, h85, X85, e85, W85, st85⟩ := stD X82 hx hZ e82 Ar16884 (j := (4 : Int32)) hin16884 (g := (mkF m 168 #[.val (.int z0), .val (.int z1), .val (.int z2), .val (.int z3), .val (.int z4), .val (.int z5), .val (.int nv), .val (.long mm), .second, .val (.double d7), .second, .unset, .unset, .unset, .unset, .unset, .unset, .unset, .unset, .unset, .unset, .unset, .unset, .unset] [(.double d83), (.int (4 : Int32)), (.ref b70), (.ref b70)])) rfl rfl (hb hby at_168)
          have Zs85 : n0 ≤ h85.size := Nat.le_trans Zs82 (Keep.of_wr W85).1
          have K85 : Keep h0 h85 [] := K82.wr W85 (Or.inr sz_b70)
          have N85 := Fr.snoc X85 N82 g_b70
          have V_b70 : own_B Z h85 b70 [d71, d74, d77, d80, d83] := own_B.set Ar16884 Sq16884 W85 rfl
          obtain ⟨_, _, ⟨T86, L86, k86, n86⟩, -, X86, ⟨Lc86, hQ86, l86, y86, z86⟩, st86⟩ := Jvm.LawKit.callS X85 hx (y := (⟨"com/example/matchstat/matchstat/Chebyshev", "sum", "([DD)D"⟩ : MethodName)) hown (mvT hZ (hw _ (List.mem_of_getElem? (i := 8) rfl))) (mvT hZ (hw _ (List.mem_of_getElem? (i := 9) rfl))) (mvT hZ (hw _ (List.mem_of_getElem? (i := 10) rfl))) (mvT hZ (hw _ (List.mem_of_getElem? (i := 11) rfl))) (by decide) (backOf (W := 0) (rm1s5 l Z a0 hw [] b70 d7 d71 d74 d77 d80 d83 mm.toInt z1.toInt z2.toInt z3.toInt z4.toInt z5.toInt h85 n0 Zs85 V_b70 D7 B7 D71 B71 D74 B74 D77 B77 D80 B80 D83 B83) hZ (hw _ (List.mem_of_getElem? (i := 11) rfl)) (hw _ (List.mem_of_getElem? (i := 10) rfl)) (by decide) (by decide)) (g := (mkF m 320 #[.val (.int z0), .val (.int z1), .val (.int z2), .val (.int z3), .val (.int z4), .val (.int z5), .val (.int nv), .val (.long mm), .second, .val (.double d7), .second, .val (.ref b70), .val (.long ((64 : Int64) * mm)), .second, .val (.long ((((16 : Int64) * mm) * mm) - (512 : Int64))), .second, .val (.long (((((4 : Int64) * mm) * mm) * mm) - ((192 : Int64) * mm))), .second, .val (.long (((((mm * mm) * mm) * mm) - (((64 : Int64) * mm) * mm)) + (512 : Int64))), .second, .val (.long ((((((512 : Int64) * (z1.toInt64)) + ((z2.toInt64) * ((64 : Int64) * mm))) + ((z3.toInt64) * ((((16 : Int64) * mm) * mm) - (512 : Int64)))) + ((z4.toInt64) * (((((4 : Int64) * mm) * mm) * mm) - ((192 : Int64) * mm)))) + ((z5.toInt64) * (((((mm * mm) * mm) * mm) - (((64 : Int64) * mm) * mm)) + (512 : Int64))))), .second, .unset, .unset] [(.double d7), (.ref b70)])) rfl (by rw [hml]; rfl) (argsL := [(.ref b70), (.double d7)]) (rest := []) (lenOf pd0_0 rfl) rfl (by show 2 * 0 + _ ≤ _; exact Nat.le_of_eq rfl) (hb hby at_320) (fun _ _ => ⟨rfl, e85, (by decide : 1 + 0 ≤ _), (by decide : 5 + 0 ≤ _)⟩)
          dsimp only [Pt.U, Pt.locs, Pt.cells, Pt.slots] at X86 l86 y86 z86 st86 hQ86
          subst l86 y86 z86
          obtain ⟨r86, rfl, N86q, hh86, Dr86, Br86⟩ := hQ86
          have N86 := Fr.app N85 N86q
          have B87 : ((((z1.toInt * 32768) + (mm.toInt * (((z2.toInt * 4096) + ((2 * mm.toInt) * (((z3.toInt * 512) + ((2 * mm.toInt) * (((z4.toInt * 64) + ((2 * mm.toInt) * (((z5.toInt * 8) + ((2 * mm.toInt) * 0)) - (0 * 8)))) - (0 * 64)))) - ((((z5.toInt * 8) + ((2 * mm.toInt) * 0)) - (0 * 8)) * 64)))) - ((((z4.toInt * 64) + ((2 * mm.toInt) * (((z5.toInt * 8) + ((2 * mm.toInt) * 0)) - (0 * 8)))) - (0 * 64)) * 64)))) - ((((z3.toInt * 512) + ((2 * mm.toInt) * (((z4.toInt * 64) + ((2 * mm.toInt) * (((z5.toInt * 8) + ((2 * mm.toInt) * 0)) - (0 * 8)))) - (0 * 64)))) - ((((z5.toInt * 8) + ((2 * mm.toInt) * 0)) - (0 * 8)) * 64)) * 64)) : Int).natAbs ≤ 2040693581152256 := Br86
          obtain ⟨d87, v87⟩ : ∃ z : UInt64, FP.dmul r86 (4647714815446351872 : UInt64) = z := ⟨_, rfl⟩
          have D87 : own_Dy 6 (((z1.toInt * 32768) + (mm.toInt * (((z2.toInt * 4096) + ((2 * mm.toInt) * (((z3.toInt * 512) + ((2 * mm.toInt) * (((z4.toInt * 64) + ((2 * mm.toInt) * (((z5.toInt * 8) + ((2 * mm.toInt) * 0)) - (0 * 8)))) - (0 * 64)))) - ((((z5.toInt * 8) + ((2 * mm.toInt) * 0)) - (0 * 8)) * 64)))) - ((((z4.toInt * 64) + ((2 * mm.toInt) * (((z5.toInt * 8) + ((2 * mm.toInt) * 0)) - (0 * 8)))) - (0 * 64)) * 64)))) - ((((z3.toInt * 512) + ((2 * mm.toInt) * (((z4.toInt * 64) + ((2 * mm.toInt) * (((z5.toInt * 8) + ((2 * mm.toInt) * 0)) - (0 * 8)))) - (0 * 64)))) - ((((z5.toInt * 8) + ((2 * mm.toInt) * 0)) - (0 * 8)) * 64)) * 64)) d87 := by
            rw [← v87]
            exact own_Dy_mul512 rfl (by decide) Dr86 (Nat.le_trans B87 (by decide))
          have nn87 : Jvm.Free.Fl.NoNaN64 (FP.dmul r86 (4647714815446351872 : UInt64)) := by
            rw [v87]
            exact Jvm.Free.Fl.val64_no.mpr (own_Dy_num D87)
          have l88 : own_L ((((((512 : Int64) * (z1.toInt64)) + ((z2.toInt64) * ((64 : Int64) * mm))) + ((z3.toInt64) * ((((16 : Int64) * mm) * mm) - (512 : Int64)))) + ((z4.toInt64) * (((((4 : Int64) * mm) * mm) * mm) - ((192 : Int64) * mm)))) + ((z5.toInt64) * (((((mm * mm) * mm) * mm) - (((64 : Int64) * mm) * mm)) + (512 : Int64)))) (((((512 * z1.toInt) + (z2.toInt * (64 * mm.toInt))) + (z3.toInt * (((16 * mm.toInt) * mm.toInt) - 512))) + (z4.toInt * ((((4 * mm.toInt) * mm.toInt) * mm.toInt) - (192 * mm.toInt)))) + (z5.toInt * (((((mm.toInt * mm.toInt) * mm.toInt) * mm.toInt) - ((64 * mm.toInt) * mm.toInt)) + 512))) 31885837205504 := (own_L_add (own_L_add (own_L_add (own_L_add (own_L_mul (⟨by decide, by decide⟩ : own_L (512 : Int64) 512 512) (own_L_i z1) (C := 1099511627776) (by decide) (by decide)) (own_L_mul (own_L_i z2) (own_L_mul (⟨by decide, by decide⟩ : own_L (64 : Int64) 64 64) hL (C := 512) (by decide) (by decide)) (C := 1099511627776) (by decide) (by decide)) (C := 2199023255552) (by decide) (by decide)) (own_L_mul (own_L_i z3) (own_L_sub (own_L_mul (own_L_mul (⟨by decide, by decide⟩ : own_L (16 : Int64) 16 16) hL (C := 128) (by decide) (by decide)) hL (C := 1024) (by decide) (by decide)) (⟨by decide, by decide⟩ : own_L (512 : Int64) 512 512) (C := 1536) (by decide) (by decide)) (C := 3298534883328) (by decide) (by decide)) (C := 5497558138880) (by decide) (by decide)) (own_L_mul (own_L_i z4) (own_L_sub (own_L_mul (own_L_mul (own_L_mul (⟨by decide, by decide⟩ : own_L (4 : Int64) 4 4) hL (C := 32) (by decide) (by decide)) hL (C := 256) (by decide) (by decide)) hL (C := 2048) (by decide) (by decide)) (own_L_mul (⟨by decide, by decide⟩ : own_L (192 : Int64) 192 192) hL (C := 1536) (by decide) (by decide)) (C := 3584) (by decide) (by decide)) (C := 7696581394432) (by decide) (by decide)) (C := 13194139533312) (by decide) (by decide)) (own_L_mul (own_L_i z5) (own_L_add (own_L_sub (own_L_mul (own_L_mul (own_L_mul hL hL (C := 64) (by decide) (by decide)) hL (C := 512) (by decide) (by decide)) hL (C := 4096) (by decide) (by decide)) (own_L_mul (own_L_mul (⟨by decide, by decide⟩ : own_L (64 : Int64) 64 64) hL (C := 512) (by decide) (by decide)) hL (C := 4096) (by decide) (by decide)) (C := 8192) (by decide) (by decide)) (⟨by decide, by decide⟩ : own_L (512 : Int64) 512 512) (C := 8704) (by decide) (by decide)) (C := 18691697672192) (by decide) (by decide)) (C := 31885837205504) (by decide) (by decide))
          have B89 : ((((((512 * z1.toInt) + (z2.toInt * (64 * mm.toInt))) + (z3.toInt * (((16 * mm.toInt) * mm.toInt) - 512))) + (z4.toInt * ((((4 * mm.toInt) * mm.toInt) * mm.toInt) - (192 * mm.toInt)))) + (z5.toInt * (((((mm.toInt * mm.toInt) * mm.toInt) * mm.toInt) - ((64 * mm.toInt) * mm.toInt)) + 512))) : Int).natAbs ≤ 31885837205504 := l88.2
          obtain ⟨d89, v89⟩ : ∃ z : UInt64, FP.l2d ((((((512 : Int64) * (z1.toInt64)) + ((z2.toInt64) * ((64 : Int64) * mm))) + ((z3.toInt64) * ((((16 : Int64) * mm) * mm) - (512 : Int64)))) + ((z4.toInt64) * (((((4 : Int64) * mm) * mm) * mm) - ((192 : Int64) * mm)))) + ((z5.toInt64) * (((((mm * mm) * mm) * mm) - (((64 : Int64) * mm) * mm)) + (512 : Int64)))) = z := ⟨_, rfl⟩
          have D89 : own_Dy 0 (((((512 * z1.toInt) + (z2.toInt * (64 * mm.toInt))) + (z3.toInt * (((16 * mm.toInt) * mm.toInt) - 512))) + (z4.toInt * ((((4 * mm.toInt) * mm.toInt) * mm.toInt) - (192 * mm.toInt)))) + (z5.toInt * (((((mm.toInt * mm.toInt) * mm.toInt) * mm.toInt) - ((64 * mm.toInt) * mm.toInt)) + 512))) d89 := by
            rw [← v89]
            exact own_L_d l88 (by decide)
          have nn89 : Jvm.Free.Fl.NoNaN64 (FP.l2d ((((((512 : Int64) * (z1.toInt64)) + ((z2.toInt64) * ((64 : Int64) * mm))) + ((z3.toInt64) * ((((16 : Int64) * mm) * mm) - (512 : Int64)))) + ((z4.toInt64) * (((((4 : Int64) * mm) * mm) * mm) - ((192 : Int64) * mm)))) + ((z5.toInt64) * (((((mm * mm) * mm) * mm) - (((64 : Int64) * mm) * mm)) + (512 : Int64))))) := by
            rw [v89]
            exact Jvm.Free.Fl.val64_no.mpr (own_Dy_num D89)
          have q90 : cmpValue (FP.dcmp d87 d89) .l = 0 := own_cmp0 D87 (own_Dy_up (K := 6) (p := 64) 6 rfl (by decide) D89) (own_id5 mm.toInt z1.toInt z2.toInt z3.toInt z4.toInt z5.toInt) .l
          obtain ⟨fs, hr, hrun, hended, hW, hsame⟩ := X86.leave (v := some (.int (1 : Int32))) (fun h => by rw [Bd.returns] at h; cases h)
          refine ⟨_, _, pre50 _ ?_, hrun, hended, _, _, rfl, ?_, ⟨_, rfl⟩, hW, hsame.mono (by decide) (by decide)⟩
          · show Steps p.tables e below (s₁.setTop (mkF m 107 #[.val (.int z0), .val (.int z1), .val (.int z2), .val (.int z3), .val (.int z4), .val (.int z5), .val (.int nv), .val (.long mm), .second, .val (.double d7), .second, .unset, .unset, .unset, .unset, .unset, .unset, .unset, .unset, .unset, .unset, .unset, .unset, .unset] [(.int (4 : Int32)), (.int nv)])) _
            refine XS.icmpYes X0.here hx rfl (pc0 := 107) (pc' := 139) rfl (hb hby at_107) rfl (feq hc107_51).2 (by decide) (by decide) ?_
            show Steps p.tables e below (s₁.setTop (mkF m 139 #[.val (.int z0), .val (.int z1), .val (.int z2), .val (.int z3), .val (.int z4), .val (.int z5), .val (.int nv), .val (.long mm), .second, .val (.double d7), .second, .unset, .unset, .unset, .unset, .unset, .unset, .unset, .unset, .unset, .unset, .unset, .unset, .unset] [])) _
            refine XS.iconst X0.here hx rfl (hb hby at_139) ?_
            show Steps p.tables e below (s₁.setTop (mkF m 140 #[.val (.int z0), .val (.int z1), .val (.int z2), .val (.int z3), .val (.int z4), .val (.int z5), .val (.int nv), .val (.long mm), .second, .val (.double d7), .second, .unset, .unset, .unset, .unset, .unset, .unset, .unset, .unset, .unset, .unset, .unset, .unset, .unset] [(.int (5 : Int32))])) _
            refine st70 _ ?_
            show Steps p.tables e below (T70.setTop (mkF m 142 #[.val (.int z0), .val (.int z1), .val (.int z2), .val (.int z3), .val (.int z4), .val (.int z5), .val (.int nv), .val (.long mm), .second, .val (.double d7), .second, .unset, .unset, .unset, .unset, .unset, .unset, .unset, .unset, .unset, .unset, .unset, .unset, .unset] [(.ref b70)])) _
            refine XS.dup X70.here hx rfl (hb hby at_142) rfl rfl ?_
            show Steps p.tables e below (T70.setTop (mkF m 143 #[.val (.int z0), .val (.int z1), .val (.int z2), .val (.int z3), .val (.int z4), .val (.int z5), .val (.int nv), .val (.long mm), .second, .val (.double d7), .second, .unset, .unset, .unset, .unset, .unset, .unset, .unset, .unset, .unset, .unset, .unset, .unset, .unset] [(.ref b70), (.ref b70)])) _
            refine XS.iconst X70.here hx rfl (hb hby at_143) ?_
            show Steps p.tables e below (T70.setTop (mkF m 144 #[.val (.int z0), .val (.int z1), .val (.int z2), .val (.int z3), .val (.int z4), .val (.int z5), .val (.int nv), .val (.long mm), .second, .val (.double d7), .second, .unset, .unset, .unset, .unset, .unset, .unset, .unset, .unset, .unset, .unset, .unset, .unset, .unset] [(.int (0 : Int32)), (.ref b70), (.ref b70)])) _
            refine XS.iloadN X70.here hx rfl (hb hby at_144) rfl ?_
            show Steps p.tables e below (T70.setTop (mkF m 145 #[.val (.int z0), .val (.int z1), .val (.int z2), .val (.int z3), .val (.int z4), .val (.int z5), .val (.int nv), .val (.long mm), .second, .val (.double d7), .second, .unset, .unset, .unset, .unset, .unset, .unset, .unset, .unset, .unset, .unset, .unset, .unset, .unset] [(.int z1), (.int (0 : Int32)), (.ref b70), (.ref b70)])) _
            refine XS.i2dS X70.here hx rfl (hb hby at_145) rfl v71 ?_
            show Steps p.tables e below (T70.setTop (mkF m 146 #[.val (.int z0), .val (.int z1), .val (.int z2), .val (.int z3), .val (.int z4), .val (.int z5), .val (.int nv), .val (.long mm), .second, .val (.double d7), .second, .unset, .unset, .unset, .unset, .unset, .unset, .unset, .unset, .unset, .unset, .unset, .unset, .unset] [(.double d71), (.int (0 : Int32)), (.ref b70), (.ref b70)])) _
            refine st73 _ ?_
            show Steps p.tables e below (T73.setTop (mkF m 147 #[.val (.int z0), .val (.int z1), .val (.int z2), .val (.int z3), .val (.int z4), .val (.int z5), .val (.int nv), .val (.long mm), .second, .val (.double d7), .second, .unset, .unset, .unset, .unset, .unset, .unset, .unset, .unset, .unset, .unset, .unset, .unset, .unset] [(.ref b70)])) _
            refine XS.dup X73.here hx rfl (hb hby at_147) rfl rfl ?_
            show Steps p.tables e below (T73.setTop (mkF m 148 #[.val (.int z0), .val (.int z1), .val (.int z2), .val (.int z3), .val (.int z4), .val (.int z5), .val (.int nv), .val (.long mm), .second, .val (.double d7), .second, .unset, .unset, .unset, .unset, .unset, .unset, .unset, .unset, .unset, .unset, .unset, .unset, .unset] [(.ref b70), (.ref b70)])) _
            refine XS.iconst X73.here hx rfl (hb hby at_148) ?_
            show Steps p.tables e below (T73.setTop (mkF m 149 #[.val (.int z0), .val (.int z1), .val (.int z2), .val (.int z3), .val (.int z4), .val (.int z5), .val (.int nv), .val (.long mm), .second, .val (.double d7), .second, .unset, .unset, .unset, .unset, .unset, .unset, .unset, .unset, .unset, .unset, .unset, .unset, .unset] [(.int (1 : Int32)), (.ref b70), (.ref b70)])) _
            refine XS.iloadN X73.here hx rfl (hb hby at_149) rfl ?_
            show Steps p.tables e below (T73.setTop (mkF m 150 #[.val (.int z0), .val (.int z1), .val (.int z2), .val (.int z3), .val (.int z4), .val (.int z5), .val (.int nv), .val (.long mm), .second, .val (.double d7), .second, .unset, .unset, .unset, .unset, .unset, .unset, .unset, .unset, .unset, .unset, .unset, .unset, .unset] [(.int z2), (.int (1 : Int32)), (.ref b70), (.ref b70)])) _
            refine XS.i2dS X73.here hx rfl (hb hby at_150) rfl v74 ?_
            show Steps p.tables e below (T73.setTop (mkF m 151 #[.val (.int z0), .val (.int z1), .val (.int z2), .val (.int z3), .val (.int z4), .val (.int z5), .val (.int nv), .val (.long mm), .second, .val (.double d7), .second, .unset, .unset, .unset, .unset, .unset, .unset, .unset, .unset, .unset, .unset, .unset, .unset, .unset] [(.double d74), (.int (1 : Int32)), (.ref b70), (.ref b70)])) _
            refine st76 _ ?_
            show Steps p.tables e below (T76.setTop (mkF m 152 #[.val (.int z0), .val (.int z1), .val (.int z2), .val (.int z3), .val (.int z4), .val (.int z5), .val (.int nv), .val (.long mm), .second, .val (.double d7), .second, .unset, .unset, .unset, .unset, .unset, .unset, .unset, .unset, .unset, .unset, .unset, .unset, .unset] [(.ref b70)])) _
            refine XS.dup X76.here hx rfl (hb hby at_152) rfl rfl ?_
            show Steps p.tables e below (T76.setTop (mkF m 153 #[.val (.int z0), .val (.int z1), .val (.int z2), .val (.int z3), .val (.int z4), .val (.int z5), .val (.int nv), .val (.long mm), .second, .val (.double d7), .second, .unset, .unset, .unset, .unset, .unset, .unset, .unset, .unset, .unset, .unset, .unset, .unset, .unset] [(.ref b70), (.ref b70)])) _
            refine XS.iconst X76.here hx rfl (hb hby at_153) ?_
            show Steps p.tables e below (T76.setTop (mkF m 154 #[.val (.int z0), .val (.int z1), .val (.int z2), .val (.int z3), .val (.int z4), .val (.int z5), .val (.int nv), .val (.long mm), .second, .val (.double d7), .second, .unset, .unset, .unset, .unset, .unset, .unset, .unset, .unset, .unset, .unset, .unset, .unset, .unset] [(.int (2 : Int32)), (.ref b70), (.ref b70)])) _
            refine XS.iloadN X76.here hx rfl (hb hby at_154) rfl ?_
            show Steps p.tables e below (T76.setTop (mkF m 155 #[.val (.int z0), .val (.int z1), .val (.int z2), .val (.int z3), .val (.int z4), .val (.int z5), .val (.int nv), .val (.long mm), .second, .val (.double d7), .second, .unset, .unset, .unset, .unset, .unset, .unset, .unset, .unset, .unset, .unset, .unset, .unset, .unset] [(.int z3), (.int (2 : Int32)), (.ref b70), (.ref b70)])) _
            refine XS.i2dS X76.here hx rfl (hb hby at_155) rfl v77 ?_
            show Steps p.tables e below (T76.setTop (mkF m 156 #[.val (.int z0), .val (.int z1), .val (.int z2), .val (.int z3), .val (.int z4), .val (.int z5), .val (.int nv), .val (.long mm), .second, .val (.double d7), .second, .unset, .unset, .unset, .unset, .unset, .unset, .unset, .unset, .unset, .unset, .unset, .unset, .unset] [(.double d77), (.int (2 : Int32)), (.ref b70), (.ref b70)])) _
            refine st79 _ ?_
            show Steps p.tables e below (T79.setTop (mkF m 157 #[.val (.int z0), .val (.int z1), .val (.int z2), .val (.int z3), .val (.int z4), .val (.int z5), .val (.int nv), .val (.long mm), .second, .val (.double d7), .second, .unset, .unset, .unset, .unset, .unset, .unset, .unset, .unset, .unset, .unset, .unset, .unset, .unset] [(.ref b70)])) _
            refine XS.dup X79.here hx rfl (hb hby at_157) rfl rfl ?_
            show Steps p.tables e below (T79.setTop (mkF m 158 #[.val (.int z0), .val (.int z1), .val (.int z2), .val (.int z3), .val (.int z4), .val (.int z5), .val (.int nv), .val (.long mm), .second, .val (.double d7), .second, .unset, .unset, .unset, .unset, .unset, .unset, .unset, .unset, .unset, .unset, .unset, .unset, .unset] [(.ref b70), (.ref b70)])) _
            refine XS.iconst X79.here hx rfl (hb hby at_158) ?_
            show Steps p.tables e below (T79.setTop (mkF m 159 #[.val (.int z0), .val (.int z1), .val (.int z2), .val (.int z3), .val (.int z4), .val (.int z5), .val (.int nv), .val (.long mm), .second, .val (.double d7), .second, .unset, .unset, .unset, .unset, .unset, .unset, .unset, .unset, .unset, .unset, .unset, .unset, .unset] [(.int (3 : Int32)), (.ref b70), (.ref b70)])) _
            refine XS.iload X79.here hx rfl (hb hby at_159) rfl ?_
            show Steps p.tables e below (T79.setTop (mkF m 161 #[.val (.int z0), .val (.int z1), .val (.int z2), .val (.int z3), .val (.int z4), .val (.int z5), .val (.int nv), .val (.long mm), .second, .val (.double d7), .second, .unset, .unset, .unset, .unset, .unset, .unset, .unset, .unset, .unset, .unset, .unset, .unset, .unset] [(.int z4), (.int (3 : Int32)), (.ref b70), (.ref b70)])) _
            refine XS.i2dS X79.here hx rfl (hb hby at_161) rfl v80 ?_
            show Steps p.tables e below (T79.setTop (mkF m 162 #[.val (.int z0), .val (.int z1), .val (.int z2), .val (.int z3), .val (.int z4), .val (.int z5), .val (.int nv), .val (.long mm), .second, .val (.double d7), .second, .unset, .unset, .unset, .unset, .unset, .unset, .unset, .unset, .unset, .unset, .unset, .unset, .unset] [(.double d80), (.int (3 : Int32)), (.ref b70), (.ref b70)])) _
            refine st82 _ ?_
            show Steps p.tables e below (T82.setTop (mkF m 163 #[.val (.int z0), .val (.int z1), .val (.int z2), .val (.int z3), .val (.int z4), .val (.int z5), .val (.int nv), .val (.long mm), .second, .val (.double d7), .second, .unset, .unset, .unset, .unset, .unset, .unset, .unset, .unset, .unset, .unset, .unset, .unset, .unset] [(.ref b70)])) _
            refine XS.dup X82.here hx rfl (hb hby at_163) rfl rfl ?_
            show Steps p.tables e below (T82.setTop (mkF m 164 #[.val (.int z0), .val (.int z1), .val (.int z2), .val (.int z3), .val (.int z4), .val (.int z5), .val (.int nv), .val (.long mm), .second, .val (.double d7), .second, .unset, .unset, .unset, .unset, .unset, .unset, .unset, .unset, .unset, .unset, .unset, .unset, .unset] [(.ref b70), (.ref b70)])) _
            refine XS.iconst X82.here hx rfl (hb hby at_164) ?_
            show Steps p.tables e below (T82.setTop (mkF m 165 #[.val (.int z0), .val (.int z1), .val (.int z2), .val (.int z3), .val (.int z4), .val (.int z5), .val (.int nv), .val (.long mm), .second, .val (.double d7), .second, .unset, .unset, .unset, .unset, .unset, .unset, .unset, .unset, .unset, .unset, .unset, .unset, .unset] [(.int (4 : Int32)), (.ref b70), (.ref b70)])) _
            refine XS.iload X82.here hx rfl (hb hby at_165) rfl ?_
            show Steps p.tables e below (T82.setTop (mkF m 167 #[.val (.int z0), .val (.int z1), .val (.int z2), .val (.int z3), .val (.int z4), .val (.int z5), .val (.int nv), .val (.long mm), .second, .val (.double d7), .second, .unset, .unset, .unset, .unset, .unset, .unset, .unset, .unset, .unset, .unset, .unset, .unset, .unset] [(.int z5), (.int (4 : Int32)), (.ref b70), (.ref b70)])) _
            refine XS.i2dS X82.here hx rfl (hb hby at_167) rfl v83 ?_
            show Steps p.tables e below (T82.setTop (mkF m 168 #[.val (.int z0), .val (.int z1), .val (.int z2), .val (.int z3), .val (.int z4), .val (.int z5), .val (.int nv), .val (.long mm), .second, .val (.double d7), .second, .unset, .unset, .unset, .unset, .unset, .unset, .unset, .unset, .unset, .unset, .unset, .unset, .unset] [(.double d83), (.int (4 : Int32)), (.ref b70), (.ref b70)])) _
            refine st85 _ ?_
            show Steps p.tables e below (T85.setTop (mkF m 169 #[.val (.int z0), .val (.int z1), .val (.int z2), .val (.int z3), .val (.int z4), .val (.int z5), .val (.int nv), .val (.long mm), .second, .val (.double d7), .second, .unset, .unset, .unset, .unset, .unset, .unset, .unset, .unset, .unset, .unset, .unset, .unset, .unset] [(.ref b70)])) _
            refine XS.astore X85.here hx rfl (hb hby at_169) rfl rfl (l' := #[.val (.int z0), .val (.int z1), .val (.int z2), .val (.int z3), .val (.int z4), .val (.int z5), .val (.int nv), .val (.long mm), .second, .val (.double d7), .second, .val (.ref b70), .unset, .unset, .unset, .unset, .unset, .unset, .unset, .unset, .unset, .unset, .unset, .unset]) rfl ?_
            show Steps p.tables e below (T85.setTop (mkF m 171 #[.val (.int z0), .val (.int z1), .val (.int z2), .val (.int z3), .val (.int z4), .val (.int z5), .val (.int nv), .val (.long mm), .second, .val (.double d7), .second, .val (.ref b70), .unset, .unset, .unset, .unset, .unset, .unset, .unset, .unset, .unset, .unset, .unset, .unset] [])) _
            refine X85.ldc2Long hx hown (mvT hZ (hw _ (List.mem_of_getElem? (i := 3) rfl))) (g := (mkF m 171 #[.val (.int z0), .val (.int z1), .val (.int z2), .val (.int z3), .val (.int z4), .val (.int z5), .val (.int nv), .val (.long mm), .second, .val (.double d7), .second, .val (.ref b70), .unset, .unset, .unset, .unset, .unset, .unset, .unset, .unset, .unset, .unset, .unset, .unset] [])) rfl (hb hby at_171) _ ?_
            show Steps p.tables e below (T85.setTop (mkF m 174 #[.val (.int z0), .val (.int z1), .val (.int z2), .val (.int z3), .val (.int z4), .val (.int z5), .val (.int nv), .val (.long mm), .second, .val (.double d7), .second, .val (.ref b70), .unset, .unset, .unset, .unset, .unset, .unset, .unset, .unset, .unset, .unset, .unset, .unset] [(.long (64 : Int64))])) _
            refine XS.lload X85.here hx rfl (hb hby at_174) rfl ?_
            show Steps p.tables e below (T85.setTop (mkF m 176 #[.val (.int z0), .val (.int z1), .val (.int z2), .val (.int z3), .val (.int z4), .val (.int z5), .val (.int nv), .val (.long mm), .second, .val (.double d7), .second, .val (.ref b70), .unset, .unset, .unset, .unset, .unset, .unset, .unset, .unset, .unset, .unset, .unset, .unset] [(.long mm), (.long (64 : Int64))])) _
            refine XS.lmul X85.here hx rfl (hb hby at_176) rfl ?_
            show Steps p.tables e below (T85.setTop (mkF m 177 #[.val (.int z0), .val (.int z1), .val (.int z2), .val (.int z3), .val (.int z4), .val (.int z5), .val (.int nv), .val (.long mm), .second, .val (.double d7), .second, .val (.ref b70), .unset, .unset, .unset, .unset, .unset, .unset, .unset, .unset, .unset, .unset, .unset, .unset] [(.long ((64 : Int64) * mm))])) _
            refine XS.lstore X85.here hx rfl (hb hby at_177) rfl (l' := #[.val (.int z0), .val (.int z1), .val (.int z2), .val (.int z3), .val (.int z4), .val (.int z5), .val (.int nv), .val (.long mm), .second, .val (.double d7), .second, .val (.ref b70), .val (.long ((64 : Int64) * mm)), .second, .unset, .unset, .unset, .unset, .unset, .unset, .unset, .unset, .unset, .unset]) rfl ?_
            show Steps p.tables e below (T85.setTop (mkF m 179 #[.val (.int z0), .val (.int z1), .val (.int z2), .val (.int z3), .val (.int z4), .val (.int z5), .val (.int nv), .val (.long mm), .second, .val (.double d7), .second, .val (.ref b70), .val (.long ((64 : Int64) * mm)), .second, .unset, .unset, .unset, .unset, .unset, .unset, .unset, .unset, .unset, .unset] [])) _
            refine X85.ldc2Long hx hown (mvT hZ (hw _ (List.mem_of_getElem? (i := 4) rfl))) (g := (mkF m 179 #[.val (.int z0), .val (.int z1), .val (.int z2), .val (.int z3), .val (.int z4), .val (.int z5), .val (.int nv), .val (.long mm), .second, .val (.double d7), .second, .val (.ref b70), .val (.long ((64 : Int64) * mm)), .second, .unset, .unset, .unset, .unset, .unset, .unset, .unset, .unset, .unset, .unset] [])) rfl (hb hby at_179) _ ?_
            show Steps p.tables e below (T85.setTop (mkF m 182 #[.val (.int z0), .val (.int z1), .val (.int z2), .val (.int z3), .val (.int z4), .val (.int z5), .val (.int nv), .val (.long mm), .second, .val (.double d7), .second, .val (.ref b70), .val (.long ((64 : Int64) * mm)), .second, .unset, .unset, .unset, .unset, .unset, .unset, .unset, .unset, .unset, .unset] [(.long (16 : Int64))])) _
            refine XS.lload X85.here hx rfl (hb hby at_182) rfl ?_
            show Steps p.tables e below (T85.setTop (mkF m 184 #[.val (.int z0), .val (.int z1), .val (.int z2), .val (.int z3), .val (.int z4), .val (.int z5), .val (.int nv), .val (.long mm), .second, .val (.double d7), .second, .val (.ref b70), .val (.long ((64 : Int64) * mm)), .second, .unset, .unset, .unset, .unset, .unset, .unset, .unset, .unset, .unset, .unset] [(.long mm), (.long (16 : Int64))])) _
            refine XS.lmul X85.here hx rfl (hb hby at_184) rfl ?_
            show Steps p.tables e below (T85.setTop (mkF m 185 #[.val (.int z0), .val (.int z1), .val (.int z2), .val (.int z3), .val (.int z4), .val (.int z5), .val (.int nv), .val (.long mm), .second, .val (.double d7), .second, .val (.ref b70), .val (.long ((64 : Int64) * mm)), .second, .unset, .unset, .unset, .unset, .unset, .unset, .unset, .unset, .unset, .unset] [(.long ((16 : Int64) * mm))])) _
            refine XS.lload X85.here hx rfl (hb hby at_185) rfl ?_
            show Steps p.tables e below (T85.setTop (mkF m 187 #[.val (.int z0), .val (.int z1), .val (.int z2), .val (.int z3), .val (.int z4), .val (.int z5), .val (.int nv), .val (.long mm), .second, .val (.double d7), .second, .val (.ref b70), .val (.long ((64 : Int64) * mm)), .second, .unset, .unset, .unset, .unset, .unset, .unset, .unset, .unset, .unset, .unset] [(.long mm), (.long ((16 : Int64) * mm))])) _
            refine XS.lmul X85.here hx rfl (hb hby at_187) rfl ?_
            show Steps p.tables e below (T85.setTop (mkF m 188 #[.val (.int z0), .val (.int z1), .val (.int z2), .val (.int z3), .val (.int z4), .val (.int z5), .val (.int nv), .val (.long mm), .second, .val (.double d7), .second, .val (.ref b70), .val (.long ((64 : Int64) * mm)), .second, .unset, .unset, .unset, .unset, .unset, .unset, .unset, .unset, .unset, .unset] [(.long (((16 : Int64) * mm) * mm))])) _
            refine X85.ldc2Long hx hown (mvT hZ (hw _ (List.mem_of_getElem? (i := 5) rfl))) (g := (mkF m 188 #[.val (.int z0), .val (.int z1), .val (.int z2), .val (.int z3), .val (.int z4), .val (.int z5), .val (.int nv), .val (.long mm), .second, .val (.double d7), .second, .val (.ref b70), .val (.long ((64 : Int64) * mm)), .second, .unset, .unset, .unset, .unset, .unset, .unset, .unset, .unset, .unset, .unset] [(.long (((16 : Int64) * mm) * mm))])) rfl (hb hby at_188) _ ?_
            show Steps p.tables e below (T85.setTop (mkF m 191 #[.val (.int z0), .val (.int z1), .val (.int z2), .val (.int z3), .val (.int z4), .val (.int z5), .val (.int nv), .val (.long mm), .second, .val (.double d7), .second, .val (.ref b70), .val (.long ((64 : Int64) * mm)), .second, .unset, .unset, .unset, .unset, .unset, .unset, .unset, .unset, .unset, .unset] [(.long (512 : Int64)), (.long (((16 : Int64) * mm) * mm))])) _
            refine XS.lsub X85.here hx rfl (hb hby at_191) rfl ?_
            show Steps p.tables e below (T85.setTop (mkF m 192 #[.val (.int z0), .val (.int z1), .val (.int z2), .val (.int z3), .val (.int z4), .val (.int z5), .val (.int nv), .val (.long mm), .second, .val (.double d7), .second, .val (.ref b70), .val (.long ((64 : Int64) * mm)), .second, .unset, .unset, .unset, .unset, .unset, .unset, .unset, .unset, .unset, .unset] [(.long ((((16 : Int64) * mm) * mm) - (512 : Int64)))])) _
            refine XS.lstore X85.here hx rfl (hb hby at_192) rfl (l' := #[.val (.int z0), .val (.int z1), .val (.int z2), .val (.int z3), .val (.int z4), .val (.int z5), .val (.int nv), .val (.long mm), .second, .val (.double d7), .second, .val (.ref b70), .val (.long ((64 : Int64) * mm)), .second, .val (.long ((((16 : Int64) * mm) * mm) - (512 : Int64))), .second, .unset, .unset, .unset, .unset, .unset, .unset, .unset, .unset]) rfl ?_
            show Steps p.tables e below (T85.setTop (mkF m 194 #[.val (.int z0), .val (.int z1), .val (.int z2), .val (.int z3), .val (.int z4), .val (.int z5), .val (.int nv), .val (.long mm), .second, .val (.double d7), .second, .val (.ref b70), .val (.long ((64 : Int64) * mm)), .second, .val (.long ((((16 : Int64) * mm) * mm) - (512 : Int64))), .second, .unset, .unset, .unset, .unset, .unset, .unset, .unset, .unset] [])) _
            refine X85.ldc2Long hx hown (mvT hZ (hw _ (List.mem_of_getElem? (i := 6) rfl))) (g := (mkF m 194 #[.val (.int z0), .val (.int z1), .val (.int z2), .val (.int z3), .val (.int z4), .val (.int z5), .val (.int nv), .val (.long mm), .second, .val (.double d7), .second, .val (.ref b70), .val (.long ((64 : Int64) * mm)), .second, .val (.long ((((16 : Int64) * mm) * mm) - (512 : Int64))), .second, .unset, .unset, .unset, .unset, .unset, .unset, .unset, .unset] [])) rfl (hb hby at_194) _ ?_
            show Steps p.tables e below (T85.setTop (mkF m 197 #[.val (.int z0), .val (.int z1), .val (.int z2), .val (.int z3), .val (.int z4), .val (.int z5), .val (.int nv), .val (.long mm), .second, .val (.double d7), .second, .val (.ref b70), .val (.long ((64 : Int64) * mm)), .second, .val (.long ((((16 : Int64) * mm) * mm) - (512 : Int64))), .second, .unset, .unset, .unset, .unset, .unset, .unset, .unset, .unset] [(.long (4 : Int64))])) _
            refine XS.lload X85.here hx rfl (hb hby at_197) rfl ?_
            show Steps p.tables e below (T85.setTop (mkF m 199 #[.val (.int z0), .val (.int z1), .val (.int z2), .val (.int z3), .val (.int z4), .val (.int z5), .val (.int nv), .val (.long mm), .second, .val (.double d7), .second, .val (.ref b70), .val (.long ((64 : Int64) * mm)), .second, .val (.long ((((16 : Int64) * mm) * mm) - (512 : Int64))), .second, .unset, .unset, .unset, .unset, .unset, .unset, .unset, .unset] [(.long mm), (.long (4 : Int64))])) _
            refine XS.lmul X85.here hx rfl (hb hby at_199) rfl ?_
            show Steps p.tables e below (T85.setTop (mkF m 200 #[.val (.int z0), .val (.int z1), .val (.int z2), .val (.int z3), .val (.int z4), .val (.int z5), .val (.int nv), .val (.long mm), .second, .val (.double d7), .second, .val (.ref b70), .val (.long ((64 : Int64) * mm)), .second, .val (.long ((((16 : Int64) * mm) * mm) - (512 : Int64))), .second, .unset, .unset, .unset, .unset, .unset, .unset, .unset, .unset] [(.long ((4 : Int64) * mm))])) _
            refine XS.lload X85.here hx rfl (hb hby at_200) rfl ?_
            show Steps p.tables e below (T85.setTop (mkF m 202 #[.val (.int z0), .val (.int z1), .val (.int z2), .val (.int z3), .val (.int z4), .val (.int z5), .val (.int nv), .val (.long mm), .second, .val (.double d7), .second, .val (.ref b70), .val (.long ((64 : Int64) * mm)), .second, .val (.long ((((16 : Int64) * mm) * mm) - (512 : Int64))), .second, .unset, .unset, .unset, .unset, .unset, .unset, .unset, .unset] [(.long mm), (.long ((4 : Int64) * mm))])) _
            refine XS.lmul X85.here hx rfl (hb hby at_202) rfl ?_
            show Steps p.tables e below (T85.setTop (mkF m 203 #[.val (.int z0), .val (.int z1), .val (.int z2), .val (.int z3), .val (.int z4), .val (.int z5), .val (.int nv), .val (.long mm), .second, .val (.double d7), .second, .val (.ref b70), .val (.long ((64 : Int64) * mm)), .second, .val (.long ((((16 : Int64) * mm) * mm) - (512 : Int64))), .second, .unset, .unset, .unset, .unset, .unset, .unset, .unset, .unset] [(.long (((4 : Int64) * mm) * mm))])) _
            refine XS.lload X85.here hx rfl (hb hby at_203) rfl ?_
            show Steps p.tables e below (T85.setTop (mkF m 205 #[.val (.int z0), .val (.int z1), .val (.int z2), .val (.int z3), .val (.int z4), .val (.int z5), .val (.int nv), .val (.long mm), .second, .val (.double d7), .second, .val (.ref b70), .val (.long ((64 : Int64) * mm)), .second, .val (.long ((((16 : Int64) * mm) * mm) - (512 : Int64))), .second, .unset, .unset, .unset, .unset, .unset, .unset, .unset, .unset] [(.long mm), (.long (((4 : Int64) * mm) * mm))])) _
            refine XS.lmul X85.here hx rfl (hb hby at_205) rfl ?_
            show Steps p.tables e below (T85.setTop (mkF m 206 #[.val (.int z0), .val (.int z1), .val (.int z2), .val (.int z3), .val (.int z4), .val (.int z5), .val (.int nv), .val (.long mm), .second, .val (.double d7), .second, .val (.ref b70), .val (.long ((64 : Int64) * mm)), .second, .val (.long ((((16 : Int64) * mm) * mm) - (512 : Int64))), .second, .unset, .unset, .unset, .unset, .unset, .unset, .unset, .unset] [(.long ((((4 : Int64) * mm) * mm) * mm))])) _
            refine X85.ldc2Long hx hown (mvT hZ (hw _ (List.mem_of_getElem? (i := 7) rfl))) (g := (mkF m 206 #[.val (.int z0), .val (.int z1), .val (.int z2), .val (.int z3), .val (.int z4), .val (.int z5), .val (.int nv), .val (.long mm), .second, .val (.double d7), .second, .val (.ref b70), .val (.long ((64 : Int64) * mm)), .second, .val (.long ((((16 : Int64) * mm) * mm) - (512 : Int64))), .second, .unset, .unset, .unset, .unset, .unset, .unset, .unset, .unset] [(.long ((((4 : Int64) * mm) * mm) * mm))])) rfl (hb hby at_206) _ ?_
            show Steps p.tables e below (T85.setTop (mkF m 209 #[.val (.int z0), .val (.int z1), .val (.int z2), .val (.int z3), .val (.int z4), .val (.int z5), .val (.int nv), .val (.long mm), .second, .val (.double d7), .second, .val (.ref b70), .val (.long ((64 : Int64) * mm)), .second, .val (.long ((((16 : Int64) * mm) * mm) - (512 : Int64))), .second, .unset, .unset, .unset, .unset, .unset, .unset, .unset, .unset] [(.long (192 : Int64)), (.long ((((4 : Int64) * mm) * mm) * mm))])) _
            refine XS.lload X85.here hx rfl (hb hby at_209) rfl ?_
            show Steps p.tables e below (T85.setTop (mkF m 211 #[.val (.int z0), .val (.int z1), .val (.int z2), .val (.int z3), .val (.int z4), .val (.int z5), .val (.int nv), .val (.long mm), .second, .val (.double d7), .second, .val (.ref b70), .val (.long ((64 : Int64) * mm)), .second, .val (.long ((((16 : Int64) * mm) * mm) - (512 : Int64))), .second, .unset, .unset, .unset, .unset, .unset, .unset, .unset, .unset] [(.long mm), (.long (192 : Int64)), (.long ((((4 : Int64) * mm) * mm) * mm))])) _
            refine XS.lmul X85.here hx rfl (hb hby at_211) rfl ?_
            show Steps p.tables e below (T85.setTop (mkF m 212 #[.val (.int z0), .val (.int z1), .val (.int z2), .val (.int z3), .val (.int z4), .val (.int z5), .val (.int nv), .val (.long mm), .second, .val (.double d7), .second, .val (.ref b70), .val (.long ((64 : Int64) * mm)), .second, .val (.long ((((16 : Int64) * mm) * mm) - (512 : Int64))), .second, .unset, .unset, .unset, .unset, .unset, .unset, .unset, .unset] [(.long ((192 : Int64) * mm)), (.long ((((4 : Int64) * mm) * mm) * mm))])) _
            refine XS.lsub X85.here hx rfl (hb hby at_212) rfl ?_
            show Steps p.tables e below (T85.setTop (mkF m 213 #[.val (.int z0), .val (.int z1), .val (.int z2), .val (.int z3), .val (.int z4), .val (.int z5), .val (.int nv), .val (.long mm), .second, .val (.double d7), .second, .val (.ref b70), .val (.long ((64 : Int64) * mm)), .second, .val (.long ((((16 : Int64) * mm) * mm) - (512 : Int64))), .second, .unset, .unset, .unset, .unset, .unset, .unset, .unset, .unset] [(.long (((((4 : Int64) * mm) * mm) * mm) - ((192 : Int64) * mm)))])) _
            refine XS.lstore X85.here hx rfl (hb hby at_213) rfl (l' := #[.val (.int z0), .val (.int z1), .val (.int z2), .val (.int z3), .val (.int z4), .val (.int z5), .val (.int nv), .val (.long mm), .second, .val (.double d7), .second, .val (.ref b70), .val (.long ((64 : Int64) * mm)), .second, .val (.long ((((16 : Int64) * mm) * mm) - (512 : Int64))), .second, .val (.long (((((4 : Int64) * mm) * mm) * mm) - ((192 : Int64) * mm))), .second, .unset, .unset, .unset, .unset, .unset, .unset]) rfl ?_
            show Steps p.tables e below (T85.setTop (mkF m 215 #[.val (.int z0), .val (.int z1), .val (.int z2), .val (.int z3), .val (.int z4), .val (.int z5), .val (.int nv), .val (.long mm), .second, .val (.double d7), .second, .val (.ref b70), .val (.long ((64 : Int64) * mm)), .second, .val (.long ((((16 : Int64) * mm) * mm) - (512 : Int64))), .second, .val (.long (((((4 : Int64) * mm) * mm) * mm) - ((192 : Int64) * mm))), .second, .unset, .unset, .unset, .unset, .unset, .unset] [])) _
            refine XS.lload X85.here hx rfl (hb hby at_215) rfl ?_
            show Steps p.tables e below (T85.setTop (mkF m 217 #[.val (.int z0), .val (.int z1), .val (.int z2), .val (.int z3), .val (.int z4), .val (.int z5), .val (.int nv), .val (.long mm), .second, .val (.double d7), .second, .val (.ref b70), .val (.long ((64 : Int64) * mm)), .second, .val (.long ((((16 : Int64) * mm) * mm) - (512 : Int64))), .second, .val (.long (((((4 : Int64) * mm) * mm) * mm) - ((192 : Int64) * mm))), .second, .unset, .unset, .unset, .unset, .unset, .unset] [(.long mm)])) _
            refine XS.lload X85.here hx rfl (hb hby at_217) rfl ?_
            show Steps p.tables e below (T85.setTop (mkF m 219 #[.val (.int z0), .val (.int z1), .val (.int z2), .val (.int z3), .val (.int z4), .val (.int z5), .val (.int nv), .val (.long mm), .second, .val (.double d7), .second, .val (.ref b70), .val (.long ((64 : Int64) * mm)), .second, .val (.long ((((16 : Int64) * mm) * mm) - (512 : Int64))), .second, .val (.long (((((4 : Int64) * mm) * mm) * mm) - ((192 : Int64) * mm))), .second, .unset, .unset, .unset, .unset, .unset, .unset] [(.long mm), (.long mm)])) _
            refine XS.lmul X85.here hx rfl (hb hby at_219) rfl ?_
            show Steps p.tables e below (T85.setTop (mkF m 220 #[.val (.int z0), .val (.int z1), .val (.int z2), .val (.int z3), .val (.int z4), .val (.int z5), .val (.int nv), .val (.long mm), .second, .val (.double d7), .second, .val (.ref b70), .val (.long ((64 : Int64) * mm)), .second, .val (.long ((((16 : Int64) * mm) * mm) - (512 : Int64))), .second, .val (.long (((((4 : Int64) * mm) * mm) * mm) - ((192 : Int64) * mm))), .second, .unset, .unset, .unset, .unset, .unset, .unset] [(.long (mm * mm))])) _
            refine XS.lload X85.here hx rfl (hb hby at_220) rfl ?_
            show Steps p.tables e below (T85.setTop (mkF m 222 #[.val (.int z0), .val (.int z1), .val (.int z2), .val (.int z3), .val (.int z4), .val (.int z5), .val (.int nv), .val (.long mm), .second, .val (.double d7), .second, .val (.ref b70), .val (.long ((64 : Int64) * mm)), .second, .val (.long ((((16 : Int64) * mm) * mm) - (512 : Int64))), .second, .val (.long (((((4 : Int64) * mm) * mm) * mm) - ((192 : Int64) * mm))), .second, .unset, .unset, .unset, .unset, .unset, .unset] [(.long mm), (.long (mm * mm))])) _
            refine XS.lmul X85.here hx rfl (hb hby at_222) rfl ?_
            show Steps p.tables e below (T85.setTop (mkF m 223 #[.val (.int z0), .val (.int z1), .val (.int z2), .val (.int z3), .val (.int z4), .val (.int z5), .val (.int nv), .val (.long mm), .second, .val (.double d7), .second, .val (.ref b70), .val (.long ((64 : Int64) * mm)), .second, .val (.long ((((16 : Int64) * mm) * mm) - (512 : Int64))), .second, .val (.long (((((4 : Int64) * mm) * mm) * mm) - ((192 : Int64) * mm))), .second, .unset, .unset, .unset, .unset, .unset, .unset] [(.long ((mm * mm) * mm))])) _
            refine XS.lload X85.here hx rfl (hb hby at_223) rfl ?_
            show Steps p.tables e below (T85.setTop (mkF m 225 #[.val (.int z0), .val (.int z1), .val (.int z2), .val (.int z3), .val (.int z4), .val (.int z5), .val (.int nv), .val (.long mm), .second, .val (.double d7), .second, .val (.ref b70), .val (.long ((64 : Int64) * mm)), .second, .val (.long ((((16 : Int64) * mm) * mm) - (512 : Int64))), .second, .val (.long (((((4 : Int64) * mm) * mm) * mm) - ((192 : Int64) * mm))), .second, .unset, .unset, .unset, .unset, .unset, .unset] [(.long mm), (.long ((mm * mm) * mm))])) _
            refine XS.lmul X85.here hx rfl (hb hby at_225) rfl ?_
            show Steps p.tables e below (T85.setTop (mkF m 226 #[.val (.int z0), .val (.int z1), .val (.int z2), .val (.int z3), .val (.int z4), .val (.int z5), .val (.int nv), .val (.long mm), .second, .val (.double d7), .second, .val (.ref b70), .val (.long ((64 : Int64) * mm)), .second, .val (.long ((((16 : Int64) * mm) * mm) - (512 : Int64))), .second, .val (.long (((((4 : Int64) * mm) * mm) * mm) - ((192 : Int64) * mm))), .second, .unset, .unset, .unset, .unset, .unset, .unset] [(.long (((mm * mm) * mm) * mm))])) _
            refine X85.ldc2Long hx hown (mvT hZ (hw _ (List.mem_of_getElem? (i := 3) rfl))) (g := (mkF m 226 #[.val (.int z0), .val (.int z1), .val (.int z2), .val (.int z3), .val (.int z4), .val (.int z5), .val (.int nv), .val (.long mm), .second, .val (.double d7), .second, .val (.ref b70), .val (.long ((64 : Int64) * mm)), .second, .val (.long ((((16 : Int64) * mm) * mm) - (512 : Int64))), .second, .val (.long (((((4 : Int64) * mm) * mm) * mm) - ((192 : Int64) * mm))), .second, .unset, .unset, .unset, .unset, .unset, .unset] [(.long (((mm * mm) * mm) * mm))])) rfl (hb hby at_226) _ ?_
            show Steps p.tables e below (T85.setTop (mkF m 229 #[.val (.int z0), .val (.int z1), .val (.int z2), .val (.int z3), .val (.int z4), .val (.int z5), .val (.int nv), .val (.long mm), .second, .val (.double d7), .second, .val (.ref b70), .val (.long ((64 : Int64) * mm)), .second, .val (.long ((((16 : Int64) * mm) * mm) - (512 : Int64))), .second, .val (.long (((((4 : Int64) * mm) * mm) * mm) - ((192 : Int64) * mm))), .second, .unset, .unset, .unset, .unset, .unset, .unset] [(.long (64 : Int64)), (.long (((mm * mm) * mm) * mm))])) _
            refine XS.lload X85.here hx rfl (hb hby at_229) rfl ?_
            show Steps p.tables e below (T85.setTop (mkF m 231 #[.val (.int z0), .val (.int z1), .val (.int z2), .val (.int z3), .val (.int z4), .val (.int z5), .val (.int nv), .val (.long mm), .second, .val (.double d7), .second, .val (.ref b70), .val (.long ((64 : Int64) * mm)), .second, .val (.long ((((16 : Int64) * mm) * mm) - (512 : Int64))), .second, .val (.long (((((4 : Int64) * mm) * mm) * mm) - ((192 : Int64) * mm))), .second, .unset, .unset, .unset, .unset, .unset, .unset] [(.long mm), (.long (64 : Int64)), (.long (((mm * mm) * mm) * mm))])) _
            refine XS.lmul X85.here hx rfl (hb hby at_231) rfl ?_
            show Steps p.tables e below (T85.setTop (mkF m 232 #[.val (.int z0), .val (.int z1), .val (.int z2), .val (.int z3), .val (.int z4), .val (.int z5), .val (.int nv), .val (.long mm), .second, .val (.double d7), .second, .val (.ref b70), .val (.long ((64 : Int64) * mm)), .second, .val (.long ((((16 : Int64) * mm) * mm) - (512 : Int64))), .second, .val (.long (((((4 : Int64) * mm) * mm) * mm) - ((192 : Int64) * mm))), .second, .unset, .unset, .unset, .unset, .unset, .unset] [(.long ((64 : Int64) * mm)), (.long (((mm * mm) * mm) * mm))])) _
            refine XS.lload X85.here hx rfl (hb hby at_232) rfl ?_
            show Steps p.tables e below (T85.setTop (mkF m 234 #[.val (.int z0), .val (.int z1), .val (.int z2), .val (.int z3), .val (.int z4), .val (.int z5), .val (.int nv), .val (.long mm), .second, .val (.double d7), .second, .val (.ref b70), .val (.long ((64 : Int64) * mm)), .second, .val (.long ((((16 : Int64) * mm) * mm) - (512 : Int64))), .second, .val (.long (((((4 : Int64) * mm) * mm) * mm) - ((192 : Int64) * mm))), .second, .unset, .unset, .unset, .unset, .unset, .unset] [(.long mm), (.long ((64 : Int64) * mm)), (.long (((mm * mm) * mm) * mm))])) _
            refine XS.lmul X85.here hx rfl (hb hby at_234) rfl ?_
            show Steps p.tables e below (T85.setTop (mkF m 235 #[.val (.int z0), .val (.int z1), .val (.int z2), .val (.int z3), .val (.int z4), .val (.int z5), .val (.int nv), .val (.long mm), .second, .val (.double d7), .second, .val (.ref b70), .val (.long ((64 : Int64) * mm)), .second, .val (.long ((((16 : Int64) * mm) * mm) - (512 : Int64))), .second, .val (.long (((((4 : Int64) * mm) * mm) * mm) - ((192 : Int64) * mm))), .second, .unset, .unset, .unset, .unset, .unset, .unset] [(.long (((64 : Int64) * mm) * mm)), (.long (((mm * mm) * mm) * mm))])) _
            refine XS.lsub X85.here hx rfl (hb hby at_235) rfl ?_
            show Steps p.tables e below (T85.setTop (mkF m 236 #[.val (.int z0), .val (.int z1), .val (.int z2), .val (.int z3), .val (.int z4), .val (.int z5), .val (.int nv), .val (.long mm), .second, .val (.double d7), .second, .val (.ref b70), .val (.long ((64 : Int64) * mm)), .second, .val (.long ((((16 : Int64) * mm) * mm) - (512 : Int64))), .second, .val (.long (((((4 : Int64) * mm) * mm) * mm) - ((192 : Int64) * mm))), .second, .unset, .unset, .unset, .unset, .unset, .unset] [(.long ((((mm * mm) * mm) * mm) - (((64 : Int64) * mm) * mm)))])) _
            refine X85.ldc2Long hx hown (mvT hZ (hw _ (List.mem_of_getElem? (i := 5) rfl))) (g := (mkF m 236 #[.val (.int z0), .val (.int z1), .val (.int z2), .val (.int z3), .val (.int z4), .val (.int z5), .val (.int nv), .val (.long mm), .second, .val (.double d7), .second, .val (.ref b70), .val (.long ((64 : Int64) * mm)), .second, .val (.long ((((16 : Int64) * mm) * mm) - (512 : Int64))), .second, .val (.long (((((4 : Int64) * mm) * mm) * mm) - ((192 : Int64) * mm))), .second, .unset, .unset, .unset, .unset, .unset, .unset] [(.long ((((mm * mm) * mm) * mm) - (((64 : Int64) * mm) * mm)))])) rfl (hb hby at_236) _ ?_
            show Steps p.tables e below (T85.setTop (mkF m 239 #[.val (.int z0), .val (.int z1), .val (.int z2), .val (.int z3), .val (.int z4), .val (.int z5), .val (.int nv), .val (.long mm), .second, .val (.double d7), .second, .val (.ref b70), .val (.long ((64 : Int64) * mm)), .second, .val (.long ((((16 : Int64) * mm) * mm) - (512 : Int64))), .second, .val (.long (((((4 : Int64) * mm) * mm) * mm) - ((192 : Int64) * mm))), .second, .unset, .unset, .unset, .unset, .unset, .unset] [(.long (512 : Int64)), (.long ((((mm * mm) * mm) * mm) - (((64 : Int64) * mm) * mm)))])) _
            refine XS.ladd X85.here hx rfl (hb hby at_239) rfl ?_
            show Steps p.tables e below (T85.setTop (mkF m 240 #[.val (.int z0), .val (.int z1), .val (.int z2), .val (.int z3), .val (.int z4), .val (.int z5), .val (.int nv), .val (.long mm), .second, .val (.double d7), .second, .val (.ref b70), .val (.long ((64 : Int64) * mm)), .second, .val (.long ((((16 : Int64) * mm) * mm) - (512 : Int64))), .second, .val (.long (((((4 : Int64) * mm) * mm) * mm) - ((192 : Int64) * mm))), .second, .unset, .unset, .unset, .unset, .unset, .unset] [(.long (((((mm * mm) * mm) * mm) - (((64 : Int64) * mm) * mm)) + (512 : Int64)))])) _
            refine XS.lstore X85.here hx rfl (hb hby at_240) rfl (l' := #[.val (.int z0), .val (.int z1), .val (.int z2), .val (.int z3), .val (.int z4), .val (.int z5), .val (.int nv), .val (.long mm), .second, .val (.double d7), .second, .val (.ref b70), .val (.long ((64 : Int64) * mm)), .second, .val (.long ((((16 : Int64) * mm) * mm) - (512 : Int64))), .second, .val (.long (((((4 : Int64) * mm) * mm) * mm) - ((192 : Int64) * mm))), .second, .val (.long (((((mm * mm) * mm) * mm) - (((64 : Int64) * mm) * mm)) + (512 : Int64))), .second, .unset, .unset, .unset, .unset]) rfl ?_
            show Steps p.tables e below (T85.setTop (mkF m 242 #[.val (.int z0), .val (.int z1), .val (.int z2), .val (.int z3), .val (.int z4), .val (.int z5), .val (.int nv), .val (.long mm), .second, .val (.double d7), .second, .val (.ref b70), .val (.long ((64 : Int64) * mm)), .second, .val (.long ((((16 : Int64) * mm) * mm) - (512 : Int64))), .second, .val (.long (((((4 : Int64) * mm) * mm) * mm) - ((192 : Int64) * mm))), .second, .val (.long (((((mm * mm) * mm) * mm) - (((64 : Int64) * mm) * mm)) + (512 : Int64))), .second, .unset, .unset, .unset, .unset] [])) _
            refine X85.ldc2Long hx hown (mvT hZ (hw _ (List.mem_of_getElem? (i := 5) rfl))) (g := (mkF m 242 #[.val (.int z0), .val (.int z1), .val (.int z2), .val (.int z3), .val (.int z4), .val (.int z5), .val (.int nv), .val (.long mm), .second, .val (.double d7), .second, .val (.ref b70), .val (.long ((64 : Int64) * mm)), .second, .val (.long ((((16 : Int64) * mm) * mm) - (512 : Int64))), .second, .val (.long (((((4 : Int64) * mm) * mm) * mm) - ((192 : Int64) * mm))), .second, .val (.long (((((mm * mm) * mm) * mm) - (((64 : Int64) * mm) * mm)) + (512 : Int64))), .second, .unset, .unset, .unset, .unset] [])) rfl (hb hby at_242) _ ?_
            show Steps p.tables e below (T85.setTop (mkF m 245 #[.val (.int z0), .val (.int z1), .val (.int z2), .val (.int z3), .val (.int z4), .val (.int z5), .val (.int nv), .val (.long mm), .second, .val (.double d7), .second, .val (.ref b70), .val (.long ((64 : Int64) * mm)), .second, .val (.long ((((16 : Int64) * mm) * mm) - (512 : Int64))), .second, .val (.long (((((4 : Int64) * mm) * mm) * mm) - ((192 : Int64) * mm))), .second, .val (.long (((((mm * mm) * mm) * mm) - (((64 : Int64) * mm) * mm)) + (512 : Int64))), .second, .unset, .unset, .unset, .unset] [(.long (512 : Int64))])) _
            refine XS.iloadN X85.here hx rfl (hb hby at_245) rfl ?_
            show Steps p.tables e below (T85.setTop (mkF m 246 #[.val (.int z0), .val (.int z1), .val (.int z2), .val (.int z3), .val (.int z4), .val (.int z5), .val (.int nv), .val (.long mm), .second, .val (.double d7), .second, .val (.ref b70), .val (.long ((64 : Int64) * mm)), .second, .val (.long ((((16 : Int64) * mm) * mm) - (512 : Int64))), .second, .val (.long (((((4 : Int64) * mm) * mm) * mm) - ((192 : Int64) * mm))), .second, .val (.long (((((mm * mm) * mm) * mm) - (((64 : Int64) * mm) * mm)) + (512 : Int64))), .second, .unset, .unset, .unset, .unset] [(.int z1), (.long (512 : Int64))])) _
            refine XS.i2l X85.here hx rfl (hb hby at_246) rfl ?_
            show Steps p.tables e below (T85.setTop (mkF m 247 #[.val (.int z0), .val (.int z1), .val (.int z2), .val (.int z3), .val (.int z4), .val (.int z5), .val (.int nv), .val (.long mm), .second, .val (.double d7), .second, .val (.ref b70), .val (.long ((64 : Int64) * mm)), .second, .val (.long ((((16 : Int64) * mm) * mm) - (512 : Int64))), .second, .val (.long (((((4 : Int64) * mm) * mm) * mm) - ((192 : Int64) * mm))), .second, .val (.long (((((mm * mm) * mm) * mm) - (((64 : Int64) * mm) * mm)) + (512 : Int64))), .second, .unset, .unset, .unset, .unset] [(.long (z1.toInt64)), (.long (512 : Int64))])) _
            refine XS.lmul X85.here hx rfl (hb hby at_247) rfl ?_
            show Steps p.tables e below (T85.setTop (mkF m 248 #[.val (.int z0), .val (.int z1), .val (.int z2), .val (.int z3), .val (.int z4), .val (.int z5), .val (.int nv), .val (.long mm), .second, .val (.double d7), .second, .val (.ref b70), .val (.long ((64 : Int64) * mm)), .second, .val (.long ((((16 : Int64) * mm) * mm) - (512 : Int64))), .second, .val (.long (((((4 : Int64) * mm) * mm) * mm) - ((192 : Int64) * mm))), .second, .val (.long (((((mm * mm) * mm) * mm) - (((64 : Int64) * mm) * mm)) + (512 : Int64))), .second, .unset, .unset, .unset, .unset] [(.long ((512 : Int64) * (z1.toInt64)))])) _
            refine XS.lstore X85.here hx rfl (hb hby at_248) rfl (l' := #[.val (.int z0), .val (.int z1), .val (.int z2), .val (.int z3), .val (.int z4), .val (.int z5), .val (.int nv), .val (.long mm), .second, .val (.double d7), .second, .val (.ref b70), .val (.long ((64 : Int64) * mm)), .second, .val (.long ((((16 : Int64) * mm) * mm) - (512 : Int64))), .second, .val (.long (((((4 : Int64) * mm) * mm) * mm) - ((192 : Int64) * mm))), .second, .val (.long (((((mm * mm) * mm) * mm) - (((64 : Int64) * mm) * mm)) + (512 : Int64))), .second, .val (.long ((512 : Int64) * (z1.toInt64))), .second, .unset, .unset]) rfl ?_
            show Steps p.tables e below (T85.setTop (mkF m 250 #[.val (.int z0), .val (.int z1), .val (.int z2), .val (.int z3), .val (.int z4), .val (.int z5), .val (.int nv), .val (.long mm), .second, .val (.double d7), .second, .val (.ref b70), .val (.long ((64 : Int64) * mm)), .second, .val (.long ((((16 : Int64) * mm) * mm) - (512 : Int64))), .second, .val (.long (((((4 : Int64) * mm) * mm) * mm) - ((192 : Int64) * mm))), .second, .val (.long (((((mm * mm) * mm) * mm) - (((64 : Int64) * mm) * mm)) + (512 : Int64))), .second, .val (.long ((512 : Int64) * (z1.toInt64))), .second, .unset, .unset] [])) _
            refine XS.iload X85.here hx rfl (hb hby at_250) rfl ?_
            show Steps p.tables e below (T85.setTop (mkF m 252 #[.val (.int z0), .val (.int z1), .val (.int z2), .val (.int z3), .val (.int z4), .val (.int z5), .val (.int nv), .val (.long mm), .second, .val (.double d7), .second, .val (.ref b70), .val (.long ((64 : Int64) * mm)), .second, .val (.long ((((16 : Int64) * mm) * mm) - (512 : Int64))), .second, .val (.long (((((4 : Int64) * mm) * mm) * mm) - ((192 : Int64) * mm))), .second, .val (.long (((((mm * mm) * mm) * mm) - (((64 : Int64) * mm) * mm)) + (512 : Int64))), .second, .val (.long ((512 : Int64) * (z1.toInt64))), .second, .unset, .unset] [(.int nv)])) _
            refine XS.iconst X85.here hx rfl (hb hby at_252) ?_
            show Steps p.tables e below (T85.setTop (mkF m 253 #[.val (.int z0), .val (.int z1), .val (.int z2), .val (.int z3), .val (.int z4), .val (.int z5), .val (.int nv), .val (.long mm), .second, .val (.double d7), .second, .val (.ref b70), .val (.long ((64 : Int64) * mm)), .second, .val (.long ((((16 : Int64) * mm) * mm) - (512 : Int64))), .second, .val (.long (((((4 : Int64) * mm) * mm) * mm) - ((192 : Int64) * mm))), .second, .val (.long (((((mm * mm) * mm) * mm) - (((64 : Int64) * mm) * mm)) + (512 : Int64))), .second, .val (.long ((512 : Int64) * (z1.toInt64))), .second, .unset, .unset] [(.int (2 : Int32)), (.int nv)])) _
            refine XS.icmpNo X85.here hx rfl (hb hby at_253) rfl (flt (by rw [hn5]; decide : ¬ (nv < (2 : Int32)))).1 ?_
            show Steps p.tables e below (T85.setTop (mkF m 256 #[.val (.int z0), .val (.int z1), .val (.int z2), .val (.int z3), .val (.int z4), .val (.int z5), .val (.int nv), .val (.long mm), .second, .val (.double d7), .second, .val (.ref b70), .val (.long ((64 : Int64) * mm)), .second, .val (.long ((((16 : Int64) * mm) * mm) - (512 : Int64))), .second, .val (.long (((((4 : Int64) * mm) * mm) * mm) - ((192 : Int64) * mm))), .second, .val (.long (((((mm * mm) * mm) * mm) - (((64 : Int64) * mm) * mm)) + (512 : Int64))), .second, .val (.long ((512 : Int64) * (z1.toInt64))), .second, .unset, .unset] [])) _
            refine XS.lload X85.here hx rfl (hb hby at_256) rfl ?_
            show Steps p.tables e below (T85.setTop (mkF m 258 #[.val (.int z0), .val (.int z1), .val (.int z2), .val (.int z3), .val (.int z4), .val (.int z5), .val (.int nv), .val (.long mm), .second, .val (.double d7), .second, .val (.ref b70), .val (.long ((64 : Int64) * mm)), .second, .val (.long ((((16 : Int64) * mm) * mm) - (512 : Int64))), .second, .val (.long (((((4 : Int64) * mm) * mm) * mm) - ((192 : Int64) * mm))), .second, .val (.long (((((mm * mm) * mm) * mm) - (((64 : Int64) * mm) * mm)) + (512 : Int64))), .second, .val (.long ((512 : Int64) * (z1.toInt64))), .second, .unset, .unset] [(.long ((512 : Int64) * (z1.toInt64)))])) _
            refine XS.iloadN X85.here hx rfl (hb hby at_258) rfl ?_
            show Steps p.tables e below (T85.setTop (mkF m 259 #[.val (.int z0), .val (.int z1), .val (.int z2), .val (.int z3), .val (.int z4), .val (.int z5), .val (.int nv), .val (.long mm), .second, .val (.double d7), .second, .val (.ref b70), .val (.long ((64 : Int64) * mm)), .second, .val (.long ((((16 : Int64) * mm) * mm) - (512 : Int64))), .second, .val (.long (((((4 : Int64) * mm) * mm) * mm) - ((192 : Int64) * mm))), .second, .val (.long (((((mm * mm) * mm) * mm) - (((64 : Int64) * mm) * mm)) + (512 : Int64))), .second, .val (.long ((512 : Int64) * (z1.toInt64))), .second, .unset, .unset] [(.int z2), (.long ((512 : Int64) * (z1.toInt64)))])) _
            refine XS.i2l X85.here hx rfl (hb hby at_259) rfl ?_
            show Steps p.tables e below (T85.setTop (mkF m 260 #[.val (.int z0), .val (.int z1), .val (.int z2), .val (.int z3), .val (.int z4), .val (.int z5), .val (.int nv), .val (.long mm), .second, .val (.double d7), .second, .val (.ref b70), .val (.long ((64 : Int64) * mm)), .second, .val (.long ((((16 : Int64) * mm) * mm) - (512 : Int64))), .second, .val (.long (((((4 : Int64) * mm) * mm) * mm) - ((192 : Int64) * mm))), .second, .val (.long (((((mm * mm) * mm) * mm) - (((64 : Int64) * mm) * mm)) + (512 : Int64))), .second, .val (.long ((512 : Int64) * (z1.toInt64))), .second, .unset, .unset] [(.long (z2.toInt64)), (.long ((512 : Int64) * (z1.toInt64)))])) _
            refine XS.lload X85.here hx rfl (hb hby at_260) rfl ?_
            show Steps p.tables e below (T85.setTop (mkF m 262 #[.val (.int z0), .val (.int z1), .val (.int z2), .val (.int z3), .val (.int z4), .val (.int z5), .val (.int nv), .val (.long mm), .second, .val (.double d7), .second, .val (.ref b70), .val (.long ((64 : Int64) * mm)), .second, .val (.long ((((16 : Int64) * mm) * mm) - (512 : Int64))), .second, .val (.long (((((4 : Int64) * mm) * mm) * mm) - ((192 : Int64) * mm))), .second, .val (.long (((((mm * mm) * mm) * mm) - (((64 : Int64) * mm) * mm)) + (512 : Int64))), .second, .val (.long ((512 : Int64) * (z1.toInt64))), .second, .unset, .unset] [(.long ((64 : Int64) * mm)), (.long (z2.toInt64)), (.long ((512 : Int64) * (z1.toInt64)))])) _
            refine XS.lmul X85.here hx rfl (hb hby at_262) rfl ?_
            show Steps p.tables e below (T85.setTop (mkF m 263 #[.val (.int z0), .val (.int z1), .val (.int z2), .val (.int z3), .val (.int z4), .val (.int z5), .val (.int nv), .val (.long mm), .second, .val (.double d7), .second, .val (.ref b70), .val (.long ((64 : Int64) * mm)), .second, .val (.long ((((16 : Int64) * mm) * mm) - (512 : Int64))), .second, .val (.long (((((4 : Int64) * mm) * mm) * mm) - ((192 : Int64) * mm))), .second, .val (.long (((((mm * mm) * mm) * mm) - (((64 : Int64) * mm) * mm)) + (512 : Int64))), .second, .val (.long ((512 : Int64) * (z1.toInt64))), .second, .unset, .unset] [(.long ((z2.toInt64) * ((64 : Int64) * mm))), (.long ((512 : Int64) * (z1.toInt64)))])) _
            refine XS.ladd X85.here hx rfl (hb hby at_263) rfl ?_
            show Steps p.tables e below (T85.setTop (mkF m 264 #[.val (.int z0), .val (.int z1), .val (.int z2), .val (.int z3), .val (.int z4), .val (.int z5), .val (.int nv), .val (.long mm), .second, .val (.double d7), .second, .val (.ref b70), .val (.long ((64 : Int64) * mm)), .second, .val (.long ((((16 : Int64) * mm) * mm) - (512 : Int64))), .second, .val (.long (((((4 : Int64) * mm) * mm) * mm) - ((192 : Int64) * mm))), .second, .val (.long (((((mm * mm) * mm) * mm) - (((64 : Int64) * mm) * mm)) + (512 : Int64))), .second, .val (.long ((512 : Int64) * (z1.toInt64))), .second, .unset, .unset] [(.long (((512 : Int64) * (z1.toInt64)) + ((z2.toInt64) * ((64 : Int64) * mm))))])) _
            refine XS.lstore X85.here hx rfl (hb hby at_264) rfl (l' := #[.val (.int z0), .val (.int z1), .val (.int z2), .val (.int z3), .val (.int z4), .val (.int z5), .val (.int nv), .val (.long mm), .second, .val (.double d7), .second, .val (.ref b70), .val (.long ((64 : Int64) * mm)), .second, .val (.long ((((16 : Int64) * mm) * mm) - (512 : Int64))), .second, .val (.long (((((4 : Int64) * mm) * mm) * mm) - ((192 : Int64) * mm))), .second, .val (.long (((((mm * mm) * mm) * mm) - (((64 : Int64) * mm) * mm)) + (512 : Int64))), .second, .val (.long (((512 : Int64) * (z1.toInt64)) + ((z2.toInt64) * ((64 : Int64) * mm)))), .second, .unset, .unset]) rfl ?_
            show Steps p.tables e below (T85.setTop (mkF m 266 #[.val (.int z0), .val (.int z1), .val (.int z2), .val (.int z3), .val (.int z4), .val (.int z5), .val (.int nv), .val (.long mm), .second, .val (.double d7), .second, .val (.ref b70), .val (.long ((64 : Int64) * mm)), .second, .val (.long ((((16 : Int64) * mm) * mm) - (512 : Int64))), .second, .val (.long (((((4 : Int64) * mm) * mm) * mm) - ((192 : Int64) * mm))), .second, .val (.long (((((mm * mm) * mm) * mm) - (((64 : Int64) * mm) * mm)) + (512 : Int64))), .second, .val (.long (((512 : Int64) * (z1.toInt64)) + ((z2.toInt64) * ((64 : Int64) * mm)))), .second, .unset, .unset] [])) _
            refine XS.iload X85.here hx rfl (hb hby at_266) rfl ?_
            show Steps p.tables e below (T85.setTop (mkF m 268 #[.val (.int z0), .val (.int z1), .val (.int z2), .val (.int z3), .val (.int z4), .val (.int z5), .val (.int nv), .val (.long mm), .second, .val (.double d7), .second, .val (.ref b70), .val (.long ((64 : Int64) * mm)), .second, .val (.long ((((16 : Int64) * mm) * mm) - (512 : Int64))), .second, .val (.long (((((4 : Int64) * mm) * mm) * mm) - ((192 : Int64) * mm))), .second, .val (.long (((((mm * mm) * mm) * mm) - (((64 : Int64) * mm) * mm)) + (512 : Int64))), .second, .val (.long (((512 : Int64) * (z1.toInt64)) + ((z2.toInt64) * ((64 : Int64) * mm)))), .second, .unset, .unset] [(.int nv)])) _
            refine XS.iconst X85.here hx rfl (hb hby at_268) ?_
            show Steps p.tables e below (T85.setTop (mkF m 269 #[.val (.int z0), .val (.int z1), .val (.int z2), .val (.int z3), .val (.int z4), .val (.int z5), .val (.int nv), .val (.long mm), .second, .val (.double d7), .second, .val (.ref b70), .val (.long ((64 : Int64) * mm)), .second, .val (.long ((((16 : Int64) * mm) * mm) - (512 : Int64))), .second, .val (.long (((((4 : Int64) * mm) * mm) * mm) - ((192 : Int64) * mm))), .second, .val (.long (((((mm * mm) * mm) * mm) - (((64 : Int64) * mm) * mm)) + (512 : Int64))), .second, .val (.long (((512 : Int64) * (z1.toInt64)) + ((z2.toInt64) * ((64 : Int64) * mm)))), .second, .unset, .unset] [(.int (3 : Int32)), (.int nv)])) _
            refine XS.icmpNo X85.here hx rfl (hb hby at_269) rfl (flt (by rw [hn5]; decide : ¬ (nv < (3 : Int32)))).1 ?_
            show Steps p.tables e below (T85.setTop (mkF m 272 #[.val (.int z0), .val (.int z1), .val (.int z2), .val (.int z3), .val (.int z4), .val (.int z5), .val (.int nv), .val (.long mm), .second, .val (.double d7), .second, .val (.ref b70), .val (.long ((64 : Int64) * mm)), .second, .val (.long ((((16 : Int64) * mm) * mm) - (512 : Int64))), .second, .val (.long (((((4 : Int64) * mm) * mm) * mm) - ((192 : Int64) * mm))), .second, .val (.long (((((mm * mm) * mm) * mm) - (((64 : Int64) * mm) * mm)) + (512 : Int64))), .second, .val (.long (((512 : Int64) * (z1.toInt64)) + ((z2.toInt64) * ((64 : Int64) * mm)))), .second, .unset, .unset] [])) _
            refine XS.lload X85.here hx rfl (hb hby at_272) rfl ?_
            show Steps p.tables e below (T85.setTop (mkF m 274 #[.val (.int z0), .val (.int z1), .val (.int z2), .val (.int z3), .val (.int z4), .val (.int z5), .val (.int nv), .val (.long mm), .second, .val (.double d7), .second, .val (.ref b70), .val (.long ((64 : Int64) * mm)), .second, .val (.long ((((16 : Int64) * mm) * mm) - (512 : Int64))), .second, .val (.long (((((4 : Int64) * mm) * mm) * mm) - ((192 : Int64) * mm))), .second, .val (.long (((((mm * mm) * mm) * mm) - (((64 : Int64) * mm) * mm)) + (512 : Int64))), .second, .val (.long (((512 : Int64) * (z1.toInt64)) + ((z2.toInt64) * ((64 : Int64) * mm)))), .second, .unset, .unset] [(.long (((512 : Int64) * (z1.toInt64)) + ((z2.toInt64) * ((64 : Int64) * mm))))])) _
            refine XS.iloadN X85.here hx rfl (hb hby at_274) rfl ?_
            show Steps p.tables e below (T85.setTop (mkF m 275 #[.val (.int z0), .val (.int z1), .val (.int z2), .val (.int z3), .val (.int z4), .val (.int z5), .val (.int nv), .val (.long mm), .second, .val (.double d7), .second, .val (.ref b70), .val (.long ((64 : Int64) * mm)), .second, .val (.long ((((16 : Int64) * mm) * mm) - (512 : Int64))), .second, .val (.long (((((4 : Int64) * mm) * mm) * mm) - ((192 : Int64) * mm))), .second, .val (.long (((((mm * mm) * mm) * mm) - (((64 : Int64) * mm) * mm)) + (512 : Int64))), .second, .val (.long (((512 : Int64) * (z1.toInt64)) + ((z2.toInt64) * ((64 : Int64) * mm)))), .second, .unset, .unset] [(.int z3), (.long (((512 : Int64) * (z1.toInt64)) + ((z2.toInt64) * ((64 : Int64) * mm))))])) _
            refine XS.i2l X85.here hx rfl (hb hby at_275) rfl ?_
            show Steps p.tables e below (T85.setTop (mkF m 276 #[.val (.int z0), .val (.int z1), .val (.int z2), .val (.int z3), .val (.int z4), .val (.int z5), .val (.int nv), .val (.long mm), .second, .val (.double d7), .second, .val (.ref b70), .val (.long ((64 : Int64) * mm)), .second, .val (.long ((((16 : Int64) * mm) * mm) - (512 : Int64))), .second, .val (.long (((((4 : Int64) * mm) * mm) * mm) - ((192 : Int64) * mm))), .second, .val (.long (((((mm * mm) * mm) * mm) - (((64 : Int64) * mm) * mm)) + (512 : Int64))), .second, .val (.long (((512 : Int64) * (z1.toInt64)) + ((z2.toInt64) * ((64 : Int64) * mm)))), .second, .unset, .unset] [(.long (z3.toInt64)), (.long (((512 : Int64) * (z1.toInt64)) + ((z2.toInt64) * ((64 : Int64) * mm))))])) _
            refine XS.lload X85.here hx rfl (hb hby at_276) rfl ?_
            show Steps p.tables e below (T85.setTop (mkF m 278 #[.val (.int z0), .val (.int z1), .val (.int z2), .val (.int z3), .val (.int z4), .val (.int z5), .val (.int nv), .val (.long mm), .second, .val (.double d7), .second, .val (.ref b70), .val (.long ((64 : Int64) * mm)), .second, .val (.long ((((16 : Int64) * mm) * mm) - (512 : Int64))), .second, .val (.long (((((4 : Int64) * mm) * mm) * mm) - ((192 : Int64) * mm))), .second, .val (.long (((((mm * mm) * mm) * mm) - (((64 : Int64) * mm) * mm)) + (512 : Int64))), .second, .val (.long (((512 : Int64) * (z1.toInt64)) + ((z2.toInt64) * ((64 : Int64) * mm)))), .second, .unset, .unset] [(.long ((((16 : Int64) * mm) * mm) - (512 : Int64))), (.long (z3.toInt64)), (.long (((512 : Int64) * (z1.toInt64)) + ((z2.toInt64) * ((64 : Int64) * mm))))])) _
            refine XS.lmul X85.here hx rfl (hb hby at_278) rfl ?_
            show Steps p.tables e below (T85.setTop (mkF m 279 #[.val (.int z0), .val (.int z1), .val (.int z2), .val (.int z3), .val (.int z4), .val (.int z5), .val (.int nv), .val (.long mm), .second, .val (.double d7), .second, .val (.ref b70), .val (.long ((64 : Int64) * mm)), .second, .val (.long ((((16 : Int64) * mm) * mm) - (512 : Int64))), .second, .val (.long (((((4 : Int64) * mm) * mm) * mm) - ((192 : Int64) * mm))), .second, .val (.long (((((mm * mm) * mm) * mm) - (((64 : Int64) * mm) * mm)) + (512 : Int64))), .second, .val (.long (((512 : Int64) * (z1.toInt64)) + ((z2.toInt64) * ((64 : Int64) * mm)))), .second, .unset, .unset] [(.long ((z3.toInt64) * ((((16 : Int64) * mm) * mm) - (512 : Int64)))), (.long (((512 : Int64) * (z1.toInt64)) + ((z2.toInt64) * ((64 : Int64) * mm))))])) _
            refine XS.ladd X85.here hx rfl (hb hby at_279) rfl ?_
            show Steps p.tables e below (T85.setTop (mkF m 280 #[.val (.int z0), .val (.int z1), .val (.int z2), .val (.int z3), .val (.int z4), .val (.int z5), .val (.int nv), .val (.long mm), .second, .val (.double d7), .second, .val (.ref b70), .val (.long ((64 : Int64) * mm)), .second, .val (.long ((((16 : Int64) * mm) * mm) - (512 : Int64))), .second, .val (.long (((((4 : Int64) * mm) * mm) * mm) - ((192 : Int64) * mm))), .second, .val (.long (((((mm * mm) * mm) * mm) - (((64 : Int64) * mm) * mm)) + (512 : Int64))), .second, .val (.long (((512 : Int64) * (z1.toInt64)) + ((z2.toInt64) * ((64 : Int64) * mm)))), .second, .unset, .unset] [(.long ((((512 : Int64) * (z1.toInt64)) + ((z2.toInt64) * ((64 : Int64) * mm))) + ((z3.toInt64) * ((((16 : Int64) * mm) * mm) - (512 : Int64)))))])) _
            refine XS.lstore X85.here hx rfl (hb hby at_280) rfl (l' := #[.val (.int z0), .val (.int z1), .val (.int z2), .val (.int z3), .val (.int z4), .val (.int z5), .val (.int nv), .val (.long mm), .second, .val (.double d7), .second, .val (.ref b70), .val (.long ((64 : Int64) * mm)), .second, .val (.long ((((16 : Int64) * mm) * mm) - (512 : Int64))), .second, .val (.long (((((4 : Int64) * mm) * mm) * mm) - ((192 : Int64) * mm))), .second, .val (.long (((((mm * mm) * mm) * mm) - (((64 : Int64) * mm) * mm)) + (512 : Int64))), .second, .val (.long ((((512 : Int64) * (z1.toInt64)) + ((z2.toInt64) * ((64 : Int64) * mm))) + ((z3.toInt64) * ((((16 : Int64) * mm) * mm) - (512 : Int64))))), .second, .unset, .unset]) rfl ?_
            show Steps p.tables e below (T85.setTop (mkF m 282 #[.val (.int z0), .val (.int z1), .val (.int z2), .val (.int z3), .val (.int z4), .val (.int z5), .val (.int nv), .val (.long mm), .second, .val (.double d7), .second, .val (.ref b70), .val (.long ((64 : Int64) * mm)), .second, .val (.long ((((16 : Int64) * mm) * mm) - (512 : Int64))), .second, .val (.long (((((4 : Int64) * mm) * mm) * mm) - ((192 : Int64) * mm))), .second, .val (.long (((((mm * mm) * mm) * mm) - (((64 : Int64) * mm) * mm)) + (512 : Int64))), .second, .val (.long ((((512 : Int64) * (z1.toInt64)) + ((z2.toInt64) * ((64 : Int64) * mm))) + ((z3.toInt64) * ((((16 : Int64) * mm) * mm) - (512 : Int64))))), .second, .unset, .unset] [])) _
            refine XS.iload X85.here hx rfl (hb hby at_282) rfl ?_
            show Steps p.tables e below (T85.setTop (mkF m 284 #[.val (.int z0), .val (.int z1), .val (.int z2), .val (.int z3), .val (.int z4), .val (.int z5), .val (.int nv), .val (.long mm), .second, .val (.double d7), .second, .val (.ref b70), .val (.long ((64 : Int64) * mm)), .second, .val (.long ((((16 : Int64) * mm) * mm) - (512 : Int64))), .second, .val (.long (((((4 : Int64) * mm) * mm) * mm) - ((192 : Int64) * mm))), .second, .val (.long (((((mm * mm) * mm) * mm) - (((64 : Int64) * mm) * mm)) + (512 : Int64))), .second, .val (.long ((((512 : Int64) * (z1.toInt64)) + ((z2.toInt64) * ((64 : Int64) * mm))) + ((z3.toInt64) * ((((16 : Int64) * mm) * mm) - (512 : Int64))))), .second, .unset, .unset] [(.int nv)])) _
            refine XS.iconst X85.here hx rfl (hb hby at_284) ?_
            show Steps p.tables e below (T85.setTop (mkF m 285 #[.val (.int z0), .val (.int z1), .val (.int z2), .val (.int z3), .val (.int z4), .val (.int z5), .val (.int nv), .val (.long mm), .second, .val (.double d7), .second, .val (.ref b70), .val (.long ((64 : Int64) * mm)), .second, .val (.long ((((16 : Int64) * mm) * mm) - (512 : Int64))), .second, .val (.long (((((4 : Int64) * mm) * mm) * mm) - ((192 : Int64) * mm))), .second, .val (.long (((((mm * mm) * mm) * mm) - (((64 : Int64) * mm) * mm)) + (512 : Int64))), .second, .val (.long ((((512 : Int64) * (z1.toInt64)) + ((z2.toInt64) * ((64 : Int64) * mm))) + ((z3.toInt64) * ((((16 : Int64) * mm) * mm) - (512 : Int64))))), .second, .unset, .unset] [(.int (4 : Int32)), (.int nv)])) _
            refine XS.icmpNo X85.here hx rfl (hb hby at_285) rfl (flt (by rw [hn5]; decide : ¬ (nv < (4 : Int32)))).1 ?_
            show Steps p.tables e below (T85.setTop (mkF m 288 #[.val (.int z0), .val (.int z1), .val (.int z2), .val (.int z3), .val (.int z4), .val (.int z5), .val (.int nv), .val (.long mm), .second, .val (.double d7), .second, .val (.ref b70), .val (.long ((64 : Int64) * mm)), .second, .val (.long ((((16 : Int64) * mm) * mm) - (512 : Int64))), .second, .val (.long (((((4 : Int64) * mm) * mm) * mm) - ((192 : Int64) * mm))), .second, .val (.long (((((mm * mm) * mm) * mm) - (((64 : Int64) * mm) * mm)) + (512 : Int64))), .second, .val (.long ((((512 : Int64) * (z1.toInt64)) + ((z2.toInt64) * ((64 : Int64) * mm))) + ((z3.toInt64) * ((((16 : Int64) * mm) * mm) - (512 : Int64))))), .second, .unset, .unset] [])) _
            refine XS.lload X85.here hx rfl (hb hby at_288) rfl ?_
            show Steps p.tables e below (T85.setTop (mkF m 290 #[.val (.int z0), .val (.int z1), .val (.int z2), .val (.int z3), .val (.int z4), .val (.int z5), .val (.int nv), .val (.long mm), .second, .val (.double d7), .second, .val (.ref b70), .val (.long ((64 : Int64) * mm)), .second, .val (.long ((((16 : Int64) * mm) * mm) - (512 : Int64))), .second, .val (.long (((((4 : Int64) * mm) * mm) * mm) - ((192 : Int64) * mm))), .second, .val (.long (((((mm * mm) * mm) * mm) - (((64 : Int64) * mm) * mm)) + (512 : Int64))), .second, .val (.long ((((512 : Int64) * (z1.toInt64)) + ((z2.toInt64) * ((64 : Int64) * mm))) + ((z3.toInt64) * ((((16 : Int64) * mm) * mm) - (512 : Int64))))), .second, .unset, .unset] [(.long ((((512 : Int64) * (z1.toInt64)) + ((z2.toInt64) * ((64 : Int64) * mm))) + ((z3.toInt64) * ((((16 : Int64) * mm) * mm) - (512 : Int64)))))])) _
            refine XS.iload X85.here hx rfl (hb hby at_290) rfl ?_
            show Steps p.tables e below (T85.setTop (mkF m 292 #[.val (.int z0), .val (.int z1), .val (.int z2), .val (.int z3), .val (.int z4), .val (.int z5), .val (.int nv), .val (.long mm), .second, .val (.double d7), .second, .val (.ref b70), .val (.long ((64 : Int64) * mm)), .second, .val (.long ((((16 : Int64) * mm) * mm) - (512 : Int64))), .second, .val (.long (((((4 : Int64) * mm) * mm) * mm) - ((192 : Int64) * mm))), .second, .val (.long (((((mm * mm) * mm) * mm) - (((64 : Int64) * mm) * mm)) + (512 : Int64))), .second, .val (.long ((((512 : Int64) * (z1.toInt64)) + ((z2.toInt64) * ((64 : Int64) * mm))) + ((z3.toInt64) * ((((16 : Int64) * mm) * mm) - (512 : Int64))))), .second, .unset, .unset] [(.int z4), (.long ((((512 : Int64) * (z1.toInt64)) + ((z2.toInt64) * ((64 : Int64) * mm))) + ((z3.toInt64) * ((((16 : Int64) * mm) * mm) - (512 : Int64)))))])) _
            refine XS.i2l X85.here hx rfl (hb hby at_292) rfl ?_
            show Steps p.tables e below (T85.setTop (mkF m 293 #[.val (.int z0), .val (.int z1), .val (.int z2), .val (.int z3), .val (.int z4), .val (.int z5), .val (.int nv), .val (.long mm), .second, .val (.double d7), .second, .val (.ref b70), .val (.long ((64 : Int64) * mm)), .second, .val (.long ((((16 : Int64) * mm) * mm) - (512 : Int64))), .second, .val (.long (((((4 : Int64) * mm) * mm) * mm) - ((192 : Int64) * mm))), .second, .val (.long (((((mm * mm) * mm) * mm) - (((64 : Int64) * mm) * mm)) + (512 : Int64))), .second, .val (.long ((((512 : Int64) * (z1.toInt64)) + ((z2.toInt64) * ((64 : Int64) * mm))) + ((z3.toInt64) * ((((16 : Int64) * mm) * mm) - (512 : Int64))))), .second, .unset, .unset] [(.long (z4.toInt64)), (.long ((((512 : Int64) * (z1.toInt64)) + ((z2.toInt64) * ((64 : Int64) * mm))) + ((z3.toInt64) * ((((16 : Int64) * mm) * mm) - (512 : Int64)))))])) _
            refine XS.lload X85.here hx rfl (hb hby at_293) rfl ?_
            show Steps p.tables e below (T85.setTop (mkF m 295 #[.val (.int z0), .val (.int z1), .val (.int z2), .val (.int z3), .val (.int z4), .val (.int z5), .val (.int nv), .val (.long mm), .second, .val (.double d7), .second, .val (.ref b70), .val (.long ((64 : Int64) * mm)), .second, .val (.long ((((16 : Int64) * mm) * mm) - (512 : Int64))), .second, .val (.long (((((4 : Int64) * mm) * mm) * mm) - ((192 : Int64) * mm))), .second, .val (.long (((((mm * mm) * mm) * mm) - (((64 : Int64) * mm) * mm)) + (512 : Int64))), .second, .val (.long ((((512 : Int64) * (z1.toInt64)) + ((z2.toInt64) * ((64 : Int64) * mm))) + ((z3.toInt64) * ((((16 : Int64) * mm) * mm) - (512 : Int64))))), .second, .unset, .unset] [(.long (((((4 : Int64) * mm) * mm) * mm) - ((192 : Int64) * mm))), (.long (z4.toInt64)), (.long ((((512 : Int64) * (z1.toInt64)) + ((z2.toInt64) * ((64 : Int64) * mm))) + ((z3.toInt64) * ((((16 : Int64) * mm) * mm) - (512 : Int64)))))])) _
            refine XS.lmul X85.here hx rfl (hb hby at_295) rfl ?_
            show Steps p.tables e below (T85.setTop (mkF m 296 #[.val (.int z0), .val (.int z1), .val (.int z2), .val (.int z3), .val (.int z4), .val (.int z5), .val (.int nv), .val (.long mm), .second, .val (.double d7), .second, .val (.ref b70), .val (.long ((64 : Int64) * mm)), .second, .val (.long ((((16 : Int64) * mm) * mm) - (512 : Int64))), .second, .val (.long (((((4 : Int64) * mm) * mm) * mm) - ((192 : Int64) * mm))), .second, .val (.long (((((mm * mm) * mm) * mm) - (((64 : Int64) * mm) * mm)) + (512 : Int64))), .second, .val (.long ((((512 : Int64) * (z1.toInt64)) + ((z2.toInt64) * ((64 : Int64) * mm))) + ((z3.toInt64) * ((((16 : Int64) * mm) * mm) - (512 : Int64))))), .second, .unset, .unset] [(.long ((z4.toInt64) * (((((4 : Int64) * mm) * mm) * mm) - ((192 : Int64) * mm)))), (.long ((((512 : Int64) * (z1.toInt64)) + ((z2.toInt64) * ((64 : Int64) * mm))) + ((z3.toInt64) * ((((16 : Int64) * mm) * mm) - (512 : Int64)))))])) _
            refine XS.ladd X85.here hx rfl (hb hby at_296) rfl ?_
            show Steps p.tables e below (T85.setTop (mkF m 297 #[.val (.int z0), .val (.int z1), .val (.int z2), .val (.int z3), .val (.int z4), .val (.int z5), .val (.int nv), .val (.long mm), .second, .val (.double d7), .second, .val (.ref b70), .val (.long ((64 : Int64) * mm)), .second, .val (.long ((((16 : Int64) * mm) * mm) - (512 : Int64))), .second, .val (.long (((((4 : Int64) * mm) * mm) * mm) - ((192 : Int64) * mm))), .second, .val (.long (((((mm * mm) * mm) * mm) - (((64 : Int64) * mm) * mm)) + (512 : Int64))), .second, .val (.long ((((512 : Int64) * (z1.toInt64)) + ((z2.toInt64) * ((64 : Int64) * mm))) + ((z3.toInt64) * ((((16 : Int64) * mm) * mm) - (512 : Int64))))), .second, .unset, .unset] [(.long (((((512 : Int64) * (z1.toInt64)) + ((z2.toInt64) * ((64 : Int64) * mm))) + ((z3.toInt64) * ((((16 : Int64) * mm) * mm) - (512 : Int64)))) + ((z4.toInt64) * (((((4 : Int64) * mm) * mm) * mm) - ((192 : Int64) * mm)))))])) _
            refine XS.lstore X85.here hx rfl (hb hby at_297) rfl (l' := #[.val (.int z0), .val (.int z1), .val (.int z2), .val (.int z3), .val (.int z4), .val (.int z5), .val (.int nv), .val (.long mm), .second, .val (.double d7), .second, .val (.ref b70), .val (.long ((64 : Int64) * mm)), .second, .val (.long ((((16 : Int64) * mm) * mm) - (512 : Int64))), .second, .val (.long (((((4 : Int64) * mm) * mm) * mm) - ((192 : Int64) * mm))), .second, .val (.long (((((mm * mm) * mm) * mm) - (((64 : Int64) * mm) * mm)) + (512 : Int64))), .second, .val (.long (((((512 : Int64) * (z1.toInt64)) + ((z2.toInt64) * ((64 : Int64) * mm))) + ((z3.toInt64) * ((((16 : Int64) * mm) * mm) - (512 : Int64)))) + ((z4.toInt64) * (((((4 : Int64) * mm) * mm) * mm) - ((192 : Int64) * mm))))), .second, .unset, .unset]) rfl ?_
            show Steps p.tables e below (T85.setTop (mkF m 299 #[.val (.int z0), .val (.int z1), .val (.int z2), .val (.int z3), .val (.int z4), .val (.int z5), .val (.int nv), .val (.long mm), .second, .val (.double d7), .second, .val (.ref b70), .val (.long ((64 : Int64) * mm)), .second, .val (.long ((((16 : Int64) * mm) * mm) - (512 : Int64))), .second, .val (.long (((((4 : Int64) * mm) * mm) * mm) - ((192 : Int64) * mm))), .second, .val (.long (((((mm * mm) * mm) * mm) - (((64 : Int64) * mm) * mm)) + (512 : Int64))), .second, .val (.long (((((512 : Int64) * (z1.toInt64)) + ((z2.toInt64) * ((64 : Int64) * mm))) + ((z3.toInt64) * ((((16 : Int64) * mm) * mm) - (512 : Int64)))) + ((z4.toInt64) * (((((4 : Int64) * mm) * mm) * mm) - ((192 : Int64) * mm))))), .second, .unset, .unset] [])) _
            refine XS.iload X85.here hx rfl (hb hby at_299) rfl ?_
            show Steps p.tables e below (T85.setTop (mkF m 301 #[.val (.int z0), .val (.int z1), .val (.int z2), .val (.int z3), .val (.int z4), .val (.int z5), .val (.int nv), .val (.long mm), .second, .val (.double d7), .second, .val (.ref b70), .val (.long ((64 : Int64) * mm)), .second, .val (.long ((((16 : Int64) * mm) * mm) - (512 : Int64))), .second, .val (.long (((((4 : Int64) * mm) * mm) * mm) - ((192 : Int64) * mm))), .second, .val (.long (((((mm * mm) * mm) * mm) - (((64 : Int64) * mm) * mm)) + (512 : Int64))), .second, .val (.long (((((512 : Int64) * (z1.toInt64)) + ((z2.toInt64) * ((64 : Int64) * mm))) + ((z3.toInt64) * ((((16 : Int64) * mm) * mm) - (512 : Int64)))) + ((z4.toInt64) * (((((4 : Int64) * mm) * mm) * mm) - ((192 : Int64) * mm))))), .second, .unset, .unset] [(.int nv)])) _
            refine XS.iconst X85.here hx rfl (hb hby at_301) ?_
            show Steps p.tables e below (T85.setTop (mkF m 302 #[.val (.int z0), .val (.int z1), .val (.int z2), .val (.int z3), .val (.int z4), .val (.int z5), .val (.int nv), .val (.long mm), .second, .val (.double d7), .second, .val (.ref b70), .val (.long ((64 : Int64) * mm)), .second, .val (.long ((((16 : Int64) * mm) * mm) - (512 : Int64))), .second, .val (.long (((((4 : Int64) * mm) * mm) * mm) - ((192 : Int64) * mm))), .second, .val (.long (((((mm * mm) * mm) * mm) - (((64 : Int64) * mm) * mm)) + (512 : Int64))), .second, .val (.long (((((512 : Int64) * (z1.toInt64)) + ((z2.toInt64) * ((64 : Int64) * mm))) + ((z3.toInt64) * ((((16 : Int64) * mm) * mm) - (512 : Int64)))) + ((z4.toInt64) * (((((4 : Int64) * mm) * mm) * mm) - ((192 : Int64) * mm))))), .second, .unset, .unset] [(.int (5 : Int32)), (.int nv)])) _
            refine XS.icmpNo X85.here hx rfl (hb hby at_302) rfl (flt (by rw [hn5]; decide : ¬ (nv < (5 : Int32)))).1 ?_
            show Steps p.tables e below (T85.setTop (mkF m 305 #[.val (.int z0), .val (.int z1), .val (.int z2), .val (.int z3), .val (.int z4), .val (.int z5), .val (.int nv), .val (.long mm), .second, .val (.double d7), .second, .val (.ref b70), .val (.long ((64 : Int64) * mm)), .second, .val (.long ((((16 : Int64) * mm) * mm) - (512 : Int64))), .second, .val (.long (((((4 : Int64) * mm) * mm) * mm) - ((192 : Int64) * mm))), .second, .val (.long (((((mm * mm) * mm) * mm) - (((64 : Int64) * mm) * mm)) + (512 : Int64))), .second, .val (.long (((((512 : Int64) * (z1.toInt64)) + ((z2.toInt64) * ((64 : Int64) * mm))) + ((z3.toInt64) * ((((16 : Int64) * mm) * mm) - (512 : Int64)))) + ((z4.toInt64) * (((((4 : Int64) * mm) * mm) * mm) - ((192 : Int64) * mm))))), .second, .unset, .unset] [])) _
            refine XS.lload X85.here hx rfl (hb hby at_305) rfl ?_
            show Steps p.tables e below (T85.setTop (mkF m 307 #[.val (.int z0), .val (.int z1), .val (.int z2), .val (.int z3), .val (.int z4), .val (.int z5), .val (.int nv), .val (.long mm), .second, .val (.double d7), .second, .val (.ref b70), .val (.long ((64 : Int64) * mm)), .second, .val (.long ((((16 : Int64) * mm) * mm) - (512 : Int64))), .second, .val (.long (((((4 : Int64) * mm) * mm) * mm) - ((192 : Int64) * mm))), .second, .val (.long (((((mm * mm) * mm) * mm) - (((64 : Int64) * mm) * mm)) + (512 : Int64))), .second, .val (.long (((((512 : Int64) * (z1.toInt64)) + ((z2.toInt64) * ((64 : Int64) * mm))) + ((z3.toInt64) * ((((16 : Int64) * mm) * mm) - (512 : Int64)))) + ((z4.toInt64) * (((((4 : Int64) * mm) * mm) * mm) - ((192 : Int64) * mm))))), .second, .unset, .unset] [(.long (((((512 : Int64) * (z1.toInt64)) + ((z2.toInt64) * ((64 : Int64) * mm))) + ((z3.toInt64) * ((((16 : Int64) * mm) * mm) - (512 : Int64)))) + ((z4.toInt64) * (((((4 : Int64) * mm) * mm) * mm) - ((192 : Int64) * mm)))))])) _
            refine XS.iload X85.here hx rfl (hb hby at_307) rfl ?_
            show Steps p.tables e below (T85.setTop (mkF m 309 #[.val (.int z0), .val (.int z1), .val (.int z2), .val (.int z3), .val (.int z4), .val (.int z5), .val (.int nv), .val (.long mm), .second, .val (.double d7), .second, .val (.ref b70), .val (.long ((64 : Int64) * mm)), .second, .val (.long ((((16 : Int64) * mm) * mm) - (512 : Int64))), .second, .val (.long (((((4 : Int64) * mm) * mm) * mm) - ((192 : Int64) * mm))), .second, .val (.long (((((mm * mm) * mm) * mm) - (((64 : Int64) * mm) * mm)) + (512 : Int64))), .second, .val (.long (((((512 : Int64) * (z1.toInt64)) + ((z2.toInt64) * ((64 : Int64) * mm))) + ((z3.toInt64) * ((((16 : Int64) * mm) * mm) - (512 : Int64)))) + ((z4.toInt64) * (((((4 : Int64) * mm) * mm) * mm) - ((192 : Int64) * mm))))), .second, .unset, .unset] [(.int z5), (.long (((((512 : Int64) * (z1.toInt64)) + ((z2.toInt64) * ((64 : Int64) * mm))) + ((z3.toInt64) * ((((16 : Int64) * mm) * mm) - (512 : Int64)))) + ((z4.toInt64) * (((((4 : Int64) * mm) * mm) * mm) - ((192 : Int64) * mm)))))])) _
            refine XS.i2l X85.here hx rfl (hb hby at_309) rfl ?_
            show Steps p.tables e below (T85.setTop (mkF m 310 #[.val (.int z0), .val (.int z1), .val (.int z2), .val (.int z3), .val (.int z4), .val (.int z5), .val (.int nv), .val (.long mm), .second, .val (.double d7), .second, .val (.ref b70), .val (.long ((64 : Int64) * mm)), .second, .val (.long ((((16 : Int64) * mm) * mm) - (512 : Int64))), .second, .val (.long (((((4 : Int64) * mm) * mm) * mm) - ((192 : Int64) * mm))), .second, .val (.long (((((mm * mm) * mm) * mm) - (((64 : Int64) * mm) * mm)) + (512 : Int64))), .second, .val (.long (((((512 : Int64) * (z1.toInt64)) + ((z2.toInt64) * ((64 : Int64) * mm))) + ((z3.toInt64) * ((((16 : Int64) * mm) * mm) - (512 : Int64)))) + ((z4.toInt64) * (((((4 : Int64) * mm) * mm) * mm) - ((192 : Int64) * mm))))), .second, .unset, .unset] [(.long (z5.toInt64)), (.long (((((512 : Int64) * (z1.toInt64)) + ((z2.toInt64) * ((64 : Int64) * mm))) + ((z3.toInt64) * ((((16 : Int64) * mm) * mm) - (512 : Int64)))) + ((z4.toInt64) * (((((4 : Int64) * mm) * mm) * mm) - ((192 : Int64) * mm)))))])) _
            refine XS.lload X85.here hx rfl (hb hby at_310) rfl ?_
            show Steps p.tables e below (T85.setTop (mkF m 312 #[.val (.int z0), .val (.int z1), .val (.int z2), .val (.int z3), .val (.int z4), .val (.int z5), .val (.int nv), .val (.long mm), .second, .val (.double d7), .second, .val (.ref b70), .val (.long ((64 : Int64) * mm)), .second, .val (.long ((((16 : Int64) * mm) * mm) - (512 : Int64))), .second, .val (.long (((((4 : Int64) * mm) * mm) * mm) - ((192 : Int64) * mm))), .second, .val (.long (((((mm * mm) * mm) * mm) - (((64 : Int64) * mm) * mm)) + (512 : Int64))), .second, .val (.long (((((512 : Int64) * (z1.toInt64)) + ((z2.toInt64) * ((64 : Int64) * mm))) + ((z3.toInt64) * ((((16 : Int64) * mm) * mm) - (512 : Int64)))) + ((z4.toInt64) * (((((4 : Int64) * mm) * mm) * mm) - ((192 : Int64) * mm))))), .second, .unset, .unset] [(.long (((((mm * mm) * mm) * mm) - (((64 : Int64) * mm) * mm)) + (512 : Int64))), (.long (z5.toInt64)), (.long (((((512 : Int64) * (z1.toInt64)) + ((z2.toInt64) * ((64 : Int64) * mm))) + ((z3.toInt64) * ((((16 : Int64) * mm) * mm) - (512 : Int64)))) + ((z4.toInt64) * (((((4 : Int64) * mm) * mm) * mm) - ((192 : Int64) * mm)))))])) _
            refine XS.lmul X85.here hx rfl (hb hby at_312) rfl ?_
            show Steps p.tables e below (T85.setTop (mkF m 313 #[.val (.int z0), .val (.int z1), .val (.int z2), .val (.int z3), .val (.int z4), .val (.int z5), .val (.int nv), .val (.long mm), .second, .val (.double d7), .second, .val (.ref b70), .val (.long ((64 : Int64) * mm)), .second, .val (.long ((((16 : Int64) * mm) * mm) - (512 : Int64))), .second, .val (.long (((((4 : Int64) * mm) * mm) * mm) - ((192 : Int64) * mm))), .second, .val (.long (((((mm * mm) * mm) * mm) - (((64 : Int64) * mm) * mm)) + (512 : Int64))), .second, .val (.long (((((512 : Int64) * (z1.toInt64)) + ((z2.toInt64) * ((64 : Int64) * mm))) + ((z3.toInt64) * ((((16 : Int64) * mm) * mm) - (512 : Int64)))) + ((z4.toInt64) * (((((4 : Int64) * mm) * mm) * mm) - ((192 : Int64) * mm))))), .second, .unset, .unset] [(.long ((z5.toInt64) * (((((mm * mm) * mm) * mm) - (((64 : Int64) * mm) * mm)) + (512 : Int64)))), (.long (((((512 : Int64) * (z1.toInt64)) + ((z2.toInt64) * ((64 : Int64) * mm))) + ((z3.toInt64) * ((((16 : Int64) * mm) * mm) - (512 : Int64)))) + ((z4.toInt64) * (((((4 : Int64) * mm) * mm) * mm) - ((192 : Int64) * mm)))))])) _
            refine XS.ladd X85.here hx rfl (hb hby at_313) rfl ?_
            show Steps p.tables e below (T85.setTop (mkF m 314 #[.val (.int z0), .val (.int z1), .val (.int z2), .val (.int z3), .val (.int z4), .val (.int z5), .val (.int nv), .val (.long mm), .second, .val (.double d7), .second, .val (.ref b70), .val (.long ((64 : Int64) * mm)), .second, .val (.long ((((16 : Int64) * mm) * mm) - (512 : Int64))), .second, .val (.long (((((4 : Int64) * mm) * mm) * mm) - ((192 : Int64) * mm))), .second, .val (.long (((((mm * mm) * mm) * mm) - (((64 : Int64) * mm) * mm)) + (512 : Int64))), .second, .val (.long (((((512 : Int64) * (z1.toInt64)) + ((z2.toInt64) * ((64 : Int64) * mm))) + ((z3.toInt64) * ((((16 : Int64) * mm) * mm) - (512 : Int64)))) + ((z4.toInt64) * (((((4 : Int64) * mm) * mm) * mm) - ((192 : Int64) * mm))))), .second, .unset, .unset] [(.long ((((((512 : Int64) * (z1.toInt64)) + ((z2.toInt64) * ((64 : Int64) * mm))) + ((z3.toInt64) * ((((16 : Int64) * mm) * mm) - (512 : Int64)))) + ((z4.toInt64) * (((((4 : Int64) * mm) * mm) * mm) - ((192 : Int64) * mm)))) + ((z5.toInt64) * (((((mm * mm) * mm) * mm) - (((64 : Int64) * mm) * mm)) + (512 : Int64)))))])) _
            refine XS.lstore X85.here hx rfl (hb hby at_314) rfl (l' := #[.val (.int z0), .val (.int z1), .val (.int z2), .val (.int z3), .val (.int z4), .val (.int z5), .val (.int nv), .val (.long mm), .second, .val (.double d7), .second, .val (.ref b70), .val (.long ((64 : Int64) * mm)), .second, .val (.long ((((16 : Int64) * mm) * mm) - (512 : Int64))), .second, .val (.long (((((4 : Int64) * mm) * mm) * mm) - ((192 : Int64) * mm))), .second, .val (.long (((((mm * mm) * mm) * mm) - (((64 : Int64) * mm) * mm)) + (512 : Int64))), .second, .val (.long ((((((512 : Int64) * (z1.toInt64)) + ((z2.toInt64) * ((64 : Int64) * mm))) + ((z3.toInt64) * ((((16 : Int64) * mm) * mm) - (512 : Int64)))) + ((z4.toInt64) * (((((4 : Int64) * mm) * mm) * mm) - ((192 : Int64) * mm)))) + ((z5.toInt64) * (((((mm * mm) * mm) * mm) - (((64 : Int64) * mm) * mm)) + (512 : Int64))))), .second, .unset, .unset]) rfl ?_
            show Steps p.tables e below (T85.setTop (mkF m 316 #[.val (.int z0), .val (.int z1), .val (.int z2), .val (.int z3), .val (.int z4), .val (.int z5), .val (.int nv), .val (.long mm), .second, .val (.double d7), .second, .val (.ref b70), .val (.long ((64 : Int64) * mm)), .second, .val (.long ((((16 : Int64) * mm) * mm) - (512 : Int64))), .second, .val (.long (((((4 : Int64) * mm) * mm) * mm) - ((192 : Int64) * mm))), .second, .val (.long (((((mm * mm) * mm) * mm) - (((64 : Int64) * mm) * mm)) + (512 : Int64))), .second, .val (.long ((((((512 : Int64) * (z1.toInt64)) + ((z2.toInt64) * ((64 : Int64) * mm))) + ((z3.toInt64) * ((((16 : Int64) * mm) * mm) - (512 : Int64)))) + ((z4.toInt64) * (((((4 : Int64) * mm) * mm) * mm) - ((192 : Int64) * mm)))) + ((z5.toInt64) * (((((mm * mm) * mm) * mm) - (((64 : Int64) * mm) * mm)) + (512 : Int64))))), .second, .unset, .unset] [])) _
            refine XS.aload X85.here hx rfl (hb hby at_316) rfl rfl ?_
            show Steps p.tables e below (T85.setTop (mkF m 318 #[.val (.int z0), .val (.int z1), .val (.int z2), .val (.int z3), .val (.int z4), .val (.int z5), .val (.int nv), .val (.long mm), .second, .val (.double d7), .second, .val (.ref b70), .val (.long ((64 : Int64) * mm)), .second, .val (.long ((((16 : Int64) * mm) * mm) - (512 : Int64))), .second, .val (.long (((((4 : Int64) * mm) * mm) * mm) - ((192 : Int64) * mm))), .second, .val (.long (((((mm * mm) * mm) * mm) - (((64 : Int64) * mm) * mm)) + (512 : Int64))), .second, .val (.long ((((((512 : Int64) * (z1.toInt64)) + ((z2.toInt64) * ((64 : Int64) * mm))) + ((z3.toInt64) * ((((16 : Int64) * mm) * mm) - (512 : Int64)))) + ((z4.toInt64) * (((((4 : Int64) * mm) * mm) * mm) - ((192 : Int64) * mm)))) + ((z5.toInt64) * (((((mm * mm) * mm) * mm) - (((64 : Int64) * mm) * mm)) + (512 : Int64))))), .second, .unset, .unset] [(.ref b70)])) _
            refine XS.dload X85.here hx rfl (hb hby at_318) rfl ?_
            show Steps p.tables e below (T85.setTop (mkF m 320 #[.val (.int z0), .val (.int z1), .val (.int z2), .val (.int z3), .val (.int z4), .val (.int z5), .val (.int nv), .val (.long mm), .second, .val (.double d7), .second, .val (.ref b70), .val (.long ((64 : Int64) * mm)), .second, .val (.long ((((16 : Int64) * mm) * mm) - (512 : Int64))), .second, .val (.long (((((4 : Int64) * mm) * mm) * mm) - ((192 : Int64) * mm))), .second, .val (.long (((((mm * mm) * mm) * mm) - (((64 : Int64) * mm) * mm)) + (512 : Int64))), .second, .val (.long ((((((512 : Int64) * (z1.toInt64)) + ((z2.toInt64) * ((64 : Int64) * mm))) + ((z3.toInt64) * ((((16 : Int64) * mm) * mm) - (512 : Int64)))) + ((z4.toInt64) * (((((4 : Int64) * mm) * mm) * mm) - ((192 : Int64) * mm)))) + ((z5.toInt64) * (((((mm * mm) * mm) * mm) - (((64 : Int64) * mm) * mm)) + (512 : Int64))))), .second, .unset, .unset] [(.double d7), (.ref b70)])) _
            refine st86 _ ?_
            show Steps p.tables e below (T86.setTop (mkF m 323 #[.val (.int z0), .val (.int z1), .val (.int z2), .val (.int z3), .val (.int z4), .val (.int z5), .val (.int nv), .val (.long mm), .second, .val (.double d7), .second, .val (.ref b70), .val (.long ((64 : Int64) * mm)), .second, .val (.long ((((16 : Int64) * mm) * mm) - (512 : Int64))), .second, .val (.long (((((4 : Int64) * mm) * mm) * mm) - ((192 : Int64) * mm))), .second, .val (.long (((((mm * mm) * mm) * mm) - (((64 : Int64) * mm) * mm)) + (512 : Int64))), .second, .val (.long ((((((512 : Int64) * (z1.toInt64)) + ((z2.toInt64) * ((64 : Int64) * mm))) + ((z3.toInt64) * ((((16 : Int64) * mm) * mm) - (512 : Int64)))) + ((z4.toInt64) * (((((4 : Int64) * mm) * mm) * mm) - ((192 : Int64) * mm)))) + ((z5.toInt64) * (((((mm * mm) * mm) * mm) - (((64 : Int64) * mm) * mm)) + (512 : Int64))))), .second, .unset, .unset] [(.double r86)])) _
            refine XS.dstore X86.here hx rfl (hb hby at_323) rfl (l' := #[.val (.int z0), .val (.int z1), .val (.int z2), .val (.int z3), .val (.int z4), .val (.int z5), .val (.int nv), .val (.long mm), .second, .val (.double d7), .second, .val (.ref b70), .val (.long ((64 : Int64) * mm)), .second, .val (.long ((((16 : Int64) * mm) * mm) - (512 : Int64))), .second, .val (.long (((((4 : Int64) * mm) * mm) * mm) - ((192 : Int64) * mm))), .second, .val (.long (((((mm * mm) * mm) * mm) - (((64 : Int64) * mm) * mm)) + (512 : Int64))), .second, .val (.long ((((((512 : Int64) * (z1.toInt64)) + ((z2.toInt64) * ((64 : Int64) * mm))) + ((z3.toInt64) * ((((16 : Int64) * mm) * mm) - (512 : Int64)))) + ((z4.toInt64) * (((((4 : Int64) * mm) * mm) * mm) - ((192 : Int64) * mm)))) + ((z5.toInt64) * (((((mm * mm) * mm) * mm) - (((64 : Int64) * mm) * mm)) + (512 : Int64))))), .second, .val (.double r86), .second]) rfl ?_
            show Steps p.tables e below (T86.setTop (mkF m 325 #[.val (.int z0), .val (.int z1), .val (.int z2), .val (.int z3), .val (.int z4), .val (.int z5), .val (.int nv), .val (.long mm), .second, .val (.double d7), .second, .val (.ref b70), .val (.long ((64 : Int64) * mm)), .second, .val (.long ((((16 : Int64) * mm) * mm) - (512 : Int64))), .second, .val (.long (((((4 : Int64) * mm) * mm) * mm) - ((192 : Int64) * mm))), .second, .val (.long (((((mm * mm) * mm) * mm) - (((64 : Int64) * mm) * mm)) + (512 : Int64))), .second, .val (.long ((((((512 : Int64) * (z1.toInt64)) + ((z2.toInt64) * ((64 : Int64) * mm))) + ((z3.toInt64) * ((((16 : Int64) * mm) * mm) - (512 : Int64)))) + ((z4.toInt64) * (((((4 : Int64) * mm) * mm) * mm) - ((192 : Int64) * mm)))) + ((z5.toInt64) * (((((mm * mm) * mm) * mm) - (((64 : Int64) * mm) * mm)) + (512 : Int64))))), .second, .val (.double r86), .second] [])) _
            refine XS.dload X86.here hx rfl (hb hby at_325) rfl ?_
            show Steps p.tables e below (T86.setTop (mkF m 327 #[.val (.int z0), .val (.int z1), .val (.int z2), .val (.int z3), .val (.int z4), .val (.int z5), .val (.int nv), .val (.long mm), .second, .val (.double d7), .second, .val (.ref b70), .val (.long ((64 : Int64) * mm)), .second, .val (.long ((((16 : Int64) * mm) * mm) - (512 : Int64))), .second, .val (.long (((((4 : Int64) * mm) * mm) * mm) - ((192 : Int64) * mm))), .second, .val (.long (((((mm * mm) * mm) * mm) - (((64 : Int64) * mm) * mm)) + (512 : Int64))), .second, .val (.long ((((((512 : Int64) * (z1.toInt64)) + ((z2.toInt64) * ((64 : Int64) * mm))) + ((z3.toInt64) * ((((16 : Int64) * mm) * mm) - (512 : Int64)))) + ((z4.toInt64) * (((((4 : Int64) * mm) * mm) * mm) - ((192 : Int64) * mm)))) + ((z5.toInt64) * (((((mm * mm) * mm) * mm) - (((64 : Int64) * mm) * mm)) + (512 : Int64))))), .second, .val (.double r86), .second] [(.double r86)])) _
            refine X86.ldc2DoubleC hx hown (mvT hZ (hw _ (List.mem_of_getElem? (i := 12) rfl))) (g := (mkF m 327 #[.val (.int z0), .val (.int z1), .val (.int z2), .val (.int z3), .val (.int z4), .val (.int z5), .val (.int nv), .val (.long mm), .second, .val (.double d7), .second, .val (.ref b70), .val (.long ((64 : Int64) * mm)), .second, .val (.long ((((16 : Int64) * mm) * mm) - (512 : Int64))), .second, .val (.long (((((4 : Int64) * mm) * mm) * mm) - ((192 : Int64) * mm))), .second, .val (.long (((((mm * mm) * mm) * mm) - (((64 : Int64) * mm) * mm)) + (512 : Int64))), .second, .val (.long ((((((512 : Int64) * (z1.toInt64)) + ((z2.toInt64) * ((64 : Int64) * mm))) + ((z3.toInt64) * ((((16 : Int64) * mm) * mm) - (512 : Int64)))) + ((z4.toInt64) * (((((4 : Int64) * mm) * mm) * mm) - ((192 : Int64) * mm)))) + ((z5.toInt64) * (((((mm * mm) * mm) * mm) - (((64 : Int64) * mm) * mm)) + (512 : Int64))))), .second, .val (.double r86), .second] [(.double r86)])) rfl (hb hby at_327) _ ?_
            show Steps p.tables e below (T86.setTop (mkF m 330 #[.val (.int z0), .val (.int z1), .val (.int z2), .val (.int z3), .val (.int z4), .val (.int z5), .val (.int nv), .val (.long mm), .second, .val (.double d7), .second, .val (.ref b70), .val (.long ((64 : Int64) * mm)), .second, .val (.long ((((16 : Int64) * mm) * mm) - (512 : Int64))), .second, .val (.long (((((4 : Int64) * mm) * mm) * mm) - ((192 : Int64) * mm))), .second, .val (.long (((((mm * mm) * mm) * mm) - (((64 : Int64) * mm) * mm)) + (512 : Int64))), .second, .val (.long ((((((512 : Int64) * (z1.toInt64)) + ((z2.toInt64) * ((64 : Int64) * mm))) + ((z3.toInt64) * ((((16 : Int64) * mm) * mm) - (512 : Int64)))) + ((z4.toInt64) * (((((4 : Int64) * mm) * mm) * mm) - ((192 : Int64) * mm)))) + ((z5.toInt64) * (((((mm * mm) * mm) * mm) - (((64 : Int64) * mm) * mm)) + (512 : Int64))))), .second, .val (.double r86), .second] [(.double (4647714815446351872 : UInt64)), (.double r86)])) _
            refine XS.dmulS X86.here hx rfl (hb hby at_330) rfl nn87 v87 ?_
            show Steps p.tables e below (T86.setTop (mkF m 331 #[.val (.int z0), .val (.int z1), .val (.int z2), .val (.int z3), .val (.int z4), .val (.int z5), .val (.int nv), .val (.long mm), .second, .val (.double d7), .second, .val (.ref b70), .val (.long ((64 : Int64) * mm)), .second, .val (.long ((((16 : Int64) * mm) * mm) - (512 : Int64))), .second, .val (.long (((((4 : Int64) * mm) * mm) * mm) - ((192 : Int64) * mm))), .second, .val (.long (((((mm * mm) * mm) * mm) - (((64 : Int64) * mm) * mm)) + (512 : Int64))), .second, .val (.long ((((((512 : Int64) * (z1.toInt64)) + ((z2.toInt64) * ((64 : Int64) * mm))) + ((z3.toInt64) * ((((16 : Int64) * mm) * mm) - (512 : Int64)))) + ((z4.toInt64) * (((((4 : Int64) * mm) * mm) * mm) - ((192 : Int64) * mm)))) + ((z5.toInt64) * (((((mm * mm) * mm) * mm) - (((64 : Int64) * mm) * mm)) + (512 : Int64))))), .second, .val (.double r86), .second] [(.double d87)])) _
            refine XS.lload X86.here hx rfl (hb hby at_331) rfl ?_
            show Steps p.tables e below (T86.setTop (mkF m 333 #[.val (.int z0), .val (.int z1), .val (.int z2), .val (.int z3), .val (.int z4), .val (.int z5), .val (.int nv), .val (.long mm), .second, .val (.double d7), .second, .val (.ref b70), .val (.long ((64 : Int64) * mm)), .second, .val (.long ((((16 : Int64) * mm) * mm) - (512 : Int64))), .second, .val (.long (((((4 : Int64) * mm) * mm) * mm) - ((192 : Int64) * mm))), .second, .val (.long (((((mm * mm) * mm) * mm) - (((64 : Int64) * mm) * mm)) + (512 : Int64))), .second, .val (.long ((((((512 : Int64) * (z1.toInt64)) + ((z2.toInt64) * ((64 : Int64) * mm))) + ((z3.toInt64) * ((((16 : Int64) * mm) * mm) - (512 : Int64)))) + ((z4.toInt64) * (((((4 : Int64) * mm) * mm) * mm) - ((192 : Int64) * mm)))) + ((z5.toInt64) * (((((mm * mm) * mm) * mm) - (((64 : Int64) * mm) * mm)) + (512 : Int64))))), .second, .val (.double r86), .second] [(.long ((((((512 : Int64) * (z1.toInt64)) + ((z2.toInt64) * ((64 : Int64) * mm))) + ((z3.toInt64) * ((((16 : Int64) * mm) * mm) - (512 : Int64)))) + ((z4.toInt64) * (((((4 : Int64) * mm) * mm) * mm) - ((192 : Int64) * mm)))) + ((z5.toInt64) * (((((mm * mm) * mm) * mm) - (((64 : Int64) * mm) * mm)) + (512 : Int64))))), (.double d87)])) _
            refine XS.l2dS X86.here hx rfl (hb hby at_333) rfl v89 ?_
            show Steps p.tables e below (T86.setTop (mkF m 334 #[.val (.int z0), .val (.int z1), .val (.int z2), .val (.int z3), .val (.int z4), .val (.int z5), .val (.int nv), .val (.long mm), .second, .val (.double d7), .second, .val (.ref b70), .val (.long ((64 : Int64) * mm)), .second, .val (.long ((((16 : Int64) * mm) * mm) - (512 : Int64))), .second, .val (.long (((((4 : Int64) * mm) * mm) * mm) - ((192 : Int64) * mm))), .second, .val (.long (((((mm * mm) * mm) * mm) - (((64 : Int64) * mm) * mm)) + (512 : Int64))), .second, .val (.long ((((((512 : Int64) * (z1.toInt64)) + ((z2.toInt64) * ((64 : Int64) * mm))) + ((z3.toInt64) * ((((16 : Int64) * mm) * mm) - (512 : Int64)))) + ((z4.toInt64) * (((((4 : Int64) * mm) * mm) * mm) - ((192 : Int64) * mm)))) + ((z5.toInt64) * (((((mm * mm) * mm) * mm) - (((64 : Int64) * mm) * mm)) + (512 : Int64))))), .second, .val (.double r86), .second] [(.double d89), (.double d87)])) _
            refine XS.dcmpS X86.here hx rfl (hb hby at_334) rfl (v := (0 : Int32)) q90 ?_
            show Steps p.tables e below (T86.setTop (mkF m 335 #[.val (.int z0), .val (.int z1), .val (.int z2), .val (.int z3), .val (.int z4), .val (.int z5), .val (.int nv), .val (.long mm), .second, .val (.double d7), .second, .val (.ref b70), .val (.long ((64 : Int64) * mm)), .second, .val (.long ((((16 : Int64) * mm) * mm) - (512 : Int64))), .second, .val (.long (((((4 : Int64) * mm) * mm) * mm) - ((192 : Int64) * mm))), .second, .val (.long (((((mm * mm) * mm) * mm) - (((64 : Int64) * mm) * mm)) + (512 : Int64))), .second, .val (.long ((((((512 : Int64) * (z1.toInt64)) + ((z2.toInt64) * ((64 : Int64) * mm))) + ((z3.toInt64) * ((((16 : Int64) * mm) * mm) - (512 : Int64)))) + ((z4.toInt64) * (((((4 : Int64) * mm) * mm) * mm) - ((192 : Int64) * mm)))) + ((z5.toInt64) * (((((mm * mm) * mm) * mm) - (((64 : Int64) * mm) * mm)) + (512 : Int64))))), .second, .val (.double r86), .second] [(.int (0 : Int32))])) _
            refine XS.ifNo X86.here hx rfl (hb hby at_335) rfl ((if0 _ _).trans (teq (by decide : (0 : Int32) = (0 : Int32))).2) ?_
            show Steps p.tables e below (T86.setTop (mkF m 338 #[.val (.int z0), .val (.int z1), .val (.int z2), .val (.int z3), .val (.int z4), .val (.int z5), .val (.int nv), .val (.long mm), .second, .val (.double d7), .second, .val (.ref b70), .val (.long ((64 : Int64) * mm)), .second, .val (.long ((((16 : Int64) * mm) * mm) - (512 : Int64))), .second, .val (.long (((((4 : Int64) * mm) * mm) * mm) - ((192 : Int64) * mm))), .second, .val (.long (((((mm * mm) * mm) * mm) - (((64 : Int64) * mm) * mm)) + (512 : Int64))), .second, .val (.long ((((((512 : Int64) * (z1.toInt64)) + ((z2.toInt64) * ((64 : Int64) * mm))) + ((z3.toInt64) * ((((16 : Int64) * mm) * mm) - (512 : Int64)))) + ((z4.toInt64) * (((((4 : Int64) * mm) * mm) * mm) - ((192 : Int64) * mm)))) + ((z5.toInt64) * (((((mm * mm) * mm) * mm) - (((64 : Int64) * mm) * mm)) + (512 : Int64))))), .second, .val (.double r86), .second] [])) _
            refine XS.iconst X86.here hx rfl (hb hby at_338) ?_
            show Steps p.tables e below (T86.setTop (mkF m 339 #[.val (.int z0), .val (.int z1), .val (.int z2), .val (.int z3), .val (.int z4), .val (.int z5), .val (.int nv), .val (.long mm), .second, .val (.double d7), .second, .val (.ref b70), .val (.long ((64 : Int64) * mm)), .second, .val (.long ((((16 : Int64) * mm) * mm) - (512 : Int64))), .second, .val (.long (((((4 : Int64) * mm) * mm) * mm) - ((192 : Int64) * mm))), .second, .val (.long (((((mm * mm) * mm) * mm) - (((64 : Int64) * mm) * mm)) + (512 : Int64))), .second, .val (.long ((((((512 : Int64) * (z1.toInt64)) + ((z2.toInt64) * ((64 : Int64) * mm))) + ((z3.toInt64) * ((((16 : Int64) * mm) * mm) - (512 : Int64)))) + ((z4.toInt64) * (((((4 : Int64) * mm) * mm) * mm) - ((192 : Int64) * mm)))) + ((z5.toInt64) * (((((mm * mm) * mm) * mm) - (((64 : Int64) * mm) * mm)) + (512 : Int64))))), .second, .val (.double r86), .second] [(.int (1 : Int32))])) _
            refine XS.goto X86.here hx rfl (pc0 := 339) (pc' := 343) rfl (hb hby at_339) (by decide) (by decide) ?_
            show Steps p.tables e below (T86.setTop (mkF m 343 #[.val (.int z0), .val (.int z1), .val (.int z2), .val (.int z3), .val (.int z4), .val (.int z5), .val (.int nv), .val (.long mm), .second, .val (.double d7), .second, .val (.ref b70), .val (.long ((64 : Int64) * mm)), .second, .val (.long ((((16 : Int64) * mm) * mm) - (512 : Int64))), .second, .val (.long (((((4 : Int64) * mm) * mm) * mm) - ((192 : Int64) * mm))), .second, .val (.long (((((mm * mm) * mm) * mm) - (((64 : Int64) * mm) * mm)) + (512 : Int64))), .second, .val (.long ((((((512 : Int64) * (z1.toInt64)) + ((z2.toInt64) * ((64 : Int64) * mm))) + ((z3.toInt64) * ((((16 : Int64) * mm) * mm) - (512 : Int64)))) + ((z4.toInt64) * (((((4 : Int64) * mm) * mm) * mm) - ((192 : Int64) * mm)))) + ((z5.toInt64) * (((((mm * mm) * mm) * mm) - (((64 : Int64) * mm) * mm)) + (512 : Int64))))), .second, .val (.double r86), .second] [(.int (1 : Int32))])) _
            exact retN X86 hx (t := .boolean) Bd.returns (by simp) (hb hby at_343) hr
          · show Q0 Z z0 z1 z2 z3 z4 z5 h0 n0 _ T86.heap _
            rw [hh86]
            exact ⟨rfl, N86⟩
set_option maxRecDepth 65536 in
set_option maxHeartbeats 40000000 in
theorem comes_1 {Post : Tables → Env → Array Value → State → Outcome → State → Prop} (hpost : ∀ tb e args s v u, (limb_1_1.after args s (.returned v) u = true ∧ limb_1_2.after args s (.returned v) u = true ∧ True) → FrameEnd s (.returned v) u (Jvm.fieldLocs frame_1_writes args s ++ Jvm.arrayLocs frame_1_arrays args s ++ Jvm.staticLocs frame_1_statics s) 16 128 → Post tb e args s (.returned v) u) :
    ArmFor flags0 classFile x code maxLocals ret World_1 tables_1 room_1 Calls_1 rest_1 Pre_1 Post := by
  intro l hfl _ _ p e ha hc hk s m args below hf hA hF happ hP
  obtain ⟨hcalls, hrest, hpre⟩ := hP
  obtain ⟨-, -, -, hnamed, -, -, -, hat⟩ := (Spec.applies_iff hf).mp happ
  obtain ⟨hg, hn⟩ := and_e (Cond.before_iff.mp (show (Jvm.Cond.and given_1 narrow_1).before args s = true from hpre))
  obtain ⟨hcount, gr0⟩ := and_e hg
  obtain ⟨ga0, gr1⟩ := and_e gr0
  obtain ⟨ga1, gr2⟩ := and_e gr1
  obtain ⟨ga2, gr3⟩ := and_e gr2
  obtain ⟨ga3, gr4⟩ := and_e gr3
  obtain ⟨ga4, ga5⟩ := and_e gr4
  obtain ⟨w0, w1, w2, w3, w4, w5, rfl⟩ : ∃ w0 w1 w2 w3 w4 w5 : Value, args = #[w0, w1, w2, w3, w4, w5] := by
    have hs : args.size = 6 := by simpa [Cond.value, given_1] using hcount
    obtain ⟨L⟩ := args
    match L, hs with
    | [w0, w1, w2, w3, w4, w5], _ => exact ⟨w0, w1, w2, w3, w4, w5, rfl⟩
  have hw := fun d (hd : d ∈ tables_1) => atoms_spec (ws := Jvm.Cond.code x code maxLocals ret :: tables_1) hat d (List.mem_cons_of_mem _ hd)
  have hfit : Fit s := fun {y c} hc i hi => by
    obtain ⟨ha, rfl⟩ := Array.getElem?_eq_some_iff.mp hc
    have q := List.all_eq_true.mp ((Array.all_eq_true_iff_forall_mem.mp hF) _ (Array.getElem_mem ha)) i (List.mem_range.mpr hi)
    simpa [Array.getElem?_eq_getElem hi] using q
  obtain ⟨i0, ei0⟩ := is_v ga0
  obtain rfl : w0 = (.int i0) := Option.some.inj ei0
  obtain ⟨i1, ei1⟩ := is_v ga1
  obtain rfl : w1 = (.int i1) := Option.some.inj ei1
  obtain ⟨i2, ei2⟩ := is_v ga2
  obtain rfl : w2 = (.int i2) := Option.some.inj ei2
  obtain ⟨i3, ei3⟩ := is_v ga3
  obtain rfl : w3 = (.int i3) := Option.some.inj ei3
  obtain ⟨i4, ei4⟩ := is_v ga4
  obtain rfl : w4 = (.int i4) := Option.some.inj ei4
  obtain ⟨i5, ei5⟩ := is_v ga5
  obtain rfl : w5 = (.int i5) := Option.some.inj ei5
  obtain ⟨n, o, h1, h2, h3, _, L, rfl, ⟨rfl, N⟩, hq⟩ := rm0 l s _ hw tables_1 i0 i1 i2 i3 i4 i5  s.heap s.heap.size (Nat.le_refl _)  p e ha hc hk s m _ below hf ((Spec.applies_iff_loose hf).mp happ).1 ⟨rfl, State.Warmed39.refl s, rfl⟩ trivial
  refine ⟨n, _, h1, h2, h3, hpost _ _ _ _ _ _ ⟨Cond.after_iff.mpr rfl, Cond.after_iff.mpr (eq_i res_at (Term.int_eval (1)) rfl), trivial⟩ ⟨hq.1, hq.2.1, (hq.2.2.sift fun y hy => Or.inr (N y hy)).mono (by decide) (by decide)⟩⟩
theorem main_1_1 : Claimed_1_1 := comes_1 fun _ _ _ _ _ _ h hF => ⟨h.1, hF⟩
theorem main_1_2 : Claimed_1_2 := comes_1 fun _ _ _ _ _ _ h hF => ⟨h.2.1, hF⟩
end Jvm.Pilot.@@N@@
namespace Jvm.Pilot.@@N@@
open Jvm Jvm.ClassFile Sem Op Lib Jvm.Free Jvm.Stand Jvm.Pilot.@@N@@.Jvm.D
/-! MADE BY PROGRAM (witnessworld.py) out of the Statement's table words and the real class files: 11 classes; the members and pool entries that the words name. The judged class is class 1, her method 1. -/
namespace start1
open Jvm.ClassFile
def u (s : String) : CpInfo := .utf8 (stringToUtf16 s)
/-- a pool by its gaps: so many unusable entries, then the entry; so many at the end -/
def gap : Nat → List CpInfo → List CpInfo
  | 0, r => r
  | n + 1, r => .unusable :: gap n r
def poolList (es : List (Nat × CpInfo)) (last : Nat) : List CpInfo := es.foldr (fun e r => gap e.1 (e.2 :: r)) (gap last [])
def pool (es : List (Nat × CpInfo)) (last : Nat) : Array CpInfo := ⟨poolList es last⟩
def fileOf (pool : Array CpInfo) (this : Nat) (attrs : Array Attribute := #[]) (ms : Array MethodInfo := #[]) (fl : Nat := 33) (sup : Nat := 0) (ifs : Array Nat := #[]) (fds : Array FieldInfo := #[]) : ClassFile where
  minorVersion := 0
  majorVersion := 65
  constantPool := pool
  accessFlags := fl
  thisClass := this
  superClass := sup
  interfaces := ifs
  fields := fds
  methods := ms
  attributes := attrs
def plain (name : String) (sup : Option ClassId) : Class where
  name := name
  kind := .ordinary
  loader := none
  accessFlags := 33
  super := sup
  interfaces := #[]
  cf := none
  fields := #[]
  methods := #[]
  instanceTypes := #[]
  staticTypes := #[]
  resolved := #[]
  callSites := []
  init := .initialized
  statics := none
  mirror := none

def pool0 : Array CpInfo := pool [(5, u "<init>"), (0, u "()V"), (1, .class_ 10), (1, u "java/lang/Object")] 113

def k0m0 : Method := { name := "<init>", desc := "()V", sig := { parameters := [], returnType := none }, accessFlags := 1, code := none }
/-- java/lang/Object -/
def k0 : Class := { plain "java/lang/Object" none with
  accessFlags := 33
  interfaces := #[]
  cf := some (fileOf pool0 8 #[] #[{ accessFlags := 1, nameIndex := 5, descriptorIndex := 6, attributes := #[] }] 33 0 #[] #[])
  fields := #[]
  methods := #[k0m0]
  instanceTypes := #[]
  staticTypes := #[]
  resolved := Array.replicate 124 none
  statics := none }

def pool1 : Array CpInfo := pool [(2, .class_ 4), (1, u "java/lang/Object"), (0, u "<init>"), (0, u "()V"), (0, .long 8), (1, .double 4620693217682128896), (1, .long 64), (1, .long 16), (1, .long 512), (1, .long 4), (1, .long 192), (1, .methodref 22 23), (0, .class_ 24), (0, .nameAndType 25 26), (0, u "com/example/matchstat/matchstat/Chebyshev"), (0, u "sum"), (0, u "([DD)D"), (0, .double 4647714815446351872), (1, .class_ 30), (0, u "com/example/matchstat/matchstat/ChebyshevSumPinLaw"), (2, u "law"), (0, u "(IIIIII)Z")] 5

def k1m0 : Method := { name := "<init>", desc := "()V", sig := { parameters := [], returnType := none }, accessFlags := 2, code := none }
def k1c1 : Code := { maxStack := 6, maxLocals := 24, code := code, exceptionTable := #[], attributes := #[] }
def k1m1 : Method := { name := "law", desc := "(IIIIII)Z", sig := { parameters := [.int, .int, .int, .int, .int, .int], returnType := some .boolean }, accessFlags := 9, code := some k1c1 }
/-- com/example/matchstat/matchstat/ChebyshevSumPinLaw -/
def k1 : Class := { plain "com/example/matchstat/matchstat/ChebyshevSumPinLaw" (some 0) with
  accessFlags := 49
  interfaces := #[]
  cf := some (fileOf pool1 29 #[] #[{ accessFlags := 2, nameIndex := 5, descriptorIndex := 6, attributes := #[] }, { accessFlags := 9, nameIndex := 33, descriptorIndex := 34, attributes := #[] }] 49 2 #[] #[])
  fields := #[]
  methods := #[k1m0, k1m1]
  instanceTypes := #[]
  staticTypes := #[]
  resolved := Array.replicate 40 none
  statics := none }

def pool2 : Array CpInfo := pool [(2, .class_ 4), (1, u "java/lang/Object"), (0, u "<init>"), (0, u "()V"), (1, .class_ 10), (1, u "com/example/matchstat/matchstat/Chebyshev"), (0, u "COSINES"), (0, u "[[D"), (0, .double 4611686018427387904), (18, u "DEGREE"), (0, u "I"), (11, u "sum"), (0, u "([DD)D"), (4, .class_ 52), (0, u "com/example/matchstat/matchstat/Chebyshev$Interpolant")] 2

def k2m0 : Method := { name := "<init>", desc := "()V", sig := { parameters := [], returnType := none }, accessFlags := 2, code := none }
def k2c1 : Code := { maxStack := 6, maxLocals := 10, code := prog_28_method_4_code, exceptionTable := #[], attributes := #[] }
def k2m1 : Method := { name := "sum", desc := "([DD)D", sig := { parameters := [(.array .double), .double], returnType := some .double }, accessFlags := 8, code := some k2c1 }
/-- com/example/matchstat/matchstat/Chebyshev -/
def k2 : Class := { plain "com/example/matchstat/matchstat/Chebyshev" (some 0) with
  accessFlags := 48
  interfaces := #[]
  cf := some (fileOf pool2 8 #[.nestMembers #[51]] #[{ accessFlags := 2, nameIndex := 5, descriptorIndex := 6, attributes := #[] }, { accessFlags := 8, nameIndex := 45, descriptorIndex := 46, attributes := #[] }] 48 2 #[] #[{ accessFlags := 24, nameIndex := 32, descriptorIndex := 33, attributes := #[] }, { accessFlags := 26, nameIndex := 11, descriptorIndex := 12, attributes := #[] }])
  fields := #[{ name := "DEGREE", type := .int, accessFlags := 24, slot := 0, constantValue := 0 }, { name := "COSINES", type := (.array (.array .double)), accessFlags := 26, slot := 1, constantValue := 0 }]
  methods := #[k2m0, k2m1]
  instanceTypes := #[]
  staticTypes := #[.int, (.array (.array .double))]
  resolved := Array.replicate 55 none
  statics := none }

def pool3 : Array CpInfo := pool [(1, u "java/lang/Cloneable"), (0, .class_ 1), (0, u "java/lang/Object"), (0, .class_ 3)] 3

/-- java/lang/Cloneable -/
def k3 : Class := { plain "java/lang/Cloneable" (some 0) with
  accessFlags := 1537
  interfaces := #[]
  cf := some (fileOf pool3 2 #[] #[] 1537 4 #[] #[])
  fields := #[]
  methods := #[]
  instanceTypes := #[]
  staticTypes := #[]
  resolved := Array.replicate 8 none
  statics := none }

def pool4 : Array CpInfo := pool [(1, u "java/io/Serializable"), (0, .class_ 1), (0, u "java/lang/Object"), (0, .class_ 3)] 3

/-- java/io/Serializable -/
def k4 : Class := { plain "java/io/Serializable" (some 0) with
  accessFlags := 1537
  interfaces := #[]
  cf := some (fileOf pool4 2 #[] #[] 1537 4 #[] #[])
  fields := #[]
  methods := #[]
  instanceTypes := #[]
  staticTypes := #[]
  resolved := Array.replicate 8 none
  statics := none }

/-- the primitive byte -/
def k5 : Class := { plain "byte" none with kind := .primitive 'B', accessFlags := 0x411 }
/-- [B -/
def k6 : Class := { plain "[B" (some 0) with kind := .array 5 .byte, interfaces := #[3, 4], accessFlags := 1041 }

/-- the primitive double -/
def k7 : Class := { plain "double" none with kind := .primitive 'D', accessFlags := 0x411 }
/-- [D -/
def k8 : Class := { plain "[D" (some 0) with kind := .array 7 .double, interfaces := #[3, 4], accessFlags := 1041 }

/-- the primitive int -/
def k9 : Class := { plain "int" none with kind := .primitive 'I', accessFlags := 0x411 }
/-- [I -/
def k10 : Class := { plain "[I" (some 0) with kind := .array 9 .int, interfaces := #[3, 4], accessFlags := 1041 }

def heap : Heap := #[]
def classes : Array Class := #[k0, k1, k2, k3, k4, k5, k6, k7, k8, k9, k10]
def interned : List (Array UInt16 × Addr) := []
def slotsUsed : Nat := 0
def theMethod : MethodId := ⟨1, 1⟩
def args0 : Array Value := #[.int 1, .int 2, .int 3, .int 4, .int 5, .int 6]
def aboutOver (below : List Frame) : State where
  vm := { classes := classes, interned := interned.toArray }
  heap := heap
  slotsUsed := slotsUsed
  threads := #[{ frames := .invoking theMethod args0 :: below }]
def below0 : List Frame := [.native { method := ⟨0, 0⟩, args := #[] }]
def about1 : State := aboutOver below0
def p0 : Program := .bare "" "" ""
def e0 : Env := launch0.env 0 0 0
theorem w_frames : about1.frames = Frame.invoking theMethod args0 :: below0 := rfl
set_option maxRecDepth 65536 in
theorem w_args : argsFit about1.vm theMethod args0 = true := by decide +kernel
set_option maxRecDepth 65536 in
theorem w_heap : heapFits about1 = true := by decide +kernel
set_option maxRecDepth 65536 in
theorem w_runnable : about1.curStatus? = some .runnable := by decide +kernel
set_option maxRecDepth 65536 in
theorem w_alone : about1.alone = true := by decide +kernel
set_option maxRecDepth 65536 in
theorem w_named : about1.methodNamed? x = some theMethod := by decide +kernel
set_option maxRecDepth 65536 in
theorem w_hears : about1.hears theMethod below0 = true := by decide +kernel
set_option maxRecDepth 65536 in
theorem w_ripe : about1.ripe theMethod args0 below0 = true := by decide +kernel
theorem w_running : about1.status = .running := rfl
set_option maxRecDepth 65536 in
theorem w_room : about1.hasRoom e0.platform room_1 = true :=
  launch0.hasRoom_least _ room_1 (by decide +kernel) (by decide +kernel) (by decide +kernel) (by decide +kernel) (by decide +kernel) (by decide +kernel)
theorem allAtoms_all (ts : List Jvm.Cond) (a : Array Jvm.Value) (st : Jvm.State) : (allAtoms ts).before a st = ts.all (fun c => c.before a st) := by
  induction ts with
  | nil => rfl
  | cons c t ih =>
    show (Jvm.Cond.and c (allAtoms t)).before a st = _
    rw [Jvm.Cond.before_and, ih, List.all_cons]
def words1 : List Jvm.Cond := Jvm.Cond.code x code maxLocals ret :: tables_1
/-- a 'code' word, met by the world's own term for the bytes: nothing is compared byte by byte -/
theorem code_word {y : MethodName} {bytes : ByteArray} {mx : Nat} {rt : Option FieldType} {a : Array Value} {s : State} {m : MethodId} {meth : Method} {c : Code} (h1 : s.methodNamed? y = some m) (h2 : s.vm.method? m = some meth) (h3 : meth.code = some c) (h4 : c.code = bytes)
    (h5 : (c.maxLocals == mx && c.exceptionTable.isEmpty && decide (c.maxStack ≤ mostOperands) && decide (meth.sig.returnType = rt) && !meth.locks && decide (parseMethodDescriptor y.desc = some meth.sig)) = true) : (Jvm.Cond.code y bytes mx rt).before a s = true := by
  simp only [Bool.and_eq_true, beq_iff_eq, Bool.not_eq_true', decide_eq_true_eq] at h5
  obtain ⟨⟨⟨⟨⟨g1, g2⟩, g3⟩, g4⟩, g5⟩, g6⟩ := h5
  simp [Cond.before, Cond.holds, Cond.value, h1, h2, h3, h4, g1, g2, g3, g4, g5, g6]
def isCode : Jvm.Cond → Bool
  | .code _ _ _ _ => true
  | _ => false
theorem all_split {L : List Jvm.Cond} {P : Jvm.Cond → Bool} (h1 : L.all (fun c => isCode c || P c) = true) (h2 : ∀ c ∈ L.filter isCode, P c = true) : L.all P = true := by
  refine List.all_eq_true.mpr fun c hc => ?_
  have h := List.all_eq_true.mp h1 c hc
  rcases Bool.eq_false_or_eq_true (isCode c) with hi | hi
  · exact h2 c (List.mem_filter.mpr ⟨hc, hi⟩)
  · simpa [hi] using h
set_option maxRecDepth 65536 in
theorem w_c0 : (Jvm.Cond.code x code maxLocals ret).before args0 about1 = true := code_word (m := ⟨1, 1⟩) (meth := k1m1) (c := k1c1) (by decide +kernel) rfl rfl rfl (by decide +kernel)
set_option maxRecDepth 65536 in
theorem w_c1 : (Jvm.Cond.code ({ cls := "com/example/matchstat/matchstat/Chebyshev", name := "sum", desc := "([DD)D" } : Jvm.MethodName) prog_28_method_4_code (10 : Nat) (Option.some Jvm.ClassFile.FieldType.double)).before args0 about1 = true := code_word (m := ⟨2, 1⟩) (meth := k2m1) (c := k2c1) (by decide +kernel) rfl rfl rfl (by decide +kernel)
def codes1 : List Jvm.Cond := [Jvm.Cond.code x code maxLocals ret, Jvm.Cond.code ({ cls := "com/example/matchstat/matchstat/Chebyshev", name := "sum", desc := "([DD)D" } : Jvm.MethodName) prog_28_method_4_code (10 : Nat) (Option.some Jvm.ClassFile.FieldType.double)]
set_option maxRecDepth 65536 in
theorem codes_eq : words1.filter isCode = codes1 := rfl
theorem w_codes : ∀ c ∈ words1.filter isCode, c.before args0 about1 = true := by
  rw [codes_eq]
  intro c hc
  simp only [codes1, List.mem_cons, List.not_mem_nil, or_false] at hc
  rcases hc with rfl | rfl
  · exact w_c0
  · exact w_c1
set_option maxRecDepth 65536 in
theorem w_t1 : words1.all (fun c => isCode c || c.before args0 about1) = true := by decide +kernel
theorem w_tables : (allAtoms (Jvm.Cond.code x code maxLocals ret :: tables_1)).before args0 about1 = true := by
  rw [allAtoms_all]
  show words1.all (fun c => c.before args0 about1) = true
  refine all_split ?_ w_codes
  rw [w_t1]
set_option maxRecDepth 65536 in
theorem w_case : (Jvm.Cond.and given_1 narrow_1).before args0 about1 = true := by decide +kernel
theorem w_applies : (headSpec (Jvm.Cond.code x code maxLocals ret :: tables_1) room_1).applies x e0.platform about1 = true :=
  (Spec.applies_iff w_frames).mpr ⟨w_running, w_runnable, w_alone, w_named, w_hears, w_ripe, w_room, w_tables⟩
theorem atStart : AtStart classFile x code maxLocals ret World_1 tables_1 room_1 Calls_1 rest_1 Pre_1 launch0 p0 e0 about1 theMethod args0 below0 :=
  ⟨lists_1, trivial, launch0.admits_env _ _ _, launch0.least_env, fairChoices_fair.cas, fairChoices_fair.clock, w_frames, w_args, w_heap, w_applies, trivial, trivial, w_case⟩
end start1
theorem witness_1 : WitnessClaimed_1 := ⟨start1.p0, start1.e0, start1.about1, start1.theMethod, start1.args0, start1.below0, start1.atStart⟩
end Jvm.Pilot.@@N@@
