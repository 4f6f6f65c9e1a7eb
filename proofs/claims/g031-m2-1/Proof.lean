import JvmDerived
import JvmDerived.Pilot.@@N@@Statement
import JvmDerived.Pilot.@@N@@Code
set_option linter.unusedVariables false
set_option linter.unusedSimpArgs false
namespace Jvm.Pilot.@@N@@
open Jvm Jvm.ClassFile Sem Op Lib Jvm.Free Jvm.Stand Jvm.LawKit Jvm.RoadKit Bundle Jvm.Pilot.@@N@@.Jvm.D
def own_A (Z : State) (h : Heap) (a : Addr) (ty : FieldType) (n : Int32) (f : Nat → Int32) : Prop := ∃ c : Cell, Arr Z h a c ty ∧ c.slots.size = n.toNatClampNeg ∧ ¬ n < 0 ∧ ∀ j, j < n.toNatClampNeg → c.slots[j]? = some (.int (f j))
def own_upd (f : Nat → Int32) (i : Nat) (x : Int32) : Nat → Int32 := fun j => if j = i then x else f j
theorem own_A.ext {Z : State} {h h' : Heap} {a : Addr} {ty : FieldType} {n : Int32} {f : Nat → Int32} (V : own_A Z h a ty n f) (E : Ext h h') : own_A Z h' a ty n f := by obtain ⟨c, A, r⟩ := V; exact ⟨c, A.ext E, r⟩
theorem own_A.other {Z : State} {h h' : Heap} {a b : Addr} {sl : Nat} {v : Value} {ty : FieldType} {n : Int32} {f : Nat → Int32} (V : own_A Z h b ty n f) (W : Wr h h' a sl v) (q : b ≠ a) : own_A Z h' b ty n f := by obtain ⟨c, A, r⟩ := V; exact ⟨c, A.other W q, r⟩
theorem own_A.keep {Z : State} {h h' : Heap} {a : Addr} {ws : List Addr} {ty : FieldType} {n : Int32} {f : Nat → Int32} (V : own_A Z h a ty n f) (K : Keep h h' ws) (q : a ∉ ws) : own_A Z h' a ty n f := by obtain ⟨c, A, r⟩ := V; exact ⟨c, ⟨K.2.1 a c A.1 q, A.2⟩, r⟩
theorem own_A.lt {Z : State} {h : Heap} {a : Addr} {ty : FieldType} {n : Int32} {f : Nat → Int32} (V : own_A Z h a ty n f) : a < h.size := by obtain ⟨c, A, -⟩ := V; exact A.lt
theorem own_A.new {Z : State} {h : Heap} {a : Addr} {k : ClassId} {ty : FieldType} {n : Int32} (A : Arr Z h a (newA k ty n) ty) (q : ¬ n < 0) (hd : defaultValue ty = .int 0) : own_A Z h a ty n (fun _ => 0) := by
  obtain ⟨c, A1, -, S, M, H, -⟩ := Arv.new A q
  refine ⟨c, A1, S, M, fun j hj => ?_⟩
  have w := H j (by rw [S]; exact hj)
  rw [hd] at w; simpa using w
theorem own_A.set {Z : State} {h h' : Heap} {a : Addr} {c : Cell} {ty : FieldType} {n : Int32} {f : Nat → Int32} {i : Nat} {x : Int32} (A : Arr Z h a c ty) (S : c.slots.size = n.toNatClampNeg) (M : ¬ n < 0) (H : ∀ j, j < n.toNatClampNeg → c.slots[j]? = some (.int (f j))) (W : Wr h h' a i (.int x)) : own_A Z h' a ty n (own_upd f i x) := by
  refine ⟨c.setSlot i (.int x), A.same W, by rw [sz_set]; exact S, M, fun j hj => ?_⟩
  show (c.slots.setIfInBounds i (.int x))[j]? = _
  rw [Array.getElem?_setIfInBounds]
  by_cases e : i = j
  · subst e; simp [own_upd, S, hj]
  · rw [if_neg e, H j hj, own_upd, if_neg (Ne.symm e)]
theorem own_A.at {c : Cell} {n j : Int32} {f : Nat → Int32} (S : c.slots.size = n.toNatClampNeg) (H : ∀ j, j < n.toNatClampNeg → c.slots[j]? = some (.int (f j))) (q : ¬ (j < 0 ∨ c.slots.size ≤ j.toNatClampNeg)) : c.slots[j.toNatClampNeg]? = some (.int (f j.toNatClampNeg)) := H _ (by rw [← S]; exact Nat.lt_of_not_le fun y => q (Or.inr y))
theorem own_sa {Z : State} {a0 : Array Value} (hw : ∀ d ∈ tables_1, d.before a0 Z = true) : ∀ a ∈ Bundle.stringAtoms, a.before a0 Z = true := by
  intro d hd
  simp only [Bundle.stringAtoms, List.mem_cons, List.not_mem_nil, or_false] at hd
  rcases hd with rfl | rfl | rfl | rfl | rfl | rfl | rfl
  · first | exact (hw _ (List.mem_of_getElem? (i := 23) rfl)) | exact (hw _ (List.mem_of_getElem? (i := 24) rfl)) | exact (hw _ (List.mem_of_getElem? (i := 0) rfl)) | exact (hw _ (List.mem_of_getElem? (i := 25) rfl)) | exact (hw _ (List.mem_of_getElem? (i := 26) rfl)) | exact (hw _ (List.mem_of_getElem? (i := 27) rfl)) | exact (hw _ (List.mem_of_getElem? (i := 28) rfl))
  · first | exact (hw _ (List.mem_of_getElem? (i := 23) rfl)) | exact (hw _ (List.mem_of_getElem? (i := 24) rfl)) | exact (hw _ (List.mem_of_getElem? (i := 0) rfl)) | exact (hw _ (List.mem_of_getElem? (i := 25) rfl)) | exact (hw _ (List.mem_of_getElem? (i := 26) rfl)) | exact (hw _ (List.mem_of_getElem? (i := 27) rfl)) | exact (hw _ (List.mem_of_getElem? (i := 28) rfl))
  · first | exact (hw _ (List.mem_of_getElem? (i := 23) rfl)) | exact (hw _ (List.mem_of_getElem? (i := 24) rfl)) | exact (hw _ (List.mem_of_getElem? (i := 0) rfl)) | exact (hw _ (List.mem_of_getElem? (i := 25) rfl)) | exact (hw _ (List.mem_of_getElem? (i := 26) rfl)) | exact (hw _ (List.mem_of_getElem? (i := 27) rfl)) | exact (hw _ (List.mem_of_getElem? (i := 28) rfl))
  · first | exact (hw _ (List.mem_of_getElem? (i := 23) rfl)) | exact (hw _ (List.mem_of_getElem? (i := 24) rfl)) | exact (hw _ (List.mem_of_getElem? (i := 0) rfl)) | exact (hw _ (List.mem_of_getElem? (i := 25) rfl)) | exact (hw _ (List.mem_of_getElem? (i := 26) rfl)) | exact (hw _ (List.mem_of_getElem? (i := 27) rfl)) | exact (hw _ (List.mem_of_getElem? (i := 28) rfl))
  · first | exact (hw _ (List.mem_of_getElem? (i := 23) rfl)) | exact (hw _ (List.mem_of_getElem? (i := 24) rfl)) | exact (hw _ (List.mem_of_getElem? (i := 0) rfl)) | exact (hw _ (List.mem_of_getElem? (i := 25) rfl)) | exact (hw _ (List.mem_of_getElem? (i := 26) rfl)) | exact (hw _ (List.mem_of_getElem? (i := 27) rfl)) | exact (hw _ (List.mem_of_getElem? (i := 28) rfl))
  · first | exact (hw _ (List.mem_of_getElem? (i := 23) rfl)) | exact (hw _ (List.mem_of_getElem? (i := 24) rfl)) | exact (hw _ (List.mem_of_getElem? (i := 0) rfl)) | exact (hw _ (List.mem_of_getElem? (i := 25) rfl)) | exact (hw _ (List.mem_of_getElem? (i := 26) rfl)) | exact (hw _ (List.mem_of_getElem? (i := 27) rfl)) | exact (hw _ (List.mem_of_getElem? (i := 28) rfl))
  · first | exact (hw _ (List.mem_of_getElem? (i := 23) rfl)) | exact (hw _ (List.mem_of_getElem? (i := 24) rfl)) | exact (hw _ (List.mem_of_getElem? (i := 0) rfl)) | exact (hw _ (List.mem_of_getElem? (i := 25) rfl)) | exact (hw _ (List.mem_of_getElem? (i := 26) rfl)) | exact (hw _ (List.mem_of_getElem? (i := 27) rfl)) | exact (hw _ (List.mem_of_getElem? (i := 28) rfl))
def own_pick (c' : Int32) (i' : Int32) (n' : Int32) (e' : Int32) (w' : Int32) : Int32 := (if i' < n' then (if (((c'.toUInt32 >>> (((10 : Int32) + i') &&& 31).toUInt32).toInt32) &&& (1 : Int32)) = (0 : Int32) then (nar .byte e') else (nar .byte (((w'.toUInt32 >>> (((8 : Int32) * i') &&& 31).toUInt32).toInt32).toInt8.toInt32))) else (nar .byte (((w'.toUInt32 >>> (((8 : Int32) * i') &&& 31).toUInt32).toInt32).toInt8.toInt32)))
def own_minl (a' : Int64) (b' : Int64) : Int64 := (if b' < a' then b' else a')
def own_mini (a' : Int32) (b' : Int32) : Int32 := (if b' < a' then b' else a')
def own_mm (f' g' : Nat → Int32) (ai' bi' len' : Int32) : Int32 := (if (0 : Int32) < len' then (if (f' ((ai' + (0 : Int32))).toNatClampNeg) = (g' ((bi' + (0 : Int32))).toNatClampNeg) then (if (1 : Int32) < len' then (if (f' ((ai' + (1 : Int32))).toNatClampNeg) = (g' ((bi' + (1 : Int32))).toNatClampNeg) then (if (2 : Int32) < len' then (if (f' ((ai' + (2 : Int32))).toNatClampNeg) = (g' ((bi' + (2 : Int32))).toNatClampNeg) then (if (3 : Int32) < len' then (if (f' ((ai' + (3 : Int32))).toNatClampNeg) = (g' ((bi' + (3 : Int32))).toNatClampNeg) then (-1 : Int32) else (3 : Int32)) else (-1 : Int32)) else (2 : Int32)) else (-1 : Int32)) else (1 : Int32)) else (-1 : Int32)) else (0 : Int32)) else (-1 : Int32))
theorem own_nar (x : Int32) : nar .byte (nar .byte x) = nar .byte x := by
  apply Int32.toInt_inj.mp
  have a := c_i2b x; have b := c_i2b x.toInt8.toInt32
  show x.toInt8.toInt32.toInt8.toInt32.toInt = x.toInt8.toInt32.toInt
  omega
theorem own_put (w j : Int32) (h : nar .byte w = w) : nar .byte ((((w &&& (255 : Int32)) ||| (j <<< ((8 : Int32) &&& 31)))).toInt8.toInt32) = w := by
  apply Int32.toInt_inj.mp
  have h' : w.toInt8.toInt32 = w := h
  have r := c_i2b w; rw [h'] at r
  have a := c_mask w 255 8 (by decide) (by decide)
  have b := c_ishl j 8 8 (by decide)
  have c := c_or' (w &&& 255) (j <<< ((8 : Int32) &&& 31)) 8 (by decide) 256 (by decide) (by omega) (by omega) (by omega)
  have d := c_i2b ((w &&& 255) ||| (j <<< ((8 : Int32) &&& 31)))
  have e := c_i2b ((w &&& 255) ||| (j <<< ((8 : Int32) &&& 31))).toInt8.toInt32
  show (((w &&& 255) ||| (j <<< ((8 : Int32) &&& 31)))).toInt8.toInt32.toInt8.toInt32.toInt = w.toInt
  omega
def own_D (W E : Nat → Int32) (n : Nat) : Nat → Int
  | 0 => -1
  | t + 1 => if own_D W E n t = -1 then (if t < n ∧ W t = E t then -1 else (t : Int)) else own_D W E n t
theorem own_D1 (W E : Nat → Int32) (n t : Nat) : own_D W E n (t + 1) = if own_D W E n t = -1 then (if t < n ∧ W t = E t then -1 else (t : Int)) else own_D W E n t := rfl
theorem own_Dr (W E : Nat → Int32) (n t : Nat) : own_D W E n t = -1 ∨ (0 ≤ own_D W E n t ∧ own_D W E n t < t) := by
  induction t with
  | zero => exact Or.inl rfl
  | succ t ih =>
    rw [own_D1]
    by_cases h : own_D W E n t = -1
    · rw [if_pos h]
      by_cases q : t < n ∧ W t = E t
      · rw [if_pos q]; exact Or.inl rfl
      · rw [if_neg q]; right; omega
    · rw [if_neg h]; right; rcases ih with ih | ih
      · exact absurd ih h
      · omega
theorem own_Dkeep (W E : Nat → Int32) (n t u : Nat) (h : own_D W E n t ≠ -1) : own_D W E n (t + u) = own_D W E n t := by
  induction u with
  | zero => rfl
  | succ u ih => rw [← Nat.add_assoc, own_D1, if_neg (by rw [ih]; exact h), ih]
theorem own_Deq (W E : Nat → Int32) (n t : Nat) (h : ∀ i, i < t → i < n ∧ W i = E i) : own_D W E n t = -1 := by
  induction t with
  | zero => rfl
  | succ t ih => rw [own_D1, if_pos (ih fun i hi => h i (by omega)), if_pos (h t (by omega))]
theorem own_Dle (W E : Nat → Int32) (n t : Nat) (h : own_D W E n t = -1) : t ≤ n := by
  induction t with
  | zero => omega
  | succ t ih =>
    rw [own_D1] at h
    by_cases q : own_D W E n t = -1
    · rw [if_pos q] at h
      by_cases q2 : t < n ∧ W t = E t
      · omega
      · rw [if_neg q2] at h; omega
    · rw [if_neg q] at h; exact absurd h q
/-- the first place where two runs part -/
def own_mn (u v : Nat → Int32) : Nat → Nat → Int
  | 0, _ => -1
  | k + 1, i => if u i = v i then own_mn u v k (i + 1) else (i : Int)
theorem own_mn1 (u v : Nat → Int32) (k i : Nat) : own_mn u v (k + 1) i = if u i = v i then own_mn u v k (i + 1) else (i : Int) := rfl
theorem own_mnc (u v u' v' : Nat → Int32) (k : Nat) : ∀ i, (∀ j, i ≤ j → j < i + k → u j = u' j ∧ v j = v' j) → own_mn u v k i = own_mn u' v' k i := by
  induction k with
  | zero => intro i h; rfl
  | succ k ih =>
    intro i h
    rw [own_mn1, own_mn1, (h i (by omega) (by omega)).1, (h i (by omega) (by omega)).2, ih (i + 1) fun j a b => h j (by omega) (by omega)]
theorem own_run (W E : Nat → Int32) (n t k : Nat) : ∀ i, own_D W E n (t + i) = -1 → t + i + k ≤ n →
    (own_mn (fun j => W (t + j)) (fun j => E (t + j)) k i = -1 ∧ own_D W E n (t + i + k) = -1) ∨ (∃ r : Nat, own_mn (fun j => W (t + j)) (fun j => E (t + j)) k i = r ∧ r < i + k ∧ own_D W E n (t + i + k) = ((t + r : Nat) : Int)) := by
  induction k with
  | zero => intro i h _; exact Or.inl ⟨rfl, h⟩
  | succ k ih =>
    intro i h hn
    rw [own_mn1]
    by_cases q : W (t + i) = E (t + i)
    · rw [if_pos q]
      have h' : own_D W E n (t + (i + 1)) = -1 := by rw [← Nat.add_assoc, own_D1, if_pos h, if_pos ⟨by omega, q⟩]
      rcases ih (i + 1) h' (by omega) with ⟨a, b⟩ | ⟨r, a, b, c⟩
      · left; exact ⟨a, by rw [show t + i + (k + 1) = t + (i + 1) + k from by omega]; exact b⟩
      · right; exact ⟨r, a, by omega, by rw [show t + i + (k + 1) = t + (i + 1) + k from by omega]; exact c⟩
    · rw [if_neg q]
      have h' : own_D W E n (t + i + 1) = ((t + i : Nat) : Int) := by rw [own_D1, if_pos h, if_neg fun z => q z.2]
      right
      refine ⟨i, rfl, by omega, ?_⟩
      rw [show t + i + (k + 1) = t + i + 1 + k from by omega, own_Dkeep W E n (t + i + 1) k (by rw [h']; omega), h']
theorem own_z : (0 : Int32).toInt = 0 := rfl
theorem own_zL : (0 : Int64).toInt = 0 := rfl
theorem own_lts {x y : Int32} (h : x.toInt < y.toInt) : x < y := Int32.lt_iff_toInt_lt.mpr h
theorem own_nlt {x y : Int32} (h : y.toInt ≤ x.toInt) : ¬ x < y := fun q => by rw [Int32.lt_iff_toInt_lt] at q; omega
theorem own_of {x y : Int32} (h : x < y) : x.toInt < y.toInt := Int32.lt_iff_toInt_lt.mp h
theorem own_ofn {x y : Int32} (h : ¬ x < y) : y.toInt ≤ x.toInt := by have := mt Int32.lt_iff_toInt_lt.mpr h; omega
theorem own_tn (x : Int32) (h : 0 ≤ x.toInt) : ((x.toNatClampNeg : Nat) : Int) = x.toInt := by rw [Int32.toNatClampNeg]; omega
theorem own_idx (a i : Int32) (k : Nat) (ha : 0 ≤ a.toInt) (hi : i.toInt = k) (hb : a.toInt + k < 2147483648) : (a + i).toNatClampNeg = a.toNatClampNeg + k := by
  have c := c_iadd a i; have r := rng32 (a + i)
  have q : (a + i).toInt = a.toInt + k := by omega
  rw [Int32.toNatClampNeg, Int32.toNatClampNeg, q]; omega
theorem own_ix {a i len n : Int32} (h1 : 0 ≤ a.toInt) (h2 : a.toInt + len.toInt ≤ n.toInt) (h0 : 0 ≤ i.toInt) (hi : i < len) : ¬ (a + i) < 0 ∧ (a + i) < n := by
  have c := c_iadd a i; have r := rng32 (a + i); have q := own_of hi; have r2 := rng32 n
  refine ⟨own_nlt ?_, own_lts ?_⟩
  · rw [own_z]; omega
  · omega
theorem own_miniv (a b : Int32) : (own_mini a b).toInt = min a.toInt b.toInt := by
  rw [own_mini]; split
  · rename_i q; have := own_of q; omega
  · rename_i q; have := own_ofn q; omega
theorem own_minlv (a b : Int64) : (own_minl a b).toInt = min a.toInt b.toInt := by
  rw [own_minl]; split
  · rename_i q; rw [Int64.lt_iff_toInt_lt] at q; omega
  · rename_i q; rw [Int64.lt_iff_toInt_lt] at q; omega
def own_mis (f : Nat → Int32) (a b : Int32) (g : Nat → Int32) (c e : Int32) : Int32 := if own_mm f g a c (own_mini (b - a) (e - c)) < (0 : Int32) then (if (b - a) = (e - c) then own_mm f g a c (own_mini (b - a) (e - c)) else own_mini (b - a) (e - c)) else own_mm f g a c (own_mini (b - a) (e - c))
def own_wd (d wr : Int64) (f : Nat → Int32) (o len n : Int32) (g : Nat → Int32) : Int64 := if d < (0 : Int64) then (if own_mis f o (o + len) g ((own_minl wr (n.toInt64)).toInt32) ((own_minl (wr + (len.toInt64)) (n.toInt64)).toInt32) < (0 : Int32) then d else (wr + ((own_mis f o (o + len) g ((own_minl wr (n.toInt64)).toInt32) ((own_minl (wr + (len.toInt64)) (n.toInt64)).toInt32)).toInt64))) else d
def own_off (d wr : Int64) (n : Int32) : Int64 := if d < (0 : Int64) then (if wr < n.toInt64 then wr else d) else d
theorem own_mmv (f g : Nat → Int32) (a b len : Int32) (ha : 0 ≤ a.toInt) (hb : 0 ≤ b.toInt) (ha2 : a.toInt < 2000000000) (hb2 : b.toInt < 2000000000) (h0 : 0 ≤ len.toInt) (h4 : len.toInt ≤ 4) : (own_mm f g a b len).toInt = own_mn (fun i => f (a.toNatClampNeg + i)) (fun i => g (b.toNatClampNeg + i)) len.toNatClampNeg 0 := by
  have q : len = 0 ∨ len = 1 ∨ len = 2 ∨ len = 3 ∨ len = 4 := by simp only [← Int32.toInt_inj, Int32.reduceToInt]; omega
  have i0 := own_idx a 0 0 ha rfl (by omega); have i1 := own_idx a 1 1 ha rfl (by omega); have i2 := own_idx a 2 2 ha rfl (by omega); have i3 := own_idx a 3 3 ha rfl (by omega)
  have j0 := own_idx b 0 0 hb rfl (by omega); have j1 := own_idx b 1 1 hb rfl (by omega); have j2 := own_idx b 2 2 hb rfl (by omega); have j3 := own_idx b 3 3 hb rfl (by omega)
  rw [own_mm]
  simp only [i0, i1, i2, i3, j0, j1, j2, j3]
  generalize a.toNatClampNeg = x
  generalize b.toNatClampNeg = y
  rcases q with rfl | rfl | rfl | rfl | rfl
  · rfl
  · rw [show ((1 : Int32)).toNatClampNeg = 1 from rfl, own_mn1]
    simp only [own_mn, show (0 : Int32) < 1 from by decide, show ¬ (1 : Int32) < 1 from by decide, if_true, if_false]
    repeat' split
    all_goals rfl
  · rw [show ((2 : Int32)).toNatClampNeg = 2 from rfl, own_mn1, own_mn1]
    simp only [own_mn, show (0 : Int32) < 2 from by decide, show (1 : Int32) < 2 from by decide, show ¬ (2 : Int32) < 2 from by decide, if_true, if_false]
    repeat' split
    all_goals first | rfl | simp_all
  · rw [show ((3 : Int32)).toNatClampNeg = 3 from rfl, own_mn1, own_mn1, own_mn1]
    simp only [own_mn, show (0 : Int32) < 3 from by decide, show (1 : Int32) < 3 from by decide, show (2 : Int32) < 3 from by decide, show ¬ (3 : Int32) < 3 from by decide, if_true, if_false]
    repeat' split
    all_goals first | rfl | simp_all
  · rw [show ((4 : Int32)).toNatClampNeg = 4 from rfl, own_mn1, own_mn1, own_mn1, own_mn1]
    simp only [own_mn, show (0 : Int32) < 4 from by decide, show (1 : Int32) < 4 from by decide, show (2 : Int32) < 4 from by decide, show (3 : Int32) < 4 from by decide, if_true, if_false]
    repeat' split
    all_goals first | rfl | simp_all
theorem own_se {wr : Int64} {n len : Int32} (hw : 0 ≤ wr.toInt ∧ wr.toInt ≤ 4) (hn : 0 ≤ n.toInt ∧ n.toInt ≤ 4) (hl : 0 ≤ len.toInt ∧ len.toInt ≤ 4) : ((own_minl wr (n.toInt64)).toInt32).toInt = min wr.toInt n.toInt ∧ ((own_minl (wr + (len.toInt64)) (n.toInt64)).toInt32).toInt = min (wr.toInt + len.toInt) n.toInt := by
  have a := own_minlv wr n.toInt64; have b := own_minlv (wr + len.toInt64) n.toInt64; have c := c_ladd wr len.toInt64
  rw [c_i2l] at a b c
  have r := rng64 (wr + len.toInt64); have d := c_l2i (own_minl wr n.toInt64); have e := c_l2i (own_minl (wr + len.toInt64) n.toInt64)
  have r1 := rng32 (own_minl wr n.toInt64).toInt32; have r2 := rng32 (own_minl (wr + len.toInt64) n.toInt64).toInt32
  omega
theorem own_sub {a b : Int32} (h : 0 ≤ a.toInt) (h2 : a.toInt ≤ b.toInt) : (b - a).toInt = b.toInt - a.toInt := by
  have c := c_isub b a; have r := rng32 (b - a); have r2 := rng32 b; omega
theorem own_addb {a b n : Int32} (h : 0 ≤ a.toInt) (h1 : 0 ≤ b.toInt) (h2 : a.toInt + b.toInt ≤ n.toInt) : (a + b).toInt = a.toInt + b.toInt := by
  have c := c_iadd a b; have r := rng32 (a + b); have r2 := rng32 n; omega
theorem own_chunk (W E : Nat → Int32) (N t L : Nat) (d wr : Int64) (f g : Nat → Int32) (o len n nb : Int32) (hd : d.toInt = own_D W E N t) (hwr : wr.toInt = t) (hn : n.toInt = N) (hl : len.toInt = L) (ho : 0 ≤ o.toInt) (hob : o.toInt + len.toInt ≤ nb.toInt) (hnb : nb.toInt ≤ 100) (h4 : t + L ≤ 4) (hN : N ≤ 4) (hf : ∀ i, i < L → f (o.toNatClampNeg + i) = W (t + i)) (hg : ∀ i, i < N → g i = E i) : (own_wd d wr f o len n g).toInt = own_D W E N (t + L) := by
  rw [own_wd]
  rcases own_Dr W E N t with q | q
  · have hdn : d < (0 : Int64) := by rw [Int64.lt_iff_toInt_lt, own_zL]; omega
    have htN := own_Dle W E N t q
    obtain ⟨s1, s2⟩ := own_se (wr := wr) (n := n) (len := len) (by omega) (by omega) (by omega)
    rw [if_pos hdn]
    generalize hS : (own_minl wr (n.toInt64)).toInt32 = S at *
    generalize hT : (own_minl (wr + (len.toInt64)) (n.toInt64)).toInt32 = T at *
    have eo : (o + len).toInt = o.toInt + len.toInt := own_addb ho (by omega) hob
    have la : ((o + len) - o).toInt = L := by rw [own_sub ho (by omega), eo]; omega
    have lb : (T - S).toInt = min (t + L : Int) N - t := by rw [own_sub (by omega) (by omega)]; omega
    have ml := own_miniv ((o + len) - o) (T - S)
    generalize hl2 : own_mini ((o + len) - o) (T - S) = l at *
    obtain ⟨k, hk⟩ : ∃ k : Nat, l.toInt = k := ⟨l.toInt.toNat, by omega⟩
    have hkn : l.toNatClampNeg = k := by rw [Int32.toNatClampNeg]; omega
    have eS : S.toNatClampNeg = t := by rw [Int32.toNatClampNeg]; omega
    have mv := own_mmv f g o S l ho (by omega) (by omega) (by omega) (by omega) (by omega)
    rw [hkn, eS, own_mnc _ _ (fun j => W (t + j)) (fun j => E (t + j)) k 0 (fun j a b => ⟨hf j (by omega), hg (t + j) (by omega)⟩)] at mv
    have run := own_run W E N t k 0 q (by omega)
    rw [own_mis, hl2]
    generalize own_mm f g o S l = r at *
    rcases run with ⟨a, b⟩ | ⟨z, a, b, c⟩
    · rw [a] at mv
      have hr : r < (0 : Int32) := own_lts (by rw [own_z]; omega)
      rw [if_pos hr]
      by_cases e : ((o + len) - o) = (T - S)
      · rw [if_pos e, if_pos hr]
        have e' := congrArg Int32.toInt e
        have : k = L := by omega
        rw [hd, q]; rw [this] at b; exact b.symm
      · have e' : ¬ ((o + len) - o).toInt = (T - S).toInt := fun z => e (Int32.toInt_inj.mp z)
        rw [if_neg e, if_neg (own_nlt (by rw [own_z]; omega))]
        have kN : t + k = N := by omega
        have D1 : own_D W E N (t + 0 + k + 1) = (N : Int) := by rw [own_D1, if_pos b, if_neg (by omega)]; omega
        rw [show t + L = t + 0 + k + 1 + (L - k - 1) from by omega, own_Dkeep W E N (t + 0 + k + 1) _ (by rw [D1]; omega), D1]
        have c := c_ladd wr l.toInt64; rw [c_i2l] at c; have r2 := rng64 (wr + l.toInt64); omega
    · rw [a] at mv
      have hr : ¬ r < (0 : Int32) := own_nlt (by rw [own_z]; omega)
      rw [if_neg hr, if_neg hr]
      have kL : k ≤ L := by omega
      rw [show t + L = t + 0 + k + (L - k) from by omega, own_Dkeep W E N (t + 0 + k) _ (by rw [c]; omega), c]
      have c := c_ladd wr r.toInt64; rw [c_i2l] at c; have r2 := rng64 (wr + r.toInt64); omega
  · rw [if_neg (by rw [Int64.lt_iff_toInt_lt, own_zL]; omega), own_Dkeep W E N t L (by omega), hd]
theorem own_finA (W E : Nat → Int32) (N M j : Nat) (d r : Int64) (n m : Int32) (J : Int32) (JL : Int64) (hd : d.toInt = own_D W E N M) (hm : m.toInt = M) (hn : n.toInt = N) (hJ : J.toInt = j) (hJL : JL.toInt = j) (hlo : J < own_mini m n) (heq : ∀ i, i < j → W i = E i) (hne : ¬ W j = E j) : own_off d r n = JL := by
  have a := own_of hlo; rw [own_miniv] at a
  have D0 : own_D W E N j = -1 := own_Deq W E N j fun i hi => ⟨by omega, heq i hi⟩
  have D1 : own_D W E N (j + 1) = (j : Int) := by rw [own_D1, if_pos D0, if_neg fun z => hne z.2]
  have D2 : own_D W E N M = (j : Int) := by rw [show M = j + 1 + (M - j - 1) from by omega, own_Dkeep W E N (j + 1) _ (by rw [D1]; omega), D1]
  rw [own_off, if_neg (by rw [Int64.lt_iff_toInt_lt, own_zL]; omega)]
  apply Int64.toInt_inj.mp; omega
theorem own_finB (W E : Nat → Int32) (N M : Nat) (d : Int64) (n m lo : Int32) (hd : d.toInt = own_D W E N M) (hm : m.toInt = M) (hn : n.toInt = N) (hlo : own_mini m n = lo) (heq : ∀ i : Nat, (i : Int) < lo.toInt → W i = E i) : (M ≤ N → d.toInt = -1) ∧ (N < M → d.toInt = N) := by
  have a := own_miniv m n; rw [hlo] at a
  refine ⟨fun q => ?_, fun q => ?_⟩
  · rw [hd]; exact own_Deq W E N M fun i hi => ⟨by omega, heq i (by omega)⟩
  · have D0 : own_D W E N N = -1 := own_Deq W E N N fun i hi => ⟨by omega, heq i (by omega)⟩
    have D1 : own_D W E N (N + 1) = (N : Int) := by rw [own_D1, if_pos D0, if_neg (by omega)]
    rw [hd, show M = N + 1 + (M - N - 1) from by omega, own_Dkeep W E N (N + 1) _ (by rw [D1]; omega), D1]
theorem own_finB1 (W E : Nat → Int32) (N M : Nat) (d r : Int64) (n m lo : Int32) (hd : d.toInt = own_D W E N M) (hr : r.toInt = M) (hm : m.toInt = M) (hn : n.toInt = N) (hlo : own_mini m n = lo) (heq : ∀ i : Nat, (i : Int) < lo.toInt → W i = E i) (e : m = n) : own_off d r n = (-1 : Int64) := by
  have q := (own_finB W E N M d n m lo hd hm hn hlo heq).1 (by rw [e] at hm; omega)
  have e' := congrArg Int32.toInt e
  rw [own_off, if_pos (by rw [Int64.lt_iff_toInt_lt, own_zL]; omega), if_neg (by rw [Int64.lt_iff_toInt_lt, c_i2l]; omega)]
  apply Int64.toInt_inj.mp; rw [q]; rfl
theorem own_finB2 (W E : Nat → Int32) (N M : Nat) (d r : Int64) (n m lo : Int32) (hd : d.toInt = own_D W E N M) (hr : r.toInt = M) (hm : m.toInt = M) (hn : n.toInt = N) (hlo : own_mini m n = lo) (heq : ∀ i : Nat, (i : Int) < lo.toInt → W i = E i) (e : ¬ m = n) : own_off d r n = lo.toInt64 := by
  have q := own_finB W E N M d n m lo hd hm hn hlo heq
  have e' : ¬ m.toInt = n.toInt := fun z => e (Int32.toInt_inj.mp z)
  have a := own_miniv m n; rw [hlo] at a
  apply Int64.toInt_inj.mp
  rw [own_off, c_i2l]
  by_cases z : M ≤ N
  · have q1 := q.1 z
    rw [if_pos (by rw [Int64.lt_iff_toInt_lt, own_zL]; omega), if_pos (by rw [Int64.lt_iff_toInt_lt, c_i2l]; omega)]; omega
  · have q2 := q.2 (by omega)
    rw [if_neg (by rw [Int64.lt_iff_toInt_lt, own_zL]; omega)]; omega
theorem own_ex {x : Int32} (h : 0 ≤ x.toInt ∧ x.toInt ≤ 4) : ∃ N : Nat, x.toInt = N ∧ N ≤ 4 := ⟨x.toInt.toNat, by omega, by omega⟩
theorem own_exk {k m : Int32} {M : Nat} (h : 0 ≤ k.toInt ∧ k.toInt ≤ m.toInt) (hM : m.toInt = M) : ∃ K : Nat, k.toInt = K ∧ K ≤ M := ⟨k.toInt.toNat, by omega, by omega⟩
theorem own_hfx {f fe : Nat → Int32} {n : Int32} {N : Nat} (hN : n.toInt = N) (h4 : N ≤ 4) (B0 : (0 : Int32) < n → f 0 = fe 0) (B1 : (1 : Int32) < n → f 1 = fe 1) (B2 : (2 : Int32) < n → f 2 = fe 2) (B3 : (3 : Int32) < n → f 3 = fe 3) : ∀ i, i < N → f i = fe i := by
  intro i hi
  rcases (show i = 0 ∨ i = 1 ∨ i = 2 ∨ i = 3 by omega) with rfl | rfl | rfl | rfl
  · exact B0 (own_lts (by rw [show (0 : Int32).toInt = 0 from rfl]; omega))
  · exact B1 (own_lts (by rw [show (1 : Int32).toInt = 1 from rfl]; omega))
  · exact B2 (own_lts (by rw [show (2 : Int32).toInt = 2 from rfl]; omega))
  · exact B3 (own_lts (by rw [show (3 : Int32).toInt = 3 from rfl]; omega))
theorem own_fb {o : Int32} (ho : 0 ≤ o.toInt ∧ o.toInt ≤ 1) {fw : Nat → Int32} (hfw : ∀ i, nar .byte (fw i) = fw i) : ∀ i, i < 4 → (own_upd (own_upd (own_upd (own_upd (fun _ => 0) (o).toNatClampNeg (nar .byte (fw 0))) ((o + (1 : Int32))).toNatClampNeg (nar .byte (fw 1))) ((o + (2 : Int32))).toNatClampNeg (nar .byte (fw 2))) ((o + (3 : Int32))).toNatClampNeg (nar .byte (fw 3))) (o.toNatClampNeg + i) = fw i := by
  intro i hi
  rw [own_idx o 1 1 ho.1 rfl (by omega), own_idx o 2 2 ho.1 rfl (by omega), own_idx o 3 3 ho.1 rfl (by omega)]
  rcases (show i = 0 ∨ i = 1 ∨ i = 2 ∨ i = 3 by omega) with rfl | rfl | rfl | rfl <;> simp [own_upd, hfw]
theorem own_st1 (fw fe g : Nat → Int32) (N M j : Nat) (m' n' J jk : Int32) (d r : Int64) (hM : m'.toInt = M) (hN : n'.toInt = N) (hN4 : N ≤ 4) (hJ : J.toInt = j) (hj : j ≤ 3) (h : J < m') (hfw : ∀ i, nar .byte (fw i) = fw i) (hg : ∀ i, i < N → g i = fe i) (hr : r.toInt = ((min M j : Nat) : Int)) (hd : d.toInt = own_D fw fe N (min M j)) :
    (r + ((1 : Int32).toInt64)).toInt = ((min M (j + 1) : Nat) : Int) ∧ (own_wd d r (own_upd (fun _ => 0) ((0 : Int32)).toNatClampNeg (nar .byte ((((fw j) &&& (255 : Int32)) ||| (jk <<< ((8 : Int32) &&& 31))).toInt8.toInt32))) (0 : Int32) (1 : Int32) n' g).toInt = own_D fw fe N (min M (j + 1)) := by
  have q := own_of h
  have e1 : min M j = j := by omega
  have e2 : min M (j + 1) = j + 1 := by omega
  rw [e1] at hr hd
  rw [e2]
  refine ⟨?_, ?_⟩
  · have c := c_ladd r ((1 : Int32).toInt64); rw [show ((1 : Int32).toInt64).toInt = 1 from rfl] at c; have r2 := rng64 (r + ((1 : Int32).toInt64)); omega
  · exact own_chunk fw fe N j 1 _ _ _ _ 0 1 n' 1 hd hr hN rfl (by decide) (by decide) (by decide) (by omega) hN4 (fun i hi => by obtain rfl : i = 0 := (by omega); exact (if_pos rfl).trans (own_put _ _ (hfw _))) hg
theorem own_st0 (fw fe : Nat → Int32) (N M j : Nat) (m' J : Int32) (d r : Int64) (hM : m'.toInt = M) (hJ : J.toInt = j) (h : ¬ J < m') (hr : r.toInt = ((min M j : Nat) : Int)) (hd : d.toInt = own_D fw fe N (min M j)) :
    r.toInt = ((min M (j + 1) : Nat) : Int) ∧ d.toInt = own_D fw fe N (min M (j + 1)) := by
  have q := own_ofn h
  have e : min M (j + 1) = min M j := by omega
  rw [e]; exact ⟨hr, hd⟩
theorem own_stb {r : Int64} {M j : Nat} (h4 : M ≤ 4) (hr : r.toInt = ((min M j : Nat) : Int)) : 0 ≤ r.toInt ∧ r.toInt ≤ 4 := by omega
theorem own_k4 {k m : Int32} (hk : 0 ≤ k.toInt ∧ k.toInt ≤ m.toInt) (hm : 0 ≤ m.toInt ∧ m.toInt ≤ 4) : k.toInt ≤ 4 := by omega
theorem own_k6 {o k m : Int32} (ho : 0 ≤ o.toInt ∧ o.toInt ≤ 1) (hk : 0 ≤ k.toInt ∧ k.toInt ≤ m.toInt) (hm : 0 ≤ m.toInt ∧ m.toInt ≤ 4) : o.toInt + k.toInt ≤ (6 : Int32).toInt := by
  rw [show (6 : Int32).toInt = 6 from rfl]; omega
theorem own_sec {o k m : Int32} (ho : 0 ≤ o.toInt ∧ o.toInt ≤ 1) (hk : 0 ≤ k.toInt ∧ k.toInt ≤ m.toInt) (hm : 0 ≤ m.toInt ∧ m.toInt ≤ 4) : (o + k).toInt = o.toInt + k.toInt ∧ (m - k).toInt = m.toInt - k.toInt ∧ ((0 : Int64) + (k.toInt64)).toInt = k.toInt := by
  have c := c_iadd o k; have r := rng32 (o + k)
  have c2 := c_ladd 0 k.toInt64; rw [c_i2l, own_zL] at c2; have r2 := rng64 (0 + k.toInt64)
  exact ⟨by omega, own_sub hk.1 hk.2, by omega⟩
theorem own_sec2 {o k m : Int32} (ho : 0 ≤ o.toInt ∧ o.toInt ≤ 1) (hk : 0 ≤ k.toInt ∧ k.toInt ≤ m.toInt) (hm : 0 ≤ m.toInt ∧ m.toInt ≤ 4) : 0 ≤ (o + k).toInt ∧ 0 ≤ (m - k).toInt ∧ (m - k).toInt ≤ 4 ∧ (o + k).toInt + (m - k).toInt ≤ (6 : Int32).toInt ∧ (0 ≤ ((0 : Int64) + (k.toInt64)).toInt ∧ ((0 : Int64) + (k.toInt64)).toInt ≤ 4) := by
  obtain ⟨a, b, c⟩ := own_sec ho hk hm
  rw [a, b, c, show (6 : Int32).toInt = 6 from rfl]; omega
theorem own_two (fw fe fx fb : Nat → Int32) (N M : Nat) (o k m n : Int32) (ho : 0 ≤ o.toInt ∧ o.toInt ≤ 1) (hk : 0 ≤ k.toInt ∧ k.toInt ≤ m.toInt) (hm : 0 ≤ m.toInt ∧ m.toInt ≤ 4) (hM : m.toInt = M) (hN : n.toInt = N) (hN4 : N ≤ 4) (hfb : ∀ i, i < 4 → fb (o.toNatClampNeg + i) = fw i) (hfx : ∀ i, i < N → fx i = fe i) :
    (((0 : Int64) + (k.toInt64)) + ((m - k).toInt64)).toInt = (M : Int) ∧ (own_wd (own_wd (-1 : Int64) (0 : Int64) fb o k n fx) ((0 : Int64) + (k.toInt64)) fb (o + k) (m - k) n fx).toInt = own_D fw fe N M := by
  obtain ⟨K, hK, hKM⟩ := own_exk hk hM
  obtain ⟨a, b, c⟩ := own_sec ho hk hm
  have c1 := own_chunk fw fe N 0 K (-1 : Int64) (0 : Int64) fb fx o k n 6 rfl rfl hN hK ho.1 (by rw [show (6 : Int32).toInt = 6 from rfl]; omega) (by decide) (by omega) hN4 (fun i hi => by rw [Nat.zero_add]; exact hfb i (by omega)) hfx
  have l2 := own_chunk fw fe N K (M - K) _ ((0 : Int64) + (k.toInt64)) fb fx (o + k) (m - k) n 6 (by rw [c1, Nat.zero_add]) (by rw [c]; omega) hN (by rw [b]; omega) (by rw [a]; omega) (by rw [a, b, show (6 : Int32).toInt = 6 from rfl]; omega) (by decide) (by omega) hN4 (fun i hi => by rw [own_idx o k K ho.1 hK (by omega), Nat.add_assoc]; exact hfb (K + i) (by omega)) hfx
  rw [show K + (M - K) = M from by omega] at l2
  refine ⟨?_, l2⟩
  have d := c_ladd ((0 : Int64) + k.toInt64) ((m - k).toInt64); rw [c, c_i2l, b] at d; have r := rng64 (((0 : Int64) + k.toInt64) + ((m - k).toInt64)); omega
theorem own_mono {x y lo : Int32} (h : ¬ x < lo) (hxy : x.toInt ≤ y.toInt) : ¬ y < lo := own_nlt (by have := own_ofn h; omega)
theorem own_e0 {f g : Nat → Int32} : ∀ i, i < 0 → f i = g i := fun i hi => absurd hi (Nat.not_lt_zero i)
theorem own_es {f g : Nat → Int32} {j : Nat} (he : ∀ i, i < j → f i = g i) (h : f j = g j) : ∀ i, i < j + 1 → f i = g i := fun i hi => by
  rcases (show i < j ∨ i = j by omega) with q | rfl
  · exact he i q
  · exact h
theorem own_hq {W E : Nat → Int32} {j : Nat} {J lo : Int32} (hJ : J.toInt = j) (h : ¬ J < lo) (he : ∀ i, i < j → W i = E i) : ∀ i : Nat, (i : Int) < lo.toInt → W i = E i := fun i hi => he i (by have := own_ofn h; omega)
theorem own_hq4 {W E : Nat → Int32} {m n lo : Int32} (hm : 0 ≤ m.toInt ∧ m.toInt ≤ 4) (hlo : own_mini m n = lo) (he : ∀ i, i < 4 → W i = E i) : ∀ i : Nat, (i : Int) < lo.toInt → W i = E i := fun i hi => he i (by have := own_miniv m n; rw [hlo] at this; omega)
theorem own_b00 : ∀ i, nar .byte ((fun _ => 0 : Nat → Int32) i) = (fun _ => 0 : Nat → Int32) i := fun _ => rfl
theorem own_bk {f : Nat → Int32} (hf : ∀ i, nar .byte (f i) = f i) (j : Nat) (x : Int32) : ∀ i, nar .byte (own_upd f j (nar .byte x) i) = own_upd f j (nar .byte x) i := fun i => by
  unfold own_upd
  by_cases q : i = j
  · rw [if_pos q]; exact own_nar x
  · rw [if_neg q]; exact hf i
theorem own_ck1 {o l z : Int32} (h1 : 0 ≤ o.toInt) (h2 : 0 ≤ l.toInt) (h4 : o.toInt + l.toInt ≤ z.toInt) : ¬ ((z ||| o) ||| l) < (0 : Int32) := own_nlt (by
  rw [own_z]; exact (c_orS (z ||| o) l).1 ((c_orS z o).1 (by omega) h1) h2)
theorem own_ck2 {o l z : Int32} (h1 : 0 ≤ o.toInt) (h2 : 0 ≤ l.toInt) (h4 : o.toInt + l.toInt ≤ z.toInt) : ¬ (z - o) < l := own_nlt (by
  rw [own_sub h1 (by omega)]; omega)
theorem own_m5 (x : Int32) : 0 ≤ ((x &&& (7 : Int32)) % (5 : Int32)).toInt ∧ ((x &&& (7 : Int32)) % (5 : Int32)).toInt ≤ 4 := by
  have a := c_mask x 7 3 (by decide) (by decide)
  have b := (c_irem (x &&& 7) 5 5 rfl).1 (by omega)
  omega
theorem own_n1 {n : Int32} (h : 0 ≤ n.toInt ∧ n.toInt ≤ 4) : (n + (1 : Int32)).toInt = n.toInt + 1 := by
  have a := c_iadd n 1; rw [show (1 : Int32).toInt = 1 from rfl] at a; have r := rng32 (n + 1); omega
theorem own_nz {n : Int32} (h : 0 ≤ n.toInt ∧ n.toInt ≤ 4) : (n + (1 : Int32)) ≠ (0 : Int32) := fun q => by
  have a := own_n1 h; rw [q, own_z] at a; omega
theorem own_kk (x : Int32) {n : Int32} (h : 0 ≤ n.toInt ∧ n.toInt ≤ 4) : 0 ≤ ((x &&& (7 : Int32)) % (n + (1 : Int32))).toInt ∧ ((x &&& (7 : Int32)) % (n + (1 : Int32))).toInt ≤ n.toInt := by
  have a := c_mask x 7 3 (by decide) (by decide)
  have b := own_n1 h
  have c := (c_iremV (x &&& 7) (n + 1)).1 (by omega) (by omega)
  omega
theorem own_o1 (x : Int32) : 0 ≤ (x &&& (1 : Int32)).toInt ∧ (x &&& (1 : Int32)).toInt ≤ 1 := by have a := c_mask x 1 1 (by decide) (by decide); omega
theorem own_cap {n : Int32} (h : 0 ≤ n.toInt ∧ n.toInt ≤ 4) : n.toNatClampNeg ≤ 4 := by rw [Int32.toNatClampNeg]; omega
theorem own_bi {o i : Int32} {k : Nat} (ho : 0 ≤ o.toInt ∧ o.toInt ≤ 1) (hi : i.toInt = k) (hk : k ≤ 3) : ¬ (o + i) < 0 ∧ (o + i) < (6 : Int32) := by
  have c := c_iadd o i; have r := rng32 (o + i)
  exact ⟨own_nlt (by rw [own_z]; omega), own_lts (by rw [show (6 : Int32).toInt = 6 from rfl]; omega)⟩
theorem own_b0 {o : Int32} (ho : 0 ≤ o.toInt ∧ o.toInt ≤ 1) : ¬ o < 0 ∧ o < (6 : Int32) := ⟨own_nlt (by rw [own_z]; omega), own_lts (by rw [show (6 : Int32).toInt = 6 from rfl]; omega)⟩
theorem d1_0 : decode method_3_code 0 = .ok (.iload 4, 2) := by decide +kernel
theorem d1_2 : decode method_3_code 2 = .ok (.bipush 8, 2) := by decide +kernel
theorem d1_4 : decode method_3_code 4 = .ok (.iload_n 1, 1) := by decide +kernel
theorem d1_5 : decode method_3_code 5 = .ok (.imul, 1) := by decide +kernel
theorem d1_6 : decode method_3_code 6 = .ok (.iushr, 1) := by decide +kernel
theorem d1_7 : decode method_3_code 7 = .ok (.i2b, 1) := by decide +kernel
theorem d1_8 : decode method_3_code 8 = .ok (.istore 5, 2) := by decide +kernel
theorem d1_10 : decode method_3_code 10 = .ok (.iload_n 1, 1) := by decide +kernel
theorem d1_11 : decode method_3_code 11 = .ok (.iload_n 2, 1) := by decide +kernel
theorem d1_12 : decode method_3_code 12 = .ok (.if_icmp .ge 16, 3) := by decide +kernel
theorem d1_15 : decode method_3_code 15 = .ok (.iload_n 0, 1) := by decide +kernel
theorem d1_16 : decode method_3_code 16 = .ok (.bipush 10, 2) := by decide +kernel
theorem d1_18 : decode method_3_code 18 = .ok (.iload_n 1, 1) := by decide +kernel
theorem d1_19 : decode method_3_code 19 = .ok (.iadd, 1) := by decide +kernel
theorem d1_20 : decode method_3_code 20 = .ok (.iushr, 1) := by decide +kernel
theorem d1_21 : decode method_3_code 21 = .ok (.iconst 1, 1) := by decide +kernel
theorem d1_22 : decode method_3_code 22 = .ok (.iand, 1) := by decide +kernel
theorem d1_23 : decode method_3_code 23 = .ok (.ifCond .ne 5, 3) := by decide +kernel
theorem d1_26 : decode method_3_code 26 = .ok (.iload_n 3, 1) := by decide +kernel
theorem d1_27 : decode method_3_code 27 = .ok (.ireturn, 1) := by decide +kernel
theorem d1_28 : decode method_3_code 28 = .ok (.iload 5, 2) := by decide +kernel
theorem d1_30 : decode method_3_code 30 = .ok (.ireturn, 1) := by decide +kernel
theorem pn_1 : plainName "com/example/bytelace/bytelace/cli/FirstDifferenceOffsetPinLaw" = true := by first | (simp [plainName, overriddenIn]; done) | decide +kernel
theorem ef_1 (m : MethodId) (x0 : Int32) (x1 : Int32) (x2 : Int32) (x3 : Int32) (x4 : Int32) : entryFrame m #[(.int x0), (.int x1), (.int x2), (.int x3), (.int x4)] 6 = mkF m 0 #[.val (.int x0), .val (.int x1), .val (.int x2), .val (.int x3), .val (.int x4), .unset] [] := by first | (simp [entryFrame, mkF, argsToLocals, Value.category]; done) | rfl
def Q1 (Z : State) (c' : Int32) (i' : Int32) (n' : Int32) (e' : Int32) (w' : Int32) (h0 : Heap) (n0 : Nat) (v : Option Value) (h : Heap) (L : List Loc) : Prop := v = some (.int (own_pick c' i' n' e' w')) ∧ Fr n0 L ∧ h = h0
set_option maxRecDepth 65536 in
set_option maxHeartbeats 40000000 in
theorem rm1 (l : Launch) (Z : State) (a0 : Array Value) (hw : ∀ d ∈ tables_1, d.before a0 Z = true) (ws : List Jvm.Cond) (c' : Int32) (i' : Int32) (n' : Int32) (e' : Int32) (w' : Int32) (h0 : Heap) (n0 : Nat) (Z0 : n0 ≤ h0.size)  :
    MetFree l (⟨"com/example/bytelace/bytelace/cli/FirstDifferenceOffsetPinLaw", "pick", "(IIIBI)B"⟩ : MethodName) (head1 (Jvm.Cond.code (⟨"com/example/bytelace/bytelace/cli/FirstDifferenceOffsetPinLaw", "pick", "(IIIBI)B"⟩ : MethodName) method_3_code 6 (some .byte) :: ws) ({ frames := 0, cells := 0, slots := 0, locals := 0 } : Room)) (fun ar U => ar = #[(.int c'), (.int i'), (.int n'), (.int e'), (.int w')] ∧ Z.Warmed39 U.vm ∧ U.heap = h0) (fun _ _ _ _ _ => True) (fun _ U o U' => ∃ v L, o = .returned v ∧ Q1 Z c' i' n' e' w' h0 n0 v U'.heap L ∧ FrameEnd U o U' L ({ frames := 0, cells := 0, slots := 0, locals := 0 } : Room).cells ({ frames := 0, cells := 0, slots := 0, locals := 0 } : Room).slots) := by
  refine MetFree.of_bodySF (plainFor_of_name pn_1) hisR ?_
  intro p e s m args below meth c s₁ Bd hml0 hP hK
  obtain ⟨rfl, hZ, hh⟩ := hP
  have hx := Bd.exec
  have hby := Bd.bytes
  have hml : c.maxLocals = 6 := hml0
  have hown : s.vm.findClass "com/example/bytelace/bytelace/cli/FirstDifferenceOffsetPinLaw" = some m.cls := findClass_of_methodNamed Bd.named
  have hnm := (name_of_methodNamed Bd.named Bd.method).1
  have X0 : Stand p l e ({ frames := 0, cells := 0, slots := 0, locals := 0 } : Room) s m #[(.int c'), (.int i'), (.int n'), (.int e'), (.int w')] below meth c s₁ [] 0 0 := Stand.of_body Bd
  have e0 : s₁.heap = h0 := by rw [← hh, Bd.state]; rfl
  have N0 := Fr.nil n0
  have K0 : Keep h0 h0 [] := Keep.refl h0 _
  have pre0 : ∀ t, Steps p.tables e below (s₁.setTop (mkF m 0 #[.val (.int c'), .val (.int i'), .val (.int n'), .val (.int e'), .val (.int w'), .unset] [])) t → Steps p.tables e below (s₁.setTop (entryFrame m #[(.int c'), (.int i'), (.int n'), (.int e'), (.int w')] 6)) t := fun t k => castTop (ef_1 m c' i' n' e' w') k
  have pre1 : ∀ t, Steps p.tables e below (s₁.setTop (mkF m 12 #[.val (.int c'), .val (.int i'), .val (.int n'), .val (.int e'), .val (.int w'), .val (.int (((w'.toUInt32 >>> (((8 : Int32) * i') &&& 31).toUInt32).toInt32).toInt8.toInt32))] [(.int n'), (.int i')])) t → Steps p.tables e below (s₁.setTop (entryFrame m #[(.int c'), (.int i'), (.int n'), (.int e'), (.int w')] 6)) t := by
    intro t kt
    refine pre0 t ?_
    show Steps p.tables e below (s₁.setTop (mkF m 0 #[.val (.int c'), .val (.int i'), .val (.int n'), .val (.int e'), .val (.int w'), .unset] [])) _
    refine XS.iload X0.here hx rfl (hb hby d1_0) rfl ?_
    show Steps p.tables e below (s₁.setTop (mkF m 2 #[.val (.int c'), .val (.int i'), .val (.int n'), .val (.int e'), .val (.int w'), .unset] [(.int w')])) _
    refine XS.bipush X0.here hx rfl (hb hby d1_2) ?_
    show Steps p.tables e below (s₁.setTop (mkF m 4 #[.val (.int c'), .val (.int i'), .val (.int n'), .val (.int e'), .val (.int w'), .unset] [(.int (8 : Int32)), (.int w')])) _
    refine XS.iloadN X0.here hx rfl (hb hby d1_4) rfl ?_
    show Steps p.tables e below (s₁.setTop (mkF m 5 #[.val (.int c'), .val (.int i'), .val (.int n'), .val (.int e'), .val (.int w'), .unset] [(.int i'), (.int (8 : Int32)), (.int w')])) _
    refine XS.imul X0.here hx rfl (hb hby d1_5) rfl ?_
    show Steps p.tables e below (s₁.setTop (mkF m 6 #[.val (.int c'), .val (.int i'), .val (.int n'), .val (.int e'), .val (.int w'), .unset] [(.int ((8 : Int32) * i')), (.int w')])) _
    refine XS.iushr X0.here hx rfl (hb hby d1_6) rfl ?_
    show Steps p.tables e below (s₁.setTop (mkF m 7 #[.val (.int c'), .val (.int i'), .val (.int n'), .val (.int e'), .val (.int w'), .unset] [(.int ((w'.toUInt32 >>> (((8 : Int32) * i') &&& 31).toUInt32).toInt32))])) _
    refine XS.i2b X0.here hx rfl (hb hby d1_7) rfl ?_
    show Steps p.tables e below (s₁.setTop (mkF m 8 #[.val (.int c'), .val (.int i'), .val (.int n'), .val (.int e'), .val (.int w'), .unset] [(.int (((w'.toUInt32 >>> (((8 : Int32) * i') &&& 31).toUInt32).toInt32).toInt8.toInt32))])) _
    refine XS.istore X0.here hx rfl (hb hby d1_8) rfl (l' := #[.val (.int c'), .val (.int i'), .val (.int n'), .val (.int e'), .val (.int w'), .val (.int (((w'.toUInt32 >>> (((8 : Int32) * i') &&& 31).toUInt32).toInt32).toInt8.toInt32))]) rfl ?_
    show Steps p.tables e below (s₁.setTop (mkF m 10 #[.val (.int c'), .val (.int i'), .val (.int n'), .val (.int e'), .val (.int w'), .val (.int (((w'.toUInt32 >>> (((8 : Int32) * i') &&& 31).toUInt32).toInt32).toInt8.toInt32))] [])) _
    refine XS.iloadN X0.here hx rfl (hb hby d1_10) rfl ?_
    show Steps p.tables e below (s₁.setTop (mkF m 11 #[.val (.int c'), .val (.int i'), .val (.int n'), .val (.int e'), .val (.int w'), .val (.int (((w'.toUInt32 >>> (((8 : Int32) * i') &&& 31).toUInt32).toInt32).toInt8.toInt32))] [(.int i')])) _
    refine XS.iloadN X0.here hx rfl (hb hby d1_11) rfl ?_
    exact kt
  by_cases hc12_2 : i' < n'
  · have pre3 : ∀ t, Steps p.tables e below (s₁.setTop (mkF m 23 #[.val (.int c'), .val (.int i'), .val (.int n'), .val (.int e'), .val (.int w'), .val (.int (((w'.toUInt32 >>> (((8 : Int32) * i') &&& 31).toUInt32).toInt32).toInt8.toInt32))] [(.int (((c'.toUInt32 >>> (((10 : Int32) + i') &&& 31).toUInt32).toInt32) &&& (1 : Int32)))])) t → Steps p.tables e below (s₁.setTop (entryFrame m #[(.int c'), (.int i'), (.int n'), (.int e'), (.int w')] 6)) t := by
      intro t kt
      refine pre1 t ?_
      show Steps p.tables e below (s₁.setTop (mkF m 12 #[.val (.int c'), .val (.int i'), .val (.int n'), .val (.int e'), .val (.int w'), .val (.int (((w'.toUInt32 >>> (((8 : Int32) * i') &&& 31).toUInt32).toInt32).toInt8.toInt32))] [(.int n'), (.int i')])) _
      refine XS.icmpNo X0.here hx rfl (hb hby d1_12) rfl (tlt hc12_2).2.1 ?_
      show Steps p.tables e below (s₁.setTop (mkF m 15 #[.val (.int c'), .val (.int i'), .val (.int n'), .val (.int e'), .val (.int w'), .val (.int (((w'.toUInt32 >>> (((8 : Int32) * i') &&& 31).toUInt32).toInt32).toInt8.toInt32))] [])) _
      refine XS.iloadN X0.here hx rfl (hb hby d1_15) rfl ?_
      show Steps p.tables e below (s₁.setTop (mkF m 16 #[.val (.int c'), .val (.int i'), .val (.int n'), .val (.int e'), .val (.int w'), .val (.int (((w'.toUInt32 >>> (((8 : Int32) * i') &&& 31).toUInt32).toInt32).toInt8.toInt32))] [(.int c')])) _
      refine XS.bipush X0.here hx rfl (hb hby d1_16) ?_
      show Steps p.tables e below (s₁.setTop (mkF m 18 #[.val (.int c'), .val (.int i'), .val (.int n'), .val (.int e'), .val (.int w'), .val (.int (((w'.toUInt32 >>> (((8 : Int32) * i') &&& 31).toUInt32).toInt32).toInt8.toInt32))] [(.int (10 : Int32)), (.int c')])) _
      refine XS.iloadN X0.here hx rfl (hb hby d1_18) rfl ?_
      show Steps p.tables e below (s₁.setTop (mkF m 19 #[.val (.int c'), .val (.int i'), .val (.int n'), .val (.int e'), .val (.int w'), .val (.int (((w'.toUInt32 >>> (((8 : Int32) * i') &&& 31).toUInt32).toInt32).toInt8.toInt32))] [(.int i'), (.int (10 : Int32)), (.int c')])) _
      refine XS.iadd X0.here hx rfl (hb hby d1_19) rfl ?_
      show Steps p.tables e below (s₁.setTop (mkF m 20 #[.val (.int c'), .val (.int i'), .val (.int n'), .val (.int e'), .val (.int w'), .val (.int (((w'.toUInt32 >>> (((8 : Int32) * i') &&& 31).toUInt32).toInt32).toInt8.toInt32))] [(.int ((10 : Int32) + i')), (.int c')])) _
      refine XS.iushr X0.here hx rfl (hb hby d1_20) rfl ?_
      show Steps p.tables e below (s₁.setTop (mkF m 21 #[.val (.int c'), .val (.int i'), .val (.int n'), .val (.int e'), .val (.int w'), .val (.int (((w'.toUInt32 >>> (((8 : Int32) * i') &&& 31).toUInt32).toInt32).toInt8.toInt32))] [(.int ((c'.toUInt32 >>> (((10 : Int32) + i') &&& 31).toUInt32).toInt32))])) _
      refine XS.iconst X0.here hx rfl (hb hby d1_21) ?_
      show Steps p.tables e below (s₁.setTop (mkF m 22 #[.val (.int c'), .val (.int i'), .val (.int n'), .val (.int e'), .val (.int w'), .val (.int (((w'.toUInt32 >>> (((8 : Int32) * i') &&& 31).toUInt32).toInt32).toInt8.toInt32))] [(.int (1 : Int32)), (.int ((c'.toUInt32 >>> (((10 : Int32) + i') &&& 31).toUInt32).toInt32))])) _
      refine XS.iand X0.here hx rfl (hb hby d1_22) rfl ?_
      exact kt
    by_cases hc23_4 : (((c'.toUInt32 >>> (((10 : Int32) + i') &&& 31).toUInt32).toInt32) &&& (1 : Int32)) = (0 : Int32)
    · obtain ⟨fs, hr, hrun, hended, hW, hsame⟩ := X0.leave (v := some (.int (nar .byte e'))) (fun h => by rw [Bd.returns] at h; cases h)
      refine ⟨_, _, pre3 _ ?_, hrun, hended, _, _, rfl, ?_, ⟨_, rfl⟩, hW, hsame.mono (by decide) (by decide)⟩
      · show Steps p.tables e below (s₁.setTop (mkF m 23 #[.val (.int c'), .val (.int i'), .val (.int n'), .val (.int e'), .val (.int w'), .val (.int (((w'.toUInt32 >>> (((8 : Int32) * i') &&& 31).toUInt32).toInt32).toInt8.toInt32))] [(.int (((c'.toUInt32 >>> (((10 : Int32) + i') &&& 31).toUInt32).toInt32) &&& (1 : Int32)))])) _
        refine XS.ifNo X0.here hx rfl (hb hby d1_23) rfl ((if0 _ _).trans (teq hc23_4).2) ?_
        show Steps p.tables e below (s₁.setTop (mkF m 26 #[.val (.int c'), .val (.int i'), .val (.int n'), .val (.int e'), .val (.int w'), .val (.int (((w'.toUInt32 >>> (((8 : Int32) * i') &&& 31).toUInt32).toInt32).toInt8.toInt32))] [])) _
        refine XS.iloadN X0.here hx rfl (hb hby d1_26) rfl ?_
        show Steps p.tables e below (s₁.setTop (mkF m 27 #[.val (.int c'), .val (.int i'), .val (.int n'), .val (.int e'), .val (.int w'), .val (.int (((w'.toUInt32 >>> (((8 : Int32) * i') &&& 31).toUInt32).toInt32).toInt8.toInt32))] [(.int e')])) _
        exact retN X0 hx (t := .byte) Bd.returns (by simp) (hb hby d1_27) hr
      · show Q1 Z c' i' n' e' w' h0 n0 _ s₁.heap _
        rw [e0]
        exact ⟨by rw [own_pick, if_pos hc12_2, if_pos hc23_4], N0, rfl⟩
    · obtain ⟨fs, hr, hrun, hended, hW, hsame⟩ := X0.leave (v := some (.int (nar .byte (((w'.toUInt32 >>> (((8 : Int32) * i') &&& 31).toUInt32).toInt32).toInt8.toInt32)))) (fun h => by rw [Bd.returns] at h; cases h)
      refine ⟨_, _, pre3 _ ?_, hrun, hended, _, _, rfl, ?_, ⟨_, rfl⟩, hW, hsame.mono (by decide) (by decide)⟩
      · show Steps p.tables e below (s₁.setTop (mkF m 23 #[.val (.int c'), .val (.int i'), .val (.int n'), .val (.int e'), .val (.int w'), .val (.int (((w'.toUInt32 >>> (((8 : Int32) * i') &&& 31).toUInt32).toInt32).toInt8.toInt32))] [(.int (((c'.toUInt32 >>> (((10 : Int32) + i') &&& 31).toUInt32).toInt32) &&& (1 : Int32)))])) _
        refine XS.ifYes X0.here hx rfl (pc0 := 23) (pc' := 28) rfl (hb hby d1_23) rfl ((if0 _ _).trans (feq hc23_4).2) (by decide) (by decide) ?_
        show Steps p.tables e below (s₁.setTop (mkF m 28 #[.val (.int c'), .val (.int i'), .val (.int n'), .val (.int e'), .val (.int w'), .val (.int (((w'.toUInt32 >>> (((8 : Int32) * i') &&& 31).toUInt32).toInt32).toInt8.toInt32))] [])) _
        refine XS.iload X0.here hx rfl (hb hby d1_28) rfl ?_
        show Steps p.tables e below (s₁.setTop (mkF m 30 #[.val (.int c'), .val (.int i'), .val (.int n'), .val (.int e'), .val (.int w'), .val (.int (((w'.toUInt32 >>> (((8 : Int32) * i') &&& 31).toUInt32).toInt32).toInt8.toInt32))] [(.int (((w'.toUInt32 >>> (((8 : Int32) * i') &&& 31).toUInt32).toInt32).toInt8.toInt32))])) _
        exact retN X0 hx (t := .byte) Bd.returns (by simp) (hb hby d1_30) hr
      · show Q1 Z c' i' n' e' w' h0 n0 _ s₁.heap _
        rw [e0]
        exact ⟨by rw [own_pick, if_pos hc12_2, if_neg hc23_4], N0, rfl⟩
  · obtain ⟨fs, hr, hrun, hended, hW, hsame⟩ := X0.leave (v := some (.int (nar .byte (((w'.toUInt32 >>> (((8 : Int32) * i') &&& 31).toUInt32).toInt32).toInt8.toInt32)))) (fun h => by rw [Bd.returns] at h; cases h)
    refine ⟨_, _, pre1 _ ?_, hrun, hended, _, _, rfl, ?_, ⟨_, rfl⟩, hW, hsame.mono (by decide) (by decide)⟩
    · show Steps p.tables e below (s₁.setTop (mkF m 12 #[.val (.int c'), .val (.int i'), .val (.int n'), .val (.int e'), .val (.int w'), .val (.int (((w'.toUInt32 >>> (((8 : Int32) * i') &&& 31).toUInt32).toInt32).toInt8.toInt32))] [(.int n'), (.int i')])) _
      refine XS.icmpYes X0.here hx rfl (pc0 := 12) (pc' := 28) rfl (hb hby d1_12) rfl (flt hc12_2).2.1 (by decide) (by decide) ?_
      show Steps p.tables e below (s₁.setTop (mkF m 28 #[.val (.int c'), .val (.int i'), .val (.int n'), .val (.int e'), .val (.int w'), .val (.int (((w'.toUInt32 >>> (((8 : Int32) * i') &&& 31).toUInt32).toInt32).toInt8.toInt32))] [])) _
      refine XS.iload X0.here hx rfl (hb hby d1_28) rfl ?_
      show Steps p.tables e below (s₁.setTop (mkF m 30 #[.val (.int c'), .val (.int i'), .val (.int n'), .val (.int e'), .val (.int w'), .val (.int (((w'.toUInt32 >>> (((8 : Int32) * i') &&& 31).toUInt32).toInt32).toInt8.toInt32))] [(.int (((w'.toUInt32 >>> (((8 : Int32) * i') &&& 31).toUInt32).toInt32).toInt8.toInt32))])) _
      exact retN X0 hx (t := .byte) Bd.returns (by simp) (hb hby d1_30) hr
    · show Q1 Z c' i' n' e' w' h0 n0 _ s₁.heap _
      rw [e0]
      exact ⟨by rw [own_pick, if_neg hc12_2], N0, rfl⟩
theorem d9_0 : decode jdk_29_method_70_code 0 = .ok (.lload_n 0, 1) := by decide +kernel
theorem d9_1 : decode jdk_29_method_70_code 1 = .ok (.lload_n 2, 1) := by decide +kernel
theorem d9_2 : decode jdk_29_method_70_code 2 = .ok (.lcmp, 1) := by decide +kernel
theorem d9_3 : decode jdk_29_method_70_code 3 = .ok (.ifCond .gt 7, 3) := by decide +kernel
theorem d9_6 : decode jdk_29_method_70_code 6 = .ok (.lload_n 0, 1) := by decide +kernel
theorem d9_7 : decode jdk_29_method_70_code 7 = .ok (.goto 4, 3) := by decide +kernel
theorem d9_10 : decode jdk_29_method_70_code 10 = .ok (.lload_n 2, 1) := by decide +kernel
theorem d9_11 : decode jdk_29_method_70_code 11 = .ok (.lreturn, 1) := by decide +kernel
theorem ef_9 (m : MethodId) (x0 : Int64) (x1 : Int64) : entryFrame m #[(.long x0), (.long x1)] 4 = mkF m 0 #[.val (.long x0), .second, .val (.long x1), .second] [] := by first | (simp [entryFrame, mkF, argsToLocals, Value.category]; done) | rfl
def Q9 (Z : State) (a' : Int64) (b' : Int64) (h0 : Heap) (n0 : Nat) (v : Option Value) (h : Heap) (L : List Loc) : Prop := v = some (.long (own_minl a' b')) ∧ Fr n0 L ∧ h = h0
set_option maxRecDepth 65536 in
set_option maxHeartbeats 40000000 in
theorem rm9 (l : Launch) (Z : State) (a0 : Array Value) (hw : ∀ d ∈ tables_1, d.before a0 Z = true) (ws : List Jvm.Cond) (a' : Int64) (b' : Int64) (h0 : Heap) (n0 : Nat) (Z0 : n0 ≤ h0.size)  :
    MetFree l (⟨"java/lang/Math", "min", "(JJ)J"⟩ : MethodName) (head1 (Jvm.Cond.code (⟨"java/lang/Math", "min", "(JJ)J"⟩ : MethodName) jdk_29_method_70_code 4 (some .long) :: ws) ({ frames := 0, cells := 0, slots := 0, locals := 0 } : Room)) (fun ar U => ar = #[(.long a'), (.long b')] ∧ Z.Warmed39 U.vm ∧ U.heap = h0) (fun _ _ _ _ _ => True) (fun _ U o U' => ∃ v L, o = .returned v ∧ Q9 Z a' b' h0 n0 v U'.heap L ∧ FrameEnd U o U' L ({ frames := 0, cells := 0, slots := 0, locals := 0 } : Room).cells ({ frames := 0, cells := 0, slots := 0, locals := 0 } : Room).slots) := by
  refine MetFree.of_bodySF (Jvm.Free.JP.mathPlain rfl (by decide +kernel)) hisR ?_
  intro p e s m args below meth c s₁ Bd hml0 hP hK
  obtain ⟨rfl, hZ, hh⟩ := hP
  have hx := Bd.exec
  have hby := Bd.bytes
  have hml : c.maxLocals = 4 := hml0
  have hown : s.vm.findClass "java/lang/Math" = some m.cls := findClass_of_methodNamed Bd.named
  have hnm := (name_of_methodNamed Bd.named Bd.method).1
  have X0 : Stand p l e ({ frames := 0, cells := 0, slots := 0, locals := 0 } : Room) s m #[(.long a'), (.long b')] below meth c s₁ [] 0 0 := Stand.of_body Bd
  have e0 : s₁.heap = h0 := by rw [← hh, Bd.state]; rfl
  have N0 := Fr.nil n0
  have K0 : Keep h0 h0 [] := Keep.refl h0 _
  have pre0 : ∀ t, Steps p.tables e below (s₁.setTop (mkF m 0 #[.val (.long a'), .second, .val (.long b'), .second] [])) t → Steps p.tables e below (s₁.setTop (entryFrame m #[(.long a'), (.long b')] 4)) t := fun t k => castTop (ef_9 m a' b') k
  have pre1 : ∀ t, Steps p.tables e below (s₁.setTop (mkF m 3 #[.val (.long a'), .second, .val (.long b'), .second] [(.int (lcmpW a' b'))])) t → Steps p.tables e below (s₁.setTop (entryFrame m #[(.long a'), (.long b')] 4)) t := by
    intro t kt
    refine pre0 t ?_
    show Steps p.tables e below (s₁.setTop (mkF m 0 #[.val (.long a'), .second, .val (.long b'), .second] [])) _
    refine XS.lloadN X0.here hx rfl (hb hby d9_0) rfl ?_
    show Steps p.tables e below (s₁.setTop (mkF m 1 #[.val (.long a'), .second, .val (.long b'), .second] [(.long a')])) _
    refine XS.lloadN X0.here hx rfl (hb hby d9_1) rfl ?_
    show Steps p.tables e below (s₁.setTop (mkF m 2 #[.val (.long a'), .second, .val (.long b'), .second] [(.long b'), (.long a')])) _
    refine XS.lcmp X0.here hx rfl (hb hby d9_2) rfl ?_
    exact kt
  by_cases hc3_2 : b' < a'
  · obtain ⟨fs, hr, hrun, hended, hW, hsame⟩ := X0.leave (v := some (.long b')) (fun h => by rw [Bd.returns] at h; cases h)
    refine ⟨_, _, pre1 _ ?_, hrun, hended, _, _, rfl, ?_, ⟨_, rfl⟩, hW, hsame.mono (by decide) (by decide)⟩
    · show Steps p.tables e below (s₁.setTop (mkF m 3 #[.val (.long a'), .second, .val (.long b'), .second] [(.int (lcmpW a' b'))])) _
      refine XS.ifYes X0.here hx rfl (pc0 := 3) (pc' := 10) rfl (hb hby d9_3) rfl ((if0 _ _).trans (tlt ((lw_gt a' b').mpr hc3_2)).2.2.1) (by decide) (by decide) ?_
      show Steps p.tables e below (s₁.setTop (mkF m 10 #[.val (.long a'), .second, .val (.long b'), .second] [])) _
      refine XS.lloadN X0.here hx rfl (hb hby d9_10) rfl ?_
      show Steps p.tables e below (s₁.setTop (mkF m 11 #[.val (.long a'), .second, .val (.long b'), .second] [(.long b')])) _
      exact retOut X0 hx Bd.returns rfl (Or.inr (Or.inl ⟨rfl, rfl, _, rfl⟩)) (hb hby d9_11) hr
    · show Q9 Z a' b' h0 n0 _ s₁.heap _
      rw [e0]
      exact ⟨by rw [own_minl, if_pos hc3_2], N0, rfl⟩
  · obtain ⟨fs, hr, hrun, hended, hW, hsame⟩ := X0.leave (v := some (.long a')) (fun h => by rw [Bd.returns] at h; cases h)
    refine ⟨_, _, pre1 _ ?_, hrun, hended, _, _, rfl, ?_, ⟨_, rfl⟩, hW, hsame.mono (by decide) (by decide)⟩
    · show Steps p.tables e below (s₁.setTop (mkF m 3 #[.val (.long a'), .second, .val (.long b'), .second] [(.int (lcmpW a' b'))])) _
      refine XS.ifNo X0.here hx rfl (hb hby d9_3) rfl ((if0 _ _).trans (flt (fun q => hc3_2 ((lw_gt a' b').mp q))).2.2.1) ?_
      show Steps p.tables e below (s₁.setTop (mkF m 6 #[.val (.long a'), .second, .val (.long b'), .second] [])) _
      refine XS.lloadN X0.here hx rfl (hb hby d9_6) rfl ?_
      show Steps p.tables e below (s₁.setTop (mkF m 7 #[.val (.long a'), .second, .val (.long b'), .second] [(.long a')])) _
      refine XS.goto X0.here hx rfl (pc0 := 7) (pc' := 11) rfl (hb hby d9_7) (by decide) (by decide) ?_
      show Steps p.tables e below (s₁.setTop (mkF m 11 #[.val (.long a'), .second, .val (.long b'), .second] [(.long a')])) _
      exact retOut X0 hx Bd.returns rfl (Or.inr (Or.inl ⟨rfl, rfl, _, rfl⟩)) (hb hby d9_11) hr
    · show Q9 Z a' b' h0 n0 _ s₁.heap _
      rw [e0]
      exact ⟨by rw [own_minl, if_neg hc3_2], N0, rfl⟩
theorem d12_0 : decode jdk_29_method_69_code 0 = .ok (.iload_n 0, 1) := by decide +kernel
theorem d12_1 : decode jdk_29_method_69_code 1 = .ok (.iload_n 1, 1) := by decide +kernel
theorem d12_2 : decode jdk_29_method_69_code 2 = .ok (.if_icmp .gt 7, 3) := by decide +kernel
theorem d12_5 : decode jdk_29_method_69_code 5 = .ok (.iload_n 0, 1) := by decide +kernel
theorem d12_6 : decode jdk_29_method_69_code 6 = .ok (.goto 4, 3) := by decide +kernel
theorem d12_9 : decode jdk_29_method_69_code 9 = .ok (.iload_n 1, 1) := by decide +kernel
theorem d12_10 : decode jdk_29_method_69_code 10 = .ok (.ireturn, 1) := by decide +kernel
theorem ef_12 (m : MethodId) (x0 : Int32) (x1 : Int32) : entryFrame m #[(.int x0), (.int x1)] 2 = mkF m 0 #[.val (.int x0), .val (.int x1)] [] := by first | (simp [entryFrame, mkF, argsToLocals, Value.category]; done) | rfl
def Q12 (Z : State) (a' : Int32) (b' : Int32) (h0 : Heap) (n0 : Nat) (v : Option Value) (h : Heap) (L : List Loc) : Prop := v = some (.int (own_mini a' b')) ∧ Fr n0 L ∧ h = h0
set_option maxRecDepth 65536 in
set_option maxHeartbeats 40000000 in
theorem rm12 (l : Launch) (Z : State) (a0 : Array Value) (hw : ∀ d ∈ tables_1, d.before a0 Z = true) (ws : List Jvm.Cond) (a' : Int32) (b' : Int32) (h0 : Heap) (n0 : Nat) (Z0 : n0 ≤ h0.size)  :
    MetFree l (⟨"java/lang/Math", "min", "(II)I"⟩ : MethodName) (head1 (Jvm.Cond.code (⟨"java/lang/Math", "min", "(II)I"⟩ : MethodName) jdk_29_method_69_code 2 (some .int) :: ws) ({ frames := 0, cells := 0, slots := 0, locals := 0 } : Room)) (fun ar U => ar = #[(.int a'), (.int b')] ∧ Z.Warmed39 U.vm ∧ U.heap = h0) (fun _ _ _ _ _ => True) (fun _ U o U' => ∃ v L, o = .returned v ∧ Q12 Z a' b' h0 n0 v U'.heap L ∧ FrameEnd U o U' L ({ frames := 0, cells := 0, slots := 0, locals := 0 } : Room).cells ({ frames := 0, cells := 0, slots := 0, locals := 0 } : Room).slots) := by
  refine MetFree.of_bodySF (Jvm.Free.JP.mathPlain rfl (by decide +kernel)) hisR ?_
  intro p e s m args below meth c s₁ Bd hml0 hP hK
  obtain ⟨rfl, hZ, hh⟩ := hP
  have hx := Bd.exec
  have hby := Bd.bytes
  have hml : c.maxLocals = 2 := hml0
  have hown : s.vm.findClass "java/lang/Math" = some m.cls := findClass_of_methodNamed Bd.named
  have hnm := (name_of_methodNamed Bd.named Bd.method).1
  have X0 : Stand p l e ({ frames := 0, cells := 0, slots := 0, locals := 0 } : Room) s m #[(.int a'), (.int b')] below meth c s₁ [] 0 0 := Stand.of_body Bd
  have e0 : s₁.heap = h0 := by rw [← hh, Bd.state]; rfl
  have N0 := Fr.nil n0
  have K0 : Keep h0 h0 [] := Keep.refl h0 _
  have pre0 : ∀ t, Steps p.tables e below (s₁.setTop (mkF m 0 #[.val (.int a'), .val (.int b')] [])) t → Steps p.tables e below (s₁.setTop (entryFrame m #[(.int a'), (.int b')] 2)) t := fun t k => castTop (ef_12 m a' b') k
  have pre1 : ∀ t, Steps p.tables e below (s₁.setTop (mkF m 2 #[.val (.int a'), .val (.int b')] [(.int b'), (.int a')])) t → Steps p.tables e below (s₁.setTop (entryFrame m #[(.int a'), (.int b')] 2)) t := by
    intro t kt
    refine pre0 t ?_
    show Steps p.tables e below (s₁.setTop (mkF m 0 #[.val (.int a'), .val (.int b')] [])) _
    refine XS.iloadN X0.here hx rfl (hb hby d12_0) rfl ?_
    show Steps p.tables e below (s₁.setTop (mkF m 1 #[.val (.int a'), .val (.int b')] [(.int a')])) _
    refine XS.iloadN X0.here hx rfl (hb hby d12_1) rfl ?_
    exact kt
  by_cases hc2_2 : b' < a'
  · obtain ⟨fs, hr, hrun, hended, hW, hsame⟩ := X0.leave (v := some (.int b')) (fun h => by rw [Bd.returns] at h; cases h)
    refine ⟨_, _, pre1 _ ?_, hrun, hended, _, _, rfl, ?_, ⟨_, rfl⟩, hW, hsame.mono (by decide) (by decide)⟩
    · show Steps p.tables e below (s₁.setTop (mkF m 2 #[.val (.int a'), .val (.int b')] [(.int b'), (.int a')])) _
      refine XS.icmpYes X0.here hx rfl (pc0 := 2) (pc' := 9) rfl (hb hby d12_2) rfl (tlt hc2_2).2.2.1 (by decide) (by decide) ?_
      show Steps p.tables e below (s₁.setTop (mkF m 9 #[.val (.int a'), .val (.int b')] [])) _
      refine XS.iloadN X0.here hx rfl (hb hby d12_9) rfl ?_
      show Steps p.tables e below (s₁.setTop (mkF m 10 #[.val (.int a'), .val (.int b')] [(.int b')])) _
      exact retOut X0 hx Bd.returns rfl (Or.inl ⟨rfl, Or.inl rfl, _, rfl⟩) (hb hby d12_10) hr
    · show Q12 Z a' b' h0 n0 _ s₁.heap _
      rw [e0]
      exact ⟨by rw [own_mini, if_pos hc2_2], N0, rfl⟩
  · obtain ⟨fs, hr, hrun, hended, hW, hsame⟩ := X0.leave (v := some (.int a')) (fun h => by rw [Bd.returns] at h; cases h)
    refine ⟨_, _, pre1 _ ?_, hrun, hended, _, _, rfl, ?_, ⟨_, rfl⟩, hW, hsame.mono (by decide) (by decide)⟩
    · show Steps p.tables e below (s₁.setTop (mkF m 2 #[.val (.int a'), .val (.int b')] [(.int b'), (.int a')])) _
      refine XS.icmpNo X0.here hx rfl (hb hby d12_2) rfl (flt hc2_2).2.2.1 ?_
      show Steps p.tables e below (s₁.setTop (mkF m 5 #[.val (.int a'), .val (.int b')] [])) _
      refine XS.iloadN X0.here hx rfl (hb hby d12_5) rfl ?_
      show Steps p.tables e below (s₁.setTop (mkF m 6 #[.val (.int a'), .val (.int b')] [(.int a')])) _
      refine XS.goto X0.here hx rfl (pc0 := 6) (pc' := 10) rfl (hb hby d12_6) (by decide) (by decide) ?_
      show Steps p.tables e below (s₁.setTop (mkF m 10 #[.val (.int a'), .val (.int b')] [(.int a')])) _
      exact retOut X0 hx Bd.returns rfl (Or.inl ⟨rfl, Or.inl rfl, _, rfl⟩) (hb hby d12_10) hr
    · show Q12 Z a' b' h0 n0 _ s₁.heap _
      rw [e0]
      exact ⟨by rw [own_mini, if_neg hc2_2], N0, rfl⟩
theorem d3_0 : decode jdk_2038_method_1_code 0 = .ok (.aload_n 0, 1) := by decide +kernel
theorem d3_1 : decode jdk_2038_method_1_code 1 = .ok (.invokespecial 1, 3) := by decide +kernel
theorem d3_4 : decode jdk_2038_method_1_code 4 = .ok (.return_, 1) := by decide +kernel
theorem pn_3 : plainName "java/io/OutputStream" = true := by first | (simp [plainName, overriddenIn]; done) | decide +kernel
theorem ef_3 (m : MethodId) (x0 : Addr) : entryFrame m #[(.ref x0)] 1 = mkF m 0 #[.val (.ref x0)] [] := by first | (simp [entryFrame, mkF, argsToLocals, Value.category]; done) | rfl
def Q3 (Z : State) (a : Addr) (h0 : Heap) (n0 : Nat) (v : Option Value) (h : Heap) (L : List Loc) : Prop := v = none ∧ Fr n0 L ∧ h = h0
set_option maxRecDepth 65536 in
set_option maxHeartbeats 40000000 in
theorem rm3 (l : Launch) (Z : State) (a0 : Array Value) (hw : ∀ d ∈ tables_1, d.before a0 Z = true) (ws : List Jvm.Cond) (a : Addr) (h0 : Heap) (n0 : Nat) (Z0 : n0 ≤ h0.size)  :
    MetFree l (⟨"java/io/OutputStream", "<init>", "()V"⟩ : MethodName) (head1 (Jvm.Cond.code (⟨"java/io/OutputStream", "<init>", "()V"⟩ : MethodName) jdk_2038_method_1_code 1 none :: ws) ({ frames := 1, cells := 0, slots := 0, locals := 12 } : Room)) (fun ar U => ar = #[(.ref a)] ∧ Z.Warmed39 U.vm ∧ U.heap = h0) (fun _ _ _ _ _ => True) (fun _ U o U' => ∃ v L, o = .returned v ∧ Q3 Z a h0 n0 v U'.heap L ∧ FrameEnd U o U' L ({ frames := 1, cells := 0, slots := 0, locals := 12 } : Room).cells ({ frames := 1, cells := 0, slots := 0, locals := 12 } : Room).slots) := by
  refine MetFree.of_bodySF (plainFor_of_name pn_3) hisR ?_
  intro p e s m args below meth c s₁ Bd hml0 hP hK
  obtain ⟨rfl, hZ, hh⟩ := hP
  have hx := Bd.exec
  have hby := Bd.bytes
  have hml : c.maxLocals = 1 := hml0
  have hown : s.vm.findClass "java/io/OutputStream" = some m.cls := findClass_of_methodNamed Bd.named
  have hnm := (name_of_methodNamed Bd.named Bd.method).1
  have X0 : Stand p l e ({ frames := 1, cells := 0, slots := 0, locals := 12 } : Room) s m #[(.ref a)] below meth c s₁ [] 0 0 := Stand.of_body Bd
  have e0 : s₁.heap = h0 := by rw [← hh, Bd.state]; rfl
  have N0 := Fr.nil n0
  have K0 : Keep h0 h0 [] := Keep.refl h0 _
  have pre0 : ∀ t, Steps p.tables e below (s₁.setTop (mkF m 0 #[.val (.ref a)] [])) t → Steps p.tables e below (s₁.setTop (entryFrame m #[(.ref a)] 1)) t := fun t k => castTop (ef_3 m a) k
  obtain ⟨T1, X1, e1, st1⟩ := initO X0 hx hZ hown (hw _ (List.mem_of_getElem? (i := 16) rfl)) (hw _ (List.mem_of_getElem? (i := 17) rfl)) (hw _ (List.mem_of_getElem? (i := 18) rfl)) e0 (g := (mkF m 1 #[.val (.ref a)] [(.ref a)])) rfl (by rw [hml]; rfl) rfl (hb hby d3_1) (by decide) (W := 0) (by show 2 * 0 + _ ≤ _; exact Nat.le_of_eq rfl) (by decide)
  obtain ⟨fs, hr, hrun, hended, hW, hsame⟩ := X1.leave (v := none) (fun _ => rfl)
  refine ⟨_, _, pre0 _ ?_, hrun, hended, _, _, rfl, ?_, ⟨_, rfl⟩, hW, hsame.mono (by decide) (by decide)⟩
  · show Steps p.tables e below (s₁.setTop (mkF m 0 #[.val (.ref a)] [])) _
    refine XS.aloadN X0.here hx rfl (hb hby d3_0) rfl rfl ?_
    show Steps p.tables e below (s₁.setTop (mkF m 1 #[.val (.ref a)] [(.ref a)])) _
    refine st1 _ ?_
    show Steps p.tables e below (T1.setTop (mkF m 4 #[.val (.ref a)] [])) _
    exact X1.returnOut hx Bd.returns (hb hby d3_4) hr
  · show Q3 Z a h0 n0 _ T1.heap _
    rw [e1]
    exact ⟨rfl, N0, rfl⟩
theorem d5_0 : decode jdk_31_method_11_code 0 = .ok (.aload_n 0, 1) := by decide +kernel
theorem d5_1 : decode jdk_31_method_11_code 1 = .ok (.ifnonnull 12, 3) := by decide +kernel
theorem d5_13 : decode jdk_31_method_11_code 13 = .ok (.aload_n 0, 1) := by decide +kernel
theorem d5_14 : decode jdk_31_method_11_code 14 = .ok (.areturn, 1) := by decide +kernel
theorem pn_5 : plainName "java/util/Objects" = true := by first | (simp [plainName, overriddenIn]; done) | decide +kernel
theorem ef_5 (m : MethodId) (x0 : Addr) (x1 : Addr) : entryFrame m #[(.ref x0), (.ref x1)] 2 = mkF m 0 #[.val (.ref x0), .val (.ref x1)] [] := by first | (simp [entryFrame, mkF, argsToLocals, Value.category]; done) | rfl
def Q5 (Z : State) (a : Addr) (b : Addr) (h0 : Heap) (n0 : Nat) (v : Option Value) (h : Heap) (L : List Loc) : Prop := v = some (.ref a) ∧ Fr n0 L ∧ h = h0
set_option maxRecDepth 65536 in
set_option maxHeartbeats 40000000 in
theorem rm5 (l : Launch) (Z : State) (a0 : Array Value) (hw : ∀ d ∈ tables_1, d.before a0 Z = true) (ws : List Jvm.Cond) (a : Addr) (b : Addr) (h0 : Heap) (n0 : Nat) (Z0 : n0 ≤ h0.size)  :
    MetFree l (⟨"java/util/Objects", "requireNonNull", "(Ljava/lang/Object;Ljava/lang/String;)Ljava/lang/Object;"⟩ : MethodName) (head1 (Jvm.Cond.code (⟨"java/util/Objects", "requireNonNull", "(Ljava/lang/Object;Ljava/lang/String;)Ljava/lang/Object;"⟩ : MethodName) jdk_31_method_11_code 2 (some (.object "java/lang/Object")) :: ws) ({ frames := 0, cells := 0, slots := 0, locals := 0 } : Room)) (fun ar U => ar = #[(.ref a), (.ref b)] ∧ Z.Warmed39 U.vm ∧ U.heap = h0) (fun _ _ _ _ _ => True) (fun _ U o U' => ∃ v L, o = .returned v ∧ Q5 Z a b h0 n0 v U'.heap L ∧ FrameEnd U o U' L ({ frames := 0, cells := 0, slots := 0, locals := 0 } : Room).cells ({ frames := 0, cells := 0, slots := 0, locals := 0 } : Room).slots) := by
  refine MetFree.of_bodySF (plainFor_of_name pn_5) hisR ?_
  intro p e s m args below meth c s₁ Bd hml0 hP hK
  obtain ⟨rfl, hZ, hh⟩ := hP
  have hx := Bd.exec
  have hby := Bd.bytes
  have hml : c.maxLocals = 2 := hml0
  have hown : s.vm.findClass "java/util/Objects" = some m.cls := findClass_of_methodNamed Bd.named
  have hnm := (name_of_methodNamed Bd.named Bd.method).1
  have X0 : Stand p l e ({ frames := 0, cells := 0, slots := 0, locals := 0 } : Room) s m #[(.ref a), (.ref b)] below meth c s₁ [] 0 0 := Stand.of_body Bd
  have e0 : s₁.heap = h0 := by rw [← hh, Bd.state]; rfl
  have N0 := Fr.nil n0
  have K0 : Keep h0 h0 [] := Keep.refl h0 _
  have pre0 : ∀ t, Steps p.tables e below (s₁.setTop (mkF m 0 #[.val (.ref a), .val (.ref b)] [])) t → Steps p.tables e below (s₁.setTop (entryFrame m #[(.ref a), (.ref b)] 2)) t := fun t k => castTop (ef_5 m a b) k
  obtain ⟨fs, hr, hrun, hended, hW, hsame⟩ := X0.leave (v := some (.ref a)) (fun h => by rw [Bd.returns] at h; cases h)
  refine ⟨_, _, pre0 _ ?_, hrun, hended, _, _, rfl, ?_, ⟨_, rfl⟩, hW, hsame.mono (by decide) (by decide)⟩
  · show Steps p.tables e below (s₁.setTop (mkF m 0 #[.val (.ref a), .val (.ref b)] [])) _
    refine XS.aloadN X0.here hx rfl (hb hby d5_0) rfl rfl ?_
    show Steps p.tables e below (s₁.setTop (mkF m 1 #[.val (.ref a), .val (.ref b)] [(.ref a)])) _
    refine XS.ifnonnullYes X0.here hx rfl (pc0 := 1) (pc' := 13) rfl (hb hby d5_1) rfl (by decide) (by decide) ?_
    show Steps p.tables e below (s₁.setTop (mkF m 13 #[.val (.ref a), .val (.ref b)] [])) _
    refine XS.aloadN X0.here hx rfl (hb hby d5_13) rfl rfl ?_
    show Steps p.tables e below (s₁.setTop (mkF m 14 #[.val (.ref a), .val (.ref b)] [(.ref a)])) _
    exact retOut X0 hx Bd.returns rfl (Or.inr (Or.inr (Or.inr (Or.inr ⟨rfl, rfl, rfl⟩)))) (hb hby d5_14) hr
  · show Q5 Z a b h0 n0 _ s₁.heap _
    rw [e0]
    exact ⟨rfl, N0, rfl⟩
theorem d8_0 : decode jdk_41_method_13_code 0 = .ok (.iload_n 2, 1) := by decide +kernel
theorem d8_1 : decode jdk_41_method_13_code 1 = .ok (.iload_n 0, 1) := by decide +kernel
theorem d8_2 : decode jdk_41_method_13_code 2 = .ok (.ior, 1) := by decide +kernel
theorem d8_3 : decode jdk_41_method_13_code 3 = .ok (.iload_n 1, 1) := by decide +kernel
theorem d8_4 : decode jdk_41_method_13_code 4 = .ok (.ior, 1) := by decide +kernel
theorem d8_5 : decode jdk_41_method_13_code 5 = .ok (.ifCond .lt 10, 3) := by decide +kernel
theorem d8_8 : decode jdk_41_method_13_code 8 = .ok (.iload_n 1, 1) := by decide +kernel
theorem d8_9 : decode jdk_41_method_13_code 9 = .ok (.iload_n 2, 1) := by decide +kernel
theorem d8_10 : decode jdk_41_method_13_code 10 = .ok (.iload_n 0, 1) := by decide +kernel
theorem d8_11 : decode jdk_41_method_13_code 11 = .ok (.isub, 1) := by decide +kernel
theorem d8_12 : decode jdk_41_method_13_code 12 = .ok (.if_icmp .le 11, 3) := by decide +kernel
theorem d8_23 : decode jdk_41_method_13_code 23 = .ok (.iload_n 0, 1) := by decide +kernel
theorem d8_24 : decode jdk_41_method_13_code 24 = .ok (.ireturn, 1) := by decide +kernel
theorem pn_8 : plainName "jdk/internal/util/Preconditions" = true := by first | (simp [plainName, overriddenIn]; done) | decide +kernel
theorem ef_8 (m : MethodId) (x0 : Int32) (x1 : Int32) (x2 : Int32) : entryFrame m #[(.int x0), (.int x1), (.int x2), .null] 4 = mkF m 0 #[.val (.int x0), .val (.int x1), .val (.int x2), .val .null] [] := by first | (simp [entryFrame, mkF, argsToLocals, Value.category]; done) | rfl
def Q8 (Z : State) (o' : Int32) (l' : Int32) (z' : Int32) (h0 : Heap) (n0 : Nat) (v : Option Value) (h : Heap) (L : List Loc) : Prop := v = some (.int o') ∧ Fr n0 L ∧ h = h0
set_option maxRecDepth 65536 in
set_option maxHeartbeats 40000000 in
theorem rm8 (l : Launch) (Z : State) (a0 : Array Value) (hw : ∀ d ∈ tables_1, d.before a0 Z = true) (ws : List Jvm.Cond) (o' : Int32) (l' : Int32) (z' : Int32) (h0 : Heap) (n0 : Nat) (Z0 : n0 ≤ h0.size) (h1 : ¬ ((z' ||| o') ||| l') < (0 : Int32)) (h2 : ¬ (z' - o') < l') :
    MetFree l (⟨"jdk/internal/util/Preconditions", "checkFromIndexSize", "(IIILjava/util/function/BiFunction;)I"⟩ : MethodName) (head1 (Jvm.Cond.code (⟨"jdk/internal/util/Preconditions", "checkFromIndexSize", "(IIILjava/util/function/BiFunction;)I"⟩ : MethodName) jdk_41_method_13_code 4 (some .int) :: ws) ({ frames := 0, cells := 0, slots := 0, locals := 0 } : Room)) (fun ar U => ar = #[(.int o'), (.int l'), (.int z'), .null] ∧ Z.Warmed39 U.vm ∧ U.heap = h0) (fun _ _ _ _ _ => True) (fun _ U o U' => ∃ v L, o = .returned v ∧ Q8 Z o' l' z' h0 n0 v U'.heap L ∧ FrameEnd U o U' L ({ frames := 0, cells := 0, slots := 0, locals := 0 } : Room).cells ({ frames := 0, cells := 0, slots := 0, locals := 0 } : Room).slots) := by
  refine MetFree.of_bodySF (plainFor_of_name pn_8) hisR ?_
  intro p e s m args below meth c s₁ Bd hml0 hP hK
  obtain ⟨rfl, hZ, hh⟩ := hP
  have hx := Bd.exec
  have hby := Bd.bytes
  have hml : c.maxLocals = 4 := hml0
  have hown : s.vm.findClass "jdk/internal/util/Preconditions" = some m.cls := findClass_of_methodNamed Bd.named
  have hnm := (name_of_methodNamed Bd.named Bd.method).1
  have X0 : Stand p l e ({ frames := 0, cells := 0, slots := 0, locals := 0 } : Room) s m #[(.int o'), (.int l'), (.int z'), .null] below meth c s₁ [] 0 0 := Stand.of_body Bd
  have e0 : s₁.heap = h0 := by rw [← hh, Bd.state]; rfl
  have N0 := Fr.nil n0
  have K0 : Keep h0 h0 [] := Keep.refl h0 _
  have pre0 : ∀ t, Steps p.tables e below (s₁.setTop (mkF m 0 #[.val (.int o'), .val (.int l'), .val (.int z'), .val .null] [])) t → Steps p.tables e below (s₁.setTop (entryFrame m #[(.int o'), (.int l'), (.int z'), .null] 4)) t := fun t k => castTop (ef_8 m o' l' z') k
  obtain ⟨fs, hr, hrun, hended, hW, hsame⟩ := X0.leave (v := some (.int o')) (fun h => by rw [Bd.returns] at h; cases h)
  refine ⟨_, _, pre0 _ ?_, hrun, hended, _, _, rfl, ?_, ⟨_, rfl⟩, hW, hsame.mono (by decide) (by decide)⟩
  · show Steps p.tables e below (s₁.setTop (mkF m 0 #[.val (.int o'), .val (.int l'), .val (.int z'), .val .null] [])) _
    refine XS.iloadN X0.here hx rfl (hb hby d8_0) rfl ?_
    show Steps p.tables e below (s₁.setTop (mkF m 1 #[.val (.int o'), .val (.int l'), .val (.int z'), .val .null] [(.int z')])) _
    refine XS.iloadN X0.here hx rfl (hb hby d8_1) rfl ?_
    show Steps p.tables e below (s₁.setTop (mkF m 2 #[.val (.int o'), .val (.int l'), .val (.int z'), .val .null] [(.int o'), (.int z')])) _
    refine XS.ior X0.here hx rfl (hb hby d8_2) rfl ?_
    show Steps p.tables e below (s₁.setTop (mkF m 3 #[.val (.int o'), .val (.int l'), .val (.int z'), .val .null] [(.int (z' ||| o'))])) _
    refine XS.iloadN X0.here hx rfl (hb hby d8_3) rfl ?_
    show Steps p.tables e below (s₁.setTop (mkF m 4 #[.val (.int o'), .val (.int l'), .val (.int z'), .val .null] [(.int l'), (.int (z' ||| o'))])) _
    refine XS.ior X0.here hx rfl (hb hby d8_4) rfl ?_
    show Steps p.tables e below (s₁.setTop (mkF m 5 #[.val (.int o'), .val (.int l'), .val (.int z'), .val .null] [(.int ((z' ||| o') ||| l'))])) _
    refine XS.ifNo X0.here hx rfl (hb hby d8_5) rfl ((if0 _ _).trans (flt h1).1) ?_
    show Steps p.tables e below (s₁.setTop (mkF m 8 #[.val (.int o'), .val (.int l'), .val (.int z'), .val .null] [])) _
    refine XS.iloadN X0.here hx rfl (hb hby d8_8) rfl ?_
    show Steps p.tables e below (s₁.setTop (mkF m 9 #[.val (.int o'), .val (.int l'), .val (.int z'), .val .null] [(.int l')])) _
    refine XS.iloadN X0.here hx rfl (hb hby d8_9) rfl ?_
    show Steps p.tables e below (s₁.setTop (mkF m 10 #[.val (.int o'), .val (.int l'), .val (.int z'), .val .null] [(.int z'), (.int l')])) _
    refine XS.iloadN X0.here hx rfl (hb hby d8_10) rfl ?_
    show Steps p.tables e below (s₁.setTop (mkF m 11 #[.val (.int o'), .val (.int l'), .val (.int z'), .val .null] [(.int o'), (.int z'), (.int l')])) _
    refine XS.isub X0.here hx rfl (hb hby d8_11) rfl ?_
    show Steps p.tables e below (s₁.setTop (mkF m 12 #[.val (.int o'), .val (.int l'), .val (.int z'), .val .null] [(.int (z' - o')), (.int l')])) _
    refine XS.icmpYes X0.here hx rfl (pc0 := 12) (pc' := 23) rfl (hb hby d8_12) rfl (flt h2).2.2.2 (by decide) (by decide) ?_
    show Steps p.tables e below (s₁.setTop (mkF m 23 #[.val (.int o'), .val (.int l'), .val (.int z'), .val .null] [])) _
    refine XS.iloadN X0.here hx rfl (hb hby d8_23) rfl ?_
    show Steps p.tables e below (s₁.setTop (mkF m 24 #[.val (.int o'), .val (.int l'), .val (.int z'), .val .null] [(.int o')])) _
    exact retOut X0 hx Bd.returns rfl (Or.inl ⟨rfl, Or.inl rfl, _, rfl⟩) (hb hby d8_24) hr
  · show Q8 Z o' l' z' h0 n0 _ s₁.heap _
    rw [e0]
    exact ⟨rfl, N0, rfl⟩
theorem d7_0 : decode jdk_31_method_19_code 0 = .ok (.iload_n 0, 1) := by decide +kernel
theorem d7_1 : decode jdk_31_method_19_code 1 = .ok (.iload_n 1, 1) := by decide +kernel
theorem d7_2 : decode jdk_31_method_19_code 2 = .ok (.iload_n 2, 1) := by decide +kernel
theorem d7_3 : decode jdk_31_method_19_code 3 = .ok (.aconst_null, 1) := by decide +kernel
theorem d7_4 : decode jdk_31_method_19_code 4 = .ok (.invokestatic 115, 3) := by decide +kernel
theorem d7_7 : decode jdk_31_method_19_code 7 = .ok (.ireturn, 1) := by decide +kernel
theorem pn_7 : plainName "java/util/Objects" = true := by first | (simp [plainName, overriddenIn]; done) | decide +kernel
theorem pd7_0 : parseMethodDescriptor "(IIILjava/util/function/BiFunction;)I" = some ⟨[.int, .int, .int, (.object "java/util/function/BiFunction")], some .int⟩ := by decide +kernel
theorem ef_7 (m : MethodId) (x0 : Int32) (x1 : Int32) (x2 : Int32) : entryFrame m #[(.int x0), (.int x1), (.int x2)] 3 = mkF m 0 #[.val (.int x0), .val (.int x1), .val (.int x2)] [] := by first | (simp [entryFrame, mkF, argsToLocals, Value.category]; done) | rfl
def Q7 (Z : State) (o' : Int32) (l' : Int32) (z' : Int32) (h0 : Heap) (n0 : Nat) (v : Option Value) (h : Heap) (L : List Loc) : Prop := v = some (.int o') ∧ Fr n0 L ∧ h = h0
set_option maxRecDepth 65536 in
set_option maxHeartbeats 40000000 in
theorem rm7 (l : Launch) (Z : State) (a0 : Array Value) (hw : ∀ d ∈ tables_1, d.before a0 Z = true) (ws : List Jvm.Cond) (o' : Int32) (l' : Int32) (z' : Int32) (h0 : Heap) (n0 : Nat) (Z0 : n0 ≤ h0.size) (h1 : ¬ ((z' ||| o') ||| l') < (0 : Int32)) (h2 : ¬ (z' - o') < l') :
    MetFree l (⟨"java/util/Objects", "checkFromIndexSize", "(III)I"⟩ : MethodName) (head1 (Jvm.Cond.code (⟨"java/util/Objects", "checkFromIndexSize", "(III)I"⟩ : MethodName) jdk_31_method_19_code 3 (some .int) :: ws) ({ frames := 1, cells := 0, slots := 0, locals := 15 } : Room)) (fun ar U => ar = #[(.int o'), (.int l'), (.int z')] ∧ Z.Warmed39 U.vm ∧ U.heap = h0) (fun _ _ _ _ _ => True) (fun _ U o U' => ∃ v L, o = .returned v ∧ Q7 Z o' l' z' h0 n0 v U'.heap L ∧ FrameEnd U o U' L ({ frames := 1, cells := 0, slots := 0, locals := 15 } : Room).cells ({ frames := 1, cells := 0, slots := 0, locals := 15 } : Room).slots) := by
  refine MetFree.of_bodySF (plainFor_of_name pn_7) hisR ?_
  intro p e s m args below meth c s₁ Bd hml0 hP hK
  obtain ⟨rfl, hZ, hh⟩ := hP
  have hx := Bd.exec
  have hby := Bd.bytes
  have hml : c.maxLocals = 3 := hml0
  have hown : s.vm.findClass "java/util/Objects" = some m.cls := findClass_of_methodNamed Bd.named
  have hnm := (name_of_methodNamed Bd.named Bd.method).1
  have X0 : Stand p l e ({ frames := 1, cells := 0, slots := 0, locals := 15 } : Room) s m #[(.int o'), (.int l'), (.int z')] below meth c s₁ [] 0 0 := Stand.of_body Bd
  have e0 : s₁.heap = h0 := by rw [← hh, Bd.state]; rfl
  have N0 := Fr.nil n0
  have K0 : Keep h0 h0 [] := Keep.refl h0 _
  have pre0 : ∀ t, Steps p.tables e below (s₁.setTop (mkF m 0 #[.val (.int o'), .val (.int l'), .val (.int z')] [])) t → Steps p.tables e below (s₁.setTop (entryFrame m #[(.int o'), (.int l'), (.int z')] 3)) t := fun t k => castTop (ef_7 m o' l' z') k
  obtain ⟨_, _, ⟨T1, L1, k1, n1⟩, -, X1, ⟨Lc1, hQ1, l1, y1, z1⟩, st1⟩ := Jvm.LawKit.callS X0 hx (y := (⟨"jdk/internal/util/Preconditions", "checkFromIndexSize", "(IIILjava/util/function/BiFunction;)I"⟩ : MethodName)) hown (mvT hZ (hw _ (List.mem_of_getElem? (i := 45) rfl))) (mvT hZ (hw _ (List.mem_of_getElem? (i := 46) rfl))) (mvT hZ (hw _ (List.mem_of_getElem? (i := 47) rfl))) (mvT hZ (hw _ (List.mem_of_getElem? (i := 48) rfl))) (by decide) (backOf (W := 0) (rm8 l Z a0 hw [] o' l' z' h0 n0 Z0 h1 h2) hZ (hw _ (List.mem_of_getElem? (i := 48) rfl)) (hw _ (List.mem_of_getElem? (i := 47) rfl)) (by decide) (by decide)) (g := (mkF m 4 #[.val (.int o'), .val (.int l'), .val (.int z')] [.null, (.int z'), (.int l'), (.int o')])) rfl (by rw [hml]; rfl) (argsL := [(.int o'), (.int l'), (.int z'), .null]) (rest := []) (lenOf pd7_0 rfl) rfl (by show 2 * 0 + _ ≤ _; exact Nat.le_of_eq rfl) (hb hby d7_4) (fun _ _ => ⟨rfl, e0, (by decide : 0 + 0 ≤ _), (by decide : 0 + 0 ≤ _)⟩)
  dsimp only [Pt.U, Pt.locs, Pt.cells, Pt.slots] at X1 l1 y1 z1 st1 hQ1
  subst l1 y1 z1
  obtain ⟨rfl, N1q, hh1⟩ := hQ1
  have N1 := Fr.app N0 N1q
  obtain ⟨fs, hr, hrun, hended, hW, hsame⟩ := X1.leave (v := some (.int o')) (fun h => by rw [Bd.returns] at h; cases h)
  refine ⟨_, _, pre0 _ ?_, hrun, hended, _, _, rfl, ?_, ⟨_, rfl⟩, hW, hsame.mono (by decide) (by decide)⟩
  · show Steps p.tables e below (s₁.setTop (mkF m 0 #[.val (.int o'), .val (.int l'), .val (.int z')] [])) _
    refine XS.iloadN X0.here hx rfl (hb hby d7_0) rfl ?_
    show Steps p.tables e below (s₁.setTop (mkF m 1 #[.val (.int o'), .val (.int l'), .val (.int z')] [(.int o')])) _
    refine XS.iloadN X0.here hx rfl (hb hby d7_1) rfl ?_
    show Steps p.tables e below (s₁.setTop (mkF m 2 #[.val (.int o'), .val (.int l'), .val (.int z')] [(.int l'), (.int o')])) _
    refine XS.iloadN X0.here hx rfl (hb hby d7_2) rfl ?_
    show Steps p.tables e below (s₁.setTop (mkF m 3 #[.val (.int o'), .val (.int l'), .val (.int z')] [(.int z'), (.int l'), (.int o')])) _
    refine XS.aconstNull X0.here hx rfl (hb hby d7_3) ?_
    show Steps p.tables e below (s₁.setTop (mkF m 4 #[.val (.int o'), .val (.int l'), .val (.int z')] [.null, (.int z'), (.int l'), (.int o')])) _
    refine st1 _ ?_
    show Steps p.tables e below (T1.setTop (mkF m 7 #[.val (.int o'), .val (.int l'), .val (.int z')] [(.int o')])) _
    exact retOut X1 hx Bd.returns rfl (Or.inl ⟨rfl, Or.inl rfl, _, rfl⟩) (hb hby d7_7) hr
  · show Q7 Z o' l' z' h0 n0 _ T1.heap _
    rw [hh1]
    exact ⟨rfl, N1, rfl⟩
theorem d11_0 : decode jdk_65_method_30_code 0 = .ok (.iload_n 1, 1) := by decide +kernel
theorem d11_1 : decode jdk_65_method_30_code 1 = .ok (.iload_n 2, 1) := by decide +kernel
theorem d11_2 : decode jdk_65_method_30_code 2 = .ok (.if_icmp .le 44, 3) := by decide +kernel
theorem d11_46 : decode jdk_65_method_30_code 46 = .ok (.iload_n 1, 1) := by decide +kernel
theorem d11_47 : decode jdk_65_method_30_code 47 = .ok (.ifCond .ge 12, 3) := by decide +kernel
theorem d11_59 : decode jdk_65_method_30_code 59 = .ok (.iload_n 2, 1) := by decide +kernel
theorem d11_60 : decode jdk_65_method_30_code 60 = .ok (.iload_n 0, 1) := by decide +kernel
theorem d11_61 : decode jdk_65_method_30_code 61 = .ok (.if_icmp .le 12, 3) := by decide +kernel
theorem d11_73 : decode jdk_65_method_30_code 73 = .ok (.return_, 1) := by decide +kernel
theorem pn_11 : plainName "java/util/Arrays" = true := by first | (simp [plainName, overriddenIn]; done) | decide +kernel
theorem ef_11 (m : MethodId) (x0 : Int32) (x1 : Int32) (x2 : Int32) : entryFrame m #[(.int x0), (.int x1), (.int x2)] 3 = mkF m 0 #[.val (.int x0), .val (.int x1), .val (.int x2)] [] := by first | (simp [entryFrame, mkF, argsToLocals, Value.category]; done) | rfl
def Q11 (Z : State) (l' : Int32) (f' : Int32) (t' : Int32) (h0 : Heap) (n0 : Nat) (v : Option Value) (h : Heap) (L : List Loc) : Prop := v = none ∧ Fr n0 L ∧ h = h0
set_option maxRecDepth 65536 in
set_option maxHeartbeats 40000000 in
theorem rm11 (l : Launch) (Z : State) (a0 : Array Value) (hw : ∀ d ∈ tables_1, d.before a0 Z = true) (ws : List Jvm.Cond) (l' : Int32) (f' : Int32) (t' : Int32) (h0 : Heap) (n0 : Nat) (Z0 : n0 ≤ h0.size) (h1 : ¬ t' < f') (h2 : ¬ f' < (0 : Int32)) (h3 : ¬ l' < t') :
    MetFree l (⟨"java/util/Arrays", "rangeCheck", "(III)V"⟩ : MethodName) (head1 (Jvm.Cond.code (⟨"java/util/Arrays", "rangeCheck", "(III)V"⟩ : MethodName) jdk_65_method_30_code 3 none :: ws) ({ frames := 0, cells := 0, slots := 0, locals := 0 } : Room)) (fun ar U => ar = #[(.int l'), (.int f'), (.int t')] ∧ Z.Warmed39 U.vm ∧ U.heap = h0) (fun _ _ _ _ _ => True) (fun _ U o U' => ∃ v L, o = .returned v ∧ Q11 Z l' f' t' h0 n0 v U'.heap L ∧ FrameEnd U o U' L ({ frames := 0, cells := 0, slots := 0, locals := 0 } : Room).cells ({ frames := 0, cells := 0, slots := 0, locals := 0 } : Room).slots) := by
  refine MetFree.of_bodySF (plainFor_of_name pn_11) hisR ?_
  intro p e s m args below meth c s₁ Bd hml0 hP hK
  obtain ⟨rfl, hZ, hh⟩ := hP
  have hx := Bd.exec
  have hby := Bd.bytes
  have hml : c.maxLocals = 3 := hml0
  have hown : s.vm.findClass "java/util/Arrays" = some m.cls := findClass_of_methodNamed Bd.named
  have hnm := (name_of_methodNamed Bd.named Bd.method).1
  have X0 : Stand p l e ({ frames := 0, cells := 0, slots := 0, locals := 0 } : Room) s m #[(.int l'), (.int f'), (.int t')] below meth c s₁ [] 0 0 := Stand.of_body Bd
  have e0 : s₁.heap = h0 := by rw [← hh, Bd.state]; rfl
  have N0 := Fr.nil n0
  have K0 : Keep h0 h0 [] := Keep.refl h0 _
  have pre0 : ∀ t, Steps p.tables e below (s₁.setTop (mkF m 0 #[.val (.int l'), .val (.int f'), .val (.int t')] [])) t → Steps p.tables e below (s₁.setTop (entryFrame m #[(.int l'), (.int f'), (.int t')] 3)) t := fun t k => castTop (ef_11 m l' f' t') k
  obtain ⟨fs, hr, hrun, hended, hW, hsame⟩ := X0.leave (v := none) (fun _ => rfl)
  refine ⟨_, _, pre0 _ ?_, hrun, hended, _, _, rfl, ?_, ⟨_, rfl⟩, hW, hsame.mono (by decide) (by decide)⟩
  · show Steps p.tables e below (s₁.setTop (mkF m 0 #[.val (.int l'), .val (.int f'), .val (.int t')] [])) _
    refine XS.iloadN X0.here hx rfl (hb hby d11_0) rfl ?_
    show Steps p.tables e below (s₁.setTop (mkF m 1 #[.val (.int l'), .val (.int f'), .val (.int t')] [(.int f')])) _
    refine XS.iloadN X0.here hx rfl (hb hby d11_1) rfl ?_
    show Steps p.tables e below (s₁.setTop (mkF m 2 #[.val (.int l'), .val (.int f'), .val (.int t')] [(.int t'), (.int f')])) _
    refine XS.icmpYes X0.here hx rfl (pc0 := 2) (pc' := 46) rfl (hb hby d11_2) rfl (flt h1).2.2.2 (by decide) (by decide) ?_
    show Steps p.tables e below (s₁.setTop (mkF m 46 #[.val (.int l'), .val (.int f'), .val (.int t')] [])) _
    refine XS.iloadN X0.here hx rfl (hb hby d11_46) rfl ?_
    show Steps p.tables e below (s₁.setTop (mkF m 47 #[.val (.int l'), .val (.int f'), .val (.int t')] [(.int f')])) _
    refine XS.ifYes X0.here hx rfl (pc0 := 47) (pc' := 59) rfl (hb hby d11_47) rfl ((if0 _ _).trans (flt h2).2.1) (by decide) (by decide) ?_
    show Steps p.tables e below (s₁.setTop (mkF m 59 #[.val (.int l'), .val (.int f'), .val (.int t')] [])) _
    refine XS.iloadN X0.here hx rfl (hb hby d11_59) rfl ?_
    show Steps p.tables e below (s₁.setTop (mkF m 60 #[.val (.int l'), .val (.int f'), .val (.int t')] [(.int t')])) _
    refine XS.iloadN X0.here hx rfl (hb hby d11_60) rfl ?_
    show Steps p.tables e below (s₁.setTop (mkF m 61 #[.val (.int l'), .val (.int f'), .val (.int t')] [(.int l'), (.int t')])) _
    refine XS.icmpYes X0.here hx rfl (pc0 := 61) (pc' := 73) rfl (hb hby d11_61) rfl (flt h3).2.2.2 (by decide) (by decide) ?_
    show Steps p.tables e below (s₁.setTop (mkF m 73 #[.val (.int l'), .val (.int f'), .val (.int t')] [])) _
    exact X0.returnOut hx Bd.returns (hb hby d11_73) hr
  · show Q11 Z l' f' t' h0 n0 _ s₁.heap _
    rw [e0]
    exact ⟨rfl, N0, rfl⟩
theorem d13_0 : decode jdk_48_method_14_code 0 = .ok (.iconst 0, 1) := by decide +kernel
theorem d13_1 : decode jdk_48_method_14_code 1 = .ok (.istore 5, 2) := by decide +kernel
theorem d13_3 : decode jdk_48_method_14_code 3 = .ok (.iload 4, 2) := by decide +kernel
theorem d13_5 : decode jdk_48_method_14_code 5 = .ok (.bipush 7, 2) := by decide +kernel
theorem d13_7 : decode jdk_48_method_14_code 7 = .ok (.if_icmp .le 63, 3) := by decide +kernel
theorem d13_70 : decode jdk_48_method_14_code 70 = .ok (.iload 5, 2) := by decide +kernel
theorem d13_72 : decode jdk_48_method_14_code 72 = .ok (.iload 4, 2) := by decide +kernel
theorem d13_74 : decode jdk_48_method_14_code 74 = .ok (.if_icmp .ge 27, 3) := by decide +kernel
theorem d13_77 : decode jdk_48_method_14_code 77 = .ok (.aload_n 0, 1) := by decide +kernel
theorem d13_78 : decode jdk_48_method_14_code 78 = .ok (.iload_n 1, 1) := by decide +kernel
theorem d13_79 : decode jdk_48_method_14_code 79 = .ok (.iload 5, 2) := by decide +kernel
theorem d13_81 : decode jdk_48_method_14_code 81 = .ok (.iadd, 1) := by decide +kernel
theorem d13_82 : decode jdk_48_method_14_code 82 = .ok (.baload, 1) := by decide +kernel
theorem d13_83 : decode jdk_48_method_14_code 83 = .ok (.aload_n 2, 1) := by decide +kernel
theorem d13_84 : decode jdk_48_method_14_code 84 = .ok (.iload_n 3, 1) := by decide +kernel
theorem d13_85 : decode jdk_48_method_14_code 85 = .ok (.iload 5, 2) := by decide +kernel
theorem d13_87 : decode jdk_48_method_14_code 87 = .ok (.iadd, 1) := by decide +kernel
theorem d13_88 : decode jdk_48_method_14_code 88 = .ok (.baload, 1) := by decide +kernel
theorem d13_89 : decode jdk_48_method_14_code 89 = .ok (.if_icmp .eq 6, 3) := by decide +kernel
theorem d13_92 : decode jdk_48_method_14_code 92 = .ok (.iload 5, 2) := by decide +kernel
theorem d13_94 : decode jdk_48_method_14_code 94 = .ok (.ireturn, 1) := by decide +kernel
theorem d13_95 : decode jdk_48_method_14_code 95 = .ok (.iinc 5 1, 3) := by decide +kernel
theorem d13_98 : decode jdk_48_method_14_code 98 = .ok (.goto (-28), 3) := by decide +kernel
theorem d13_101 : decode jdk_48_method_14_code 101 = .ok (.iconst (-1), 1) := by decide +kernel
theorem d13_102 : decode jdk_48_method_14_code 102 = .ok (.ireturn, 1) := by decide +kernel
theorem pn_13 : plainName "jdk/internal/util/ArraysSupport" = true := by first | (simp [plainName, overriddenIn]; done) | decide +kernel
theorem ef_13 (m : MethodId) (x0 : Addr) (x1 : Int32) (x2 : Addr) (x3 : Int32) (x4 : Int32) : entryFrame m #[(.ref x0), (.int x1), (.ref x2), (.int x3), (.int x4)] 8 = mkF m 0 #[.val (.ref x0), .val (.int x1), .val (.ref x2), .val (.int x3), .val (.int x4), .unset, .unset, .unset] [] := by first | (simp [entryFrame, mkF, argsToLocals, Value.category]; done) | rfl
def Q13 (Z : State) (a : Addr) (ai' : Int32) (b : Addr) (bi' : Int32) (len' : Int32) (na' nb' : Int32) (f' g' : Nat → Int32) (h0 : Heap) (n0 : Nat) (v : Option Value) (h : Heap) (L : List Loc) : Prop := v = some (.int (own_mm f' g' ai' bi' len')) ∧ Fr n0 L ∧ h = h0
set_option maxRecDepth 65536 in
set_option maxHeartbeats 40000000 in
theorem rm13 (l : Launch) (Z : State) (a0 : Array Value) (hw : ∀ d ∈ tables_1, d.before a0 Z = true) (ws : List Jvm.Cond) (a : Addr) (ai' : Int32) (b : Addr) (bi' : Int32) (len' : Int32) (na' nb' : Int32) (f' g' : Nat → Int32) (h0 : Heap) (n0 : Nat) (Z0 : n0 ≤ h0.size) (V_a : own_A Z h0 a .byte na' f') (V_b : own_A Z h0 b .byte nb' g') (h1 : 0 ≤ ai'.toInt) (h2 : ai'.toInt + len'.toInt ≤ na'.toInt) (h3 : 0 ≤ bi'.toInt) (h4 : bi'.toInt + len'.toInt ≤ nb'.toInt) (h5 : len'.toInt ≤ 4) :
    MetFree l (⟨"jdk/internal/util/ArraysSupport", "mismatch", "([BI[BII)I"⟩ : MethodName) (head1 (Jvm.Cond.code (⟨"jdk/internal/util/ArraysSupport", "mismatch", "([BI[BII)I"⟩ : MethodName) jdk_48_method_14_code 8 (some .int) :: ws) ({ frames := 0, cells := 0, slots := 0, locals := 0 } : Room)) (fun ar U => ar = #[(.ref a), (.int ai'), (.ref b), (.int bi'), (.int len')] ∧ Z.Warmed39 U.vm ∧ U.heap = h0) (fun _ _ _ _ _ => True) (fun _ U o U' => ∃ v L, o = .returned v ∧ Q13 Z a ai' b bi' len' na' nb' f' g' h0 n0 v U'.heap L ∧ FrameEnd U o U' L ({ frames := 0, cells := 0, slots := 0, locals := 0 } : Room).cells ({ frames := 0, cells := 0, slots := 0, locals := 0 } : Room).slots) := by
  refine MetFree.of_bodySF (plainFor_of_name pn_13) hisR ?_
  intro p e s m args below meth c s₁ Bd hml0 hP hK
  obtain ⟨rfl, hZ, hh⟩ := hP
  have hx := Bd.exec
  have hby := Bd.bytes
  have hml : c.maxLocals = 8 := hml0
  have hown : s.vm.findClass "jdk/internal/util/ArraysSupport" = some m.cls := findClass_of_methodNamed Bd.named
  have hnm := (name_of_methodNamed Bd.named Bd.method).1
  have X0 : Stand p l e ({ frames := 0, cells := 0, slots := 0, locals := 0 } : Room) s m #[(.ref a), (.int ai'), (.ref b), (.int bi'), (.int len')] below meth c s₁ [] 0 0 := Stand.of_body Bd
  have e0 : s₁.heap = h0 := by rw [← hh, Bd.state]; rfl
  have N0 := Fr.nil n0
  have K0 : Keep h0 h0 [] := Keep.refl h0 _
  have pre0 : ∀ t, Steps p.tables e below (s₁.setTop (mkF m 0 #[.val (.ref a), .val (.int ai'), .val (.ref b), .val (.int bi'), .val (.int len'), .unset, .unset, .unset] [])) t → Steps p.tables e below (s₁.setTop (entryFrame m #[(.ref a), (.int ai'), (.ref b), (.int bi'), (.int len')] 8)) t := fun t k => castTop (ef_13 m a ai' b bi' len') k
  have pre1 : ∀ t, Steps p.tables e below (s₁.setTop (mkF m 74 #[.val (.ref a), .val (.int ai'), .val (.ref b), .val (.int bi'), .val (.int len'), .val (.int (0 : Int32)), .unset, .unset] [(.int len'), (.int (0 : Int32))])) t → Steps p.tables e below (s₁.setTop (entryFrame m #[(.ref a), (.int ai'), (.ref b), (.int bi'), (.int len')] 8)) t := by
    intro t kt
    refine pre0 t ?_
    show Steps p.tables e below (s₁.setTop (mkF m 0 #[.val (.ref a), .val (.int ai'), .val (.ref b), .val (.int bi'), .val (.int len'), .unset, .unset, .unset] [])) _
    refine XS.iconst X0.here hx rfl (hb hby d13_0) ?_
    show Steps p.tables e below (s₁.setTop (mkF m 1 #[.val (.ref a), .val (.int ai'), .val (.ref b), .val (.int bi'), .val (.int len'), .unset, .unset, .unset] [(.int (0 : Int32))])) _
    refine XS.istore X0.here hx rfl (hb hby d13_1) rfl (l' := #[.val (.ref a), .val (.int ai'), .val (.ref b), .val (.int bi'), .val (.int len'), .val (.int (0 : Int32)), .unset, .unset]) rfl ?_
    show Steps p.tables e below (s₁.setTop (mkF m 3 #[.val (.ref a), .val (.int ai'), .val (.ref b), .val (.int bi'), .val (.int len'), .val (.int (0 : Int32)), .unset, .unset] [])) _
    refine XS.iload X0.here hx rfl (hb hby d13_3) rfl ?_
    show Steps p.tables e below (s₁.setTop (mkF m 5 #[.val (.ref a), .val (.int ai'), .val (.ref b), .val (.int bi'), .val (.int len'), .val (.int (0 : Int32)), .unset, .unset] [(.int len')])) _
    refine XS.bipush X0.here hx rfl (hb hby d13_5) ?_
    show Steps p.tables e below (s₁.setTop (mkF m 7 #[.val (.ref a), .val (.int ai'), .val (.ref b), .val (.int bi'), .val (.int len'), .val (.int (0 : Int32)), .unset, .unset] [(.int (7 : Int32)), (.int len')])) _
    refine XS.icmpYes X0.here hx rfl (pc0 := 7) (pc' := 70) rfl (hb hby d13_7) rfl (flt (own_nlt (by rw [show (7 : Int32).toInt = 7 from rfl]; omega))).2.2.2 (by decide) (by decide) ?_
    show Steps p.tables e below (s₁.setTop (mkF m 70 #[.val (.ref a), .val (.int ai'), .val (.ref b), .val (.int bi'), .val (.int len'), .val (.int (0 : Int32)), .unset, .unset] [])) _
    refine XS.iload X0.here hx rfl (hb hby d13_70) rfl ?_
    show Steps p.tables e below (s₁.setTop (mkF m 72 #[.val (.ref a), .val (.int ai'), .val (.ref b), .val (.int bi'), .val (.int len'), .val (.int (0 : Int32)), .unset, .unset] [(.int (0 : Int32))])) _
    refine XS.iload X0.here hx rfl (hb hby d13_72) rfl ?_
    exact kt
  by_cases hc74_2 : (0 : Int32) < len'
  · obtain ⟨cl823, Ar823, S823, M823, H823⟩ := id V_a
    have hin823 : ¬ ((ai' + (0 : Int32)) < 0 ∨ cl823.slots.size ≤ ((ai' + (0 : Int32))).toNatClampNeg) := inb_of S823 (own_ix h1 h2 (by decide) hc74_2)
    have hat823 := own_A.at S823 H823 hin823
    obtain ⟨cl884, Ar884, S884, M884, H884⟩ := id V_b
    have hin884 : ¬ ((bi' + (0 : Int32)) < 0 ∨ cl884.slots.size ≤ ((bi' + (0 : Int32))).toNatClampNeg) := inb_of S884 (own_ix h3 h4 (by decide) hc74_2)
    have hat884 := own_A.at S884 H884 hin884
    have pre5 : ∀ t, Steps p.tables e below (s₁.setTop (mkF m 89 #[.val (.ref a), .val (.int ai'), .val (.ref b), .val (.int bi'), .val (.int len'), .val (.int (0 : Int32)), .unset, .unset] [(.int (g' ((bi' + (0 : Int32))).toNatClampNeg)), (.int (f' ((ai' + (0 : Int32))).toNatClampNeg))])) t → Steps p.tables e below (s₁.setTop (entryFrame m #[(.ref a), (.int ai'), (.ref b), (.int bi'), (.int len')] 8)) t := by
      intro t kt
      refine pre1 t ?_
      show Steps p.tables e below (s₁.setTop (mkF m 74 #[.val (.ref a), .val (.int ai'), .val (.ref b), .val (.int bi'), .val (.int len'), .val (.int (0 : Int32)), .unset, .unset] [(.int len'), (.int (0 : Int32))])) _
      refine XS.icmpNo X0.here hx rfl (hb hby d13_74) rfl (tlt hc74_2).2.1 ?_
      show Steps p.tables e below (s₁.setTop (mkF m 77 #[.val (.ref a), .val (.int ai'), .val (.ref b), .val (.int bi'), .val (.int len'), .val (.int (0 : Int32)), .unset, .unset] [])) _
      refine XS.aloadN X0.here hx rfl (hb hby d13_77) rfl rfl ?_
      show Steps p.tables e below (s₁.setTop (mkF m 78 #[.val (.ref a), .val (.int ai'), .val (.ref b), .val (.int bi'), .val (.int len'), .val (.int (0 : Int32)), .unset, .unset] [(.ref a)])) _
      refine XS.iloadN X0.here hx rfl (hb hby d13_78) rfl ?_
      show Steps p.tables e below (s₁.setTop (mkF m 79 #[.val (.ref a), .val (.int ai'), .val (.ref b), .val (.int bi'), .val (.int len'), .val (.int (0 : Int32)), .unset, .unset] [(.int ai'), (.ref a)])) _
      refine XS.iload X0.here hx rfl (hb hby d13_79) rfl ?_
      show Steps p.tables e below (s₁.setTop (mkF m 81 #[.val (.ref a), .val (.int ai'), .val (.ref b), .val (.int bi'), .val (.int len'), .val (.int (0 : Int32)), .unset, .unset] [(.int (0 : Int32)), (.int ai'), (.ref a)])) _
      refine XS.iadd X0.here hx rfl (hb hby d13_81) rfl ?_
      show Steps p.tables e below (s₁.setTop (mkF m 82 #[.val (.ref a), .val (.int ai'), .val (.ref b), .val (.int bi'), .val (.int len'), .val (.int (0 : Int32)), .unset, .unset] [(.int (ai' + (0 : Int32))), (.ref a)])) _
      refine X0.baloadBytes hx (j := (ai' + (0 : Int32))) (v := (.int (f' ((ai' + (0 : Int32))).toNatClampNeg))) (by rw [e0]; exact Ar823.1) (State.isArrayOf_alike hZ.alike Ar823.2.1) Ar823.2.2 hin823 hat823 (g := (mkF m 82 #[.val (.ref a), .val (.int ai'), .val (.ref b), .val (.int bi'), .val (.int len'), .val (.int (0 : Int32)), .unset, .unset] [(.int (ai' + (0 : Int32))), (.ref a)])) rfl rfl (hb hby d13_82) _ ?_
      show Steps p.tables e below (s₁.setTop (mkF m 83 #[.val (.ref a), .val (.int ai'), .val (.ref b), .val (.int bi'), .val (.int len'), .val (.int (0 : Int32)), .unset, .unset] [(.int (f' ((ai' + (0 : Int32))).toNatClampNeg))])) _
      refine XS.aloadN X0.here hx rfl (hb hby d13_83) rfl rfl ?_
      show Steps p.tables e below (s₁.setTop (mkF m 84 #[.val (.ref a), .val (.int ai'), .val (.ref b), .val (.int bi'), .val (.int len'), .val (.int (0 : Int32)), .unset, .unset] [(.ref b), (.int (f' ((ai' + (0 : Int32))).toNatClampNeg))])) _
      refine XS.iloadN X0.here hx rfl (hb hby d13_84) rfl ?_
      show Steps p.tables e below (s₁.setTop (mkF m 85 #[.val (.ref a), .val (.int ai'), .val (.ref b), .val (.int bi'), .val (.int len'), .val (.int (0 : Int32)), .unset, .unset] [(.int bi'), (.ref b), (.int (f' ((ai' + (0 : Int32))).toNatClampNeg))])) _
      refine XS.iload X0.here hx rfl (hb hby d13_85) rfl ?_
      show Steps p.tables e below (s₁.setTop (mkF m 87 #[.val (.ref a), .val (.int ai'), .val (.ref b), .val (.int bi'), .val (.int len'), .val (.int (0 : Int32)), .unset, .unset] [(.int (0 : Int32)), (.int bi'), (.ref b), (.int (f' ((ai' + (0 : Int32))).toNatClampNeg))])) _
      refine XS.iadd X0.here hx rfl (hb hby d13_87) rfl ?_
      show Steps p.tables e below (s₁.setTop (mkF m 88 #[.val (.ref a), .val (.int ai'), .val (.ref b), .val (.int bi'), .val (.int len'), .val (.int (0 : Int32)), .unset, .unset] [(.int (bi' + (0 : Int32))), (.ref b), (.int (f' ((ai' + (0 : Int32))).toNatClampNeg))])) _
      refine X0.baloadBytes hx (j := (bi' + (0 : Int32))) (v := (.int (g' ((bi' + (0 : Int32))).toNatClampNeg))) (by rw [e0]; exact Ar884.1) (State.isArrayOf_alike hZ.alike Ar884.2.1) Ar884.2.2 hin884 hat884 (g := (mkF m 88 #[.val (.ref a), .val (.int ai'), .val (.ref b), .val (.int bi'), .val (.int len'), .val (.int (0 : Int32)), .unset, .unset] [(.int (bi' + (0 : Int32))), (.ref b), (.int (f' ((ai' + (0 : Int32))).toNatClampNeg))])) rfl rfl (hb hby d13_88) _ ?_
      exact kt
    by_cases hc89_6 : (f' ((ai' + (0 : Int32))).toNatClampNeg) = (g' ((bi' + (0 : Int32))).toNatClampNeg)
    · have pre7 : ∀ t, Steps p.tables e below (s₁.setTop (mkF m 74 #[.val (.ref a), .val (.int ai'), .val (.ref b), .val (.int bi'), .val (.int len'), .val (.int (1 : Int32)), .unset, .unset] [(.int len'), (.int (1 : Int32))])) t → Steps p.tables e below (s₁.setTop (entryFrame m #[(.ref a), (.int ai'), (.ref b), (.int bi'), (.int len')] 8)) t := by
        intro t kt
        refine pre5 t ?_
        show Steps p.tables e below (s₁.setTop (mkF m 89 #[.val (.ref a), .val (.int ai'), .val (.ref b), .val (.int bi'), .val (.int len'), .val (.int (0 : Int32)), .unset, .unset] [(.int (g' ((bi' + (0 : Int32))).toNatClampNeg)), (.int (f' ((ai' + (0 : Int32))).toNatClampNeg))])) _
        refine XS.icmpYes X0.here hx rfl (pc0 := 89) (pc' := 95) rfl (hb hby d13_89) rfl (teq hc89_6).1 (by decide) (by decide) ?_
        show Steps p.tables e below (s₁.setTop (mkF m 95 #[.val (.ref a), .val (.int ai'), .val (.ref b), .val (.int bi'), .val (.int len'), .val (.int (0 : Int32)), .unset, .unset] [])) _
        refine XS.iinc X0.here hx rfl (hb hby d13_95) rfl (l' := #[.val (.ref a), .val (.int ai'), .val (.ref b), .val (.int bi'), .val (.int len'), .val (.int (1 : Int32)), .unset, .unset]) rfl ?_
        show Steps p.tables e below (s₁.setTop (mkF m 98 #[.val (.ref a), .val (.int ai'), .val (.ref b), .val (.int bi'), .val (.int len'), .val (.int (1 : Int32)), .unset, .unset] [])) _
        refine XS.goto X0.here hx rfl (pc0 := 98) (pc' := 70) rfl (hb hby d13_98) (by decide) (by decide) ?_
        show Steps p.tables e below (s₁.setTop (mkF m 70 #[.val (.ref a), .val (.int ai'), .val (.ref b), .val (.int bi'), .val (.int len'), .val (.int (1 : Int32)), .unset, .unset] [])) _
        refine XS.iload X0.here hx rfl (hb hby d13_70) rfl ?_
        show Steps p.tables e below (s₁.setTop (mkF m 72 #[.val (.ref a), .val (.int ai'), .val (.ref b), .val (.int bi'), .val (.int len'), .val (.int (1 : Int32)), .unset, .unset] [(.int (1 : Int32))])) _
        refine XS.iload X0.here hx rfl (hb hby d13_72) rfl ?_
        exact kt
      by_cases hc74_8 : (1 : Int32) < len'
      · obtain ⟨cl829, Ar829, S829, M829, H829⟩ := id V_a
        have hin829 : ¬ ((ai' + (1 : Int32)) < 0 ∨ cl829.slots.size ≤ ((ai' + (1 : Int32))).toNatClampNeg) := inb_of S829 (own_ix h1 h2 (by decide) hc74_8)
        have hat829 := own_A.at S829 H829 hin829
        obtain ⟨cl8810, Ar8810, S8810, M8810, H8810⟩ := id V_b
        have hin8810 : ¬ ((bi' + (1 : Int32)) < 0 ∨ cl8810.slots.size ≤ ((bi' + (1 : Int32))).toNatClampNeg) := inb_of S8810 (own_ix h3 h4 (by decide) hc74_8)
        have hat8810 := own_A.at S8810 H8810 hin8810
        have pre11 : ∀ t, Steps p.tables e below (s₁.setTop (mkF m 89 #[.val (.ref a), .val (.int ai'), .val (.ref b), .val (.int bi'), .val (.int len'), .val (.int (1 : Int32)), .unset, .unset] [(.int (g' ((bi' + (1 : Int32))).toNatClampNeg)), (.int (f' ((ai' + (1 : Int32))).toNatClampNeg))])) t → Steps p.tables e below (s₁.setTop (entryFrame m #[(.ref a), (.int ai'), (.ref b), (.int bi'), (.int len')] 8)) t := by
          intro t kt
          refine pre7 t ?_
          show Steps p.tables e below (s₁.setTop (mkF m 74 #[.val (.ref a), .val (.int ai'), .val (.ref b), .val (.int bi'), .val (.int len'), .val (.int (1 : Int32)), .unset, .unset] [(.int len'), (.int (1 : Int32))])) _
          refine XS.icmpNo X0.here hx rfl (hb hby d13_74) rfl (tlt hc74_8).2.1 ?_
          show Steps p.tables e below (s₁.setTop (mkF m 77 #[.val (.ref a), .val (.int ai'), .val (.ref b), .val (.int bi'), .val (.int len'), .val (.int (1 : Int32)), .unset, .unset] [])) _
          refine XS.aloadN X0.here hx rfl (hb hby d13_77) rfl rfl ?_
          show Steps p.tables e below (s₁.setTop (mkF m 78 #[.val (.ref a), .val (.int ai'), .val (.ref b), .val (.int bi'), .val (.int len'), .val (.int (1 : Int32)), .unset, .unset] [(.ref a)])) _
          refine XS.iloadN X0.here hx rfl (hb hby d13_78) rfl ?_
          show Steps p.tables e below (s₁.setTop (mkF m 79 #[.val (.ref a), .val (.int ai'), .val (.ref b), .val (.int bi'), .val (.int len'), .val (.int (1 : Int32)), .unset, .unset] [(.int ai'), (.ref a)])) _
          refine XS.iload X0.here hx rfl (hb hby d13_79) rfl ?_
          show Steps p.tables e below (s₁.setTop (mkF m 81 #[.val (.ref a), .val (.int ai'), .val (.ref b), .val (.int bi'), .val (.int len'), .val (.int (1 : Int32)), .unset, .unset] [(.int (1 : Int32)), (.int ai'), (.ref a)])) _
          refine XS.iadd X0.here hx rfl (hb hby d13_81) rfl ?_
          show Steps p.tables e below (s₁.setTop (mkF m 82 #[.val (.ref a), .val (.int ai'), .val (.ref b), .val (.int bi'), .val (.int len'), .val (.int (1 : Int32)), .unset, .unset] [(.int (ai' + (1 : Int32))), (.ref a)])) _
          refine X0.baloadBytes hx (j := (ai' + (1 : Int32))) (v := (.int (f' ((ai' + (1 : Int32))).toNatClampNeg))) (by rw [e0]; exact Ar829.1) (State.isArrayOf_alike hZ.alike Ar829.2.1) Ar829.2.2 hin829 hat829 (g := (mkF m 82 #[.val (.ref a), .val (.int ai'), .val (.ref b), .val (.int bi'), .val (.int len'), .val (.int (1 : Int32)), .unset, .unset] [(.int (ai' + (1 : Int32))), (.ref a)])) rfl rfl (hb hby d13_82) _ ?_
          show Steps p.tables e below (s₁.setTop (mkF m 83 #[.val (.ref a), .val (.int ai'), .val (.ref b), .val (.int bi'), .val (.int len'), .val (.int (1 : Int32)), .unset, .unset] [(.int (f' ((ai' + (1 : Int32))).toNatClampNeg))])) _
          refine XS.aloadN X0.here hx rfl (hb hby d13_83) rfl rfl ?_
          show Steps p.tables e below (s₁.setTop (mkF m 84 #[.val (.ref a), .val (.int ai'), .val (.ref b), .val (.int bi'), .val (.int len'), .val (.int (1 : Int32)), .unset, .unset] [(.ref b), (.int (f' ((ai' + (1 : Int32))).toNatClampNeg))])) _
          refine XS.iloadN X0.here hx rfl (hb hby d13_84) rfl ?_
          show Steps p.tables e below (s₁.setTop (mkF m 85 #[.val (.ref a), .val (.int ai'), .val (.ref b), .val (.int bi'), .val (.int len'), .val (.int (1 : Int32)), .unset, .unset] [(.int bi'), (.ref b), (.int (f' ((ai' + (1 : Int32))).toNatClampNeg))])) _
          refine XS.iload X0.here hx rfl (hb hby d13_85) rfl ?_
          show Steps p.tables e below (s₁.setTop (mkF m 87 #[.val (.ref a), .val (.int ai'), .val (.ref b), .val (.int bi'), .val (.int len'), .val (.int (1 : Int32)), .unset, .unset] [(.int (1 : Int32)), (.int bi'), (.ref b), (.int (f' ((ai' + (1 : Int32))).toNatClampNeg))])) _
          refine XS.iadd X0.here hx rfl (hb hby d13_87) rfl ?_
          show Steps p.tables e below (s₁.setTop (mkF m 88 #[.val (.ref a), .val (.int ai'), .val (.ref b), .val (.int bi'), .val (.int len'), .val (.int (1 : Int32)), .unset, .unset] [(.int (bi' + (1 : Int32))), (.ref b), (.int (f' ((ai' + (1 : Int32))).toNatClampNeg))])) _
          refine X0.baloadBytes hx (j := (bi' + (1 : Int32))) (v := (.int (g' ((bi' + (1 : Int32))).toNatClampNeg))) (by rw [e0]; exact Ar8810.1) (State.isArrayOf_alike hZ.alike Ar8810.2.1) Ar8810.2.2 hin8810 hat8810 (g := (mkF m 88 #[.val (.ref a), .val (.int ai'), .val (.ref b), .val (.int bi'), .val (.int len'), .val (.int (1 : Int32)), .unset, .unset] [(.int (bi' + (1 : Int32))), (.ref b), (.int (f' ((ai' + (1 : Int32))).toNatClampNeg))])) rfl rfl (hb hby d13_88) _ ?_
          exact kt
        by_cases hc89_12 : (f' ((ai' + (1 : Int32))).toNatClampNeg) = (g' ((bi' + (1 : Int32))).toNatClampNeg)
        · have pre13 : ∀ t, Steps p.tables e below (s₁.setTop (mkF m 74 #[.val (.ref a), .val (.int ai'), .val (.ref b), .val (.int bi'), .val (.int len'), .val (.int (2 : Int32)), .unset, .unset] [(.int len'), (.int (2 : Int32))])) t → Steps p.tables e below (s₁.setTop (entryFrame m #[(.ref a), (.int ai'), (.ref b), (.int bi'), (.int len')] 8)) t := by
            intro t kt
            refine pre11 t ?_
            show Steps p.tables e below (s₁.setTop (mkF m 89 #[.val (.ref a), .val (.int ai'), .val (.ref b), .val (.int bi'), .val (.int len'), .val (.int (1 : Int32)), .unset, .unset] [(.int (g' ((bi' + (1 : Int32))).toNatClampNeg)), (.int (f' ((ai' + (1 : Int32))).toNatClampNeg))])) _
            refine XS.icmpYes X0.here hx rfl (pc0 := 89) (pc' := 95) rfl (hb hby d13_89) rfl (teq hc89_12).1 (by decide) (by decide) ?_
            show Steps p.tables e below (s₁.setTop (mkF m 95 #[.val (.ref a), .val (.int ai'), .val (.ref b), .val (.int bi'), .val (.int len'), .val (.int (1 : Int32)), .unset, .unset] [])) _
            refine XS.iinc X0.here hx rfl (hb hby d13_95) rfl (l' := #[.val (.ref a), .val (.int ai'), .val (.ref b), .val (.int bi'), .val (.int len'), .val (.int (2 : Int32)), .unset, .unset]) rfl ?_
            show Steps p.tables e below (s₁.setTop (mkF m 98 #[.val (.ref a), .val (.int ai'), .val (.ref b), .val (.int bi'), .val (.int len'), .val (.int (2 : Int32)), .unset, .unset] [])) _
            refine XS.goto X0.here hx rfl (pc0 := 98) (pc' := 70) rfl (hb hby d13_98) (by decide) (by decide) ?_
            show Steps p.tables e below (s₁.setTop (mkF m 70 #[.val (.ref a), .val (.int ai'), .val (.ref b), .val (.int bi'), .val (.int len'), .val (.int (2 : Int32)), .unset, .unset] [])) _
            refine XS.iload X0.here hx rfl (hb hby d13_70) rfl ?_
            show Steps p.tables e below (s₁.setTop (mkF m 72 #[.val (.ref a), .val (.int ai'), .val (.ref b), .val (.int bi'), .val (.int len'), .val (.int (2 : Int32)), .unset, .unset] [(.int (2 : Int32))])) _
            refine XS.iload X0.here hx rfl (hb hby d13_72) rfl ?_
            exact kt
          by_cases hc74_14 : (2 : Int32) < len'
          · obtain ⟨cl8215, Ar8215, S8215, M8215, H8215⟩ := id V_a
            have hin8215 : ¬ ((ai' + (2 : Int32)) < 0 ∨ cl8215.slots.size ≤ ((ai' + (2 : Int32))).toNatClampNeg) := inb_of S8215 (own_ix h1 h2 (by decide) hc74_14)
            have hat8215 := own_A.at S8215 H8215 hin8215
            obtain ⟨cl8816, Ar8816, S8816, M8816, H8816⟩ := id V_b
            have hin8816 : ¬ ((bi' + (2 : Int32)) < 0 ∨ cl8816.slots.size ≤ ((bi' + (2 : Int32))).toNatClampNeg) := inb_of S8816 (own_ix h3 h4 (by decide) hc74_14)
            have hat8816 := own_A.at S8816 H8816 hin8816
            have pre17 : ∀ t, Steps p.tables e below (s₁.setTop (mkF m 89 #[.val (.ref a), .val (.int ai'), .val (.ref b), .val (.int bi'), .val (.int len'), .val (.int (2 : Int32)), .unset, .unset] [(.int (g' ((bi' + (2 : Int32))).toNatClampNeg)), (.int (f' ((ai' + (2 : Int32))).toNatClampNeg))])) t → Steps p.tables e below (s₁.setTop (entryFrame m #[(.ref a), (.int ai'), (.ref b), (.int bi'), (.int len')] 8)) t := by
              intro t kt
              refine pre13 t ?_
              show Steps p.tables e below (s₁.setTop (mkF m 74 #[.val (.ref a), .val (.int ai'), .val (.ref b), .val (.int bi'), .val (.int len'), .val (.int (2 : Int32)), .unset, .unset] [(.int len'), (.int (2 : Int32))])) _
              refine XS.icmpNo X0.here hx rfl (hb hby d13_74) rfl (tlt hc74_14).2.1 ?_
              show Steps p.tables e below (s₁.setTop (mkF m 77 #[.val (.ref a), .val (.int ai'), .val (.ref b), .val (.int bi'), .val (.int len'), .val (.int (2 : Int32)), .unset, .unset] [])) _
              refine XS.aloadN X0.here hx rfl (hb hby d13_77) rfl rfl ?_
              show Steps p.tables e below (s₁.setTop (mkF m 78 #[.val (.ref a), .val (.int ai'), .val (.ref b), .val (.int bi'), .val (.int len'), .val (.int (2 : Int32)), .unset, .unset] [(.ref a)])) _
              refine XS.iloadN X0.here hx rfl (hb hby d13_78) rfl ?_
              show Steps p.tables e below (s₁.setTop (mkF m 79 #[.val (.ref a), .val (.int ai'), .val (.ref b), .val (.int bi'), .val (.int len'), .val (.int (2 : Int32)), .unset, .unset] [(.int ai'), (.ref a)])) _
              refine XS.iload X0.here hx rfl (hb hby d13_79) rfl ?_
              show Steps p.tables e below (s₁.setTop (mkF m 81 #[.val (.ref a), .val (.int ai'), .val (.ref b), .val (.int bi'), .val (.int len'), .val (.int (2 : Int32)), .unset, .unset] [(.int (2 : Int32)), (.int ai'), (.ref a)])) _
              refine XS.iadd X0.here hx rfl (hb hby d13_81) rfl ?_
              show Steps p.tables e below (s₁.setTop (mkF m 82 #[.val (.ref a), .val (.int ai'), .val (.ref b), .val (.int bi'), .val (.int len'), .val (.int (2 : Int32)), .unset, .unset] [(.int (ai' + (2 : Int32))), (.ref a)])) _
              refine X0.baloadBytes hx (j := (ai' + (2 : Int32))) (v := (.int (f' ((ai' + (2 : Int32))).toNatClampNeg))) (by rw [e0]; exact Ar8215.1) (State.isArrayOf_alike hZ.alike Ar8215.2.1) Ar8215.2.2 hin8215 hat8215 (g := (mkF m 82 #[.val (.ref a), .val (.int ai'), .val (.ref b), .val (.int bi'), .val (.int len'), .val (.int (2 : Int32)), .unset, .unset] [(.int (ai' + (2 : Int32))), (.ref a)])) rfl rfl (hb hby d13_82) _ ?_
              show Steps p.tables e below (s₁.setTop (mkF m 83 #[.val (.ref a), .val (.int ai'), .val (.ref b), .val (.int bi'), .val (.int len'), .val (.int (2 : Int32)), .unset, .unset] [(.int (f' ((ai' + (2 : Int32))).toNatClampNeg))])) _
              refine XS.aloadN X0.here hx rfl (hb hby d13_83) rfl rfl ?_
              show Steps p.tables e below (s₁.setTop (mkF m 84 #[.val (.ref a), .val (.int ai'), .val (.ref b), .val (.int bi'), .val (.int len'), .val (.int (2 : Int32)), .unset, .unset] [(.ref b), (.int (f' ((ai' + (2 : Int32))).toNatClampNeg))])) _
              refine XS.iloadN X0.here hx rfl (hb hby d13_84) rfl ?_
              show Steps p.tables e below (s₁.setTop (mkF m 85 #[.val (.ref a), .val (.int ai'), .val (.ref b), .val (.int bi'), .val (.int len'), .val (.int (2 : Int32)), .unset, .unset] [(.int bi'), (.ref b), (.int (f' ((ai' + (2 : Int32))).toNatClampNeg))])) _
              refine XS.iload X0.here hx rfl (hb hby d13_85) rfl ?_
              show Steps p.tables e below (s₁.setTop (mkF m 87 #[.val (.ref a), .val (.int ai'), .val (.ref b), .val (.int bi'), .val (.int len'), .val (.int (2 : Int32)), .unset, .unset] [(.int (2 : Int32)), (.int bi'), (.ref b), (.int (f' ((ai' + (2 : Int32))).toNatClampNeg))])) _
              refine XS.iadd X0.here hx rfl (hb hby d13_87) rfl ?_
              show Steps p.tables e below (s₁.setTop (mkF m 88 #[.val (.ref a), .val (.int ai'), .val (.ref b), .val (.int bi'), .val (.int len'), .val (.int (2 : Int32)), .unset, .unset] [(.int (bi' + (2 : Int32))), (.ref b), (.int (f' ((ai' + (2 : Int32))).toNatClampNeg))])) _
              refine X0.baloadBytes hx (j := (bi' + (2 : Int32))) (v := (.int (g' ((bi' + (2 : Int32))).toNatClampNeg))) (by rw [e0]; exact Ar8816.1) (State.isArrayOf_alike hZ.alike Ar8816.2.1) Ar8816.2.2 hin8816 hat8816 (g := (mkF m 88 #[.val (.ref a), .val (.int ai'), .val (.ref b), .val (.int bi'), .val (.int len'), .val (.int (2 : Int32)), .unset, .unset] [(.int (bi' + (2 : Int32))), (.ref b), (.int (f' ((ai' + (2 : Int32))).toNatClampNeg))])) rfl rfl (hb hby d13_88) _ ?_
              exact kt
            by_cases hc89_18 : (f' ((ai' + (2 : Int32))).toNatClampNeg) = (g' ((bi' + (2 : Int32))).toNatClampNeg)
            · have pre19 : ∀ t, Steps p.tables e below (s₁.setTop (mkF m 74 #[.val (.ref a), .val (.int ai'), .val (.ref b), .val (.int bi'), .val (.int len'), .val (.int (3 : Int32)), .unset, .unset] [(.int len'), (.int (3 : Int32))])) t → Steps p.tables e below (s₁.setTop (entryFrame m #[(.ref a), (.int ai'), (.ref b), (.int bi'), (.int len')] 8)) t := by
                intro t kt
                refine pre17 t ?_
                show Steps p.tables e below (s₁.setTop (mkF m 89 #[.val (.ref a), .val (.int ai'), .val (.ref b), .val (.int bi'), .val (.int len'), .val (.int (2 : Int32)), .unset, .unset] [(.int (g' ((bi' + (2 : Int32))).toNatClampNeg)), (.int (f' ((ai' + (2 : Int32))).toNatClampNeg))])) _
                refine XS.icmpYes X0.here hx rfl (pc0 := 89) (pc' := 95) rfl (hb hby d13_89) rfl (teq hc89_18).1 (by decide) (by decide) ?_
                show Steps p.tables e below (s₁.setTop (mkF m 95 #[.val (.ref a), .val (.int ai'), .val (.ref b), .val (.int bi'), .val (.int len'), .val (.int (2 : Int32)), .unset, .unset] [])) _
                refine XS.iinc X0.here hx rfl (hb hby d13_95) rfl (l' := #[.val (.ref a), .val (.int ai'), .val (.ref b), .val (.int bi'), .val (.int len'), .val (.int (3 : Int32)), .unset, .unset]) rfl ?_
                show Steps p.tables e below (s₁.setTop (mkF m 98 #[.val (.ref a), .val (.int ai'), .val (.ref b), .val (.int bi'), .val (.int len'), .val (.int (3 : Int32)), .unset, .unset] [])) _
                refine XS.goto X0.here hx rfl (pc0 := 98) (pc' := 70) rfl (hb hby d13_98) (by decide) (by decide) ?_
                show Steps p.tables e below (s₁.setTop (mkF m 70 #[.val (.ref a), .val (.int ai'), .val (.ref b), .val (.int bi'), .val (.int len'), .val (.int (3 : Int32)), .unset, .unset] [])) _
                refine XS.iload X0.here hx rfl (hb hby d13_70) rfl ?_
                show Steps p.tables e below (s₁.setTop (mkF m 72 #[.val (.ref a), .val (.int ai'), .val (.ref b), .val (.int bi'), .val (.int len'), .val (.int (3 : Int32)), .unset, .unset] [(.int (3 : Int32))])) _
                refine XS.iload X0.here hx rfl (hb hby d13_72) rfl ?_
                exact kt
              by_cases hc74_20 : (3 : Int32) < len'
              · obtain ⟨cl8221, Ar8221, S8221, M8221, H8221⟩ := id V_a
                have hin8221 : ¬ ((ai' + (3 : Int32)) < 0 ∨ cl8221.slots.size ≤ ((ai' + (3 : Int32))).toNatClampNeg) := inb_of S8221 (own_ix h1 h2 (by decide) hc74_20)
                have hat8221 := own_A.at S8221 H8221 hin8221
                obtain ⟨cl8822, Ar8822, S8822, M8822, H8822⟩ := id V_b
                have hin8822 : ¬ ((bi' + (3 : Int32)) < 0 ∨ cl8822.slots.size ≤ ((bi' + (3 : Int32))).toNatClampNeg) := inb_of S8822 (own_ix h3 h4 (by decide) hc74_20)
                have hat8822 := own_A.at S8822 H8822 hin8822
                have pre23 : ∀ t, Steps p.tables e below (s₁.setTop (mkF m 89 #[.val (.ref a), .val (.int ai'), .val (.ref b), .val (.int bi'), .val (.int len'), .val (.int (3 : Int32)), .unset, .unset] [(.int (g' ((bi' + (3 : Int32))).toNatClampNeg)), (.int (f' ((ai' + (3 : Int32))).toNatClampNeg))])) t → Steps p.tables e below (s₁.setTop (entryFrame m #[(.ref a), (.int ai'), (.ref b), (.int bi'), (.int len')] 8)) t := by
                  intro t kt
                  refine pre19 t ?_
                  show Steps p.tables e below (s₁.setTop (mkF m 74 #[.val (.ref a), .val (.int ai'), .val (.ref b), .val (.int bi'), .val (.int len'), .val (.int (3 : Int32)), .unset, .unset] [(.int len'), (.int (3 : Int32))])) _
                  refine XS.icmpNo X0.here hx rfl (hb hby d13_74) rfl (tlt hc74_20).2.1 ?_
                  show Steps p.tables e below (s₁.setTop (mkF m 77 #[.val (.ref a), .val (.int ai'), .val (.ref b), .val (.int bi'), .val (.int len'), .val (.int (3 : Int32)), .unset, .unset] [])) _
                  refine XS.aloadN X0.here hx rfl (hb hby d13_77) rfl rfl ?_
                  show Steps p.tables e below (s₁.setTop (mkF m 78 #[.val (.ref a), .val (.int ai'), .val (.ref b), .val (.int bi'), .val (.int len'), .val (.int (3 : Int32)), .unset, .unset] [(.ref a)])) _
                  refine XS.iloadN X0.here hx rfl (hb hby d13_78) rfl ?_
                  show Steps p.tables e below (s₁.setTop (mkF m 79 #[.val (.ref a), .val (.int ai'), .val (.ref b), .val (.int bi'), .val (.int len'), .val (.int (3 : Int32)), .unset, .unset] [(.int ai'), (.ref a)])) _
                  refine XS.iload X0.here hx rfl (hb hby d13_79) rfl ?_
                  show Steps p.tables e below (s₁.setTop (mkF m 81 #[.val (.ref a), .val (.int ai'), .val (.ref b), .val (.int bi'), .val (.int len'), .val (.int (3 : Int32)), .unset, .unset] [(.int (3 : Int32)), (.int ai'), (.ref a)])) _
                  refine XS.iadd X0.here hx rfl (hb hby d13_81) rfl ?_
                  show Steps p.tables e below (s₁.setTop (mkF m 82 #[.val (.ref a), .val (.int ai'), .val (.ref b), .val (.int bi'), .val (.int len'), .val (.int (3 : Int32)), .unset, .unset] [(.int (ai' + (3 : Int32))), (.ref a)])) _
                  refine X0.baloadBytes hx (j := (ai' + (3 : Int32))) (v := (.int (f' ((ai' + (3 : Int32))).toNatClampNeg))) (by rw [e0]; exact Ar8221.1) (State.isArrayOf_alike hZ.alike Ar8221.2.1) Ar8221.2.2 hin8221 hat8221 (g := (mkF m 82 #[.val (.ref a), .val (.int ai'), .val (.ref b), .val (.int bi'), .val (.int len'), .val (.int (3 : Int32)), .unset, .unset] [(.int (ai' + (3 : Int32))), (.ref a)])) rfl rfl (hb hby d13_82) _ ?_
                  show Steps p.tables e below (s₁.setTop (mkF m 83 #[.val (.ref a), .val (.int ai'), .val (.ref b), .val (.int bi'), .val (.int len'), .val (.int (3 : Int32)), .unset, .unset] [(.int (f' ((ai' + (3 : Int32))).toNatClampNeg))])) _
                  refine XS.aloadN X0.here hx rfl (hb hby d13_83) rfl rfl ?_
                  show Steps p.tables e below (s₁.setTop (mkF m 84 #[.val (.ref a), .val (.int ai'), .val (.ref b), .val (.int bi'), .val (.int len'), .val (.int (3 : Int32)), .unset, .unset] [(.ref b), (.int (f' ((ai' + (3 : Int32))).toNatClampNeg))])) _
                  refine XS.iloadN X0.here hx rfl (hb hby d13_84) rfl ?_
                  show Steps p.tables e below (s₁.setTop (mkF m 85 #[.val (.ref a), .val (.int ai'), .val (.ref b), .val (.int bi'), .val (.int len'), .val (.int (3 : Int32)), .unset, .unset] [(.int bi'), (.ref b), (.int (f' ((ai' + (3 : Int32))).toNatClampNeg))])) _
                  refine XS.iload X0.here hx rfl (hb hby d13_85) rfl ?_
                  show Steps p.tables e below (s₁.setTop (mkF m 87 #[.val (.ref a), .val (.int ai'), .val (.ref b), .val (.int bi'), .val (.int len'), .val (.int (3 : Int32)), .unset, .unset] [(.int (3 : Int32)), (.int bi'), (.ref b), (.int (f' ((ai' + (3 : Int32))).toNatClampNeg))])) _
                  refine XS.iadd X0.here hx rfl (hb hby d13_87) rfl ?_
                  show Steps p.tables e below (s₁.setTop (mkF m 88 #[.val (.ref a), .val (.int ai'), .val (.ref b), .val (.int bi'), .val (.int len'), .val (.int (3 : Int32)), .unset, .unset] [(.int (bi' + (3 : Int32))), (.ref b), (.int (f' ((ai' + (3 : Int32))).toNatClampNeg))])) _
                  refine X0.baloadBytes hx (j := (bi' + (3 : Int32))) (v := (.int (g' ((bi' + (3 : Int32))).toNatClampNeg))) (by rw [e0]; exact Ar8822.1) (State.isArrayOf_alike hZ.alike Ar8822.2.1) Ar8822.2.2 hin8822 hat8822 (g := (mkF m 88 #[.val (.ref a), .val (.int ai'), .val (.ref b), .val (.int bi'), .val (.int len'), .val (.int (3 : Int32)), .unset, .unset] [(.int (bi' + (3 : Int32))), (.ref b), (.int (f' ((ai' + (3 : Int32))).toNatClampNeg))])) rfl rfl (hb hby d13_88) _ ?_
                  exact kt
                by_cases hc89_24 : (f' ((ai' + (3 : Int32))).toNatClampNeg) = (g' ((bi' + (3 : Int32))).toNatClampNeg)
                · obtain ⟨fs, hr, hrun, hended, hW, hsame⟩ := X0.leave (v := some (.int (-1 : Int32))) (fun h => by rw [Bd.returns] at h; cases h)
                  refine ⟨_, _, pre23 _ ?_, hrun, hended, _, _, rfl, ?_, ⟨_, rfl⟩, hW, hsame.mono (by decide) (by decide)⟩
                  · show Steps p.tables e below (s₁.setTop (mkF m 89 #[.val (.ref a), .val (.int ai'), .val (.ref b), .val (.int bi'), .val (.int len'), .val (.int (3 : Int32)), .unset, .unset] [(.int (g' ((bi' + (3 : Int32))).toNatClampNeg)), (.int (f' ((ai' + (3 : Int32))).toNatClampNeg))])) _
                    refine XS.icmpYes X0.here hx rfl (pc0 := 89) (pc' := 95) rfl (hb hby d13_89) rfl (teq hc89_24).1 (by decide) (by decide) ?_
                    show Steps p.tables e below (s₁.setTop (mkF m 95 #[.val (.ref a), .val (.int ai'), .val (.ref b), .val (.int bi'), .val (.int len'), .val (.int (3 : Int32)), .unset, .unset] [])) _
                    refine XS.iinc X0.here hx rfl (hb hby d13_95) rfl (l' := #[.val (.ref a), .val (.int ai'), .val (.ref b), .val (.int bi'), .val (.int len'), .val (.int (4 : Int32)), .unset, .unset]) rfl ?_
                    show Steps p.tables e below (s₁.setTop (mkF m 98 #[.val (.ref a), .val (.int ai'), .val (.ref b), .val (.int bi'), .val (.int len'), .val (.int (4 : Int32)), .unset, .unset] [])) _
                    refine XS.goto X0.here hx rfl (pc0 := 98) (pc' := 70) rfl (hb hby d13_98) (by decide) (by decide) ?_
                    show Steps p.tables e below (s₁.setTop (mkF m 70 #[.val (.ref a), .val (.int ai'), .val (.ref b), .val (.int bi'), .val (.int len'), .val (.int (4 : Int32)), .unset, .unset] [])) _
                    refine XS.iload X0.here hx rfl (hb hby d13_70) rfl ?_
                    show Steps p.tables e below (s₁.setTop (mkF m 72 #[.val (.ref a), .val (.int ai'), .val (.ref b), .val (.int bi'), .val (.int len'), .val (.int (4 : Int32)), .unset, .unset] [(.int (4 : Int32))])) _
                    refine XS.iload X0.here hx rfl (hb hby d13_72) rfl ?_
                    show Steps p.tables e below (s₁.setTop (mkF m 74 #[.val (.ref a), .val (.int ai'), .val (.ref b), .val (.int bi'), .val (.int len'), .val (.int (4 : Int32)), .unset, .unset] [(.int len'), (.int (4 : Int32))])) _
                    refine XS.icmpYes X0.here hx rfl (pc0 := 74) (pc' := 101) rfl (hb hby d13_74) rfl (flt (own_nlt (by rw [show (4 : Int32).toInt = 4 from rfl]; omega))).2.1 (by decide) (by decide) ?_
                    show Steps p.tables e below (s₁.setTop (mkF m 101 #[.val (.ref a), .val (.int ai'), .val (.ref b), .val (.int bi'), .val (.int len'), .val (.int (4 : Int32)), .unset, .unset] [])) _
                    refine XS.iconst X0.here hx rfl (hb hby d13_101) ?_
                    show Steps p.tables e below (s₁.setTop (mkF m 102 #[.val (.ref a), .val (.int ai'), .val (.ref b), .val (.int bi'), .val (.int len'), .val (.int (4 : Int32)), .unset, .unset] [(.int (-1 : Int32))])) _
                    exact retOut X0 hx Bd.returns rfl (Or.inl ⟨rfl, Or.inl rfl, _, rfl⟩) (hb hby d13_102) hr
                  · show Q13 Z a ai' b bi' len' na' nb' f' g' h0 n0 _ s₁.heap _
                    rw [e0]
                    exact ⟨by rw [own_mm, if_pos hc74_2, if_pos hc89_6, if_pos hc74_8, if_pos hc89_12, if_pos hc74_14, if_pos hc89_18, if_pos hc74_20, if_pos hc89_24], N0, rfl⟩
                · obtain ⟨fs, hr, hrun, hended, hW, hsame⟩ := X0.leave (v := some (.int (3 : Int32))) (fun h => by rw [Bd.returns] at h; cases h)
                  refine ⟨_, _, pre23 _ ?_, hrun, hended, _, _, rfl, ?_, ⟨_, rfl⟩, hW, hsame.mono (by decide) (by decide)⟩
                  · show Steps p.tables e below (s₁.setTop (mkF m 89 #[.val (.ref a), .val (.int ai'), .val (.ref b), .val (.int bi'), .val (.int len'), .val (.int (3 : Int32)), .unset, .unset] [(.int (g' ((bi' + (3 : Int32))).toNatClampNeg)), (.int (f' ((ai' + (3 : Int32))).toNatClampNeg))])) _
                    refine XS.icmpNo X0.here hx rfl (hb hby d13_89) rfl (feq hc89_24).1 ?_
                    show Steps p.tables e below (s₁.setTop (mkF m 92 #[.val (.ref a), .val (.int ai'), .val (.ref b), .val (.int bi'), .val (.int len'), .val (.int (3 : Int32)), .unset, .unset] [])) _
                    refine XS.iload X0.here hx rfl (hb hby d13_92) rfl ?_
                    show Steps p.tables e below (s₁.setTop (mkF m 94 #[.val (.ref a), .val (.int ai'), .val (.ref b), .val (.int bi'), .val (.int len'), .val (.int (3 : Int32)), .unset, .unset] [(.int (3 : Int32))])) _
                    exact retOut X0 hx Bd.returns rfl (Or.inl ⟨rfl, Or.inl rfl, _, rfl⟩) (hb hby d13_94) hr
                  · show Q13 Z a ai' b bi' len' na' nb' f' g' h0 n0 _ s₁.heap _
                    rw [e0]
                    exact ⟨by rw [own_mm, if_pos hc74_2, if_pos hc89_6, if_pos hc74_8, if_pos hc89_12, if_pos hc74_14, if_pos hc89_18, if_pos hc74_20, if_neg hc89_24], N0, rfl⟩
              · obtain ⟨fs, hr, hrun, hended, hW, hsame⟩ := X0.leave (v := some (.int (-1 : Int32))) (fun h => by rw [Bd.returns] at h; cases h)
                refine ⟨_, _, pre19 _ ?_, hrun, hended, _, _, rfl, ?_, ⟨_, rfl⟩, hW, hsame.mono (by decide) (by decide)⟩
                · show Steps p.tables e below (s₁.setTop (mkF m 74 #[.val (.ref a), .val (.int ai'), .val (.ref b), .val (.int bi'), .val (.int len'), .val (.int (3 : Int32)), .unset, .unset] [(.int len'), (.int (3 : Int32))])) _
                  refine XS.icmpYes X0.here hx rfl (pc0 := 74) (pc' := 101) rfl (hb hby d13_74) rfl (flt hc74_20).2.1 (by decide) (by decide) ?_
                  show Steps p.tables e below (s₁.setTop (mkF m 101 #[.val (.ref a), .val (.int ai'), .val (.ref b), .val (.int bi'), .val (.int len'), .val (.int (3 : Int32)), .unset, .unset] [])) _
                  refine XS.iconst X0.here hx rfl (hb hby d13_101) ?_
                  show Steps p.tables e below (s₁.setTop (mkF m 102 #[.val (.ref a), .val (.int ai'), .val (.ref b), .val (.int bi'), .val (.int len'), .val (.int (3 : Int32)), .unset, .unset] [(.int (-1 : Int32))])) _
                  exact retOut X0 hx Bd.returns rfl (Or.inl ⟨rfl, Or.inl rfl, _, rfl⟩) (hb hby d13_102) hr
                · show Q13 Z a ai' b bi' len' na' nb' f' g' h0 n0 _ s₁.heap _
                  rw [e0]
                  exact ⟨by rw [own_mm, if_pos hc74_2, if_pos hc89_6, if_pos hc74_8, if_pos hc89_12, if_pos hc74_14, if_pos hc89_18, if_neg hc74_20], N0, rfl⟩
            · obtain ⟨fs, hr, hrun, hended, hW, hsame⟩ := X0.leave (v := some (.int (2 : Int32))) (fun h => by rw [Bd.returns] at h; cases h)
              refine ⟨_, _, pre17 _ ?_, hrun, hended, _, _, rfl, ?_, ⟨_, rfl⟩, hW, hsame.mono (by decide) (by decide)⟩
              · show Steps p.tables e below (s₁.setTop (mkF m 89 #[.val (.ref a), .val (.int ai'), .val (.ref b), .val (.int bi'), .val (.int len'), .val (.int (2 : Int32)), .unset, .unset] [(.int (g' ((bi' + (2 : Int32))).toNatClampNeg)), (.int (f' ((ai' + (2 : Int32))).toNatClampNeg))])) _
                refine XS.icmpNo X0.here hx rfl (hb hby d13_89) rfl (feq hc89_18).1 ?_
                show Steps p.tables e below (s₁.setTop (mkF m 92 #[.val (.ref a), .val (.int ai'), .val (.ref b), .val (.int bi'), .val (.int len'), .val (.int (2 : Int32)), .unset, .unset] [])) _
                refine XS.iload X0.here hx rfl (hb hby d13_92) rfl ?_
                show Steps p.tables e below (s₁.setTop (mkF m 94 #[.val (.ref a), .val (.int ai'), .val (.ref b), .val (.int bi'), .val (.int len'), .val (.int (2 : Int32)), .unset, .unset] [(.int (2 : Int32))])) _
                exact retOut X0 hx Bd.returns rfl (Or.inl ⟨rfl, Or.inl rfl, _, rfl⟩) (hb hby d13_94) hr
              · show Q13 Z a ai' b bi' len' na' nb' f' g' h0 n0 _ s₁.heap _
                rw [e0]
                exact ⟨by rw [own_mm, if_pos hc74_2, if_pos hc89_6, if_pos hc74_8, if_pos hc89_12, if_pos hc74_14, if_neg hc89_18], N0, rfl⟩
          · obtain ⟨fs, hr, hrun, hended, hW, hsame⟩ := X0.leave (v := some (.int (-1 : Int32))) (fun h => by rw [Bd.returns] at h; cases h)
            refine ⟨_, _, pre13 _ ?_, hrun, hended, _, _, rfl, ?_, ⟨_, rfl⟩, hW, hsame.mono (by decide) (by decide)⟩
            · show Steps p.tables e below (s₁.setTop (mkF m 74 #[.val (.ref a), .val (.int ai'), .val (.ref b), .val (.int bi'), .val (.int len'), .val (.int (2 : Int32)), .unset, .unset] [(.int len'), (.int (2 : Int32))])) _
              refine XS.icmpYes X0.here hx rfl (pc0 := 74) (pc' := 101) rfl (hb hby d13_74) rfl (flt hc74_14).2.1 (by decide) (by decide) ?_
              show Steps p.tables e below (s₁.setTop (mkF m 101 #[.val (.ref a), .val (.int ai'), .val (.ref b), .val (.int bi'), .val (.int len'), .val (.int (2 : Int32)), .unset, .unset] [])) _
              refine XS.iconst X0.here hx rfl (hb hby d13_101) ?_
              show Steps p.tables e below (s₁.setTop (mkF m 102 #[.val (.ref a), .val (.int ai'), .val (.ref b), .val (.int bi'), .val (.int len'), .val (.int (2 : Int32)), .unset, .unset] [(.int (-1 : Int32))])) _
              exact retOut X0 hx Bd.returns rfl (Or.inl ⟨rfl, Or.inl rfl, _, rfl⟩) (hb hby d13_102) hr
            · show Q13 Z a ai' b bi' len' na' nb' f' g' h0 n0 _ s₁.heap _
              rw [e0]
              exact ⟨by rw [own_mm, if_pos hc74_2, if_pos hc89_6, if_pos hc74_8, if_pos hc89_12, if_neg hc74_14], N0, rfl⟩
        · obtain ⟨fs, hr, hrun, hended, hW, hsame⟩ := X0.leave (v := some (.int (1 : Int32))) (fun h => by rw [Bd.returns] at h; cases h)
          refine ⟨_, _, pre11 _ ?_, hrun, hended, _, _, rfl, ?_, ⟨_, rfl⟩, hW, hsame.mono (by decide) (by decide)⟩
          · show Steps p.tables e below (s₁.setTop (mkF m 89 #[.val (.ref a), .val (.int ai'), .val (.ref b), .val (.int bi'), .val (.int len'), .val (.int (1 : Int32)), .unset, .unset] [(.int (g' ((bi' + (1 : Int32))).toNatClampNeg)), (.int (f' ((ai' + (1 : Int32))).toNatClampNeg))])) _
            refine XS.icmpNo X0.here hx rfl (hb hby d13_89) rfl (feq hc89_12).1 ?_
            show Steps p.tables e below (s₁.setTop (mkF m 92 #[.val (.ref a), .val (.int ai'), .val (.ref b), .val (.int bi'), .val (.int len'), .val (.int (1 : Int32)), .unset, .unset] [])) _
            refine XS.iload X0.here hx rfl (hb hby d13_92) rfl ?_
            show Steps p.tables e below (s₁.setTop (mkF m 94 #[.val (.ref a), .val (.int ai'), .val (.ref b), .val (.int bi'), .val (.int len'), .val (.int (1 : Int32)), .unset, .unset] [(.int (1 : Int32))])) _
            exact retOut X0 hx Bd.returns rfl (Or.inl ⟨rfl, Or.inl rfl, _, rfl⟩) (hb hby d13_94) hr
          · show Q13 Z a ai' b bi' len' na' nb' f' g' h0 n0 _ s₁.heap _
            rw [e0]
            exact ⟨by rw [own_mm, if_pos hc74_2, if_pos hc89_6, if_pos hc74_8, if_neg hc89_12], N0, rfl⟩
      · obtain ⟨fs, hr, hrun, hended, hW, hsame⟩ := X0.leave (v := some (.int (-1 : Int32))) (fun h => by rw [Bd.returns] at h; cases h)
        refine ⟨_, _, pre7 _ ?_, hrun, hended, _, _, rfl, ?_, ⟨_, rfl⟩, hW, hsame.mono (by decide) (by decide)⟩
        · show Steps p.tables e below (s₁.setTop (mkF m 74 #[.val (.ref a), .val (.int ai'), .val (.ref b), .val (.int bi'), .val (.int len'), .val (.int (1 : Int32)), .unset, .unset] [(.int len'), (.int (1 : Int32))])) _
          refine XS.icmpYes X0.here hx rfl (pc0 := 74) (pc' := 101) rfl (hb hby d13_74) rfl (flt hc74_8).2.1 (by decide) (by decide) ?_
          show Steps p.tables e below (s₁.setTop (mkF m 101 #[.val (.ref a), .val (.int ai'), .val (.ref b), .val (.int bi'), .val (.int len'), .val (.int (1 : Int32)), .unset, .unset] [])) _
          refine XS.iconst X0.here hx rfl (hb hby d13_101) ?_
          show Steps p.tables e below (s₁.setTop (mkF m 102 #[.val (.ref a), .val (.int ai'), .val (.ref b), .val (.int bi'), .val (.int len'), .val (.int (1 : Int32)), .unset, .unset] [(.int (-1 : Int32))])) _
          exact retOut X0 hx Bd.returns rfl (Or.inl ⟨rfl, Or.inl rfl, _, rfl⟩) (hb hby d13_102) hr
        · show Q13 Z a ai' b bi' len' na' nb' f' g' h0 n0 _ s₁.heap _
          rw [e0]
          exact ⟨by rw [own_mm, if_pos hc74_2, if_pos hc89_6, if_neg hc74_8], N0, rfl⟩
    · obtain ⟨fs, hr, hrun, hended, hW, hsame⟩ := X0.leave (v := some (.int (0 : Int32))) (fun h => by rw [Bd.returns] at h; cases h)
      refine ⟨_, _, pre5 _ ?_, hrun, hended, _, _, rfl, ?_, ⟨_, rfl⟩, hW, hsame.mono (by decide) (by decide)⟩
      · show Steps p.tables e below (s₁.setTop (mkF m 89 #[.val (.ref a), .val (.int ai'), .val (.ref b), .val (.int bi'), .val (.int len'), .val (.int (0 : Int32)), .unset, .unset] [(.int (g' ((bi' + (0 : Int32))).toNatClampNeg)), (.int (f' ((ai' + (0 : Int32))).toNatClampNeg))])) _
        refine XS.icmpNo X0.here hx rfl (hb hby d13_89) rfl (feq hc89_6).1 ?_
        show Steps p.tables e below (s₁.setTop (mkF m 92 #[.val (.ref a), .val (.int ai'), .val (.ref b), .val (.int bi'), .val (.int len'), .val (.int (0 : Int32)), .unset, .unset] [])) _
        refine XS.iload X0.here hx rfl (hb hby d13_92) rfl ?_
        show Steps p.tables e below (s₁.setTop (mkF m 94 #[.val (.ref a), .val (.int ai'), .val (.ref b), .val (.int bi'), .val (.int len'), .val (.int (0 : Int32)), .unset, .unset] [(.int (0 : Int32))])) _
        exact retOut X0 hx Bd.returns rfl (Or.inl ⟨rfl, Or.inl rfl, _, rfl⟩) (hb hby d13_94) hr
      · show Q13 Z a ai' b bi' len' na' nb' f' g' h0 n0 _ s₁.heap _
        rw [e0]
        exact ⟨by rw [own_mm, if_pos hc74_2, if_neg hc89_6], N0, rfl⟩
  · obtain ⟨fs, hr, hrun, hended, hW, hsame⟩ := X0.leave (v := some (.int (-1 : Int32))) (fun h => by rw [Bd.returns] at h; cases h)
    refine ⟨_, _, pre1 _ ?_, hrun, hended, _, _, rfl, ?_, ⟨_, rfl⟩, hW, hsame.mono (by decide) (by decide)⟩
    · show Steps p.tables e below (s₁.setTop (mkF m 74 #[.val (.ref a), .val (.int ai'), .val (.ref b), .val (.int bi'), .val (.int len'), .val (.int (0 : Int32)), .unset, .unset] [(.int len'), (.int (0 : Int32))])) _
      refine XS.icmpYes X0.here hx rfl (pc0 := 74) (pc' := 101) rfl (hb hby d13_74) rfl (flt hc74_2).2.1 (by decide) (by decide) ?_
      show Steps p.tables e below (s₁.setTop (mkF m 101 #[.val (.ref a), .val (.int ai'), .val (.ref b), .val (.int bi'), .val (.int len'), .val (.int (0 : Int32)), .unset, .unset] [])) _
      refine XS.iconst X0.here hx rfl (hb hby d13_101) ?_
      show Steps p.tables e below (s₁.setTop (mkF m 102 #[.val (.ref a), .val (.int ai'), .val (.ref b), .val (.int bi'), .val (.int len'), .val (.int (0 : Int32)), .unset, .unset] [(.int (-1 : Int32))])) _
      exact retOut X0 hx Bd.returns rfl (Or.inl ⟨rfl, Or.inl rfl, _, rfl⟩) (hb hby d13_102) hr
    · show Q13 Z a ai' b bi' len' na' nb' f' g' h0 n0 _ s₁.heap _
      rw [e0]
      exact ⟨by rw [own_mm, if_neg hc74_2], N0, rfl⟩
theorem d10_0 : decode jdk_65_method_228_code 0 = .ok (.aload_n 0, 1) := by decide +kernel
theorem d10_1 : decode jdk_65_method_228_code 1 = .ok (.arraylength, 1) := by decide +kernel
theorem d10_2 : decode jdk_65_method_228_code 2 = .ok (.iload_n 1, 1) := by decide +kernel
theorem d10_3 : decode jdk_65_method_228_code 3 = .ok (.iload_n 2, 1) := by decide +kernel
theorem d10_4 : decode jdk_65_method_228_code 4 = .ok (.invokestatic 13, 3) := by decide +kernel
theorem d10_7 : decode jdk_65_method_228_code 7 = .ok (.aload_n 3, 1) := by decide +kernel
theorem d10_8 : decode jdk_65_method_228_code 8 = .ok (.arraylength, 1) := by decide +kernel
theorem d10_9 : decode jdk_65_method_228_code 9 = .ok (.iload 4, 2) := by decide +kernel
theorem d10_11 : decode jdk_65_method_228_code 11 = .ok (.iload 5, 2) := by decide +kernel
theorem d10_13 : decode jdk_65_method_228_code 13 = .ok (.invokestatic 13, 3) := by decide +kernel
theorem d10_16 : decode jdk_65_method_228_code 16 = .ok (.iload_n 2, 1) := by decide +kernel
theorem d10_17 : decode jdk_65_method_228_code 17 = .ok (.iload_n 1, 1) := by decide +kernel
theorem d10_18 : decode jdk_65_method_228_code 18 = .ok (.isub, 1) := by decide +kernel
theorem d10_19 : decode jdk_65_method_228_code 19 = .ok (.istore 6, 2) := by decide +kernel
theorem d10_21 : decode jdk_65_method_228_code 21 = .ok (.iload 5, 2) := by decide +kernel
theorem d10_23 : decode jdk_65_method_228_code 23 = .ok (.iload 4, 2) := by decide +kernel
theorem d10_25 : decode jdk_65_method_228_code 25 = .ok (.isub, 1) := by decide +kernel
theorem d10_26 : decode jdk_65_method_228_code 26 = .ok (.istore 7, 2) := by decide +kernel
theorem d10_28 : decode jdk_65_method_228_code 28 = .ok (.iload 6, 2) := by decide +kernel
theorem d10_30 : decode jdk_65_method_228_code 30 = .ok (.iload 7, 2) := by decide +kernel
theorem d10_32 : decode jdk_65_method_228_code 32 = .ok (.invokestatic 304, 3) := by decide +kernel
theorem d10_35 : decode jdk_65_method_228_code 35 = .ok (.istore 8, 2) := by decide +kernel
theorem d10_37 : decode jdk_65_method_228_code 37 = .ok (.aload_n 0, 1) := by decide +kernel
theorem d10_38 : decode jdk_65_method_228_code 38 = .ok (.iload_n 1, 1) := by decide +kernel
theorem d10_39 : decode jdk_65_method_228_code 39 = .ok (.aload_n 3, 1) := by decide +kernel
theorem d10_40 : decode jdk_65_method_228_code 40 = .ok (.iload 4, 2) := by decide +kernel
theorem d10_42 : decode jdk_65_method_228_code 42 = .ok (.iload 8, 2) := by decide +kernel
theorem d10_44 : decode jdk_65_method_228_code 44 = .ok (.invokestatic 275, 3) := by decide +kernel
theorem d10_47 : decode jdk_65_method_228_code 47 = .ok (.istore 9, 2) := by decide +kernel
theorem d10_49 : decode jdk_65_method_228_code 49 = .ok (.iload 9, 2) := by decide +kernel
theorem d10_51 : decode jdk_65_method_228_code 51 = .ok (.ifCond .ge 15, 3) := by decide +kernel
theorem d10_54 : decode jdk_65_method_228_code 54 = .ok (.iload 6, 2) := by decide +kernel
theorem d10_56 : decode jdk_65_method_228_code 56 = .ok (.iload 7, 2) := by decide +kernel
theorem d10_58 : decode jdk_65_method_228_code 58 = .ok (.if_icmp .eq 8, 3) := by decide +kernel
theorem d10_61 : decode jdk_65_method_228_code 61 = .ok (.iload 8, 2) := by decide +kernel
theorem d10_63 : decode jdk_65_method_228_code 63 = .ok (.goto 5, 3) := by decide +kernel
theorem d10_66 : decode jdk_65_method_228_code 66 = .ok (.iload 9, 2) := by decide +kernel
theorem d10_68 : decode jdk_65_method_228_code 68 = .ok (.ireturn, 1) := by decide +kernel
theorem pn_10 : plainName "java/util/Arrays" = true := by first | (simp [plainName, overriddenIn]; done) | decide +kernel
theorem pd10_0 : parseMethodDescriptor "(III)V" = some ⟨[.int, .int, .int], none⟩ := by decide +kernel
theorem pd10_1 : parseMethodDescriptor "(II)I" = some ⟨[.int, .int], some .int⟩ := by decide +kernel
theorem pd10_2 : parseMethodDescriptor "([BI[BII)I" = some ⟨[(.array .byte), .int, (.array .byte), .int, .int], some .int⟩ := by decide +kernel
theorem ef_10 (m : MethodId) (x0 : Addr) (x1 : Int32) (x2 : Int32) (x3 : Addr) (x4 : Int32) (x5 : Int32) : entryFrame m #[(.ref x0), (.int x1), (.int x2), (.ref x3), (.int x4), (.int x5)] 10 = mkF m 0 #[.val (.ref x0), .val (.int x1), .val (.int x2), .val (.ref x3), .val (.int x4), .val (.int x5), .unset, .unset, .unset, .unset] [] := by first | (simp [entryFrame, mkF, argsToLocals, Value.category]; done) | rfl
def Q10 (Z : State) (a : Addr) (f1' : Int32) (t1' : Int32) (b : Addr) (f2' : Int32) (t2' : Int32) (na' nb' : Int32) (f' g' : Nat → Int32) (h0 : Heap) (n0 : Nat) (v : Option Value) (h : Heap) (L : List Loc) : Prop := v = some (.int (own_mis f' f1' t1' g' f2' t2')) ∧ Fr n0 L ∧ h = h0
set_option maxRecDepth 65536 in
set_option maxHeartbeats 40000000 in
theorem rm10 (l : Launch) (Z : State) (a0 : Array Value) (hw : ∀ d ∈ tables_1, d.before a0 Z = true) (ws : List Jvm.Cond) (a : Addr) (f1' : Int32) (t1' : Int32) (b : Addr) (f2' : Int32) (t2' : Int32) (na' nb' : Int32) (f' g' : Nat → Int32) (h0 : Heap) (n0 : Nat) (Z0 : n0 ≤ h0.size) (V_a : own_A Z h0 a .byte na' f') (V_b : own_A Z h0 b .byte nb' g') (h1 : 0 ≤ f1'.toInt) (h2 : f1'.toInt ≤ t1'.toInt) (h3 : t1'.toInt ≤ na'.toInt) (h4 : 0 ≤ f2'.toInt) (h5 : f2'.toInt ≤ t2'.toInt) (h6 : t2'.toInt ≤ nb'.toInt) (h7 : t1'.toInt - f1'.toInt ≤ 4) :
    MetFree l (⟨"java/util/Arrays", "mismatch", "([BII[BII)I"⟩ : MethodName) (head1 (Jvm.Cond.code (⟨"java/util/Arrays", "mismatch", "([BII[BII)I"⟩ : MethodName) jdk_65_method_228_code 10 (some .int) :: ws) ({ frames := 1, cells := 0, slots := 0, locals := 19 } : Room)) (fun ar U => ar = #[(.ref a), (.int f1'), (.int t1'), (.ref b), (.int f2'), (.int t2')] ∧ Z.Warmed39 U.vm ∧ U.heap = h0) (fun _ _ _ _ _ => True) (fun _ U o U' => ∃ v L, o = .returned v ∧ Q10 Z a f1' t1' b f2' t2' na' nb' f' g' h0 n0 v U'.heap L ∧ FrameEnd U o U' L ({ frames := 1, cells := 0, slots := 0, locals := 19 } : Room).cells ({ frames := 1, cells := 0, slots := 0, locals := 19 } : Room).slots) := by
  refine MetFree.of_bodySF (plainFor_of_name pn_10) hisR ?_
  intro p e s m args below meth c s₁ Bd hml0 hP hK
  obtain ⟨rfl, hZ, hh⟩ := hP
  have hx := Bd.exec
  have hby := Bd.bytes
  have hml : c.maxLocals = 10 := hml0
  have hown : s.vm.findClass "java/util/Arrays" = some m.cls := findClass_of_methodNamed Bd.named
  have hnm := (name_of_methodNamed Bd.named Bd.method).1
  have X0 : Stand p l e ({ frames := 1, cells := 0, slots := 0, locals := 19 } : Room) s m #[(.ref a), (.int f1'), (.int t1'), (.ref b), (.int f2'), (.int t2')] below meth c s₁ [] 0 0 := Stand.of_body Bd
  have e0 : s₁.heap = h0 := by rw [← hh, Bd.state]; rfl
  have N0 := Fr.nil n0
  have K0 : Keep h0 h0 [] := Keep.refl h0 _
  have pre0 : ∀ t, Steps p.tables e below (s₁.setTop (mkF m 0 #[.val (.ref a), .val (.int f1'), .val (.int t1'), .val (.ref b), .val (.int f2'), .val (.int t2'), .unset, .unset, .unset, .unset] [])) t → Steps p.tables e below (s₁.setTop (entryFrame m #[(.ref a), (.int f1'), (.int t1'), (.ref b), (.int f2'), (.int t2')] 10)) t := fun t k => castTop (ef_10 m a f1' t1' b f2' t2') k
  obtain ⟨cl11, Ar11, S11, M11, H11⟩ := id V_a
  obtain ⟨_, _, ⟨T2, L2, k2, n2⟩, -, X2, ⟨Lc2, hQ2, l2, y2, z2⟩, st2⟩ := Jvm.LawKit.callS X0 hx (y := (⟨"java/util/Arrays", "rangeCheck", "(III)V"⟩ : MethodName)) hown (mvT hZ (hw _ (List.mem_of_getElem? (i := 59) rfl))) (mvT hZ (hw _ (List.mem_of_getElem? (i := 60) rfl))) (mvT hZ (hw _ (List.mem_of_getElem? (i := 57) rfl))) (mvT hZ (hw _ (List.mem_of_getElem? (i := 61) rfl))) (by decide) (backOf (W := 0) (rm11 l Z a0 hw [] na' f1' t1' h0 n0 Z0 (own_nlt h2) (own_nlt h1) (own_nlt h3)) hZ (hw _ (List.mem_of_getElem? (i := 61) rfl)) (hw _ (List.mem_of_getElem? (i := 57) rfl)) (by decide) (by decide)) (g := (mkF m 4 #[.val (.ref a), .val (.int f1'), .val (.int t1'), .val (.ref b), .val (.int f2'), .val (.int t2'), .unset, .unset, .unset, .unset] [(.int t1'), (.int f1'), (.int na')])) rfl (by rw [hml]; rfl) (argsL := [(.int na'), (.int f1'), (.int t1')]) (rest := []) (lenOf pd10_0 rfl) rfl (by show 2 * 0 + _ ≤ _; exact Nat.le_of_eq rfl) (hb hby d10_4) (fun _ _ => ⟨rfl, e0, (by decide : 0 + 0 ≤ _), (by decide : 0 + 0 ≤ _)⟩)
  dsimp only [Pt.U, Pt.locs, Pt.cells, Pt.slots] at X2 l2 y2 z2 st2 hQ2
  subst l2 y2 z2
  obtain ⟨rfl, N2q, hh2⟩ := hQ2
  have N2 := Fr.app N0 N2q
  obtain ⟨cl83, Ar83, S83, M83, H83⟩ := id V_b
  obtain ⟨_, _, ⟨T4, L4, k4, n4⟩, -, X4, ⟨Lc4, hQ4, l4, y4, z4⟩, st4⟩ := Jvm.LawKit.callS X2 hx (y := (⟨"java/util/Arrays", "rangeCheck", "(III)V"⟩ : MethodName)) hown (mvT hZ (hw _ (List.mem_of_getElem? (i := 59) rfl))) (mvT hZ (hw _ (List.mem_of_getElem? (i := 60) rfl))) (mvT hZ (hw _ (List.mem_of_getElem? (i := 57) rfl))) (mvT hZ (hw _ (List.mem_of_getElem? (i := 61) rfl))) (by decide) (backOf (W := 0) (rm11 l Z a0 hw [] nb' f2' t2' h0 n0 Z0 (own_nlt h5) (own_nlt h4) (own_nlt h6)) hZ (hw _ (List.mem_of_getElem? (i := 61) rfl)) (hw _ (List.mem_of_getElem? (i := 57) rfl)) (by decide) (by decide)) (g := (mkF m 13 #[.val (.ref a), .val (.int f1'), .val (.int t1'), .val (.ref b), .val (.int f2'), .val (.int t2'), .unset, .unset, .unset, .unset] [(.int t2'), (.int f2'), (.int nb')])) rfl (by rw [hml]; rfl) (argsL := [(.int nb'), (.int f2'), (.int t2')]) (rest := []) (lenOf pd10_0 rfl) rfl (by show 2 * 0 + _ ≤ _; exact Nat.le_of_eq rfl) (hb hby d10_13) (fun _ _ => ⟨rfl, hh2, (by decide : 0 + 0 ≤ _), (by decide : 0 + 0 ≤ _)⟩)
  dsimp only [Pt.U, Pt.locs, Pt.cells, Pt.slots] at X4 l4 y4 z4 st4 hQ4
  subst l4 y4 z4
  obtain ⟨rfl, N4q, hh4⟩ := hQ4
  have N4 := Fr.app N2 N4q
  obtain ⟨_, _, ⟨T5, L5, k5, n5⟩, -, X5, ⟨Lc5, hQ5, l5, y5, z5⟩, st5⟩ := Jvm.LawKit.callS X4 hx (y := (⟨"java/lang/Math", "min", "(II)I"⟩ : MethodName)) hown (mvT hZ (hw _ (List.mem_of_getElem? (i := 62) rfl))) (mvT hZ (hw _ (List.mem_of_getElem? (i := 63) rfl))) (mvT hZ (hw _ (List.mem_of_getElem? (i := 53) rfl))) (mvT hZ (hw _ (List.mem_of_getElem? (i := 64) rfl))) (by decide) (backOf (W := 0) (rm12 l Z a0 hw [] (t1' - f1') (t2' - f2') h0 n0 Z0 ) hZ (hw _ (List.mem_of_getElem? (i := 64) rfl)) (hw _ (List.mem_of_getElem? (i := 53) rfl)) (by decide) (by decide)) (g := (mkF m 32 #[.val (.ref a), .val (.int f1'), .val (.int t1'), .val (.ref b), .val (.int f2'), .val (.int t2'), .val (.int (t1' - f1')), .val (.int (t2' - f2')), .unset, .unset] [(.int (t2' - f2')), (.int (t1' - f1'))])) rfl (by rw [hml]; rfl) (argsL := [(.int (t1' - f1')), (.int (t2' - f2'))]) (rest := []) (lenOf pd10_1 rfl) rfl (by show 2 * 0 + _ ≤ _; exact Nat.le_of_eq rfl) (hb hby d10_32) (fun _ _ => ⟨rfl, hh4, (by decide : 0 + 0 ≤ _), (by decide : 0 + 0 ≤ _)⟩)
  dsimp only [Pt.U, Pt.locs, Pt.cells, Pt.slots] at X5 l5 y5 z5 st5 hQ5
  subst l5 y5 z5
  obtain ⟨rfl, N5q, hh5⟩ := hQ5
  have N5 := Fr.app N4 N5q
  obtain ⟨_, _, ⟨T6, L6, k6, n6⟩, -, X6, ⟨Lc6, hQ6, l6, y6, z6⟩, st6⟩ := Jvm.LawKit.callS X5 hx (y := (⟨"jdk/internal/util/ArraysSupport", "mismatch", "([BI[BII)I"⟩ : MethodName)) hown (mvT hZ (hw _ (List.mem_of_getElem? (i := 65) rfl))) (mvT hZ (hw _ (List.mem_of_getElem? (i := 66) rfl))) (mvT hZ (hw _ (List.mem_of_getElem? (i := 67) rfl))) (mvT hZ (hw _ (List.mem_of_getElem? (i := 68) rfl))) (by decide) (backOf (W := 0) (rm13 l Z a0 hw [] a f1' b f2' (own_mini (t1' - f1') (t2' - f2')) na' nb' f' g' h0 n0 Z0 V_a V_b h1 (by rw [own_miniv, own_sub h1 h2, own_sub h4 h5]; omega) h4 (by rw [own_miniv, own_sub h1 h2, own_sub h4 h5]; omega) (by rw [own_miniv, own_sub h1 h2, own_sub h4 h5]; omega)) hZ (hw _ (List.mem_of_getElem? (i := 68) rfl)) (hw _ (List.mem_of_getElem? (i := 67) rfl)) (by decide) (by decide)) (g := (mkF m 44 #[.val (.ref a), .val (.int f1'), .val (.int t1'), .val (.ref b), .val (.int f2'), .val (.int t2'), .val (.int (t1' - f1')), .val (.int (t2' - f2')), .val (.int (own_mini (t1' - f1') (t2' - f2'))), .unset] [(.int (own_mini (t1' - f1') (t2' - f2'))), (.int f2'), (.ref b), (.int f1'), (.ref a)])) rfl (by rw [hml]; rfl) (argsL := [(.ref a), (.int f1'), (.ref b), (.int f2'), (.int (own_mini (t1' - f1') (t2' - f2')))]) (rest := []) (lenOf pd10_2 rfl) rfl (by show 2 * 0 + _ ≤ _; exact Nat.le_of_eq rfl) (hb hby d10_44) (fun _ _ => ⟨rfl, hh5, (by decide : 0 + 0 ≤ _), (by decide : 0 + 0 ≤ _)⟩)
  dsimp only [Pt.U, Pt.locs, Pt.cells, Pt.slots] at X6 l6 y6 z6 st6 hQ6
  subst l6 y6 z6
  obtain ⟨rfl, N6q, hh6⟩ := hQ6
  have N6 := Fr.app N5 N6q
  have pre7 : ∀ t, Steps p.tables e below (T6.setTop (mkF m 51 #[.val (.ref a), .val (.int f1'), .val (.int t1'), .val (.ref b), .val (.int f2'), .val (.int t2'), .val (.int (t1' - f1')), .val (.int (t2' - f2')), .val (.int (own_mini (t1' - f1') (t2' - f2'))), .val (.int (own_mm f' g' f1' f2' (own_mini (t1' - f1') (t2' - f2'))))] [(.int (own_mm f' g' f1' f2' (own_mini (t1' - f1') (t2' - f2'))))])) t → Steps p.tables e below (s₁.setTop (entryFrame m #[(.ref a), (.int f1'), (.int t1'), (.ref b), (.int f2'), (.int t2')] 10)) t := by
    intro t kt
    refine pre0 t ?_
    show Steps p.tables e below (s₁.setTop (mkF m 0 #[.val (.ref a), .val (.int f1'), .val (.int t1'), .val (.ref b), .val (.int f2'), .val (.int t2'), .unset, .unset, .unset, .unset] [])) _
    refine XS.aloadN X0.here hx rfl (hb hby d10_0) rfl rfl ?_
    show Steps p.tables e below (s₁.setTop (mkF m 1 #[.val (.ref a), .val (.int f1'), .val (.int t1'), .val (.ref b), .val (.int f2'), .val (.int t2'), .unset, .unset, .unset, .unset] [(.ref a)])) _
    refine X0.arraylength hx (cell := cl11) (by rw [e0]; exact Ar11.1) (State.isArrayOf_alike hZ.alike Ar11.2.1) (g := (mkF m 1 #[.val (.ref a), .val (.int f1'), .val (.int t1'), .val (.ref b), .val (.int f2'), .val (.int t2'), .unset, .unset, .unset, .unset] [(.ref a)])) rfl (rest := []) rfl (hb hby d10_1) _ ?_
    rw [len_of S11 M11]
    show Steps p.tables e below (s₁.setTop (mkF m 2 #[.val (.ref a), .val (.int f1'), .val (.int t1'), .val (.ref b), .val (.int f2'), .val (.int t2'), .unset, .unset, .unset, .unset] [(.int na')])) _
    refine XS.iloadN X0.here hx rfl (hb hby d10_2) rfl ?_
    show Steps p.tables e below (s₁.setTop (mkF m 3 #[.val (.ref a), .val (.int f1'), .val (.int t1'), .val (.ref b), .val (.int f2'), .val (.int t2'), .unset, .unset, .unset, .unset] [(.int f1'), (.int na')])) _
    refine XS.iloadN X0.here hx rfl (hb hby d10_3) rfl ?_
    show Steps p.tables e below (s₁.setTop (mkF m 4 #[.val (.ref a), .val (.int f1'), .val (.int t1'), .val (.ref b), .val (.int f2'), .val (.int t2'), .unset, .unset, .unset, .unset] [(.int t1'), (.int f1'), (.int na')])) _
    refine st2 _ ?_
    show Steps p.tables e below (T2.setTop (mkF m 7 #[.val (.ref a), .val (.int f1'), .val (.int t1'), .val (.ref b), .val (.int f2'), .val (.int t2'), .unset, .unset, .unset, .unset] [])) _
    refine XS.aloadN X2.here hx rfl (hb hby d10_7) rfl rfl ?_
    show Steps p.tables e below (T2.setTop (mkF m 8 #[.val (.ref a), .val (.int f1'), .val (.int t1'), .val (.ref b), .val (.int f2'), .val (.int t2'), .unset, .unset, .unset, .unset] [(.ref b)])) _
    refine X2.arraylength hx (cell := cl83) (by rw [hh2]; exact Ar83.1) (State.isArrayOf_alike hZ.alike Ar83.2.1) (g := (mkF m 8 #[.val (.ref a), .val (.int f1'), .val (.int t1'), .val (.ref b), .val (.int f2'), .val (.int t2'), .unset, .unset, .unset, .unset] [(.ref b)])) rfl (rest := []) rfl (hb hby d10_8) _ ?_
    rw [len_of S83 M83]
    show Steps p.tables e below (T2.setTop (mkF m 9 #[.val (.ref a), .val (.int f1'), .val (.int t1'), .val (.ref b), .val (.int f2'), .val (.int t2'), .unset, .unset, .unset, .unset] [(.int nb')])) _
    refine XS.iload X2.here hx rfl (hb hby d10_9) rfl ?_
    show Steps p.tables e below (T2.setTop (mkF m 11 #[.val (.ref a), .val (.int f1'), .val (.int t1'), .val (.ref b), .val (.int f2'), .val (.int t2'), .unset, .unset, .unset, .unset] [(.int f2'), (.int nb')])) _
    refine XS.iload X2.here hx rfl (hb hby d10_11) rfl ?_
    show Steps p.tables e below (T2.setTop (mkF m 13 #[.val (.ref a), .val (.int f1'), .val (.int t1'), .val (.ref b), .val (.int f2'), .val (.int t2'), .unset, .unset, .unset, .unset] [(.int t2'), (.int f2'), (.int nb')])) _
    refine st4 _ ?_
    show Steps p.tables e below (T4.setTop (mkF m 16 #[.val (.ref a), .val (.int f1'), .val (.int t1'), .val (.ref b), .val (.int f2'), .val (.int t2'), .unset, .unset, .unset, .unset] [])) _
    refine XS.iloadN X4.here hx rfl (hb hby d10_16) rfl ?_
    show Steps p.tables e below (T4.setTop (mkF m 17 #[.val (.ref a), .val (.int f1'), .val (.int t1'), .val (.ref b), .val (.int f2'), .val (.int t2'), .unset, .unset, .unset, .unset] [(.int t1')])) _
    refine XS.iloadN X4.here hx rfl (hb hby d10_17) rfl ?_
    show Steps p.tables e below (T4.setTop (mkF m 18 #[.val (.ref a), .val (.int f1'), .val (.int t1'), .val (.ref b), .val (.int f2'), .val (.int t2'), .unset, .unset, .unset, .unset] [(.int f1'), (.int t1')])) _
    refine XS.isub X4.here hx rfl (hb hby d10_18) rfl ?_
    show Steps p.tables e below (T4.setTop (mkF m 19 #[.val (.ref a), .val (.int f1'), .val (.int t1'), .val (.ref b), .val (.int f2'), .val (.int t2'), .unset, .unset, .unset, .unset] [(.int (t1' - f1'))])) _
    refine XS.istore X4.here hx rfl (hb hby d10_19) rfl (l' := #[.val (.ref a), .val (.int f1'), .val (.int t1'), .val (.ref b), .val (.int f2'), .val (.int t2'), .val (.int (t1' - f1')), .unset, .unset, .unset]) rfl ?_
    show Steps p.tables e below (T4.setTop (mkF m 21 #[.val (.ref a), .val (.int f1'), .val (.int t1'), .val (.ref b), .val (.int f2'), .val (.int t2'), .val (.int (t1' - f1')), .unset, .unset, .unset] [])) _
    refine XS.iload X4.here hx rfl (hb hby d10_21) rfl ?_
    show Steps p.tables e below (T4.setTop (mkF m 23 #[.val (.ref a), .val (.int f1'), .val (.int t1'), .val (.ref b), .val (.int f2'), .val (.int t2'), .val (.int (t1' - f1')), .unset, .unset, .unset] [(.int t2')])) _
    refine XS.iload X4.here hx rfl (hb hby d10_23) rfl ?_
    show Steps p.tables e below (T4.setTop (mkF m 25 #[.val (.ref a), .val (.int f1'), .val (.int t1'), .val (.ref b), .val (.int f2'), .val (.int t2'), .val (.int (t1' - f1')), .unset, .unset, .unset] [(.int f2'), (.int t2')])) _
    refine XS.isub X4.here hx rfl (hb hby d10_25) rfl ?_
    show Steps p.tables e below (T4.setTop (mkF m 26 #[.val (.ref a), .val (.int f1'), .val (.int t1'), .val (.ref b), .val (.int f2'), .val (.int t2'), .val (.int (t1' - f1')), .unset, .unset, .unset] [(.int (t2' - f2'))])) _
    refine XS.istore X4.here hx rfl (hb hby d10_26) rfl (l' := #[.val (.ref a), .val (.int f1'), .val (.int t1'), .val (.ref b), .val (.int f2'), .val (.int t2'), .val (.int (t1' - f1')), .val (.int (t2' - f2')), .unset, .unset]) rfl ?_
    show Steps p.tables e below (T4.setTop (mkF m 28 #[.val (.ref a), .val (.int f1'), .val (.int t1'), .val (.ref b), .val (.int f2'), .val (.int t2'), .val (.int (t1' - f1')), .val (.int (t2' - f2')), .unset, .unset] [])) _
    refine XS.iload X4.here hx rfl (hb hby d10_28) rfl ?_
    show Steps p.tables e below (T4.setTop (mkF m 30 #[.val (.ref a), .val (.int f1'), .val (.int t1'), .val (.ref b), .val (.int f2'), .val (.int t2'), .val (.int (t1' - f1')), .val (.int (t2' - f2')), .unset, .unset] [(.int (t1' - f1'))])) _
    refine XS.iload X4.here hx rfl (hb hby d10_30) rfl ?_
    show Steps p.tables e below (T4.setTop (mkF m 32 #[.val (.ref a), .val (.int f1'), .val (.int t1'), .val (.ref b), .val (.int f2'), .val (.int t2'), .val (.int (t1' - f1')), .val (.int (t2' - f2')), .unset, .unset] [(.int (t2' - f2')), (.int (t1' - f1'))])) _
    refine st5 _ ?_
    show Steps p.tables e below (T5.setTop (mkF m 35 #[.val (.ref a), .val (.int f1'), .val (.int t1'), .val (.ref b), .val (.int f2'), .val (.int t2'), .val (.int (t1' - f1')), .val (.int (t2' - f2')), .unset, .unset] [(.int (own_mini (t1' - f1') (t2' - f2')))])) _
    refine XS.istore X5.here hx rfl (hb hby d10_35) rfl (l' := #[.val (.ref a), .val (.int f1'), .val (.int t1'), .val (.ref b), .val (.int f2'), .val (.int t2'), .val (.int (t1' - f1')), .val (.int (t2' - f2')), .val (.int (own_mini (t1' - f1') (t2' - f2'))), .unset]) rfl ?_
    show Steps p.tables e below (T5.setTop (mkF m 37 #[.val (.ref a), .val (.int f1'), .val (.int t1'), .val (.ref b), .val (.int f2'), .val (.int t2'), .val (.int (t1' - f1')), .val (.int (t2' - f2')), .val (.int (own_mini (t1' - f1') (t2' - f2'))), .unset] [])) _
    refine XS.aloadN X5.here hx rfl (hb hby d10_37) rfl rfl ?_
    show Steps p.tables e below (T5.setTop (mkF m 38 #[.val (.ref a), .val (.int f1'), .val (.int t1'), .val (.ref b), .val (.int f2'), .val (.int t2'), .val (.int (t1' - f1')), .val (.int (t2' - f2')), .val (.int (own_mini (t1' - f1') (t2' - f2'))), .unset] [(.ref a)])) _
    refine XS.iloadN X5.here hx rfl (hb hby d10_38) rfl ?_
    show Steps p.tables e below (T5.setTop (mkF m 39 #[.val (.ref a), .val (.int f1'), .val (.int t1'), .val (.ref b), .val (.int f2'), .val (.int t2'), .val (.int (t1' - f1')), .val (.int (t2' - f2')), .val (.int (own_mini (t1' - f1') (t2' - f2'))), .unset] [(.int f1'), (.ref a)])) _
    refine XS.aloadN X5.here hx rfl (hb hby d10_39) rfl rfl ?_
    show Steps p.tables e below (T5.setTop (mkF m 40 #[.val (.ref a), .val (.int f1'), .val (.int t1'), .val (.ref b), .val (.int f2'), .val (.int t2'), .val (.int (t1' - f1')), .val (.int (t2' - f2')), .val (.int (own_mini (t1' - f1') (t2' - f2'))), .unset] [(.ref b), (.int f1'), (.ref a)])) _
    refine XS.iload X5.here hx rfl (hb hby d10_40) rfl ?_
    show Steps p.tables e below (T5.setTop (mkF m 42 #[.val (.ref a), .val (.int f1'), .val (.int t1'), .val (.ref b), .val (.int f2'), .val (.int t2'), .val (.int (t1' - f1')), .val (.int (t2' - f2')), .val (.int (own_mini (t1' - f1') (t2' - f2'))), .unset] [(.int f2'), (.ref b), (.int f1'), (.ref a)])) _
    refine XS.iload X5.here hx rfl (hb hby d10_42) rfl ?_
    show Steps p.tables e below (T5.setTop (mkF m 44 #[.val (.ref a), .val (.int f1'), .val (.int t1'), .val (.ref b), .val (.int f2'), .val (.int t2'), .val (.int (t1' - f1')), .val (.int (t2' - f2')), .val (.int (own_mini (t1' - f1') (t2' - f2'))), .unset] [(.int (own_mini (t1' - f1') (t2' - f2'))), (.int f2'), (.ref b), (.int f1'), (.ref a)])) _
    refine st6 _ ?_
    show Steps p.tables e below (T6.setTop (mkF m 47 #[.val (.ref a), .val (.int f1'), .val (.int t1'), .val (.ref b), .val (.int f2'), .val (.int t2'), .val (.int (t1' - f1')), .val (.int (t2' - f2')), .val (.int (own_mini (t1' - f1') (t2' - f2'))), .unset] [(.int (own_mm f' g' f1' f2' (own_mini (t1' - f1') (t2' - f2'))))])) _
    refine XS.istore X6.here hx rfl (hb hby d10_47) rfl (l' := #[.val (.ref a), .val (.int f1'), .val (.int t1'), .val (.ref b), .val (.int f2'), .val (.int t2'), .val (.int (t1' - f1')), .val (.int (t2' - f2')), .val (.int (own_mini (t1' - f1') (t2' - f2'))), .val (.int (own_mm f' g' f1' f2' (own_mini (t1' - f1') (t2' - f2'))))]) rfl ?_
    show Steps p.tables e below (T6.setTop (mkF m 49 #[.val (.ref a), .val (.int f1'), .val (.int t1'), .val (.ref b), .val (.int f2'), .val (.int t2'), .val (.int (t1' - f1')), .val (.int (t2' - f2')), .val (.int (own_mini (t1' - f1') (t2' - f2'))), .val (.int (own_mm f' g' f1' f2' (own_mini (t1' - f1') (t2' - f2'))))] [])) _
    refine XS.iload X6.here hx rfl (hb hby d10_49) rfl ?_
    exact kt
  by_cases hc51_8 : (own_mm f' g' f1' f2' (own_mini (t1' - f1') (t2' - f2'))) < (0 : Int32)
  · have pre9 : ∀ t, Steps p.tables e below (T6.setTop (mkF m 58 #[.val (.ref a), .val (.int f1'), .val (.int t1'), .val (.ref b), .val (.int f2'), .val (.int t2'), .val (.int (t1' - f1')), .val (.int (t2' - f2')), .val (.int (own_mini (t1' - f1') (t2' - f2'))), .val (.int (own_mm f' g' f1' f2' (own_mini (t1' - f1') (t2' - f2'))))] [(.int (t2' - f2')), (.int (t1' - f1'))])) t → Steps p.tables e below (s₁.setTop (entryFrame m #[(.ref a), (.int f1'), (.int t1'), (.ref b), (.int f2'), (.int t2')] 10)) t := by
      intro t kt
      refine pre7 t ?_
      show Steps p.tables e below (T6.setTop (mkF m 51 #[.val (.ref a), .val (.int f1'), .val (.int t1'), .val (.ref b), .val (.int f2'), .val (.int t2'), .val (.int (t1' - f1')), .val (.int (t2' - f2')), .val (.int (own_mini (t1' - f1') (t2' - f2'))), .val (.int (own_mm f' g' f1' f2' (own_mini (t1' - f1') (t2' - f2'))))] [(.int (own_mm f' g' f1' f2' (own_mini (t1' - f1') (t2' - f2'))))])) _
      refine XS.ifNo X6.here hx rfl (hb hby d10_51) rfl ((if0 _ _).trans (tlt hc51_8).2.1) ?_
      show Steps p.tables e below (T6.setTop (mkF m 54 #[.val (.ref a), .val (.int f1'), .val (.int t1'), .val (.ref b), .val (.int f2'), .val (.int t2'), .val (.int (t1' - f1')), .val (.int (t2' - f2')), .val (.int (own_mini (t1' - f1') (t2' - f2'))), .val (.int (own_mm f' g' f1' f2' (own_mini (t1' - f1') (t2' - f2'))))] [])) _
      refine XS.iload X6.here hx rfl (hb hby d10_54) rfl ?_
      show Steps p.tables e below (T6.setTop (mkF m 56 #[.val (.ref a), .val (.int f1'), .val (.int t1'), .val (.ref b), .val (.int f2'), .val (.int t2'), .val (.int (t1' - f1')), .val (.int (t2' - f2')), .val (.int (own_mini (t1' - f1') (t2' - f2'))), .val (.int (own_mm f' g' f1' f2' (own_mini (t1' - f1') (t2' - f2'))))] [(.int (t1' - f1'))])) _
      refine XS.iload X6.here hx rfl (hb hby d10_56) rfl ?_
      exact kt
    by_cases hc58_10 : (t1' - f1') = (t2' - f2')
    · obtain ⟨fs, hr, hrun, hended, hW, hsame⟩ := X6.leave (v := some (.int (own_mm f' g' f1' f2' (own_mini (t1' - f1') (t2' - f2'))))) (fun h => by rw [Bd.returns] at h; cases h)
      refine ⟨_, _, pre9 _ ?_, hrun, hended, _, _, rfl, ?_, ⟨_, rfl⟩, hW, hsame.mono (by decide) (by decide)⟩
      · show Steps p.tables e below (T6.setTop (mkF m 58 #[.val (.ref a), .val (.int f1'), .val (.int t1'), .val (.ref b), .val (.int f2'), .val (.int t2'), .val (.int (t1' - f1')), .val (.int (t2' - f2')), .val (.int (own_mini (t1' - f1') (t2' - f2'))), .val (.int (own_mm f' g' f1' f2' (own_mini (t1' - f1') (t2' - f2'))))] [(.int (t2' - f2')), (.int (t1' - f1'))])) _
        refine XS.icmpYes X6.here hx rfl (pc0 := 58) (pc' := 66) rfl (hb hby d10_58) rfl (teq hc58_10).1 (by decide) (by decide) ?_
        show Steps p.tables e below (T6.setTop (mkF m 66 #[.val (.ref a), .val (.int f1'), .val (.int t1'), .val (.ref b), .val (.int f2'), .val (.int t2'), .val (.int (t1' - f1')), .val (.int (t2' - f2')), .val (.int (own_mini (t1' - f1') (t2' - f2'))), .val (.int (own_mm f' g' f1' f2' (own_mini (t1' - f1') (t2' - f2'))))] [])) _
        refine XS.iload X6.here hx rfl (hb hby d10_66) rfl ?_
        show Steps p.tables e below (T6.setTop (mkF m 68 #[.val (.ref a), .val (.int f1'), .val (.int t1'), .val (.ref b), .val (.int f2'), .val (.int t2'), .val (.int (t1' - f1')), .val (.int (t2' - f2')), .val (.int (own_mini (t1' - f1') (t2' - f2'))), .val (.int (own_mm f' g' f1' f2' (own_mini (t1' - f1') (t2' - f2'))))] [(.int (own_mm f' g' f1' f2' (own_mini (t1' - f1') (t2' - f2'))))])) _
        exact retOut X6 hx Bd.returns rfl (Or.inl ⟨rfl, Or.inl rfl, _, rfl⟩) (hb hby d10_68) hr
      · show Q10 Z a f1' t1' b f2' t2' na' nb' f' g' h0 n0 _ T6.heap _
        rw [hh6]
        exact ⟨by rw [own_mis, if_pos hc51_8, if_pos hc58_10], N6, rfl⟩
    · obtain ⟨fs, hr, hrun, hended, hW, hsame⟩ := X6.leave (v := some (.int (own_mini (t1' - f1') (t2' - f2')))) (fun h => by rw [Bd.returns] at h; cases h)
      refine ⟨_, _, pre9 _ ?_, hrun, hended, _, _, rfl, ?_, ⟨_, rfl⟩, hW, hsame.mono (by decide) (by decide)⟩
      · show Steps p.tables e below (T6.setTop (mkF m 58 #[.val (.ref a), .val (.int f1'), .val (.int t1'), .val (.ref b), .val (.int f2'), .val (.int t2'), .val (.int (t1' - f1')), .val (.int (t2' - f2')), .val (.int (own_mini (t1' - f1') (t2' - f2'))), .val (.int (own_mm f' g' f1' f2' (own_mini (t1' - f1') (t2' - f2'))))] [(.int (t2' - f2')), (.int (t1' - f1'))])) _
        refine XS.icmpNo X6.here hx rfl (hb hby d10_58) rfl (feq hc58_10).1 ?_
        show Steps p.tables e below (T6.setTop (mkF m 61 #[.val (.ref a), .val (.int f1'), .val (.int t1'), .val (.ref b), .val (.int f2'), .val (.int t2'), .val (.int (t1' - f1')), .val (.int (t2' - f2')), .val (.int (own_mini (t1' - f1') (t2' - f2'))), .val (.int (own_mm f' g' f1' f2' (own_mini (t1' - f1') (t2' - f2'))))] [])) _
        refine XS.iload X6.here hx rfl (hb hby d10_61) rfl ?_
        show Steps p.tables e below (T6.setTop (mkF m 63 #[.val (.ref a), .val (.int f1'), .val (.int t1'), .val (.ref b), .val (.int f2'), .val (.int t2'), .val (.int (t1' - f1')), .val (.int (t2' - f2')), .val (.int (own_mini (t1' - f1') (t2' - f2'))), .val (.int (own_mm f' g' f1' f2' (own_mini (t1' - f1') (t2' - f2'))))] [(.int (own_mini (t1' - f1') (t2' - f2')))])) _
        refine XS.goto X6.here hx rfl (pc0 := 63) (pc' := 68) rfl (hb hby d10_63) (by decide) (by decide) ?_
        show Steps p.tables e below (T6.setTop (mkF m 68 #[.val (.ref a), .val (.int f1'), .val (.int t1'), .val (.ref b), .val (.int f2'), .val (.int t2'), .val (.int (t1' - f1')), .val (.int (t2' - f2')), .val (.int (own_mini (t1' - f1') (t2' - f2'))), .val (.int (own_mm f' g' f1' f2' (own_mini (t1' - f1') (t2' - f2'))))] [(.int (own_mini (t1' - f1') (t2' - f2')))])) _
        exact retOut X6 hx Bd.returns rfl (Or.inl ⟨rfl, Or.inl rfl, _, rfl⟩) (hb hby d10_68) hr
      · show Q10 Z a f1' t1' b f2' t2' na' nb' f' g' h0 n0 _ T6.heap _
        rw [hh6]
        exact ⟨by rw [own_mis, if_pos hc51_8, if_neg hc58_10], N6, rfl⟩
  · obtain ⟨fs, hr, hrun, hended, hW, hsame⟩ := X6.leave (v := some (.int (own_mm f' g' f1' f2' (own_mini (t1' - f1') (t2' - f2'))))) (fun h => by rw [Bd.returns] at h; cases h)
    refine ⟨_, _, pre7 _ ?_, hrun, hended, _, _, rfl, ?_, ⟨_, rfl⟩, hW, hsame.mono (by decide) (by decide)⟩
    · show Steps p.tables e below (T6.setTop (mkF m 51 #[.val (.ref a), .val (.int f1'), .val (.int t1'), .val (.ref b), .val (.int f2'), .val (.int t2'), .val (.int (t1' - f1')), .val (.int (t2' - f2')), .val (.int (own_mini (t1' - f1') (t2' - f2'))), .val (.int (own_mm f' g' f1' f2' (own_mini (t1' - f1') (t2' - f2'))))] [(.int (own_mm f' g' f1' f2' (own_mini (t1' - f1') (t2' - f2'))))])) _
      refine XS.ifYes X6.here hx rfl (pc0 := 51) (pc' := 66) rfl (hb hby d10_51) rfl ((if0 _ _).trans (flt hc51_8).2.1) (by decide) (by decide) ?_
      show Steps p.tables e below (T6.setTop (mkF m 66 #[.val (.ref a), .val (.int f1'), .val (.int t1'), .val (.ref b), .val (.int f2'), .val (.int t2'), .val (.int (t1' - f1')), .val (.int (t2' - f2')), .val (.int (own_mini (t1' - f1') (t2' - f2'))), .val (.int (own_mm f' g' f1' f2' (own_mini (t1' - f1') (t2' - f2'))))] [])) _
      refine XS.iload X6.here hx rfl (hb hby d10_66) rfl ?_
      show Steps p.tables e below (T6.setTop (mkF m 68 #[.val (.ref a), .val (.int f1'), .val (.int t1'), .val (.ref b), .val (.int f2'), .val (.int t2'), .val (.int (t1' - f1')), .val (.int (t2' - f2')), .val (.int (own_mini (t1' - f1') (t2' - f2'))), .val (.int (own_mm f' g' f1' f2' (own_mini (t1' - f1') (t2' - f2'))))] [(.int (own_mm f' g' f1' f2' (own_mini (t1' - f1') (t2' - f2'))))])) _
      exact retOut X6 hx Bd.returns rfl (Or.inl ⟨rfl, Or.inl rfl, _, rfl⟩) (hb hby d10_68) hr
    · show Q10 Z a f1' t1' b f2' t2' na' nb' f' g' h0 n0 _ T6.heap _
      rw [hh6]
      exact ⟨by rw [own_mis, if_neg hc51_8], N6, rfl⟩
theorem d6_0 : decode prog_2_method_3_code 0 = .ok (.iload_n 2, 1) := by decide +kernel
theorem d6_1 : decode prog_2_method_3_code 1 = .ok (.iload_n 3, 1) := by decide +kernel
theorem d6_2 : decode prog_2_method_3_code 2 = .ok (.aload_n 1, 1) := by decide +kernel
theorem d6_3 : decode prog_2_method_3_code 3 = .ok (.arraylength, 1) := by decide +kernel
theorem d6_4 : decode prog_2_method_3_code 4 = .ok (.invokestatic 31, 3) := by decide +kernel
theorem d6_7 : decode prog_2_method_3_code 7 = .ok (.pop, 1) := by decide +kernel
theorem d6_8 : decode prog_2_method_3_code 8 = .ok (.aload_n 0, 1) := by decide +kernel
theorem d6_9 : decode prog_2_method_3_code 9 = .ok (.getfield 9, 3) := by decide +kernel
theorem d6_12 : decode prog_2_method_3_code 12 = .ok (.lconst 0, 1) := by decide +kernel
theorem d6_13 : decode prog_2_method_3_code 13 = .ok (.lcmp, 1) := by decide +kernel
theorem d6_14 : decode prog_2_method_3_code 14 = .ok (.ifCond .ge 73, 3) := by decide +kernel
theorem d6_17 : decode prog_2_method_3_code 17 = .ok (.aload_n 0, 1) := by decide +kernel
theorem d6_18 : decode prog_2_method_3_code 18 = .ok (.getfield 35, 3) := by decide +kernel
theorem d6_21 : decode prog_2_method_3_code 21 = .ok (.aload_n 0, 1) := by decide +kernel
theorem d6_22 : decode prog_2_method_3_code 22 = .ok (.getfield 25, 3) := by decide +kernel
theorem d6_25 : decode prog_2_method_3_code 25 = .ok (.arraylength, 1) := by decide +kernel
theorem d6_26 : decode prog_2_method_3_code 26 = .ok (.i2l, 1) := by decide +kernel
theorem d6_27 : decode prog_2_method_3_code 27 = .ok (.invokestatic 38, 3) := by decide +kernel
theorem d6_30 : decode prog_2_method_3_code 30 = .ok (.l2i, 1) := by decide +kernel
theorem d6_31 : decode prog_2_method_3_code 31 = .ok (.istore 4, 2) := by decide +kernel
theorem d6_33 : decode prog_2_method_3_code 33 = .ok (.aload_n 0, 1) := by decide +kernel
theorem d6_34 : decode prog_2_method_3_code 34 = .ok (.getfield 35, 3) := by decide +kernel
theorem d6_37 : decode prog_2_method_3_code 37 = .ok (.iload_n 3, 1) := by decide +kernel
theorem d6_38 : decode prog_2_method_3_code 38 = .ok (.i2l, 1) := by decide +kernel
theorem d6_39 : decode prog_2_method_3_code 39 = .ok (.ladd, 1) := by decide +kernel
theorem d6_40 : decode prog_2_method_3_code 40 = .ok (.aload_n 0, 1) := by decide +kernel
theorem d6_41 : decode prog_2_method_3_code 41 = .ok (.getfield 25, 3) := by decide +kernel
theorem d6_44 : decode prog_2_method_3_code 44 = .ok (.arraylength, 1) := by decide +kernel
theorem d6_45 : decode prog_2_method_3_code 45 = .ok (.i2l, 1) := by decide +kernel
theorem d6_46 : decode prog_2_method_3_code 46 = .ok (.invokestatic 38, 3) := by decide +kernel
theorem d6_49 : decode prog_2_method_3_code 49 = .ok (.l2i, 1) := by decide +kernel
theorem d6_50 : decode prog_2_method_3_code 50 = .ok (.istore 5, 2) := by decide +kernel
theorem d6_52 : decode prog_2_method_3_code 52 = .ok (.aload_n 1, 1) := by decide +kernel
theorem d6_53 : decode prog_2_method_3_code 53 = .ok (.iload_n 2, 1) := by decide +kernel
theorem d6_54 : decode prog_2_method_3_code 54 = .ok (.iload_n 2, 1) := by decide +kernel
theorem d6_55 : decode prog_2_method_3_code 55 = .ok (.iload_n 3, 1) := by decide +kernel
theorem d6_56 : decode prog_2_method_3_code 56 = .ok (.iadd, 1) := by decide +kernel
theorem d6_57 : decode prog_2_method_3_code 57 = .ok (.aload_n 0, 1) := by decide +kernel
theorem d6_58 : decode prog_2_method_3_code 58 = .ok (.getfield 25, 3) := by decide +kernel
theorem d6_61 : decode prog_2_method_3_code 61 = .ok (.iload 4, 2) := by decide +kernel
theorem d6_63 : decode prog_2_method_3_code 63 = .ok (.iload 5, 2) := by decide +kernel
theorem d6_65 : decode prog_2_method_3_code 65 = .ok (.invokestatic 44, 3) := by decide +kernel
theorem d6_68 : decode prog_2_method_3_code 68 = .ok (.istore 6, 2) := by decide +kernel
theorem d6_70 : decode prog_2_method_3_code 70 = .ok (.iload 6, 2) := by decide +kernel
theorem d6_72 : decode prog_2_method_3_code 72 = .ok (.ifCond .lt 15, 3) := by decide +kernel
theorem d6_75 : decode prog_2_method_3_code 75 = .ok (.aload_n 0, 1) := by decide +kernel
theorem d6_76 : decode prog_2_method_3_code 76 = .ok (.aload_n 0, 1) := by decide +kernel
theorem d6_77 : decode prog_2_method_3_code 77 = .ok (.getfield 35, 3) := by decide +kernel
theorem d6_80 : decode prog_2_method_3_code 80 = .ok (.iload 6, 2) := by decide +kernel
theorem d6_82 : decode prog_2_method_3_code 82 = .ok (.i2l, 1) := by decide +kernel
theorem d6_83 : decode prog_2_method_3_code 83 = .ok (.ladd, 1) := by decide +kernel
theorem d6_84 : decode prog_2_method_3_code 84 = .ok (.putfield 9, 3) := by decide +kernel
theorem d6_87 : decode prog_2_method_3_code 87 = .ok (.aload_n 0, 1) := by decide +kernel
theorem d6_88 : decode prog_2_method_3_code 88 = .ok (.dup, 1) := by decide +kernel
theorem d6_89 : decode prog_2_method_3_code 89 = .ok (.getfield 35, 3) := by decide +kernel
theorem d6_92 : decode prog_2_method_3_code 92 = .ok (.iload_n 3, 1) := by decide +kernel
theorem d6_93 : decode prog_2_method_3_code 93 = .ok (.i2l, 1) := by decide +kernel
theorem d6_94 : decode prog_2_method_3_code 94 = .ok (.ladd, 1) := by decide +kernel
theorem d6_95 : decode prog_2_method_3_code 95 = .ok (.putfield 35, 3) := by decide +kernel
theorem d6_98 : decode prog_2_method_3_code 98 = .ok (.return_, 1) := by decide +kernel
theorem pn_6 : plainName "com/example/bytelace/bytelace/cli/FirstDifference" = true := by first | (simp [plainName, overriddenIn]; done) | decide +kernel
theorem pd6_0 : parseMethodDescriptor "(III)I" = some ⟨[.int, .int, .int], some .int⟩ := by decide +kernel
theorem pd6_1 : parseMethodDescriptor "(JJ)J" = some ⟨[.long, .long], some .long⟩ := by decide +kernel
theorem pd6_2 : parseMethodDescriptor "([BII[BII)I" = some ⟨[(.array .byte), .int, .int, (.array .byte), .int, .int], some .int⟩ := by decide +kernel
theorem ef_6 (m : MethodId) (x0 : Addr) (x1 : Addr) (x2 : Int32) (x3 : Int32) : entryFrame m #[(.ref x0), (.ref x1), (.int x2), (.int x3)] 7 = mkF m 0 #[.val (.ref x0), .val (.ref x1), .val (.int x2), .val (.int x3), .unset, .unset, .unset] [] := by first | (simp [entryFrame, mkF, argsToLocals, Value.category]; done) | rfl
def Q6 (Z : State) (a : Addr) (u : Addr) (o' : Int32) (l' : Int32) (d' wr' : Int64) (x : Addr) (n' nb' : Int32) (fx' fb' : Nat → Int32) (h0 : Heap) (n0 : Nat) (v : Option Value) (h : Heap) (L : List Loc) : Prop := v = none ∧ Fr n0 L ∧ Keep h0 h [a] ∧ Fld Z h a "com/example/bytelace/bytelace/cli/FirstDifference" "difference" "J" (.long (own_wd d' wr' fb' o' l' n' fx')) ∧ Fld Z h a "com/example/bytelace/bytelace/cli/FirstDifference" "written" "J" (.long (wr' + (l'.toInt64))) ∧ Fld Z h a "com/example/bytelace/bytelace/cli/FirstDifference" "expected" "[B" (.ref x)
set_option maxRecDepth 65536 in
set_option maxHeartbeats 40000000 in
theorem rm6 (l : Launch) (Z : State) (a0 : Array Value) (hw : ∀ d ∈ tables_1, d.before a0 Z = true) (ws : List Jvm.Cond) (a : Addr) (u : Addr) (o' : Int32) (l' : Int32) (d' wr' : Int64) (x : Addr) (n' nb' : Int32) (fx' fb' : Nat → Int32) (h0 : Heap) (n0 : Nat) (Z0 : n0 ≤ h0.size) (E_a : Exa Z h0 a "com/example/bytelace/bytelace/cli/FirstDifference") (F_difference_a : Fld Z h0 a "com/example/bytelace/bytelace/cli/FirstDifference" "difference" "J" (.long d')) (F_written_a : Fld Z h0 a "com/example/bytelace/bytelace/cli/FirstDifference" "written" "J" (.long wr')) (F_expected_a : Fld Z h0 a "com/example/bytelace/bytelace/cli/FirstDifference" "expected" "[B" (.ref x)) (g_a : n0 ≤ a) (V_x : own_A Z h0 x .byte n' fx') (V_u : own_A Z h0 u .byte nb' fb') (h1 : 0 ≤ o'.toInt) (h2 : 0 ≤ l'.toInt) (h3 : l'.toInt ≤ 4) (h4 : o'.toInt + l'.toInt ≤ nb'.toInt) (h5 : 0 ≤ wr'.toInt ∧ wr'.toInt ≤ 4) (h6 : 0 ≤ n'.toInt ∧ n'.toInt ≤ 4) :
    MetFree l (⟨"com/example/bytelace/bytelace/cli/FirstDifference", "write", "([BII)V"⟩ : MethodName) (head1 (Jvm.Cond.code (⟨"com/example/bytelace/bytelace/cli/FirstDifference", "write", "([BII)V"⟩ : MethodName) prog_2_method_3_code 7 none :: ws) ({ frames := 2, cells := 0, slots := 0, locals := 40 } : Room)) (fun ar U => ar = #[(.ref a), (.ref u), (.int o'), (.int l')] ∧ Z.Warmed39 U.vm ∧ U.heap = h0) (fun _ _ _ _ _ => True) (fun _ U o U' => ∃ v L, o = .returned v ∧ Q6 Z a u o' l' d' wr' x n' nb' fx' fb' h0 n0 v U'.heap L ∧ FrameEnd U o U' L ({ frames := 2, cells := 0, slots := 0, locals := 40 } : Room).cells ({ frames := 2, cells := 0, slots := 0, locals := 40 } : Room).slots) := by
  refine MetFree.of_bodySF (plainFor_of_name pn_6) hisR ?_
  intro p e s m args below meth c s₁ Bd hml0 hP hK
  obtain ⟨rfl, hZ, hh⟩ := hP
  have hx := Bd.exec
  have hby := Bd.bytes
  have hml : c.maxLocals = 7 := hml0
  have hown : s.vm.findClass "com/example/bytelace/bytelace/cli/FirstDifference" = some m.cls := findClass_of_methodNamed Bd.named
  have hnm := (name_of_methodNamed Bd.named Bd.method).1
  have X0 : Stand p l e ({ frames := 2, cells := 0, slots := 0, locals := 40 } : Room) s m #[(.ref a), (.ref u), (.int o'), (.int l')] below meth c s₁ [] 0 0 := Stand.of_body Bd
  have e0 : s₁.heap = h0 := by rw [← hh, Bd.state]; rfl
  have N0 := Fr.nil n0
  have K0 : Keep h0 h0 [a] := Keep.refl h0 _
  have pre0 : ∀ t, Steps p.tables e below (s₁.setTop (mkF m 0 #[.val (.ref a), .val (.ref u), .val (.int o'), .val (.int l'), .unset, .unset, .unset] [])) t → Steps p.tables e below (s₁.setTop (entryFrame m #[(.ref a), (.ref u), (.int o'), (.int l')] 7)) t := fun t k => castTop (ef_6 m a u o' l') k
  obtain ⟨cl31, Ar31, S31, M31, H31⟩ := id V_u
  obtain ⟨_, _, ⟨T2, L2, k2, n2⟩, -, X2, ⟨Lc2, hQ2, l2, y2, z2⟩, st2⟩ := Jvm.LawKit.callS X0 hx (y := (⟨"java/util/Objects", "checkFromIndexSize", "(III)I"⟩ : MethodName)) hown (mvT hZ (hw _ (List.mem_of_getElem? (i := 42) rfl))) (mvT hZ (hw _ (List.mem_of_getElem? (i := 43) rfl))) (mvT hZ (hw _ (List.mem_of_getElem? (i := 31) rfl))) (mvT hZ (hw _ (List.mem_of_getElem? (i := 44) rfl))) (by decide) (backOf (W := 0) (rm7 l Z a0 hw [] o' l' nb' h0 n0 Z0 (own_ck1 h1 h2 h4) (own_ck2 h1 h2 h4)) hZ (hw _ (List.mem_of_getElem? (i := 44) rfl)) (hw _ (List.mem_of_getElem? (i := 31) rfl)) (by decide) (by decide)) (g := (mkF m 4 #[.val (.ref a), .val (.ref u), .val (.int o'), .val (.int l'), .unset, .unset, .unset] [(.int nb'), (.int l'), (.int o')])) rfl (by rw [hml]; rfl) (argsL := [(.int o'), (.int l'), (.int nb')]) (rest := []) (lenOf pd6_0 rfl) rfl (by show 2 * 0 + _ ≤ _; exact Nat.le_of_eq rfl) (hb hby d6_4) (fun _ _ => ⟨rfl, e0, (by decide : 0 + 0 ≤ _), (by decide : 0 + 0 ≤ _)⟩)
  dsimp only [Pt.U, Pt.locs, Pt.cells, Pt.slots] at X2 l2 y2 z2 st2 hQ2
  subst l2 y2 z2
  obtain ⟨rfl, N2q, hh2⟩ := hQ2
  have N2 := Fr.app N0 N2q
  obtain ⟨T3, X3, e3, st3⟩ := getF X2 hx hZ hown (host := "") (Or.inl (hw _ (List.mem_of_getElem? (i := 20) rfl))) Via.refl hh2 F_difference_a (g := (mkF m 9 #[.val (.ref a), .val (.ref u), .val (.int o'), .val (.int l'), .unset, .unset, .unset] [(.ref a)])) rfl rfl (hb hby d6_9)
  have pre4 : ∀ t, Steps p.tables e below (T3.setTop (mkF m 14 #[.val (.ref a), .val (.ref u), .val (.int o'), .val (.int l'), .unset, .unset, .unset] [(.int (lcmpW d' (0 : Int64)))])) t → Steps p.tables e below (s₁.setTop (entryFrame m #[(.ref a), (.ref u), (.int o'), (.int l')] 7)) t := by
    intro t kt
    refine pre0 t ?_
    show Steps p.tables e below (s₁.setTop (mkF m 0 #[.val (.ref a), .val (.ref u), .val (.int o'), .val (.int l'), .unset, .unset, .unset] [])) _
    refine XS.iloadN X0.here hx rfl (hb hby d6_0) rfl ?_
    show Steps p.tables e below (s₁.setTop (mkF m 1 #[.val (.ref a), .val (.ref u), .val (.int o'), .val (.int l'), .unset, .unset, .unset] [(.int o')])) _
    refine XS.iloadN X0.here hx rfl (hb hby d6_1) rfl ?_
    show Steps p.tables e below (s₁.setTop (mkF m 2 #[.val (.ref a), .val (.ref u), .val (.int o'), .val (.int l'), .unset, .unset, .unset] [(.int l'), (.int o')])) _
    refine XS.aloadN X0.here hx rfl (hb hby d6_2) rfl rfl ?_
    show Steps p.tables e below (s₁.setTop (mkF m 3 #[.val (.ref a), .val (.ref u), .val (.int o'), .val (.int l'), .unset, .unset, .unset] [(.ref u), (.int l'), (.int o')])) _
    refine X0.arraylength hx (cell := cl31) (by rw [e0]; exact Ar31.1) (State.isArrayOf_alike hZ.alike Ar31.2.1) (g := (mkF m 3 #[.val (.ref a), .val (.ref u), .val (.int o'), .val (.int l'), .unset, .unset, .unset] [(.ref u), (.int l'), (.int o')])) rfl (rest := [(.int l'), (.int o')]) rfl (hb hby d6_3) _ ?_
    rw [len_of S31 M31]
    show Steps p.tables e below (s₁.setTop (mkF m 4 #[.val (.ref a), .val (.ref u), .val (.int o'), .val (.int l'), .unset, .unset, .unset] [(.int nb'), (.int l'), (.int o')])) _
    refine st2 _ ?_
    show Steps p.tables e below (T2.setTop (mkF m 7 #[.val (.ref a), .val (.ref u), .val (.int o'), .val (.int l'), .unset, .unset, .unset] [(.int o')])) _
    refine XS.pop X2.here hx rfl (hb hby d6_7) rfl rfl ?_
    show Steps p.tables e below (T2.setTop (mkF m 8 #[.val (.ref a), .val (.ref u), .val (.int o'), .val (.int l'), .unset, .unset, .unset] [])) _
    refine XS.aloadN X2.here hx rfl (hb hby d6_8) rfl rfl ?_
    show Steps p.tables e below (T2.setTop (mkF m 9 #[.val (.ref a), .val (.ref u), .val (.int o'), .val (.int l'), .unset, .unset, .unset] [(.ref a)])) _
    refine st3 _ ?_
    show Steps p.tables e below (T3.setTop (mkF m 12 #[.val (.ref a), .val (.ref u), .val (.int o'), .val (.int l'), .unset, .unset, .unset] [(.long d')])) _
    refine XS.lconst X3.here hx rfl (hb hby d6_12) ?_
    show Steps p.tables e below (T3.setTop (mkF m 13 #[.val (.ref a), .val (.ref u), .val (.int o'), .val (.int l'), .unset, .unset, .unset] [(.long (0 : Int64)), (.long d')])) _
    refine XS.lcmp X3.here hx rfl (hb hby d6_13) rfl ?_
    exact kt
  by_cases hc14_5 : d' < (0 : Int64)
  · obtain ⟨T6, X6, e6, st6⟩ := getF X3 hx hZ hown (host := "") (Or.inl (hw _ (List.mem_of_getElem? (i := 49) rfl))) Via.refl e3 F_written_a (g := (mkF m 18 #[.val (.ref a), .val (.ref u), .val (.int o'), .val (.int l'), .unset, .unset, .unset] [(.ref a)])) rfl rfl (hb hby d6_18)
    obtain ⟨T7, X7, e7, st7⟩ := getF X6 hx hZ hown (host := "") (Or.inl (hw _ (List.mem_of_getElem? (i := 35) rfl))) Via.refl e6 F_expected_a (g := (mkF m 22 #[.val (.ref a), .val (.ref u), .val (.int o'), .val (.int l'), .unset, .unset, .unset] [(.ref a), (.long wr')])) rfl rfl (hb hby d6_22)
    obtain ⟨cl258, Ar258, S258, M258, H258⟩ := id V_x
    obtain ⟨_, _, ⟨T9, L9, k9, n9⟩, -, X9, ⟨Lc9, hQ9, l9, y9, z9⟩, st9⟩ := Jvm.LawKit.callS X7 hx (y := (⟨"java/lang/Math", "min", "(JJ)J"⟩ : MethodName)) hown (mvT hZ (hw _ (List.mem_of_getElem? (i := 51) rfl))) (mvT hZ (hw _ (List.mem_of_getElem? (i := 52) rfl))) (mvT hZ (hw _ (List.mem_of_getElem? (i := 53) rfl))) (mvT hZ (hw _ (List.mem_of_getElem? (i := 54) rfl))) (by decide) (backOf (W := 0) (rm9 l Z a0 hw [] wr' (n'.toInt64) h0 n0 Z0 ) hZ (hw _ (List.mem_of_getElem? (i := 54) rfl)) (hw _ (List.mem_of_getElem? (i := 53) rfl)) (by decide) (by decide)) (g := (mkF m 27 #[.val (.ref a), .val (.ref u), .val (.int o'), .val (.int l'), .unset, .unset, .unset] [(.long (n'.toInt64)), (.long wr')])) rfl (by rw [hml]; rfl) (argsL := [(.long wr'), (.long (n'.toInt64))]) (rest := []) (lenOf pd6_1 rfl) rfl (by show 2 * 0 + _ ≤ _; exact Nat.le_of_eq rfl) (hb hby d6_27) (fun _ _ => ⟨rfl, e7, (by decide : 0 + 0 ≤ _), (by decide : 0 + 0 ≤ _)⟩)
    dsimp only [Pt.U, Pt.locs, Pt.cells, Pt.slots] at X9 l9 y9 z9 st9 hQ9
    subst l9 y9 z9
    obtain ⟨rfl, N9q, hh9⟩ := hQ9
    have N9 := Fr.app N2 N9q
    obtain ⟨T10, X10, e10, st10⟩ := getF X9 hx hZ hown (host := "") (Or.inl (hw _ (List.mem_of_getElem? (i := 49) rfl))) Via.refl hh9 F_written_a (g := (mkF m 34 #[.val (.ref a), .val (.ref u), .val (.int o'), .val (.int l'), .val (.int ((own_minl wr' (n'.toInt64)).toInt32)), .unset, .unset] [(.ref a)])) rfl rfl (hb hby d6_34)
    obtain ⟨T11, X11, e11, st11⟩ := getF X10 hx hZ hown (host := "") (Or.inl (hw _ (List.mem_of_getElem? (i := 35) rfl))) Via.refl e10 F_expected_a (g := (mkF m 41 #[.val (.ref a), .val (.ref u), .val (.int o'), .val (.int l'), .val (.int ((own_minl wr' (n'.toInt64)).toInt32)), .unset, .unset] [(.ref a), (.long (wr' + (l'.toInt64)))])) rfl rfl (hb hby d6_41)
    obtain ⟨cl4412, Ar4412, S4412, M4412, H4412⟩ := id V_x
    obtain ⟨_, _, ⟨T13, L13, k13, n13⟩, -, X13, ⟨Lc13, hQ13, l13, y13, z13⟩, st13⟩ := Jvm.LawKit.callS X11 hx (y := (⟨"java/lang/Math", "min", "(JJ)J"⟩ : MethodName)) hown (mvT hZ (hw _ (List.mem_of_getElem? (i := 51) rfl))) (mvT hZ (hw _ (List.mem_of_getElem? (i := 52) rfl))) (mvT hZ (hw _ (List.mem_of_getElem? (i := 53) rfl))) (mvT hZ (hw _ (List.mem_of_getElem? (i := 54) rfl))) (by decide) (backOf (W := 0) (rm9 l Z a0 hw [] (wr' + (l'.toInt64)) (n'.toInt64) h0 n0 Z0 ) hZ (hw _ (List.mem_of_getElem? (i := 54) rfl)) (hw _ (List.mem_of_getElem? (i := 53) rfl)) (by decide) (by decide)) (g := (mkF m 46 #[.val (.ref a), .val (.ref u), .val (.int o'), .val (.int l'), .val (.int ((own_minl wr' (n'.toInt64)).toInt32)), .unset, .unset] [(.long (n'.toInt64)), (.long (wr' + (l'.toInt64)))])) rfl (by rw [hml]; rfl) (argsL := [(.long (wr' + (l'.toInt64))), (.long (n'.toInt64))]) (rest := []) (lenOf pd6_1 rfl) rfl (by show 2 * 0 + _ ≤ _; exact Nat.le_of_eq rfl) (hb hby d6_46) (fun _ _ => ⟨rfl, e11, (by decide : 0 + 0 ≤ _), (by decide : 0 + 0 ≤ _)⟩)
    dsimp only [Pt.U, Pt.locs, Pt.cells, Pt.slots] at X13 l13 y13 z13 st13 hQ13
    subst l13 y13 z13
    obtain ⟨rfl, N13q, hh13⟩ := hQ13
    have N13 := Fr.app N9 N13q
    obtain ⟨T14, X14, e14, st14⟩ := getF X13 hx hZ hown (host := "") (Or.inl (hw _ (List.mem_of_getElem? (i := 35) rfl))) Via.refl hh13 F_expected_a (g := (mkF m 58 #[.val (.ref a), .val (.ref u), .val (.int o'), .val (.int l'), .val (.int ((own_minl wr' (n'.toInt64)).toInt32)), .val (.int ((own_minl (wr' + (l'.toInt64)) (n'.toInt64)).toInt32)), .unset] [(.ref a), (.int (o' + l')), (.int o'), (.ref u)])) rfl rfl (hb hby d6_58)
    obtain ⟨_, _, ⟨T15, L15, k15, n15⟩, -, X15, ⟨Lc15, hQ15, l15, y15, z15⟩, st15⟩ := Jvm.LawKit.callS X14 hx (y := (⟨"java/util/Arrays", "mismatch", "([BII[BII)I"⟩ : MethodName)) hown (mvT hZ (hw _ (List.mem_of_getElem? (i := 55) rfl))) (mvT hZ (hw _ (List.mem_of_getElem? (i := 56) rfl))) (mvT hZ (hw _ (List.mem_of_getElem? (i := 57) rfl))) (mvT hZ (hw _ (List.mem_of_getElem? (i := 58) rfl))) (by decide) (backOf (W := 0) (rm10 l Z a0 hw [] u o' (o' + l') x ((own_minl wr' (n'.toInt64)).toInt32) ((own_minl (wr' + (l'.toInt64)) (n'.toInt64)).toInt32) nb' n' fb' fx' h0 n0 Z0 V_u V_x h1 (by rw [own_addb h1 h2 h4]; omega) (by rw [own_addb h1 h2 h4]; omega) (by rw [(own_se h5 h6 ⟨h2, h3⟩).1]; omega) (by rw [(own_se h5 h6 ⟨h2, h3⟩).1, (own_se h5 h6 ⟨h2, h3⟩).2]; omega) (by rw [(own_se h5 h6 ⟨h2, h3⟩).2]; omega) (by rw [own_addb h1 h2 h4]; omega)) hZ (hw _ (List.mem_of_getElem? (i := 58) rfl)) (hw _ (List.mem_of_getElem? (i := 57) rfl)) (by decide) (by decide)) (g := (mkF m 65 #[.val (.ref a), .val (.ref u), .val (.int o'), .val (.int l'), .val (.int ((own_minl wr' (n'.toInt64)).toInt32)), .val (.int ((own_minl (wr' + (l'.toInt64)) (n'.toInt64)).toInt32)), .unset] [(.int ((own_minl (wr' + (l'.toInt64)) (n'.toInt64)).toInt32)), (.int ((own_minl wr' (n'.toInt64)).toInt32)), (.ref x), (.int (o' + l')), (.int o'), (.ref u)])) rfl (by rw [hml]; rfl) (argsL := [(.ref u), (.int o'), (.int (o' + l')), (.ref x), (.int ((own_minl wr' (n'.toInt64)).toInt32)), (.int ((own_minl (wr' + (l'.toInt64)) (n'.toInt64)).toInt32))]) (rest := []) (lenOf pd6_2 rfl) rfl (by show 2 * 0 + _ ≤ _; exact Nat.le_of_eq rfl) (hb hby d6_65) (fun _ _ => ⟨rfl, e14, (by decide : 0 + 0 ≤ _), (by decide : 0 + 0 ≤ _)⟩)
    dsimp only [Pt.U, Pt.locs, Pt.cells, Pt.slots] at X15 l15 y15 z15 st15 hQ15
    subst l15 y15 z15
    obtain ⟨rfl, N15q, hh15⟩ := hQ15
    have N15 := Fr.app N13 N15q
    have pre16 : ∀ t, Steps p.tables e below (T15.setTop (mkF m 72 #[.val (.ref a), .val (.ref u), .val (.int o'), .val (.int l'), .val (.int ((own_minl wr' (n'.toInt64)).toInt32)), .val (.int ((own_minl (wr' + (l'.toInt64)) (n'.toInt64)).toInt32)), .val (.int (own_mis fb' o' (o' + l') fx' ((own_minl wr' (n'.toInt64)).toInt32) ((own_minl (wr' + (l'.toInt64)) (n'.toInt64)).toInt32)))] [(.int (own_mis fb' o' (o' + l') fx' ((own_minl wr' (n'.toInt64)).toInt32) ((own_minl (wr' + (l'.toInt64)) (n'.toInt64)).toInt32)))])) t → Steps p.tables e below (s₁.setTop (entryFrame m #[(.ref a), (.ref u), (.int o'), (.int l')] 7)) t := by
      intro t kt
      refine pre4 t ?_
      show Steps p.tables e below (T3.setTop (mkF m 14 #[.val (.ref a), .val (.ref u), .val (.int o'), .val (.int l'), .unset, .unset, .unset] [(.int (lcmpW d' (0 : Int64)))])) _
      refine XS.ifNo X3.here hx rfl (hb hby d6_14) rfl ((if0 _ _).trans (tlt ((lw_lt d' (0 : Int64)).mpr hc14_5)).2.1) ?_
      show Steps p.tables e below (T3.setTop (mkF m 17 #[.val (.ref a), .val (.ref u), .val (.int o'), .val (.int l'), .unset, .unset, .unset] [])) _
      refine XS.aloadN X3.here hx rfl (hb hby d6_17) rfl rfl ?_
      show Steps p.tables e below (T3.setTop (mkF m 18 #[.val (.ref a), .val (.ref u), .val (.int o'), .val (.int l'), .unset, .unset, .unset] [(.ref a)])) _
      refine st6 _ ?_
      show Steps p.tables e below (T6.setTop (mkF m 21 #[.val (.ref a), .val (.ref u), .val (.int o'), .val (.int l'), .unset, .unset, .unset] [(.long wr')])) _
      refine XS.aloadN X6.here hx rfl (hb hby d6_21) rfl rfl ?_
      show Steps p.tables e below (T6.setTop (mkF m 22 #[.val (.ref a), .val (.ref u), .val (.int o'), .val (.int l'), .unset, .unset, .unset] [(.ref a), (.long wr')])) _
      refine st7 _ ?_
      show Steps p.tables e below (T7.setTop (mkF m 25 #[.val (.ref a), .val (.ref u), .val (.int o'), .val (.int l'), .unset, .unset, .unset] [(.ref x), (.long wr')])) _
      refine X7.arraylength hx (cell := cl258) (by rw [e7]; exact Ar258.1) (State.isArrayOf_alike hZ.alike Ar258.2.1) (g := (mkF m 25 #[.val (.ref a), .val (.ref u), .val (.int o'), .val (.int l'), .unset, .unset, .unset] [(.ref x), (.long wr')])) rfl (rest := [(.long wr')]) rfl (hb hby d6_25) _ ?_
      rw [len_of S258 M258]
      show Steps p.tables e below (T7.setTop (mkF m 26 #[.val (.ref a), .val (.ref u), .val (.int o'), .val (.int l'), .unset, .unset, .unset] [(.int n'), (.long wr')])) _
      refine XS.i2l X7.here hx rfl (hb hby d6_26) rfl ?_
      show Steps p.tables e below (T7.setTop (mkF m 27 #[.val (.ref a), .val (.ref u), .val (.int o'), .val (.int l'), .unset, .unset, .unset] [(.long (n'.toInt64)), (.long wr')])) _
      refine st9 _ ?_
      show Steps p.tables e below (T9.setTop (mkF m 30 #[.val (.ref a), .val (.ref u), .val (.int o'), .val (.int l'), .unset, .unset, .unset] [(.long (own_minl wr' (n'.toInt64)))])) _
      refine XS.l2i X9.here hx rfl (hb hby d6_30) rfl ?_
      show Steps p.tables e below (T9.setTop (mkF m 31 #[.val (.ref a), .val (.ref u), .val (.int o'), .val (.int l'), .unset, .unset, .unset] [(.int ((own_minl wr' (n'.toInt64)).toInt32))])) _
      refine XS.istore X9.here hx rfl (hb hby d6_31) rfl (l' := #[.val (.ref a), .val (.ref u), .val (.int o'), .val (.int l'), .val (.int ((own_minl wr' (n'.toInt64)).toInt32)), .unset, .unset]) rfl ?_
      show Steps p.tables e below (T9.setTop (mkF m 33 #[.val (.ref a), .val (.ref u), .val (.int o'), .val (.int l'), .val (.int ((own_minl wr' (n'.toInt64)).toInt32)), .unset, .unset] [])) _
      refine XS.aloadN X9.here hx rfl (hb hby d6_33) rfl rfl ?_
      show Steps p.tables e below (T9.setTop (mkF m 34 #[.val (.ref a), .val (.ref u), .val (.int o'), .val (.int l'), .val (.int ((own_minl wr' (n'.toInt64)).toInt32)), .unset, .unset] [(.ref a)])) _
      refine st10 _ ?_
      show Steps p.tables e below (T10.setTop (mkF m 37 #[.val (.ref a), .val (.ref u), .val (.int o'), .val (.int l'), .val (.int ((own_minl wr' (n'.toInt64)).toInt32)), .unset, .unset] [(.long wr')])) _
      refine XS.iloadN X10.here hx rfl (hb hby d6_37) rfl ?_
      show Steps p.tables e below (T10.setTop (mkF m 38 #[.val (.ref a), .val (.ref u), .val (.int o'), .val (.int l'), .val (.int ((own_minl wr' (n'.toInt64)).toInt32)), .unset, .unset] [(.int l'), (.long wr')])) _
      refine XS.i2l X10.here hx rfl (hb hby d6_38) rfl ?_
      show Steps p.tables e below (T10.setTop (mkF m 39 #[.val (.ref a), .val (.ref u), .val (.int o'), .val (.int l'), .val (.int ((own_minl wr' (n'.toInt64)).toInt32)), .unset, .unset] [(.long (l'.toInt64)), (.long wr')])) _
      refine XS.ladd X10.here hx rfl (hb hby d6_39) rfl ?_
      show Steps p.tables e below (T10.setTop (mkF m 40 #[.val (.ref a), .val (.ref u), .val (.int o'), .val (.int l'), .val (.int ((own_minl wr' (n'.toInt64)).toInt32)), .unset, .unset] [(.long (wr' + (l'.toInt64)))])) _
      refine XS.aloadN X10.here hx rfl (hb hby d6_40) rfl rfl ?_
      show Steps p.tables e below (T10.setTop (mkF m 41 #[.val (.ref a), .val (.ref u), .val (.int o'), .val (.int l'), .val (.int ((own_minl wr' (n'.toInt64)).toInt32)), .unset, .unset] [(.ref a), (.long (wr' + (l'.toInt64)))])) _
      refine st11 _ ?_
      show Steps p.tables e below (T11.setTop (mkF m 44 #[.val (.ref a), .val (.ref u), .val (.int o'), .val (.int l'), .val (.int ((own_minl wr' (n'.toInt64)).toInt32)), .unset, .unset] [(.ref x), (.long (wr' + (l'.toInt64)))])) _
      refine X11.arraylength hx (cell := cl4412) (by rw [e11]; exact Ar4412.1) (State.isArrayOf_alike hZ.alike Ar4412.2.1) (g := (mkF m 44 #[.val (.ref a), .val (.ref u), .val (.int o'), .val (.int l'), .val (.int ((own_minl wr' (n'.toInt64)).toInt32)), .unset, .unset] [(.ref x), (.long (wr' + (l'.toInt64)))])) rfl (rest := [(.long (wr' + (l'.toInt64)))]) rfl (hb hby d6_44) _ ?_
      rw [len_of S4412 M4412]
      show Steps p.tables e below (T11.setTop (mkF m 45 #[.val (.ref a), .val (.ref u), .val (.int o'), .val (.int l'), .val (.int ((own_minl wr' (n'.toInt64)).toInt32)), .unset, .unset] [(.int n'), (.long (wr' + (l'.toInt64)))])) _
      refine XS.i2l X11.here hx rfl (hb hby d6_45) rfl ?_
      show Steps p.tables e below (T11.setTop (mkF m 46 #[.val (.ref a), .val (.ref u), .val (.int o'), .val (.int l'), .val (.int ((own_minl wr' (n'.toInt64)).toInt32)), .unset, .unset] [(.long (n'.toInt64)), (.long (wr' + (l'.toInt64)))])) _
      refine st13 _ ?_
      show Steps p.tables e below (T13.setTop (mkF m 49 #[.val (.ref a), .val (.ref u), .val (.int o'), .val (.int l'), .val (.int ((own_minl wr' (n'.toInt64)).toInt32)), .unset, .unset] [(.long (own_minl (wr' + (l'.toInt64)) (n'.toInt64)))])) _
      refine XS.l2i X13.here hx rfl (hb hby d6_49) rfl ?_
      show Steps p.tables e below (T13.setTop (mkF m 50 #[.val (.ref a), .val (.ref u), .val (.int o'), .val (.int l'), .val (.int ((own_minl wr' (n'.toInt64)).toInt32)), .unset, .unset] [(.int ((own_minl (wr' + (l'.toInt64)) (n'.toInt64)).toInt32))])) _
      refine XS.istore X13.here hx rfl (hb hby d6_50) rfl (l' := #[.val (.ref a), .val (.ref u), .val (.int o'), .val (.int l'), .val (.int ((own_minl wr' (n'.toInt64)).toInt32)), .val (.int ((own_minl (wr' + (l'.toInt64)) (n'.toInt64)).toInt32)), .unset]) rfl ?_
      show Steps p.tables e below (T13.setTop (mkF m 52 #[.val (.ref a), .val (.ref u), .val (.int o'), .val (.int l'), .val (.int ((own_minl wr' (n'.toInt64)).toInt32)), .val (.int ((own_minl (wr' + (l'.toInt64)) (n'.toInt64)).toInt32)), .unset] [])) _
      refine XS.aloadN X13.here hx rfl (hb hby d6_52) rfl rfl ?_
      show Steps p.tables e below (T13.setTop (mkF m 53 #[.val (.ref a), .val (.ref u), .val (.int o'), .val (.int l'), .val (.int ((own_minl wr' (n'.toInt64)).toInt32)), .val (.int ((own_minl (wr' + (l'.toInt64)) (n'.toInt64)).toInt32)), .unset] [(.ref u)])) _
      refine XS.iloadN X13.here hx rfl (hb hby d6_53) rfl ?_
      show Steps p.tables e below (T13.setTop (mkF m 54 #[.val (.ref a), .val (.ref u), .val (.int o'), .val (.int l'), .val (.int ((own_minl wr' (n'.toInt64)).toInt32)), .val (.int ((own_minl (wr' + (l'.toInt64)) (n'.toInt64)).toInt32)), .unset] [(.int o'), (.ref u)])) _
      refine XS.iloadN X13.here hx rfl (hb hby d6_54) rfl ?_
      show Steps p.tables e below (T13.setTop (mkF m 55 #[.val (.ref a), .val (.ref u), .val (.int o'), .val (.int l'), .val (.int ((own_minl wr' (n'.toInt64)).toInt32)), .val (.int ((own_minl (wr' + (l'.toInt64)) (n'.toInt64)).toInt32)), .unset] [(.int o'), (.int o'), (.ref u)])) _
      refine XS.iloadN X13.here hx rfl (hb hby d6_55) rfl ?_
      show Steps p.tables e below (T13.setTop (mkF m 56 #[.val (.ref a), .val (.ref u), .val (.int o'), .val (.int l'), .val (.int ((own_minl wr' (n'.toInt64)).toInt32)), .val (.int ((own_minl (wr' + (l'.toInt64)) (n'.toInt64)).toInt32)), .unset] [(.int l'), (.int o'), (.int o'), (.ref u)])) _
      refine XS.iadd X13.here hx rfl (hb hby d6_56) rfl ?_
      show Steps p.tables e below (T13.setTop (mkF m 57 #[.val (.ref a), .val (.ref u), .val (.int o'), .val (.int l'), .val (.int ((own_minl wr' (n'.toInt64)).toInt32)), .val (.int ((own_minl (wr' + (l'.toInt64)) (n'.toInt64)).toInt32)), .unset] [(.int (o' + l')), (.int o'), (.ref u)])) _
      refine XS.aloadN X13.here hx rfl (hb hby d6_57) rfl rfl ?_
      show Steps p.tables e below (T13.setTop (mkF m 58 #[.val (.ref a), .val (.ref u), .val (.int o'), .val (.int l'), .val (.int ((own_minl wr' (n'.toInt64)).toInt32)), .val (.int ((own_minl (wr' + (l'.toInt64)) (n'.toInt64)).toInt32)), .unset] [(.ref a), (.int (o' + l')), (.int o'), (.ref u)])) _
      refine st14 _ ?_
      show Steps p.tables e below (T14.setTop (mkF m 61 #[.val (.ref a), .val (.ref u), .val (.int o'), .val (.int l'), .val (.int ((own_minl wr' (n'.toInt64)).toInt32)), .val (.int ((own_minl (wr' + (l'.toInt64)) (n'.toInt64)).toInt32)), .unset] [(.ref x), (.int (o' + l')), (.int o'), (.ref u)])) _
      refine XS.iload X14.here hx rfl (hb hby d6_61) rfl ?_
      show Steps p.tables e below (T14.setTop (mkF m 63 #[.val (.ref a), .val (.ref u), .val (.int o'), .val (.int l'), .val (.int ((own_minl wr' (n'.toInt64)).toInt32)), .val (.int ((own_minl (wr' + (l'.toInt64)) (n'.toInt64)).toInt32)), .unset] [(.int ((own_minl wr' (n'.toInt64)).toInt32)), (.ref x), (.int (o' + l')), (.int o'), (.ref u)])) _
      refine XS.iload X14.here hx rfl (hb hby d6_63) rfl ?_
      show Steps p.tables e below (T14.setTop (mkF m 65 #[.val (.ref a), .val (.ref u), .val (.int o'), .val (.int l'), .val (.int ((own_minl wr' (n'.toInt64)).toInt32)), .val (.int ((own_minl (wr' + (l'.toInt64)) (n'.toInt64)).toInt32)), .unset] [(.int ((own_minl (wr' + (l'.toInt64)) (n'.toInt64)).toInt32)), (.int ((own_minl wr' (n'.toInt64)).toInt32)), (.ref x), (.int (o' + l')), (.int o'), (.ref u)])) _
      refine st15 _ ?_
      show Steps p.tables e below (T15.setTop (mkF m 68 #[.val (.ref a), .val (.ref u), .val (.int o'), .val (.int l'), .val (.int ((own_minl wr' (n'.toInt64)).toInt32)), .val (.int ((own_minl (wr' + (l'.toInt64)) (n'.toInt64)).toInt32)), .unset] [(.int (own_mis fb' o' (o' + l') fx' ((own_minl wr' (n'.toInt64)).toInt32) ((own_minl (wr' + (l'.toInt64)) (n'.toInt64)).toInt32)))])) _
      refine XS.istore X15.here hx rfl (hb hby d6_68) rfl (l' := #[.val (.ref a), .val (.ref u), .val (.int o'), .val (.int l'), .val (.int ((own_minl wr' (n'.toInt64)).toInt32)), .val (.int ((own_minl (wr' + (l'.toInt64)) (n'.toInt64)).toInt32)), .val (.int (own_mis fb' o' (o' + l') fx' ((own_minl wr' (n'.toInt64)).toInt32) ((own_minl (wr' + (l'.toInt64)) (n'.toInt64)).toInt32)))]) rfl ?_
      show Steps p.tables e below (T15.setTop (mkF m 70 #[.val (.ref a), .val (.ref u), .val (.int o'), .val (.int l'), .val (.int ((own_minl wr' (n'.toInt64)).toInt32)), .val (.int ((own_minl (wr' + (l'.toInt64)) (n'.toInt64)).toInt32)), .val (.int (own_mis fb' o' (o' + l') fx' ((own_minl wr' (n'.toInt64)).toInt32) ((own_minl (wr' + (l'.toInt64)) (n'.toInt64)).toInt32)))] [])) _
      refine XS.iload X15.here hx rfl (hb hby d6_70) rfl ?_
      exact kt
    by_cases hc72_17 : (own_mis fb' o' (o' + l') fx' ((own_minl wr' (n'.toInt64)).toInt32) ((own_minl (wr' + (l'.toInt64)) (n'.toInt64)).toInt32)) < (0 : Int32)
    · obtain ⟨T18, X18, e18, st18⟩ := getF X15 hx hZ hown (host := "") (Or.inl (hw _ (List.mem_of_getElem? (i := 49) rfl))) Via.refl hh15 F_written_a (g := (mkF m 89 #[.val (.ref a), .val (.ref u), .val (.int o'), .val (.int l'), .val (.int ((own_minl wr' (n'.toInt64)).toInt32)), .val (.int ((own_minl (wr' + (l'.toInt64)) (n'.toInt64)).toInt32)), .val (.int (own_mis fb' o' (o' + l') fx' ((own_minl wr' (n'.toInt64)).toInt32) ((own_minl (wr' + (l'.toInt64)) (n'.toInt64)).toInt32)))] [(.ref a), (.ref a)])) rfl rfl (hb hby d6_89)
      obtain ⟨T19, h19, X19, e19, W19, st19⟩ := putF X18 hx hZ hown (host := "") (Or.inl (hw _ (List.mem_of_getElem? (i := 49) rfl))) Via.refl e18 F_written_a E_a (Or.inl (hw _ (List.mem_of_getElem? (i := 50) rfl))) (hw _ (List.mem_of_getElem? (i := 6) rfl)) (ty := .long) (by decide) rfl rfl (g := (mkF m 95 #[.val (.ref a), .val (.ref u), .val (.int o'), .val (.int l'), .val (.int ((own_minl wr' (n'.toInt64)).toInt32)), .val (.int ((own_minl (wr' + (l'.toInt64)) (n'.toInt64)).toInt32)), .val (.int (own_mis fb' o' (o' + l') fx' ((own_minl wr' (n'.toInt64)).toInt32) ((own_minl (wr' + (l'.toInt64)) (n'.toInt64)).toInt32)))] [(.long (wr' + (l'.toInt64))), (.ref a)])) rfl rfl (hb hby d6_95)
      have E_a := E_a.wr W19
      have F_difference_a := F_difference_a.other W19 (Or.inr (slot_ne (Or.inl (hw _ (List.mem_of_getElem? (i := 21) rfl))) (Or.inl (hw _ (List.mem_of_getElem? (i := 50) rfl))) (by decide) (t := .long) (t' := .long) (by decide) (by decide)))
      have F_written_a := F_written_a.same W19
      have F_expected_a := F_expected_a.other W19 (Or.inr (slot_ne (Or.inr (hw _ (List.mem_of_getElem? (i := 36) rfl))) (Or.inl (hw _ (List.mem_of_getElem? (i := 50) rfl))) (by decide) (t := (.array .byte)) (t' := .long) (by decide) (by decide)))
      have Zs19 : n0 ≤ h19.size := Nat.le_trans Z0 (Keep.of_wr W19).1
      have K19 : Keep h0 h19 [a] := K0.wr W19 (Or.inl (List.mem_of_getElem? (i := 0) rfl))
      have N19 := Fr.snoc X19 N15 g_a
      obtain ⟨fs, hr, hrun, hended, hW, hsame⟩ := X19.leave (v := none) (fun _ => rfl)
      refine ⟨_, _, pre16 _ ?_, hrun, hended, _, _, rfl, ?_, ⟨_, rfl⟩, hW, hsame.mono (by decide) (by decide)⟩
      · show Steps p.tables e below (T15.setTop (mkF m 72 #[.val (.ref a), .val (.ref u), .val (.int o'), .val (.int l'), .val (.int ((own_minl wr' (n'.toInt64)).toInt32)), .val (.int ((own_minl (wr' + (l'.toInt64)) (n'.toInt64)).toInt32)), .val (.int (own_mis fb' o' (o' + l') fx' ((own_minl wr' (n'.toInt64)).toInt32) ((own_minl (wr' + (l'.toInt64)) (n'.toInt64)).toInt32)))] [(.int (own_mis fb' o' (o' + l') fx' ((own_minl wr' (n'.toInt64)).toInt32) ((own_minl (wr' + (l'.toInt64)) (n'.toInt64)).toInt32)))])) _
        refine XS.ifYes X15.here hx rfl (pc0 := 72) (pc' := 87) rfl (hb hby d6_72) rfl ((if0 _ _).trans (tlt hc72_17).1) (by decide) (by decide) ?_
        show Steps p.tables e below (T15.setTop (mkF m 87 #[.val (.ref a), .val (.ref u), .val (.int o'), .val (.int l'), .val (.int ((own_minl wr' (n'.toInt64)).toInt32)), .val (.int ((own_minl (wr' + (l'.toInt64)) (n'.toInt64)).toInt32)), .val (.int (own_mis fb' o' (o' + l') fx' ((own_minl wr' (n'.toInt64)).toInt32) ((own_minl (wr' + (l'.toInt64)) (n'.toInt64)).toInt32)))] [])) _
        refine XS.aloadN X15.here hx rfl (hb hby d6_87) rfl rfl ?_
        show Steps p.tables e below (T15.setTop (mkF m 88 #[.val (.ref a), .val (.ref u), .val (.int o'), .val (.int l'), .val (.int ((own_minl wr' (n'.toInt64)).toInt32)), .val (.int ((own_minl (wr' + (l'.toInt64)) (n'.toInt64)).toInt32)), .val (.int (own_mis fb' o' (o' + l') fx' ((own_minl wr' (n'.toInt64)).toInt32) ((own_minl (wr' + (l'.toInt64)) (n'.toInt64)).toInt32)))] [(.ref a)])) _
        refine XS.dup X15.here hx rfl (hb hby d6_88) rfl rfl ?_
        show Steps p.tables e below (T15.setTop (mkF m 89 #[.val (.ref a), .val (.ref u), .val (.int o'), .val (.int l'), .val (.int ((own_minl wr' (n'.toInt64)).toInt32)), .val (.int ((own_minl (wr' + (l'.toInt64)) (n'.toInt64)).toInt32)), .val (.int (own_mis fb' o' (o' + l') fx' ((own_minl wr' (n'.toInt64)).toInt32) ((own_minl (wr' + (l'.toInt64)) (n'.toInt64)).toInt32)))] [(.ref a), (.ref a)])) _
        refine st18 _ ?_
        show Steps p.tables e below (T18.setTop (mkF m 92 #[.val (.ref a), .val (.ref u), .val (.int o'), .val (.int l'), .val (.int ((own_minl wr' (n'.toInt64)).toInt32)), .val (.int ((own_minl (wr' + (l'.toInt64)) (n'.toInt64)).toInt32)), .val (.int (own_mis fb' o' (o' + l') fx' ((own_minl wr' (n'.toInt64)).toInt32) ((own_minl (wr' + (l'.toInt64)) (n'.toInt64)).toInt32)))] [(.long wr'), (.ref a)])) _
        refine XS.iloadN X18.here hx rfl (hb hby d6_92) rfl ?_
        show Steps p.tables e below (T18.setTop (mkF m 93 #[.val (.ref a), .val (.ref u), .val (.int o'), .val (.int l'), .val (.int ((own_minl wr' (n'.toInt64)).toInt32)), .val (.int ((own_minl (wr' + (l'.toInt64)) (n'.toInt64)).toInt32)), .val (.int (own_mis fb' o' (o' + l') fx' ((own_minl wr' (n'.toInt64)).toInt32) ((own_minl (wr' + (l'.toInt64)) (n'.toInt64)).toInt32)))] [(.int l'), (.long wr'), (.ref a)])) _
        refine XS.i2l X18.here hx rfl (hb hby d6_93) rfl ?_
        show Steps p.tables e below (T18.setTop (mkF m 94 #[.val (.ref a), .val (.ref u), .val (.int o'), .val (.int l'), .val (.int ((own_minl wr' (n'.toInt64)).toInt32)), .val (.int ((own_minl (wr' + (l'.toInt64)) (n'.toInt64)).toInt32)), .val (.int (own_mis fb' o' (o' + l') fx' ((own_minl wr' (n'.toInt64)).toInt32) ((own_minl (wr' + (l'.toInt64)) (n'.toInt64)).toInt32)))] [(.long (l'.toInt64)), (.long wr'), (.ref a)])) _
        refine XS.ladd X18.here hx rfl (hb hby d6_94) rfl ?_
        show Steps p.tables e below (T18.setTop (mkF m 95 #[.val (.ref a), .val (.ref u), .val (.int o'), .val (.int l'), .val (.int ((own_minl wr' (n'.toInt64)).toInt32)), .val (.int ((own_minl (wr' + (l'.toInt64)) (n'.toInt64)).toInt32)), .val (.int (own_mis fb' o' (o' + l') fx' ((own_minl wr' (n'.toInt64)).toInt32) ((own_minl (wr' + (l'.toInt64)) (n'.toInt64)).toInt32)))] [(.long (wr' + (l'.toInt64))), (.ref a)])) _
        refine st19 _ ?_
        show Steps p.tables e below (T19.setTop (mkF m 98 #[.val (.ref a), .val (.ref u), .val (.int o'), .val (.int l'), .val (.int ((own_minl wr' (n'.toInt64)).toInt32)), .val (.int ((own_minl (wr' + (l'.toInt64)) (n'.toInt64)).toInt32)), .val (.int (own_mis fb' o' (o' + l') fx' ((own_minl wr' (n'.toInt64)).toInt32) ((own_minl (wr' + (l'.toInt64)) (n'.toInt64)).toInt32)))] [])) _
        exact X19.returnOut hx Bd.returns (hb hby d6_98) hr
      · show Q6 Z a u o' l' d' wr' x n' nb' fx' fb' h0 n0 _ T19.heap _
        rw [e19]
        exact ⟨rfl, N19, K19, (by rw [own_wd, if_pos hc14_5, if_pos hc72_17]; exact F_difference_a), F_written_a, F_expected_a⟩
    · obtain ⟨T20, X20, e20, st20⟩ := getF X15 hx hZ hown (host := "") (Or.inl (hw _ (List.mem_of_getElem? (i := 49) rfl))) Via.refl hh15 F_written_a (g := (mkF m 77 #[.val (.ref a), .val (.ref u), .val (.int o'), .val (.int l'), .val (.int ((own_minl wr' (n'.toInt64)).toInt32)), .val (.int ((own_minl (wr' + (l'.toInt64)) (n'.toInt64)).toInt32)), .val (.int (own_mis fb' o' (o' + l') fx' ((own_minl wr' (n'.toInt64)).toInt32) ((own_minl (wr' + (l'.toInt64)) (n'.toInt64)).toInt32)))] [(.ref a), (.ref a)])) rfl rfl (hb hby d6_77)
      obtain ⟨T21, h21, X21, e21, W21, st21⟩ := putF X20 hx hZ hown (host := "") (Or.inl (hw _ (List.mem_of_getElem? (i := 20) rfl))) Via.refl e20 F_difference_a E_a (Or.inl (hw _ (List.mem_of_getElem? (i := 21) rfl))) (hw _ (List.mem_of_getElem? (i := 6) rfl)) (ty := .long) (by decide) rfl rfl (g := (mkF m 84 #[.val (.ref a), .val (.ref u), .val (.int o'), .val (.int l'), .val (.int ((own_minl wr' (n'.toInt64)).toInt32)), .val (.int ((own_minl (wr' + (l'.toInt64)) (n'.toInt64)).toInt32)), .val (.int (own_mis fb' o' (o' + l') fx' ((own_minl wr' (n'.toInt64)).toInt32) ((own_minl (wr' + (l'.toInt64)) (n'.toInt64)).toInt32)))] [(.long (wr' + ((own_mis fb' o' (o' + l') fx' ((own_minl wr' (n'.toInt64)).toInt32) ((own_minl (wr' + (l'.toInt64)) (n'.toInt64)).toInt32)).toInt64))), (.ref a)])) rfl rfl (hb hby d6_84)
      have E_a := E_a.wr W21
      have F_difference_a := F_difference_a.same W21
      have F_written_a := F_written_a.other W21 (Or.inr (slot_ne (Or.inl (hw _ (List.mem_of_getElem? (i := 50) rfl))) (Or.inl (hw _ (List.mem_of_getElem? (i := 21) rfl))) (by decide) (t := .long) (t' := .long) (by decide) (by decide)))
      have F_expected_a := F_expected_a.other W21 (Or.inr (slot_ne (Or.inr (hw _ (List.mem_of_getElem? (i := 36) rfl))) (Or.inl (hw _ (List.mem_of_getElem? (i := 21) rfl))) (by decide) (t := (.array .byte)) (t' := .long) (by decide) (by decide)))
      have Zs21 : n0 ≤ h21.size := Nat.le_trans Z0 (Keep.of_wr W21).1
      have K21 : Keep h0 h21 [a] := K0.wr W21 (Or.inl (List.mem_of_getElem? (i := 0) rfl))
      have N21 := Fr.snoc X21 N15 g_a
      obtain ⟨T22, X22, e22, st22⟩ := getF X21 hx hZ hown (host := "") (Or.inl (hw _ (List.mem_of_getElem? (i := 49) rfl))) Via.refl e21 F_written_a (g := (mkF m 89 #[.val (.ref a), .val (.ref u), .val (.int o'), .val (.int l'), .val (.int ((own_minl wr' (n'.toInt64)).toInt32)), .val (.int ((own_minl (wr' + (l'.toInt64)) (n'.toInt64)).toInt32)), .val (.int (own_mis fb' o' (o' + l') fx' ((own_minl wr' (n'.toInt64)).toInt32) ((own_minl (wr' + (l'.toInt64)) (n'.toInt64)).toInt32)))] [(.ref a), (.ref a)])) rfl rfl (hb hby d6_89)
      obtain ⟨T23, h23, X23, e23, W23, st23⟩ := putF X22 hx hZ hown (host := "") (Or.inl (hw _ (List.mem_of_getElem? (i := 49) rfl))) Via.refl e22 F_written_a E_a (Or.inl (hw _ (List.mem_of_getElem? (i := 50) rfl))) (hw _ (List.mem_of_getElem? (i := 6) rfl)) (ty := .long) (by decide) rfl rfl (g := (mkF m 95 #[.val (.ref a), .val (.ref u), .val (.int o'), .val (.int l'), .val (.int ((own_minl wr' (n'.toInt64)).toInt32)), .val (.int ((own_minl (wr' + (l'.toInt64)) (n'.toInt64)).toInt32)), .val (.int (own_mis fb' o' (o' + l') fx' ((own_minl wr' (n'.toInt64)).toInt32) ((own_minl (wr' + (l'.toInt64)) (n'.toInt64)).toInt32)))] [(.long (wr' + (l'.toInt64))), (.ref a)])) rfl rfl (hb hby d6_95)
      have E_a := E_a.wr W23
      have F_difference_a := F_difference_a.other W23 (Or.inr (slot_ne (Or.inl (hw _ (List.mem_of_getElem? (i := 21) rfl))) (Or.inl (hw _ (List.mem_of_getElem? (i := 50) rfl))) (by decide) (t := .long) (t' := .long) (by decide) (by decide)))
      have F_written_a := F_written_a.same W23
      have F_expected_a := F_expected_a.other W23 (Or.inr (slot_ne (Or.inr (hw _ (List.mem_of_getElem? (i := 36) rfl))) (Or.inl (hw _ (List.mem_of_getElem? (i := 50) rfl))) (by decide) (t := (.array .byte)) (t' := .long) (by decide) (by decide)))
      have Zs23 : n0 ≤ h23.size := Nat.le_trans Zs21 (Keep.of_wr W23).1
      have K23 : Keep h0 h23 [a] := K21.wr W23 (Or.inl (List.mem_of_getElem? (i := 0) rfl))
      have N23 := Fr.snoc X23 N21 g_a
      obtain ⟨fs, hr, hrun, hended, hW, hsame⟩ := X23.leave (v := none) (fun _ => rfl)
      refine ⟨_, _, pre16 _ ?_, hrun, hended, _, _, rfl, ?_, ⟨_, rfl⟩, hW, hsame.mono (by decide) (by decide)⟩
      · show Steps p.tables e below (T15.setTop (mkF m 72 #[.val (.ref a), .val (.ref u), .val (.int o'), .val (.int l'), .val (.int ((own_minl wr' (n'.toInt64)).toInt32)), .val (.int ((own_minl (wr' + (l'.toInt64)) (n'.toInt64)).toInt32)), .val (.int (own_mis fb' o' (o' + l') fx' ((own_minl wr' (n'.toInt64)).toInt32) ((own_minl (wr' + (l'.toInt64)) (n'.toInt64)).toInt32)))] [(.int (own_mis fb' o' (o' + l') fx' ((own_minl wr' (n'.toInt64)).toInt32) ((own_minl (wr' + (l'.toInt64)) (n'.toInt64)).toInt32)))])) _
        refine XS.ifNo X15.here hx rfl (hb hby d6_72) rfl ((if0 _ _).trans (flt hc72_17).1) ?_
        show Steps p.tables e below (T15.setTop (mkF m 75 #[.val (.ref a), .val (.ref u), .val (.int o'), .val (.int l'), .val (.int ((own_minl wr' (n'.toInt64)).toInt32)), .val (.int ((own_minl (wr' + (l'.toInt64)) (n'.toInt64)).toInt32)), .val (.int (own_mis fb' o' (o' + l') fx' ((own_minl wr' (n'.toInt64)).toInt32) ((own_minl (wr' + (l'.toInt64)) (n'.toInt64)).toInt32)))] [])) _
        refine XS.aloadN X15.here hx rfl (hb hby d6_75) rfl rfl ?_
        show Steps p.tables e below (T15.setTop (mkF m 76 #[.val (.ref a), .val (.ref u), .val (.int o'), .val (.int l'), .val (.int ((own_minl wr' (n'.toInt64)).toInt32)), .val (.int ((own_minl (wr' + (l'.toInt64)) (n'.toInt64)).toInt32)), .val (.int (own_mis fb' o' (o' + l') fx' ((own_minl wr' (n'.toInt64)).toInt32) ((own_minl (wr' + (l'.toInt64)) (n'.toInt64)).toInt32)))] [(.ref a)])) _
        refine XS.aloadN X15.here hx rfl (hb hby d6_76) rfl rfl ?_
        show Steps p.tables e below (T15.setTop (mkF m 77 #[.val (.ref a), .val (.ref u), .val (.int o'), .val (.int l'), .val (.int ((own_minl wr' (n'.toInt64)).toInt32)), .val (.int ((own_minl (wr' + (l'.toInt64)) (n'.toInt64)).toInt32)), .val (.int (own_mis fb' o' (o' + l') fx' ((own_minl wr' (n'.toInt64)).toInt32) ((own_minl (wr' + (l'.toInt64)) (n'.toInt64)).toInt32)))] [(.ref a), (.ref a)])) _
        refine st20 _ ?_
        show Steps p.tables e below (T20.setTop (mkF m 80 #[.val (.ref a), .val (.ref u), .val (.int o'), .val (.int l'), .val (.int ((own_minl wr' (n'.toInt64)).toInt32)), .val (.int ((own_minl (wr' + (l'.toInt64)) (n'.toInt64)).toInt32)), .val (.int (own_mis fb' o' (o' + l') fx' ((own_minl wr' (n'.toInt64)).toInt32) ((own_minl (wr' + (l'.toInt64)) (n'.toInt64)).toInt32)))] [(.long wr'), (.ref a)])) _
        refine XS.iload X20.here hx rfl (hb hby d6_80) rfl ?_
        show Steps p.tables e below (T20.setTop (mkF m 82 #[.val (.ref a), .val (.ref u), .val (.int o'), .val (.int l'), .val (.int ((own_minl wr' (n'.toInt64)).toInt32)), .val (.int ((own_minl (wr' + (l'.toInt64)) (n'.toInt64)).toInt32)), .val (.int (own_mis fb' o' (o' + l') fx' ((own_minl wr' (n'.toInt64)).toInt32) ((own_minl (wr' + (l'.toInt64)) (n'.toInt64)).toInt32)))] [(.int (own_mis fb' o' (o' + l') fx' ((own_minl wr' (n'.toInt64)).toInt32) ((own_minl (wr' + (l'.toInt64)) (n'.toInt64)).toInt32))), (.long wr'), (.ref a)])) _
        refine XS.i2l X20.here hx rfl (hb hby d6_82) rfl ?_
        show Steps p.tables e below (T20.setTop (mkF m 83 #[.val (.ref a), .val (.ref u), .val (.int o'), .val (.int l'), .val (.int ((own_minl wr' (n'.toInt64)).toInt32)), .val (.int ((own_minl (wr' + (l'.toInt64)) (n'.toInt64)).toInt32)), .val (.int (own_mis fb' o' (o' + l') fx' ((own_minl wr' (n'.toInt64)).toInt32) ((own_minl (wr' + (l'.toInt64)) (n'.toInt64)).toInt32)))] [(.long ((own_mis fb' o' (o' + l') fx' ((own_minl wr' (n'.toInt64)).toInt32) ((own_minl (wr' + (l'.toInt64)) (n'.toInt64)).toInt32)).toInt64)), (.long wr'), (.ref a)])) _
        refine XS.ladd X20.here hx rfl (hb hby d6_83) rfl ?_
        show Steps p.tables e below (T20.setTop (mkF m 84 #[.val (.ref a), .val (.ref u), .val (.int o'), .val (.int l'), .val (.int ((own_minl wr' (n'.toInt64)).toInt32)), .val (.int ((own_minl (wr' + (l'.toInt64)) (n'.toInt64)).toInt32)), .val (.int (own_mis fb' o' (o' + l') fx' ((own_minl wr' (n'.toInt64)).toInt32) ((own_minl (wr' + (l'.toInt64)) (n'.toInt64)).toInt32)))] [(.long (wr' + ((own_mis fb' o' (o' + l') fx' ((own_minl wr' (n'.toInt64)).toInt32) ((own_minl (wr' + (l'.toInt64)) (n'.toInt64)).toInt32)).toInt64))), (.ref a)])) _
        refine st21 _ ?_
        show Steps p.tables e below (T21.setTop (mkF m 87 #[.val (.ref a), .val (.ref u), .val (.int o'), .val (.int l'), .val (.int ((own_minl wr' (n'.toInt64)).toInt32)), .val (.int ((own_minl (wr' + (l'.toInt64)) (n'.toInt64)).toInt32)), .val (.int (own_mis fb' o' (o' + l') fx' ((own_minl wr' (n'.toInt64)).toInt32) ((own_minl (wr' + (l'.toInt64)) (n'.toInt64)).toInt32)))] [])) _
        refine XS.aloadN X21.here hx rfl (hb hby d6_87) rfl rfl ?_
        show Steps p.tables e below (T21.setTop (mkF m 88 #[.val (.ref a), .val (.ref u), .val (.int o'), .val (.int l'), .val (.int ((own_minl wr' (n'.toInt64)).toInt32)), .val (.int ((own_minl (wr' + (l'.toInt64)) (n'.toInt64)).toInt32)), .val (.int (own_mis fb' o' (o' + l') fx' ((own_minl wr' (n'.toInt64)).toInt32) ((own_minl (wr' + (l'.toInt64)) (n'.toInt64)).toInt32)))] [(.ref a)])) _
        refine XS.dup X21.here hx rfl (hb hby d6_88) rfl rfl ?_
        show Steps p.tables e below (T21.setTop (mkF m 89 #[.val (.ref a), .val (.ref u), .val (.int o'), .val (.int l'), .val (.int ((own_minl wr' (n'.toInt64)).toInt32)), .val (.int ((own_minl (wr' + (l'.toInt64)) (n'.toInt64)).toInt32)), .val (.int (own_mis fb' o' (o' + l') fx' ((own_minl wr' (n'.toInt64)).toInt32) ((own_minl (wr' + (l'.toInt64)) (n'.toInt64)).toInt32)))] [(.ref a), (.ref a)])) _
        refine st22 _ ?_
        show Steps p.tables e below (T22.setTop (mkF m 92 #[.val (.ref a), .val (.ref u), .val (.int o'), .val (.int l'), .val (.int ((own_minl wr' (n'.toInt64)).toInt32)), .val (.int ((own_minl (wr' + (l'.toInt64)) (n'.toInt64)).toInt32)), .val (.int (own_mis fb' o' (o' + l') fx' ((own_minl wr' (n'.toInt64)).toInt32) ((own_minl (wr' + (l'.toInt64)) (n'.toInt64)).toInt32)))] [(.long wr'), (.ref a)])) _
        refine XS.iloadN X22.here hx rfl (hb hby d6_92) rfl ?_
        show Steps p.tables e below (T22.setTop (mkF m 93 #[.val (.ref a), .val (.ref u), .val (.int o'), .val (.int l'), .val (.int ((own_minl wr' (n'.toInt64)).toInt32)), .val (.int ((own_minl (wr' + (l'.toInt64)) (n'.toInt64)).toInt32)), .val (.int (own_mis fb' o' (o' + l') fx' ((own_minl wr' (n'.toInt64)).toInt32) ((own_minl (wr' + (l'.toInt64)) (n'.toInt64)).toInt32)))] [(.int l'), (.long wr'), (.ref a)])) _
        refine XS.i2l X22.here hx rfl (hb hby d6_93) rfl ?_
        show Steps p.tables e below (T22.setTop (mkF m 94 #[.val (.ref a), .val (.ref u), .val (.int o'), .val (.int l'), .val (.int ((own_minl wr' (n'.toInt64)).toInt32)), .val (.int ((own_minl (wr' + (l'.toInt64)) (n'.toInt64)).toInt32)), .val (.int (own_mis fb' o' (o' + l') fx' ((own_minl wr' (n'.toInt64)).toInt32) ((own_minl (wr' + (l'.toInt64)) (n'.toInt64)).toInt32)))] [(.long (l'.toInt64)), (.long wr'), (.ref a)])) _
        refine XS.ladd X22.here hx rfl (hb hby d6_94) rfl ?_
        show Steps p.tables e below (T22.setTop (mkF m 95 #[.val (.ref a), .val (.ref u), .val (.int o'), .val (.int l'), .val (.int ((own_minl wr' (n'.toInt64)).toInt32)), .val (.int ((own_minl (wr' + (l'.toInt64)) (n'.toInt64)).toInt32)), .val (.int (own_mis fb' o' (o' + l') fx' ((own_minl wr' (n'.toInt64)).toInt32) ((own_minl (wr' + (l'.toInt64)) (n'.toInt64)).toInt32)))] [(.long (wr' + (l'.toInt64))), (.ref a)])) _
        refine st23 _ ?_
        show Steps p.tables e below (T23.setTop (mkF m 98 #[.val (.ref a), .val (.ref u), .val (.int o'), .val (.int l'), .val (.int ((own_minl wr' (n'.toInt64)).toInt32)), .val (.int ((own_minl (wr' + (l'.toInt64)) (n'.toInt64)).toInt32)), .val (.int (own_mis fb' o' (o' + l') fx' ((own_minl wr' (n'.toInt64)).toInt32) ((own_minl (wr' + (l'.toInt64)) (n'.toInt64)).toInt32)))] [])) _
        exact X23.returnOut hx Bd.returns (hb hby d6_98) hr
      · show Q6 Z a u o' l' d' wr' x n' nb' fx' fb' h0 n0 _ T23.heap _
        rw [e23]
        exact ⟨rfl, N23, K23, (by rw [own_wd, if_pos hc14_5, if_neg hc72_17]; exact F_difference_a), F_written_a, F_expected_a⟩
  · obtain ⟨T24, X24, e24, st24⟩ := getF X3 hx hZ hown (host := "") (Or.inl (hw _ (List.mem_of_getElem? (i := 49) rfl))) Via.refl e3 F_written_a (g := (mkF m 89 #[.val (.ref a), .val (.ref u), .val (.int o'), .val (.int l'), .unset, .unset, .unset] [(.ref a), (.ref a)])) rfl rfl (hb hby d6_89)
    obtain ⟨T25, h25, X25, e25, W25, st25⟩ := putF X24 hx hZ hown (host := "") (Or.inl (hw _ (List.mem_of_getElem? (i := 49) rfl))) Via.refl e24 F_written_a E_a (Or.inl (hw _ (List.mem_of_getElem? (i := 50) rfl))) (hw _ (List.mem_of_getElem? (i := 6) rfl)) (ty := .long) (by decide) rfl rfl (g := (mkF m 95 #[.val (.ref a), .val (.ref u), .val (.int o'), .val (.int l'), .unset, .unset, .unset] [(.long (wr' + (l'.toInt64))), (.ref a)])) rfl rfl (hb hby d6_95)
    have E_a := E_a.wr W25
    have F_difference_a := F_difference_a.other W25 (Or.inr (slot_ne (Or.inl (hw _ (List.mem_of_getElem? (i := 21) rfl))) (Or.inl (hw _ (List.mem_of_getElem? (i := 50) rfl))) (by decide) (t := .long) (t' := .long) (by decide) (by decide)))
    have F_written_a := F_written_a.same W25
    have F_expected_a := F_expected_a.other W25 (Or.inr (slot_ne (Or.inr (hw _ (List.mem_of_getElem? (i := 36) rfl))) (Or.inl (hw _ (List.mem_of_getElem? (i := 50) rfl))) (by decide) (t := (.array .byte)) (t' := .long) (by decide) (by decide)))
    have Zs25 : n0 ≤ h25.size := Nat.le_trans Z0 (Keep.of_wr W25).1
    have K25 : Keep h0 h25 [a] := K0.wr W25 (Or.inl (List.mem_of_getElem? (i := 0) rfl))
    have N25 := Fr.snoc X25 N2 g_a
    obtain ⟨fs, hr, hrun, hended, hW, hsame⟩ := X25.leave (v := none) (fun _ => rfl)
    refine ⟨_, _, pre4 _ ?_, hrun, hended, _, _, rfl, ?_, ⟨_, rfl⟩, hW, hsame.mono (by decide) (by decide)⟩
    · show Steps p.tables e below (T3.setTop (mkF m 14 #[.val (.ref a), .val (.ref u), .val (.int o'), .val (.int l'), .unset, .unset, .unset] [(.int (lcmpW d' (0 : Int64)))])) _
      refine XS.ifYes X3.here hx rfl (pc0 := 14) (pc' := 87) rfl (hb hby d6_14) rfl ((if0 _ _).trans (flt (fun q => hc14_5 ((lw_lt d' (0 : Int64)).mp q))).2.1) (by decide) (by decide) ?_
      show Steps p.tables e below (T3.setTop (mkF m 87 #[.val (.ref a), .val (.ref u), .val (.int o'), .val (.int l'), .unset, .unset, .unset] [])) _
      refine XS.aloadN X3.here hx rfl (hb hby d6_87) rfl rfl ?_
      show Steps p.tables e below (T3.setTop (mkF m 88 #[.val (.ref a), .val (.ref u), .val (.int o'), .val (.int l'), .unset, .unset, .unset] [(.ref a)])) _
      refine XS.dup X3.here hx rfl (hb hby d6_88) rfl rfl ?_
      show Steps p.tables e below (T3.setTop (mkF m 89 #[.val (.ref a), .val (.ref u), .val (.int o'), .val (.int l'), .unset, .unset, .unset] [(.ref a), (.ref a)])) _
      refine st24 _ ?_
      show Steps p.tables e below (T24.setTop (mkF m 92 #[.val (.ref a), .val (.ref u), .val (.int o'), .val (.int l'), .unset, .unset, .unset] [(.long wr'), (.ref a)])) _
      refine XS.iloadN X24.here hx rfl (hb hby d6_92) rfl ?_
      show Steps p.tables e below (T24.setTop (mkF m 93 #[.val (.ref a), .val (.ref u), .val (.int o'), .val (.int l'), .unset, .unset, .unset] [(.int l'), (.long wr'), (.ref a)])) _
      refine XS.i2l X24.here hx rfl (hb hby d6_93) rfl ?_
      show Steps p.tables e below (T24.setTop (mkF m 94 #[.val (.ref a), .val (.ref u), .val (.int o'), .val (.int l'), .unset, .unset, .unset] [(.long (l'.toInt64)), (.long wr'), (.ref a)])) _
      refine XS.ladd X24.here hx rfl (hb hby d6_94) rfl ?_
      show Steps p.tables e below (T24.setTop (mkF m 95 #[.val (.ref a), .val (.ref u), .val (.int o'), .val (.int l'), .unset, .unset, .unset] [(.long (wr' + (l'.toInt64))), (.ref a)])) _
      refine st25 _ ?_
      show Steps p.tables e below (T25.setTop (mkF m 98 #[.val (.ref a), .val (.ref u), .val (.int o'), .val (.int l'), .unset, .unset, .unset] [])) _
      exact X25.returnOut hx Bd.returns (hb hby d6_98) hr
    · show Q6 Z a u o' l' d' wr' x n' nb' fx' fb' h0 n0 _ T25.heap _
      rw [e25]
      exact ⟨rfl, N25, K25, (by rw [own_wd, if_neg hc14_5]; exact F_difference_a), F_written_a, F_expected_a⟩
theorem d15_0 : decode prog_2_method_2_code 0 = .ok (.aload_n 0, 1) := by decide +kernel
theorem d15_1 : decode prog_2_method_2_code 1 = .ok (.iconst 1, 1) := by decide +kernel
theorem d15_2 : decode prog_2_method_2_code 2 = .ok (.newarray .byte, 2) := by decide +kernel
theorem d15_4 : decode prog_2_method_2_code 4 = .ok (.dup, 1) := by decide +kernel
theorem d15_5 : decode prog_2_method_2_code 5 = .ok (.iconst 0, 1) := by decide +kernel
theorem d15_6 : decode prog_2_method_2_code 6 = .ok (.iload_n 1, 1) := by decide +kernel
theorem d15_7 : decode prog_2_method_2_code 7 = .ok (.i2b, 1) := by decide +kernel
theorem d15_8 : decode prog_2_method_2_code 8 = .ok (.bastore, 1) := by decide +kernel
theorem d15_9 : decode prog_2_method_2_code 9 = .ok (.iconst 0, 1) := by decide +kernel
theorem d15_10 : decode prog_2_method_2_code 10 = .ok (.iconst 1, 1) := by decide +kernel
theorem d15_11 : decode prog_2_method_2_code 11 = .ok (.invokevirtual 27, 3) := by decide +kernel
theorem d15_14 : decode prog_2_method_2_code 14 = .ok (.return_, 1) := by decide +kernel
theorem pn_15 : plainName "com/example/bytelace/bytelace/cli/FirstDifference" = true := by first | (simp [plainName, overriddenIn]; done) | decide +kernel
theorem pd15_0 : parseMethodDescriptor "([BII)V" = some ⟨[(.array .byte), .int, .int], none⟩ := by decide +kernel
theorem ef_15 (m : MethodId) (x0 : Addr) (x1 : Int32) : entryFrame m #[(.ref x0), (.int x1)] 2 = mkF m 0 #[.val (.ref x0), .val (.int x1)] [] := by first | (simp [entryFrame, mkF, argsToLocals, Value.category]; done) | rfl
def Q15 (Z : State) (a : Addr) (z' : Int32) (d' wr' : Int64) (x : Addr) (n' : Int32) (fx' : Nat → Int32) (h0 : Heap) (n0 : Nat) (v : Option Value) (h : Heap) (L : List Loc) : Prop := v = none ∧ Fr n0 L ∧ Keep h0 h [a] ∧ Fld Z h a "com/example/bytelace/bytelace/cli/FirstDifference" "difference" "J" (.long (own_wd d' wr' (own_upd (fun _ => 0) ((0 : Int32)).toNatClampNeg (nar .byte (z'.toInt8.toInt32))) (0 : Int32) (1 : Int32) n' fx')) ∧ Fld Z h a "com/example/bytelace/bytelace/cli/FirstDifference" "written" "J" (.long (wr' + ((1 : Int32).toInt64))) ∧ Fld Z h a "com/example/bytelace/bytelace/cli/FirstDifference" "expected" "[B" (.ref x)
set_option maxRecDepth 65536 in
set_option maxHeartbeats 40000000 in
theorem rm15 (l : Launch) (Z : State) (a0 : Array Value) (hw : ∀ d ∈ tables_1, d.before a0 Z = true) (ws : List Jvm.Cond) (a : Addr) (z' : Int32) (d' wr' : Int64) (x : Addr) (n' : Int32) (fx' : Nat → Int32) (h0 : Heap) (n0 : Nat) (Z0 : n0 ≤ h0.size) (E_a : Exa Z h0 a "com/example/bytelace/bytelace/cli/FirstDifference") (F_difference_a : Fld Z h0 a "com/example/bytelace/bytelace/cli/FirstDifference" "difference" "J" (.long d')) (F_written_a : Fld Z h0 a "com/example/bytelace/bytelace/cli/FirstDifference" "written" "J" (.long wr')) (F_expected_a : Fld Z h0 a "com/example/bytelace/bytelace/cli/FirstDifference" "expected" "[B" (.ref x)) (g_a : n0 ≤ a) (V_x : own_A Z h0 x .byte n' fx') (h5 : 0 ≤ wr'.toInt ∧ wr'.toInt ≤ 4) (h6 : 0 ≤ n'.toInt ∧ n'.toInt ≤ 4) (ne_x_a : x ≠ a) :
    MetFree l (⟨"com/example/bytelace/bytelace/cli/FirstDifference", "write", "(I)V"⟩ : MethodName) (head1 (Jvm.Cond.code (⟨"com/example/bytelace/bytelace/cli/FirstDifference", "write", "(I)V"⟩ : MethodName) prog_2_method_2_code 2 none :: ws) ({ frames := 3, cells := 1, slots := 1, locals := 58 } : Room)) (fun ar U => ar = #[(.ref a), (.int z')] ∧ Z.Warmed39 U.vm ∧ U.heap = h0) (fun _ _ _ _ _ => True) (fun _ U o U' => ∃ v L, o = .returned v ∧ Q15 Z a z' d' wr' x n' fx' h0 n0 v U'.heap L ∧ FrameEnd U o U' L ({ frames := 3, cells := 1, slots := 1, locals := 58 } : Room).cells ({ frames := 3, cells := 1, slots := 1, locals := 58 } : Room).slots) := by
  refine MetFree.of_bodySF (plainFor_of_name pn_15) hisR ?_
  intro p e s m args below meth c s₁ Bd hml0 hP hK
  obtain ⟨rfl, hZ, hh⟩ := hP
  have hx := Bd.exec
  have hby := Bd.bytes
  have hml : c.maxLocals = 2 := hml0
  have hown : s.vm.findClass "com/example/bytelace/bytelace/cli/FirstDifference" = some m.cls := findClass_of_methodNamed Bd.named
  have hnm := (name_of_methodNamed Bd.named Bd.method).1
  have X0 : Stand p l e ({ frames := 3, cells := 1, slots := 1, locals := 58 } : Room) s m #[(.ref a), (.int z')] below meth c s₁ [] 0 0 := Stand.of_body Bd
  have e0 : s₁.heap = h0 := by rw [← hh, Bd.state]; rfl
  have N0 := Fr.nil n0
  have K0 : Keep h0 h0 [a] := Keep.refl h0 _
  have pre0 : ∀ t, Steps p.tables e below (s₁.setTop (mkF m 0 #[.val (.ref a), .val (.int z')] [])) t → Steps p.tables e below (s₁.setTop (entryFrame m #[(.ref a), (.int z')] 2)) t := fun t k => castTop (ef_15 m a z') k
  obtain ⟨T1, h1, k1, X1, e1, E1, A1, st1⟩ := newP X0 hx hZ (hw _ (List.mem_of_getElem? (i := 0) rfl)) e0 (g := (mkF m 2 #[.val (.ref a), .val (.int z')] [(.int (1 : Int32)), (.ref a)])) rfl (hb hby d15_2) rfl (by decide) (cap := 1) (by decide) (by decide) (by decide) (by decide)
  obtain ⟨b1, g1⟩ : ∃ z, z = h0.size := ⟨_, rfl⟩
  rw [← g1] at A1 st1
  have g_b1 : n0 ≤ b1 := Nat.le_trans Z0 (Nat.le_of_eq g1.symm)
  have sz_b1 : h0.size ≤ b1 := Nat.le_trans K0.1 (Nat.le_of_eq g1.symm)
  have ne_a_b1 : a ≠ b1 := Nat.ne_of_lt (Nat.lt_of_lt_of_le E_a.lt (Nat.le_of_eq g1.symm))
  have ne_x_b1 : x ≠ b1 := Nat.ne_of_lt (Nat.lt_of_lt_of_le V_x.lt (Nat.le_of_eq g1.symm))
  have E_a := E_a.ext E1
  have F_difference_a := F_difference_a.ext E1
  have F_written_a := F_written_a.ext E1
  have F_expected_a := F_expected_a.ext E1
  have V_x := V_x.ext E1
  have Zs1 : n0 ≤ h1.size := Nat.le_trans Z0 E1.1
  have K1 : Keep h0 h1 [a] := K0.ext E1
  have V_b1 : own_A Z h1 b1 .byte (1 : Int32) (fun _ => 0) := own_A.new A1 (by decide) rfl
  obtain ⟨cl82, Ar82, S82, M82, H82⟩ := V_b1
  have hin82 : ¬ ((0 : Int32) < 0 ∨ cl82.slots.size ≤ ((0 : Int32)).toNatClampNeg) := inb_of S82 ⟨by decide, by decide⟩
  obtain ⟨T3, h3, X3, e3, W3, st3⟩ := stB X1 hx hZ e1 Ar82 (j := (0 : Int32)) hin82 (g := (mkF m 8 #[.val (.ref a), .val (.int z')] [(.int (z'.toInt8.toInt32)), (.int (0 : Int32)), (.ref b1), (.ref b1), (.ref a)])) rfl rfl (hb hby d15_8)
  have E_a := E_a.wr W3
  have F_difference_a := F_difference_a.other W3 (Or.inl ne_a_b1)
  have F_written_a := F_written_a.other W3 (Or.inl ne_a_b1)
  have F_expected_a := F_expected_a.other W3 (Or.inl ne_a_b1)
  have V_x := V_x.other W3 ne_x_b1
  have Zs3 : n0 ≤ h3.size := Nat.le_trans Zs1 (Keep.of_wr W3).1
  have K3 : Keep h0 h3 [a] := K1.wr W3 (Or.inr sz_b1)
  have N3 := Fr.snoc X3 N0 g_b1
  have V_b1 : own_A Z h3 b1 .byte (1 : Int32) (own_upd (fun _ => 0) ((0 : Int32)).toNatClampNeg (nar .byte (z'.toInt8.toInt32))) := own_A.set Ar82 S82 M82 H82 W3
  obtain ⟨cq4, kq4, q4a, q4b, q4c⟩ := isOf hZ e3 E_a
  obtain ⟨_, _, ⟨T4, L4, k4, n4⟩, -, X4, ⟨Lc4, hQ4, l4, y4, z4⟩, st4⟩ := X3.virtualBack hx (y := (⟨"com/example/bytelace/bytelace/cli/FirstDifference", "write", "([BII)V"⟩ : MethodName)) (z := (⟨"com/example/bytelace/bytelace/cli/FirstDifference", "write", "([BII)V"⟩ : MethodName)) hown (mvT hZ (hw _ (List.mem_of_getElem? (i := 80) rfl))) (mvT hZ (hw _ (List.mem_of_getElem? (i := 38) rfl))) (notFace_of_selects (args := #[]) (mvT hZ (hw _ (List.mem_of_getElem? (i := 40) rfl)))) (mvT hZ (hw _ (List.mem_of_getElem? (i := 40) rfl))) (mvT hZ (hw _ (List.mem_of_getElem? (i := 39) rfl))) (by decide) (backOf (W := 0) (rm6 l Z a0 hw [] a b1 (0 : Int32) (1 : Int32) d' wr' x n' (1 : Int32) fx' (own_upd (fun _ => 0) ((0 : Int32)).toNatClampNeg (nar .byte (z'.toInt8.toInt32))) h3 n0 Zs3 E_a F_difference_a F_written_a F_expected_a g_a V_x V_b1 (by decide) (by decide) (by decide) (by decide) h5 h6) hZ (hw _ (List.mem_of_getElem? (i := 41) rfl)) (hw _ (List.mem_of_getElem? (i := 7) rfl)) (by decide) (by decide)) q4a q4c (g := (mkF m 11 #[.val (.ref a), .val (.int z')] [(.int (1 : Int32)), (.int (0 : Int32)), (.ref b1), (.ref a)])) rfl (by rw [hml]; rfl) (Steps.refl _) (argsL := [(.ref b1), (.int (0 : Int32)), (.int (1 : Int32))]) (rest := []) (lenOf pd15_0 rfl) rfl (by show 2 * 0 + _ ≤ _; exact Nat.le_of_eq rfl) (hb hby d15_11) (fun _ _ => ⟨rfl, e3, (by decide : 1 + 0 ≤ _), (by decide : 1 + 0 ≤ _)⟩)
  dsimp only [Pt.U, Pt.locs, Pt.cells, Pt.slots] at X4 l4 y4 z4 st4 hQ4
  subst l4 y4 z4
  obtain ⟨rfl, N4q, Kq4, F_difference_a, F_written_a, F_expected_a⟩ := hQ4
  have N4 := Fr.app N3 N4q
  have E_a := E_a.keep Kq4
  have V_x := V_x.keep Kq4 (ninS ne_x_a nin0)
  have V_b1 := V_b1.keep Kq4 (ninS (Ne.symm ne_a_b1) nin0)
  have Zs4 : n0 ≤ T4.heap.size := Nat.le_trans Zs3 Kq4.1
  have K4 : Keep h0 T4.heap [a] := K3.trans Kq4 (allS (Or.inl (List.mem_of_getElem? (i := 0) rfl)) all0)
  obtain ⟨fs, hr, hrun, hended, hW, hsame⟩ := X4.leave (v := none) (fun _ => rfl)
  refine ⟨_, _, pre0 _ ?_, hrun, hended, _, _, rfl, ?_, ⟨_, rfl⟩, hW, hsame.mono (by decide) (by decide)⟩
  · show Steps p.tables e below (s₁.setTop (mkF m 0 #[.val (.ref a), .val (.int z')] [])) _
    refine XS.aloadN X0.here hx rfl (hb hby d15_0) rfl rfl ?_
    show Steps p.tables e below (s₁.setTop (mkF m 1 #[.val (.ref a), .val (.int z')] [(.ref a)])) _
    refine XS.iconst X0.here hx rfl (hb hby d15_1) ?_
    show Steps p.tables e below (s₁.setTop (mkF m 2 #[.val (.ref a), .val (.int z')] [(.int (1 : Int32)), (.ref a)])) _
    refine st1 _ ?_
    show Steps p.tables e below (T1.setTop (mkF m 4 #[.val (.ref a), .val (.int z')] [(.ref b1), (.ref a)])) _
    refine XS.dup X1.here hx rfl (hb hby d15_4) rfl rfl ?_
    show Steps p.tables e below (T1.setTop (mkF m 5 #[.val (.ref a), .val (.int z')] [(.ref b1), (.ref b1), (.ref a)])) _
    refine XS.iconst X1.here hx rfl (hb hby d15_5) ?_
    show Steps p.tables e below (T1.setTop (mkF m 6 #[.val (.ref a), .val (.int z')] [(.int (0 : Int32)), (.ref b1), (.ref b1), (.ref a)])) _
    refine XS.iloadN X1.here hx rfl (hb hby d15_6) rfl ?_
    show Steps p.tables e below (T1.setTop (mkF m 7 #[.val (.ref a), .val (.int z')] [(.int z'), (.int (0 : Int32)), (.ref b1), (.ref b1), (.ref a)])) _
    refine XS.i2b X1.here hx rfl (hb hby d15_7) rfl ?_
    show Steps p.tables e below (T1.setTop (mkF m 8 #[.val (.ref a), .val (.int z')] [(.int (z'.toInt8.toInt32)), (.int (0 : Int32)), (.ref b1), (.ref b1), (.ref a)])) _
    refine st3 _ ?_
    show Steps p.tables e below (T3.setTop (mkF m 9 #[.val (.ref a), .val (.int z')] [(.ref b1), (.ref a)])) _
    refine XS.iconst X3.here hx rfl (hb hby d15_9) ?_
    show Steps p.tables e below (T3.setTop (mkF m 10 #[.val (.ref a), .val (.int z')] [(.int (0 : Int32)), (.ref b1), (.ref a)])) _
    refine XS.iconst X3.here hx rfl (hb hby d15_10) ?_
    show Steps p.tables e below (T3.setTop (mkF m 11 #[.val (.ref a), .val (.int z')] [(.int (1 : Int32)), (.int (0 : Int32)), (.ref b1), (.ref a)])) _
    refine st4.trans ?_
    show Steps p.tables e below (T4.setTop (mkF m 14 #[.val (.ref a), .val (.int z')] [])) _
    exact X4.returnOut hx Bd.returns (hb hby d15_14) hr
  · show Q15 Z a z' d' wr' x n' fx' h0 n0 _ T4.heap _
    exact ⟨rfl, N4, K4, F_difference_a, F_written_a, F_expected_a⟩
theorem d14_0 : decode prog_2_method_4_code 0 = .ok (.aload_n 0, 1) := by decide +kernel
theorem d14_1 : decode prog_2_method_4_code 1 = .ok (.getfield 9, 3) := by decide +kernel
theorem d14_4 : decode prog_2_method_4_code 4 = .ok (.lstore_n 1, 1) := by decide +kernel
theorem d14_5 : decode prog_2_method_4_code 5 = .ok (.lload_n 1, 1) := by decide +kernel
theorem d14_6 : decode prog_2_method_4_code 6 = .ok (.lconst 0, 1) := by decide +kernel
theorem d14_7 : decode prog_2_method_4_code 7 = .ok (.lcmp, 1) := by decide +kernel
theorem d14_8 : decode prog_2_method_4_code 8 = .ok (.ifCond .ge 22, 3) := by decide +kernel
theorem d14_11 : decode prog_2_method_4_code 11 = .ok (.aload_n 0, 1) := by decide +kernel
theorem d14_12 : decode prog_2_method_4_code 12 = .ok (.getfield 35, 3) := by decide +kernel
theorem d14_15 : decode prog_2_method_4_code 15 = .ok (.aload_n 0, 1) := by decide +kernel
theorem d14_16 : decode prog_2_method_4_code 16 = .ok (.getfield 25, 3) := by decide +kernel
theorem d14_19 : decode prog_2_method_4_code 19 = .ok (.arraylength, 1) := by decide +kernel
theorem d14_20 : decode prog_2_method_4_code 20 = .ok (.i2l, 1) := by decide +kernel
theorem d14_21 : decode prog_2_method_4_code 21 = .ok (.lcmp, 1) := by decide +kernel
theorem d14_22 : decode prog_2_method_4_code 22 = .ok (.ifCond .ge 8, 3) := by decide +kernel
theorem d14_25 : decode prog_2_method_4_code 25 = .ok (.aload_n 0, 1) := by decide +kernel
theorem d14_26 : decode prog_2_method_4_code 26 = .ok (.getfield 35, 3) := by decide +kernel
theorem d14_29 : decode prog_2_method_4_code 29 = .ok (.lstore_n 1, 1) := by decide +kernel
theorem d14_30 : decode prog_2_method_4_code 30 = .ok (.lload_n 1, 1) := by decide +kernel
theorem d14_31 : decode prog_2_method_4_code 31 = .ok (.lreturn, 1) := by decide +kernel
theorem pn_14 : plainName "com/example/bytelace/bytelace/cli/FirstDifference" = true := by first | (simp [plainName, overriddenIn]; done) | decide +kernel
theorem ef_14 (m : MethodId) (x0 : Addr) : entryFrame m #[(.ref x0)] 3 = mkF m 0 #[.val (.ref x0), .unset, .unset] [] := by first | (simp [entryFrame, mkF, argsToLocals, Value.category]; done) | rfl
def Q14 (Z : State) (a : Addr) (d' wr' : Int64) (x : Addr) (n' : Int32) (fx' : Nat → Int32) (h0 : Heap) (n0 : Nat) (v : Option Value) (h : Heap) (L : List Loc) : Prop := v = some (.long (own_off d' wr' n')) ∧ Fr n0 L ∧ h = h0
set_option maxRecDepth 65536 in
set_option maxHeartbeats 40000000 in
theorem rm14 (l : Launch) (Z : State) (a0 : Array Value) (hw : ∀ d ∈ tables_1, d.before a0 Z = true) (ws : List Jvm.Cond) (a : Addr) (d' wr' : Int64) (x : Addr) (n' : Int32) (fx' : Nat → Int32) (h0 : Heap) (n0 : Nat) (Z0 : n0 ≤ h0.size) (F_difference_a : Fld Z h0 a "com/example/bytelace/bytelace/cli/FirstDifference" "difference" "J" (.long d')) (F_written_a : Fld Z h0 a "com/example/bytelace/bytelace/cli/FirstDifference" "written" "J" (.long wr')) (F_expected_a : Fld Z h0 a "com/example/bytelace/bytelace/cli/FirstDifference" "expected" "[B" (.ref x)) (V_x : own_A Z h0 x .byte n' fx') :
    MetFree l (⟨"com/example/bytelace/bytelace/cli/FirstDifference", "offset", "()J"⟩ : MethodName) (head1 (Jvm.Cond.code (⟨"com/example/bytelace/bytelace/cli/FirstDifference", "offset", "()J"⟩ : MethodName) prog_2_method_4_code 3 (some .long) :: ws) ({ frames := 0, cells := 0, slots := 0, locals := 0 } : Room)) (fun ar U => ar = #[(.ref a)] ∧ Z.Warmed39 U.vm ∧ U.heap = h0) (fun _ _ _ _ _ => True) (fun _ U o U' => ∃ v L, o = .returned v ∧ Q14 Z a d' wr' x n' fx' h0 n0 v U'.heap L ∧ FrameEnd U o U' L ({ frames := 0, cells := 0, slots := 0, locals := 0 } : Room).cells ({ frames := 0, cells := 0, slots := 0, locals := 0 } : Room).slots) := by
  refine MetFree.of_bodySF (plainFor_of_name pn_14) hisR ?_
  intro p e s m args below meth c s₁ Bd hml0 hP hK
  obtain ⟨rfl, hZ, hh⟩ := hP
  have hx := Bd.exec
  have hby := Bd.bytes
  have hml : c.maxLocals = 3 := hml0
  have hown : s.vm.findClass "com/example/bytelace/bytelace/cli/FirstDifference" = some m.cls := findClass_of_methodNamed Bd.named
  have hnm := (name_of_methodNamed Bd.named Bd.method).1
  have X0 : Stand p l e ({ frames := 0, cells := 0, slots := 0, locals := 0 } : Room) s m #[(.ref a)] below meth c s₁ [] 0 0 := Stand.of_body Bd
  have e0 : s₁.heap = h0 := by rw [← hh, Bd.state]; rfl
  have N0 := Fr.nil n0
  have K0 : Keep h0 h0 [] := Keep.refl h0 _
  have pre0 : ∀ t, Steps p.tables e below (s₁.setTop (mkF m 0 #[.val (.ref a), .unset, .unset] [])) t → Steps p.tables e below (s₁.setTop (entryFrame m #[(.ref a)] 3)) t := fun t k => castTop (ef_14 m a) k
  obtain ⟨T1, X1, e1, st1⟩ := getF X0 hx hZ hown (host := "") (Or.inl (hw _ (List.mem_of_getElem? (i := 20) rfl))) Via.refl e0 F_difference_a (g := (mkF m 1 #[.val (.ref a), .unset, .unset] [(.ref a)])) rfl rfl (hb hby d14_1)
  have pre2 : ∀ t, Steps p.tables e below (T1.setTop (mkF m 8 #[.val (.ref a), .val (.long d'), .second] [(.int (lcmpW d' (0 : Int64)))])) t → Steps p.tables e below (s₁.setTop (entryFrame m #[(.ref a)] 3)) t := by
    intro t kt
    refine pre0 t ?_
    show Steps p.tables e below (s₁.setTop (mkF m 0 #[.val (.ref a), .unset, .unset] [])) _
    refine XS.aloadN X0.here hx rfl (hb hby d14_0) rfl rfl ?_
    show Steps p.tables e below (s₁.setTop (mkF m 1 #[.val (.ref a), .unset, .unset] [(.ref a)])) _
    refine st1 _ ?_
    show Steps p.tables e below (T1.setTop (mkF m 4 #[.val (.ref a), .unset, .unset] [(.long d')])) _
    refine XS.lstoreN X1.here hx rfl (hb hby d14_4) rfl (l' := #[.val (.ref a), .val (.long d'), .second]) rfl ?_
    show Steps p.tables e below (T1.setTop (mkF m 5 #[.val (.ref a), .val (.long d'), .second] [])) _
    refine XS.lloadN X1.here hx rfl (hb hby d14_5) rfl ?_
    show Steps p.tables e below (T1.setTop (mkF m 6 #[.val (.ref a), .val (.long d'), .second] [(.long d')])) _
    refine XS.lconst X1.here hx rfl (hb hby d14_6) ?_
    show Steps p.tables e below (T1.setTop (mkF m 7 #[.val (.ref a), .val (.long d'), .second] [(.long (0 : Int64)), (.long d')])) _
    refine XS.lcmp X1.here hx rfl (hb hby d14_7) rfl ?_
    exact kt
  by_cases hc8_3 : d' < (0 : Int64)
  · obtain ⟨T4, X4, e4, st4⟩ := getF X1 hx hZ hown (host := "") (Or.inl (hw _ (List.mem_of_getElem? (i := 49) rfl))) Via.refl e1 F_written_a (g := (mkF m 12 #[.val (.ref a), .val (.long d'), .second] [(.ref a)])) rfl rfl (hb hby d14_12)
    obtain ⟨T5, X5, e5, st5⟩ := getF X4 hx hZ hown (host := "") (Or.inl (hw _ (List.mem_of_getElem? (i := 35) rfl))) Via.refl e4 F_expected_a (g := (mkF m 16 #[.val (.ref a), .val (.long d'), .second] [(.ref a), (.long wr')])) rfl rfl (hb hby d14_16)
    obtain ⟨cl196, Ar196, S196, M196, H196⟩ := id V_x
    have pre7 : ∀ t, Steps p.tables e below (T5.setTop (mkF m 22 #[.val (.ref a), .val (.long d'), .second] [(.int (lcmpW wr' (n'.toInt64)))])) t → Steps p.tables e below (s₁.setTop (entryFrame m #[(.ref a)] 3)) t := by
      intro t kt
      refine pre2 t ?_
      show Steps p.tables e below (T1.setTop (mkF m 8 #[.val (.ref a), .val (.long d'), .second] [(.int (lcmpW d' (0 : Int64)))])) _
      refine XS.ifNo X1.here hx rfl (hb hby d14_8) rfl ((if0 _ _).trans (tlt ((lw_lt d' (0 : Int64)).mpr hc8_3)).2.1) ?_
      show Steps p.tables e below (T1.setTop (mkF m 11 #[.val (.ref a), .val (.long d'), .second] [])) _
      refine XS.aloadN X1.here hx rfl (hb hby d14_11) rfl rfl ?_
      show Steps p.tables e below (T1.setTop (mkF m 12 #[.val (.ref a), .val (.long d'), .second] [(.ref a)])) _
      refine st4 _ ?_
      show Steps p.tables e below (T4.setTop (mkF m 15 #[.val (.ref a), .val (.long d'), .second] [(.long wr')])) _
      refine XS.aloadN X4.here hx rfl (hb hby d14_15) rfl rfl ?_
      show Steps p.tables e below (T4.setTop (mkF m 16 #[.val (.ref a), .val (.long d'), .second] [(.ref a), (.long wr')])) _
      refine st5 _ ?_
      show Steps p.tables e below (T5.setTop (mkF m 19 #[.val (.ref a), .val (.long d'), .second] [(.ref x), (.long wr')])) _
      refine X5.arraylength hx (cell := cl196) (by rw [e5]; exact Ar196.1) (State.isArrayOf_alike hZ.alike Ar196.2.1) (g := (mkF m 19 #[.val (.ref a), .val (.long d'), .second] [(.ref x), (.long wr')])) rfl (rest := [(.long wr')]) rfl (hb hby d14_19) _ ?_
      rw [len_of S196 M196]
      show Steps p.tables e below (T5.setTop (mkF m 20 #[.val (.ref a), .val (.long d'), .second] [(.int n'), (.long wr')])) _
      refine XS.i2l X5.here hx rfl (hb hby d14_20) rfl ?_
      show Steps p.tables e below (T5.setTop (mkF m 21 #[.val (.ref a), .val (.long d'), .second] [(.long (n'.toInt64)), (.long wr')])) _
      refine XS.lcmp X5.here hx rfl (hb hby d14_21) rfl ?_
      exact kt
    by_cases hc22_8 : wr' < (n'.toInt64)
    · obtain ⟨T9, X9, e9, st9⟩ := getF X5 hx hZ hown (host := "") (Or.inl (hw _ (List.mem_of_getElem? (i := 49) rfl))) Via.refl e5 F_written_a (g := (mkF m 26 #[.val (.ref a), .val (.long d'), .second] [(.ref a)])) rfl rfl (hb hby d14_26)
      obtain ⟨fs, hr, hrun, hended, hW, hsame⟩ := X9.leave (v := some (.long wr')) (fun h => by rw [Bd.returns] at h; cases h)
      refine ⟨_, _, pre7 _ ?_, hrun, hended, _, _, rfl, ?_, ⟨_, rfl⟩, hW, hsame.mono (by decide) (by decide)⟩
      · show Steps p.tables e below (T5.setTop (mkF m 22 #[.val (.ref a), .val (.long d'), .second] [(.int (lcmpW wr' (n'.toInt64)))])) _
        refine XS.ifNo X5.here hx rfl (hb hby d14_22) rfl ((if0 _ _).trans (tlt ((lw_lt wr' (n'.toInt64)).mpr hc22_8)).2.1) ?_
        show Steps p.tables e below (T5.setTop (mkF m 25 #[.val (.ref a), .val (.long d'), .second] [])) _
        refine XS.aloadN X5.here hx rfl (hb hby d14_25) rfl rfl ?_
        show Steps p.tables e below (T5.setTop (mkF m 26 #[.val (.ref a), .val (.long d'), .second] [(.ref a)])) _
        refine st9 _ ?_
        show Steps p.tables e below (T9.setTop (mkF m 29 #[.val (.ref a), .val (.long d'), .second] [(.long wr')])) _
        refine XS.lstoreN X9.here hx rfl (hb hby d14_29) rfl (l' := #[.val (.ref a), .val (.long wr'), .second]) rfl ?_
        show Steps p.tables e below (T9.setTop (mkF m 30 #[.val (.ref a), .val (.long wr'), .second] [])) _
        refine XS.lloadN X9.here hx rfl (hb hby d14_30) rfl ?_
        show Steps p.tables e below (T9.setTop (mkF m 31 #[.val (.ref a), .val (.long wr'), .second] [(.long wr')])) _
        exact retOut X9 hx Bd.returns rfl (Or.inr (Or.inl ⟨rfl, rfl, _, rfl⟩)) (hb hby d14_31) hr
      · show Q14 Z a d' wr' x n' fx' h0 n0 _ T9.heap _
        rw [e9]
        exact ⟨by rw [own_off, if_pos hc8_3, if_pos hc22_8], N0, rfl⟩
    · obtain ⟨fs, hr, hrun, hended, hW, hsame⟩ := X5.leave (v := some (.long d')) (fun h => by rw [Bd.returns] at h; cases h)
      refine ⟨_, _, pre7 _ ?_, hrun, hended, _, _, rfl, ?_, ⟨_, rfl⟩, hW, hsame.mono (by decide) (by decide)⟩
      · show Steps p.tables e below (T5.setTop (mkF m 22 #[.val (.ref a), .val (.long d'), .second] [(.int (lcmpW wr' (n'.toInt64)))])) _
        refine XS.ifYes X5.here hx rfl (pc0 := 22) (pc' := 30) rfl (hb hby d14_22) rfl ((if0 _ _).trans (flt (fun q => hc22_8 ((lw_lt wr' (n'.toInt64)).mp q))).2.1) (by decide) (by decide) ?_
        show Steps p.tables e below (T5.setTop (mkF m 30 #[.val (.ref a), .val (.long d'), .second] [])) _
        refine XS.lloadN X5.here hx rfl (hb hby d14_30) rfl ?_
        show Steps p.tables e below (T5.setTop (mkF m 31 #[.val (.ref a), .val (.long d'), .second] [(.long d')])) _
        exact retOut X5 hx Bd.returns rfl (Or.inr (Or.inl ⟨rfl, rfl, _, rfl⟩)) (hb hby d14_31) hr
      · show Q14 Z a d' wr' x n' fx' h0 n0 _ T5.heap _
        rw [e5]
        exact ⟨by rw [own_off, if_pos hc8_3, if_neg hc22_8], N0, rfl⟩
  · obtain ⟨fs, hr, hrun, hended, hW, hsame⟩ := X1.leave (v := some (.long d')) (fun h => by rw [Bd.returns] at h; cases h)
    refine ⟨_, _, pre2 _ ?_, hrun, hended, _, _, rfl, ?_, ⟨_, rfl⟩, hW, hsame.mono (by decide) (by decide)⟩
    · show Steps p.tables e below (T1.setTop (mkF m 8 #[.val (.ref a), .val (.long d'), .second] [(.int (lcmpW d' (0 : Int64)))])) _
      refine XS.ifYes X1.here hx rfl (pc0 := 8) (pc' := 30) rfl (hb hby d14_8) rfl ((if0 _ _).trans (flt (fun q => hc8_3 ((lw_lt d' (0 : Int64)).mp q))).2.1) (by decide) (by decide) ?_
      show Steps p.tables e below (T1.setTop (mkF m 30 #[.val (.ref a), .val (.long d'), .second] [])) _
      refine XS.lloadN X1.here hx rfl (hb hby d14_30) rfl ?_
      show Steps p.tables e below (T1.setTop (mkF m 31 #[.val (.ref a), .val (.long d'), .second] [(.long d')])) _
      exact retOut X1 hx Bd.returns rfl (Or.inr (Or.inl ⟨rfl, rfl, _, rfl⟩)) (hb hby d14_31) hr
    · show Q14 Z a d' wr' x n' fx' h0 n0 _ T1.heap _
      rw [e1]
      exact ⟨by rw [own_off, if_neg hc8_3], N0, rfl⟩
theorem d2_0 : decode prog_2_method_1_code 0 = .ok (.aload_n 0, 1) := by decide +kernel
theorem d2_1 : decode prog_2_method_1_code 1 = .ok (.invokespecial 1, 3) := by decide +kernel
theorem d2_4 : decode prog_2_method_1_code 4 = .ok (.aload_n 0, 1) := by decide +kernel
theorem d2_5 : decode prog_2_method_1_code 5 = .ok (.ldc2_w 7, 3) := by decide +kernel
theorem d2_8 : decode prog_2_method_1_code 8 = .ok (.putfield 9, 3) := by decide +kernel
theorem d2_11 : decode prog_2_method_1_code 11 = .ok (.aload_n 0, 1) := by decide +kernel
theorem d2_12 : decode prog_2_method_1_code 12 = .ok (.aload_n 1, 1) := by decide +kernel
theorem d2_13 : decode prog_2_method_1_code 13 = .ok (.ldc 15, 2) := by decide +kernel
theorem d2_15 : decode prog_2_method_1_code 15 = .ok (.invokestatic 17, 3) := by decide +kernel
theorem d2_18 : decode prog_2_method_1_code 18 = .ok (.checkcast 23, 3) := by decide +kernel
theorem d2_21 : decode prog_2_method_1_code 21 = .ok (.putfield 25, 3) := by decide +kernel
theorem d2_24 : decode prog_2_method_1_code 24 = .ok (.return_, 1) := by decide +kernel
theorem pn_2 : plainName "com/example/bytelace/bytelace/cli/FirstDifference" = true := by first | (simp [plainName, overriddenIn]; done) | decide +kernel
theorem pd2_0 : parseMethodDescriptor "()V" = some ⟨[], none⟩ := by decide +kernel
theorem pd2_1 : parseMethodDescriptor "(Ljava/lang/Object;Ljava/lang/String;)Ljava/lang/Object;" = some ⟨[(.object "java/lang/Object"), (.object "java/lang/String")], some (.object "java/lang/Object")⟩ := by decide +kernel
theorem ef_2 (m : MethodId) (x0 : Addr) (x1 : Addr) : entryFrame m #[(.ref x0), (.ref x1)] 2 = mkF m 0 #[.val (.ref x0), .val (.ref x1)] [] := by first | (simp [entryFrame, mkF, argsToLocals, Value.category]; done) | rfl
def Q2 (Z : State) (a : Addr) (x : Addr) (h0 : Heap) (n0 : Nat) (v : Option Value) (h : Heap) (L : List Loc) : Prop := v = none ∧ Fr n0 L ∧ Keep h0 h [a] ∧ Fld Z h a "com/example/bytelace/bytelace/cli/FirstDifference" "difference" "J" (.long (-1 : Int64)) ∧ Fld Z h a "com/example/bytelace/bytelace/cli/FirstDifference" "written" "J" (.long (0 : Int64)) ∧ Fld Z h a "com/example/bytelace/bytelace/cli/FirstDifference" "expected" "[B" (.ref x)
set_option maxRecDepth 65536 in
set_option maxHeartbeats 40000000 in
theorem rm2 (l : Launch) (Z : State) (a0 : Array Value) (hw : ∀ d ∈ tables_1, d.before a0 Z = true) (ws : List Jvm.Cond) (a : Addr) (x : Addr) (h0 : Heap) (n0 : Nat) (Z0 : n0 ≤ h0.size) (E_a : Exa Z h0 a "com/example/bytelace/bytelace/cli/FirstDifference") (F_difference_a : Fld Z h0 a "com/example/bytelace/bytelace/cli/FirstDifference" "difference" "J" (.long (0 : Int64))) (F_written_a : Fld Z h0 a "com/example/bytelace/bytelace/cli/FirstDifference" "written" "J" (.long (0 : Int64))) (F_expected_a : Fld Z h0 a "com/example/bytelace/bytelace/cli/FirstDifference" "expected" "[B" .null) (g_a : n0 ≤ a) (E_x : Exa Z h0 x "[B") :
    MetFree l (⟨"com/example/bytelace/bytelace/cli/FirstDifference", "<init>", "([B)V"⟩ : MethodName) (head1 (Jvm.Cond.code (⟨"com/example/bytelace/bytelace/cli/FirstDifference", "<init>", "([B)V"⟩ : MethodName) prog_2_method_1_code 2 none :: ws) ({ frames := 2, cells := 2, slots := 36, locals := 24 } : Room)) (fun ar U => ar = #[(.ref a), (.ref x)] ∧ Z.Warmed39 U.vm ∧ U.heap = h0) (fun _ _ _ _ _ => True) (fun _ U o U' => ∃ v L, o = .returned v ∧ Q2 Z a x h0 n0 v U'.heap L ∧ ReturnedEndW U o U' L ({ frames := 2, cells := 2, slots := 36, locals := 24 } : Room).cells ({ frames := 2, cells := 2, slots := 36, locals := 24 } : Room).slots) := by
  refine MetFree.of_bodySF (plainFor_of_name pn_2) hisR ?_
  intro p e s m args below meth c s₁ Bd hml0 hP hK
  obtain ⟨rfl, hZ, hh⟩ := hP
  have hx := Bd.exec
  have hby := Bd.bytes
  have hml : c.maxLocals = 2 := hml0
  have hown : s.vm.findClass "com/example/bytelace/bytelace/cli/FirstDifference" = some m.cls := findClass_of_methodNamed Bd.named
  have hnm := (name_of_methodNamed Bd.named Bd.method).1
  have X0 : Stand p l e ({ frames := 2, cells := 2, slots := 36, locals := 24 } : Room) (s.setVm s.vm) m #[(.ref a), (.ref x)] below meth c s₁ [] 0 0 := (Stand.of_body Bd : Stand p l e ({ frames := 2, cells := 2, slots := 36, locals := 24 } : Room) s m #[(.ref a), (.ref x)] below meth c s₁ [] 0 0)
  have e0 : s₁.heap = h0 := by rw [← hh, Bd.state]; rfl
  have N0 := Fr.nil n0
  have K0 : Keep h0 h0 [a] := Keep.refl h0 _
  have pre0 : ∀ t, Steps p.tables e below (s₁.setTop (mkF m 0 #[.val (.ref a), .val (.ref x)] [])) t → Steps p.tables e below (s₁.setTop (entryFrame m #[(.ref a), (.ref x)] 2)) t := fun t k => castTop (ef_2 m a x) k
  have hS : s.Since s.vm s.heap.size := (State.WarmedH.refl s).since _
  have hk : s.heap.size ≤ h0.size := by rw [← hh]; exact Nat.le_refl _
  obtain ⟨_, _, ⟨T1, L1, k1, n1⟩, -, X1, ⟨Lc1, hQ1, l1, y1, z1⟩, st1⟩ := X0.specialBack hx (y := (⟨"java/io/OutputStream", "<init>", "()V"⟩ : MethodName)) rfl hown (mvT hZ (hw _ (List.mem_of_getElem? (i := 11) rfl))) (mvT hZ (hw _ (List.mem_of_getElem? (i := 12) rfl))) (mvT hZ (hw _ (List.mem_of_getElem? (i := 15) rfl))) (by decide) (backOf (W := 0) (rm3 l Z a0 hw [] a h0 n0 Z0 ) hZ (hw _ (List.mem_of_getElem? (i := 15) rfl)) (hw _ (List.mem_of_getElem? (i := 14) rfl)) (by decide) (by decide)) (g := (mkF m 1 #[.val (.ref a), .val (.ref x)] [(.ref a)])) rfl (by rw [hml]; rfl) (Steps.refl _) (a := a) (argsL := []) (rest := []) (lenOf pd2_0 rfl) rfl (by show 2 * 0 + _ ≤ _; exact Nat.le_of_eq rfl) (hb hby d2_1) (fun _ _ => ⟨rfl, e0, (by decide : 0 + 0 ≤ _), (by decide : 0 + 0 ≤ _)⟩)
  dsimp only [Pt.U, Pt.locs, Pt.cells, Pt.slots] at X1 l1 y1 z1 st1 hQ1
  subst l1 y1 z1
  obtain ⟨rfl, N1q, hh1⟩ := hQ1
  have N1 := Fr.app N0 N1q
  obtain ⟨T2, h2, X2, e2, W2, st2⟩ := putF X1 hx hZ hown (host := "") (Or.inl (hw _ (List.mem_of_getElem? (i := 20) rfl))) Via.refl hh1 F_difference_a E_a (Or.inl (hw _ (List.mem_of_getElem? (i := 21) rfl))) (hw _ (List.mem_of_getElem? (i := 6) rfl)) (ty := .long) (by decide) rfl rfl (g := (mkF m 8 #[.val (.ref a), .val (.ref x)] [(.long (-1 : Int64)), (.ref a)])) rfl rfl (hb hby d2_8)
  have E_a := E_a.wr W2
  have F_difference_a := F_difference_a.same W2
  have F_written_a := F_written_a.other W2 (Or.inr (slot_ne (Or.inl (hw _ (List.mem_of_getElem? (i := 50) rfl))) (Or.inl (hw _ (List.mem_of_getElem? (i := 21) rfl))) (by decide) (t := .long) (t' := .long) (by decide) (by decide)))
  have F_expected_a := F_expected_a.other W2 (Or.inr (slot_ne (Or.inr (hw _ (List.mem_of_getElem? (i := 36) rfl))) (Or.inl (hw _ (List.mem_of_getElem? (i := 21) rfl))) (by decide) (t := (.array .byte)) (t' := .long) (by decide) (by decide)))
  have E_x := E_x.wr W2
  have Zs2 : n0 ≤ h2.size := Nat.le_trans Z0 (Keep.of_wr W2).1
  have hk := Nat.le_trans hk (Keep.of_wr W2).1
  have K2 : Keep h0 h2 [a] := K0.wr W2 (Or.inl (List.mem_of_getElem? (i := 0) rfl))
  have N2 := Fr.snoc X2 N1 g_a
  have pre3 : ∀ t, Steps p.tables e below (T2.setTop (mkF m 13 #[.val (.ref a), .val (.ref x)] [(.ref x), (.ref a)])) t → Steps p.tables e below (s₁.setTop (entryFrame m #[(.ref a), (.ref x)] 2)) t := by
    intro t kt
    refine pre0 t ?_
    show Steps p.tables e below (s₁.setTop (mkF m 0 #[.val (.ref a), .val (.ref x)] [])) _
    refine XS.aloadN X0.here hx rfl (hb hby d2_0) rfl rfl ?_
    show Steps p.tables e below (s₁.setTop (mkF m 1 #[.val (.ref a), .val (.ref x)] [(.ref a)])) _
    refine st1.trans ?_
    show Steps p.tables e below (T1.setTop (mkF m 4 #[.val (.ref a), .val (.ref x)] [])) _
    refine XS.aloadN X1.here hx rfl (hb hby d2_4) rfl rfl ?_
    show Steps p.tables e below (T1.setTop (mkF m 5 #[.val (.ref a), .val (.ref x)] [(.ref a)])) _
    refine X1.ldc2Long hx hown (mvT hZ (hw _ (List.mem_of_getElem? (i := 19) rfl))) (g := (mkF m 5 #[.val (.ref a), .val (.ref x)] [(.ref a)])) rfl (hb hby d2_5) _ ?_
    show Steps p.tables e below (T1.setTop (mkF m 8 #[.val (.ref a), .val (.ref x)] [(.long (-1 : Int64)), (.ref a)])) _
    refine st2 _ ?_
    show Steps p.tables e below (T2.setTop (mkF m 11 #[.val (.ref a), .val (.ref x)] [])) _
    refine XS.aloadN X2.here hx rfl (hb hby d2_11) rfl rfl ?_
    show Steps p.tables e below (T2.setTop (mkF m 12 #[.val (.ref a), .val (.ref x)] [(.ref a)])) _
    refine XS.aloadN X2.here hx rfl (hb hby d2_12) rfl rfl ?_
    exact kt
  obtain ⟨b4, T4, h4, k4, X4, e4, E4, hS, hk, hZ, hown, st4⟩ := ldcS X2 hx hZ hown (hw _ (List.mem_of_getElem? (i := 22) rfl)) (own_sa hw) e2 hS hk (g := (mkF m 13 #[.val (.ref a), .val (.ref x)] [(.ref x), (.ref a)])) rfl (hb hby d2_13) (n := 32) (by decide +kernel) (by decide) (by decide) (by decide)
  have E_a := E_a.ext E4
  have F_difference_a := F_difference_a.ext E4
  have F_written_a := F_written_a.ext E4
  have F_expected_a := F_expected_a.ext E4
  have E_x := E_x.ext E4
  have Zs4 : n0 ≤ h4.size := Nat.le_trans Zs2 E4.1
  have K4 : Keep h0 h4 [a] := K2.ext E4
  obtain ⟨_, _, ⟨T5, L5, k5, n5⟩, -, X5, ⟨Lc5, hQ5, l5, y5, z5⟩, st5⟩ := Jvm.LawKit.callS X4 hx (y := (⟨"java/util/Objects", "requireNonNull", "(Ljava/lang/Object;Ljava/lang/String;)Ljava/lang/Object;"⟩ : MethodName)) hown (mvT hZ (hw _ (List.mem_of_getElem? (i := 29) rfl))) (mvT hZ (hw _ (List.mem_of_getElem? (i := 30) rfl))) (mvT hZ (hw _ (List.mem_of_getElem? (i := 31) rfl))) (mvT hZ (hw _ (List.mem_of_getElem? (i := 32) rfl))) (by decide) (backOf (W := 1) (rm5 l Z a0 hw [] x b4 h4 n0 Zs4 ) hZ (hw _ (List.mem_of_getElem? (i := 32) rfl)) (hw _ (List.mem_of_getElem? (i := 31) rfl)) (by decide) (by decide)) (g := (mkF m 15 #[.val (.ref a), .val (.ref x)] [(.ref b4), (.ref x), (.ref a)])) rfl (by rw [hml]; rfl) (argsL := [(.ref x), (.ref b4)]) (rest := [(.ref a)]) (lenOf pd2_1 rfl) rfl (by show 2 * 0 + _ ≤ _; exact Nat.le_of_eq rfl) (hb hby d2_15) (fun _ _ => ⟨rfl, e4, (by decide : 2 + 0 ≤ _), (by decide : 36 + 0 ≤ _)⟩)
  dsimp only [Pt.U, Pt.locs, Pt.cells, Pt.slots] at X5 l5 y5 z5 st5 hQ5
  subst l5 y5 z5
  obtain ⟨rfl, N5q, hh5⟩ := hQ5
  have N5 := Fr.app N2 N5q
  obtain ⟨T6, X6, e6, st6⟩ := castY X5 hx hZ hown (hw _ (List.mem_of_getElem? (i := 33) rfl)) hh5 (Ins.self E_x) (g := (mkF m 18 #[.val (.ref a), .val (.ref x)] [(.ref x), (.ref a)])) rfl rfl (hb hby d2_18)
  obtain ⟨T7, h7, X7, e7, W7, st7⟩ := putF X6 hx hZ hown (host := "") (Or.inl (hw _ (List.mem_of_getElem? (i := 35) rfl))) Via.refl e6 F_expected_a E_a (Or.inr ⟨(hw _ (List.mem_of_getElem? (i := 36) rfl)), rfl, hnm⟩) (hw _ (List.mem_of_getElem? (i := 6) rfl)) (ty := (.array .byte)) (by decide) rfl rfl (g := (mkF m 21 #[.val (.ref a), .val (.ref x)] [(.ref x), (.ref a)])) rfl rfl (hb hby d2_21)
  have E_a := E_a.wr W7
  have F_difference_a := F_difference_a.other W7 (Or.inr (slot_ne (Or.inl (hw _ (List.mem_of_getElem? (i := 21) rfl))) (Or.inr (hw _ (List.mem_of_getElem? (i := 36) rfl))) (by decide) (t := .long) (t' := (.array .byte)) (by decide) (by decide)))
  have F_written_a := F_written_a.other W7 (Or.inr (slot_ne (Or.inl (hw _ (List.mem_of_getElem? (i := 50) rfl))) (Or.inr (hw _ (List.mem_of_getElem? (i := 36) rfl))) (by decide) (t := .long) (t' := (.array .byte)) (by decide) (by decide)))
  have F_expected_a := F_expected_a.same W7
  have E_x := E_x.wr W7
  have Zs7 : n0 ≤ h7.size := Nat.le_trans Zs4 (Keep.of_wr W7).1
  have hk := Nat.le_trans hk (Keep.of_wr W7).1
  have K7 : Keep h0 h7 [a] := K4.wr W7 (Or.inl (List.mem_of_getElem? (i := 0) rfl))
  have N7 := Fr.snoc X7 N5 g_a
  obtain ⟨fs, hr, hrun, hended, hW⟩ := X7.leaveW hS (by rw [e7]; exact hk) (v := none) (fun _ => rfl)
  refine ⟨_, _, pre3 _ ?_, hrun, hended, _, _, rfl, ?_, hW.1, hW.2.1, hW.2.2.1, hW.2.2.2.mono (by decide) (by decide)⟩
  · show Steps p.tables e below (T2.setTop (mkF m 13 #[.val (.ref a), .val (.ref x)] [(.ref x), (.ref a)])) _
    refine st4 _ ?_
    show Steps p.tables e below (T4.setTop (mkF m 15 #[.val (.ref a), .val (.ref x)] [(.ref b4), (.ref x), (.ref a)])) _
    refine st5 _ ?_
    show Steps p.tables e below (T5.setTop (mkF m 18 #[.val (.ref a), .val (.ref x)] [(.ref x), (.ref a)])) _
    refine st6 _ ?_
    show Steps p.tables e below (T6.setTop (mkF m 21 #[.val (.ref a), .val (.ref x)] [(.ref x), (.ref a)])) _
    refine st7 _ ?_
    show Steps p.tables e below (T7.setTop (mkF m 24 #[.val (.ref a), .val (.ref x)] [])) _
    exact X7.returnOut hx Bd.returns (hb hby d2_24) hr
  · show Q2 Z a x h0 n0 _ T7.heap _
    rw [e7]
    exact ⟨rfl, N7, K7, F_difference_a, F_written_a, F_expected_a⟩
theorem pn_0 : plainName "com/example/bytelace/bytelace/cli/FirstDifferenceOffsetPinLaw" = true := by first | (simp [plainName, overriddenIn]; done) | decide +kernel
theorem pd0_0 : parseMethodDescriptor "(IIIBI)B" = some ⟨[.int, .int, .int, .byte, .int], some .byte⟩ := by decide +kernel
theorem pd0_1 : parseMethodDescriptor "([B)V" = some ⟨[(.array .byte)], none⟩ := by decide +kernel
theorem pd0_2 : parseMethodDescriptor "([BII)V" = some ⟨[(.array .byte), .int, .int], none⟩ := by decide +kernel
theorem pd0_3 : parseMethodDescriptor "(I)V" = some ⟨[.int], none⟩ := by decide +kernel
theorem pd0_4 : parseMethodDescriptor "()J" = some ⟨[], some .long⟩ := by decide +kernel
theorem pd0_5 : parseMethodDescriptor "(II)I" = some ⟨[.int, .int], some .int⟩ := by decide +kernel
theorem ef_0 (m : MethodId) (x0 : Int32) (x1 : Int32) (x2 : Int32) (x3 : Int32) : entryFrame m #[(.int x0), (.int x1), (.int x2), (.int x3)] maxLocals = mkF m 0 #[.val (.int x0), .val (.int x1), .val (.int x2), .val (.int x3), .unset, .unset, .unset, .unset, .unset, .unset, .unset, .unset, .unset, .unset, .unset, .unset, .unset, .unset, .unset] [] := by first | (simp [entryFrame, mkF, argsToLocals, Value.category, maxLocals]; done) | rfl
def Q0 (Z : State) (eb' : Int32) (wb' : Int32) (ct' : Int32) (jk' : Int32) (h0 : Heap) (n0 : Nat) (v : Option Value) (h : Heap) (L : List Loc) : Prop := v = some (.int (1 : Int32)) ∧ Fr n0 L
set_option maxRecDepth 65536 in
set_option maxHeartbeats 40000000 in
theorem rm0 (l : Launch) (Z : State) (a0 : Array Value) (hw : ∀ d ∈ tables_1, d.before a0 Z = true) (ws : List Jvm.Cond) (eb' : Int32) (wb' : Int32) (ct' : Int32) (jk' : Int32) (h0 : Heap) (n0 : Nat) (Z0 : n0 ≤ h0.size)  :
    MetFree l x (head1 (Jvm.Cond.code x code maxLocals ret :: ws) room_1) (fun ar U => ar = #[(.int eb'), (.int wb'), (.int ct'), (.int jk')] ∧ Z.Warmed39 U.vm ∧ U.heap = h0) (fun _ _ _ _ _ => True) (fun _ U o U' => ∃ v L, o = .returned v ∧ Q0 Z eb' wb' ct' jk' h0 n0 v U'.heap L ∧ ReturnedEndW U o U' L room_1.cells room_1.slots) := by
  refine MetFree.of_bodySF (plainFor_of_name pn_0) hisR ?_
  intro p e s m args below meth c s₁ Bd hml0 hP hK
  obtain ⟨rfl, hZ, hh⟩ := hP
  have hx := Bd.exec
  have hby := Bd.bytes
  have hml : c.maxLocals = 19 := hml0
  have hown : s.vm.findClass "com/example/bytelace/bytelace/cli/FirstDifferenceOffsetPinLaw" = some m.cls := findClass_of_methodNamed Bd.named
  have hnm := (name_of_methodNamed Bd.named Bd.method).1
  have X0 : Stand p l e room_1 (s.setVm s.vm) m #[(.int eb'), (.int wb'), (.int ct'), (.int jk')] below meth c s₁ [] 0 0 := (Stand.of_body Bd : Stand p l e room_1 s m #[(.int eb'), (.int wb'), (.int ct'), (.int jk')] below meth c s₁ [] 0 0)
  have e0 : s₁.heap = h0 := by rw [← hh, Bd.state]; rfl
  have N0 := Fr.nil n0
  have K0 : Keep h0 h0 [] := Keep.refl h0 _
  have pre0 : ∀ t, Steps p.tables e below (s₁.setTop (mkF m 0 #[.val (.int eb'), .val (.int wb'), .val (.int ct'), .val (.int jk'), .unset, .unset, .unset, .unset, .unset, .unset, .unset, .unset, .unset, .unset, .unset, .unset, .unset, .unset, .unset] [])) t → Steps p.tables e below (s₁.setTop (entryFrame m #[(.int eb'), (.int wb'), (.int ct'), (.int jk')] maxLocals)) t := fun t k => castTop (ef_0 m eb' wb' ct' jk') k
  have hS : s.Since s.vm s.heap.size := (State.WarmedH.refl s).since _
  have hk : s.heap.size ≤ h0.size := by rw [← hh]; exact Nat.le_refl _
  have pre1 : ∀ t, Steps p.tables e below (s₁.setTop (mkF m 8 #[.val (.int eb'), .val (.int wb'), .val (.int ct'), .val (.int jk'), .val (.int ((ct' &&& (7 : Int32)) % (5 : Int32))), .unset, .unset, .unset, .unset, .unset, .unset, .unset, .unset, .unset, .unset, .unset, .unset, .unset, .unset] [])) t → Steps p.tables e below (s₁.setTop (entryFrame m #[(.int eb'), (.int wb'), (.int ct'), (.int jk')] maxLocals)) t := by
    intro t kt
    refine pre0 t ?_
    show Steps p.tables e below (s₁.setTop (mkF m 0 #[.val (.int eb'), .val (.int wb'), .val (.int ct'), .val (.int jk'), .unset, .unset, .unset, .unset, .unset, .unset, .unset, .unset, .unset, .unset, .unset, .unset, .unset, .unset, .unset] [])) _
    refine XS.iloadN X0.here hx rfl (hb hby at_0) rfl ?_
    show Steps p.tables e below (s₁.setTop (mkF m 1 #[.val (.int eb'), .val (.int wb'), .val (.int ct'), .val (.int jk'), .unset, .unset, .unset, .unset, .unset, .unset, .unset, .unset, .unset, .unset, .unset, .unset, .unset, .unset, .unset] [(.int ct')])) _
    refine XS.bipush X0.here hx rfl (hb hby at_1) ?_
    show Steps p.tables e below (s₁.setTop (mkF m 3 #[.val (.int eb'), .val (.int wb'), .val (.int ct'), .val (.int jk'), .unset, .unset, .unset, .unset, .unset, .unset, .unset, .unset, .unset, .unset, .unset, .unset, .unset, .unset, .unset] [(.int (7 : Int32)), (.int ct')])) _
    refine XS.iand X0.here hx rfl (hb hby at_3) rfl ?_
    show Steps p.tables e below (s₁.setTop (mkF m 4 #[.val (.int eb'), .val (.int wb'), .val (.int ct'), .val (.int jk'), .unset, .unset, .unset, .unset, .unset, .unset, .unset, .unset, .unset, .unset, .unset, .unset, .unset, .unset, .unset] [(.int (ct' &&& (7 : Int32)))])) _
    refine XS.iconst X0.here hx rfl (hb hby at_4) ?_
    show Steps p.tables e below (s₁.setTop (mkF m 5 #[.val (.int eb'), .val (.int wb'), .val (.int ct'), .val (.int jk'), .unset, .unset, .unset, .unset, .unset, .unset, .unset, .unset, .unset, .unset, .unset, .unset, .unset, .unset, .unset] [(.int (5 : Int32)), (.int (ct' &&& (7 : Int32)))])) _
    refine iremM X0 hx rfl (hb hby at_5) rfl (by decide) ?_
    show Steps p.tables e below (s₁.setTop (mkF m 6 #[.val (.int eb'), .val (.int wb'), .val (.int ct'), .val (.int jk'), .unset, .unset, .unset, .unset, .unset, .unset, .unset, .unset, .unset, .unset, .unset, .unset, .unset, .unset, .unset] [(.int ((ct' &&& (7 : Int32)) % (5 : Int32)))])) _
    refine XS.istore X0.here hx rfl (hb hby at_6) rfl (l' := #[.val (.int eb'), .val (.int wb'), .val (.int ct'), .val (.int jk'), .val (.int ((ct' &&& (7 : Int32)) % (5 : Int32))), .unset, .unset, .unset, .unset, .unset, .unset, .unset, .unset, .unset, .unset, .unset, .unset, .unset, .unset]) rfl ?_
    exact kt
  obtain ⟨n', h_n'⟩ : ∃ z : Int32, z = ((ct' &&& (7 : Int32)) % (5 : Int32)) := ⟨_, rfl⟩
  have pre2 : ∀ t, Steps p.tables e below (s₁.setTop (mkF m 8 #[.val (.int eb'), .val (.int wb'), .val (.int ct'), .val (.int jk'), .val (.int n'), .unset, .unset, .unset, .unset, .unset, .unset, .unset, .unset, .unset, .unset, .unset, .unset, .unset, .unset] [])) t → Steps p.tables e below (s₁.setTop (entryFrame m #[(.int eb'), (.int wb'), (.int ct'), (.int jk')] maxLocals)) t := by rw [h_n']; exact pre1
  have hn : 0 ≤ n'.toInt ∧ n'.toInt ≤ 4 := by rw [h_n']; exact own_m5 _
  have pre3 : ∀ t, Steps p.tables e below (s₁.setTop (mkF m 18 #[.val (.int eb'), .val (.int wb'), .val (.int ct'), .val (.int jk'), .val (.int n'), .val (.int ((((ct'.toUInt32 >>> ((3 : Int32) &&& 31).toUInt32).toInt32) &&& (7 : Int32)) % (5 : Int32))), .unset, .unset, .unset, .unset, .unset, .unset, .unset, .unset, .unset, .unset, .unset, .unset, .unset] [])) t → Steps p.tables e below (s₁.setTop (entryFrame m #[(.int eb'), (.int wb'), (.int ct'), (.int jk')] maxLocals)) t := by
    intro t kt
    refine pre2 t ?_
    show Steps p.tables e below (s₁.setTop (mkF m 8 #[.val (.int eb'), .val (.int wb'), .val (.int ct'), .val (.int jk'), .val (.int n'), .unset, .unset, .unset, .unset, .unset, .unset, .unset, .unset, .unset, .unset, .unset, .unset, .unset, .unset] [])) _
    refine XS.iloadN X0.here hx rfl (hb hby at_8) rfl ?_
    show Steps p.tables e below (s₁.setTop (mkF m 9 #[.val (.int eb'), .val (.int wb'), .val (.int ct'), .val (.int jk'), .val (.int n'), .unset, .unset, .unset, .unset, .unset, .unset, .unset, .unset, .unset, .unset, .unset, .unset, .unset, .unset] [(.int ct')])) _
    refine XS.iconst X0.here hx rfl (hb hby at_9) ?_
    show Steps p.tables e below (s₁.setTop (mkF m 10 #[.val (.int eb'), .val (.int wb'), .val (.int ct'), .val (.int jk'), .val (.int n'), .unset, .unset, .unset, .unset, .unset, .unset, .unset, .unset, .unset, .unset, .unset, .unset, .unset, .unset] [(.int (3 : Int32)), (.int ct')])) _
    refine XS.iushr X0.here hx rfl (hb hby at_10) rfl ?_
    show Steps p.tables e below (s₁.setTop (mkF m 11 #[.val (.int eb'), .val (.int wb'), .val (.int ct'), .val (.int jk'), .val (.int n'), .unset, .unset, .unset, .unset, .unset, .unset, .unset, .unset, .unset, .unset, .unset, .unset, .unset, .unset] [(.int ((ct'.toUInt32 >>> ((3 : Int32) &&& 31).toUInt32).toInt32))])) _
    refine XS.bipush X0.here hx rfl (hb hby at_11) ?_
    show Steps p.tables e below (s₁.setTop (mkF m 13 #[.val (.int eb'), .val (.int wb'), .val (.int ct'), .val (.int jk'), .val (.int n'), .unset, .unset, .unset, .unset, .unset, .unset, .unset, .unset, .unset, .unset, .unset, .unset, .unset, .unset] [(.int (7 : Int32)), (.int ((ct'.toUInt32 >>> ((3 : Int32) &&& 31).toUInt32).toInt32))])) _
    refine XS.iand X0.here hx rfl (hb hby at_13) rfl ?_
    show Steps p.tables e below (s₁.setTop (mkF m 14 #[.val (.int eb'), .val (.int wb'), .val (.int ct'), .val (.int jk'), .val (.int n'), .unset, .unset, .unset, .unset, .unset, .unset, .unset, .unset, .unset, .unset, .unset, .unset, .unset, .unset] [(.int (((ct'.toUInt32 >>> ((3 : Int32) &&& 31).toUInt32).toInt32) &&& (7 : Int32)))])) _
    refine XS.iconst X0.here hx rfl (hb hby at_14) ?_
    show Steps p.tables e below (s₁.setTop (mkF m 15 #[.val (.int eb'), .val (.int wb'), .val (.int ct'), .val (.int jk'), .val (.int n'), .unset, .unset, .unset, .unset, .unset, .unset, .unset, .unset, .unset, .unset, .unset, .unset, .unset, .unset] [(.int (5 : Int32)), (.int (((ct'.toUInt32 >>> ((3 : Int32) &&& 31).toUInt32).toInt32) &&& (7 : Int32)))])) _
    refine iremM X0 hx rfl (hb hby at_15) rfl (by decide) ?_
    show Steps p.tables e below (s₁.setTop (mkF m 16 #[.val (.int eb'), .val (.int wb'), .val (.int ct'), .val (.int jk'), .val (.int n'), .unset, .unset, .unset, .unset, .unset, .unset, .unset, .unset, .unset, .unset, .unset, .unset, .unset, .unset] [(.int ((((ct'.toUInt32 >>> ((3 : Int32) &&& 31).toUInt32).toInt32) &&& (7 : Int32)) % (5 : Int32)))])) _
    refine XS.istore X0.here hx rfl (hb hby at_16) rfl (l' := #[.val (.int eb'), .val (.int wb'), .val (.int ct'), .val (.int jk'), .val (.int n'), .val (.int ((((ct'.toUInt32 >>> ((3 : Int32) &&& 31).toUInt32).toInt32) &&& (7 : Int32)) % (5 : Int32))), .unset, .unset, .unset, .unset, .unset, .unset, .unset, .unset, .unset, .unset, .unset, .unset, .unset]) rfl ?_
    exact kt
  obtain ⟨m', h_m'⟩ : ∃ z : Int32, z = ((((ct'.toUInt32 >>> ((3 : Int32) &&& 31).toUInt32).toInt32) &&& (7 : Int32)) % (5 : Int32)) := ⟨_, rfl⟩
  have pre4 : ∀ t, Steps p.tables e below (s₁.setTop (mkF m 18 #[.val (.int eb'), .val (.int wb'), .val (.int ct'), .val (.int jk'), .val (.int n'), .val (.int m'), .unset, .unset, .unset, .unset, .unset, .unset, .unset, .unset, .unset, .unset, .unset, .unset, .unset] [])) t → Steps p.tables e below (s₁.setTop (entryFrame m #[(.int eb'), (.int wb'), (.int ct'), (.int jk')] maxLocals)) t := by rw [h_m']; exact pre3
  have hm : 0 ≤ m'.toInt ∧ m'.toInt ≤ 4 := by rw [h_m']; exact own_m5 _
  have hnz29 := own_nz hm
  have pre5 : ∀ t, Steps p.tables e below (s₁.setTop (mkF m 32 #[.val (.int eb'), .val (.int wb'), .val (.int ct'), .val (.int jk'), .val (.int n'), .val (.int m'), .val (.int ((((ct'.toUInt32 >>> ((6 : Int32) &&& 31).toUInt32).toInt32) &&& (7 : Int32)) % (m' + (1 : Int32)))), .unset, .unset, .unset, .unset, .unset, .unset, .unset, .unset, .unset, .unset, .unset, .unset] [])) t → Steps p.tables e below (s₁.setTop (entryFrame m #[(.int eb'), (.int wb'), (.int ct'), (.int jk')] maxLocals)) t := by
    intro t kt
    refine pre4 t ?_
    show Steps p.tables e below (s₁.setTop (mkF m 18 #[.val (.int eb'), .val (.int wb'), .val (.int ct'), .val (.int jk'), .val (.int n'), .val (.int m'), .unset, .unset, .unset, .unset, .unset, .unset, .unset, .unset, .unset, .unset, .unset, .unset, .unset] [])) _
    refine XS.iloadN X0.here hx rfl (hb hby at_18) rfl ?_
    show Steps p.tables e below (s₁.setTop (mkF m 19 #[.val (.int eb'), .val (.int wb'), .val (.int ct'), .val (.int jk'), .val (.int n'), .val (.int m'), .unset, .unset, .unset, .unset, .unset, .unset, .unset, .unset, .unset, .unset, .unset, .unset, .unset] [(.int ct')])) _
    refine XS.bipush X0.here hx rfl (hb hby at_19) ?_
    show Steps p.tables e below (s₁.setTop (mkF m 21 #[.val (.int eb'), .val (.int wb'), .val (.int ct'), .val (.int jk'), .val (.int n'), .val (.int m'), .unset, .unset, .unset, .unset, .unset, .unset, .unset, .unset, .unset, .unset, .unset, .unset, .unset] [(.int (6 : Int32)), (.int ct')])) _
    refine XS.iushr X0.here hx rfl (hb hby at_21) rfl ?_
    show Steps p.tables e below (s₁.setTop (mkF m 22 #[.val (.int eb'), .val (.int wb'), .val (.int ct'), .val (.int jk'), .val (.int n'), .val (.int m'), .unset, .unset, .unset, .unset, .unset, .unset, .unset, .unset, .unset, .unset, .unset, .unset, .unset] [(.int ((ct'.toUInt32 >>> ((6 : Int32) &&& 31).toUInt32).toInt32))])) _
    refine XS.bipush X0.here hx rfl (hb hby at_22) ?_
    show Steps p.tables e below (s₁.setTop (mkF m 24 #[.val (.int eb'), .val (.int wb'), .val (.int ct'), .val (.int jk'), .val (.int n'), .val (.int m'), .unset, .unset, .unset, .unset, .unset, .unset, .unset, .unset, .unset, .unset, .unset, .unset, .unset] [(.int (7 : Int32)), (.int ((ct'.toUInt32 >>> ((6 : Int32) &&& 31).toUInt32).toInt32))])) _
    refine XS.iand X0.here hx rfl (hb hby at_24) rfl ?_
    show Steps p.tables e below (s₁.setTop (mkF m 25 #[.val (.int eb'), .val (.int wb'), .val (.int ct'), .val (.int jk'), .val (.int n'), .val (.int m'), .unset, .unset, .unset, .unset, .unset, .unset, .unset, .unset, .unset, .unset, .unset, .unset, .unset] [(.int (((ct'.toUInt32 >>> ((6 : Int32) &&& 31).toUInt32).toInt32) &&& (7 : Int32)))])) _
    refine XS.iload X0.here hx rfl (hb hby at_25) rfl ?_
    show Steps p.tables e below (s₁.setTop (mkF m 27 #[.val (.int eb'), .val (.int wb'), .val (.int ct'), .val (.int jk'), .val (.int n'), .val (.int m'), .unset, .unset, .unset, .unset, .unset, .unset, .unset, .unset, .unset, .unset, .unset, .unset, .unset] [(.int m'), (.int (((ct'.toUInt32 >>> ((6 : Int32) &&& 31).toUInt32).toInt32) &&& (7 : Int32)))])) _
    refine XS.iconst X0.here hx rfl (hb hby at_27) ?_
    show Steps p.tables e below (s₁.setTop (mkF m 28 #[.val (.int eb'), .val (.int wb'), .val (.int ct'), .val (.int jk'), .val (.int n'), .val (.int m'), .unset, .unset, .unset, .unset, .unset, .unset, .unset, .unset, .unset, .unset, .unset, .unset, .unset] [(.int (1 : Int32)), (.int m'), (.int (((ct'.toUInt32 >>> ((6 : Int32) &&& 31).toUInt32).toInt32) &&& (7 : Int32)))])) _
    refine XS.iadd X0.here hx rfl (hb hby at_28) rfl ?_
    show Steps p.tables e below (s₁.setTop (mkF m 29 #[.val (.int eb'), .val (.int wb'), .val (.int ct'), .val (.int jk'), .val (.int n'), .val (.int m'), .unset, .unset, .unset, .unset, .unset, .unset, .unset, .unset, .unset, .unset, .unset, .unset, .unset] [(.int (m' + (1 : Int32))), (.int (((ct'.toUInt32 >>> ((6 : Int32) &&& 31).toUInt32).toInt32) &&& (7 : Int32)))])) _
    refine iremM X0 hx rfl (hb hby at_29) rfl hnz29 ?_
    show Steps p.tables e below (s₁.setTop (mkF m 30 #[.val (.int eb'), .val (.int wb'), .val (.int ct'), .val (.int jk'), .val (.int n'), .val (.int m'), .unset, .unset, .unset, .unset, .unset, .unset, .unset, .unset, .unset, .unset, .unset, .unset, .unset] [(.int ((((ct'.toUInt32 >>> ((6 : Int32) &&& 31).toUInt32).toInt32) &&& (7 : Int32)) % (m' + (1 : Int32))))])) _
    refine XS.istore X0.here hx rfl (hb hby at_30) rfl (l' := #[.val (.int eb'), .val (.int wb'), .val (.int ct'), .val (.int jk'), .val (.int n'), .val (.int m'), .val (.int ((((ct'.toUInt32 >>> ((6 : Int32) &&& 31).toUInt32).toInt32) &&& (7 : Int32)) % (m' + (1 : Int32)))), .unset, .unset, .unset, .unset, .unset, .unset, .unset, .unset, .unset, .unset, .unset, .unset]) rfl ?_
    exact kt
  obtain ⟨k', h_k'⟩ : ∃ z : Int32, z = ((((ct'.toUInt32 >>> ((6 : Int32) &&& 31).toUInt32).toInt32) &&& (7 : Int32)) % (m' + (1 : Int32))) := ⟨_, rfl⟩
  have pre6 : ∀ t, Steps p.tables e below (s₁.setTop (mkF m 32 #[.val (.int eb'), .val (.int wb'), .val (.int ct'), .val (.int jk'), .val (.int n'), .val (.int m'), .val (.int k'), .unset, .unset, .unset, .unset, .unset, .unset, .unset, .unset, .unset, .unset, .unset, .unset] [])) t → Steps p.tables e below (s₁.setTop (entryFrame m #[(.int eb'), (.int wb'), (.int ct'), (.int jk')] maxLocals)) t := by rw [h_k']; exact pre5
  have hk6 : 0 ≤ k'.toInt ∧ k'.toInt ≤ m'.toInt := by rw [h_k']; exact own_kk _ hm
  have J7 : ∃ (sg' : Int32), ∀ t, Steps p.tables e below (s₁.setTop (mkF m 46 #[.val (.int eb'), .val (.int wb'), .val (.int ct'), .val (.int jk'), .val (.int n'), .val (.int m'), .val (.int k'), .unset, .unset, .unset, .unset, .unset, .unset, .unset, .unset, .unset, .unset, .unset, .unset] [(.int sg')])) t → Steps p.tables e below (s₁.setTop (entryFrame m #[(.int eb'), (.int wb'), (.int ct'), (.int jk')] maxLocals)) t := by
    have pre8 : ∀ t, Steps p.tables e below (s₁.setTop (mkF m 38 #[.val (.int eb'), .val (.int wb'), .val (.int ct'), .val (.int jk'), .val (.int n'), .val (.int m'), .val (.int k'), .unset, .unset, .unset, .unset, .unset, .unset, .unset, .unset, .unset, .unset, .unset, .unset] [(.int (((ct'.toUInt32 >>> ((9 : Int32) &&& 31).toUInt32).toInt32) &&& (1 : Int32)))])) t → Steps p.tables e below (s₁.setTop (entryFrame m #[(.int eb'), (.int wb'), (.int ct'), (.int jk')] maxLocals)) t := by
      intro t kt
      refine pre6 t ?_
      show Steps p.tables e below (s₁.setTop (mkF m 32 #[.val (.int eb'), .val (.int wb'), .val (.int ct'), .val (.int jk'), .val (.int n'), .val (.int m'), .val (.int k'), .unset, .unset, .unset, .unset, .unset, .unset, .unset, .unset, .unset, .unset, .unset, .unset] [])) _
      refine XS.iloadN X0.here hx rfl (hb hby at_32) rfl ?_
      show Steps p.tables e below (s₁.setTop (mkF m 33 #[.val (.int eb'), .val (.int wb'), .val (.int ct'), .val (.int jk'), .val (.int n'), .val (.int m'), .val (.int k'), .unset, .unset, .unset, .unset, .unset, .unset, .unset, .unset, .unset, .unset, .unset, .unset] [(.int ct')])) _
      refine XS.bipush X0.here hx rfl (hb hby at_33) ?_
      show Steps p.tables e below (s₁.setTop (mkF m 35 #[.val (.int eb'), .val (.int wb'), .val (.int ct'), .val (.int jk'), .val (.int n'), .val (.int m'), .val (.int k'), .unset, .unset, .unset, .unset, .unset, .unset, .unset, .unset, .unset, .unset, .unset, .unset] [(.int (9 : Int32)), (.int ct')])) _
      refine XS.iushr X0.here hx rfl (hb hby at_35) rfl ?_
      show Steps p.tables e below (s₁.setTop (mkF m 36 #[.val (.int eb'), .val (.int wb'), .val (.int ct'), .val (.int jk'), .val (.int n'), .val (.int m'), .val (.int k'), .unset, .unset, .unset, .unset, .unset, .unset, .unset, .unset, .unset, .unset, .unset, .unset] [(.int ((ct'.toUInt32 >>> ((9 : Int32) &&& 31).toUInt32).toInt32))])) _
      refine XS.iconst X0.here hx rfl (hb hby at_36) ?_
      show Steps p.tables e below (s₁.setTop (mkF m 37 #[.val (.int eb'), .val (.int wb'), .val (.int ct'), .val (.int jk'), .val (.int n'), .val (.int m'), .val (.int k'), .unset, .unset, .unset, .unset, .unset, .unset, .unset, .unset, .unset, .unset, .unset, .unset] [(.int (1 : Int32)), (.int ((ct'.toUInt32 >>> ((9 : Int32) &&& 31).toUInt32).toInt32))])) _
      refine XS.iand X0.here hx rfl (hb hby at_37) rfl ?_
      exact kt
    by_cases hc38_9 : (((ct'.toUInt32 >>> ((9 : Int32) &&& 31).toUInt32).toInt32) &&& (1 : Int32)) = (0 : Int32)
    · have pre10 : ∀ t, Steps p.tables e below (s₁.setTop (mkF m 46 #[.val (.int eb'), .val (.int wb'), .val (.int ct'), .val (.int jk'), .val (.int n'), .val (.int m'), .val (.int k'), .unset, .unset, .unset, .unset, .unset, .unset, .unset, .unset, .unset, .unset, .unset, .unset] [(.int (0 : Int32))])) t → Steps p.tables e below (s₁.setTop (entryFrame m #[(.int eb'), (.int wb'), (.int ct'), (.int jk')] maxLocals)) t := by
        intro t kt
        refine pre8 t ?_
        show Steps p.tables e below (s₁.setTop (mkF m 38 #[.val (.int eb'), .val (.int wb'), .val (.int ct'), .val (.int jk'), .val (.int n'), .val (.int m'), .val (.int k'), .unset, .unset, .unset, .unset, .unset, .unset, .unset, .unset, .unset, .unset, .unset, .unset] [(.int (((ct'.toUInt32 >>> ((9 : Int32) &&& 31).toUInt32).toInt32) &&& (1 : Int32)))])) _
        refine XS.ifYes X0.here hx rfl (pc0 := 38) (pc' := 45) rfl (hb hby at_38) rfl ((if0 _ _).trans (teq hc38_9).1) (by decide) (by decide) ?_
        show Steps p.tables e below (s₁.setTop (mkF m 45 #[.val (.int eb'), .val (.int wb'), .val (.int ct'), .val (.int jk'), .val (.int n'), .val (.int m'), .val (.int k'), .unset, .unset, .unset, .unset, .unset, .unset, .unset, .unset, .unset, .unset, .unset, .unset] [])) _
        refine XS.iconst X0.here hx rfl (hb hby at_45) ?_
        exact kt
      exact ⟨(0 : Int32), pre10⟩
    · have pre11 : ∀ t, Steps p.tables e below (s₁.setTop (mkF m 46 #[.val (.int eb'), .val (.int wb'), .val (.int ct'), .val (.int jk'), .val (.int n'), .val (.int m'), .val (.int k'), .unset, .unset, .unset, .unset, .unset, .unset, .unset, .unset, .unset, .unset, .unset, .unset] [(.int (1 : Int32))])) t → Steps p.tables e below (s₁.setTop (entryFrame m #[(.int eb'), (.int wb'), (.int ct'), (.int jk')] maxLocals)) t := by
        intro t kt
        refine pre8 t ?_
        show Steps p.tables e below (s₁.setTop (mkF m 38 #[.val (.int eb'), .val (.int wb'), .val (.int ct'), .val (.int jk'), .val (.int n'), .val (.int m'), .val (.int k'), .unset, .unset, .unset, .unset, .unset, .unset, .unset, .unset, .unset, .unset, .unset, .unset] [(.int (((ct'.toUInt32 >>> ((9 : Int32) &&& 31).toUInt32).toInt32) &&& (1 : Int32)))])) _
        refine XS.ifNo X0.here hx rfl (hb hby at_38) rfl ((if0 _ _).trans (feq hc38_9).1) ?_
        show Steps p.tables e below (s₁.setTop (mkF m 41 #[.val (.int eb'), .val (.int wb'), .val (.int ct'), .val (.int jk'), .val (.int n'), .val (.int m'), .val (.int k'), .unset, .unset, .unset, .unset, .unset, .unset, .unset, .unset, .unset, .unset, .unset, .unset] [])) _
        refine XS.iconst X0.here hx rfl (hb hby at_41) ?_
        show Steps p.tables e below (s₁.setTop (mkF m 42 #[.val (.int eb'), .val (.int wb'), .val (.int ct'), .val (.int jk'), .val (.int n'), .val (.int m'), .val (.int k'), .unset, .unset, .unset, .unset, .unset, .unset, .unset, .unset, .unset, .unset, .unset, .unset] [(.int (1 : Int32))])) _
        refine XS.goto X0.here hx rfl (pc0 := 42) (pc' := 46) rfl (hb hby at_42) (by decide) (by decide) ?_
        exact kt
      exact ⟨(1 : Int32), pre11⟩
  obtain ⟨sg', pre7⟩ := J7
  have pre12 : ∀ t, Steps p.tables e below (s₁.setTop (mkF m 56 #[.val (.int eb'), .val (.int wb'), .val (.int ct'), .val (.int jk'), .val (.int n'), .val (.int m'), .val (.int k'), .val (.int sg'), .val (.int (((ct'.toUInt32 >>> ((14 : Int32) &&& 31).toUInt32).toInt32) &&& (1 : Int32))), .unset, .unset, .unset, .unset, .unset, .unset, .unset, .unset, .unset, .unset] [])) t → Steps p.tables e below (s₁.setTop (entryFrame m #[(.int eb'), (.int wb'), (.int ct'), (.int jk')] maxLocals)) t := by
    intro t kt
    refine pre7 t ?_
    show Steps p.tables e below (s₁.setTop (mkF m 46 #[.val (.int eb'), .val (.int wb'), .val (.int ct'), .val (.int jk'), .val (.int n'), .val (.int m'), .val (.int k'), .unset, .unset, .unset, .unset, .unset, .unset, .unset, .unset, .unset, .unset, .unset, .unset] [(.int sg')])) _
    refine XS.istore X0.here hx rfl (hb hby at_46) rfl (l' := #[.val (.int eb'), .val (.int wb'), .val (.int ct'), .val (.int jk'), .val (.int n'), .val (.int m'), .val (.int k'), .val (.int sg'), .unset, .unset, .unset, .unset, .unset, .unset, .unset, .unset, .unset, .unset, .unset]) rfl ?_
    show Steps p.tables e below (s₁.setTop (mkF m 48 #[.val (.int eb'), .val (.int wb'), .val (.int ct'), .val (.int jk'), .val (.int n'), .val (.int m'), .val (.int k'), .val (.int sg'), .unset, .unset, .unset, .unset, .unset, .unset, .unset, .unset, .unset, .unset, .unset] [])) _
    refine XS.iloadN X0.here hx rfl (hb hby at_48) rfl ?_
    show Steps p.tables e below (s₁.setTop (mkF m 49 #[.val (.int eb'), .val (.int wb'), .val (.int ct'), .val (.int jk'), .val (.int n'), .val (.int m'), .val (.int k'), .val (.int sg'), .unset, .unset, .unset, .unset, .unset, .unset, .unset, .unset, .unset, .unset, .unset] [(.int ct')])) _
    refine XS.bipush X0.here hx rfl (hb hby at_49) ?_
    show Steps p.tables e below (s₁.setTop (mkF m 51 #[.val (.int eb'), .val (.int wb'), .val (.int ct'), .val (.int jk'), .val (.int n'), .val (.int m'), .val (.int k'), .val (.int sg'), .unset, .unset, .unset, .unset, .unset, .unset, .unset, .unset, .unset, .unset, .unset] [(.int (14 : Int32)), (.int ct')])) _
    refine XS.iushr X0.here hx rfl (hb hby at_51) rfl ?_
    show Steps p.tables e below (s₁.setTop (mkF m 52 #[.val (.int eb'), .val (.int wb'), .val (.int ct'), .val (.int jk'), .val (.int n'), .val (.int m'), .val (.int k'), .val (.int sg'), .unset, .unset, .unset, .unset, .unset, .unset, .unset, .unset, .unset, .unset, .unset] [(.int ((ct'.toUInt32 >>> ((14 : Int32) &&& 31).toUInt32).toInt32))])) _
    refine XS.iconst X0.here hx rfl (hb hby at_52) ?_
    show Steps p.tables e below (s₁.setTop (mkF m 53 #[.val (.int eb'), .val (.int wb'), .val (.int ct'), .val (.int jk'), .val (.int n'), .val (.int m'), .val (.int k'), .val (.int sg'), .unset, .unset, .unset, .unset, .unset, .unset, .unset, .unset, .unset, .unset, .unset] [(.int (1 : Int32)), (.int ((ct'.toUInt32 >>> ((14 : Int32) &&& 31).toUInt32).toInt32))])) _
    refine XS.iand X0.here hx rfl (hb hby at_53) rfl ?_
    show Steps p.tables e below (s₁.setTop (mkF m 54 #[.val (.int eb'), .val (.int wb'), .val (.int ct'), .val (.int jk'), .val (.int n'), .val (.int m'), .val (.int k'), .val (.int sg'), .unset, .unset, .unset, .unset, .unset, .unset, .unset, .unset, .unset, .unset, .unset] [(.int (((ct'.toUInt32 >>> ((14 : Int32) &&& 31).toUInt32).toInt32) &&& (1 : Int32)))])) _
    refine XS.istore X0.here hx rfl (hb hby at_54) rfl (l' := #[.val (.int eb'), .val (.int wb'), .val (.int ct'), .val (.int jk'), .val (.int n'), .val (.int m'), .val (.int k'), .val (.int sg'), .val (.int (((ct'.toUInt32 >>> ((14 : Int32) &&& 31).toUInt32).toInt32) &&& (1 : Int32))), .unset, .unset, .unset, .unset, .unset, .unset, .unset, .unset, .unset, .unset]) rfl ?_
    exact kt
  obtain ⟨o', h_o'⟩ : ∃ z : Int32, z = (((ct'.toUInt32 >>> ((14 : Int32) &&& 31).toUInt32).toInt32) &&& (1 : Int32)) := ⟨_, rfl⟩
  have pre13 : ∀ t, Steps p.tables e below (s₁.setTop (mkF m 56 #[.val (.int eb'), .val (.int wb'), .val (.int ct'), .val (.int jk'), .val (.int n'), .val (.int m'), .val (.int k'), .val (.int sg'), .val (.int o'), .unset, .unset, .unset, .unset, .unset, .unset, .unset, .unset, .unset, .unset] [])) t → Steps p.tables e below (s₁.setTop (entryFrame m #[(.int eb'), (.int wb'), (.int ct'), (.int jk')] maxLocals)) t := by rw [h_o']; exact pre12
  have ho : 0 ≤ o'.toInt ∧ o'.toInt ≤ 1 := by rw [h_o']; exact own_o1 _
  obtain ⟨T14, h14, k14, X14, e14, E14, A14, st14⟩ := newP X0 hx hZ (hw _ (List.mem_of_getElem? (i := 0) rfl)) e0 (g := (mkF m 57 #[.val (.int eb'), .val (.int wb'), .val (.int ct'), .val (.int jk'), .val (.int n'), .val (.int m'), .val (.int k'), .val (.int sg'), .val (.int o'), .unset, .unset, .unset, .unset, .unset, .unset, .unset, .unset, .unset, .unset] [(.int (4 : Int32))])) rfl (hb hby at_57) rfl (by decide) (cap := 4) (by decide) (by decide) (by decide) (by decide)
  obtain ⟨b14, g14⟩ : ∃ z, z = h0.size := ⟨_, rfl⟩
  rw [← g14] at A14 st14
  have g_b14 : n0 ≤ b14 := Nat.le_trans Z0 (Nat.le_of_eq g14.symm)
  have sz_b14 : h0.size ≤ b14 := Nat.le_trans K0.1 (Nat.le_of_eq g14.symm)
  have Zs14 : n0 ≤ h14.size := Nat.le_trans Z0 E14.1
  have hk := Nat.le_trans hk E14.1
  have K14 : Keep h0 h14 [] := K0.ext E14
  have V_b14 : own_A Z h14 b14 .byte (4 : Int32) (fun _ => 0) := own_A.new A14 (by decide) rfl
  obtain ⟨cl6615, Ar6615, S6615, M6615, H6615⟩ := V_b14
  have hin6615 : ¬ ((0 : Int32) < 0 ∨ cl6615.slots.size ≤ ((0 : Int32)).toNatClampNeg) := inb_of S6615 ⟨by decide, by decide⟩
  obtain ⟨T16, h16, X16, e16, W16, st16⟩ := stB X14 hx hZ e14 Ar6615 (j := (0 : Int32)) hin6615 (g := (mkF m 66 #[.val (.int eb'), .val (.int wb'), .val (.int ct'), .val (.int jk'), .val (.int n'), .val (.int m'), .val (.int k'), .val (.int sg'), .val (.int o'), .val (.ref b14), .unset, .unset, .unset, .unset, .unset, .unset, .unset, .unset, .unset] [(.int (eb'.toInt8.toInt32)), (.int (0 : Int32)), (.ref b14)])) rfl rfl (hb hby at_66)
  have Zs16 : n0 ≤ h16.size := Nat.le_trans Zs14 (Keep.of_wr W16).1
  have hk := Nat.le_trans hk (Keep.of_wr W16).1
  have K16 : Keep h0 h16 [] := K14.wr W16 (Or.inr sz_b14)
  have N16 := Fr.snoc X16 N0 g_b14
  have V_b14 : own_A Z h16 b14 .byte (4 : Int32) (own_upd (fun _ => 0) ((0 : Int32)).toNatClampNeg (nar .byte (eb'.toInt8.toInt32))) := own_A.set Ar6615 S6615 M6615 H6615 W16
  obtain ⟨cl7517, Ar7517, S7517, M7517, H7517⟩ := V_b14
  have hin7517 : ¬ ((1 : Int32) < 0 ∨ cl7517.slots.size ≤ ((1 : Int32)).toNatClampNeg) := inb_of S7517 ⟨by decide, by decide⟩
  obtain ⟨T18, h18, X18, e18, W18, st18⟩ := stB X16 hx hZ e16 Ar7517 (j := (1 : Int32)) hin7517 (g := (mkF m 75 #[.val (.int eb'), .val (.int wb'), .val (.int ct'), .val (.int jk'), .val (.int n'), .val (.int m'), .val (.int k'), .val (.int sg'), .val (.int o'), .val (.ref b14), .unset, .unset, .unset, .unset, .unset, .unset, .unset, .unset, .unset] [(.int (((eb'.toUInt32 >>> ((8 : Int32) &&& 31).toUInt32).toInt32).toInt8.toInt32)), (.int (1 : Int32)), (.ref b14)])) rfl rfl (hb hby at_75)
  have Zs18 : n0 ≤ h18.size := Nat.le_trans Zs16 (Keep.of_wr W18).1
  have hk := Nat.le_trans hk (Keep.of_wr W18).1
  have K18 : Keep h0 h18 [] := K16.wr W18 (Or.inr sz_b14)
  have N18 := Fr.snoc X18 N16 g_b14
  have V_b14 : own_A Z h18 b14 .byte (4 : Int32) (own_upd (own_upd (fun _ => 0) ((0 : Int32)).toNatClampNeg (nar .byte (eb'.toInt8.toInt32))) ((1 : Int32)).toNatClampNeg (nar .byte (((eb'.toUInt32 >>> ((8 : Int32) &&& 31).toUInt32).toInt32).toInt8.toInt32))) := own_A.set Ar7517 S7517 M7517 H7517 W18
  obtain ⟨cl8419, Ar8419, S8419, M8419, H8419⟩ := V_b14
  have hin8419 : ¬ ((2 : Int32) < 0 ∨ cl8419.slots.size ≤ ((2 : Int32)).toNatClampNeg) := inb_of S8419 ⟨by decide, by decide⟩
  obtain ⟨T20, h20, X20, e20, W20, st20⟩ := stB X18 hx hZ e18 Ar8419 (j := (2 : Int32)) hin8419 (g := (mkF m 84 #[.val (.int eb'), .val (.int wb'), .val (.int ct'), .val (.int jk'), .val (.int n'), .val (.int m'), .val (.int k'), .val (.int sg'), .val (.int o'), .val (.ref b14), .unset, .unset, .unset, .unset, .unset, .unset, .unset, .unset, .unset] [(.int (((eb'.toUInt32 >>> ((16 : Int32) &&& 31).toUInt32).toInt32).toInt8.toInt32)), (.int (2 : Int32)), (.ref b14)])) rfl rfl (hb hby at_84)
  have Zs20 : n0 ≤ h20.size := Nat.le_trans Zs18 (Keep.of_wr W20).1
  have hk := Nat.le_trans hk (Keep.of_wr W20).1
  have K20 : Keep h0 h20 [] := K18.wr W20 (Or.inr sz_b14)
  have N20 := Fr.snoc X20 N18 g_b14
  have V_b14 : own_A Z h20 b14 .byte (4 : Int32) (own_upd (own_upd (own_upd (fun _ => 0) ((0 : Int32)).toNatClampNeg (nar .byte (eb'.toInt8.toInt32))) ((1 : Int32)).toNatClampNeg (nar .byte (((eb'.toUInt32 >>> ((8 : Int32) &&& 31).toUInt32).toInt32).toInt8.toInt32))) ((2 : Int32)).toNatClampNeg (nar .byte (((eb'.toUInt32 >>> ((16 : Int32) &&& 31).toUInt32).toInt32).toInt8.toInt32))) := own_A.set Ar8419 S8419 M8419 H8419 W20
  obtain ⟨cl9321, Ar9321, S9321, M9321, H9321⟩ := V_b14
  have hin9321 : ¬ ((3 : Int32) < 0 ∨ cl9321.slots.size ≤ ((3 : Int32)).toNatClampNeg) := inb_of S9321 ⟨by decide, by decide⟩
  obtain ⟨T22, h22, X22, e22, W22, st22⟩ := stB X20 hx hZ e20 Ar9321 (j := (3 : Int32)) hin9321 (g := (mkF m 93 #[.val (.int eb'), .val (.int wb'), .val (.int ct'), .val (.int jk'), .val (.int n'), .val (.int m'), .val (.int k'), .val (.int sg'), .val (.int o'), .val (.ref b14), .unset, .unset, .unset, .unset, .unset, .unset, .unset, .unset, .unset] [(.int (((eb'.toUInt32 >>> ((24 : Int32) &&& 31).toUInt32).toInt32).toInt8.toInt32)), (.int (3 : Int32)), (.ref b14)])) rfl rfl (hb hby at_93)
  have Zs22 : n0 ≤ h22.size := Nat.le_trans Zs20 (Keep.of_wr W22).1
  have hk := Nat.le_trans hk (Keep.of_wr W22).1
  have K22 : Keep h0 h22 [] := K20.wr W22 (Or.inr sz_b14)
  have N22 := Fr.snoc X22 N20 g_b14
  have V_b14 : own_A Z h22 b14 .byte (4 : Int32) (own_upd (own_upd (own_upd (own_upd (fun _ => 0) ((0 : Int32)).toNatClampNeg (nar .byte (eb'.toInt8.toInt32))) ((1 : Int32)).toNatClampNeg (nar .byte (((eb'.toUInt32 >>> ((8 : Int32) &&& 31).toUInt32).toInt32).toInt8.toInt32))) ((2 : Int32)).toNatClampNeg (nar .byte (((eb'.toUInt32 >>> ((16 : Int32) &&& 31).toUInt32).toInt32).toInt8.toInt32))) ((3 : Int32)).toNatClampNeg (nar .byte (((eb'.toUInt32 >>> ((24 : Int32) &&& 31).toUInt32).toInt32).toInt8.toInt32))) := own_A.set Ar9321 S9321 M9321 H9321 W22
  have pre23 : ∀ t, Steps p.tables e below (T22.setTop (mkF m 94 #[.val (.int eb'), .val (.int wb'), .val (.int ct'), .val (.int jk'), .val (.int n'), .val (.int m'), .val (.int k'), .val (.int sg'), .val (.int o'), .val (.ref b14), .unset, .unset, .unset, .unset, .unset, .unset, .unset, .unset, .unset] [])) t → Steps p.tables e below (s₁.setTop (entryFrame m #[(.int eb'), (.int wb'), (.int ct'), (.int jk')] maxLocals)) t := by
    intro t kt
    refine pre13 t ?_
    show Steps p.tables e below (s₁.setTop (mkF m 56 #[.val (.int eb'), .val (.int wb'), .val (.int ct'), .val (.int jk'), .val (.int n'), .val (.int m'), .val (.int k'), .val (.int sg'), .val (.int o'), .unset, .unset, .unset, .unset, .unset, .unset, .unset, .unset, .unset, .unset] [])) _
    refine XS.iconst X0.here hx rfl (hb hby at_56) ?_
    show Steps p.tables e below (s₁.setTop (mkF m 57 #[.val (.int eb'), .val (.int wb'), .val (.int ct'), .val (.int jk'), .val (.int n'), .val (.int m'), .val (.int k'), .val (.int sg'), .val (.int o'), .unset, .unset, .unset, .unset, .unset, .unset, .unset, .unset, .unset, .unset] [(.int (4 : Int32))])) _
    refine st14 _ ?_
    show Steps p.tables e below (T14.setTop (mkF m 59 #[.val (.int eb'), .val (.int wb'), .val (.int ct'), .val (.int jk'), .val (.int n'), .val (.int m'), .val (.int k'), .val (.int sg'), .val (.int o'), .unset, .unset, .unset, .unset, .unset, .unset, .unset, .unset, .unset, .unset] [(.ref b14)])) _
    refine XS.astore X14.here hx rfl (hb hby at_59) rfl rfl (l' := #[.val (.int eb'), .val (.int wb'), .val (.int ct'), .val (.int jk'), .val (.int n'), .val (.int m'), .val (.int k'), .val (.int sg'), .val (.int o'), .val (.ref b14), .unset, .unset, .unset, .unset, .unset, .unset, .unset, .unset, .unset]) rfl ?_
    show Steps p.tables e below (T14.setTop (mkF m 61 #[.val (.int eb'), .val (.int wb'), .val (.int ct'), .val (.int jk'), .val (.int n'), .val (.int m'), .val (.int k'), .val (.int sg'), .val (.int o'), .val (.ref b14), .unset, .unset, .unset, .unset, .unset, .unset, .unset, .unset, .unset] [])) _
    refine XS.aload X14.here hx rfl (hb hby at_61) rfl rfl ?_
    show Steps p.tables e below (T14.setTop (mkF m 63 #[.val (.int eb'), .val (.int wb'), .val (.int ct'), .val (.int jk'), .val (.int n'), .val (.int m'), .val (.int k'), .val (.int sg'), .val (.int o'), .val (.ref b14), .unset, .unset, .unset, .unset, .unset, .unset, .unset, .unset, .unset] [(.ref b14)])) _
    refine XS.iconst X14.here hx rfl (hb hby at_63) ?_
    show Steps p.tables e below (T14.setTop (mkF m 64 #[.val (.int eb'), .val (.int wb'), .val (.int ct'), .val (.int jk'), .val (.int n'), .val (.int m'), .val (.int k'), .val (.int sg'), .val (.int o'), .val (.ref b14), .unset, .unset, .unset, .unset, .unset, .unset, .unset, .unset, .unset] [(.int (0 : Int32)), (.ref b14)])) _
    refine XS.iloadN X14.here hx rfl (hb hby at_64) rfl ?_
    show Steps p.tables e below (T14.setTop (mkF m 65 #[.val (.int eb'), .val (.int wb'), .val (.int ct'), .val (.int jk'), .val (.int n'), .val (.int m'), .val (.int k'), .val (.int sg'), .val (.int o'), .val (.ref b14), .unset, .unset, .unset, .unset, .unset, .unset, .unset, .unset, .unset] [(.int eb'), (.int (0 : Int32)), (.ref b14)])) _
    refine XS.i2b X14.here hx rfl (hb hby at_65) rfl ?_
    show Steps p.tables e below (T14.setTop (mkF m 66 #[.val (.int eb'), .val (.int wb'), .val (.int ct'), .val (.int jk'), .val (.int n'), .val (.int m'), .val (.int k'), .val (.int sg'), .val (.int o'), .val (.ref b14), .unset, .unset, .unset, .unset, .unset, .unset, .unset, .unset, .unset] [(.int (eb'.toInt8.toInt32)), (.int (0 : Int32)), (.ref b14)])) _
    refine st16 _ ?_
    show Steps p.tables e below (T16.setTop (mkF m 67 #[.val (.int eb'), .val (.int wb'), .val (.int ct'), .val (.int jk'), .val (.int n'), .val (.int m'), .val (.int k'), .val (.int sg'), .val (.int o'), .val (.ref b14), .unset, .unset, .unset, .unset, .unset, .unset, .unset, .unset, .unset] [])) _
    refine XS.aload X16.here hx rfl (hb hby at_67) rfl rfl ?_
    show Steps p.tables e below (T16.setTop (mkF m 69 #[.val (.int eb'), .val (.int wb'), .val (.int ct'), .val (.int jk'), .val (.int n'), .val (.int m'), .val (.int k'), .val (.int sg'), .val (.int o'), .val (.ref b14), .unset, .unset, .unset, .unset, .unset, .unset, .unset, .unset, .unset] [(.ref b14)])) _
    refine XS.iconst X16.here hx rfl (hb hby at_69) ?_
    show Steps p.tables e below (T16.setTop (mkF m 70 #[.val (.int eb'), .val (.int wb'), .val (.int ct'), .val (.int jk'), .val (.int n'), .val (.int m'), .val (.int k'), .val (.int sg'), .val (.int o'), .val (.ref b14), .unset, .unset, .unset, .unset, .unset, .unset, .unset, .unset, .unset] [(.int (1 : Int32)), (.ref b14)])) _
    refine XS.iloadN X16.here hx rfl (hb hby at_70) rfl ?_
    show Steps p.tables e below (T16.setTop (mkF m 71 #[.val (.int eb'), .val (.int wb'), .val (.int ct'), .val (.int jk'), .val (.int n'), .val (.int m'), .val (.int k'), .val (.int sg'), .val (.int o'), .val (.ref b14), .unset, .unset, .unset, .unset, .unset, .unset, .unset, .unset, .unset] [(.int eb'), (.int (1 : Int32)), (.ref b14)])) _
    refine XS.bipush X16.here hx rfl (hb hby at_71) ?_
    show Steps p.tables e below (T16.setTop (mkF m 73 #[.val (.int eb'), .val (.int wb'), .val (.int ct'), .val (.int jk'), .val (.int n'), .val (.int m'), .val (.int k'), .val (.int sg'), .val (.int o'), .val (.ref b14), .unset, .unset, .unset, .unset, .unset, .unset, .unset, .unset, .unset] [(.int (8 : Int32)), (.int eb'), (.int (1 : Int32)), (.ref b14)])) _
    refine XS.iushr X16.here hx rfl (hb hby at_73) rfl ?_
    show Steps p.tables e below (T16.setTop (mkF m 74 #[.val (.int eb'), .val (.int wb'), .val (.int ct'), .val (.int jk'), .val (.int n'), .val (.int m'), .val (.int k'), .val (.int sg'), .val (.int o'), .val (.ref b14), .unset, .unset, .unset, .unset, .unset, .unset, .unset, .unset, .unset] [(.int ((eb'.toUInt32 >>> ((8 : Int32) &&& 31).toUInt32).toInt32)), (.int (1 : Int32)), (.ref b14)])) _
    refine XS.i2b X16.here hx rfl (hb hby at_74) rfl ?_
    show Steps p.tables e below (T16.setTop (mkF m 75 #[.val (.int eb'), .val (.int wb'), .val (.int ct'), .val (.int jk'), .val (.int n'), .val (.int m'), .val (.int k'), .val (.int sg'), .val (.int o'), .val (.ref b14), .unset, .unset, .unset, .unset, .unset, .unset, .unset, .unset, .unset] [(.int (((eb'.toUInt32 >>> ((8 : Int32) &&& 31).toUInt32).toInt32).toInt8.toInt32)), (.int (1 : Int32)), (.ref b14)])) _
    refine st18 _ ?_
    show Steps p.tables e below (T18.setTop (mkF m 76 #[.val (.int eb'), .val (.int wb'), .val (.int ct'), .val (.int jk'), .val (.int n'), .val (.int m'), .val (.int k'), .val (.int sg'), .val (.int o'), .val (.ref b14), .unset, .unset, .unset, .unset, .unset, .unset, .unset, .unset, .unset] [])) _
    refine XS.aload X18.here hx rfl (hb hby at_76) rfl rfl ?_
    show Steps p.tables e below (T18.setTop (mkF m 78 #[.val (.int eb'), .val (.int wb'), .val (.int ct'), .val (.int jk'), .val (.int n'), .val (.int m'), .val (.int k'), .val (.int sg'), .val (.int o'), .val (.ref b14), .unset, .unset, .unset, .unset, .unset, .unset, .unset, .unset, .unset] [(.ref b14)])) _
    refine XS.iconst X18.here hx rfl (hb hby at_78) ?_
    show Steps p.tables e below (T18.setTop (mkF m 79 #[.val (.int eb'), .val (.int wb'), .val (.int ct'), .val (.int jk'), .val (.int n'), .val (.int m'), .val (.int k'), .val (.int sg'), .val (.int o'), .val (.ref b14), .unset, .unset, .unset, .unset, .unset, .unset, .unset, .unset, .unset] [(.int (2 : Int32)), (.ref b14)])) _
    refine XS.iloadN X18.here hx rfl (hb hby at_79) rfl ?_
    show Steps p.tables e below (T18.setTop (mkF m 80 #[.val (.int eb'), .val (.int wb'), .val (.int ct'), .val (.int jk'), .val (.int n'), .val (.int m'), .val (.int k'), .val (.int sg'), .val (.int o'), .val (.ref b14), .unset, .unset, .unset, .unset, .unset, .unset, .unset, .unset, .unset] [(.int eb'), (.int (2 : Int32)), (.ref b14)])) _
    refine XS.bipush X18.here hx rfl (hb hby at_80) ?_
    show Steps p.tables e below (T18.setTop (mkF m 82 #[.val (.int eb'), .val (.int wb'), .val (.int ct'), .val (.int jk'), .val (.int n'), .val (.int m'), .val (.int k'), .val (.int sg'), .val (.int o'), .val (.ref b14), .unset, .unset, .unset, .unset, .unset, .unset, .unset, .unset, .unset] [(.int (16 : Int32)), (.int eb'), (.int (2 : Int32)), (.ref b14)])) _
    refine XS.iushr X18.here hx rfl (hb hby at_82) rfl ?_
    show Steps p.tables e below (T18.setTop (mkF m 83 #[.val (.int eb'), .val (.int wb'), .val (.int ct'), .val (.int jk'), .val (.int n'), .val (.int m'), .val (.int k'), .val (.int sg'), .val (.int o'), .val (.ref b14), .unset, .unset, .unset, .unset, .unset, .unset, .unset, .unset, .unset] [(.int ((eb'.toUInt32 >>> ((16 : Int32) &&& 31).toUInt32).toInt32)), (.int (2 : Int32)), (.ref b14)])) _
    refine XS.i2b X18.here hx rfl (hb hby at_83) rfl ?_
    show Steps p.tables e below (T18.setTop (mkF m 84 #[.val (.int eb'), .val (.int wb'), .val (.int ct'), .val (.int jk'), .val (.int n'), .val (.int m'), .val (.int k'), .val (.int sg'), .val (.int o'), .val (.ref b14), .unset, .unset, .unset, .unset, .unset, .unset, .unset, .unset, .unset] [(.int (((eb'.toUInt32 >>> ((16 : Int32) &&& 31).toUInt32).toInt32).toInt8.toInt32)), (.int (2 : Int32)), (.ref b14)])) _
    refine st20 _ ?_
    show Steps p.tables e below (T20.setTop (mkF m 85 #[.val (.int eb'), .val (.int wb'), .val (.int ct'), .val (.int jk'), .val (.int n'), .val (.int m'), .val (.int k'), .val (.int sg'), .val (.int o'), .val (.ref b14), .unset, .unset, .unset, .unset, .unset, .unset, .unset, .unset, .unset] [])) _
    refine XS.aload X20.here hx rfl (hb hby at_85) rfl rfl ?_
    show Steps p.tables e below (T20.setTop (mkF m 87 #[.val (.int eb'), .val (.int wb'), .val (.int ct'), .val (.int jk'), .val (.int n'), .val (.int m'), .val (.int k'), .val (.int sg'), .val (.int o'), .val (.ref b14), .unset, .unset, .unset, .unset, .unset, .unset, .unset, .unset, .unset] [(.ref b14)])) _
    refine XS.iconst X20.here hx rfl (hb hby at_87) ?_
    show Steps p.tables e below (T20.setTop (mkF m 88 #[.val (.int eb'), .val (.int wb'), .val (.int ct'), .val (.int jk'), .val (.int n'), .val (.int m'), .val (.int k'), .val (.int sg'), .val (.int o'), .val (.ref b14), .unset, .unset, .unset, .unset, .unset, .unset, .unset, .unset, .unset] [(.int (3 : Int32)), (.ref b14)])) _
    refine XS.iloadN X20.here hx rfl (hb hby at_88) rfl ?_
    show Steps p.tables e below (T20.setTop (mkF m 89 #[.val (.int eb'), .val (.int wb'), .val (.int ct'), .val (.int jk'), .val (.int n'), .val (.int m'), .val (.int k'), .val (.int sg'), .val (.int o'), .val (.ref b14), .unset, .unset, .unset, .unset, .unset, .unset, .unset, .unset, .unset] [(.int eb'), (.int (3 : Int32)), (.ref b14)])) _
    refine XS.bipush X20.here hx rfl (hb hby at_89) ?_
    show Steps p.tables e below (T20.setTop (mkF m 91 #[.val (.int eb'), .val (.int wb'), .val (.int ct'), .val (.int jk'), .val (.int n'), .val (.int m'), .val (.int k'), .val (.int sg'), .val (.int o'), .val (.ref b14), .unset, .unset, .unset, .unset, .unset, .unset, .unset, .unset, .unset] [(.int (24 : Int32)), (.int eb'), (.int (3 : Int32)), (.ref b14)])) _
    refine XS.iushr X20.here hx rfl (hb hby at_91) rfl ?_
    show Steps p.tables e below (T20.setTop (mkF m 92 #[.val (.int eb'), .val (.int wb'), .val (.int ct'), .val (.int jk'), .val (.int n'), .val (.int m'), .val (.int k'), .val (.int sg'), .val (.int o'), .val (.ref b14), .unset, .unset, .unset, .unset, .unset, .unset, .unset, .unset, .unset] [(.int ((eb'.toUInt32 >>> ((24 : Int32) &&& 31).toUInt32).toInt32)), (.int (3 : Int32)), (.ref b14)])) _
    refine XS.i2b X20.here hx rfl (hb hby at_92) rfl ?_
    show Steps p.tables e below (T20.setTop (mkF m 93 #[.val (.int eb'), .val (.int wb'), .val (.int ct'), .val (.int jk'), .val (.int n'), .val (.int m'), .val (.int k'), .val (.int sg'), .val (.int o'), .val (.ref b14), .unset, .unset, .unset, .unset, .unset, .unset, .unset, .unset, .unset] [(.int (((eb'.toUInt32 >>> ((24 : Int32) &&& 31).toUInt32).toInt32).toInt8.toInt32)), (.int (3 : Int32)), (.ref b14)])) _
    refine st22 _ ?_
    exact kt
  obtain ⟨fe, h_fe⟩ : ∃ f : Nat → Int32, f = (own_upd (own_upd (own_upd (own_upd (fun _ => 0) ((0 : Int32)).toNatClampNeg (nar .byte (eb'.toInt8.toInt32))) ((1 : Int32)).toNatClampNeg (nar .byte (((eb'.toUInt32 >>> ((8 : Int32) &&& 31).toUInt32).toInt32).toInt8.toInt32))) ((2 : Int32)).toNatClampNeg (nar .byte (((eb'.toUInt32 >>> ((16 : Int32) &&& 31).toUInt32).toInt32).toInt8.toInt32))) ((3 : Int32)).toNatClampNeg (nar .byte (((eb'.toUInt32 >>> ((24 : Int32) &&& 31).toUInt32).toInt32).toInt8.toInt32))) := ⟨_, rfl⟩
  rw [← h_fe] at V_b14
  have hfe : ∀ i, nar .byte (fe i) = fe i := by rw [h_fe]; exact own_bk (own_bk (own_bk (own_bk own_b00 _ _) _ _) _ _) _ _
  obtain ⟨T24, h24, k24, X24, e24, E24, A24, Ea24, st24⟩ := newPE X22 hx hZ (hw _ (List.mem_of_getElem? (i := 0) rfl)) e22 (g := (mkF m 96 #[.val (.int eb'), .val (.int wb'), .val (.int ct'), .val (.int jk'), .val (.int n'), .val (.int m'), .val (.int k'), .val (.int sg'), .val (.int o'), .val (.ref b14), .unset, .unset, .unset, .unset, .unset, .unset, .unset, .unset, .unset] [(.int n')])) rfl (hb hby at_96) rfl (own_nlt hn.1) (cap := 4) (own_cap hn) (by decide) (by decide) (by decide) (ad := "[B") rfl
  obtain ⟨b24, g24⟩ : ∃ z, z = h22.size := ⟨_, rfl⟩
  rw [← g24] at A24 st24 Ea24
  have g_b24 : n0 ≤ b24 := Nat.le_trans Zs22 (Nat.le_of_eq g24.symm)
  have sz_b24 : h0.size ≤ b24 := Nat.le_trans K22.1 (Nat.le_of_eq g24.symm)
  have ne_b14_b24 : b14 ≠ b24 := Nat.ne_of_lt (Nat.lt_of_lt_of_le V_b14.lt (Nat.le_of_eq g24.symm))
  have V_b14 := V_b14.ext E24
  have Zs24 : n0 ≤ h24.size := Nat.le_trans Zs22 E24.1
  have hk := Nat.le_trans hk E24.1
  have K24 : Keep h0 h24 [] := K22.ext E24
  have E_b24 := Ea24
  have V_b24 : own_A Z h24 b24 .byte n' (fun _ => 0) := own_A.new A24 (own_nlt hn.1) rfl
  have pre25 : ∀ t, Steps p.tables e below (T24.setTop (mkF m 100 #[.val (.int eb'), .val (.int wb'), .val (.int ct'), .val (.int jk'), .val (.int n'), .val (.int m'), .val (.int k'), .val (.int sg'), .val (.int o'), .val (.ref b14), .val (.ref b24), .unset, .unset, .unset, .unset, .unset, .unset, .unset, .unset] [])) t → Steps p.tables e below (s₁.setTop (entryFrame m #[(.int eb'), (.int wb'), (.int ct'), (.int jk')] maxLocals)) t := by
    intro t kt
    refine pre23 t ?_
    show Steps p.tables e below (T22.setTop (mkF m 94 #[.val (.int eb'), .val (.int wb'), .val (.int ct'), .val (.int jk'), .val (.int n'), .val (.int m'), .val (.int k'), .val (.int sg'), .val (.int o'), .val (.ref b14), .unset, .unset, .unset, .unset, .unset, .unset, .unset, .unset, .unset] [])) _
    refine XS.iload X22.here hx rfl (hb hby at_94) rfl ?_
    show Steps p.tables e below (T22.setTop (mkF m 96 #[.val (.int eb'), .val (.int wb'), .val (.int ct'), .val (.int jk'), .val (.int n'), .val (.int m'), .val (.int k'), .val (.int sg'), .val (.int o'), .val (.ref b14), .unset, .unset, .unset, .unset, .unset, .unset, .unset, .unset, .unset] [(.int n')])) _
    refine st24 _ ?_
    show Steps p.tables e below (T24.setTop (mkF m 98 #[.val (.int eb'), .val (.int wb'), .val (.int ct'), .val (.int jk'), .val (.int n'), .val (.int m'), .val (.int k'), .val (.int sg'), .val (.int o'), .val (.ref b14), .unset, .unset, .unset, .unset, .unset, .unset, .unset, .unset, .unset] [(.ref b24)])) _
    refine XS.astore X24.here hx rfl (hb hby at_98) rfl rfl (l' := #[.val (.int eb'), .val (.int wb'), .val (.int ct'), .val (.int jk'), .val (.int n'), .val (.int m'), .val (.int k'), .val (.int sg'), .val (.int o'), .val (.ref b14), .val (.ref b24), .unset, .unset, .unset, .unset, .unset, .unset, .unset, .unset]) rfl ?_
    exact kt
  have J26 : ∃ (T' : State) (h' : Heap) (L' : List Loc) (fx0 : Nat → Int32) , Stand p l e room_1 (s.setVm s.vm) m #[(.int eb'), (.int wb'), (.int ct'), (.int jk')] below meth c T' L' 2 8 ∧ T'.heap = h' ∧ Fr n0 L' ∧ n0 ≤ h'.size ∧ Keep h0 h' [] ∧ s.heap.size ≤ h'.size ∧ own_A Z h' b14 .byte (4 : Int32) fe ∧ Exa Z h' b24 "[B" ∧ own_A Z h' b24 .byte n' fx0 ∧ ((0 : Int32) < n' → fx0 0 = fe 0) ∧ ∀ t, Steps p.tables e below (T'.setTop (mkF m 113 #[.val (.int eb'), .val (.int wb'), .val (.int ct'), .val (.int jk'), .val (.int n'), .val (.int m'), .val (.int k'), .val (.int sg'), .val (.int o'), .val (.ref b14), .val (.ref b24), .unset, .unset, .unset, .unset, .unset, .unset, .unset, .unset] [])) t → Steps p.tables e below (s₁.setTop (entryFrame m #[(.int eb'), (.int wb'), (.int ct'), (.int jk')] maxLocals)) t := by
    have pre27 : ∀ t, Steps p.tables e below (T24.setTop (mkF m 102 #[.val (.int eb'), .val (.int wb'), .val (.int ct'), .val (.int jk'), .val (.int n'), .val (.int m'), .val (.int k'), .val (.int sg'), .val (.int o'), .val (.ref b14), .val (.ref b24), .unset, .unset, .unset, .unset, .unset, .unset, .unset, .unset] [(.int n')])) t → Steps p.tables e below (s₁.setTop (entryFrame m #[(.int eb'), (.int wb'), (.int ct'), (.int jk')] maxLocals)) t := by
      intro t kt
      refine pre25 t ?_
      show Steps p.tables e below (T24.setTop (mkF m 100 #[.val (.int eb'), .val (.int wb'), .val (.int ct'), .val (.int jk'), .val (.int n'), .val (.int m'), .val (.int k'), .val (.int sg'), .val (.int o'), .val (.ref b14), .val (.ref b24), .unset, .unset, .unset, .unset, .unset, .unset, .unset, .unset] [])) _
      refine XS.iload X24.here hx rfl (hb hby at_100) rfl ?_
      exact kt
    by_cases hc102_28 : (0 : Int32) < n'
    · obtain ⟨cl11129, Ar11129, S11129, M11129, H11129⟩ := id V_b14
      have hin11129 : ¬ ((0 : Int32) < 0 ∨ cl11129.slots.size ≤ ((0 : Int32)).toNatClampNeg) := inb_of S11129 ⟨by decide, by decide⟩
      have hat11129 := own_A.at S11129 H11129 hin11129
      obtain ⟨cl11230, Ar11230, S11230, M11230, H11230⟩ := V_b24
      have hin11230 : ¬ ((0 : Int32) < 0 ∨ cl11230.slots.size ≤ ((0 : Int32)).toNatClampNeg) := inb_of S11230 ⟨by decide, hc102_28⟩
      obtain ⟨T31, h31, X31, e31, W31, st31⟩ := stB X24 hx hZ e24 Ar11230 (j := (0 : Int32)) hin11230 (g := (mkF m 112 #[.val (.int eb'), .val (.int wb'), .val (.int ct'), .val (.int jk'), .val (.int n'), .val (.int m'), .val (.int k'), .val (.int sg'), .val (.int o'), .val (.ref b14), .val (.ref b24), .unset, .unset, .unset, .unset, .unset, .unset, .unset, .unset] [(.int (fe ((0 : Int32)).toNatClampNeg)), (.int (0 : Int32)), (.ref b24)])) rfl rfl (hb hby at_112)
      have V_b14 := V_b14.other W31 ne_b14_b24
      have E_b24 := E_b24.wr W31
      have Zs31 : n0 ≤ h31.size := Nat.le_trans Zs24 (Keep.of_wr W31).1
      have hk := Nat.le_trans hk (Keep.of_wr W31).1
      have K31 : Keep h0 h31 [] := K24.wr W31 (Or.inr sz_b24)
      have N31 := Fr.snoc X31 N22 g_b24
      have V_b24 : own_A Z h31 b24 .byte n' (own_upd (fun _ => 0) ((0 : Int32)).toNatClampNeg (nar .byte (fe ((0 : Int32)).toNatClampNeg))) := own_A.set Ar11230 S11230 M11230 H11230 W31
      have pre32 : ∀ t, Steps p.tables e below (T31.setTop (mkF m 113 #[.val (.int eb'), .val (.int wb'), .val (.int ct'), .val (.int jk'), .val (.int n'), .val (.int m'), .val (.int k'), .val (.int sg'), .val (.int o'), .val (.ref b14), .val (.ref b24), .unset, .unset, .unset, .unset, .unset, .unset, .unset, .unset] [])) t → Steps p.tables e below (s₁.setTop (entryFrame m #[(.int eb'), (.int wb'), (.int ct'), (.int jk')] maxLocals)) t := by
        intro t kt
        refine pre27 t ?_
        show Steps p.tables e below (T24.setTop (mkF m 102 #[.val (.int eb'), .val (.int wb'), .val (.int ct'), .val (.int jk'), .val (.int n'), .val (.int m'), .val (.int k'), .val (.int sg'), .val (.int o'), .val (.ref b14), .val (.ref b24), .unset, .unset, .unset, .unset, .unset, .unset, .unset, .unset] [(.int n')])) _
        refine XS.ifNo X24.here hx rfl (hb hby at_102) rfl ((if0 _ _).trans (tlt hc102_28).2.2.2) ?_
        show Steps p.tables e below (T24.setTop (mkF m 105 #[.val (.int eb'), .val (.int wb'), .val (.int ct'), .val (.int jk'), .val (.int n'), .val (.int m'), .val (.int k'), .val (.int sg'), .val (.int o'), .val (.ref b14), .val (.ref b24), .unset, .unset, .unset, .unset, .unset, .unset, .unset, .unset] [])) _
        refine XS.aload X24.here hx rfl (hb hby at_105) rfl rfl ?_
        show Steps p.tables e below (T24.setTop (mkF m 107 #[.val (.int eb'), .val (.int wb'), .val (.int ct'), .val (.int jk'), .val (.int n'), .val (.int m'), .val (.int k'), .val (.int sg'), .val (.int o'), .val (.ref b14), .val (.ref b24), .unset, .unset, .unset, .unset, .unset, .unset, .unset, .unset] [(.ref b24)])) _
        refine XS.iconst X24.here hx rfl (hb hby at_107) ?_
        show Steps p.tables e below (T24.setTop (mkF m 108 #[.val (.int eb'), .val (.int wb'), .val (.int ct'), .val (.int jk'), .val (.int n'), .val (.int m'), .val (.int k'), .val (.int sg'), .val (.int o'), .val (.ref b14), .val (.ref b24), .unset, .unset, .unset, .unset, .unset, .unset, .unset, .unset] [(.int (0 : Int32)), (.ref b24)])) _
        refine XS.aload X24.here hx rfl (hb hby at_108) rfl rfl ?_
        show Steps p.tables e below (T24.setTop (mkF m 110 #[.val (.int eb'), .val (.int wb'), .val (.int ct'), .val (.int jk'), .val (.int n'), .val (.int m'), .val (.int k'), .val (.int sg'), .val (.int o'), .val (.ref b14), .val (.ref b24), .unset, .unset, .unset, .unset, .unset, .unset, .unset, .unset] [(.ref b14), (.int (0 : Int32)), (.ref b24)])) _
        refine XS.iconst X24.here hx rfl (hb hby at_110) ?_
        show Steps p.tables e below (T24.setTop (mkF m 111 #[.val (.int eb'), .val (.int wb'), .val (.int ct'), .val (.int jk'), .val (.int n'), .val (.int m'), .val (.int k'), .val (.int sg'), .val (.int o'), .val (.ref b14), .val (.ref b24), .unset, .unset, .unset, .unset, .unset, .unset, .unset, .unset] [(.int (0 : Int32)), (.ref b14), (.int (0 : Int32)), (.ref b24)])) _
        refine X24.baloadBytes hx (j := (0 : Int32)) (v := (.int (fe ((0 : Int32)).toNatClampNeg))) (by rw [e24]; exact Ar11129.1) (State.isArrayOf_alike hZ.alike Ar11129.2.1) Ar11129.2.2 hin11129 hat11129 (g := (mkF m 111 #[.val (.int eb'), .val (.int wb'), .val (.int ct'), .val (.int jk'), .val (.int n'), .val (.int m'), .val (.int k'), .val (.int sg'), .val (.int o'), .val (.ref b14), .val (.ref b24), .unset, .unset, .unset, .unset, .unset, .unset, .unset, .unset] [(.int (0 : Int32)), (.ref b14), (.int (0 : Int32)), (.ref b24)])) rfl rfl (hb hby at_111) _ ?_
        show Steps p.tables e below (T24.setTop (mkF m 112 #[.val (.int eb'), .val (.int wb'), .val (.int ct'), .val (.int jk'), .val (.int n'), .val (.int m'), .val (.int k'), .val (.int sg'), .val (.int o'), .val (.ref b14), .val (.ref b24), .unset, .unset, .unset, .unset, .unset, .unset, .unset, .unset] [(.int (fe ((0 : Int32)).toNatClampNeg)), (.int (0 : Int32)), (.ref b24)])) _
        refine st31 _ ?_
        exact kt
      exact ⟨T31, _, _, (own_upd (fun _ => 0) ((0 : Int32)).toNatClampNeg (nar .byte (fe ((0 : Int32)).toNatClampNeg))), X31, e31, N31, Zs31, K31, hk, V_b14, E_b24, V_b24, fun _ => (if_pos rfl).trans (hfe _), pre32⟩
    · have pre33 : ∀ t, Steps p.tables e below (T24.setTop (mkF m 113 #[.val (.int eb'), .val (.int wb'), .val (.int ct'), .val (.int jk'), .val (.int n'), .val (.int m'), .val (.int k'), .val (.int sg'), .val (.int o'), .val (.ref b14), .val (.ref b24), .unset, .unset, .unset, .unset, .unset, .unset, .unset, .unset] [])) t → Steps p.tables e below (s₁.setTop (entryFrame m #[(.int eb'), (.int wb'), (.int ct'), (.int jk')] maxLocals)) t := by
        intro t kt
        refine pre27 t ?_
        show Steps p.tables e below (T24.setTop (mkF m 102 #[.val (.int eb'), .val (.int wb'), .val (.int ct'), .val (.int jk'), .val (.int n'), .val (.int m'), .val (.int k'), .val (.int sg'), .val (.int o'), .val (.ref b14), .val (.ref b24), .unset, .unset, .unset, .unset, .unset, .unset, .unset, .unset] [(.int n')])) _
        refine XS.ifYes X24.here hx rfl (pc0 := 102) (pc' := 113) rfl (hb hby at_102) rfl ((if0 _ _).trans (flt hc102_28).2.2.2) (by decide) (by decide) ?_
        exact kt
      exact ⟨T24, _, _, (fun _ => 0), X24, e24, N22, Zs24, K24, hk, V_b14, E_b24, V_b24, fun q => absurd q hc102_28, pre33⟩
  obtain ⟨T26, h26, L26, fx0, X26, e26, N26, Zs26, K26, hk, V_b14, E_b24, V_b24, B0, pre26⟩ := J26
  have J34 : ∃ (T' : State) (h' : Heap) (L' : List Loc) (fx1 : Nat → Int32) , Stand p l e room_1 (s.setVm s.vm) m #[(.int eb'), (.int wb'), (.int ct'), (.int jk')] below meth c T' L' 2 8 ∧ T'.heap = h' ∧ Fr n0 L' ∧ n0 ≤ h'.size ∧ Keep h0 h' [] ∧ s.heap.size ≤ h'.size ∧ own_A Z h' b14 .byte (4 : Int32) fe ∧ Exa Z h' b24 "[B" ∧ own_A Z h' b24 .byte n' fx1 ∧ ((0 : Int32) < n' → fx1 0 = fe 0) ∧ ((1 : Int32) < n' → fx1 1 = fe 1) ∧ ∀ t, Steps p.tables e below (T'.setTop (mkF m 127 #[.val (.int eb'), .val (.int wb'), .val (.int ct'), .val (.int jk'), .val (.int n'), .val (.int m'), .val (.int k'), .val (.int sg'), .val (.int o'), .val (.ref b14), .val (.ref b24), .unset, .unset, .unset, .unset, .unset, .unset, .unset, .unset] [])) t → Steps p.tables e below (s₁.setTop (entryFrame m #[(.int eb'), (.int wb'), (.int ct'), (.int jk')] maxLocals)) t := by
    have pre35 : ∀ t, Steps p.tables e below (T26.setTop (mkF m 116 #[.val (.int eb'), .val (.int wb'), .val (.int ct'), .val (.int jk'), .val (.int n'), .val (.int m'), .val (.int k'), .val (.int sg'), .val (.int o'), .val (.ref b14), .val (.ref b24), .unset, .unset, .unset, .unset, .unset, .unset, .unset, .unset] [(.int (1 : Int32)), (.int n')])) t → Steps p.tables e below (s₁.setTop (entryFrame m #[(.int eb'), (.int wb'), (.int ct'), (.int jk')] maxLocals)) t := by
      intro t kt
      refine pre26 t ?_
      show Steps p.tables e below (T26.setTop (mkF m 113 #[.val (.int eb'), .val (.int wb'), .val (.int ct'), .val (.int jk'), .val (.int n'), .val (.int m'), .val (.int k'), .val (.int sg'), .val (.int o'), .val (.ref b14), .val (.ref b24), .unset, .unset, .unset, .unset, .unset, .unset, .unset, .unset] [])) _
      refine XS.iload X26.here hx rfl (hb hby at_113) rfl ?_
      show Steps p.tables e below (T26.setTop (mkF m 115 #[.val (.int eb'), .val (.int wb'), .val (.int ct'), .val (.int jk'), .val (.int n'), .val (.int m'), .val (.int k'), .val (.int sg'), .val (.int o'), .val (.ref b14), .val (.ref b24), .unset, .unset, .unset, .unset, .unset, .unset, .unset, .unset] [(.int n')])) _
      refine XS.iconst X26.here hx rfl (hb hby at_115) ?_
      exact kt
    by_cases hc116_36 : (1 : Int32) < n'
    · obtain ⟨cl12537, Ar12537, S12537, M12537, H12537⟩ := id V_b14
      have hin12537 : ¬ ((1 : Int32) < 0 ∨ cl12537.slots.size ≤ ((1 : Int32)).toNatClampNeg) := inb_of S12537 ⟨by decide, by decide⟩
      have hat12537 := own_A.at S12537 H12537 hin12537
      obtain ⟨cl12638, Ar12638, S12638, M12638, H12638⟩ := V_b24
      have hin12638 : ¬ ((1 : Int32) < 0 ∨ cl12638.slots.size ≤ ((1 : Int32)).toNatClampNeg) := inb_of S12638 ⟨by decide, hc116_36⟩
      obtain ⟨T39, h39, X39, e39, W39, st39⟩ := stB X26 hx hZ e26 Ar12638 (j := (1 : Int32)) hin12638 (g := (mkF m 126 #[.val (.int eb'), .val (.int wb'), .val (.int ct'), .val (.int jk'), .val (.int n'), .val (.int m'), .val (.int k'), .val (.int sg'), .val (.int o'), .val (.ref b14), .val (.ref b24), .unset, .unset, .unset, .unset, .unset, .unset, .unset, .unset] [(.int (fe ((1 : Int32)).toNatClampNeg)), (.int (1 : Int32)), (.ref b24)])) rfl rfl (hb hby at_126)
      have V_b14 := V_b14.other W39 ne_b14_b24
      have E_b24 := E_b24.wr W39
      have Zs39 : n0 ≤ h39.size := Nat.le_trans Zs26 (Keep.of_wr W39).1
      have hk := Nat.le_trans hk (Keep.of_wr W39).1
      have K39 : Keep h0 h39 [] := K26.wr W39 (Or.inr sz_b24)
      have N39 := Fr.snoc X39 N26 g_b24
      have V_b24 : own_A Z h39 b24 .byte n' (own_upd fx0 ((1 : Int32)).toNatClampNeg (nar .byte (fe ((1 : Int32)).toNatClampNeg))) := own_A.set Ar12638 S12638 M12638 H12638 W39
      have pre40 : ∀ t, Steps p.tables e below (T39.setTop (mkF m 127 #[.val (.int eb'), .val (.int wb'), .val (.int ct'), .val (.int jk'), .val (.int n'), .val (.int m'), .val (.int k'), .val (.int sg'), .val (.int o'), .val (.ref b14), .val (.ref b24), .unset, .unset, .unset, .unset, .unset, .unset, .unset, .unset] [])) t → Steps p.tables e below (s₁.setTop (entryFrame m #[(.int eb'), (.int wb'), (.int ct'), (.int jk')] maxLocals)) t := by
        intro t kt
        refine pre35 t ?_
        show Steps p.tables e below (T26.setTop (mkF m 116 #[.val (.int eb'), .val (.int wb'), .val (.int ct'), .val (.int jk'), .val (.int n'), .val (.int m'), .val (.int k'), .val (.int sg'), .val (.int o'), .val (.ref b14), .val (.ref b24), .unset, .unset, .unset, .unset, .unset, .unset, .unset, .unset] [(.int (1 : Int32)), (.int n')])) _
        refine XS.icmpNo X26.here hx rfl (hb hby at_116) rfl (tlt hc116_36).2.2.2 ?_
        show Steps p.tables e below (T26.setTop (mkF m 119 #[.val (.int eb'), .val (.int wb'), .val (.int ct'), .val (.int jk'), .val (.int n'), .val (.int m'), .val (.int k'), .val (.int sg'), .val (.int o'), .val (.ref b14), .val (.ref b24), .unset, .unset, .unset, .unset, .unset, .unset, .unset, .unset] [])) _
        refine XS.aload X26.here hx rfl (hb hby at_119) rfl rfl ?_
        show Steps p.tables e below (T26.setTop (mkF m 121 #[.val (.int eb'), .val (.int wb'), .val (.int ct'), .val (.int jk'), .val (.int n'), .val (.int m'), .val (.int k'), .val (.int sg'), .val (.int o'), .val (.ref b14), .val (.ref b24), .unset, .unset, .unset, .unset, .unset, .unset, .unset, .unset] [(.ref b24)])) _
        refine XS.iconst X26.here hx rfl (hb hby at_121) ?_
        show Steps p.tables e below (T26.setTop (mkF m 122 #[.val (.int eb'), .val (.int wb'), .val (.int ct'), .val (.int jk'), .val (.int n'), .val (.int m'), .val (.int k'), .val (.int sg'), .val (.int o'), .val (.ref b14), .val (.ref b24), .unset, .unset, .unset, .unset, .unset, .unset, .unset, .unset] [(.int (1 : Int32)), (.ref b24)])) _
        refine XS.aload X26.here hx rfl (hb hby at_122) rfl rfl ?_
        show Steps p.tables e below (T26.setTop (mkF m 124 #[.val (.int eb'), .val (.int wb'), .val (.int ct'), .val (.int jk'), .val (.int n'), .val (.int m'), .val (.int k'), .val (.int sg'), .val (.int o'), .val (.ref b14), .val (.ref b24), .unset, .unset, .unset, .unset, .unset, .unset, .unset, .unset] [(.ref b14), (.int (1 : Int32)), (.ref b24)])) _
        refine XS.iconst X26.here hx rfl (hb hby at_124) ?_
        show Steps p.tables e below (T26.setTop (mkF m 125 #[.val (.int eb'), .val (.int wb'), .val (.int ct'), .val (.int jk'), .val (.int n'), .val (.int m'), .val (.int k'), .val (.int sg'), .val (.int o'), .val (.ref b14), .val (.ref b24), .unset, .unset, .unset, .unset, .unset, .unset, .unset, .unset] [(.int (1 : Int32)), (.ref b14), (.int (1 : Int32)), (.ref b24)])) _
        refine X26.baloadBytes hx (j := (1 : Int32)) (v := (.int (fe ((1 : Int32)).toNatClampNeg))) (by rw [e26]; exact Ar12537.1) (State.isArrayOf_alike hZ.alike Ar12537.2.1) Ar12537.2.2 hin12537 hat12537 (g := (mkF m 125 #[.val (.int eb'), .val (.int wb'), .val (.int ct'), .val (.int jk'), .val (.int n'), .val (.int m'), .val (.int k'), .val (.int sg'), .val (.int o'), .val (.ref b14), .val (.ref b24), .unset, .unset, .unset, .unset, .unset, .unset, .unset, .unset] [(.int (1 : Int32)), (.ref b14), (.int (1 : Int32)), (.ref b24)])) rfl rfl (hb hby at_125) _ ?_
        show Steps p.tables e below (T26.setTop (mkF m 126 #[.val (.int eb'), .val (.int wb'), .val (.int ct'), .val (.int jk'), .val (.int n'), .val (.int m'), .val (.int k'), .val (.int sg'), .val (.int o'), .val (.ref b14), .val (.ref b24), .unset, .unset, .unset, .unset, .unset, .unset, .unset, .unset] [(.int (fe ((1 : Int32)).toNatClampNeg)), (.int (1 : Int32)), (.ref b24)])) _
        refine st39 _ ?_
        exact kt
      exact ⟨T39, _, _, (own_upd fx0 ((1 : Int32)).toNatClampNeg (nar .byte (fe ((1 : Int32)).toNatClampNeg))), X39, e39, N39, Zs39, K39, hk, V_b14, E_b24, V_b24, fun q => (if_neg (by decide)).trans (B0 q), fun _ => (if_pos rfl).trans (hfe _), pre40⟩
    · have pre41 : ∀ t, Steps p.tables e below (T26.setTop (mkF m 127 #[.val (.int eb'), .val (.int wb'), .val (.int ct'), .val (.int jk'), .val (.int n'), .val (.int m'), .val (.int k'), .val (.int sg'), .val (.int o'), .val (.ref b14), .val (.ref b24), .unset, .unset, .unset, .unset, .unset, .unset, .unset, .unset] [])) t → Steps p.tables e below (s₁.setTop (entryFrame m #[(.int eb'), (.int wb'), (.int ct'), (.int jk')] maxLocals)) t := by
        intro t kt
        refine pre35 t ?_
        show Steps p.tables e below (T26.setTop (mkF m 116 #[.val (.int eb'), .val (.int wb'), .val (.int ct'), .val (.int jk'), .val (.int n'), .val (.int m'), .val (.int k'), .val (.int sg'), .val (.int o'), .val (.ref b14), .val (.ref b24), .unset, .unset, .unset, .unset, .unset, .unset, .unset, .unset] [(.int (1 : Int32)), (.int n')])) _
        refine XS.icmpYes X26.here hx rfl (pc0 := 116) (pc' := 127) rfl (hb hby at_116) rfl (flt hc116_36).2.2.2 (by decide) (by decide) ?_
        exact kt
      exact ⟨T26, _, _, fx0, X26, e26, N26, Zs26, K26, hk, V_b14, E_b24, V_b24, B0, fun q => absurd q hc116_36, pre41⟩
  obtain ⟨T34, h34, L34, fx1, X34, e34, N34, Zs34, K34, hk, V_b14, E_b24, V_b24, B0, B1, pre34⟩ := J34
  have J42 : ∃ (T' : State) (h' : Heap) (L' : List Loc) (fx2 : Nat → Int32) , Stand p l e room_1 (s.setVm s.vm) m #[(.int eb'), (.int wb'), (.int ct'), (.int jk')] below meth c T' L' 2 8 ∧ T'.heap = h' ∧ Fr n0 L' ∧ n0 ≤ h'.size ∧ Keep h0 h' [] ∧ s.heap.size ≤ h'.size ∧ own_A Z h' b14 .byte (4 : Int32) fe ∧ Exa Z h' b24 "[B" ∧ own_A Z h' b24 .byte n' fx2 ∧ ((0 : Int32) < n' → fx2 0 = fe 0) ∧ ((1 : Int32) < n' → fx2 1 = fe 1) ∧ ((2 : Int32) < n' → fx2 2 = fe 2) ∧ ∀ t, Steps p.tables e below (T'.setTop (mkF m 141 #[.val (.int eb'), .val (.int wb'), .val (.int ct'), .val (.int jk'), .val (.int n'), .val (.int m'), .val (.int k'), .val (.int sg'), .val (.int o'), .val (.ref b14), .val (.ref b24), .unset, .unset, .unset, .unset, .unset, .unset, .unset, .unset] [])) t → Steps p.tables e below (s₁.setTop (entryFrame m #[(.int eb'), (.int wb'), (.int ct'), (.int jk')] maxLocals)) t := by
    have pre43 : ∀ t, Steps p.tables e below (T34.setTop (mkF m 130 #[.val (.int eb'), .val (.int wb'), .val (.int ct'), .val (.int jk'), .val (.int n'), .val (.int m'), .val (.int k'), .val (.int sg'), .val (.int o'), .val (.ref b14), .val (.ref b24), .unset, .unset, .unset, .unset, .unset, .unset, .unset, .unset] [(.int (2 : Int32)), (.int n')])) t → Steps p.tables e below (s₁.setTop (entryFrame m #[(.int eb'), (.int wb'), (.int ct'), (.int jk')] maxLocals)) t := by
      intro t kt
      refine pre34 t ?_
      show Steps p.tables e below (T34.setTop (mkF m 127 #[.val (.int eb'), .val (.int wb'), .val (.int ct'), .val (.int jk'), .val (.int n'), .val (.int m'), .val (.int k'), .val (.int sg'), .val (.int o'), .val (.ref b14), .val (.ref b24), .unset, .unset, .unset, .unset, .unset, .unset, .unset, .unset] [])) _
      refine XS.iload X34.here hx rfl (hb hby at_127) rfl ?_
      show Steps p.tables e below (T34.setTop (mkF m 129 #[.val (.int eb'), .val (.int wb'), .val (.int ct'), .val (.int jk'), .val (.int n'), .val (.int m'), .val (.int k'), .val (.int sg'), .val (.int o'), .val (.ref b14), .val (.ref b24), .unset, .unset, .unset, .unset, .unset, .unset, .unset, .unset] [(.int n')])) _
      refine XS.iconst X34.here hx rfl (hb hby at_129) ?_
      exact kt
    by_cases hc130_44 : (2 : Int32) < n'
    · obtain ⟨cl13945, Ar13945, S13945, M13945, H13945⟩ := id V_b14
      have hin13945 : ¬ ((2 : Int32) < 0 ∨ cl13945.slots.size ≤ ((2 : Int32)).toNatClampNeg) := inb_of S13945 ⟨by decide, by decide⟩
      have hat13945 := own_A.at S13945 H13945 hin13945
      obtain ⟨cl14046, Ar14046, S14046, M14046, H14046⟩ := V_b24
      have hin14046 : ¬ ((2 : Int32) < 0 ∨ cl14046.slots.size ≤ ((2 : Int32)).toNatClampNeg) := inb_of S14046 ⟨by decide, hc130_44⟩
      obtain ⟨T47, h47, X47, e47, W47, st47⟩ := stB X34 hx hZ e34 Ar14046 (j := (2 : Int32)) hin14046 (g := (mkF m 140 #[.val (.int eb'), .val (.int wb'), .val (.int ct'), .val (.int jk'), .val (.int n'), .val (.int m'), .val (.int k'), .val (.int sg'), .val (.int o'), .val (.ref b14), .val (.ref b24), .unset, .unset, .unset, .unset, .unset, .unset, .unset, .unset] [(.int (fe ((2 : Int32)).toNatClampNeg)), (.int (2 : Int32)), (.ref b24)])) rfl rfl (hb hby at_140)
      have V_b14 := V_b14.other W47 ne_b14_b24
      have E_b24 := E_b24.wr W47
      have Zs47 : n0 ≤ h47.size := Nat.le_trans Zs34 (Keep.of_wr W47).1
      have hk := Nat.le_trans hk (Keep.of_wr W47).1
      have K47 : Keep h0 h47 [] := K34.wr W47 (Or.inr sz_b24)
      have N47 := Fr.snoc X47 N34 g_b24
      have V_b24 : own_A Z h47 b24 .byte n' (own_upd fx1 ((2 : Int32)).toNatClampNeg (nar .byte (fe ((2 : Int32)).toNatClampNeg))) := own_A.set Ar14046 S14046 M14046 H14046 W47
      have pre48 : ∀ t, Steps p.tables e below (T47.setTop (mkF m 141 #[.val (.int eb'), .val (.int wb'), .val (.int ct'), .val (.int jk'), .val (.int n'), .val (.int m'), .val (.int k'), .val (.int sg'), .val (.int o'), .val (.ref b14), .val (.ref b24), .unset, .unset, .unset, .unset, .unset, .unset, .unset, .unset] [])) t → Steps p.tables e below (s₁.setTop (entryFrame m #[(.int eb'), (.int wb'), (.int ct'), (.int jk')] maxLocals)) t := by
        intro t kt
        refine pre43 t ?_
        show Steps p.tables e below (T34.setTop (mkF m 130 #[.val (.int eb'), .val (.int wb'), .val (.int ct'), .val (.int jk'), .val (.int n'), .val (.int m'), .val (.int k'), .val (.int sg'), .val (.int o'), .val (.ref b14), .val (.ref b24), .unset, .unset, .unset, .unset, .unset, .unset, .unset, .unset] [(.int (2 : Int32)), (.int n')])) _
        refine XS.icmpNo X34.here hx rfl (hb hby at_130) rfl (tlt hc130_44).2.2.2 ?_
        show Steps p.tables e below (T34.setTop (mkF m 133 #[.val (.int eb'), .val (.int wb'), .val (.int ct'), .val (.int jk'), .val (.int n'), .val (.int m'), .val (.int k'), .val (.int sg'), .val (.int o'), .val (.ref b14), .val (.ref b24), .unset, .unset, .unset, .unset, .unset, .unset, .unset, .unset] [])) _
        refine XS.aload X34.here hx rfl (hb hby at_133) rfl rfl ?_
        show Steps p.tables e below (T34.setTop (mkF m 135 #[.val (.int eb'), .val (.int wb'), .val (.int ct'), .val (.int jk'), .val (.int n'), .val (.int m'), .val (.int k'), .val (.int sg'), .val (.int o'), .val (.ref b14), .val (.ref b24), .unset, .unset, .unset, .unset, .unset, .unset, .unset, .unset] [(.ref b24)])) _
        refine XS.iconst X34.here hx rfl (hb hby at_135) ?_
        show Steps p.tables e below (T34.setTop (mkF m 136 #[.val (.int eb'), .val (.int wb'), .val (.int ct'), .val (.int jk'), .val (.int n'), .val (.int m'), .val (.int k'), .val (.int sg'), .val (.int o'), .val (.ref b14), .val (.ref b24), .unset, .unset, .unset, .unset, .unset, .unset, .unset, .unset] [(.int (2 : Int32)), (.ref b24)])) _
        refine XS.aload X34.here hx rfl (hb hby at_136) rfl rfl ?_
        show Steps p.tables e below (T34.setTop (mkF m 138 #[.val (.int eb'), .val (.int wb'), .val (.int ct'), .val (.int jk'), .val (.int n'), .val (.int m'), .val (.int k'), .val (.int sg'), .val (.int o'), .val (.ref b14), .val (.ref b24), .unset, .unset, .unset, .unset, .unset, .unset, .unset, .unset] [(.ref b14), (.int (2 : Int32)), (.ref b24)])) _
        refine XS.iconst X34.here hx rfl (hb hby at_138) ?_
        show Steps p.tables e below (T34.setTop (mkF m 139 #[.val (.int eb'), .val (.int wb'), .val (.int ct'), .val (.int jk'), .val (.int n'), .val (.int m'), .val (.int k'), .val (.int sg'), .val (.int o'), .val (.ref b14), .val (.ref b24), .unset, .unset, .unset, .unset, .unset, .unset, .unset, .unset] [(.int (2 : Int32)), (.ref b14), (.int (2 : Int32)), (.ref b24)])) _
        refine X34.baloadBytes hx (j := (2 : Int32)) (v := (.int (fe ((2 : Int32)).toNatClampNeg))) (by rw [e34]; exact Ar13945.1) (State.isArrayOf_alike hZ.alike Ar13945.2.1) Ar13945.2.2 hin13945 hat13945 (g := (mkF m 139 #[.val (.int eb'), .val (.int wb'), .val (.int ct'), .val (.int jk'), .val (.int n'), .val (.int m'), .val (.int k'), .val (.int sg'), .val (.int o'), .val (.ref b14), .val (.ref b24), .unset, .unset, .unset, .unset, .unset, .unset, .unset, .unset] [(.int (2 : Int32)), (.ref b14), (.int (2 : Int32)), (.ref b24)])) rfl rfl (hb hby at_139) _ ?_
        show Steps p.tables e below (T34.setTop (mkF m 140 #[.val (.int eb'), .val (.int wb'), .val (.int ct'), .val (.int jk'), .val (.int n'), .val (.int m'), .val (.int k'), .val (.int sg'), .val (.int o'), .val (.ref b14), .val (.ref b24), .unset, .unset, .unset, .unset, .unset, .unset, .unset, .unset] [(.int (fe ((2 : Int32)).toNatClampNeg)), (.int (2 : Int32)), (.ref b24)])) _
        refine st47 _ ?_
        exact kt
      exact ⟨T47, _, _, (own_upd fx1 ((2 : Int32)).toNatClampNeg (nar .byte (fe ((2 : Int32)).toNatClampNeg))), X47, e47, N47, Zs47, K47, hk, V_b14, E_b24, V_b24, fun q => (if_neg (by decide)).trans (B0 q), fun q => (if_neg (by decide)).trans (B1 q), fun _ => (if_pos rfl).trans (hfe _), pre48⟩
    · have pre49 : ∀ t, Steps p.tables e below (T34.setTop (mkF m 141 #[.val (.int eb'), .val (.int wb'), .val (.int ct'), .val (.int jk'), .val (.int n'), .val (.int m'), .val (.int k'), .val (.int sg'), .val (.int o'), .val (.ref b14), .val (.ref b24), .unset, .unset, .unset, .unset, .unset, .unset, .unset, .unset] [])) t → Steps p.tables e below (s₁.setTop (entryFrame m #[(.int eb'), (.int wb'), (.int ct'), (.int jk')] maxLocals)) t := by
        intro t kt
        refine pre43 t ?_
        show Steps p.tables e below (T34.setTop (mkF m 130 #[.val (.int eb'), .val (.int wb'), .val (.int ct'), .val (.int jk'), .val (.int n'), .val (.int m'), .val (.int k'), .val (.int sg'), .val (.int o'), .val (.ref b14), .val (.ref b24), .unset, .unset, .unset, .unset, .unset, .unset, .unset, .unset] [(.int (2 : Int32)), (.int n')])) _
        refine XS.icmpYes X34.here hx rfl (pc0 := 130) (pc' := 141) rfl (hb hby at_130) rfl (flt hc130_44).2.2.2 (by decide) (by decide) ?_
        exact kt
      exact ⟨T34, _, _, fx1, X34, e34, N34, Zs34, K34, hk, V_b14, E_b24, V_b24, B0, B1, fun q => absurd q hc130_44, pre49⟩
  obtain ⟨T42, h42, L42, fx2, X42, e42, N42, Zs42, K42, hk, V_b14, E_b24, V_b24, B0, B1, B2, pre42⟩ := J42
  have J50 : ∃ (T' : State) (h' : Heap) (L' : List Loc) (fx3 : Nat → Int32) , Stand p l e room_1 (s.setVm s.vm) m #[(.int eb'), (.int wb'), (.int ct'), (.int jk')] below meth c T' L' 2 8 ∧ T'.heap = h' ∧ Fr n0 L' ∧ n0 ≤ h'.size ∧ Keep h0 h' [] ∧ s.heap.size ≤ h'.size ∧ own_A Z h' b14 .byte (4 : Int32) fe ∧ Exa Z h' b24 "[B" ∧ own_A Z h' b24 .byte n' fx3 ∧ ((0 : Int32) < n' → fx3 0 = fe 0) ∧ ((1 : Int32) < n' → fx3 1 = fe 1) ∧ ((2 : Int32) < n' → fx3 2 = fe 2) ∧ ((3 : Int32) < n' → fx3 3 = fe 3) ∧ ∀ t, Steps p.tables e below (T'.setTop (mkF m 155 #[.val (.int eb'), .val (.int wb'), .val (.int ct'), .val (.int jk'), .val (.int n'), .val (.int m'), .val (.int k'), .val (.int sg'), .val (.int o'), .val (.ref b14), .val (.ref b24), .unset, .unset, .unset, .unset, .unset, .unset, .unset, .unset] [])) t → Steps p.tables e below (s₁.setTop (entryFrame m #[(.int eb'), (.int wb'), (.int ct'), (.int jk')] maxLocals)) t := by
    have pre51 : ∀ t, Steps p.tables e below (T42.setTop (mkF m 144 #[.val (.int eb'), .val (.int wb'), .val (.int ct'), .val (.int jk'), .val (.int n'), .val (.int m'), .val (.int k'), .val (.int sg'), .val (.int o'), .val (.ref b14), .val (.ref b24), .unset, .unset, .unset, .unset, .unset, .unset, .unset, .unset] [(.int (3 : Int32)), (.int n')])) t → Steps p.tables e below (s₁.setTop (entryFrame m #[(.int eb'), (.int wb'), (.int ct'), (.int jk')] maxLocals)) t := by
      intro t kt
      refine pre42 t ?_
      show Steps p.tables e below (T42.setTop (mkF m 141 #[.val (.int eb'), .val (.int wb'), .val (.int ct'), .val (.int jk'), .val (.int n'), .val (.int m'), .val (.int k'), .val (.int sg'), .val (.int o'), .val (.ref b14), .val (.ref b24), .unset, .unset, .unset, .unset, .unset, .unset, .unset, .unset] [])) _
      refine XS.iload X42.here hx rfl (hb hby at_141) rfl ?_
      show Steps p.tables e below (T42.setTop (mkF m 143 #[.val (.int eb'), .val (.int wb'), .val (.int ct'), .val (.int jk'), .val (.int n'), .val (.int m'), .val (.int k'), .val (.int sg'), .val (.int o'), .val (.ref b14), .val (.ref b24), .unset, .unset, .unset, .unset, .unset, .unset, .unset, .unset] [(.int n')])) _
      refine XS.iconst X42.here hx rfl (hb hby at_143) ?_
      exact kt
    by_cases hc144_52 : (3 : Int32) < n'
    · obtain ⟨cl15353, Ar15353, S15353, M15353, H15353⟩ := id V_b14
      have hin15353 : ¬ ((3 : Int32) < 0 ∨ cl15353.slots.size ≤ ((3 : Int32)).toNatClampNeg) := inb_of S15353 ⟨by decide, by decide⟩
      have hat15353 := own_A.at S15353 H15353 hin15353
      obtain ⟨cl15454, Ar15454, S15454, M15454, H15454⟩ := V_b24
      have hin15454 : ¬ ((3 : Int32) < 0 ∨ cl15454.slots.size ≤ ((3 : Int32)).toNatClampNeg) := inb_of S15454 ⟨by decide, hc144_52⟩
      obtain ⟨T55, h55, X55, e55, W55, st55⟩ := stB X42 hx hZ e42 Ar15454 (j := (3 : Int32)) hin15454 (g := (mkF m 154 #[.val (.int eb'), .val (.int wb'), .val (.int ct'), .val (.int jk'), .val (.int n'), .val (.int m'), .val (.int k'), .val (.int sg'), .val (.int o'), .val (.ref b14), .val (.ref b24), .unset, .unset, .unset, .unset, .unset, .unset, .unset, .unset] [(.int (fe ((3 : Int32)).toNatClampNeg)), (.int (3 : Int32)), (.ref b24)])) rfl rfl (hb hby at_154)
      have V_b14 := V_b14.other W55 ne_b14_b24
      have E_b24 := E_b24.wr W55
      have Zs55 : n0 ≤ h55.size := Nat.le_trans Zs42 (Keep.of_wr W55).1
      have hk := Nat.le_trans hk (Keep.of_wr W55).1
      have K55 : Keep h0 h55 [] := K42.wr W55 (Or.inr sz_b24)
      have N55 := Fr.snoc X55 N42 g_b24
      have V_b24 : own_A Z h55 b24 .byte n' (own_upd fx2 ((3 : Int32)).toNatClampNeg (nar .byte (fe ((3 : Int32)).toNatClampNeg))) := own_A.set Ar15454 S15454 M15454 H15454 W55
      have pre56 : ∀ t, Steps p.tables e below (T55.setTop (mkF m 155 #[.val (.int eb'), .val (.int wb'), .val (.int ct'), .val (.int jk'), .val (.int n'), .val (.int m'), .val (.int k'), .val (.int sg'), .val (.int o'), .val (.ref b14), .val (.ref b24), .unset, .unset, .unset, .unset, .unset, .unset, .unset, .unset] [])) t → Steps p.tables e below (s₁.setTop (entryFrame m #[(.int eb'), (.int wb'), (.int ct'), (.int jk')] maxLocals)) t := by
        intro t kt
        refine pre51 t ?_
        show Steps p.tables e below (T42.setTop (mkF m 144 #[.val (.int eb'), .val (.int wb'), .val (.int ct'), .val (.int jk'), .val (.int n'), .val (.int m'), .val (.int k'), .val (.int sg'), .val (.int o'), .val (.ref b14), .val (.ref b24), .unset, .unset, .unset, .unset, .unset, .unset, .unset, .unset] [(.int (3 : Int32)), (.int n')])) _
        refine XS.icmpNo X42.here hx rfl (hb hby at_144) rfl (tlt hc144_52).2.2.2 ?_
        show Steps p.tables e below (T42.setTop (mkF m 147 #[.val (.int eb'), .val (.int wb'), .val (.int ct'), .val (.int jk'), .val (.int n'), .val (.int m'), .val (.int k'), .val (.int sg'), .val (.int o'), .val (.ref b14), .val (.ref b24), .unset, .unset, .unset, .unset, .unset, .unset, .unset, .unset] [])) _
        refine XS.aload X42.here hx rfl (hb hby at_147) rfl rfl ?_
        show Steps p.tables e below (T42.setTop (mkF m 149 #[.val (.int eb'), .val (.int wb'), .val (.int ct'), .val (.int jk'), .val (.int n'), .val (.int m'), .val (.int k'), .val (.int sg'), .val (.int o'), .val (.ref b14), .val (.ref b24), .unset, .unset, .unset, .unset, .unset, .unset, .unset, .unset] [(.ref b24)])) _
        refine XS.iconst X42.here hx rfl (hb hby at_149) ?_
        show Steps p.tables e below (T42.setTop (mkF m 150 #[.val (.int eb'), .val (.int wb'), .val (.int ct'), .val (.int jk'), .val (.int n'), .val (.int m'), .val (.int k'), .val (.int sg'), .val (.int o'), .val (.ref b14), .val (.ref b24), .unset, .unset, .unset, .unset, .unset, .unset, .unset, .unset] [(.int (3 : Int32)), (.ref b24)])) _
        refine XS.aload X42.here hx rfl (hb hby at_150) rfl rfl ?_
        show Steps p.tables e below (T42.setTop (mkF m 152 #[.val (.int eb'), .val (.int wb'), .val (.int ct'), .val (.int jk'), .val (.int n'), .val (.int m'), .val (.int k'), .val (.int sg'), .val (.int o'), .val (.ref b14), .val (.ref b24), .unset, .unset, .unset, .unset, .unset, .unset, .unset, .unset] [(.ref b14), (.int (3 : Int32)), (.ref b24)])) _
        refine XS.iconst X42.here hx rfl (hb hby at_152) ?_
        show Steps p.tables e below (T42.setTop (mkF m 153 #[.val (.int eb'), .val (.int wb'), .val (.int ct'), .val (.int jk'), .val (.int n'), .val (.int m'), .val (.int k'), .val (.int sg'), .val (.int o'), .val (.ref b14), .val (.ref b24), .unset, .unset, .unset, .unset, .unset, .unset, .unset, .unset] [(.int (3 : Int32)), (.ref b14), (.int (3 : Int32)), (.ref b24)])) _
        refine X42.baloadBytes hx (j := (3 : Int32)) (v := (.int (fe ((3 : Int32)).toNatClampNeg))) (by rw [e42]; exact Ar15353.1) (State.isArrayOf_alike hZ.alike Ar15353.2.1) Ar15353.2.2 hin15353 hat15353 (g := (mkF m 153 #[.val (.int eb'), .val (.int wb'), .val (.int ct'), .val (.int jk'), .val (.int n'), .val (.int m'), .val (.int k'), .val (.int sg'), .val (.int o'), .val (.ref b14), .val (.ref b24), .unset, .unset, .unset, .unset, .unset, .unset, .unset, .unset] [(.int (3 : Int32)), (.ref b14), (.int (3 : Int32)), (.ref b24)])) rfl rfl (hb hby at_153) _ ?_
        show Steps p.tables e below (T42.setTop (mkF m 154 #[.val (.int eb'), .val (.int wb'), .val (.int ct'), .val (.int jk'), .val (.int n'), .val (.int m'), .val (.int k'), .val (.int sg'), .val (.int o'), .val (.ref b14), .val (.ref b24), .unset, .unset, .unset, .unset, .unset, .unset, .unset, .unset] [(.int (fe ((3 : Int32)).toNatClampNeg)), (.int (3 : Int32)), (.ref b24)])) _
        refine st55 _ ?_
        exact kt
      exact ⟨T55, _, _, (own_upd fx2 ((3 : Int32)).toNatClampNeg (nar .byte (fe ((3 : Int32)).toNatClampNeg))), X55, e55, N55, Zs55, K55, hk, V_b14, E_b24, V_b24, fun q => (if_neg (by decide)).trans (B0 q), fun q => (if_neg (by decide)).trans (B1 q), fun q => (if_neg (by decide)).trans (B2 q), fun _ => (if_pos rfl).trans (hfe _), pre56⟩
    · have pre57 : ∀ t, Steps p.tables e below (T42.setTop (mkF m 155 #[.val (.int eb'), .val (.int wb'), .val (.int ct'), .val (.int jk'), .val (.int n'), .val (.int m'), .val (.int k'), .val (.int sg'), .val (.int o'), .val (.ref b14), .val (.ref b24), .unset, .unset, .unset, .unset, .unset, .unset, .unset, .unset] [])) t → Steps p.tables e below (s₁.setTop (entryFrame m #[(.int eb'), (.int wb'), (.int ct'), (.int jk')] maxLocals)) t := by
        intro t kt
        refine pre51 t ?_
        show Steps p.tables e below (T42.setTop (mkF m 144 #[.val (.int eb'), .val (.int wb'), .val (.int ct'), .val (.int jk'), .val (.int n'), .val (.int m'), .val (.int k'), .val (.int sg'), .val (.int o'), .val (.ref b14), .val (.ref b24), .unset, .unset, .unset, .unset, .unset, .unset, .unset, .unset] [(.int (3 : Int32)), (.int n')])) _
        refine XS.icmpYes X42.here hx rfl (pc0 := 144) (pc' := 155) rfl (hb hby at_144) rfl (flt hc144_52).2.2.2 (by decide) (by decide) ?_
        exact kt
      exact ⟨T42, _, _, fx2, X42, e42, N42, Zs42, K42, hk, V_b14, E_b24, V_b24, B0, B1, B2, fun q => absurd q hc144_52, pre57⟩
  obtain ⟨T50, h50, L50, fx3, X50, e50, N50, Zs50, K50, hk, V_b14, E_b24, V_b24, B0, B1, B2, B3, pre50⟩ := J50
  obtain ⟨T58, h58, k58, X58, e58, E58, A58, st58⟩ := newP X50 hx hZ (hw _ (List.mem_of_getElem? (i := 0) rfl)) e50 (g := (mkF m 156 #[.val (.int eb'), .val (.int wb'), .val (.int ct'), .val (.int jk'), .val (.int n'), .val (.int m'), .val (.int k'), .val (.int sg'), .val (.int o'), .val (.ref b14), .val (.ref b24), .unset, .unset, .unset, .unset, .unset, .unset, .unset, .unset] [(.int (4 : Int32))])) rfl (hb hby at_156) rfl (by decide) (cap := 4) (by decide) (by decide) (by decide) (by decide)
  obtain ⟨b58, g58⟩ : ∃ z, z = h50.size := ⟨_, rfl⟩
  rw [← g58] at A58 st58
  have g_b58 : n0 ≤ b58 := Nat.le_trans Zs50 (Nat.le_of_eq g58.symm)
  have sz_b58 : h0.size ≤ b58 := Nat.le_trans K50.1 (Nat.le_of_eq g58.symm)
  have ne_b14_b58 : b14 ≠ b58 := Nat.ne_of_lt (Nat.lt_of_lt_of_le V_b14.lt (Nat.le_of_eq g58.symm))
  have ne_b24_b58 : b24 ≠ b58 := Nat.ne_of_lt (Nat.lt_of_lt_of_le E_b24.lt (Nat.le_of_eq g58.symm))
  have V_b14 := V_b14.ext E58
  have E_b24 := E_b24.ext E58
  have V_b24 := V_b24.ext E58
  have Zs58 : n0 ≤ h58.size := Nat.le_trans Zs50 E58.1
  have hk := Nat.le_trans hk E58.1
  have K58 : Keep h0 h58 [] := K50.ext E58
  have V_b58 : own_A Z h58 b58 .byte (4 : Int32) (fun _ => 0) := own_A.new A58 (by decide) rfl
  obtain ⟨cl17059, Ar17059, S17059, M17059, H17059⟩ := id V_b14
  have hin17059 : ¬ ((0 : Int32) < 0 ∨ cl17059.slots.size ≤ ((0 : Int32)).toNatClampNeg) := inb_of S17059 ⟨by decide, by decide⟩
  have hat17059 := own_A.at S17059 H17059 hin17059
  obtain ⟨_, _, ⟨T60, L60, k60, n60⟩, -, X60, ⟨Lc60, hQ60, l60, y60, z60⟩, st60⟩ := Jvm.LawKit.callS X58 hx (y := (⟨"com/example/bytelace/bytelace/cli/FirstDifferenceOffsetPinLaw", "pick", "(IIIBI)B"⟩ : MethodName)) hown (mvT hZ (hw _ (List.mem_of_getElem? (i := 1) rfl))) (mvT hZ (hw _ (List.mem_of_getElem? (i := 2) rfl))) (mvT hZ (hw _ (List.mem_of_getElem? (i := 3) rfl))) (mvT hZ (hw _ (List.mem_of_getElem? (i := 4) rfl))) (by decide) (backOf (W := 2) (rm1 l Z a0 hw [] ct' (0 : Int32) n' (fe ((0 : Int32)).toNatClampNeg) wb' h58 n0 Zs58 ) hZ (hw _ (List.mem_of_getElem? (i := 4) rfl)) (hw _ (List.mem_of_getElem? (i := 3) rfl)) (by decide) (by decide)) (g := (mkF m 172 #[.val (.int eb'), .val (.int wb'), .val (.int ct'), .val (.int jk'), .val (.int n'), .val (.int m'), .val (.int k'), .val (.int sg'), .val (.int o'), .val (.ref b14), .val (.ref b24), .val (.ref b58), .unset, .unset, .unset, .unset, .unset, .unset, .unset] [(.int wb'), (.int (fe ((0 : Int32)).toNatClampNeg)), (.int n'), (.int (0 : Int32)), (.int ct'), (.int (0 : Int32)), (.ref b58)])) rfl (by rw [hml]; rfl) (argsL := [(.int ct'), (.int (0 : Int32)), (.int n'), (.int (fe ((0 : Int32)).toNatClampNeg)), (.int wb')]) (rest := [(.int (0 : Int32)), (.ref b58)]) (lenOf pd0_0 rfl) rfl (by show 2 * 0 + _ ≤ _; exact Nat.le_of_eq rfl) (hb hby at_172) (fun _ _ => ⟨rfl, e58, (by decide : 3 + 0 ≤ _), (by decide : 12 + 0 ≤ _)⟩)
  dsimp only [Pt.U, Pt.locs, Pt.cells, Pt.slots] at X60 l60 y60 z60 st60 hQ60
  subst l60 y60 z60
  obtain ⟨rfl, N60q, hh60⟩ := hQ60
  have N60 := Fr.app N50 N60q
  obtain ⟨cl17561, Ar17561, S17561, M17561, H17561⟩ := V_b58
  have hin17561 : ¬ ((0 : Int32) < 0 ∨ cl17561.slots.size ≤ ((0 : Int32)).toNatClampNeg) := inb_of S17561 ⟨by decide, by decide⟩
  obtain ⟨T62, h62, X62, e62, W62, st62⟩ := stB X60 hx hZ hh60 Ar17561 (j := (0 : Int32)) hin17561 (g := (mkF m 175 #[.val (.int eb'), .val (.int wb'), .val (.int ct'), .val (.int jk'), .val (.int n'), .val (.int m'), .val (.int k'), .val (.int sg'), .val (.int o'), .val (.ref b14), .val (.ref b24), .val (.ref b58), .unset, .unset, .unset, .unset, .unset, .unset, .unset] [(.int (own_pick ct' (0 : Int32) n' (fe ((0 : Int32)).toNatClampNeg) wb')), (.int (0 : Int32)), (.ref b58)])) rfl rfl (hb hby at_175)
  have V_b14 := V_b14.other W62 ne_b14_b58
  have E_b24 := E_b24.wr W62
  have V_b24 := V_b24.other W62 ne_b24_b58
  have Zs62 : n0 ≤ h62.size := Nat.le_trans Zs58 (Keep.of_wr W62).1
  have hk := Nat.le_trans hk (Keep.of_wr W62).1
  have K62 : Keep h0 h62 [] := K58.wr W62 (Or.inr sz_b58)
  have N62 := Fr.snoc X62 N60 g_b58
  have V_b58 : own_A Z h62 b58 .byte (4 : Int32) (own_upd (fun _ => 0) ((0 : Int32)).toNatClampNeg (nar .byte (own_pick ct' (0 : Int32) n' (fe ((0 : Int32)).toNatClampNeg) wb'))) := own_A.set Ar17561 S17561 M17561 H17561 W62
  obtain ⟨cl18663, Ar18663, S18663, M18663, H18663⟩ := id V_b14
  have hin18663 : ¬ ((1 : Int32) < 0 ∨ cl18663.slots.size ≤ ((1 : Int32)).toNatClampNeg) := inb_of S18663 ⟨by decide, by decide⟩
  have hat18663 := own_A.at S18663 H18663 hin18663
  obtain ⟨_, _, ⟨T64, L64, k64, n64⟩, -, X64, ⟨Lc64, hQ64, l64, y64, z64⟩, st64⟩ := Jvm.LawKit.callS X62 hx (y := (⟨"com/example/bytelace/bytelace/cli/FirstDifferenceOffsetPinLaw", "pick", "(IIIBI)B"⟩ : MethodName)) hown (mvT hZ (hw _ (List.mem_of_getElem? (i := 1) rfl))) (mvT hZ (hw _ (List.mem_of_getElem? (i := 2) rfl))) (mvT hZ (hw _ (List.mem_of_getElem? (i := 3) rfl))) (mvT hZ (hw _ (List.mem_of_getElem? (i := 4) rfl))) (by decide) (backOf (W := 2) (rm1 l Z a0 hw [] ct' (1 : Int32) n' (fe ((1 : Int32)).toNatClampNeg) wb' h62 n0 Zs62 ) hZ (hw _ (List.mem_of_getElem? (i := 4) rfl)) (hw _ (List.mem_of_getElem? (i := 3) rfl)) (by decide) (by decide)) (g := (mkF m 188 #[.val (.int eb'), .val (.int wb'), .val (.int ct'), .val (.int jk'), .val (.int n'), .val (.int m'), .val (.int k'), .val (.int sg'), .val (.int o'), .val (.ref b14), .val (.ref b24), .val (.ref b58), .unset, .unset, .unset, .unset, .unset, .unset, .unset] [(.int wb'), (.int (fe ((1 : Int32)).toNatClampNeg)), (.int n'), (.int (1 : Int32)), (.int ct'), (.int (1 : Int32)), (.ref b58)])) rfl (by rw [hml]; rfl) (argsL := [(.int ct'), (.int (1 : Int32)), (.int n'), (.int (fe ((1 : Int32)).toNatClampNeg)), (.int wb')]) (rest := [(.int (1 : Int32)), (.ref b58)]) (lenOf pd0_0 rfl) rfl (by show 2 * 0 + _ ≤ _; exact Nat.le_of_eq rfl) (hb hby at_188) (fun _ _ => ⟨rfl, e62, (by decide : 3 + 0 ≤ _), (by decide : 12 + 0 ≤ _)⟩)
  dsimp only [Pt.U, Pt.locs, Pt.cells, Pt.slots] at X64 l64 y64 z64 st64 hQ64
  subst l64 y64 z64
  obtain ⟨rfl, N64q, hh64⟩ := hQ64
  have N64 := Fr.app N62 N64q
  obtain ⟨cl19165, Ar19165, S19165, M19165, H19165⟩ := V_b58
  have hin19165 : ¬ ((1 : Int32) < 0 ∨ cl19165.slots.size ≤ ((1 : Int32)).toNatClampNeg) := inb_of S19165 ⟨by decide, by decide⟩
  obtain ⟨T66, h66, X66, e66, W66, st66⟩ := stB X64 hx hZ hh64 Ar19165 (j := (1 : Int32)) hin19165 (g := (mkF m 191 #[.val (.int eb'), .val (.int wb'), .val (.int ct'), .val (.int jk'), .val (.int n'), .val (.int m'), .val (.int k'), .val (.int sg'), .val (.int o'), .val (.ref b14), .val (.ref b24), .val (.ref b58), .unset, .unset, .unset, .unset, .unset, .unset, .unset] [(.int (own_pick ct' (1 : Int32) n' (fe ((1 : Int32)).toNatClampNeg) wb')), (.int (1 : Int32)), (.ref b58)])) rfl rfl (hb hby at_191)
  have V_b14 := V_b14.other W66 ne_b14_b58
  have E_b24 := E_b24.wr W66
  have V_b24 := V_b24.other W66 ne_b24_b58
  have Zs66 : n0 ≤ h66.size := Nat.le_trans Zs62 (Keep.of_wr W66).1
  have hk := Nat.le_trans hk (Keep.of_wr W66).1
  have K66 : Keep h0 h66 [] := K62.wr W66 (Or.inr sz_b58)
  have N66 := Fr.snoc X66 N64 g_b58
  have V_b58 : own_A Z h66 b58 .byte (4 : Int32) (own_upd (own_upd (fun _ => 0) ((0 : Int32)).toNatClampNeg (nar .byte (own_pick ct' (0 : Int32) n' (fe ((0 : Int32)).toNatClampNeg) wb'))) ((1 : Int32)).toNatClampNeg (nar .byte (own_pick ct' (1 : Int32) n' (fe ((1 : Int32)).toNatClampNeg) wb'))) := own_A.set Ar19165 S19165 M19165 H19165 W66
  obtain ⟨cl20267, Ar20267, S20267, M20267, H20267⟩ := id V_b14
  have hin20267 : ¬ ((2 : Int32) < 0 ∨ cl20267.slots.size ≤ ((2 : Int32)).toNatClampNeg) := inb_of S20267 ⟨by decide, by decide⟩
  have hat20267 := own_A.at S20267 H20267 hin20267
  obtain ⟨_, _, ⟨T68, L68, k68, n68⟩, -, X68, ⟨Lc68, hQ68, l68, y68, z68⟩, st68⟩ := Jvm.LawKit.callS X66 hx (y := (⟨"com/example/bytelace/bytelace/cli/FirstDifferenceOffsetPinLaw", "pick", "(IIIBI)B"⟩ : MethodName)) hown (mvT hZ (hw _ (List.mem_of_getElem? (i := 1) rfl))) (mvT hZ (hw _ (List.mem_of_getElem? (i := 2) rfl))) (mvT hZ (hw _ (List.mem_of_getElem? (i := 3) rfl))) (mvT hZ (hw _ (List.mem_of_getElem? (i := 4) rfl))) (by decide) (backOf (W := 2) (rm1 l Z a0 hw [] ct' (2 : Int32) n' (fe ((2 : Int32)).toNatClampNeg) wb' h66 n0 Zs66 ) hZ (hw _ (List.mem_of_getElem? (i := 4) rfl)) (hw _ (List.mem_of_getElem? (i := 3) rfl)) (by decide) (by decide)) (g := (mkF m 204 #[.val (.int eb'), .val (.int wb'), .val (.int ct'), .val (.int jk'), .val (.int n'), .val (.int m'), .val (.int k'), .val (.int sg'), .val (.int o'), .val (.ref b14), .val (.ref b24), .val (.ref b58), .unset, .unset, .unset, .unset, .unset, .unset, .unset] [(.int wb'), (.int (fe ((2 : Int32)).toNatClampNeg)), (.int n'), (.int (2 : Int32)), (.int ct'), (.int (2 : Int32)), (.ref b58)])) rfl (by rw [hml]; rfl) (argsL := [(.int ct'), (.int (2 : Int32)), (.int n'), (.int (fe ((2 : Int32)).toNatClampNeg)), (.int wb')]) (rest := [(.int (2 : Int32)), (.ref b58)]) (lenOf pd0_0 rfl) rfl (by show 2 * 0 + _ ≤ _; exact Nat.le_of_eq rfl) (hb hby at_204) (fun _ _ => ⟨rfl, e66, (by decide : 3 + 0 ≤ _), (by decide : 12 + 0 ≤ _)⟩)
  dsimp only [Pt.U, Pt.locs, Pt.cells, Pt.slots] at X68 l68 y68 z68 st68 hQ68
  subst l68 y68 z68
  obtain ⟨rfl, N68q, hh68⟩ := hQ68
  have N68 := Fr.app N66 N68q
  obtain ⟨cl20769, Ar20769, S20769, M20769, H20769⟩ := V_b58
  have hin20769 : ¬ ((2 : Int32) < 0 ∨ cl20769.slots.size ≤ ((2 : Int32)).toNatClampNeg) := inb_of S20769 ⟨by decide, by decide⟩
  obtain ⟨T70, h70, X70, e70, W70, st70⟩ := stB X68 hx hZ hh68 Ar20769 (j := (2 : Int32)) hin20769 (g := (mkF m 207 #[.val (.int eb'), .val (.int wb'), .val (.int ct'), .val (.int jk'), .val (.int n'), .val (.int m'), .val (.int k'), .val (.int sg'), .val (.int o'), .val (.ref b14), .val (.ref b24), .val (.ref b58), .unset, .unset, .unset, .unset, .unset, .unset, .unset] [(.int (own_pick ct' (2 : Int32) n' (fe ((2 : Int32)).toNatClampNeg) wb')), (.int (2 : Int32)), (.ref b58)])) rfl rfl (hb hby at_207)
  have V_b14 := V_b14.other W70 ne_b14_b58
  have E_b24 := E_b24.wr W70
  have V_b24 := V_b24.other W70 ne_b24_b58
  have Zs70 : n0 ≤ h70.size := Nat.le_trans Zs66 (Keep.of_wr W70).1
  have hk := Nat.le_trans hk (Keep.of_wr W70).1
  have K70 : Keep h0 h70 [] := K66.wr W70 (Or.inr sz_b58)
  have N70 := Fr.snoc X70 N68 g_b58
  have V_b58 : own_A Z h70 b58 .byte (4 : Int32) (own_upd (own_upd (own_upd (fun _ => 0) ((0 : Int32)).toNatClampNeg (nar .byte (own_pick ct' (0 : Int32) n' (fe ((0 : Int32)).toNatClampNeg) wb'))) ((1 : Int32)).toNatClampNeg (nar .byte (own_pick ct' (1 : Int32) n' (fe ((1 : Int32)).toNatClampNeg) wb'))) ((2 : Int32)).toNatClampNeg (nar .byte (own_pick ct' (2 : Int32) n' (fe ((2 : Int32)).toNatClampNeg) wb'))) := own_A.set Ar20769 S20769 M20769 H20769 W70
  obtain ⟨cl21871, Ar21871, S21871, M21871, H21871⟩ := id V_b14
  have hin21871 : ¬ ((3 : Int32) < 0 ∨ cl21871.slots.size ≤ ((3 : Int32)).toNatClampNeg) := inb_of S21871 ⟨by decide, by decide⟩
  have hat21871 := own_A.at S21871 H21871 hin21871
  obtain ⟨_, _, ⟨T72, L72, k72, n72⟩, -, X72, ⟨Lc72, hQ72, l72, y72, z72⟩, st72⟩ := Jvm.LawKit.callS X70 hx (y := (⟨"com/example/bytelace/bytelace/cli/FirstDifferenceOffsetPinLaw", "pick", "(IIIBI)B"⟩ : MethodName)) hown (mvT hZ (hw _ (List.mem_of_getElem? (i := 1) rfl))) (mvT hZ (hw _ (List.mem_of_getElem? (i := 2) rfl))) (mvT hZ (hw _ (List.mem_of_getElem? (i := 3) rfl))) (mvT hZ (hw _ (List.mem_of_getElem? (i := 4) rfl))) (by decide) (backOf (W := 2) (rm1 l Z a0 hw [] ct' (3 : Int32) n' (fe ((3 : Int32)).toNatClampNeg) wb' h70 n0 Zs70 ) hZ (hw _ (List.mem_of_getElem? (i := 4) rfl)) (hw _ (List.mem_of_getElem? (i := 3) rfl)) (by decide) (by decide)) (g := (mkF m 220 #[.val (.int eb'), .val (.int wb'), .val (.int ct'), .val (.int jk'), .val (.int n'), .val (.int m'), .val (.int k'), .val (.int sg'), .val (.int o'), .val (.ref b14), .val (.ref b24), .val (.ref b58), .unset, .unset, .unset, .unset, .unset, .unset, .unset] [(.int wb'), (.int (fe ((3 : Int32)).toNatClampNeg)), (.int n'), (.int (3 : Int32)), (.int ct'), (.int (3 : Int32)), (.ref b58)])) rfl (by rw [hml]; rfl) (argsL := [(.int ct'), (.int (3 : Int32)), (.int n'), (.int (fe ((3 : Int32)).toNatClampNeg)), (.int wb')]) (rest := [(.int (3 : Int32)), (.ref b58)]) (lenOf pd0_0 rfl) rfl (by show 2 * 0 + _ ≤ _; exact Nat.le_of_eq rfl) (hb hby at_220) (fun _ _ => ⟨rfl, e70, (by decide : 3 + 0 ≤ _), (by decide : 12 + 0 ≤ _)⟩)
  dsimp only [Pt.U, Pt.locs, Pt.cells, Pt.slots] at X72 l72 y72 z72 st72 hQ72
  subst l72 y72 z72
  obtain ⟨rfl, N72q, hh72⟩ := hQ72
  have N72 := Fr.app N70 N72q
  obtain ⟨cl22373, Ar22373, S22373, M22373, H22373⟩ := V_b58
  have hin22373 : ¬ ((3 : Int32) < 0 ∨ cl22373.slots.size ≤ ((3 : Int32)).toNatClampNeg) := inb_of S22373 ⟨by decide, by decide⟩
  obtain ⟨T74, h74, X74, e74, W74, st74⟩ := stB X72 hx hZ hh72 Ar22373 (j := (3 : Int32)) hin22373 (g := (mkF m 223 #[.val (.int eb'), .val (.int wb'), .val (.int ct'), .val (.int jk'), .val (.int n'), .val (.int m'), .val (.int k'), .val (.int sg'), .val (.int o'), .val (.ref b14), .val (.ref b24), .val (.ref b58), .unset, .unset, .unset, .unset, .unset, .unset, .unset] [(.int (own_pick ct' (3 : Int32) n' (fe ((3 : Int32)).toNatClampNeg) wb')), (.int (3 : Int32)), (.ref b58)])) rfl rfl (hb hby at_223)
  have V_b14 := V_b14.other W74 ne_b14_b58
  have E_b24 := E_b24.wr W74
  have V_b24 := V_b24.other W74 ne_b24_b58
  have Zs74 : n0 ≤ h74.size := Nat.le_trans Zs70 (Keep.of_wr W74).1
  have hk := Nat.le_trans hk (Keep.of_wr W74).1
  have K74 : Keep h0 h74 [] := K70.wr W74 (Or.inr sz_b58)
  have N74 := Fr.snoc X74 N72 g_b58
  have V_b58 : own_A Z h74 b58 .byte (4 : Int32) (own_upd (own_upd (own_upd (own_upd (fun _ => 0) ((0 : Int32)).toNatClampNeg (nar .byte (own_pick ct' (0 : Int32) n' (fe ((0 : Int32)).toNatClampNeg) wb'))) ((1 : Int32)).toNatClampNeg (nar .byte (own_pick ct' (1 : Int32) n' (fe ((1 : Int32)).toNatClampNeg) wb'))) ((2 : Int32)).toNatClampNeg (nar .byte (own_pick ct' (2 : Int32) n' (fe ((2 : Int32)).toNatClampNeg) wb'))) ((3 : Int32)).toNatClampNeg (nar .byte (own_pick ct' (3 : Int32) n' (fe ((3 : Int32)).toNatClampNeg) wb'))) := own_A.set Ar22373 S22373 M22373 H22373 W74
  have pre75 : ∀ t, Steps p.tables e below (T74.setTop (mkF m 224 #[.val (.int eb'), .val (.int wb'), .val (.int ct'), .val (.int jk'), .val (.int n'), .val (.int m'), .val (.int k'), .val (.int sg'), .val (.int o'), .val (.ref b14), .val (.ref b24), .val (.ref b58), .unset, .unset, .unset, .unset, .unset, .unset, .unset] [])) t → Steps p.tables e below (s₁.setTop (entryFrame m #[(.int eb'), (.int wb'), (.int ct'), (.int jk')] maxLocals)) t := by
    intro t kt
    refine pre50 t ?_
    show Steps p.tables e below (T50.setTop (mkF m 155 #[.val (.int eb'), .val (.int wb'), .val (.int ct'), .val (.int jk'), .val (.int n'), .val (.int m'), .val (.int k'), .val (.int sg'), .val (.int o'), .val (.ref b14), .val (.ref b24), .unset, .unset, .unset, .unset, .unset, .unset, .unset, .unset] [])) _
    refine XS.iconst X50.here hx rfl (hb hby at_155) ?_
    show Steps p.tables e below (T50.setTop (mkF m 156 #[.val (.int eb'), .val (.int wb'), .val (.int ct'), .val (.int jk'), .val (.int n'), .val (.int m'), .val (.int k'), .val (.int sg'), .val (.int o'), .val (.ref b14), .val (.ref b24), .unset, .unset, .unset, .unset, .unset, .unset, .unset, .unset] [(.int (4 : Int32))])) _
    refine st58 _ ?_
    show Steps p.tables e below (T58.setTop (mkF m 158 #[.val (.int eb'), .val (.int wb'), .val (.int ct'), .val (.int jk'), .val (.int n'), .val (.int m'), .val (.int k'), .val (.int sg'), .val (.int o'), .val (.ref b14), .val (.ref b24), .unset, .unset, .unset, .unset, .unset, .unset, .unset, .unset] [(.ref b58)])) _
    refine XS.astore X58.here hx rfl (hb hby at_158) rfl rfl (l' := #[.val (.int eb'), .val (.int wb'), .val (.int ct'), .val (.int jk'), .val (.int n'), .val (.int m'), .val (.int k'), .val (.int sg'), .val (.int o'), .val (.ref b14), .val (.ref b24), .val (.ref b58), .unset, .unset, .unset, .unset, .unset, .unset, .unset]) rfl ?_
    show Steps p.tables e below (T58.setTop (mkF m 160 #[.val (.int eb'), .val (.int wb'), .val (.int ct'), .val (.int jk'), .val (.int n'), .val (.int m'), .val (.int k'), .val (.int sg'), .val (.int o'), .val (.ref b14), .val (.ref b24), .val (.ref b58), .unset, .unset, .unset, .unset, .unset, .unset, .unset] [])) _
    refine XS.aload X58.here hx rfl (hb hby at_160) rfl rfl ?_
    show Steps p.tables e below (T58.setTop (mkF m 162 #[.val (.int eb'), .val (.int wb'), .val (.int ct'), .val (.int jk'), .val (.int n'), .val (.int m'), .val (.int k'), .val (.int sg'), .val (.int o'), .val (.ref b14), .val (.ref b24), .val (.ref b58), .unset, .unset, .unset, .unset, .unset, .unset, .unset] [(.ref b58)])) _
    refine XS.iconst X58.here hx rfl (hb hby at_162) ?_
    show Steps p.tables e below (T58.setTop (mkF m 163 #[.val (.int eb'), .val (.int wb'), .val (.int ct'), .val (.int jk'), .val (.int n'), .val (.int m'), .val (.int k'), .val (.int sg'), .val (.int o'), .val (.ref b14), .val (.ref b24), .val (.ref b58), .unset, .unset, .unset, .unset, .unset, .unset, .unset] [(.int (0 : Int32)), (.ref b58)])) _
    refine XS.iloadN X58.here hx rfl (hb hby at_163) rfl ?_
    show Steps p.tables e below (T58.setTop (mkF m 164 #[.val (.int eb'), .val (.int wb'), .val (.int ct'), .val (.int jk'), .val (.int n'), .val (.int m'), .val (.int k'), .val (.int sg'), .val (.int o'), .val (.ref b14), .val (.ref b24), .val (.ref b58), .unset, .unset, .unset, .unset, .unset, .unset, .unset] [(.int ct'), (.int (0 : Int32)), (.ref b58)])) _
    refine XS.iconst X58.here hx rfl (hb hby at_164) ?_
    show Steps p.tables e below (T58.setTop (mkF m 165 #[.val (.int eb'), .val (.int wb'), .val (.int ct'), .val (.int jk'), .val (.int n'), .val (.int m'), .val (.int k'), .val (.int sg'), .val (.int o'), .val (.ref b14), .val (.ref b24), .val (.ref b58), .unset, .unset, .unset, .unset, .unset, .unset, .unset] [(.int (0 : Int32)), (.int ct'), (.int (0 : Int32)), (.ref b58)])) _
    refine XS.iload X58.here hx rfl (hb hby at_165) rfl ?_
    show Steps p.tables e below (T58.setTop (mkF m 167 #[.val (.int eb'), .val (.int wb'), .val (.int ct'), .val (.int jk'), .val (.int n'), .val (.int m'), .val (.int k'), .val (.int sg'), .val (.int o'), .val (.ref b14), .val (.ref b24), .val (.ref b58), .unset, .unset, .unset, .unset, .unset, .unset, .unset] [(.int n'), (.int (0 : Int32)), (.int ct'), (.int (0 : Int32)), (.ref b58)])) _
    refine XS.aload X58.here hx rfl (hb hby at_167) rfl rfl ?_
    show Steps p.tables e below (T58.setTop (mkF m 169 #[.val (.int eb'), .val (.int wb'), .val (.int ct'), .val (.int jk'), .val (.int n'), .val (.int m'), .val (.int k'), .val (.int sg'), .val (.int o'), .val (.ref b14), .val (.ref b24), .val (.ref b58), .unset, .unset, .unset, .unset, .unset, .unset, .unset] [(.ref b14), (.int n'), (.int (0 : Int32)), (.int ct'), (.int (0 : Int32)), (.ref b58)])) _
    refine XS.iconst X58.here hx rfl (hb hby at_169) ?_
    show Steps p.tables e below (T58.setTop (mkF m 170 #[.val (.int eb'), .val (.int wb'), .val (.int ct'), .val (.int jk'), .val (.int n'), .val (.int m'), .val (.int k'), .val (.int sg'), .val (.int o'), .val (.ref b14), .val (.ref b24), .val (.ref b58), .unset, .unset, .unset, .unset, .unset, .unset, .unset] [(.int (0 : Int32)), (.ref b14), (.int n'), (.int (0 : Int32)), (.int ct'), (.int (0 : Int32)), (.ref b58)])) _
    refine X58.baloadBytes hx (j := (0 : Int32)) (v := (.int (fe ((0 : Int32)).toNatClampNeg))) (by rw [e58]; exact Ar17059.1) (State.isArrayOf_alike hZ.alike Ar17059.2.1) Ar17059.2.2 hin17059 hat17059 (g := (mkF m 170 #[.val (.int eb'), .val (.int wb'), .val (.int ct'), .val (.int jk'), .val (.int n'), .val (.int m'), .val (.int k'), .val (.int sg'), .val (.int o'), .val (.ref b14), .val (.ref b24), .val (.ref b58), .unset, .unset, .unset, .unset, .unset, .unset, .unset] [(.int (0 : Int32)), (.ref b14), (.int n'), (.int (0 : Int32)), (.int ct'), (.int (0 : Int32)), (.ref b58)])) rfl rfl (hb hby at_170) _ ?_
    show Steps p.tables e below (T58.setTop (mkF m 171 #[.val (.int eb'), .val (.int wb'), .val (.int ct'), .val (.int jk'), .val (.int n'), .val (.int m'), .val (.int k'), .val (.int sg'), .val (.int o'), .val (.ref b14), .val (.ref b24), .val (.ref b58), .unset, .unset, .unset, .unset, .unset, .unset, .unset] [(.int (fe ((0 : Int32)).toNatClampNeg)), (.int n'), (.int (0 : Int32)), (.int ct'), (.int (0 : Int32)), (.ref b58)])) _
    refine XS.iloadN X58.here hx rfl (hb hby at_171) rfl ?_
    show Steps p.tables e below (T58.setTop (mkF m 172 #[.val (.int eb'), .val (.int wb'), .val (.int ct'), .val (.int jk'), .val (.int n'), .val (.int m'), .val (.int k'), .val (.int sg'), .val (.int o'), .val (.ref b14), .val (.ref b24), .val (.ref b58), .unset, .unset, .unset, .unset, .unset, .unset, .unset] [(.int wb'), (.int (fe ((0 : Int32)).toNatClampNeg)), (.int n'), (.int (0 : Int32)), (.int ct'), (.int (0 : Int32)), (.ref b58)])) _
    refine st60 _ ?_
    show Steps p.tables e below (T60.setTop (mkF m 175 #[.val (.int eb'), .val (.int wb'), .val (.int ct'), .val (.int jk'), .val (.int n'), .val (.int m'), .val (.int k'), .val (.int sg'), .val (.int o'), .val (.ref b14), .val (.ref b24), .val (.ref b58), .unset, .unset, .unset, .unset, .unset, .unset, .unset] [(.int (own_pick ct' (0 : Int32) n' (fe ((0 : Int32)).toNatClampNeg) wb')), (.int (0 : Int32)), (.ref b58)])) _
    refine st62 _ ?_
    show Steps p.tables e below (T62.setTop (mkF m 176 #[.val (.int eb'), .val (.int wb'), .val (.int ct'), .val (.int jk'), .val (.int n'), .val (.int m'), .val (.int k'), .val (.int sg'), .val (.int o'), .val (.ref b14), .val (.ref b24), .val (.ref b58), .unset, .unset, .unset, .unset, .unset, .unset, .unset] [])) _
    refine XS.aload X62.here hx rfl (hb hby at_176) rfl rfl ?_
    show Steps p.tables e below (T62.setTop (mkF m 178 #[.val (.int eb'), .val (.int wb'), .val (.int ct'), .val (.int jk'), .val (.int n'), .val (.int m'), .val (.int k'), .val (.int sg'), .val (.int o'), .val (.ref b14), .val (.ref b24), .val (.ref b58), .unset, .unset, .unset, .unset, .unset, .unset, .unset] [(.ref b58)])) _
    refine XS.iconst X62.here hx rfl (hb hby at_178) ?_
    show Steps p.tables e below (T62.setTop (mkF m 179 #[.val (.int eb'), .val (.int wb'), .val (.int ct'), .val (.int jk'), .val (.int n'), .val (.int m'), .val (.int k'), .val (.int sg'), .val (.int o'), .val (.ref b14), .val (.ref b24), .val (.ref b58), .unset, .unset, .unset, .unset, .unset, .unset, .unset] [(.int (1 : Int32)), (.ref b58)])) _
    refine XS.iloadN X62.here hx rfl (hb hby at_179) rfl ?_
    show Steps p.tables e below (T62.setTop (mkF m 180 #[.val (.int eb'), .val (.int wb'), .val (.int ct'), .val (.int jk'), .val (.int n'), .val (.int m'), .val (.int k'), .val (.int sg'), .val (.int o'), .val (.ref b14), .val (.ref b24), .val (.ref b58), .unset, .unset, .unset, .unset, .unset, .unset, .unset] [(.int ct'), (.int (1 : Int32)), (.ref b58)])) _
    refine XS.iconst X62.here hx rfl (hb hby at_180) ?_
    show Steps p.tables e below (T62.setTop (mkF m 181 #[.val (.int eb'), .val (.int wb'), .val (.int ct'), .val (.int jk'), .val (.int n'), .val (.int m'), .val (.int k'), .val (.int sg'), .val (.int o'), .val (.ref b14), .val (.ref b24), .val (.ref b58), .unset, .unset, .unset, .unset, .unset, .unset, .unset] [(.int (1 : Int32)), (.int ct'), (.int (1 : Int32)), (.ref b58)])) _
    refine XS.iload X62.here hx rfl (hb hby at_181) rfl ?_
    show Steps p.tables e below (T62.setTop (mkF m 183 #[.val (.int eb'), .val (.int wb'), .val (.int ct'), .val (.int jk'), .val (.int n'), .val (.int m'), .val (.int k'), .val (.int sg'), .val (.int o'), .val (.ref b14), .val (.ref b24), .val (.ref b58), .unset, .unset, .unset, .unset, .unset, .unset, .unset] [(.int n'), (.int (1 : Int32)), (.int ct'), (.int (1 : Int32)), (.ref b58)])) _
    refine XS.aload X62.here hx rfl (hb hby at_183) rfl rfl ?_
    show Steps p.tables e below (T62.setTop (mkF m 185 #[.val (.int eb'), .val (.int wb'), .val (.int ct'), .val (.int jk'), .val (.int n'), .val (.int m'), .val (.int k'), .val (.int sg'), .val (.int o'), .val (.ref b14), .val (.ref b24), .val (.ref b58), .unset, .unset, .unset, .unset, .unset, .unset, .unset] [(.ref b14), (.int n'), (.int (1 : Int32)), (.int ct'), (.int (1 : Int32)), (.ref b58)])) _
    refine XS.iconst X62.here hx rfl (hb hby at_185) ?_
    show Steps p.tables e below (T62.setTop (mkF m 186 #[.val (.int eb'), .val (.int wb'), .val (.int ct'), .val (.int jk'), .val (.int n'), .val (.int m'), .val (.int k'), .val (.int sg'), .val (.int o'), .val (.ref b14), .val (.ref b24), .val (.ref b58), .unset, .unset, .unset, .unset, .unset, .unset, .unset] [(.int (1 : Int32)), (.ref b14), (.int n'), (.int (1 : Int32)), (.int ct'), (.int (1 : Int32)), (.ref b58)])) _
    refine X62.baloadBytes hx (j := (1 : Int32)) (v := (.int (fe ((1 : Int32)).toNatClampNeg))) (by rw [e62]; exact Ar18663.1) (State.isArrayOf_alike hZ.alike Ar18663.2.1) Ar18663.2.2 hin18663 hat18663 (g := (mkF m 186 #[.val (.int eb'), .val (.int wb'), .val (.int ct'), .val (.int jk'), .val (.int n'), .val (.int m'), .val (.int k'), .val (.int sg'), .val (.int o'), .val (.ref b14), .val (.ref b24), .val (.ref b58), .unset, .unset, .unset, .unset, .unset, .unset, .unset] [(.int (1 : Int32)), (.ref b14), (.int n'), (.int (1 : Int32)), (.int ct'), (.int (1 : Int32)), (.ref b58)])) rfl rfl (hb hby at_186) _ ?_
    show Steps p.tables e below (T62.setTop (mkF m 187 #[.val (.int eb'), .val (.int wb'), .val (.int ct'), .val (.int jk'), .val (.int n'), .val (.int m'), .val (.int k'), .val (.int sg'), .val (.int o'), .val (.ref b14), .val (.ref b24), .val (.ref b58), .unset, .unset, .unset, .unset, .unset, .unset, .unset] [(.int (fe ((1 : Int32)).toNatClampNeg)), (.int n'), (.int (1 : Int32)), (.int ct'), (.int (1 : Int32)), (.ref b58)])) _
    refine XS.iloadN X62.here hx rfl (hb hby at_187) rfl ?_
    show Steps p.tables e below (T62.setTop (mkF m 188 #[.val (.int eb'), .val (.int wb'), .val (.int ct'), .val (.int jk'), .val (.int n'), .val (.int m'), .val (.int k'), .val (.int sg'), .val (.int o'), .val (.ref b14), .val (.ref b24), .val (.ref b58), .unset, .unset, .unset, .unset, .unset, .unset, .unset] [(.int wb'), (.int (fe ((1 : Int32)).toNatClampNeg)), (.int n'), (.int (1 : Int32)), (.int ct'), (.int (1 : Int32)), (.ref b58)])) _
    refine st64 _ ?_
    show Steps p.tables e below (T64.setTop (mkF m 191 #[.val (.int eb'), .val (.int wb'), .val (.int ct'), .val (.int jk'), .val (.int n'), .val (.int m'), .val (.int k'), .val (.int sg'), .val (.int o'), .val (.ref b14), .val (.ref b24), .val (.ref b58), .unset, .unset, .unset, .unset, .unset, .unset, .unset] [(.int (own_pick ct' (1 : Int32) n' (fe ((1 : Int32)).toNatClampNeg) wb')), (.int (1 : Int32)), (.ref b58)])) _
    refine st66 _ ?_
    show Steps p.tables e below (T66.setTop (mkF m 192 #[.val (.int eb'), .val (.int wb'), .val (.int ct'), .val (.int jk'), .val (.int n'), .val (.int m'), .val (.int k'), .val (.int sg'), .val (.int o'), .val (.ref b14), .val (.ref b24), .val (.ref b58), .unset, .unset, .unset, .unset, .unset, .unset, .unset] [])) _
    refine XS.aload X66.here hx rfl (hb hby at_192) rfl rfl ?_
    show Steps p.tables e below (T66.setTop (mkF m 194 #[.val (.int eb'), .val (.int wb'), .val (.int ct'), .val (.int jk'), .val (.int n'), .val (.int m'), .val (.int k'), .val (.int sg'), .val (.int o'), .val (.ref b14), .val (.ref b24), .val (.ref b58), .unset, .unset, .unset, .unset, .unset, .unset, .unset] [(.ref b58)])) _
    refine XS.iconst X66.here hx rfl (hb hby at_194) ?_
    show Steps p.tables e below (T66.setTop (mkF m 195 #[.val (.int eb'), .val (.int wb'), .val (.int ct'), .val (.int jk'), .val (.int n'), .val (.int m'), .val (.int k'), .val (.int sg'), .val (.int o'), .val (.ref b14), .val (.ref b24), .val (.ref b58), .unset, .unset, .unset, .unset, .unset, .unset, .unset] [(.int (2 : Int32)), (.ref b58)])) _
    refine XS.iloadN X66.here hx rfl (hb hby at_195) rfl ?_
    show Steps p.tables e below (T66.setTop (mkF m 196 #[.val (.int eb'), .val (.int wb'), .val (.int ct'), .val (.int jk'), .val (.int n'), .val (.int m'), .val (.int k'), .val (.int sg'), .val (.int o'), .val (.ref b14), .val (.ref b24), .val (.ref b58), .unset, .unset, .unset, .unset, .unset, .unset, .unset] [(.int ct'), (.int (2 : Int32)), (.ref b58)])) _
    refine XS.iconst X66.here hx rfl (hb hby at_196) ?_
    show Steps p.tables e below (T66.setTop (mkF m 197 #[.val (.int eb'), .val (.int wb'), .val (.int ct'), .val (.int jk'), .val (.int n'), .val (.int m'), .val (.int k'), .val (.int sg'), .val (.int o'), .val (.ref b14), .val (.ref b24), .val (.ref b58), .unset, .unset, .unset, .unset, .unset, .unset, .unset] [(.int (2 : Int32)), (.int ct'), (.int (2 : Int32)), (.ref b58)])) _
    refine XS.iload X66.here hx rfl (hb hby at_197) rfl ?_
    show Steps p.tables e below (T66.setTop (mkF m 199 #[.val (.int eb'), .val (.int wb'), .val (.int ct'), .val (.int jk'), .val (.int n'), .val (.int m'), .val (.int k'), .val (.int sg'), .val (.int o'), .val (.ref b14), .val (.ref b24), .val (.ref b58), .unset, .unset, .unset, .unset, .unset, .unset, .unset] [(.int n'), (.int (2 : Int32)), (.int ct'), (.int (2 : Int32)), (.ref b58)])) _
    refine XS.aload X66.here hx rfl (hb hby at_199) rfl rfl ?_
    show Steps p.tables e below (T66.setTop (mkF m 201 #[.val (.int eb'), .val (.int wb'), .val (.int ct'), .val (.int jk'), .val (.int n'), .val (.int m'), .val (.int k'), .val (.int sg'), .val (.int o'), .val (.ref b14), .val (.ref b24), .val (.ref b58), .unset, .unset, .unset, .unset, .unset, .unset, .unset] [(.ref b14), (.int n'), (.int (2 : Int32)), (.int ct'), (.int (2 : Int32)), (.ref b58)])) _
    refine XS.iconst X66.here hx rfl (hb hby at_201) ?_
    show Steps p.tables e below (T66.setTop (mkF m 202 #[.val (.int eb'), .val (.int wb'), .val (.int ct'), .val (.int jk'), .val (.int n'), .val (.int m'), .val (.int k'), .val (.int sg'), .val (.int o'), .val (.ref b14), .val (.ref b24), .val (.ref b58), .unset, .unset, .unset, .unset, .unset, .unset, .unset] [(.int (2 : Int32)), (.ref b14), (.int n'), (.int (2 : Int32)), (.int ct'), (.int (2 : Int32)), (.ref b58)])) _
    refine X66.baloadBytes hx (j := (2 : Int32)) (v := (.int (fe ((2 : Int32)).toNatClampNeg))) (by rw [e66]; exact Ar20267.1) (State.isArrayOf_alike hZ.alike Ar20267.2.1) Ar20267.2.2 hin20267 hat20267 (g := (mkF m 202 #[.val (.int eb'), .val (.int wb'), .val (.int ct'), .val (.int jk'), .val (.int n'), .val (.int m'), .val (.int k'), .val (.int sg'), .val (.int o'), .val (.ref b14), .val (.ref b24), .val (.ref b58), .unset, .unset, .unset, .unset, .unset, .unset, .unset] [(.int (2 : Int32)), (.ref b14), (.int n'), (.int (2 : Int32)), (.int ct'), (.int (2 : Int32)), (.ref b58)])) rfl rfl (hb hby at_202) _ ?_
    show Steps p.tables e below (T66.setTop (mkF m 203 #[.val (.int eb'), .val (.int wb'), .val (.int ct'), .val (.int jk'), .val (.int n'), .val (.int m'), .val (.int k'), .val (.int sg'), .val (.int o'), .val (.ref b14), .val (.ref b24), .val (.ref b58), .unset, .unset, .unset, .unset, .unset, .unset, .unset] [(.int (fe ((2 : Int32)).toNatClampNeg)), (.int n'), (.int (2 : Int32)), (.int ct'), (.int (2 : Int32)), (.ref b58)])) _
    refine XS.iloadN X66.here hx rfl (hb hby at_203) rfl ?_
    show Steps p.tables e below (T66.setTop (mkF m 204 #[.val (.int eb'), .val (.int wb'), .val (.int ct'), .val (.int jk'), .val (.int n'), .val (.int m'), .val (.int k'), .val (.int sg'), .val (.int o'), .val (.ref b14), .val (.ref b24), .val (.ref b58), .unset, .unset, .unset, .unset, .unset, .unset, .unset] [(.int wb'), (.int (fe ((2 : Int32)).toNatClampNeg)), (.int n'), (.int (2 : Int32)), (.int ct'), (.int (2 : Int32)), (.ref b58)])) _
    refine st68 _ ?_
    show Steps p.tables e below (T68.setTop (mkF m 207 #[.val (.int eb'), .val (.int wb'), .val (.int ct'), .val (.int jk'), .val (.int n'), .val (.int m'), .val (.int k'), .val (.int sg'), .val (.int o'), .val (.ref b14), .val (.ref b24), .val (.ref b58), .unset, .unset, .unset, .unset, .unset, .unset, .unset] [(.int (own_pick ct' (2 : Int32) n' (fe ((2 : Int32)).toNatClampNeg) wb')), (.int (2 : Int32)), (.ref b58)])) _
    refine st70 _ ?_
    show Steps p.tables e below (T70.setTop (mkF m 208 #[.val (.int eb'), .val (.int wb'), .val (.int ct'), .val (.int jk'), .val (.int n'), .val (.int m'), .val (.int k'), .val (.int sg'), .val (.int o'), .val (.ref b14), .val (.ref b24), .val (.ref b58), .unset, .unset, .unset, .unset, .unset, .unset, .unset] [])) _
    refine XS.aload X70.here hx rfl (hb hby at_208) rfl rfl ?_
    show Steps p.tables e below (T70.setTop (mkF m 210 #[.val (.int eb'), .val (.int wb'), .val (.int ct'), .val (.int jk'), .val (.int n'), .val (.int m'), .val (.int k'), .val (.int sg'), .val (.int o'), .val (.ref b14), .val (.ref b24), .val (.ref b58), .unset, .unset, .unset, .unset, .unset, .unset, .unset] [(.ref b58)])) _
    refine XS.iconst X70.here hx rfl (hb hby at_210) ?_
    show Steps p.tables e below (T70.setTop (mkF m 211 #[.val (.int eb'), .val (.int wb'), .val (.int ct'), .val (.int jk'), .val (.int n'), .val (.int m'), .val (.int k'), .val (.int sg'), .val (.int o'), .val (.ref b14), .val (.ref b24), .val (.ref b58), .unset, .unset, .unset, .unset, .unset, .unset, .unset] [(.int (3 : Int32)), (.ref b58)])) _
    refine XS.iloadN X70.here hx rfl (hb hby at_211) rfl ?_
    show Steps p.tables e below (T70.setTop (mkF m 212 #[.val (.int eb'), .val (.int wb'), .val (.int ct'), .val (.int jk'), .val (.int n'), .val (.int m'), .val (.int k'), .val (.int sg'), .val (.int o'), .val (.ref b14), .val (.ref b24), .val (.ref b58), .unset, .unset, .unset, .unset, .unset, .unset, .unset] [(.int ct'), (.int (3 : Int32)), (.ref b58)])) _
    refine XS.iconst X70.here hx rfl (hb hby at_212) ?_
    show Steps p.tables e below (T70.setTop (mkF m 213 #[.val (.int eb'), .val (.int wb'), .val (.int ct'), .val (.int jk'), .val (.int n'), .val (.int m'), .val (.int k'), .val (.int sg'), .val (.int o'), .val (.ref b14), .val (.ref b24), .val (.ref b58), .unset, .unset, .unset, .unset, .unset, .unset, .unset] [(.int (3 : Int32)), (.int ct'), (.int (3 : Int32)), (.ref b58)])) _
    refine XS.iload X70.here hx rfl (hb hby at_213) rfl ?_
    show Steps p.tables e below (T70.setTop (mkF m 215 #[.val (.int eb'), .val (.int wb'), .val (.int ct'), .val (.int jk'), .val (.int n'), .val (.int m'), .val (.int k'), .val (.int sg'), .val (.int o'), .val (.ref b14), .val (.ref b24), .val (.ref b58), .unset, .unset, .unset, .unset, .unset, .unset, .unset] [(.int n'), (.int (3 : Int32)), (.int ct'), (.int (3 : Int32)), (.ref b58)])) _
    refine XS.aload X70.here hx rfl (hb hby at_215) rfl rfl ?_
    show Steps p.tables e below (T70.setTop (mkF m 217 #[.val (.int eb'), .val (.int wb'), .val (.int ct'), .val (.int jk'), .val (.int n'), .val (.int m'), .val (.int k'), .val (.int sg'), .val (.int o'), .val (.ref b14), .val (.ref b24), .val (.ref b58), .unset, .unset, .unset, .unset, .unset, .unset, .unset] [(.ref b14), (.int n'), (.int (3 : Int32)), (.int ct'), (.int (3 : Int32)), (.ref b58)])) _
    refine XS.iconst X70.here hx rfl (hb hby at_217) ?_
    show Steps p.tables e below (T70.setTop (mkF m 218 #[.val (.int eb'), .val (.int wb'), .val (.int ct'), .val (.int jk'), .val (.int n'), .val (.int m'), .val (.int k'), .val (.int sg'), .val (.int o'), .val (.ref b14), .val (.ref b24), .val (.ref b58), .unset, .unset, .unset, .unset, .unset, .unset, .unset] [(.int (3 : Int32)), (.ref b14), (.int n'), (.int (3 : Int32)), (.int ct'), (.int (3 : Int32)), (.ref b58)])) _
    refine X70.baloadBytes hx (j := (3 : Int32)) (v := (.int (fe ((3 : Int32)).toNatClampNeg))) (by rw [e70]; exact Ar21871.1) (State.isArrayOf_alike hZ.alike Ar21871.2.1) Ar21871.2.2 hin21871 hat21871 (g := (mkF m 218 #[.val (.int eb'), .val (.int wb'), .val (.int ct'), .val (.int jk'), .val (.int n'), .val (.int m'), .val (.int k'), .val (.int sg'), .val (.int o'), .val (.ref b14), .val (.ref b24), .val (.ref b58), .unset, .unset, .unset, .unset, .unset, .unset, .unset] [(.int (3 : Int32)), (.ref b14), (.int n'), (.int (3 : Int32)), (.int ct'), (.int (3 : Int32)), (.ref b58)])) rfl rfl (hb hby at_218) _ ?_
    show Steps p.tables e below (T70.setTop (mkF m 219 #[.val (.int eb'), .val (.int wb'), .val (.int ct'), .val (.int jk'), .val (.int n'), .val (.int m'), .val (.int k'), .val (.int sg'), .val (.int o'), .val (.ref b14), .val (.ref b24), .val (.ref b58), .unset, .unset, .unset, .unset, .unset, .unset, .unset] [(.int (fe ((3 : Int32)).toNatClampNeg)), (.int n'), (.int (3 : Int32)), (.int ct'), (.int (3 : Int32)), (.ref b58)])) _
    refine XS.iloadN X70.here hx rfl (hb hby at_219) rfl ?_
    show Steps p.tables e below (T70.setTop (mkF m 220 #[.val (.int eb'), .val (.int wb'), .val (.int ct'), .val (.int jk'), .val (.int n'), .val (.int m'), .val (.int k'), .val (.int sg'), .val (.int o'), .val (.ref b14), .val (.ref b24), .val (.ref b58), .unset, .unset, .unset, .unset, .unset, .unset, .unset] [(.int wb'), (.int (fe ((3 : Int32)).toNatClampNeg)), (.int n'), (.int (3 : Int32)), (.int ct'), (.int (3 : Int32)), (.ref b58)])) _
    refine st72 _ ?_
    show Steps p.tables e below (T72.setTop (mkF m 223 #[.val (.int eb'), .val (.int wb'), .val (.int ct'), .val (.int jk'), .val (.int n'), .val (.int m'), .val (.int k'), .val (.int sg'), .val (.int o'), .val (.ref b14), .val (.ref b24), .val (.ref b58), .unset, .unset, .unset, .unset, .unset, .unset, .unset] [(.int (own_pick ct' (3 : Int32) n' (fe ((3 : Int32)).toNatClampNeg) wb')), (.int (3 : Int32)), (.ref b58)])) _
    refine st74 _ ?_
    exact kt
  obtain ⟨fw, h_fw⟩ : ∃ f : Nat → Int32, f = (own_upd (own_upd (own_upd (own_upd (fun _ => 0) ((0 : Int32)).toNatClampNeg (nar .byte (own_pick ct' (0 : Int32) n' (fe ((0 : Int32)).toNatClampNeg) wb'))) ((1 : Int32)).toNatClampNeg (nar .byte (own_pick ct' (1 : Int32) n' (fe ((1 : Int32)).toNatClampNeg) wb'))) ((2 : Int32)).toNatClampNeg (nar .byte (own_pick ct' (2 : Int32) n' (fe ((2 : Int32)).toNatClampNeg) wb'))) ((3 : Int32)).toNatClampNeg (nar .byte (own_pick ct' (3 : Int32) n' (fe ((3 : Int32)).toNatClampNeg) wb'))) := ⟨_, rfl⟩
  rw [← h_fw] at V_b58
  have hfw : ∀ i, nar .byte (fw i) = fw i := by rw [h_fw]; exact own_bk (own_bk (own_bk (own_bk own_b00 _ _) _ _) _ _) _ _
  obtain ⟨T76, h76, k76, X76, e76, E76, A76, st76⟩ := newP X74 hx hZ (hw _ (List.mem_of_getElem? (i := 0) rfl)) e74 (g := (mkF m 226 #[.val (.int eb'), .val (.int wb'), .val (.int ct'), .val (.int jk'), .val (.int n'), .val (.int m'), .val (.int k'), .val (.int sg'), .val (.int o'), .val (.ref b14), .val (.ref b24), .val (.ref b58), .unset, .unset, .unset, .unset, .unset, .unset, .unset] [(.int (6 : Int32))])) rfl (hb hby at_226) rfl (by decide) (cap := 6) (by decide) (by decide) (by decide) (by decide)
  obtain ⟨b76, g76⟩ : ∃ z, z = h74.size := ⟨_, rfl⟩
  rw [← g76] at A76 st76
  have g_b76 : n0 ≤ b76 := Nat.le_trans Zs74 (Nat.le_of_eq g76.symm)
  have sz_b76 : h0.size ≤ b76 := Nat.le_trans K74.1 (Nat.le_of_eq g76.symm)
  have ne_b14_b76 : b14 ≠ b76 := Nat.ne_of_lt (Nat.lt_of_lt_of_le V_b14.lt (Nat.le_of_eq g76.symm))
  have ne_b24_b76 : b24 ≠ b76 := Nat.ne_of_lt (Nat.lt_of_lt_of_le E_b24.lt (Nat.le_of_eq g76.symm))
  have ne_b58_b76 : b58 ≠ b76 := Nat.ne_of_lt (Nat.lt_of_lt_of_le V_b58.lt (Nat.le_of_eq g76.symm))
  have V_b14 := V_b14.ext E76
  have E_b24 := E_b24.ext E76
  have V_b24 := V_b24.ext E76
  have V_b58 := V_b58.ext E76
  have Zs76 : n0 ≤ h76.size := Nat.le_trans Zs74 E76.1
  have hk := Nat.le_trans hk E76.1
  have K76 : Keep h0 h76 [] := K74.ext E76
  have V_b76 : own_A Z h76 b76 .byte (6 : Int32) (fun _ => 0) := own_A.new A76 (by decide) rfl
  obtain ⟨cl23777, Ar23777, S23777, M23777, H23777⟩ := id V_b58
  have hin23777 : ¬ ((0 : Int32) < 0 ∨ cl23777.slots.size ≤ ((0 : Int32)).toNatClampNeg) := inb_of S23777 ⟨by decide, by decide⟩
  have hat23777 := own_A.at S23777 H23777 hin23777
  obtain ⟨cl23878, Ar23878, S23878, M23878, H23878⟩ := V_b76
  have hin23878 : ¬ (o' < 0 ∨ cl23878.slots.size ≤ (o').toNatClampNeg) := inb_of S23878 (own_b0 ho)
  obtain ⟨T79, h79, X79, e79, W79, st79⟩ := stB X76 hx hZ e76 Ar23878 (j := o') hin23878 (g := (mkF m 238 #[.val (.int eb'), .val (.int wb'), .val (.int ct'), .val (.int jk'), .val (.int n'), .val (.int m'), .val (.int k'), .val (.int sg'), .val (.int o'), .val (.ref b14), .val (.ref b24), .val (.ref b58), .val (.ref b76), .unset, .unset, .unset, .unset, .unset, .unset] [(.int (fw ((0 : Int32)).toNatClampNeg)), (.int o'), (.ref b76)])) rfl rfl (hb hby at_238)
  have V_b14 := V_b14.other W79 ne_b14_b76
  have E_b24 := E_b24.wr W79
  have V_b24 := V_b24.other W79 ne_b24_b76
  have V_b58 := V_b58.other W79 ne_b58_b76
  have Zs79 : n0 ≤ h79.size := Nat.le_trans Zs76 (Keep.of_wr W79).1
  have hk := Nat.le_trans hk (Keep.of_wr W79).1
  have K79 : Keep h0 h79 [] := K76.wr W79 (Or.inr sz_b76)
  have N79 := Fr.snoc X79 N74 g_b76
  have V_b76 : own_A Z h79 b76 .byte (6 : Int32) (own_upd (fun _ => 0) (o').toNatClampNeg (nar .byte (fw ((0 : Int32)).toNatClampNeg))) := own_A.set Ar23878 S23878 M23878 H23878 W79
  obtain ⟨cl24880, Ar24880, S24880, M24880, H24880⟩ := id V_b58
  have hin24880 : ¬ ((1 : Int32) < 0 ∨ cl24880.slots.size ≤ ((1 : Int32)).toNatClampNeg) := inb_of S24880 ⟨by decide, by decide⟩
  have hat24880 := own_A.at S24880 H24880 hin24880
  obtain ⟨cl24981, Ar24981, S24981, M24981, H24981⟩ := V_b76
  have hin24981 : ¬ ((o' + (1 : Int32)) < 0 ∨ cl24981.slots.size ≤ ((o' + (1 : Int32))).toNatClampNeg) := inb_of S24981 (own_bi ho (k := 1) rfl (by decide))
  obtain ⟨T82, h82, X82, e82, W82, st82⟩ := stB X79 hx hZ e79 Ar24981 (j := (o' + (1 : Int32))) hin24981 (g := (mkF m 249 #[.val (.int eb'), .val (.int wb'), .val (.int ct'), .val (.int jk'), .val (.int n'), .val (.int m'), .val (.int k'), .val (.int sg'), .val (.int o'), .val (.ref b14), .val (.ref b24), .val (.ref b58), .val (.ref b76), .unset, .unset, .unset, .unset, .unset, .unset] [(.int (fw ((1 : Int32)).toNatClampNeg)), (.int (o' + (1 : Int32))), (.ref b76)])) rfl rfl (hb hby at_249)
  have V_b14 := V_b14.other W82 ne_b14_b76
  have E_b24 := E_b24.wr W82
  have V_b24 := V_b24.other W82 ne_b24_b76
  have V_b58 := V_b58.other W82 ne_b58_b76
  have Zs82 : n0 ≤ h82.size := Nat.le_trans Zs79 (Keep.of_wr W82).1
  have hk := Nat.le_trans hk (Keep.of_wr W82).1
  have K82 : Keep h0 h82 [] := K79.wr W82 (Or.inr sz_b76)
  have N82 := Fr.snoc X82 N79 g_b76
  have V_b76 : own_A Z h82 b76 .byte (6 : Int32) (own_upd (own_upd (fun _ => 0) (o').toNatClampNeg (nar .byte (fw ((0 : Int32)).toNatClampNeg))) ((o' + (1 : Int32))).toNatClampNeg (nar .byte (fw ((1 : Int32)).toNatClampNeg))) := own_A.set Ar24981 S24981 M24981 H24981 W82
  obtain ⟨cl25983, Ar25983, S25983, M25983, H25983⟩ := id V_b58
  have hin25983 : ¬ ((2 : Int32) < 0 ∨ cl25983.slots.size ≤ ((2 : Int32)).toNatClampNeg) := inb_of S25983 ⟨by decide, by decide⟩
  have hat25983 := own_A.at S25983 H25983 hin25983
  obtain ⟨cl26084, Ar26084, S26084, M26084, H26084⟩ := V_b76
  have hin26084 : ¬ ((o' + (2 : Int32)) < 0 ∨ cl26084.slots.size ≤ ((o' + (2 : Int32))).toNatClampNeg) := inb_of S26084 (own_bi ho (k := 2) rfl (by decide))
  obtain ⟨T85, h85, X85, e85, W85, st85⟩ := stB X82 hx hZ e82 Ar26084 (j := (o' + (2 : Int32))) hin26084 (g := (mkF m 260 #[.val (.int eb'), .val (.int wb'), .val (.int ct'), .val (.int jk'), .val (.int n'), .val (.int m'), .val (.int k'), .val (.int sg'), .val (.int o'), .val (.ref b14), .val (.ref b24), .val (.ref b58), .val (.ref b76), .unset, .unset, .unset, .unset, .unset, .unset] [(.int (fw ((2 : Int32)).toNatClampNeg)), (.int (o' + (2 : Int32))), (.ref b76)])) rfl rfl (hb hby at_260)
  have V_b14 := V_b14.other W85 ne_b14_b76
  have E_b24 := E_b24.wr W85
  have V_b24 := V_b24.other W85 ne_b24_b76
  have V_b58 := V_b58.other W85 ne_b58_b76
  have Zs85 : n0 ≤ h85.size := Nat.le_trans Zs82 (Keep.of_wr W85).1
  have hk := Nat.le_trans hk (Keep.of_wr W85).1
  have K85 : Keep h0 h85 [] := K82.wr W85 (Or.inr sz_b76)
  have N85 := Fr.snoc X85 N82 g_b76
  have V_b76 : own_A Z h85 b76 .byte (6 : Int32) (own_upd (own_upd (own_upd (fun _ => 0) (o').toNatClampNeg (nar .byte (fw ((0 : Int32)).toNatClampNeg))) ((o' + (1 : Int32))).toNatClampNeg (nar .byte (fw ((1 : Int32)).toNatClampNeg))) ((o' + (2 : Int32))).toNatClampNeg (nar .byte (fw ((2 : Int32)).toNatClampNeg))) := own_A.set Ar26084 S26084 M26084 H26084 W85
  obtain ⟨cl27086, Ar27086, S27086, M27086, H27086⟩ := id V_b58
  have hin27086 : ¬ ((3 : Int32) < 0 ∨ cl27086.slots.size ≤ ((3 : Int32)).toNatClampNeg) := inb_of S27086 ⟨by decide, by decide⟩
  have hat27086 := own_A.at S27086 H27086 hin27086
  obtain ⟨cl27187, Ar27187, S27187, M27187, H27187⟩ := V_b76
  have hin27187 : ¬ ((o' + (3 : Int32)) < 0 ∨ cl27187.slots.size ≤ ((o' + (3 : Int32))).toNatClampNeg) := inb_of S27187 (own_bi ho (k := 3) rfl (by decide))
  obtain ⟨T88, h88, X88, e88, W88, st88⟩ := stB X85 hx hZ e85 Ar27187 (j := (o' + (3 : Int32))) hin27187 (g := (mkF m 271 #[.val (.int eb'), .val (.int wb'), .val (.int ct'), .val (.int jk'), .val (.int n'), .val (.int m'), .val (.int k'), .val (.int sg'), .val (.int o'), .val (.ref b14), .val (.ref b24), .val (.ref b58), .val (.ref b76), .unset, .unset, .unset, .unset, .unset, .unset] [(.int (fw ((3 : Int32)).toNatClampNeg)), (.int (o' + (3 : Int32))), (.ref b76)])) rfl rfl (hb hby at_271)
  have V_b14 := V_b14.other W88 ne_b14_b76
  have E_b24 := E_b24.wr W88
  have V_b24 := V_b24.other W88 ne_b24_b76
  have V_b58 := V_b58.other W88 ne_b58_b76
  have Zs88 : n0 ≤ h88.size := Nat.le_trans Zs85 (Keep.of_wr W88).1
  have hk := Nat.le_trans hk (Keep.of_wr W88).1
  have K88 : Keep h0 h88 [] := K85.wr W88 (Or.inr sz_b76)
  have N88 := Fr.snoc X88 N85 g_b76
  have V_b76 : own_A Z h88 b76 .byte (6 : Int32) (own_upd (own_upd (own_upd (own_upd (fun _ => 0) (o').toNatClampNeg (nar .byte (fw ((0 : Int32)).toNatClampNeg))) ((o' + (1 : Int32))).toNatClampNeg (nar .byte (fw ((1 : Int32)).toNatClampNeg))) ((o' + (2 : Int32))).toNatClampNeg (nar .byte (fw ((2 : Int32)).toNatClampNeg))) ((o' + (3 : Int32))).toNatClampNeg (nar .byte (fw ((3 : Int32)).toNatClampNeg))) := own_A.set Ar27187 S27187 M27187 H27187 W88
  have pre89 : ∀ t, Steps p.tables e below (T88.setTop (mkF m 272 #[.val (.int eb'), .val (.int wb'), .val (.int ct'), .val (.int jk'), .val (.int n'), .val (.int m'), .val (.int k'), .val (.int sg'), .val (.int o'), .val (.ref b14), .val (.ref b24), .val (.ref b58), .val (.ref b76), .unset, .unset, .unset, .unset, .unset, .unset] [])) t → Steps p.tables e below (s₁.setTop (entryFrame m #[(.int eb'), (.int wb'), (.int ct'), (.int jk')] maxLocals)) t := by
    intro t kt
    refine pre75 t ?_
    show Steps p.tables e below (T74.setTop (mkF m 224 #[.val (.int eb'), .val (.int wb'), .val (.int ct'), .val (.int jk'), .val (.int n'), .val (.int m'), .val (.int k'), .val (.int sg'), .val (.int o'), .val (.ref b14), .val (.ref b24), .val (.ref b58), .unset, .unset, .unset, .unset, .unset, .unset, .unset] [])) _
    refine XS.bipush X74.here hx rfl (hb hby at_224) ?_
    show Steps p.tables e below (T74.setTop (mkF m 226 #[.val (.int eb'), .val (.int wb'), .val (.int ct'), .val (.int jk'), .val (.int n'), .val (.int m'), .val (.int k'), .val (.int sg'), .val (.int o'), .val (.ref b14), .val (.ref b24), .val (.ref b58), .unset, .unset, .unset, .unset, .unset, .unset, .unset] [(.int (6 : Int32))])) _
    refine st76 _ ?_
    show Steps p.tables e below (T76.setTop (mkF m 228 #[.val (.int eb'), .val (.int wb'), .val (.int ct'), .val (.int jk'), .val (.int n'), .val (.int m'), .val (.int k'), .val (.int sg'), .val (.int o'), .val (.ref b14), .val (.ref b24), .val (.ref b58), .unset, .unset, .unset, .unset, .unset, .unset, .unset] [(.ref b76)])) _
    refine XS.astore X76.here hx rfl (hb hby at_228) rfl rfl (l' := #[.val (.int eb'), .val (.int wb'), .val (.int ct'), .val (.int jk'), .val (.int n'), .val (.int m'), .val (.int k'), .val (.int sg'), .val (.int o'), .val (.ref b14), .val (.ref b24), .val (.ref b58), .val (.ref b76), .unset, .unset, .unset, .unset, .unset, .unset]) rfl ?_
    show Steps p.tables e below (T76.setTop (mkF m 230 #[.val (.int eb'), .val (.int wb'), .val (.int ct'), .val (.int jk'), .val (.int n'), .val (.int m'), .val (.int k'), .val (.int sg'), .val (.int o'), .val (.ref b14), .val (.ref b24), .val (.ref b58), .val (.ref b76), .unset, .unset, .unset, .unset, .unset, .unset] [])) _
    refine XS.aload X76.here hx rfl (hb hby at_230) rfl rfl ?_
    show Steps p.tables e below (T76.setTop (mkF m 232 #[.val (.int eb'), .val (.int wb'), .val (.int ct'), .val (.int jk'), .val (.int n'), .val (.int m'), .val (.int k'), .val (.int sg'), .val (.int o'), .val (.ref b14), .val (.ref b24), .val (.ref b58), .val (.ref b76), .unset, .unset, .unset, .unset, .unset, .unset] [(.ref b76)])) _
    refine XS.iload X76.here hx rfl (hb hby at_232) rfl ?_
    show Steps p.tables e below (T76.setTop (mkF m 234 #[.val (.int eb'), .val (.int wb'), .val (.int ct'), .val (.int jk'), .val (.int n'), .val (.int m'), .val (.int k'), .val (.int sg'), .val (.int o'), .val (.ref b14), .val (.ref b24), .val (.ref b58), .val (.ref b76), .unset, .unset, .unset, .unset, .unset, .unset] [(.int o'), (.ref b76)])) _
    refine XS.aload X76.here hx rfl (hb hby at_234) rfl rfl ?_
    show Steps p.tables e below (T76.setTop (mkF m 236 #[.val (.int eb'), .val (.int wb'), .val (.int ct'), .val (.int jk'), .val (.int n'), .val (.int m'), .val (.int k'), .val (.int sg'), .val (.int o'), .val (.ref b14), .val (.ref b24), .val (.ref b58), .val (.ref b76), .unset, .unset, .unset, .unset, .unset, .unset] [(.ref b58), (.int o'), (.ref b76)])) _
    refine XS.iconst X76.here hx rfl (hb hby at_236) ?_
    show Steps p.tables e below (T76.setTop (mkF m 237 #[.val (.int eb'), .val (.int wb'), .val (.int ct'), .val (.int jk'), .val (.int n'), .val (.int m'), .val (.int k'), .val (.int sg'), .val (.int o'), .val (.ref b14), .val (.ref b24), .val (.ref b58), .val (.ref b76), .unset, .unset, .unset, .unset, .unset, .unset] [(.int (0 : Int32)), (.ref b58), (.int o'), (.ref b76)])) _
    refine X76.baloadBytes hx (j := (0 : Int32)) (v := (.int (fw ((0 : Int32)).toNatClampNeg))) (by rw [e76]; exact Ar23777.1) (State.isArrayOf_alike hZ.alike Ar23777.2.1) Ar23777.2.2 hin23777 hat23777 (g := (mkF m 237 #[.val (.int eb'), .val (.int wb'), .val (.int ct'), .val (.int jk'), .val (.int n'), .val (.int m'), .val (.int k'), .val (.int sg'), .val (.int o'), .val (.ref b14), .val (.ref b24), .val (.ref b58), .val (.ref b76), .unset, .unset, .unset, .unset, .unset, .unset] [(.int (0 : Int32)), (.ref b58), (.int o'), (.ref b76)])) rfl rfl (hb hby at_237) _ ?_
    show Steps p.tables e below (T76.setTop (mkF m 238 #[.val (.int eb'), .val (.int wb'), .val (.int ct'), .val (.int jk'), .val (.int n'), .val (.int m'), .val (.int k'), .val (.int sg'), .val (.int o'), .val (.ref b14), .val (.ref b24), .val (.ref b58), .val (.ref b76), .unset, .unset, .unset, .unset, .unset, .unset] [(.int (fw ((0 : Int32)).toNatClampNeg)), (.int o'), (.ref b76)])) _
    refine st79 _ ?_
    show Steps p.tables e below (T79.setTop (mkF m 239 #[.val (.int eb'), .val (.int wb'), .val (.int ct'), .val (.int jk'), .val (.int n'), .val (.int m'), .val (.int k'), .val (.int sg'), .val (.int o'), .val (.ref b14), .val (.ref b24), .val (.ref b58), .val (.ref b76), .unset, .unset, .unset, .unset, .unset, .unset] [])) _
    refine XS.aload X79.here hx rfl (hb hby at_239) rfl rfl ?_
    show Steps p.tables e below (T79.setTop (mkF m 241 #[.val (.int eb'), .val (.int wb'), .val (.int ct'), .val (.int jk'), .val (.int n'), .val (.int m'), .val (.int k'), .val (.int sg'), .val (.int o'), .val (.ref b14), .val (.ref b24), .val (.ref b58), .val (.ref b76), .unset, .unset, .unset, .unset, .unset, .unset] [(.ref b76)])) _
    refine XS.iload X79.here hx rfl (hb hby at_241) rfl ?_
    show Steps p.tables e below (T79.setTop (mkF m 243 #[.val (.int eb'), .val (.int wb'), .val (.int ct'), .val (.int jk'), .val (.int n'), .val (.int m'), .val (.int k'), .val (.int sg'), .val (.int o'), .val (.ref b14), .val (.ref b24), .val (.ref b58), .val (.ref b76), .unset, .unset, .unset, .unset, .unset, .unset] [(.int o'), (.ref b76)])) _
    refine XS.iconst X79.here hx rfl (hb hby at_243) ?_
    show Steps p.tables e below (T79.setTop (mkF m 244 #[.val (.int eb'), .val (.int wb'), .val (.int ct'), .val (.int jk'), .val (.int n'), .val (.int m'), .val (.int k'), .val (.int sg'), .val (.int o'), .val (.ref b14), .val (.ref b24), .val (.ref b58), .val (.ref b76), .unset, .unset, .unset, .unset, .unset, .unset] [(.int (1 : Int32)), (.int o'), (.ref b76)])) _
    refine XS.iadd X79.here hx rfl (hb hby at_244) rfl ?_
    show Steps p.tables e below (T79.setTop (mkF m 245 #[.val (.int eb'), .val (.int wb'), .val (.int ct'), .val (.int jk'), .val (.int n'), .val (.int m'), .val (.int k'), .val (.int sg'), .val (.int o'), .val (.ref b14), .val (.ref b24), .val (.ref b58), .val (.ref b76), .unset, .unset, .unset, .unset, .unset, .unset] [(.int (o' + (1 : Int32))), (.ref b76)])) _
    refine XS.aload X79.here hx rfl (hb hby at_245) rfl rfl ?_
    show Steps p.tables e below (T79.setTop (mkF m 247 #[.val (.int eb'), .val (.int wb'), .val (.int ct'), .val (.int jk'), .val (.int n'), .val (.int m'), .val (.int k'), .val (.int sg'), .val (.int o'), .val (.ref b14), .val (.ref b24), .val (.ref b58), .val (.ref b76), .unset, .unset, .unset, .unset, .unset, .unset] [(.ref b58), (.int (o' + (1 : Int32))), (.ref b76)])) _
    refine XS.iconst X79.here hx rfl (hb hby at_247) ?_
    show Steps p.tables e below (T79.setTop (mkF m 248 #[.val (.int eb'), .val (.int wb'), .val (.int ct'), .val (.int jk'), .val (.int n'), .val (.int m'), .val (.int k'), .val (.int sg'), .val (.int o'), .val (.ref b14), .val (.ref b24), .val (.ref b58), .val (.ref b76), .unset, .unset, .unset, .unset, .unset, .unset] [(.int (1 : Int32)), (.ref b58), (.int (o' + (1 : Int32))), (.ref b76)])) _
    refine X79.baloadBytes hx (j := (1 : Int32)) (v := (.int (fw ((1 : Int32)).toNatClampNeg))) (by rw [e79]; exact Ar24880.1) (State.isArrayOf_alike hZ.alike Ar24880.2.1) Ar24880.2.2 hin24880 hat24880 (g := (mkF m 248 #[.val (.int eb'), .val (.int wb'), .val (.int ct'), .val (.int jk'), .val (.int n'), .val (.int m'), .val (.int k'), .val (.int sg'), .val (.int o'), .val (.ref b14), .val (.ref b24), .val (.ref b58), .val (.ref b76), .unset, .unset, .unset, .unset, .unset, .unset] [(.int (1 : Int32)), (.ref b58), (.int (o' + (1 : Int32))), (.ref b76)])) rfl rfl (hb hby at_248) _ ?_
    show Steps p.tables e below (T79.setTop (mkF m 249 #[.val (.int eb'), .val (.int wb'), .val (.int ct'), .val (.int jk'), .val (.int n'), .val (.int m'), .val (.int k'), .val (.int sg'), .val (.int o'), .val (.ref b14), .val (.ref b24), .val (.ref b58), .val (.ref b76), .unset, .unset, .unset, .unset, .unset, .unset] [(.int (fw ((1 : Int32)).toNatClampNeg)), (.int (o' + (1 : Int32))), (.ref b76)])) _
    refine st82 _ ?_
    show Steps p.tables e below (T82.setTop (mkF m 250 #[.val (.int eb'), .val (.int wb'), .val (.int ct'), .val (.int jk'), .val (.int n'), .val (.int m'), .val (.int k'), .val (.int sg'), .val (.int o'), .val (.ref b14), .val (.ref b24), .val (.ref b58), .val (.ref b76), .unset, .unset, .unset, .unset, .unset, .unset] [])) _
    refine XS.aload X82.here hx rfl (hb hby at_250) rfl rfl ?_
    show Steps p.tables e below (T82.setTop (mkF m 252 #[.val (.int eb'), .val (.int wb'), .val (.int ct'), .val (.int jk'), .val (.int n'), .val (.int m'), .val (.int k'), .val (.int sg'), .val (.int o'), .val (.ref b14), .val (.ref b24), .val (.ref b58), .val (.ref b76), .unset, .unset, .unset, .unset, .unset, .unset] [(.ref b76)])) _
    refine XS.iload X82.here hx rfl (hb hby at_252) rfl ?_
    show Steps p.tables e below (T82.setTop (mkF m 254 #[.val (.int eb'), .val (.int wb'), .val (.int ct'), .val (.int jk'), .val (.int n'), .val (.int m'), .val (.int k'), .val (.int sg'), .val (.int o'), .val (.ref b14), .val (.ref b24), .val (.ref b58), .val (.ref b76), .unset, .unset, .unset, .unset, .unset, .unset] [(.int o'), (.ref b76)])) _
    refine XS.iconst X82.here hx rfl (hb hby at_254) ?_
    show Steps p.tables e below (T82.setTop (mkF m 255 #[.val (.int eb'), .val (.int wb'), .val (.int ct'), .val (.int jk'), .val (.int n'), .val (.int m'), .val (.int k'), .val (.int sg'), .val (.int o'), .val (.ref b14), .val (.ref b24), .val (.ref b58), .val (.ref b76), .unset, .unset, .unset, .unset, .unset, .unset] [(.int (2 : Int32)), (.int o'), (.ref b76)])) _
    refine XS.iadd X82.here hx rfl (hb hby at_255) rfl ?_
    show Steps p.tables e below (T82.setTop (mkF m 256 #[.val (.int eb'), .val (.int wb'), .val (.int ct'), .val (.int jk'), .val (.int n'), .val (.int m'), .val (.int k'), .val (.int sg'), .val (.int o'), .val (.ref b14), .val (.ref b24), .val (.ref b58), .val (.ref b76), .unset, .unset, .unset, .unset, .unset, .unset] [(.int (o' + (2 : Int32))), (.ref b76)])) _
    refine XS.aload X82.here hx rfl (hb hby at_256) rfl rfl ?_
    show Steps p.tables e below (T82.setTop (mkF m 258 #[.val (.int eb'), .val (.int wb'), .val (.int ct'), .val (.int jk'), .val (.int n'), .val (.int m'), .val (.int k'), .val (.int sg'), .val (.int o'), .val (.ref b14), .val (.ref b24), .val (.ref b58), .val (.ref b76), .unset, .unset, .unset, .unset, .unset, .unset] [(.ref b58), (.int (o' + (2 : Int32))), (.ref b76)])) _
    refine XS.iconst X82.here hx rfl (hb hby at_258) ?_
    show Steps p.tables e below (T82.setTop (mkF m 259 #[.val (.int eb'), .val (.int wb'), .val (.int ct'), .val (.int jk'), .val (.int n'), .val (.int m'), .val (.int k'), .val (.int sg'), .val (.int o'), .val (.ref b14), .val (.ref b24), .val (.ref b58), .val (.ref b76), .unset, .unset, .unset, .unset, .unset, .unset] [(.int (2 : Int32)), (.ref b58), (.int (o' + (2 : Int32))), (.ref b76)])) _
    refine X82.baloadBytes hx (j := (2 : Int32)) (v := (.int (fw ((2 : Int32)).toNatClampNeg))) (by rw [e82]; exact Ar25983.1) (State.isArrayOf_alike hZ.alike Ar25983.2.1) Ar25983.2.2 hin25983 hat25983 (g := (mkF m 259 #[.val (.int eb'), .val (.int wb'), .val (.int ct'), .val (.int jk'), .val (.int n'), .val (.int m'), .val (.int k'), .val (.int sg'), .val (.int o'), .val (.ref b14), .val (.ref b24), .val (.ref b58), .val (.ref b76), .unset, .unset, .unset, .unset, .unset, .unset] [(.int (2 : Int32)), (.ref b58), (.int (o' + (2 : Int32))), (.ref b76)])) rfl rfl (hb hby at_259) _ ?_
    show Steps p.tables e below (T82.setTop (mkF m 260 #[.val (.int eb'), .val (.int wb'), .val (.int ct'), .val (.int jk'), .val (.int n'), .val (.int m'), .val (.int k'), .val (.int sg'), .val (.int o'), .val (.ref b14), .val (.ref b24), .val (.ref b58), .val (.ref b76), .unset, .unset, .unset, .unset, .unset, .unset] [(.int (fw ((2 : Int32)).toNatClampNeg)), (.int (o' + (2 : Int32))), (.ref b76)])) _
    refine st85 _ ?_
    show Steps p.tables e below (T85.setTop (mkF m 261 #[.val (.int eb'), .val (.int wb'), .val (.int ct'), .val (.int jk'), .val (.int n'), .val (.int m'), .val (.int k'), .val (.int sg'), .val (.int o'), .val (.ref b14), .val (.ref b24), .val (.ref b58), .val (.ref b76), .unset, .unset, .unset, .unset, .unset, .unset] [])) _
    refine XS.aload X85.here hx rfl (hb hby at_261) rfl rfl ?_
    show Steps p.tables e below (T85.setTop (mkF m 263 #[.val (.int eb'), .val (.int wb'), .val (.int ct'), .val (.int jk'), .val (.int n'), .val (.int m'), .val (.int k'), .val (.int sg'), .val (.int o'), .val (.ref b14), .val (.ref b24), .val (.ref b58), .val (.ref b76), .unset, .unset, .unset, .unset, .unset, .unset] [(.ref b76)])) _
    refine XS.iload X85.here hx rfl (hb hby at_263) rfl ?_
    show Steps p.tables e below (T85.setTop (mkF m 265 #[.val (.int eb'), .val (.int wb'), .val (.int ct'), .val (.int jk'), .val (.int n'), .val (.int m'), .val (.int k'), .val (.int sg'), .val (.int o'), .val (.ref b14), .val (.ref b24), .val (.ref b58), .val (.ref b76), .unset, .unset, .unset, .unset, .unset, .unset] [(.int o'), (.ref b76)])) _
    refine XS.iconst X85.here hx rfl (hb hby at_265) ?_
    show Steps p.tables e below (T85.setTop (mkF m 266 #[.val (.int eb'), .val (.int wb'), .val (.int ct'), .val (.int jk'), .val (.int n'), .val (.int m'), .val (.int k'), .val (.int sg'), .val (.int o'), .val (.ref b14), .val (.ref b24), .val (.ref b58), .val (.ref b76), .unset, .unset, .unset, .unset, .unset, .unset] [(.int (3 : Int32)), (.int o'), (.ref b76)])) _
    refine XS.iadd X85.here hx rfl (hb hby at_266) rfl ?_
    show Steps p.tables e below (T85.setTop (mkF m 267 #[.val (.int eb'), .val (.int wb'), .val (.int ct'), .val (.int jk'), .val (.int n'), .val (.int m'), .val (.int k'), .val (.int sg'), .val (.int o'), .val (.ref b14), .val (.ref b24), .val (.ref b58), .val (.ref b76), .unset, .unset, .unset, .unset, .unset, .unset] [(.int (o' + (3 : Int32))), (.ref b76)])) _
    refine XS.aload X85.here hx rfl (hb hby at_267) rfl rfl ?_
    show Steps p.tables e below (T85.setTop (mkF m 269 #[.val (.int eb'), .val (.int wb'), .val (.int ct'), .val (.int jk'), .val (.int n'), .val (.int m'), .val (.int k'), .val (.int sg'), .val (.int o'), .val (.ref b14), .val (.ref b24), .val (.ref b58), .val (.ref b76), .unset, .unset, .unset, .unset, .unset, .unset] [(.ref b58), (.int (o' + (3 : Int32))), (.ref b76)])) _
    refine XS.iconst X85.here hx rfl (hb hby at_269) ?_
    show Steps p.tables e below (T85.setTop (mkF m 270 #[.val (.int eb'), .val (.int wb'), .val (.int ct'), .val (.int jk'), .val (.int n'), .val (.int m'), .val (.int k'), .val (.int sg'), .val (.int o'), .val (.ref b14), .val (.ref b24), .val (.ref b58), .val (.ref b76), .unset, .unset, .unset, .unset, .unset, .unset] [(.int (3 : Int32)), (.ref b58), (.int (o' + (3 : Int32))), (.ref b76)])) _
    refine X85.baloadBytes hx (j := (3 : Int32)) (v := (.int (fw ((3 : Int32)).toNatClampNeg))) (by rw [e85]; exact Ar27086.1) (State.isArrayOf_alike hZ.alike Ar27086.2.1) Ar27086.2.2 hin27086 hat27086 (g := (mkF m 270 #[.val (.int eb'), .val (.int wb'), .val (.int ct'), .val (.int jk'), .val (.int n'), .val (.int m'), .val (.int k'), .val (.int sg'), .val (.int o'), .val (.ref b14), .val (.ref b24), .val (.ref b58), .val (.ref b76), .unset, .unset, .unset, .unset, .unset, .unset] [(.int (3 : Int32)), (.ref b58), (.int (o' + (3 : Int32))), (.ref b76)])) rfl rfl (hb hby at_270) _ ?_
    show Steps p.tables e below (T85.setTop (mkF m 271 #[.val (.int eb'), .val (.int wb'), .val (.int ct'), .val (.int jk'), .val (.int n'), .val (.int m'), .val (.int k'), .val (.int sg'), .val (.int o'), .val (.ref b14), .val (.ref b24), .val (.ref b58), .val (.ref b76), .unset, .unset, .unset, .unset, .unset, .unset] [(.int (fw ((3 : Int32)).toNatClampNeg)), (.int (o' + (3 : Int32))), (.ref b76)])) _
    refine st88 _ ?_
    exact kt
  obtain ⟨fb, h_fb⟩ : ∃ f : Nat → Int32, f = (own_upd (own_upd (own_upd (own_upd (fun _ => 0) (o').toNatClampNeg (nar .byte (fw ((0 : Int32)).toNatClampNeg))) ((o' + (1 : Int32))).toNatClampNeg (nar .byte (fw ((1 : Int32)).toNatClampNeg))) ((o' + (2 : Int32))).toNatClampNeg (nar .byte (fw ((2 : Int32)).toNatClampNeg))) ((o' + (3 : Int32))).toNatClampNeg (nar .byte (fw ((3 : Int32)).toNatClampNeg))) := ⟨_, rfl⟩
  rw [← h_fb] at V_b76
  have hfb : ∀ i, i < 4 → fb (o'.toNatClampNeg + i) = fw i := by rw [h_fb]; exact own_fb ho hfw
  obtain ⟨T90, h90, X90, e90, E90, A90, D90, -, st90⟩ := newO X88 hx hZ hown (hw _ (List.mem_of_getElem? (i := 5) rfl)) (hw _ (List.mem_of_getElem? (i := 6) rfl)) (hw _ (List.mem_of_getElem? (i := 7) rfl)) e88 (g := (mkF m 272 #[.val (.int eb'), .val (.int wb'), .val (.int ct'), .val (.int jk'), .val (.int n'), .val (.int m'), .val (.int k'), .val (.int sg'), .val (.int o'), .val (.ref b14), .val (.ref b24), .val (.ref b58), .val (.ref b76), .unset, .unset, .unset, .unset, .unset, .unset] [])) rfl (hb hby at_272) (by decide) (by decide)
  obtain ⟨b90, g90⟩ : ∃ z, z = h88.size := ⟨_, rfl⟩
  rw [← g90] at A90 D90 st90
  have g_b90 : n0 ≤ b90 := Nat.le_trans Zs88 (Nat.le_of_eq g90.symm)
  have sz_b90 : h0.size ≤ b90 := Nat.le_trans K88.1 (Nat.le_of_eq g90.symm)
  have ne_b14_b90 : b14 ≠ b90 := Nat.ne_of_lt (Nat.lt_of_lt_of_le V_b14.lt (Nat.le_of_eq g90.symm))
  have ne_b24_b90 : b24 ≠ b90 := Nat.ne_of_lt (Nat.lt_of_lt_of_le E_b24.lt (Nat.le_of_eq g90.symm))
  have ne_b58_b90 : b58 ≠ b90 := Nat.ne_of_lt (Nat.lt_of_lt_of_le V_b58.lt (Nat.le_of_eq g90.symm))
  have ne_b76_b90 : b76 ≠ b90 := Nat.ne_of_lt (Nat.lt_of_lt_of_le V_b76.lt (Nat.le_of_eq g90.symm))
  have V_b14 := V_b14.ext E90
  have E_b24 := E_b24.ext E90
  have V_b24 := V_b24.ext E90
  have V_b58 := V_b58.ext E90
  have V_b76 := V_b76.ext E90
  have Zs90 : n0 ≤ h90.size := Nat.le_trans Zs88 E90.1
  have hk := Nat.le_trans hk E90.1
  have K90 : Keep h0 h90 [] := K88.ext E90
  have E_b90 := A90
  have F_difference_b90 : Fld Z h90 b90 "com/example/bytelace/bytelace/cli/FirstDifference" "difference" "J" (.long (0 : Int64)) := D90 (Or.inl (hw _ (List.mem_of_getElem? (i := 21) rfl))) (ty := .long) (by decide)
  have F_expected_b90 : Fld Z h90 b90 "com/example/bytelace/bytelace/cli/FirstDifference" "expected" "[B" .null := D90 (Or.inr (hw _ (List.mem_of_getElem? (i := 36) rfl))) (ty := (.array .byte)) (by decide)
  have F_written_b90 : Fld Z h90 b90 "com/example/bytelace/bytelace/cli/FirstDifference" "written" "J" (.long (0 : Int64)) := D90 (Or.inl (hw _ (List.mem_of_getElem? (i := 50) rfl))) (ty := .long) (by decide)
  have pre92 : ∀ t, Steps p.tables e below (T90.setTop (mkF m 278 #[.val (.int eb'), .val (.int wb'), .val (.int ct'), .val (.int jk'), .val (.int n'), .val (.int m'), .val (.int k'), .val (.int sg'), .val (.int o'), .val (.ref b14), .val (.ref b24), .val (.ref b58), .val (.ref b76), .unset, .unset, .unset, .unset, .unset, .unset] [(.ref b24), (.ref b90), (.ref b90)])) t → Steps p.tables e below (s₁.setTop (entryFrame m #[(.int eb'), (.int wb'), (.int ct'), (.int jk')] maxLocals)) t := by
    intro t kt
    refine pre89 t ?_
    show Steps p.tables e below (T88.setTop (mkF m 272 #[.val (.int eb'), .val (.int wb'), .val (.int ct'), .val (.int jk'), .val (.int n'), .val (.int m'), .val (.int k'), .val (.int sg'), .val (.int o'), .val (.ref b14), .val (.ref b24), .val (.ref b58), .val (.ref b76), .unset, .unset, .unset, .unset, .unset, .unset] [])) _
    refine st90 _ ?_
    show Steps p.tables e below (T90.setTop (mkF m 275 #[.val (.int eb'), .val (.int wb'), .val (.int ct'), .val (.int jk'), .val (.int n'), .val (.int m'), .val (.int k'), .val (.int sg'), .val (.int o'), .val (.ref b14), .val (.ref b24), .val (.ref b58), .val (.ref b76), .unset, .unset, .unset, .unset, .unset, .unset] [(.ref b90)])) _
    refine XS.dup X90.here hx rfl (hb hby at_275) rfl rfl ?_
    show Steps p.tables e below (T90.setTop (mkF m 276 #[.val (.int eb'), .val (.int wb'), .val (.int ct'), .val (.int jk'), .val (.int n'), .val (.int m'), .val (.int k'), .val (.int sg'), .val (.int o'), .val (.ref b14), .val (.ref b24), .val (.ref b58), .val (.ref b76), .unset, .unset, .unset, .unset, .unset, .unset] [(.ref b90), (.ref b90)])) _
    refine XS.aload X90.here hx rfl (hb hby at_276) rfl rfl ?_
    exact kt
  obtain ⟨_, _, ⟨T91, L91, k91, n91⟩, -, X91, hSq91, hgr91, ⟨Lc91, hQ91, l91, y91, z91⟩, st91⟩ := X90.specialBackS hx (y := (⟨"com/example/bytelace/bytelace/cli/FirstDifference", "<init>", "([B)V"⟩ : MethodName)) rfl hown (mvT hZ (hw _ (List.mem_of_getElem? (i := 8) rfl))) (mvT hZ (hw _ (List.mem_of_getElem? (i := 9) rfl))) (mvT hZ (hw _ (List.mem_of_getElem? (i := 10) rfl))) (by decide) (backOfS (W := 1) (rm2 l Z a0 hw [] b90 b24 h90 n0 Zs90 E_b90 F_difference_b90 F_written_b90 F_expected_b90 g_b90 E_b24) hZ (hw _ (List.mem_of_getElem? (i := 10) rfl)) (hw _ (List.mem_of_getElem? (i := 7) rfl)) (by decide) (by decide)) (g := (mkF m 278 #[.val (.int eb'), .val (.int wb'), .val (.int ct'), .val (.int jk'), .val (.int n'), .val (.int m'), .val (.int k'), .val (.int sg'), .val (.int o'), .val (.ref b14), .val (.ref b24), .val (.ref b58), .val (.ref b76), .unset, .unset, .unset, .unset, .unset, .unset] [(.ref b24), (.ref b90), (.ref b90)])) rfl (by rw [hml]; rfl) (Steps.refl _) (a := b90) (argsL := [(.ref b24)]) (rest := [(.ref b90)]) (lenOf pd0_1 rfl) rfl (by show 2 * 0 + _ ≤ _; exact Nat.le_of_eq rfl) (hb hby at_278) (fun _ _ => ⟨rfl, e90, (by decide : 5 + 2 ≤ _), (by decide : 21 + 36 ≤ _)⟩)
  dsimp only [Pt.U, Pt.locs, Pt.cells, Pt.slots] at X91 l91 y91 z91 st91 hQ91 hSq91 hgr91
  subst l91 y91 z91
  have X91 : Stand p l e _ (s.setVm T91.vm) m _ below meth c T91 _ _ _ := X91
  have hS := foldS hS (by rw [e90]; exact hk) hSq91 hgr91
  have hZ : Z.Warmed39 (s.setVm T91.vm).vm := State.Warmed39.trans hZ hSq91.1
  have hown : (s.setVm T91.vm).vm.findClass "com/example/bytelace/bytelace/cli/FirstDifferenceOffsetPinLaw" = some m.cls := by rw [show (s.setVm T91.vm).vm = T91.vm from rfl, hSq91.1.alike.findClass]; exact hown
  have hk : T91.heap.size ≤ T91.heap.size := Nat.le_refl _
  obtain ⟨rfl, N91q, Kq91, F_difference_b90, F_written_b90, F_expected_b90⟩ := hQ91
  have N91 := Fr.app N88 N91q
  have V_b14 := V_b14.keep Kq91 (ninS ne_b14_b90 nin0)
  have E_b24 := E_b24.keep Kq91
  have V_b24 := V_b24.keep Kq91 (ninS ne_b24_b90 nin0)
  have V_b58 := V_b58.keep Kq91 (ninS ne_b58_b90 nin0)
  have V_b76 := V_b76.keep Kq91 (ninS ne_b76_b90 nin0)
  have E_b90 := E_b90.keep Kq91
  have Zs91 : n0 ≤ T91.heap.size := Nat.le_trans Zs90 Kq91.1
  have K91 : Keep h0 T91.heap [] := K90.trans Kq91 (allS (Or.inr sz_b90) all0)
  obtain ⟨N, hN, hN4⟩ := own_ex hn
  obtain ⟨M, hM, hM4⟩ := own_ex hm
  have hfx := own_hfx hN hN4 B0 B1 B2 B3
  have pre93 : ∀ t, Steps p.tables e below (T91.setTop (mkF m 283 #[.val (.int eb'), .val (.int wb'), .val (.int ct'), .val (.int jk'), .val (.int n'), .val (.int m'), .val (.int k'), .val (.int sg'), .val (.int o'), .val (.ref b14), .val (.ref b24), .val (.ref b58), .val (.ref b76), .val (.ref b90), .unset, .unset, .unset, .unset, .unset] [])) t → Steps p.tables e below (s₁.setTop (entryFrame m #[(.int eb'), (.int wb'), (.int ct'), (.int jk')] maxLocals)) t := by
    intro t kt
    refine pre92 t ?_
    show Steps p.tables e below (T90.setTop (mkF m 278 #[.val (.int eb'), .val (.int wb'), .val (.int ct'), .val (.int jk'), .val (.int n'), .val (.int m'), .val (.int k'), .val (.int sg'), .val (.int o'), .val (.ref b14), .val (.ref b24), .val (.ref b58), .val (.ref b76), .unset, .unset, .unset, .unset, .unset, .unset] [(.ref b24), (.ref b90), (.ref b90)])) _
    refine st91.trans ?_
    show Steps p.tables e below (T91.setTop (mkF m 281 #[.val (.int eb'), .val (.int wb'), .val (.int ct'), .val (.int jk'), .val (.int n'), .val (.int m'), .val (.int k'), .val (.int sg'), .val (.int o'), .val (.ref b14), .val (.ref b24), .val (.ref b58), .val (.ref b76), .unset, .unset, .unset, .unset, .unset, .unset] [(.ref b90)])) _
    refine XS.astore X91.here hx rfl (hb hby at_281) rfl rfl (l' := #[.val (.int eb'), .val (.int wb'), .val (.int ct'), .val (.int jk'), .val (.int n'), .val (.int m'), .val (.int k'), .val (.int sg'), .val (.int o'), .val (.ref b14), .val (.ref b24), .val (.ref b58), .val (.ref b76), .val (.ref b90), .unset, .unset, .unset, .unset, .unset]) rfl ?_
    exact kt
  have J94 : ∃ (T' : State) (h' : Heap) (L' : List Loc) (dd : Int64) (rr : Int64) , Stand p l e room_1 (s.setVm T91.vm) m #[(.int eb'), (.int wb'), (.int ct'), (.int jk')] below meth c T' L' 11 61 ∧ T'.heap = h' ∧ Fr n0 L' ∧ n0 ≤ h'.size ∧ Keep h0 h' [] ∧ T91.heap.size ≤ h'.size ∧ own_A Z h' b14 .byte (4 : Int32) fe ∧ Exa Z h' b24 "[B" ∧ own_A Z h' b24 .byte n' fx3 ∧ own_A Z h' b58 .byte (4 : Int32) fw ∧ own_A Z h' b76 .byte (6 : Int32) fb ∧ Exa Z h' b90 "com/example/bytelace/bytelace/cli/FirstDifference" ∧ Fld Z h' b90 "com/example/bytelace/bytelace/cli/FirstDifference" "difference" "J" (.long dd) ∧ Fld Z h' b90 "com/example/bytelace/bytelace/cli/FirstDifference" "written" "J" (.long rr) ∧ Fld Z h' b90 "com/example/bytelace/bytelace/cli/FirstDifference" "expected" "[B" (.ref b24) ∧ rr.toInt = (M : Int) ∧ dd.toInt = own_D fw fe N M ∧ ∀ t, Steps p.tables e below (T'.setTop (mkF m 414 #[.val (.int eb'), .val (.int wb'), .val (.int ct'), .val (.int jk'), .val (.int n'), .val (.int m'), .val (.int k'), .val (.int sg'), .val (.int o'), .val (.ref b14), .val (.ref b24), .val (.ref b58), .val (.ref b76), .val (.ref b90), .unset, .unset, .unset, .unset, .unset] [])) t → Steps p.tables e below (s₁.setTop (entryFrame m #[(.int eb'), (.int wb'), (.int ct'), (.int jk')] maxLocals)) t := by
    have pre95 : ∀ t, Steps p.tables e below (T91.setTop (mkF m 285 #[.val (.int eb'), .val (.int wb'), .val (.int ct'), .val (.int jk'), .val (.int n'), .val (.int m'), .val (.int k'), .val (.int sg'), .val (.int o'), .val (.ref b14), .val (.ref b24), .val (.ref b58), .val (.ref b76), .val (.ref b90), .unset, .unset, .unset, .unset, .unset] [(.int sg')])) t → Steps p.tables e below (s₁.setTop (entryFrame m #[(.int eb'), (.int wb'), (.int ct'), (.int jk')] maxLocals)) t := by
      intro t kt
      refine pre93 t ?_
      show Steps p.tables e below (T91.setTop (mkF m 283 #[.val (.int eb'), .val (.int wb'), .val (.int ct'), .val (.int jk'), .val (.int n'), .val (.int m'), .val (.int k'), .val (.int sg'), .val (.int o'), .val (.ref b14), .val (.ref b24), .val (.ref b58), .val (.ref b76), .val (.ref b90), .unset, .unset, .unset, .unset, .unset] [])) _
      refine XS.iload X91.here hx rfl (hb hby at_283) rfl ?_
      exact kt
    by_cases hc285_96 : sg' = (0 : Int32)
    · obtain ⟨cq97, kq97, q97a, q97b, q97c⟩ := isOf hZ rfl E_b90
      obtain ⟨_, _, ⟨T97, L97, k97, n97⟩, -, X97, ⟨Lc97, hQ97, l97, y97, z97⟩, st97⟩ := X91.virtualBack hx (y := (⟨"com/example/bytelace/bytelace/cli/FirstDifference", "write", "([BII)V"⟩ : MethodName)) (z := (⟨"com/example/bytelace/bytelace/cli/FirstDifference", "write", "([BII)V"⟩ : MethodName)) hown (mvT hZ (hw _ (List.mem_of_getElem? (i := 37) rfl))) (mvT hZ (hw _ (List.mem_of_getElem? (i := 38) rfl))) (notFace_of_selects (args := #[]) (mvT hZ (hw _ (List.mem_of_getElem? (i := 40) rfl)))) (mvT hZ (hw _ (List.mem_of_getElem? (i := 40) rfl))) (mvT hZ (hw _ (List.mem_of_getElem? (i := 39) rfl))) (by decide) (backOf (W := 0) (rm6 l Z a0 hw [] b90 b76 o' k' (-1 : Int64) (0 : Int64) b24 n' (6 : Int32) fx3 fb T91.heap n0 Zs91 E_b90 F_difference_b90 F_written_b90 F_expected_b90 g_b90 V_b24 V_b76 ho.1 hk6.1 (own_k4 hk6 hm) (own_k6 ho hk6 hm) ⟨by decide, by decide⟩ hn) hZ (hw _ (List.mem_of_getElem? (i := 41) rfl)) (hw _ (List.mem_of_getElem? (i := 7) rfl)) (by decide) (by decide)) q97a q97c (g := (mkF m 394 #[.val (.int eb'), .val (.int wb'), .val (.int ct'), .val (.int jk'), .val (.int n'), .val (.int m'), .val (.int k'), .val (.int sg'), .val (.int o'), .val (.ref b14), .val (.ref b24), .val (.ref b58), .val (.ref b76), .val (.ref b90), .unset, .unset, .unset, .unset, .unset] [(.int k'), (.int o'), (.ref b76), (.ref b90)])) rfl (by rw [hml]; rfl) (Steps.refl _) (argsL := [(.ref b76), (.int o'), (.int k')]) (rest := []) (lenOf pd0_2 rfl) rfl (by show 2 * 0 + _ ≤ _; exact Nat.le_of_eq rfl) (hb hby at_394) (fun _ _ => ⟨rfl, rfl, (by decide : 7 + 0 ≤ _), (by decide : 57 + 0 ≤ _)⟩)
      dsimp only [Pt.U, Pt.locs, Pt.cells, Pt.slots] at X97 l97 y97 z97 st97 hQ97
      subst l97 y97 z97
      obtain ⟨rfl, N97q, Kq97, F_difference_b90, F_written_b90, F_expected_b90⟩ := hQ97
      have N97 := Fr.app N91 N97q
      have V_b14 := V_b14.keep Kq97 (ninS ne_b14_b90 nin0)
      have E_b24 := E_b24.keep Kq97
      have V_b24 := V_b24.keep Kq97 (ninS ne_b24_b90 nin0)
      have V_b58 := V_b58.keep Kq97 (ninS ne_b58_b90 nin0)
      have V_b76 := V_b76.keep Kq97 (ninS ne_b76_b90 nin0)
      have E_b90 := E_b90.keep Kq97
      have Zs97 : n0 ≤ T97.heap.size := Nat.le_trans Zs91 Kq97.1
      have hk := Nat.le_trans hk Kq97.1
      have K97 : Keep h0 T97.heap [] := K91.trans Kq97 (allS (Or.inr sz_b90) all0)
      obtain ⟨cq98, kq98, q98a, q98b, q98c⟩ := isOf hZ rfl E_b90
      obtain ⟨_, _, ⟨T98, L98, k98, n98⟩, -, X98, ⟨Lc98, hQ98, l98, y98, z98⟩, st98⟩ := X97.virtualBack hx (y := (⟨"com/example/bytelace/bytelace/cli/FirstDifference", "write", "([BII)V"⟩ : MethodName)) (z := (⟨"com/example/bytelace/bytelace/cli/FirstDifference", "write", "([BII)V"⟩ : MethodName)) hown (mvT hZ (hw _ (List.mem_of_getElem? (i := 37) rfl))) (mvT hZ (hw _ (List.mem_of_getElem? (i := 38) rfl))) (notFace_of_selects (args := #[]) (mvT hZ (hw _ (List.mem_of_getElem? (i := 40) rfl)))) (mvT hZ (hw _ (List.mem_of_getElem? (i := 40) rfl))) (mvT hZ (hw _ (List.mem_of_getElem? (i := 39) rfl))) (by decide) (backOf (W := 0) (rm6 l Z a0 hw [] b90 b76 (o' + k') (m' - k') (own_wd (-1 : Int64) (0 : Int64) fb o' k' n' fx3) ((0 : Int64) + (k'.toInt64)) b24 n' (6 : Int32) fx3 fb T97.heap n0 Zs97 E_b90 F_difference_b90 F_written_b90 F_expected_b90 g_b90 V_b24 V_b76 (own_sec2 ho hk6 hm).1 (own_sec2 ho hk6 hm).2.1 (own_sec2 ho hk6 hm).2.2.1 (own_sec2 ho hk6 hm).2.2.2.1 (own_sec2 ho hk6 hm).2.2.2.2 hn) hZ (hw _ (List.mem_of_getElem? (i := 41) rfl)) (hw _ (List.mem_of_getElem? (i := 7) rfl)) (by decide) (by decide)) q98a q98c (g := (mkF m 411 #[.val (.int eb'), .val (.int wb'), .val (.int ct'), .val (.int jk'), .val (.int n'), .val (.int m'), .val (.int k'), .val (.int sg'), .val (.int o'), .val (.ref b14), .val (.ref b24), .val (.ref b58), .val (.ref b76), .val (.ref b90), .unset, .unset, .unset, .unset, .unset] [(.int (m' - k')), (.int (o' + k')), (.ref b76), (.ref b90)])) rfl (by rw [hml]; rfl) (Steps.refl _) (argsL := [(.ref b76), (.int (o' + k')), (.int (m' - k'))]) (rest := []) (lenOf pd0_2 rfl) rfl (by show 2 * 0 + _ ≤ _; exact Nat.le_of_eq rfl) (hb hby at_411) (fun _ _ => ⟨rfl, rfl, (by decide : 7 + 0 ≤ _), (by decide : 57 + 0 ≤ _)⟩)
      dsimp only [Pt.U, Pt.locs, Pt.cells, Pt.slots] at X98 l98 y98 z98 st98 hQ98
      subst l98 y98 z98
      obtain ⟨rfl, N98q, Kq98, F_difference_b90, F_written_b90, F_expected_b90⟩ := hQ98
      have N98 := Fr.app N97 N98q
      have V_b14 := V_b14.keep Kq98 (ninS ne_b14_b90 nin0)
      have E_b24 := E_b24.keep Kq98
      have V_b24 := V_b24.keep Kq98 (ninS ne_b24_b90 nin0)
      have V_b58 := V_b58.keep Kq98 (ninS ne_b58_b90 nin0)
      have V_b76 := V_b76.keep Kq98 (ninS ne_b76_b90 nin0)
      have E_b90 := E_b90.keep Kq98
      have Zs98 : n0 ≤ T98.heap.size := Nat.le_trans Zs97 Kq98.1
      have hk := Nat.le_trans hk Kq98.1
      have K98 : Keep h0 T98.heap [] := K97.trans Kq98 (allS (Or.inr sz_b90) all0)
      have pre99 : ∀ t, Steps p.tables e below (T98.setTop (mkF m 414 #[.val (.int eb'), .val (.int wb'), .val (.int ct'), .val (.int jk'), .val (.int n'), .val (.int m'), .val (.int k'), .val (.int sg'), .val (.int o'), .val (.ref b14), .val (.ref b24), .val (.ref b58), .val (.ref b76), .val (.ref b90), .unset, .unset, .unset, .unset, .unset] [])) t → Steps p.tables e below (s₁.setTop (entryFrame m #[(.int eb'), (.int wb'), (.int ct'), (.int jk')] maxLocals)) t := by
        intro t kt
        refine pre95 t ?_
        show Steps p.tables e below (T91.setTop (mkF m 285 #[.val (.int eb'), .val (.int wb'), .val (.int ct'), .val (.int jk'), .val (.int n'), .val (.int m'), .val (.int k'), .val (.int sg'), .val (.int o'), .val (.ref b14), .val (.ref b24), .val (.ref b58), .val (.ref b76), .val (.ref b90), .unset, .unset, .unset, .unset, .unset] [(.int sg')])) _
        refine XS.ifYes X91.here hx rfl (pc0 := 285) (pc' := 386) rfl (hb hby at_285) rfl ((if0 _ _).trans (teq hc285_96).1) (by decide) (by decide) ?_
        show Steps p.tables e below (T91.setTop (mkF m 386 #[.val (.int eb'), .val (.int wb'), .val (.int ct'), .val (.int jk'), .val (.int n'), .val (.int m'), .val (.int k'), .val (.int sg'), .val (.int o'), .val (.ref b14), .val (.ref b24), .val (.ref b58), .val (.ref b76), .val (.ref b90), .unset, .unset, .unset, .unset, .unset] [])) _
        refine XS.aload X91.here hx rfl (hb hby at_386) rfl rfl ?_
        show Steps p.tables e below (T91.setTop (mkF m 388 #[.val (.int eb'), .val (.int wb'), .val (.int ct'), .val (.int jk'), .val (.int n'), .val (.int m'), .val (.int k'), .val (.int sg'), .val (.int o'), .val (.ref b14), .val (.ref b24), .val (.ref b58), .val (.ref b76), .val (.ref b90), .unset, .unset, .unset, .unset, .unset] [(.ref b90)])) _
        refine XS.aload X91.here hx rfl (hb hby at_388) rfl rfl ?_
        show Steps p.tables e below (T91.setTop (mkF m 390 #[.val (.int eb'), .val (.int wb'), .val (.int ct'), .val (.int jk'), .val (.int n'), .val (.int m'), .val (.int k'), .val (.int sg'), .val (.int o'), .val (.ref b14), .val (.ref b24), .val (.ref b58), .val (.ref b76), .val (.ref b90), .unset, .unset, .unset, .unset, .unset] [(.ref b76), (.ref b90)])) _
        refine XS.iload X91.here hx rfl (hb hby at_390) rfl ?_
        show Steps p.tables e below (T91.setTop (mkF m 392 #[.val (.int eb'), .val (.int wb'), .val (.int ct'), .val (.int jk'), .val (.int n'), .val (.int m'), .val (.int k'), .val (.int sg'), .val (.int o'), .val (.ref b14), .val (.ref b24), .val (.ref b58), .val (.ref b76), .val (.ref b90), .unset, .unset, .unset, .unset, .unset] [(.int o'), (.ref b76), (.ref b90)])) _
        refine XS.iload X91.here hx rfl (hb hby at_392) rfl ?_
        show Steps p.tables e below (T91.setTop (mkF m 394 #[.val (.int eb'), .val (.int wb'), .val (.int ct'), .val (.int jk'), .val (.int n'), .val (.int m'), .val (.int k'), .val (.int sg'), .val (.int o'), .val (.ref b14), .val (.ref b24), .val (.ref b58), .val (.ref b76), .val (.ref b90), .unset, .unset, .unset, .unset, .unset] [(.int k'), (.int o'), (.ref b76), (.ref b90)])) _
        refine st97.trans ?_
        show Steps p.tables e below (T97.setTop (mkF m 397 #[.val (.int eb'), .val (.int wb'), .val (.int ct'), .val (.int jk'), .val (.int n'), .val (.int m'), .val (.int k'), .val (.int sg'), .val (.int o'), .val (.ref b14), .val (.ref b24), .val (.ref b58), .val (.ref b76), .val (.ref b90), .unset, .unset, .unset, .unset, .unset] [])) _
        refine XS.aload X97.here hx rfl (hb hby at_397) rfl rfl ?_
        show Steps p.tables e below (T97.setTop (mkF m 399 #[.val (.int eb'), .val (.int wb'), .val (.int ct'), .val (.int jk'), .val (.int n'), .val (.int m'), .val (.int k'), .val (.int sg'), .val (.int o'), .val (.ref b14), .val (.ref b24), .val (.ref b58), .val (.ref b76), .val (.ref b90), .unset, .unset, .unset, .unset, .unset] [(.ref b90)])) _
        refine XS.aload X97.here hx rfl (hb hby at_399) rfl rfl ?_
        show Steps p.tables e below (T97.setTop (mkF m 401 #[.val (.int eb'), .val (.int wb'), .val (.int ct'), .val (.int jk'), .val (.int n'), .val (.int m'), .val (.int k'), .val (.int sg'), .val (.int o'), .val (.ref b14), .val (.ref b24), .val (.ref b58), .val (.ref b76), .val (.ref b90), .unset, .unset, .unset, .unset, .unset] [(.ref b76), (.ref b90)])) _
        refine XS.iload X97.here hx rfl (hb hby at_401) rfl ?_
        show Steps p.tables e below (T97.setTop (mkF m 403 #[.val (.int eb'), .val (.int wb'), .val (.int ct'), .val (.int jk'), .val (.int n'), .val (.int m'), .val (.int k'), .val (.int sg'), .val (.int o'), .val (.ref b14), .val (.ref b24), .val (.ref b58), .val (.ref b76), .val (.ref b90), .unset, .unset, .unset, .unset, .unset] [(.int o'), (.ref b76), (.ref b90)])) _
        refine XS.iload X97.here hx rfl (hb hby at_403) rfl ?_
        show Steps p.tables e below (T97.setTop (mkF m 405 #[.val (.int eb'), .val (.int wb'), .val (.int ct'), .val (.int jk'), .val (.int n'), .val (.int m'), .val (.int k'), .val (.int sg'), .val (.int o'), .val (.ref b14), .val (.ref b24), .val (.ref b58), .val (.ref b76), .val (.ref b90), .unset, .unset, .unset, .unset, .unset] [(.int k'), (.int o'), (.ref b76), (.ref b90)])) _
        refine XS.iadd X97.here hx rfl (hb hby at_405) rfl ?_
        show Steps p.tables e below (T97.setTop (mkF m 406 #[.val (.int eb'), .val (.int wb'), .val (.int ct'), .val (.int jk'), .val (.int n'), .val (.int m'), .val (.int k'), .val (.int sg'), .val (.int o'), .val (.ref b14), .val (.ref b24), .val (.ref b58), .val (.ref b76), .val (.ref b90), .unset, .unset, .unset, .unset, .unset] [(.int (o' + k')), (.ref b76), (.ref b90)])) _
        refine XS.iload X97.here hx rfl (hb hby at_406) rfl ?_
        show Steps p.tables e below (T97.setTop (mkF m 408 #[.val (.int eb'), .val (.int wb'), .val (.int ct'), .val (.int jk'), .val (.int n'), .val (.int m'), .val (.int k'), .val (.int sg'), .val (.int o'), .val (.ref b14), .val (.ref b24), .val (.ref b58), .val (.ref b76), .val (.ref b90), .unset, .unset, .unset, .unset, .unset] [(.int m'), (.int (o' + k')), (.ref b76), (.ref b90)])) _
        refine XS.iload X97.here hx rfl (hb hby at_408) rfl ?_
        show Steps p.tables e below (T97.setTop (mkF m 410 #[.val (.int eb'), .val (.int wb'), .val (.int ct'), .val (.int jk'), .val (.int n'), .val (.int m'), .val (.int k'), .val (.int sg'), .val (.int o'), .val (.ref b14), .val (.ref b24), .val (.ref b58), .val (.ref b76), .val (.ref b90), .unset, .unset, .unset, .unset, .unset] [(.int k'), (.int m'), (.int (o' + k')), (.ref b76), (.ref b90)])) _
        refine XS.isub X97.here hx rfl (hb hby at_410) rfl ?_
        show Steps p.tables e below (T97.setTop (mkF m 411 #[.val (.int eb'), .val (.int wb'), .val (.int ct'), .val (.int jk'), .val (.int n'), .val (.int m'), .val (.int k'), .val (.int sg'), .val (.int o'), .val (.ref b14), .val (.ref b24), .val (.ref b58), .val (.ref b76), .val (.ref b90), .unset, .unset, .unset, .unset, .unset] [(.int (m' - k')), (.int (o' + k')), (.ref b76), (.ref b90)])) _
        refine st98.trans ?_
        exact kt
      have own_l := own_two fw fe fx3 fb N M o' k' m' n' ho hk6 hm hM hN hN4 hfb hfx
      exact ⟨T98, _, _, (own_wd (own_wd (-1 : Int64) (0 : Int64) fb o' k' n' fx3) ((0 : Int64) + (k'.toInt64)) fb (o' + k') (m' - k') n' fx3), (((0 : Int64) + (k'.toInt64)) + ((m' - k').toInt64)), (X98.more (by decide) (by decide)), rfl, N98, Zs98, K98, hk, V_b14, E_b24, V_b24, V_b58, V_b76, E_b90, F_difference_b90, F_written_b90, F_expected_b90, own_l.1, own_l.2, pre99⟩
    · have pre100 : ∀ t, Steps p.tables e below (T91.setTop (mkF m 288 #[.val (.int eb'), .val (.int wb'), .val (.int ct'), .val (.int jk'), .val (.int n'), .val (.int m'), .val (.int k'), .val (.int sg'), .val (.int o'), .val (.ref b14), .val (.ref b24), .val (.ref b58), .val (.ref b76), .val (.ref b90), .unset, .unset, .unset, .unset, .unset] [])) t → Steps p.tables e below (s₁.setTop (entryFrame m #[(.int eb'), (.int wb'), (.int ct'), (.int jk')] maxLocals)) t := by
        intro t kt
        refine pre95 t ?_
        show Steps p.tables e below (T91.setTop (mkF m 285 #[.val (.int eb'), .val (.int wb'), .val (.int ct'), .val (.int jk'), .val (.int n'), .val (.int m'), .val (.int k'), .val (.int sg'), .val (.int o'), .val (.ref b14), .val (.ref b24), .val (.ref b58), .val (.ref b76), .val (.ref b90), .unset, .unset, .unset, .unset, .unset] [(.int sg')])) _
        refine XS.ifNo X91.here hx rfl (hb hby at_285) rfl ((if0 _ _).trans (feq hc285_96).1) ?_
        exact kt
      have hr_0 : (0 : Int64).toInt = ((min M 0 : Nat) : Int) := by rw [Nat.min_zero]; rfl
      have hd_0 : (-1 : Int64).toInt = own_D fw fe N (min M 0) := by rw [Nat.min_zero]; rfl
      have hbd := own_stb hM4 hr_0
      have J101 : ∃ (T' : State) (h' : Heap) (L' : List Loc) (d_1 : Int64) (r_1 : Int64) , Stand p l e room_1 (s.setVm T91.vm) m #[(.int eb'), (.int wb'), (.int ct'), (.int jk')] below meth c T' L' 8 58 ∧ T'.heap = h' ∧ Fr n0 L' ∧ n0 ≤ h'.size ∧ Keep h0 h' [] ∧ T91.heap.size ≤ h'.size ∧ own_A Z h' b14 .byte (4 : Int32) fe ∧ Exa Z h' b24 "[B" ∧ own_A Z h' b24 .byte n' fx3 ∧ own_A Z h' b58 .byte (4 : Int32) fw ∧ own_A Z h' b76 .byte (6 : Int32) fb ∧ Exa Z h' b90 "com/example/bytelace/bytelace/cli/FirstDifference" ∧ Fld Z h' b90 "com/example/bytelace/bytelace/cli/FirstDifference" "difference" "J" (.long d_1) ∧ Fld Z h' b90 "com/example/bytelace/bytelace/cli/FirstDifference" "written" "J" (.long r_1) ∧ Fld Z h' b90 "com/example/bytelace/bytelace/cli/FirstDifference" "expected" "[B" (.ref b24) ∧ r_1.toInt = ((min M 1 : Nat) : Int) ∧ d_1.toInt = own_D fw fe N (min M 1) ∧ ∀ t, Steps p.tables e below (T'.setTop (mkF m 311 #[.val (.int eb'), .val (.int wb'), .val (.int ct'), .val (.int jk'), .val (.int n'), .val (.int m'), .val (.int k'), .val (.int sg'), .val (.int o'), .val (.ref b14), .val (.ref b24), .val (.ref b58), .val (.ref b76), .val (.ref b90), .unset, .unset, .unset, .unset, .unset] [])) t → Steps p.tables e below (s₁.setTop (entryFrame m #[(.int eb'), (.int wb'), (.int ct'), (.int jk')] maxLocals)) t := by
        have pre102 : ∀ t, Steps p.tables e below (T91.setTop (mkF m 290 #[.val (.int eb'), .val (.int wb'), .val (.int ct'), .val (.int jk'), .val (.int n'), .val (.int m'), .val (.int k'), .val (.int sg'), .val (.int o'), .val (.ref b14), .val (.ref b24), .val (.ref b58), .val (.ref b76), .val (.ref b90), .unset, .unset, .unset, .unset, .unset] [(.int m')])) t → Steps p.tables e below (s₁.setTop (entryFrame m #[(.int eb'), (.int wb'), (.int ct'), (.int jk')] maxLocals)) t := by
          intro t kt
          refine pre100 t ?_
          show Steps p.tables e below (T91.setTop (mkF m 288 #[.val (.int eb'), .val (.int wb'), .val (.int ct'), .val (.int jk'), .val (.int n'), .val (.int m'), .val (.int k'), .val (.int sg'), .val (.int o'), .val (.ref b14), .val (.ref b24), .val (.ref b58), .val (.ref b76), .val (.ref b90), .unset, .unset, .unset, .unset, .unset] [])) _
          refine XS.iload X91.here hx rfl (hb hby at_288) rfl ?_
          exact kt
        by_cases hc290_103 : (0 : Int32) < m'
        · obtain ⟨cl298104, Ar298104, S298104, M298104, H298104⟩ := id V_b58
          have hin298104 : ¬ ((0 : Int32) < 0 ∨ cl298104.slots.size ≤ ((0 : Int32)).toNatClampNeg) := inb_of S298104 ⟨by decide, by decide⟩
          have hat298104 := own_A.at S298104 H298104 hin298104
          obtain ⟨cq105, kq105, q105a, q105b, q105c⟩ := isOf hZ rfl E_b90
          obtain ⟨_, _, ⟨T105, L105, k105, n105⟩, -, X105, ⟨Lc105, hQ105, l105, y105, z105⟩, st105⟩ := X91.virtualBack hx (y := (⟨"com/example/bytelace/bytelace/cli/FirstDifference", "write", "(I)V"⟩ : MethodName)) (z := (⟨"com/example/bytelace/bytelace/cli/FirstDifference", "write", "(I)V"⟩ : MethodName)) hown (mvT hZ (hw _ (List.mem_of_getElem? (i := 75) rfl))) (mvT hZ (hw _ (List.mem_of_getElem? (i := 76) rfl))) (notFace_of_selects (args := #[]) (mvT hZ (hw _ (List.mem_of_getElem? (i := 78) rfl)))) (mvT hZ (hw _ (List.mem_of_getElem? (i := 78) rfl))) (mvT hZ (hw _ (List.mem_of_getElem? (i := 77) rfl))) (by decide) (backOf (W := 0) (rm15 l Z a0 hw [] b90 (((fw ((0 : Int32)).toNatClampNeg) &&& (255 : Int32)) ||| (jk' <<< ((8 : Int32) &&& 31))) (-1 : Int64) (0 : Int64) b24 n' fx3 T91.heap n0 Zs91 E_b90 F_difference_b90 F_written_b90 F_expected_b90 g_b90 V_b24 hbd hn ne_b24_b90) hZ (hw _ (List.mem_of_getElem? (i := 79) rfl)) (hw _ (List.mem_of_getElem? (i := 7) rfl)) (by decide) (by decide)) q105a q105c (g := (mkF m 308 #[.val (.int eb'), .val (.int wb'), .val (.int ct'), .val (.int jk'), .val (.int n'), .val (.int m'), .val (.int k'), .val (.int sg'), .val (.int o'), .val (.ref b14), .val (.ref b24), .val (.ref b58), .val (.ref b76), .val (.ref b90), .unset, .unset, .unset, .unset, .unset] [(.int (((fw ((0 : Int32)).toNatClampNeg) &&& (255 : Int32)) ||| (jk' <<< ((8 : Int32) &&& 31)))), (.ref b90)])) rfl (by rw [hml]; rfl) (Steps.refl _) (argsL := [(.int (((fw ((0 : Int32)).toNatClampNeg) &&& (255 : Int32)) ||| (jk' <<< ((8 : Int32) &&& 31))))]) (rest := []) (lenOf pd0_3 rfl) rfl (by show 2 * 0 + _ ≤ _; exact Nat.le_of_eq rfl) (hb hby at_308) (fun _ _ => ⟨rfl, rfl, (by decide : 7 + 1 ≤ _), (by decide : 57 + 1 ≤ _)⟩)
          dsimp only [Pt.U, Pt.locs, Pt.cells, Pt.slots] at X105 l105 y105 z105 st105 hQ105
          subst l105 y105 z105
          obtain ⟨rfl, N105q, Kq105, F_difference_b90, F_written_b90, F_expected_b90⟩ := hQ105
          have N105 := Fr.app N91 N105q
          have V_b14 := V_b14.keep Kq105 (ninS ne_b14_b90 nin0)
          have E_b24 := E_b24.keep Kq105
          have V_b24 := V_b24.keep Kq105 (ninS ne_b24_b90 nin0)
          have V_b58 := V_b58.keep Kq105 (ninS ne_b58_b90 nin0)
          have V_b76 := V_b76.keep Kq105 (ninS ne_b76_b90 nin0)
          have E_b90 := E_b90.keep Kq105
          have Zs105 : n0 ≤ T105.heap.size := Nat.le_trans Zs91 Kq105.1
          have hk := Nat.le_trans hk Kq105.1
          have K105 : Keep h0 T105.heap [] := K91.trans Kq105 (allS (Or.inr sz_b90) all0)
          have pre106 : ∀ t, Steps p.tables e below (T105.setTop (mkF m 311 #[.val (.int eb'), .val (.int wb'), .val (.int ct'), .val (.int jk'), .val (.int n'), .val (.int m'), .val (.int k'), .val (.int sg'), .val (.int o'), .val (.ref b14), .val (.ref b24), .val (.ref b58), .val (.ref b76), .val (.ref b90), .unset, .unset, .unset, .unset, .unset] [])) t → Steps p.tables e below (s₁.setTop (entryFrame m #[(.int eb'), (.int wb'), (.int ct'), (.int jk')] maxLocals)) t := by
            intro t kt
            refine pre102 t ?_
            show Steps p.tables e below (T91.setTop (mkF m 290 #[.val (.int eb'), .val (.int wb'), .val (.int ct'), .val (.int jk'), .val (.int n'), .val (.int m'), .val (.int k'), .val (.int sg'), .val (.int o'), .val (.ref b14), .val (.ref b24), .val (.ref b58), .val (.ref b76), .val (.ref b90), .unset, .unset, .unset, .unset, .unset] [(.int m')])) _
            refine XS.ifNo X91.here hx rfl (hb hby at_290) rfl ((if0 _ _).trans (tlt hc290_103).2.2.2) ?_
            show Steps p.tables e below (T91.setTop (mkF m 293 #[.val (.int eb'), .val (.int wb'), .val (.int ct'), .val (.int jk'), .val (.int n'), .val (.int m'), .val (.int k'), .val (.int sg'), .val (.int o'), .val (.ref b14), .val (.ref b24), .val (.ref b58), .val (.ref b76), .val (.ref b90), .unset, .unset, .unset, .unset, .unset] [])) _
            refine XS.aload X91.here hx rfl (hb hby at_293) rfl rfl ?_
            show Steps p.tables e below (T91.setTop (mkF m 295 #[.val (.int eb'), .val (.int wb'), .val (.int ct'), .val (.int jk'), .val (.int n'), .val (.int m'), .val (.int k'), .val (.int sg'), .val (.int o'), .val (.ref b14), .val (.ref b24), .val (.ref b58), .val (.ref b76), .val (.ref b90), .unset, .unset, .unset, .unset, .unset] [(.ref b90)])) _
            refine XS.aload X91.here hx rfl (hb hby at_295) rfl rfl ?_
            show Steps p.tables e below (T91.setTop (mkF m 297 #[.val (.int eb'), .val (.int wb'), .val (.int ct'), .val (.int jk'), .val (.int n'), .val (.int m'), .val (.int k'), .val (.int sg'), .val (.int o'), .val (.ref b14), .val (.ref b24), .val (.ref b58), .val (.ref b76), .val (.ref b90), .unset, .unset, .unset, .unset, .unset] [(.ref b58), (.ref b90)])) _
            refine XS.iconst X91.here hx rfl (hb hby at_297) ?_
            show Steps p.tables e below (T91.setTop (mkF m 298 #[.val (.int eb'), .val (.int wb'), .val (.int ct'), .val (.int jk'), .val (.int n'), .val (.int m'), .val (.int k'), .val (.int sg'), .val (.int o'), .val (.ref b14), .val (.ref b24), .val (.ref b58), .val (.ref b76), .val (.ref b90), .unset, .unset, .unset, .unset, .unset] [(.int (0 : Int32)), (.ref b58), (.ref b90)])) _
            refine X91.baloadBytes hx (j := (0 : Int32)) (v := (.int (fw ((0 : Int32)).toNatClampNeg))) Ar298104.1 (State.isArrayOf_alike hZ.alike Ar298104.2.1) Ar298104.2.2 hin298104 hat298104 (g := (mkF m 298 #[.val (.int eb'), .val (.int wb'), .val (.int ct'), .val (.int jk'), .val (.int n'), .val (.int m'), .val (.int k'), .val (.int sg'), .val (.int o'), .val (.ref b14), .val (.ref b24), .val (.ref b58), .val (.ref b76), .val (.ref b90), .unset, .unset, .unset, .unset, .unset] [(.int (0 : Int32)), (.ref b58), (.ref b90)])) rfl rfl (hb hby at_298) _ ?_
            show Steps p.tables e below (T91.setTop (mkF m 299 #[.val (.int eb'), .val (.int wb'), .val (.int ct'), .val (.int jk'), .val (.int n'), .val (.int m'), .val (.int k'), .val (.int sg'), .val (.int o'), .val (.ref b14), .val (.ref b24), .val (.ref b58), .val (.ref b76), .val (.ref b90), .unset, .unset, .unset, .unset, .unset] [(.int (fw ((0 : Int32)).toNatClampNeg)), (.ref b90)])) _
            refine XS.sipush X91.here hx rfl (hb hby at_299) ?_
            show Steps p.tables e below (T91.setTop (mkF m 302 #[.val (.int eb'), .val (.int wb'), .val (.int ct'), .val (.int jk'), .val (.int n'), .val (.int m'), .val (.int k'), .val (.int sg'), .val (.int o'), .val (.ref b14), .val (.ref b24), .val (.ref b58), .val (.ref b76), .val (.ref b90), .unset, .unset, .unset, .unset, .unset] [(.int (255 : Int32)), (.int (fw ((0 : Int32)).toNatClampNeg)), (.ref b90)])) _
            refine XS.iand X91.here hx rfl (hb hby at_302) rfl ?_
            show Steps p.tables e below (T91.setTop (mkF m 303 #[.val (.int eb'), .val (.int wb'), .val (.int ct'), .val (.int jk'), .val (.int n'), .val (.int m'), .val (.int k'), .val (.int sg'), .val (.int o'), .val (.ref b14), .val (.ref b24), .val (.ref b58), .val (.ref b76), .val (.ref b90), .unset, .unset, .unset, .unset, .unset] [(.int ((fw ((0 : Int32)).toNatClampNeg) &&& (255 : Int32))), (.ref b90)])) _
            refine XS.iloadN X91.here hx rfl (hb hby at_303) rfl ?_
            show Steps p.tables e below (T91.setTop (mkF m 304 #[.val (.int eb'), .val (.int wb'), .val (.int ct'), .val (.int jk'), .val (.int n'), .val (.int m'), .val (.int k'), .val (.int sg'), .val (.int o'), .val (.ref b14), .val (.ref b24), .val (.ref b58), .val (.ref b76), .val (.ref b90), .unset, .unset, .unset, .unset, .unset] [(.int jk'), (.int ((fw ((0 : Int32)).toNatClampNeg) &&& (255 : Int32))), (.ref b90)])) _
            refine XS.bipush X91.here hx rfl (hb hby at_304) ?_
            show Steps p.tables e below (T91.setTop (mkF m 306 #[.val (.int eb'), .val (.int wb'), .val (.int ct'), .val (.int jk'), .val (.int n'), .val (.int m'), .val (.int k'), .val (.int sg'), .val (.int o'), .val (.ref b14), .val (.ref b24), .val (.ref b58), .val (.ref b76), .val (.ref b90), .unset, .unset, .unset, .unset, .unset] [(.int (8 : Int32)), (.int jk'), (.int ((fw ((0 : Int32)).toNatClampNeg) &&& (255 : Int32))), (.ref b90)])) _
            refine XS.ishl X91.here hx rfl (hb hby at_306) rfl ?_
            show Steps p.tables e below (T91.setTop (mkF m 307 #[.val (.int eb'), .val (.int wb'), .val (.int ct'), .val (.int jk'), .val (.int n'), .val (.int m'), .val (.int k'), .val (.int sg'), .val (.int o'), .val (.ref b14), .val (.ref b24), .val (.ref b58), .val (.ref b76), .val (.ref b90), .unset, .unset, .unset, .unset, .unset] [(.int (jk' <<< ((8 : Int32) &&& 31))), (.int ((fw ((0 : Int32)).toNatClampNeg) &&& (255 : Int32))), (.ref b90)])) _
            refine XS.ior X91.here hx rfl (hb hby at_307) rfl ?_
            show Steps p.tables e below (T91.setTop (mkF m 308 #[.val (.int eb'), .val (.int wb'), .val (.int ct'), .val (.int jk'), .val (.int n'), .val (.int m'), .val (.int k'), .val (.int sg'), .val (.int o'), .val (.ref b14), .val (.ref b24), .val (.ref b58), .val (.ref b76), .val (.ref b90), .unset, .unset, .unset, .unset, .unset] [(.int (((fw ((0 : Int32)).toNatClampNeg) &&& (255 : Int32)) ||| (jk' <<< ((8 : Int32) &&& 31)))), (.ref b90)])) _
            refine st105.trans ?_
            exact kt
          exact ⟨T105, _, _, (own_wd (-1 : Int64) (0 : Int64) (own_upd (fun _ => 0) ((0 : Int32)).toNatClampNeg (nar .byte ((((fw ((0 : Int32)).toNatClampNeg) &&& (255 : Int32)) ||| (jk' <<< ((8 : Int32) &&& 31))).toInt8.toInt32))) (0 : Int32) (1 : Int32) n' fx3), ((0 : Int64) + ((1 : Int32).toInt64)), (X105.more (by decide) (by decide)), rfl, N105, Zs105, K105, hk, V_b14, E_b24, V_b24, V_b58, V_b76, E_b90, F_difference_b90, F_written_b90, F_expected_b90, (own_st1 fw fe fx3 N M 0 m' n' (0 : Int32) jk' _ _ hM hN hN4 rfl (by decide) hc290_103 hfw hfx hr_0 hd_0).1, (own_st1 fw fe fx3 N M 0 m' n' (0 : Int32) jk' _ _ hM hN hN4 rfl (by decide) hc290_103 hfw hfx hr_0 hd_0).2, pre106⟩
        · have pre107 : ∀ t, Steps p.tables e below (T91.setTop (mkF m 311 #[.val (.int eb'), .val (.int wb'), .val (.int ct'), .val (.int jk'), .val (.int n'), .val (.int m'), .val (.int k'), .val (.int sg'), .val (.int o'), .val (.ref b14), .val (.ref b24), .val (.ref b58), .val (.ref b76), .val (.ref b90), .unset, .unset, .unset, .unset, .unset] [])) t → Steps p.tables e below (s₁.setTop (entryFrame m #[(.int eb'), (.int wb'), (.int ct'), (.int jk')] maxLocals)) t := by
            intro t kt
            refine pre102 t ?_
            show Steps p.tables e below (T91.setTop (mkF m 290 #[.val (.int eb'), .val (.int wb'), .val (.int ct'), .val (.int jk'), .val (.int n'), .val (.int m'), .val (.int k'), .val (.int sg'), .val (.int o'), .val (.ref b14), .val (.ref b24), .val (.ref b58), .val (.ref b76), .val (.ref b90), .unset, .unset, .unset, .unset, .unset] [(.int m')])) _
            refine XS.ifYes X91.here hx rfl (pc0 := 290) (pc' := 311) rfl (hb hby at_290) rfl ((if0 _ _).trans (flt hc290_103).2.2.2) (by decide) (by decide) ?_
            exact kt
          exact ⟨T91, _, _, (-1 : Int64), (0 : Int64), (X91.more (by decide) (by decide)), rfl, N91, Zs91, K91, hk, V_b14, E_b24, V_b24, V_b58, V_b76, E_b90, F_difference_b90, F_written_b90, F_expected_b90, (own_st0 fw fe N M 0 m' (0 : Int32) _ _ hM rfl hc290_103 hr_0 hd_0).1, (own_st0 fw fe N M 0 m' (0 : Int32) _ _ hM rfl hc290_103 hr_0 hd_0).2, pre107⟩
      obtain ⟨T101, h101, L101, d_1, r_1, X101, e101, N101, Zs101, K101, hk, V_b14, E_b24, V_b24, V_b58, V_b76, E_b90, F_difference_b90, F_written_b90, F_expected_b90, hr_1, hd_1, pre101⟩ := J101
      have hbd := own_stb hM4 hr_1
      have J108 : ∃ (T' : State) (h' : Heap) (L' : List Loc) (d_2 : Int64) (r_2 : Int64) , Stand p l e room_1 (s.setVm T91.vm) m #[(.int eb'), (.int wb'), (.int ct'), (.int jk')] below meth c T' L' 9 59 ∧ T'.heap = h' ∧ Fr n0 L' ∧ n0 ≤ h'.size ∧ Keep h0 h' [] ∧ T91.heap.size ≤ h'.size ∧ own_A Z h' b14 .byte (4 : Int32) fe ∧ Exa Z h' b24 "[B" ∧ own_A Z h' b24 .byte n' fx3 ∧ own_A Z h' b58 .byte (4 : Int32) fw ∧ own_A Z h' b76 .byte (6 : Int32) fb ∧ Exa Z h' b90 "com/example/bytelace/bytelace/cli/FirstDifference" ∧ Fld Z h' b90 "com/example/bytelace/bytelace/cli/FirstDifference" "difference" "J" (.long d_2) ∧ Fld Z h' b90 "com/example/bytelace/bytelace/cli/FirstDifference" "written" "J" (.long r_2) ∧ Fld Z h' b90 "com/example/bytelace/bytelace/cli/FirstDifference" "expected" "[B" (.ref b24) ∧ r_2.toInt = ((min M 2 : Nat) : Int) ∧ d_2.toInt = own_D fw fe N (min M 2) ∧ ∀ t, Steps p.tables e below (T'.setTop (mkF m 335 #[.val (.int eb'), .val (.int wb'), .val (.int ct'), .val (.int jk'), .val (.int n'), .val (.int m'), .val (.int k'), .val (.int sg'), .val (.int o'), .val (.ref b14), .val (.ref b24), .val (.ref b58), .val (.ref b76), .val (.ref b90), .unset, .unset, .unset, .unset, .unset] [])) t → Steps p.tables e below (s₁.setTop (entryFrame m #[(.int eb'), (.int wb'), (.int ct'), (.int jk')] maxLocals)) t := by
        have pre109 : ∀ t, Steps p.tables e below (T101.setTop (mkF m 314 #[.val (.int eb'), .val (.int wb'), .val (.int ct'), .val (.int jk'), .val (.int n'), .val (.int m'), .val (.int k'), .val (.int sg'), .val (.int o'), .val (.ref b14), .val (.ref b24), .val (.ref b58), .val (.ref b76), .val (.ref b90), .unset, .unset, .unset, .unset, .unset] [(.int (1 : Int32)), (.int m')])) t → Steps p.tables e below (s₁.setTop (entryFrame m #[(.int eb'), (.int wb'), (.int ct'), (.int jk')] maxLocals)) t := by
          intro t kt
          refine pre101 t ?_
          show Steps p.tables e below (T101.setTop (mkF m 311 #[.val (.int eb'), .val (.int wb'), .val (.int ct'), .val (.int jk'), .val (.int n'), .val (.int m'), .val (.int k'), .val (.int sg'), .val (.int o'), .val (.ref b14), .val (.ref b24), .val (.ref b58), .val (.ref b76), .val (.ref b90), .unset, .unset, .unset, .unset, .unset] [])) _
          refine XS.iload X101.here hx rfl (hb hby at_311) rfl ?_
          show Steps p.tables e below (T101.setTop (mkF m 313 #[.val (.int eb'), .val (.int wb'), .val (.int ct'), .val (.int jk'), .val (.int n'), .val (.int m'), .val (.int k'), .val (.int sg'), .val (.int o'), .val (.ref b14), .val (.ref b24), .val (.ref b58), .val (.ref b76), .val (.ref b90), .unset, .unset, .unset, .unset, .unset] [(.int m')])) _
          refine XS.iconst X101.here hx rfl (hb hby at_313) ?_
          exact kt
        by_cases hc314_110 : (1 : Int32) < m'
        · obtain ⟨cl322111, Ar322111, S322111, M322111, H322111⟩ := id V_b58
          have hin322111 : ¬ ((1 : Int32) < 0 ∨ cl322111.slots.size ≤ ((1 : Int32)).toNatClampNeg) := inb_of S322111 ⟨by decide, by decide⟩
          have hat322111 := own_A.at S322111 H322111 hin322111
          obtain ⟨cq112, kq112, q112a, q112b, q112c⟩ := isOf hZ e101 E_b90
          obtain ⟨_, _, ⟨T112, L112, k112, n112⟩, -, X112, ⟨Lc112, hQ112, l112, y112, z112⟩, st112⟩ := X101.virtualBack hx (y := (⟨"com/example/bytelace/bytelace/cli/FirstDifference", "write", "(I)V"⟩ : MethodName)) (z := (⟨"com/example/bytelace/bytelace/cli/FirstDifference", "write", "(I)V"⟩ : MethodName)) hown (mvT hZ (hw _ (List.mem_of_getElem? (i := 75) rfl))) (mvT hZ (hw _ (List.mem_of_getElem? (i := 76) rfl))) (notFace_of_selects (args := #[]) (mvT hZ (hw _ (List.mem_of_getElem? (i := 78) rfl)))) (mvT hZ (hw _ (List.mem_of_getElem? (i := 78) rfl))) (mvT hZ (hw _ (List.mem_of_getElem? (i := 77) rfl))) (by decide) (backOf (W := 0) (rm15 l Z a0 hw [] b90 (((fw ((1 : Int32)).toNatClampNeg) &&& (255 : Int32)) ||| (jk' <<< ((8 : Int32) &&& 31))) d_1 r_1 b24 n' fx3 h101 n0 Zs101 E_b90 F_difference_b90 F_written_b90 F_expected_b90 g_b90 V_b24 hbd hn ne_b24_b90) hZ (hw _ (List.mem_of_getElem? (i := 79) rfl)) (hw _ (List.mem_of_getElem? (i := 7) rfl)) (by decide) (by decide)) q112a q112c (g := (mkF m 332 #[.val (.int eb'), .val (.int wb'), .val (.int ct'), .val (.int jk'), .val (.int n'), .val (.int m'), .val (.int k'), .val (.int sg'), .val (.int o'), .val (.ref b14), .val (.ref b24), .val (.ref b58), .val (.ref b76), .val (.ref b90), .unset, .unset, .unset, .unset, .unset] [(.int (((fw ((1 : Int32)).toNatClampNeg) &&& (255 : Int32)) ||| (jk' <<< ((8 : Int32) &&& 31)))), (.ref b90)])) rfl (by rw [hml]; rfl) (Steps.refl _) (argsL := [(.int (((fw ((1 : Int32)).toNatClampNeg) &&& (255 : Int32)) ||| (jk' <<< ((8 : Int32) &&& 31))))]) (rest := []) (lenOf pd0_3 rfl) rfl (by show 2 * 0 + _ ≤ _; exact Nat.le_of_eq rfl) (hb hby at_332) (fun _ _ => ⟨rfl, e101, (by decide : 8 + 1 ≤ _), (by decide : 58 + 1 ≤ _)⟩)
          dsimp only [Pt.U, Pt.locs, Pt.cells, Pt.slots] at X112 l112 y112 z112 st112 hQ112
          subst l112 y112 z112
          obtain ⟨rfl, N112q, Kq112, F_difference_b90, F_written_b90, F_expected_b90⟩ := hQ112
          have N112 := Fr.app N101 N112q
          have V_b14 := V_b14.keep Kq112 (ninS ne_b14_b90 nin0)
          have E_b24 := E_b24.keep Kq112
          have V_b24 := V_b24.keep Kq112 (ninS ne_b24_b90 nin0)
          have V_b58 := V_b58.keep Kq112 (ninS ne_b58_b90 nin0)
          have V_b76 := V_b76.keep Kq112 (ninS ne_b76_b90 nin0)
          have E_b90 := E_b90.keep Kq112
          have Zs112 : n0 ≤ T112.heap.size := Nat.le_trans Zs101 Kq112.1
          have hk := Nat.le_trans hk Kq112.1
          have K112 : Keep h0 T112.heap [] := K101.trans Kq112 (allS (Or.inr sz_b90) all0)
          have pre113 : ∀ t, Steps p.tables e below (T112.setTop (mkF m 335 #[.val (.int eb'), .val (.int wb'), .val (.int ct'), .val (.int jk'), .val (.int n'), .val (.int m'), .val (.int k'), .val (.int sg'), .val (.int o'), .val (.ref b14), .val (.ref b24), .val (.ref b58), .val (.ref b76), .val (.ref b90), .unset, .unset, .unset, .unset, .unset] [])) t → Steps p.tables e below (s₁.setTop (entryFrame m #[(.int eb'), (.int wb'), (.int ct'), (.int jk')] maxLocals)) t := by
            intro t kt
            refine pre109 t ?_
            show Steps p.tables e below (T101.setTop (mkF m 314 #[.val (.int eb'), .val (.int wb'), .val (.int ct'), .val (.int jk'), .val (.int n'), .val (.int m'), .val (.int k'), .val (.int sg'), .val (.int o'), .val (.ref b14), .val (.ref b24), .val (.ref b58), .val (.ref b76), .val (.ref b90), .unset, .unset, .unset, .unset, .unset] [(.int (1 : Int32)), (.int m')])) _
            refine XS.icmpNo X101.here hx rfl (hb hby at_314) rfl (tlt hc314_110).2.2.2 ?_
            show Steps p.tables e below (T101.setTop (mkF m 317 #[.val (.int eb'), .val (.int wb'), .val (.int ct'), .val (.int jk'), .val (.int n'), .val (.int m'), .val (.int k'), .val (.int sg'), .val (.int o'), .val (.ref b14), .val (.ref b24), .val (.ref b58), .val (.ref b76), .val (.ref b90), .unset, .unset, .unset, .unset, .unset] [])) _
            refine XS.aload X101.here hx rfl (hb hby at_317) rfl rfl ?_
            show Steps p.tables e below (T101.setTop (mkF m 319 #[.val (.int eb'), .val (.int wb'), .val (.int ct'), .val (.int jk'), .val (.int n'), .val (.int m'), .val (.int k'), .val (.int sg'), .val (.int o'), .val (.ref b14), .val (.ref b24), .val (.ref b58), .val (.ref b76), .val (.ref b90), .unset, .unset, .unset, .unset, .unset] [(.ref b90)])) _
            refine XS.aload X101.here hx rfl (hb hby at_319) rfl rfl ?_
            show Steps p.tables e below (T101.setTop (mkF m 321 #[.val (.int eb'), .val (.int wb'), .val (.int ct'), .val (.int jk'), .val (.int n'), .val (.int m'), .val (.int k'), .val (.int sg'), .val (.int o'), .val (.ref b14), .val (.ref b24), .val (.ref b58), .val (.ref b76), .val (.ref b90), .unset, .unset, .unset, .unset, .unset] [(.ref b58), (.ref b90)])) _
            refine XS.iconst X101.here hx rfl (hb hby at_321) ?_
            show Steps p.tables e below (T101.setTop (mkF m 322 #[.val (.int eb'), .val (.int wb'), .val (.int ct'), .val (.int jk'), .val (.int n'), .val (.int m'), .val (.int k'), .val (.int sg'), .val (.int o'), .val (.ref b14), .val (.ref b24), .val (.ref b58), .val (.ref b76), .val (.ref b90), .unset, .unset, .unset, .unset, .unset] [(.int (1 : Int32)), (.ref b58), (.ref b90)])) _
            refine X101.baloadBytes hx (j := (1 : Int32)) (v := (.int (fw ((1 : Int32)).toNatClampNeg))) (by rw [e101]; exact Ar322111.1) (State.isArrayOf_alike hZ.alike Ar322111.2.1) Ar322111.2.2 hin322111 hat322111 (g := (mkF m 322 #[.val (.int eb'), .val (.int wb'), .val (.int ct'), .val (.int jk'), .val (.int n'), .val (.int m'), .val (.int k'), .val (.int sg'), .val (.int o'), .val (.ref b14), .val (.ref b24), .val (.ref b58), .val (.ref b76), .val (.ref b90), .unset, .unset, .unset, .unset, .unset] [(.int (1 : Int32)), (.ref b58), (.ref b90)])) rfl rfl (hb hby at_322) _ ?_
            show Steps p.tables e below (T101.setTop (mkF m 323 #[.val (.int eb'), .val (.int wb'), .val (.int ct'), .val (.int jk'), .val (.int n'), .val (.int m'), .val (.int k'), .val (.int sg'), .val (.int o'), .val (.ref b14), .val (.ref b24), .val (.ref b58), .val (.ref b76), .val (.ref b90), .unset, .unset, .unset, .unset, .unset] [(.int (fw ((1 : Int32)).toNatClampNeg)), (.ref b90)])) _
            refine XS.sipush X101.here hx rfl (hb hby at_323) ?_
            show Steps p.tables e below (T101.setTop (mkF m 326 #[.val (.int eb'), .val (.int wb'), .val (.int ct'), .val (.int jk'), .val (.int n'), .val (.int m'), .val (.int k'), .val (.int sg'), .val (.int o'), .val (.ref b14), .val (.ref b24), .val (.ref b58), .val (.ref b76), .val (.ref b90), .unset, .unset, .unset, .unset, .unset] [(.int (255 : Int32)), (.int (fw ((1 : Int32)).toNatClampNeg)), (.ref b90)])) _
            refine XS.iand X101.here hx rfl (hb hby at_326) rfl ?_
            show Steps p.tables e below (T101.setTop (mkF m 327 #[.val (.int eb'), .val (.int wb'), .val (.int ct'), .val (.int jk'), .val (.int n'), .val (.int m'), .val (.int k'), .val (.int sg'), .val (.int o'), .val (.ref b14), .val (.ref b24), .val (.ref b58), .val (.ref b76), .val (.ref b90), .unset, .unset, .unset, .unset, .unset] [(.int ((fw ((1 : Int32)).toNatClampNeg) &&& (255 : Int32))), (.ref b90)])) _
            refine XS.iloadN X101.here hx rfl (hb hby at_327) rfl ?_
            show Steps p.tables e below (T101.setTop (mkF m 328 #[.val (.int eb'), .val (.int wb'), .val (.int ct'), .val (.int jk'), .val (.int n'), .val (.int m'), .val (.int k'), .val (.int sg'), .val (.int o'), .val (.ref b14), .val (.ref b24), .val (.ref b58), .val (.ref b76), .val (.ref b90), .unset, .unset, .unset, .unset, .unset] [(.int jk'), (.int ((fw ((1 : Int32)).toNatClampNeg) &&& (255 : Int32))), (.ref b90)])) _
            refine XS.bipush X101.here hx rfl (hb hby at_328) ?_
            show Steps p.tables e below (T101.setTop (mkF m 330 #[.val (.int eb'), .val (.int wb'), .val (.int ct'), .val (.int jk'), .val (.int n'), .val (.int m'), .val (.int k'), .val (.int sg'), .val (.int o'), .val (.ref b14), .val (.ref b24), .val (.ref b58), .val (.ref b76), .val (.ref b90), .unset, .unset, .unset, .unset, .unset] [(.int (8 : Int32)), (.int jk'), (.int ((fw ((1 : Int32)).toNatClampNeg) &&& (255 : Int32))), (.ref b90)])) _
            refine XS.ishl X101.here hx rfl (hb hby at_330) rfl ?_
            show Steps p.tables e below (T101.setTop (mkF m 331 #[.val (.int eb'), .val (.int wb'), .val (.int ct'), .val (.int jk'), .val (.int n'), .val (.int m'), .val (.int k'), .val (.int sg'), .val (.int o'), .val (.ref b14), .val (.ref b24), .val (.ref b58), .val (.ref b76), .val (.ref b90), .unset, .unset, .unset, .unset, .unset] [(.int (jk' <<< ((8 : Int32) &&& 31))), (.int ((fw ((1 : Int32)).toNatClampNeg) &&& (255 : Int32))), (.ref b90)])) _
            refine XS.ior X101.here hx rfl (hb hby at_331) rfl ?_
            show Steps p.tables e below (T101.setTop (mkF m 332 #[.val (.int eb'), .val (.int wb'), .val (.int ct'), .val (.int jk'), .val (.int n'), .val (.int m'), .val (.int k'), .val (.int sg'), .val (.int o'), .val (.ref b14), .val (.ref b24), .val (.ref b58), .val (.ref b76), .val (.ref b90), .unset, .unset, .unset, .unset, .unset] [(.int (((fw ((1 : Int32)).toNatClampNeg) &&& (255 : Int32)) ||| (jk' <<< ((8 : Int32) &&& 31)))), (.ref b90)])) _
            refine st112.trans ?_
            exact kt
          exact ⟨T112, _, _, (own_wd d_1 r_1 (own_upd (fun _ => 0) ((0 : Int32)).toNatClampNeg (nar .byte ((((fw ((1 : Int32)).toNatClampNeg) &&& (255 : Int32)) ||| (jk' <<< ((8 : Int32) &&& 31))).toInt8.toInt32))) (0 : Int32) (1 : Int32) n' fx3), (r_1 + ((1 : Int32).toInt64)), (X112.more (by decide) (by decide)), rfl, N112, Zs112, K112, hk, V_b14, E_b24, V_b24, V_b58, V_b76, E_b90, F_difference_b90, F_written_b90, F_expected_b90, (own_st1 fw fe fx3 N M 1 m' n' (1 : Int32) jk' _ _ hM hN hN4 rfl (by decide) hc314_110 hfw hfx hr_1 hd_1).1, (own_st1 fw fe fx3 N M 1 m' n' (1 : Int32) jk' _ _ hM hN hN4 rfl (by decide) hc314_110 hfw hfx hr_1 hd_1).2, pre113⟩
        · have pre114 : ∀ t, Steps p.tables e below (T101.setTop (mkF m 335 #[.val (.int eb'), .val (.int wb'), .val (.int ct'), .val (.int jk'), .val (.int n'), .val (.int m'), .val (.int k'), .val (.int sg'), .val (.int o'), .val (.ref b14), .val (.ref b24), .val (.ref b58), .val (.ref b76), .val (.ref b90), .unset, .unset, .unset, .unset, .unset] [])) t → Steps p.tables e below (s₁.setTop (entryFrame m #[(.int eb'), (.int wb'), (.int ct'), (.int jk')] maxLocals)) t := by
            intro t kt
            refine pre109 t ?_
            show Steps p.tables e below (T101.setTop (mkF m 314 #[.val (.int eb'), .val (.int wb'), .val (.int ct'), .val (.int jk'), .val (.int n'), .val (.int m'), .val (.int k'), .val (.int sg'), .val (.int o'), .val (.ref b14), .val (.ref b24), .val (.ref b58), .val (.ref b76), .val (.ref b90), .unset, .unset, .unset, .unset, .unset] [(.int (1 : Int32)), (.int m')])) _
            refine XS.icmpYes X101.here hx rfl (pc0 := 314) (pc' := 335) rfl (hb hby at_314) rfl (flt hc314_110).2.2.2 (by decide) (by decide) ?_
            exact kt
          exact ⟨T101, _, _, d_1, r_1, (X101.more (by decide) (by decide)), e101, N101, Zs101, K101, hk, V_b14, E_b24, V_b24, V_b58, V_b76, E_b90, F_difference_b90, F_written_b90, F_expected_b90, (own_st0 fw fe N M 1 m' (1 : Int32) _ _ hM rfl hc314_110 hr_1 hd_1).1, (own_st0 fw fe N M 1 m' (1 : Int32) _ _ hM rfl hc314_110 hr_1 hd_1).2, pre114⟩
      obtain ⟨T108, h108, L108, d_2, r_2, X108, e108, N108, Zs108, K108, hk, V_b14, E_b24, V_b24, V_b58, V_b76, E_b90, F_difference_b90, F_written_b90, F_expected_b90, hr_2, hd_2, pre108⟩ := J108
      have hbd := own_stb hM4 hr_2
      have J115 : ∃ (T' : State) (h' : Heap) (L' : List Loc) (d_3 : Int64) (r_3 : Int64) , Stand p l e room_1 (s.setVm T91.vm) m #[(.int eb'), (.int wb'), (.int ct'), (.int jk')] below meth c T' L' 10 60 ∧ T'.heap = h' ∧ Fr n0 L' ∧ n0 ≤ h'.size ∧ Keep h0 h' [] ∧ T91.heap.size ≤ h'.size ∧ own_A Z h' b14 .byte (4 : Int32) fe ∧ Exa Z h' b24 "[B" ∧ own_A Z h' b24 .byte n' fx3 ∧ own_A Z h' b58 .byte (4 : Int32) fw ∧ own_A Z h' b76 .byte (6 : Int32) fb ∧ Exa Z h' b90 "com/example/bytelace/bytelace/cli/FirstDifference" ∧ Fld Z h' b90 "com/example/bytelace/bytelace/cli/FirstDifference" "difference" "J" (.long d_3) ∧ Fld Z h' b90 "com/example/bytelace/bytelace/cli/FirstDifference" "written" "J" (.long r_3) ∧ Fld Z h' b90 "com/example/bytelace/bytelace/cli/FirstDifference" "expected" "[B" (.ref b24) ∧ r_3.toInt = ((min M 3 : Nat) : Int) ∧ d_3.toInt = own_D fw fe N (min M 3) ∧ ∀ t, Steps p.tables e below (T'.setTop (mkF m 359 #[.val (.int eb'), .val (.int wb'), .val (.int ct'), .val (.int jk'), .val (.int n'), .val (.int m'), .val (.int k'), .val (.int sg'), .val (.int o'), .val (.ref b14), .val (.ref b24), .val (.ref b58), .val (.ref b76), .val (.ref b90), .unset, .unset, .unset, .unset, .unset] [])) t → Steps p.tables e below (s₁.setTop (entryFrame m #[(.int eb'), (.int wb'), (.int ct'), (.int jk')] maxLocals)) t := by
        have pre116 : ∀ t, Steps p.tables e below (T108.setTop (mkF m 338 #[.val (.int eb'), .val (.int wb'), .val (.int ct'), .val (.int jk'), .val (.int n'), .val (.int m'), .val (.int k'), .val (.int sg'), .val (.int o'), .val (.ref b14), .val (.ref b24), .val (.ref b58), .val (.ref b76), .val (.ref b90), .unset, .unset, .unset, .unset, .unset] [(.int (2 : Int32)), (.int m')])) t → Steps p.tables e below (s₁.setTop (entryFrame m #[(.int eb'), (.int wb'), (.int ct'), (.int jk')] maxLocals)) t := by
          intro t kt
          refine pre108 t ?_
          show Steps p.tables e below (T108.setTop (mkF m 335 #[.val (.int eb'), .val (.int wb'), .val (.int ct'), .val (.int jk'), .val (.int n'), .val (.int m'), .val (.int k'), .val (.int sg'), .val (.int o'), .val (.ref b14), .val (.ref b24), .val (.ref b58), .val (.ref b76), .val (.ref b90), .unset, .unset, .unset, .unset, .unset] [])) _
          refine XS.iload X108.here hx rfl (hb hby at_335) rfl ?_
          show Steps p.tables e below (T108.setTop (mkF m 337 #[.val (.int eb'), .val (.int wb'), .val (.int ct'), .val (.int jk'), .val (.int n'), .val (.int m'), .val (.int k'), .val (.int sg'), .val (.int o'), .val (.ref b14), .val (.ref b24), .val (.ref b58), .val (.ref b76), .val (.ref b90), .unset, .unset, .unset, .unset, .unset] [(.int m')])) _
          refine XS.iconst X108.here hx rfl (hb hby at_337) ?_
          exact kt
        by_cases hc338_117 : (2 : Int32) < m'
        · obtain ⟨cl346118, Ar346118, S346118, M346118, H346118⟩ := id V_b58
          have hin346118 : ¬ ((2 : Int32) < 0 ∨ cl346118.slots.size ≤ ((2 : Int32)).toNatClampNeg) := inb_of S346118 ⟨by decide, by decide⟩
          have hat346118 := own_A.at S346118 H346118 hin346118
          obtain ⟨cq119, kq119, q119a, q119b, q119c⟩ := isOf hZ e108 E_b90
          obtain ⟨_, _, ⟨T119, L119, k119, n119⟩, -, X119, ⟨Lc119, hQ119, l119, y119, z119⟩, st119⟩ := X108.virtualBack hx (y := (⟨"com/example/bytelace/bytelace/cli/FirstDifference", "write", "(I)V"⟩ : MethodName)) (z := (⟨"com/example/bytelace/bytelace/cli/FirstDifference", "write", "(I)V"⟩ : MethodName)) hown (mvT hZ (hw _ (List.mem_of_getElem? (i := 75) rfl))) (mvT hZ (hw _ (List.mem_of_getElem? (i := 76) rfl))) (notFace_of_selects (args := #[]) (mvT hZ (hw _ (List.mem_of_getElem? (i := 78) rfl)))) (mvT hZ (hw _ (List.mem_of_getElem? (i := 78) rfl))) (mvT hZ (hw _ (List.mem_of_getElem? (i := 77) rfl))) (by decide) (backOf (W := 0) (rm15 l Z a0 hw [] b90 (((fw ((2 : Int32)).toNatClampNeg) &&& (255 : Int32)) ||| (jk' <<< ((8 : Int32) &&& 31))) d_2 r_2 b24 n' fx3 h108 n0 Zs108 E_b90 F_difference_b90 F_written_b90 F_expected_b90 g_b90 V_b24 hbd hn ne_b24_b90) hZ (hw _ (List.mem_of_getElem? (i := 79) rfl)) (hw _ (List.mem_of_getElem? (i := 7) rfl)) (by decide) (by decide)) q119a q119c (g := (mkF m 356 #[.val (.int eb'), .val (.int wb'), .val (.int ct'), .val (.int jk'), .val (.int n'), .val (.int m'), .val (.int k'), .val (.int sg'), .val (.int o'), .val (.ref b14), .val (.ref b24), .val (.ref b58), .val (.ref b76), .val (.ref b90), .unset, .unset, .unset, .unset, .unset] [(.int (((fw ((2 : Int32)).toNatClampNeg) &&& (255 : Int32)) ||| (jk' <<< ((8 : Int32) &&& 31)))), (.ref b90)])) rfl (by rw [hml]; rfl) (Steps.refl _) (argsL := [(.int (((fw ((2 : Int32)).toNatClampNeg) &&& (255 : Int32)) ||| (jk' <<< ((8 : Int32) &&& 31))))]) (rest := []) (lenOf pd0_3 rfl) rfl (by show 2 * 0 + _ ≤ _; exact Nat.le_of_eq rfl) (hb hby at_356) (fun _ _ => ⟨rfl, e108, (by decide : 9 + 1 ≤ _), (by decide : 59 + 1 ≤ _)⟩)
          dsimp only [Pt.U, Pt.locs, Pt.cells, Pt.slots] at X119 l119 y119 z119 st119 hQ119
          subst l119 y119 z119
          obtain ⟨rfl, N119q, Kq119, F_difference_b90, F_written_b90, F_expected_b90⟩ := hQ119
          have N119 := Fr.app N108 N119q
          have V_b14 := V_b14.keep Kq119 (ninS ne_b14_b90 nin0)
          have E_b24 := E_b24.keep Kq119
          have V_b24 := V_b24.keep Kq119 (ninS ne_b24_b90 nin0)
          have V_b58 := V_b58.keep Kq119 (ninS ne_b58_b90 nin0)
          have V_b76 := V_b76.keep Kq119 (ninS ne_b76_b90 nin0)
          have E_b90 := E_b90.keep Kq119
          have Zs119 : n0 ≤ T119.heap.size := Nat.le_trans Zs108 Kq119.1
          have hk := Nat.le_trans hk Kq119.1
          have K119 : Keep h0 T119.heap [] := K108.trans Kq119 (allS (Or.inr sz_b90) all0)
          have pre120 : ∀ t, Steps p.tables e below (T119.setTop (mkF m 359 #[.val (.int eb'), .val (.int wb'), .val (.int ct'), .val (.int jk'), .val (.int n'), .val (.int m'), .val (.int k'), .val (.int sg'), .val (.int o'), .val (.ref b14), .val (.ref b24), .val (.ref b58), .val (.ref b76), .val (.ref b90), .unset, .unset, .unset, .unset, .unset] [])) t → Steps p.tables e below (s₁.setTop (entryFrame m #[(.int eb'), (.int wb'), (.int ct'), (.int jk')] maxLocals)) t := by
            intro t kt
            refine pre116 t ?_
            show Steps p.tables e below (T108.setTop (mkF m 338 #[.val (.int eb'), .val (.int wb'), .val (.int ct'), .val (.int jk'), .val (.int n'), .val (.int m'), .val (.int k'), .val (.int sg'), .val (.int o'), .val (.ref b14), .val (.ref b24), .val (.ref b58), .val (.ref b76), .val (.ref b90), .unset, .unset, .unset, .unset, .unset] [(.int (2 : Int32)), (.int m')])) _
            refine XS.icmpNo X108.here hx rfl (hb hby at_338) rfl (tlt hc338_117).2.2.2 ?_
            show Steps p.tables e below (T108.setTop (mkF m 341 #[.val (.int eb'), .val (.int wb'), .val (.int ct'), .val (.int jk'), .val (.int n'), .val (.int m'), .val (.int k'), .val (.int sg'), .val (.int o'), .val (.ref b14), .val (.ref b24), .val (.ref b58), .val (.ref b76), .val (.ref b90), .unset, .unset, .unset, .unset, .unset] [])) _
            refine XS.aload X108.here hx rfl (hb hby at_341) rfl rfl ?_
            show Steps p.tables e below (T108.setTop (mkF m 343 #[.val (.int eb'), .val (.int wb'), .val (.int ct'), .val (.int jk'), .val (.int n'), .val (.int m'), .val (.int k'), .val (.int sg'), .val (.int o'), .val (.ref b14), .val (.ref b24), .val (.ref b58), .val (.ref b76), .val (.ref b90), .unset, .unset, .unset, .unset, .unset] [(.ref b90)])) _
            refine XS.aload X108.here hx rfl (hb hby at_343) rfl rfl ?_
            show Steps p.tables e below (T108.setTop (mkF m 345 #[.val (.int eb'), .val (.int wb'), .val (.int ct'), .val (.int jk'), .val (.int n'), .val (.int m'), .val (.int k'), .val (.int sg'), .val (.int o'), .val (.ref b14), .val (.ref b24), .val (.ref b58), .val (.ref b76), .val (.ref b90), .unset, .unset, .unset, .unset, .unset] [(.ref b58), (.ref b90)])) _
            refine XS.iconst X108.here hx rfl (hb hby at_345) ?_
            show Steps p.tables e below (T108.setTop (mkF m 346 #[.val (.int eb'), .val (.int wb'), .val (.int ct'), .val (.int jk'), .val (.int n'), .val (.int m'), .val (.int k'), .val (.int sg'), .val (.int o'), .val (.ref b14), .val (.ref b24), .val (.ref b58), .val (.ref b76), .val (.ref b90), .unset, .unset, .unset, .unset, .unset] [(.int (2 : Int32)), (.ref b58), (.ref b90)])) _
            refine X108.baloadBytes hx (j := (2 : Int32)) (v := (.int (fw ((2 : Int32)).toNatClampNeg))) (by rw [e108]; exact Ar346118.1) (State.isArrayOf_alike hZ.alike Ar346118.2.1) Ar346118.2.2 hin346118 hat346118 (g := (mkF m 346 #[.val (.int eb'), .val (.int wb'), .val (.int ct'), .val (.int jk'), .val (.int n'), .val (.int m'), .val (.int k'), .val (.int sg'), .val (.int o'), .val (.ref b14), .val (.ref b24), .val (.ref b58), .val (.ref b76), .val (.ref b90), .unset, .unset, .unset, .unset, .unset] [(.int (2 : Int32)), (.ref b58), (.ref b90)])) rfl rfl (hb hby at_346) _ ?_
            show Steps p.tables e below (T108.setTop (mkF m 347 #[.val (.int eb'), .val (.int wb'), .val (.int ct'), .val (.int jk'), .val (.int n'), .val (.int m'), .val (.int k'), .val (.int sg'), .val (.int o'), .val (.ref b14), .val (.ref b24), .val (.ref b58), .val (.ref b76), .val (.ref b90), .unset, .unset, .unset, .unset, .unset] [(.int (fw ((2 : Int32)).toNatClampNeg)), (.ref b90)])) _
            refine XS.sipush X108.here hx rfl (hb hby at_347) ?_
            show Steps p.tables e below (T108.setTop (mkF m 350 #[.val (.int eb'), .val (.int wb'), .val (.int ct'), .val (.int jk'), .val (.int n'), .val (.int m'), .val (.int k'), .val (.int sg'), .val (.int o'), .val (.ref b14), .val (.ref b24), .val (.ref b58), .val (.ref b76), .val (.ref b90), .unset, .unset, .unset, .unset, .unset] [(.int (255 : Int32)), (.int (fw ((2 : Int32)).toNatClampNeg)), (.ref b90)])) _
            refine XS.iand X108.here hx rfl (hb hby at_350) rfl ?_
            show Steps p.tables e below (T108.setTop (mkF m 351 #[.val (.int eb'), .val (.int wb'), .val (.int ct'), .val (.int jk'), .val (.int n'), .val (.int m'), .val (.int k'), .val (.int sg'), .val (.int o'), .val (.ref b14), .val (.ref b24), .val (.ref b58), .val (.ref b76), .val (.ref b90), .unset, .unset, .unset, .unset, .unset] [(.int ((fw ((2 : Int32)).toNatClampNeg) &&& (255 : Int32))), (.ref b90)])) _
            refine XS.iloadN X108.here hx rfl (hb hby at_351) rfl ?_
            show Steps p.tables e below (T108.setTop (mkF m 352 #[.val (.int eb'), .val (.int wb'), .val (.int ct'), .val (.int jk'), .val (.int n'), .val (.int m'), .val (.int k'), .val (.int sg'), .val (.int o'), .val (.ref b14), .val (.ref b24), .val (.ref b58), .val (.ref b76), .val (.ref b90), .unset, .unset, .unset, .unset, .unset] [(.int jk'), (.int ((fw ((2 : Int32)).toNatClampNeg) &&& (255 : Int32))), (.ref b90)])) _
            refine XS.bipush X108.here hx rfl (hb hby at_352) ?_
            show Steps p.tables e below (T108.setTop (mkF m 354 #[.val (.int eb'), .val (.int wb'), .val (.int ct'), .val (.int jk'), .val (.int n'), .val (.int m'), .val (.int k'), .val (.int sg'), .val (.int o'), .val (.ref b14), .val (.ref b24), .val (.ref b58), .val (.ref b76), .val (.ref b90), .unset, .unset, .unset, .unset, .unset] [(.int (8 : Int32)), (.int jk'), (.int ((fw ((2 : Int32)).toNatClampNeg) &&& (255 : Int32))), (.ref b90)])) _
            refine XS.ishl X108.here hx rfl (hb hby at_354) rfl ?_
            show Steps p.tables e below (T108.setTop (mkF m 355 #[.val (.int eb'), .val (.int wb'), .val (.int ct'), .val (.int jk'), .val (.int n'), .val (.int m'), .val (.int k'), .val (.int sg'), .val (.int o'), .val (.ref b14), .val (.ref b24), .val (.ref b58), .val (.ref b76), .val (.ref b90), .unset, .unset, .unset, .unset, .unset] [(.int (jk' <<< ((8 : Int32) &&& 31))), (.int ((fw ((2 : Int32)).toNatClampNeg) &&& (255 : Int32))), (.ref b90)])) _
            refine XS.ior X108.here hx rfl (hb hby at_355) rfl ?_
            show Steps p.tables e below (T108.setTop (mkF m 356 #[.val (.int eb'), .val (.int wb'), .val (.int ct'), .val (.int jk'), .val (.int n'), .val (.int m'), .val (.int k'), .val (.int sg'), .val (.int o'), .val (.ref b14), .val (.ref b24), .val (.ref b58), .val (.ref b76), .val (.ref b90), .unset, .unset, .unset, .unset, .unset] [(.int (((fw ((2 : Int32)).toNatClampNeg) &&& (255 : Int32)) ||| (jk' <<< ((8 : Int32) &&& 31)))), (.ref b90)])) _
            refine st119.trans ?_
            exact kt
          exact ⟨T119, _, _, (own_wd d_2 r_2 (own_upd (fun _ => 0) ((0 : Int32)).toNatClampNeg (nar .byte ((((fw ((2 : Int32)).toNatClampNeg) &&& (255 : Int32)) ||| (jk' <<< ((8 : Int32) &&& 31))).toInt8.toInt32))) (0 : Int32) (1 : Int32) n' fx3), (r_2 + ((1 : Int32).toInt64)), (X119.more (by decide) (by decide)), rfl, N119, Zs119, K119, hk, V_b14, E_b24, V_b24, V_b58, V_b76, E_b90, F_difference_b90, F_written_b90, F_expected_b90, (own_st1 fw fe fx3 N M 2 m' n' (2 : Int32) jk' _ _ hM hN hN4 rfl (by decide) hc338_117 hfw hfx hr_2 hd_2).1, (own_st1 fw fe fx3 N M 2 m' n' (2 : Int32) jk' _ _ hM hN hN4 rfl (by decide) hc338_117 hfw hfx hr_2 hd_2).2, pre120⟩
        · have pre121 : ∀ t, Steps p.tables e below (T108.setTop (mkF m 359 #[.val (.int eb'), .val (.int wb'), .val (.int ct'), .val (.int jk'), .val (.int n'), .val (.int m'), .val (.int k'), .val (.int sg'), .val (.int o'), .val (.ref b14), .val (.ref b24), .val (.ref b58), .val (.ref b76), .val (.ref b90), .unset, .unset, .unset, .unset, .unset] [])) t → Steps p.tables e below (s₁.setTop (entryFrame m #[(.int eb'), (.int wb'), (.int ct'), (.int jk')] maxLocals)) t := by
            intro t kt
            refine pre116 t ?_
            show Steps p.tables e below (T108.setTop (mkF m 338 #[.val (.int eb'), .val (.int wb'), .val (.int ct'), .val (.int jk'), .val (.int n'), .val (.int m'), .val (.int k'), .val (.int sg'), .val (.int o'), .val (.ref b14), .val (.ref b24), .val (.ref b58), .val (.ref b76), .val (.ref b90), .unset, .unset, .unset, .unset, .unset] [(.int (2 : Int32)), (.int m')])) _
            refine XS.icmpYes X108.here hx rfl (pc0 := 338) (pc' := 359) rfl (hb hby at_338) rfl (flt hc338_117).2.2.2 (by decide) (by decide) ?_
            exact kt
          exact ⟨T108, _, _, d_2, r_2, (X108.more (by decide) (by decide)), e108, N108, Zs108, K108, hk, V_b14, E_b24, V_b24, V_b58, V_b76, E_b90, F_difference_b90, F_written_b90, F_expected_b90, (own_st0 fw fe N M 2 m' (2 : Int32) _ _ hM rfl hc338_117 hr_2 hd_2).1, (own_st0 fw fe N M 2 m' (2 : Int32) _ _ hM rfl hc338_117 hr_2 hd_2).2, pre121⟩
      obtain ⟨T115, h115, L115, d_3, r_3, X115, e115, N115, Zs115, K115, hk, V_b14, E_b24, V_b24, V_b58, V_b76, E_b90, F_difference_b90, F_written_b90, F_expected_b90, hr_3, hd_3, pre115⟩ := J115
      have hbd := own_stb hM4 hr_3
      have J122 : ∃ (T' : State) (h' : Heap) (L' : List Loc) (d_4 : Int64) (r_4 : Int64) , Stand p l e room_1 (s.setVm T91.vm) m #[(.int eb'), (.int wb'), (.int ct'), (.int jk')] below meth c T' L' 11 61 ∧ T'.heap = h' ∧ Fr n0 L' ∧ n0 ≤ h'.size ∧ Keep h0 h' [] ∧ T91.heap.size ≤ h'.size ∧ own_A Z h' b14 .byte (4 : Int32) fe ∧ Exa Z h' b24 "[B" ∧ own_A Z h' b24 .byte n' fx3 ∧ own_A Z h' b58 .byte (4 : Int32) fw ∧ own_A Z h' b76 .byte (6 : Int32) fb ∧ Exa Z h' b90 "com/example/bytelace/bytelace/cli/FirstDifference" ∧ Fld Z h' b90 "com/example/bytelace/bytelace/cli/FirstDifference" "difference" "J" (.long d_4) ∧ Fld Z h' b90 "com/example/bytelace/bytelace/cli/FirstDifference" "written" "J" (.long r_4) ∧ Fld Z h' b90 "com/example/bytelace/bytelace/cli/FirstDifference" "expected" "[B" (.ref b24) ∧ r_4.toInt = ((min M 4 : Nat) : Int) ∧ d_4.toInt = own_D fw fe N (min M 4) ∧ ∀ t, Steps p.tables e below (T'.setTop (mkF m 414 #[.val (.int eb'), .val (.int wb'), .val (.int ct'), .val (.int jk'), .val (.int n'), .val (.int m'), .val (.int k'), .val (.int sg'), .val (.int o'), .val (.ref b14), .val (.ref b24), .val (.ref b58), .val (.ref b76), .val (.ref b90), .unset, .unset, .unset, .unset, .unset] [])) t → Steps p.tables e below (s₁.setTop (entryFrame m #[(.int eb'), (.int wb'), (.int ct'), (.int jk')] maxLocals)) t := by
        have pre123 : ∀ t, Steps p.tables e below (T115.setTop (mkF m 362 #[.val (.int eb'), .val (.int wb'), .val (.int ct'), .val (.int jk'), .val (.int n'), .val (.int m'), .val (.int k'), .val (.int sg'), .val (.int o'), .val (.ref b14), .val (.ref b24), .val (.ref b58), .val (.ref b76), .val (.ref b90), .unset, .unset, .unset, .unset, .unset] [(.int (3 : Int32)), (.int m')])) t → Steps p.tables e below (s₁.setTop (entryFrame m #[(.int eb'), (.int wb'), (.int ct'), (.int jk')] maxLocals)) t := by
          intro t kt
          refine pre115 t ?_
          show Steps p.tables e below (T115.setTop (mkF m 359 #[.val (.int eb'), .val (.int wb'), .val (.int ct'), .val (.int jk'), .val (.int n'), .val (.int m'), .val (.int k'), .val (.int sg'), .val (.int o'), .val (.ref b14), .val (.ref b24), .val (.ref b58), .val (.ref b76), .val (.ref b90), .unset, .unset, .unset, .unset, .unset] [])) _
          refine XS.iload X115.here hx rfl (hb hby at_359) rfl ?_
          show Steps p.tables e below (T115.setTop (mkF m 361 #[.val (.int eb'), .val (.int wb'), .val (.int ct'), .val (.int jk'), .val (.int n'), .val (.int m'), .val (.int k'), .val (.int sg'), .val (.int o'), .val (.ref b14), .val (.ref b24), .val (.ref b58), .val (.ref b76), .val (.ref b90), .unset, .unset, .unset, .unset, .unset] [(.int m')])) _
          refine XS.iconst X115.here hx rfl (hb hby at_361) ?_
          exact kt
        by_cases hc362_124 : (3 : Int32) < m'
        · obtain ⟨cl370125, Ar370125, S370125, M370125, H370125⟩ := id V_b58
          have hin370125 : ¬ ((3 : Int32) < 0 ∨ cl370125.slots.size ≤ ((3 : Int32)).toNatClampNeg) := inb_of S370125 ⟨by decide, by decide⟩
          have hat370125 := own_A.at S370125 H370125 hin370125
          obtain ⟨cq126, kq126, q126a, q126b, q126c⟩ := isOf hZ e115 E_b90
          obtain ⟨_, _, ⟨T126, L126, k126, n126⟩, -, X126, ⟨Lc126, hQ126, l126, y126, z126⟩, st126⟩ := X115.virtualBack hx (y := (⟨"com/example/bytelace/bytelace/cli/FirstDifference", "write", "(I)V"⟩ : MethodName)) (z := (⟨"com/example/bytelace/bytelace/cli/FirstDifference", "write", "(I)V"⟩ : MethodName)) hown (mvT hZ (hw _ (List.mem_of_getElem? (i := 75) rfl))) (mvT hZ (hw _ (List.mem_of_getElem? (i := 76) rfl))) (notFace_of_selects (args := #[]) (mvT hZ (hw _ (List.mem_of_getElem? (i := 78) rfl)))) (mvT hZ (hw _ (List.mem_of_getElem? (i := 78) rfl))) (mvT hZ (hw _ (List.mem_of_getElem? (i := 77) rfl))) (by decide) (backOf (W := 0) (rm15 l Z a0 hw [] b90 (((fw ((3 : Int32)).toNatClampNeg) &&& (255 : Int32)) ||| (jk' <<< ((8 : Int32) &&& 31))) d_3 r_3 b24 n' fx3 h115 n0 Zs115 E_b90 F_difference_b90 F_written_b90 F_expected_b90 g_b90 V_b24 hbd hn ne_b24_b90) hZ (hw _ (List.mem_of_getElem? (i := 79) rfl)) (hw _ (List.mem_of_getElem? (i := 7) rfl)) (by decide) (by decide)) q126a q126c (g := (mkF m 380 #[.val (.int eb'), .val (.int wb'), .val (.int ct'), .val (.int jk'), .val (.int n'), .val (.int m'), .val (.int k'), .val (.int sg'), .val (.int o'), .val (.ref b14), .val (.ref b24), .val (.ref b58), .val (.ref b76), .val (.ref b90), .unset, .unset, .unset, .unset, .unset] [(.int (((fw ((3 : Int32)).toNatClampNeg) &&& (255 : Int32)) ||| (jk' <<< ((8 : Int32) &&& 31)))), (.ref b90)])) rfl (by rw [hml]; rfl) (Steps.refl _) (argsL := [(.int (((fw ((3 : Int32)).toNatClampNeg) &&& (255 : Int32)) ||| (jk' <<< ((8 : Int32) &&& 31))))]) (rest := []) (lenOf pd0_3 rfl) rfl (by show 2 * 0 + _ ≤ _; exact Nat.le_of_eq rfl) (hb hby at_380) (fun _ _ => ⟨rfl, e115, (by decide : 10 + 1 ≤ _), (by decide : 60 + 1 ≤ _)⟩)
          dsimp only [Pt.U, Pt.locs, Pt.cells, Pt.slots] at X126 l126 y126 z126 st126 hQ126
          subst l126 y126 z126
          obtain ⟨rfl, N126q, Kq126, F_difference_b90, F_written_b90, F_expected_b90⟩ := hQ126
          have N126 := Fr.app N115 N126q
          have V_b14 := V_b14.keep Kq126 (ninS ne_b14_b90 nin0)
          have E_b24 := E_b24.keep Kq126
          have V_b24 := V_b24.keep Kq126 (ninS ne_b24_b90 nin0)
          have V_b58 := V_b58.keep Kq126 (ninS ne_b58_b90 nin0)
          have V_b76 := V_b76.keep Kq126 (ninS ne_b76_b90 nin0)
          have E_b90 := E_b90.keep Kq126
          have Zs126 : n0 ≤ T126.heap.size := Nat.le_trans Zs115 Kq126.1
          have hk := Nat.le_trans hk Kq126.1
          have K126 : Keep h0 T126.heap [] := K115.trans Kq126 (allS (Or.inr sz_b90) all0)
          have pre127 : ∀ t, Steps p.tables e below (T126.setTop (mkF m 414 #[.val (.int eb'), .val (.int wb'), .val (.int ct'), .val (.int jk'), .val (.int n'), .val (.int m'), .val (.int k'), .val (.int sg'), .val (.int o'), .val (.ref b14), .val (.ref b24), .val (.ref b58), .val (.ref b76), .val (.ref b90), .unset, .unset, .unset, .unset, .unset] [])) t → Steps p.tables e below (s₁.setTop (entryFrame m #[(.int eb'), (.int wb'), (.int ct'), (.int jk')] maxLocals)) t := by
            intro t kt
            refine pre123 t ?_
            show Steps p.tables e below (T115.setTop (mkF m 362 #[.val (.int eb'), .val (.int wb'), .val (.int ct'), .val (.int jk'), .val (.int n'), .val (.int m'), .val (.int k'), .val (.int sg'), .val (.int o'), .val (.ref b14), .val (.ref b24), .val (.ref b58), .val (.ref b76), .val (.ref b90), .unset, .unset, .unset, .unset, .unset] [(.int (3 : Int32)), (.int m')])) _
            refine XS.icmpNo X115.here hx rfl (hb hby at_362) rfl (tlt hc362_124).2.2.2 ?_
            show Steps p.tables e below (T115.setTop (mkF m 365 #[.val (.int eb'), .val (.int wb'), .val (.int ct'), .val (.int jk'), .val (.int n'), .val (.int m'), .val (.int k'), .val (.int sg'), .val (.int o'), .val (.ref b14), .val (.ref b24), .val (.ref b58), .val (.ref b76), .val (.ref b90), .unset, .unset, .unset, .unset, .unset] [])) _
            refine XS.aload X115.here hx rfl (hb hby at_365) rfl rfl ?_
            show Steps p.tables e below (T115.setTop (mkF m 367 #[.val (.int eb'), .val (.int wb'), .val (.int ct'), .val (.int jk'), .val (.int n'), .val (.int m'), .val (.int k'), .val (.int sg'), .val (.int o'), .val (.ref b14), .val (.ref b24), .val (.ref b58), .val (.ref b76), .val (.ref b90), .unset, .unset, .unset, .unset, .unset] [(.ref b90)])) _
            refine XS.aload X115.here hx rfl (hb hby at_367) rfl rfl ?_
            show Steps p.tables e below (T115.setTop (mkF m 369 #[.val (.int eb'), .val (.int wb'), .val (.int ct'), .val (.int jk'), .val (.int n'), .val (.int m'), .val (.int k'), .val (.int sg'), .val (.int o'), .val (.ref b14), .val (.ref b24), .val (.ref b58), .val (.ref b76), .val (.ref b90), .unset, .unset, .unset, .unset, .unset] [(.ref b58), (.ref b90)])) _
            refine XS.iconst X115.here hx rfl (hb hby at_369) ?_
            show Steps p.tables e below (T115.setTop (mkF m 370 #[.val (.int eb'), .val (.int wb'), .val (.int ct'), .val (.int jk'), .val (.int n'), .val (.int m'), .val (.int k'), .val (.int sg'), .val (.int o'), .val (.ref b14), .val (.ref b24), .val (.ref b58), .val (.ref b76), .val (.ref b90), .unset, .unset, .unset, .unset, .unset] [(.int (3 : Int32)), (.ref b58), (.ref b90)])) _
            refine X115.baloadBytes hx (j := (3 : Int32)) (v := (.int (fw ((3 : Int32)).toNatClampNeg))) (by rw [e115]; exact Ar370125.1) (State.isArrayOf_alike hZ.alike Ar370125.2.1) Ar370125.2.2 hin370125 hat370125 (g := (mkF m 370 #[.val (.int eb'), .val (.int wb'), .val (.int ct'), .val (.int jk'), .val (.int n'), .val (.int m'), .val (.int k'), .val (.int sg'), .val (.int o'), .val (.ref b14), .val (.ref b24), .val (.ref b58), .val (.ref b76), .val (.ref b90), .unset, .unset, .unset, .unset, .unset] [(.int (3 : Int32)), (.ref b58), (.ref b90)])) rfl rfl (hb hby at_370) _ ?_
            show Steps p.tables e below (T115.setTop (mkF m 371 #[.val (.int eb'), .val (.int wb'), .val (.int ct'), .val (.int jk'), .val (.int n'), .val (.int m'), .val (.int k'), .val (.int sg'), .val (.int o'), .val (.ref b14), .val (.ref b24), .val (.ref b58), .val (.ref b76), .val (.ref b90), .unset, .unset, .unset, .unset, .unset] [(.int (fw ((3 : Int32)).toNatClampNeg)), (.ref b90)])) _
            refine XS.sipush X115.here hx rfl (hb hby at_371) ?_
            show Steps p.tables e below (T115.setTop (mkF m 374 #[.val (.int eb'), .val (.int wb'), .val (.int ct'), .val (.int jk'), .val (.int n'), .val (.int m'), .val (.int k'), .val (.int sg'), .val (.int o'), .val (.ref b14), .val (.ref b24), .val (.ref b58), .val (.ref b76), .val (.ref b90), .unset, .unset, .unset, .unset, .unset] [(.int (255 : Int32)), (.int (fw ((3 : Int32)).toNatClampNeg)), (.ref b90)])) _
            refine XS.iand X115.here hx rfl (hb hby at_374) rfl ?_
            show Steps p.tables e below (T115.setTop (mkF m 375 #[.val (.int eb'), .val (.int wb'), .val (.int ct'), .val (.int jk'), .val (.int n'), .val (.int m'), .val (.int k'), .val (.int sg'), .val (.int o'), .val (.ref b14), .val (.ref b24), .val (.ref b58), .val (.ref b76), .val (.ref b90), .unset, .unset, .unset, .unset, .unset] [(.int ((fw ((3 : Int32)).toNatClampNeg) &&& (255 : Int32))), (.ref b90)])) _
            refine XS.iloadN X115.here hx rfl (hb hby at_375) rfl ?_
            show Steps p.tables e below (T115.setTop (mkF m 376 #[.val (.int eb'), .val (.int wb'), .val (.int ct'), .val (.int jk'), .val (.int n'), .val (.int m'), .val (.int k'), .val (.int sg'), .val (.int o'), .val (.ref b14), .val (.ref b24), .val (.ref b58), .val (.ref b76), .val (.ref b90), .unset, .unset, .unset, .unset, .unset] [(.int jk'), (.int ((fw ((3 : Int32)).toNatClampNeg) &&& (255 : Int32))), (.ref b90)])) _
            refine XS.bipush X115.here hx rfl (hb hby at_376) ?_
            show Steps p.tables e below (T115.setTop (mkF m 378 #[.val (.int eb'), .val (.int wb'), .val (.int ct'), .val (.int jk'), .val (.int n'), .val (.int m'), .val (.int k'), .val (.int sg'), .val (.int o'), .val (.ref b14), .val (.ref b24), .val (.ref b58), .val (.ref b76), .val (.ref b90), .unset, .unset, .unset, .unset, .unset] [(.int (8 : Int32)), (.int jk'), (.int ((fw ((3 : Int32)).toNatClampNeg) &&& (255 : Int32))), (.ref b90)])) _
            refine XS.ishl X115.here hx rfl (hb hby at_378) rfl ?_
            show Steps p.tables e below (T115.setTop (mkF m 379 #[.val (.int eb'), .val (.int wb'), .val (.int ct'), .val (.int jk'), .val (.int n'), .val (.int m'), .val (.int k'), .val (.int sg'), .val (.int o'), .val (.ref b14), .val (.ref b24), .val (.ref b58), .val (.ref b76), .val (.ref b90), .unset, .unset, .unset, .unset, .unset] [(.int (jk' <<< ((8 : Int32) &&& 31))), (.int ((fw ((3 : Int32)).toNatClampNeg) &&& (255 : Int32))), (.ref b90)])) _
            refine XS.ior X115.here hx rfl (hb hby at_379) rfl ?_
            show Steps p.tables e below (T115.setTop (mkF m 380 #[.val (.int eb'), .val (.int wb'), .val (.int ct'), .val (.int jk'), .val (.int n'), .val (.int m'), .val (.int k'), .val (.int sg'), .val (.int o'), .val (.ref b14), .val (.ref b24), .val (.ref b58), .val (.ref b76), .val (.ref b90), .unset, .unset, .unset, .unset, .unset] [(.int (((fw ((3 : Int32)).toNatClampNeg) &&& (255 : Int32)) ||| (jk' <<< ((8 : Int32) &&& 31)))), (.ref b90)])) _
            refine st126.trans ?_
            show Steps p.tables e below (T126.setTop (mkF m 383 #[.val (.int eb'), .val (.int wb'), .val (.int ct'), .val (.int jk'), .val (.int n'), .val (.int m'), .val (.int k'), .val (.int sg'), .val (.int o'), .val (.ref b14), .val (.ref b24), .val (.ref b58), .val (.ref b76), .val (.ref b90), .unset, .unset, .unset, .unset, .unset] [])) _
            refine XS.goto X126.here hx rfl (pc0 := 383) (pc' := 414) rfl (hb hby at_383) (by decide) (by decide) ?_
            exact kt
          exact ⟨T126, _, _, (own_wd d_3 r_3 (own_upd (fun _ => 0) ((0 : Int32)).toNatClampNeg (nar .byte ((((fw ((3 : Int32)).toNatClampNeg) &&& (255 : Int32)) ||| (jk' <<< ((8 : Int32) &&& 31))).toInt8.toInt32))) (0 : Int32) (1 : Int32) n' fx3), (r_3 + ((1 : Int32).toInt64)), (X126.more (by decide) (by decide)), rfl, N126, Zs126, K126, hk, V_b14, E_b24, V_b24, V_b58, V_b76, E_b90, F_difference_b90, F_written_b90, F_expected_b90, (own_st1 fw fe fx3 N M 3 m' n' (3 : Int32) jk' _ _ hM hN hN4 rfl (by decide) hc362_124 hfw hfx hr_3 hd_3).1, (own_st1 fw fe fx3 N M 3 m' n' (3 : Int32) jk' _ _ hM hN hN4 rfl (by decide) hc362_124 hfw hfx hr_3 hd_3).2, pre127⟩
        · have pre128 : ∀ t, Steps p.tables e below (T115.setTop (mkF m 414 #[.val (.int eb'), .val (.int wb'), .val (.int ct'), .val (.int jk'), .val (.int n'), .val (.int m'), .val (.int k'), .val (.int sg'), .val (.int o'), .val (.ref b14), .val (.ref b24), .val (.ref b58), .val (.ref b76), .val (.ref b90), .unset, .unset, .unset, .unset, .unset] [])) t → Steps p.tables e below (s₁.setTop (entryFrame m #[(.int eb'), (.int wb'), (.int ct'), (.int jk')] maxLocals)) t := by
            intro t kt
            refine pre123 t ?_
            show Steps p.tables e below (T115.setTop (mkF m 362 #[.val (.int eb'), .val (.int wb'), .val (.int ct'), .val (.int jk'), .val (.int n'), .val (.int m'), .val (.int k'), .val (.int sg'), .val (.int o'), .val (.ref b14), .val (.ref b24), .val (.ref b58), .val (.ref b76), .val (.ref b90), .unset, .unset, .unset, .unset, .unset] [(.int (3 : Int32)), (.int m')])) _
            refine XS.icmpYes X115.here hx rfl (pc0 := 362) (pc' := 414) rfl (hb hby at_362) rfl (flt hc362_124).2.2.2 (by decide) (by decide) ?_
            exact kt
          exact ⟨T115, _, _, d_3, r_3, (X115.more (by decide) (by decide)), e115, N115, Zs115, K115, hk, V_b14, E_b24, V_b24, V_b58, V_b76, E_b90, F_difference_b90, F_written_b90, F_expected_b90, (own_st0 fw fe N M 3 m' (3 : Int32) _ _ hM rfl hc362_124 hr_3 hd_3).1, (own_st0 fw fe N M 3 m' (3 : Int32) _ _ hM rfl hc362_124 hr_3 hd_3).2, pre128⟩
      obtain ⟨T122, h122, L122, d_4, r_4, X122, e122, N122, Zs122, K122, hk, V_b14, E_b24, V_b24, V_b58, V_b76, E_b90, F_difference_b90, F_written_b90, F_expected_b90, hr_4, hd_4, pre122⟩ := J122
      exact ⟨T122, _, _, d_4, r_4, (X122.more (by decide) (by decide)), e122, N122, Zs122, K122, hk, V_b14, E_b24, V_b24, V_b58, V_b76, E_b90, F_difference_b90, F_written_b90, F_expected_b90, (by rw [hr_4, Nat.min_eq_left hM4]), (by rw [hd_4, Nat.min_eq_left hM4]), pre122⟩
  obtain ⟨T94, h94, L94, dd, rr, X94, e94, N94, Zs94, K94, hk, V_b14, E_b24, V_b24, V_b58, V_b76, E_b90, F_difference_b90, F_written_b90, F_expected_b90, hrr, hdd, pre94⟩ := J94
  obtain ⟨cq129, kq129, q129a, q129b, q129c⟩ := isOf hZ e94 E_b90
  obtain ⟨_, _, ⟨T129, L129, k129, n129⟩, -, X129, ⟨Lc129, hQ129, l129, y129, z129⟩, st129⟩ := X94.virtualBack hx (y := (⟨"com/example/bytelace/bytelace/cli/FirstDifference", "offset", "()J"⟩ : MethodName)) (z := (⟨"com/example/bytelace/bytelace/cli/FirstDifference", "offset", "()J"⟩ : MethodName)) hown (mvT hZ (hw _ (List.mem_of_getElem? (i := 69) rfl))) (mvT hZ (hw _ (List.mem_of_getElem? (i := 70) rfl))) (notFace_of_selects (args := #[]) (mvT hZ (hw _ (List.mem_of_getElem? (i := 72) rfl)))) (mvT hZ (hw _ (List.mem_of_getElem? (i := 72) rfl))) (mvT hZ (hw _ (List.mem_of_getElem? (i := 71) rfl))) (by decide) (backOf (W := 0) (rm14 l Z a0 hw [] b90 dd rr b24 n' fx3 h94 n0 Zs94 F_difference_b90 F_written_b90 F_expected_b90 V_b24) hZ (hw _ (List.mem_of_getElem? (i := 73) rfl)) (hw _ (List.mem_of_getElem? (i := 7) rfl)) (by decide) (by decide)) q129a q129c (g := (mkF m 416 #[.val (.int eb'), .val (.int wb'), .val (.int ct'), .val (.int jk'), .val (.int n'), .val (.int m'), .val (.int k'), .val (.int sg'), .val (.int o'), .val (.ref b14), .val (.ref b24), .val (.ref b58), .val (.ref b76), .val (.ref b90), .unset, .unset, .unset, .unset, .unset] [(.ref b90)])) rfl (by rw [hml]; rfl) (Steps.refl _) (argsL := []) (rest := []) (lenOf pd0_4 rfl) rfl (by show 2 * 0 + _ ≤ _; exact Nat.le_of_eq rfl) (hb hby at_416) (fun _ _ => ⟨rfl, e94, (by decide : 11 + 0 ≤ _), (by decide : 61 + 0 ≤ _)⟩)
  dsimp only [Pt.U, Pt.locs, Pt.cells, Pt.slots] at X129 l129 y129 z129 st129 hQ129
  subst l129 y129 z129
  obtain ⟨rfl, N129q, hh129⟩ := hQ129
  have N129 := Fr.app N94 N129q
  obtain ⟨_, _, ⟨T130, L130, k130, n130⟩, -, X130, ⟨Lc130, hQ130, l130, y130, z130⟩, st130⟩ := Jvm.LawKit.callS X129 hx (y := (⟨"java/lang/Math", "min", "(II)I"⟩ : MethodName)) hown (mvT hZ (hw _ (List.mem_of_getElem? (i := 74) rfl))) (mvT hZ (hw _ (List.mem_of_getElem? (i := 63) rfl))) (mvT hZ (hw _ (List.mem_of_getElem? (i := 53) rfl))) (mvT hZ (hw _ (List.mem_of_getElem? (i := 64) rfl))) (by decide) (backOf (W := 0) (rm12 l Z a0 hw [] m' n' h94 n0 Zs94 ) hZ (hw _ (List.mem_of_getElem? (i := 64) rfl)) (hw _ (List.mem_of_getElem? (i := 53) rfl)) (by decide) (by decide)) (g := (mkF m 425 #[.val (.int eb'), .val (.int wb'), .val (.int ct'), .val (.int jk'), .val (.int n'), .val (.int m'), .val (.int k'), .val (.int sg'), .val (.int o'), .val (.ref b14), .val (.ref b24), .val (.ref b58), .val (.ref b76), .val (.ref b90), .val (.long (own_off dd rr n')), .second, .unset, .unset, .unset] [(.int n'), (.int m')])) rfl (by rw [hml]; rfl) (argsL := [(.int m'), (.int n')]) (rest := []) (lenOf pd0_5 rfl) rfl (by show 2 * 0 + _ ≤ _; exact Nat.le_of_eq rfl) (hb hby at_425) (fun _ _ => ⟨rfl, hh129, (by decide : 11 + 0 ≤ _), (by decide : 61 + 0 ≤ _)⟩)
  dsimp only [Pt.U, Pt.locs, Pt.cells, Pt.slots] at X130 l130 y130 z130 st130 hQ130
  subst l130 y130 z130
  obtain ⟨rfl, N130q, hh130⟩ := hQ130
  have N130 := Fr.app N129 N130q
  have pre131 : ∀ t, Steps p.tables e below (T130.setTop (mkF m 430 #[.val (.int eb'), .val (.int wb'), .val (.int ct'), .val (.int jk'), .val (.int n'), .val (.int m'), .val (.int k'), .val (.int sg'), .val (.int o'), .val (.ref b14), .val (.ref b24), .val (.ref b58), .val (.ref b76), .val (.ref b90), .val (.long (own_off dd rr n')), .second, .val (.int (own_mini m' n')), .unset, .unset] [])) t → Steps p.tables e below (s₁.setTop (entryFrame m #[(.int eb'), (.int wb'), (.int ct'), (.int jk')] maxLocals)) t := by
    intro t kt
    refine pre94 t ?_
    show Steps p.tables e below (T94.setTop (mkF m 414 #[.val (.int eb'), .val (.int wb'), .val (.int ct'), .val (.int jk'), .val (.int n'), .val (.int m'), .val (.int k'), .val (.int sg'), .val (.int o'), .val (.ref b14), .val (.ref b24), .val (.ref b58), .val (.ref b76), .val (.ref b90), .unset, .unset, .unset, .unset, .unset] [])) _
    refine XS.aload X94.here hx rfl (hb hby at_414) rfl rfl ?_
    show Steps p.tables e below (T94.setTop (mkF m 416 #[.val (.int eb'), .val (.int wb'), .val (.int ct'), .val (.int jk'), .val (.int n'), .val (.int m'), .val (.int k'), .val (.int sg'), .val (.int o'), .val (.ref b14), .val (.ref b24), .val (.ref b58), .val (.ref b76), .val (.ref b90), .unset, .unset, .unset, .unset, .unset] [(.ref b90)])) _
    refine st129.trans ?_
    show Steps p.tables e below (T129.setTop (mkF m 419 #[.val (.int eb'), .val (.int wb'), .val (.int ct'), .val (.int jk'), .val (.int n'), .val (.int m'), .val (.int k'), .val (.int sg'), .val (.int o'), .val (.ref b14), .val (.ref b24), .val (.ref b58), .val (.ref b76), .val (.ref b90), .unset, .unset, .unset, .unset, .unset] [(.long (own_off dd rr n'))])) _
    refine XS.lstore X129.here hx rfl (hb hby at_419) rfl (l' := #[.val (.int eb'), .val (.int wb'), .val (.int ct'), .val (.int jk'), .val (.int n'), .val (.int m'), .val (.int k'), .val (.int sg'), .val (.int o'), .val (.ref b14), .val (.ref b24), .val (.ref b58), .val (.ref b76), .val (.ref b90), .val (.long (own_off dd rr n')), .second, .unset, .unset, .unset]) rfl ?_
    show Steps p.tables e below (T129.setTop (mkF m 421 #[.val (.int eb'), .val (.int wb'), .val (.int ct'), .val (.int jk'), .val (.int n'), .val (.int m'), .val (.int k'), .val (.int sg'), .val (.int o'), .val (.ref b14), .val (.ref b24), .val (.ref b58), .val (.ref b76), .val (.ref b90), .val (.long (own_off dd rr n')), .second, .unset, .unset, .unset] [])) _
    refine XS.iload X129.here hx rfl (hb hby at_421) rfl ?_
    show Steps p.tables e below (T129.setTop (mkF m 423 #[.val (.int eb'), .val (.int wb'), .val (.int ct'), .val (.int jk'), .val (.int n'), .val (.int m'), .val (.int k'), .val (.int sg'), .val (.int o'), .val (.ref b14), .val (.ref b24), .val (.ref b58), .val (.ref b76), .val (.ref b90), .val (.long (own_off dd rr n')), .second, .unset, .unset, .unset] [(.int m')])) _
    refine XS.iload X129.here hx rfl (hb hby at_423) rfl ?_
    show Steps p.tables e below (T129.setTop (mkF m 425 #[.val (.int eb'), .val (.int wb'), .val (.int ct'), .val (.int jk'), .val (.int n'), .val (.int m'), .val (.int k'), .val (.int sg'), .val (.int o'), .val (.ref b14), .val (.ref b24), .val (.ref b58), .val (.ref b76), .val (.ref b90), .val (.long (own_off dd rr n')), .second, .unset, .unset, .unset] [(.int n'), (.int m')])) _
    refine st130 _ ?_
    show Steps p.tables e below (T130.setTop (mkF m 428 #[.val (.int eb'), .val (.int wb'), .val (.int ct'), .val (.int jk'), .val (.int n'), .val (.int m'), .val (.int k'), .val (.int sg'), .val (.int o'), .val (.ref b14), .val (.ref b24), .val (.ref b58), .val (.ref b76), .val (.ref b90), .val (.long (own_off dd rr n')), .second, .unset, .unset, .unset] [(.int (own_mini m' n'))])) _
    refine XS.istore X130.here hx rfl (hb hby at_428) rfl (l' := #[.val (.int eb'), .val (.int wb'), .val (.int ct'), .val (.int jk'), .val (.int n'), .val (.int m'), .val (.int k'), .val (.int sg'), .val (.int o'), .val (.ref b14), .val (.ref b24), .val (.ref b58), .val (.ref b76), .val (.ref b90), .val (.long (own_off dd rr n')), .second, .val (.int (own_mini m' n')), .unset, .unset]) rfl ?_
    exact kt
  obtain ⟨lo, h_lo⟩ : ∃ z : Int32, z = (own_mini m' n') := ⟨_, rfl⟩
  have pre132 : ∀ t, Steps p.tables e below (T130.setTop (mkF m 430 #[.val (.int eb'), .val (.int wb'), .val (.int ct'), .val (.int jk'), .val (.int n'), .val (.int m'), .val (.int k'), .val (.int sg'), .val (.int o'), .val (.ref b14), .val (.ref b24), .val (.ref b58), .val (.ref b76), .val (.ref b90), .val (.long (own_off dd rr n')), .second, .val (.int lo), .unset, .unset] [])) t → Steps p.tables e below (s₁.setTop (entryFrame m #[(.int eb'), (.int wb'), (.int ct'), (.int jk')] maxLocals)) t := by rw [h_lo]; exact pre131
  have hlo := h_lo.symm
  have pre133 : ∀ t, Steps p.tables e below (T130.setTop (mkF m 432 #[.val (.int eb'), .val (.int wb'), .val (.int ct'), .val (.int jk'), .val (.int n'), .val (.int m'), .val (.int k'), .val (.int sg'), .val (.int o'), .val (.ref b14), .val (.ref b24), .val (.ref b58), .val (.ref b76), .val (.ref b90), .val (.long (own_off dd rr n')), .second, .val (.int lo), .unset, .unset] [(.int lo)])) t → Steps p.tables e below (s₁.setTop (entryFrame m #[(.int eb'), (.int wb'), (.int ct'), (.int jk')] maxLocals)) t := by
    intro t kt
    refine pre132 t ?_
    show Steps p.tables e below (T130.setTop (mkF m 430 #[.val (.int eb'), .val (.int wb'), .val (.int ct'), .val (.int jk'), .val (.int n'), .val (.int m'), .val (.int k'), .val (.int sg'), .val (.int o'), .val (.ref b14), .val (.ref b24), .val (.ref b58), .val (.ref b76), .val (.ref b90), .val (.long (own_off dd rr n')), .second, .val (.int lo), .unset, .unset] [])) _
    refine XS.iload X130.here hx rfl (hb hby at_430) rfl ?_
    exact kt
  by_cases hc432_134 : (0 : Int32) < lo
  · obtain ⟨cl438135, Ar438135, S438135, M438135, H438135⟩ := id V_b58
    have hin438135 : ¬ ((0 : Int32) < 0 ∨ cl438135.slots.size ≤ ((0 : Int32)).toNatClampNeg) := inb_of S438135 ⟨by decide, by decide⟩
    have hat438135 := own_A.at S438135 H438135 hin438135
    obtain ⟨cl442136, Ar442136, S442136, M442136, H442136⟩ := id V_b14
    have hin442136 : ¬ ((0 : Int32) < 0 ∨ cl442136.slots.size ≤ ((0 : Int32)).toNatClampNeg) := inb_of S442136 ⟨by decide, by decide⟩
    have hat442136 := own_A.at S442136 H442136 hin442136
    have pre137 : ∀ t, Steps p.tables e below (T130.setTop (mkF m 443 #[.val (.int eb'), .val (.int wb'), .val (.int ct'), .val (.int jk'), .val (.int n'), .val (.int m'), .val (.int k'), .val (.int sg'), .val (.int o'), .val (.ref b14), .val (.ref b24), .val (.ref b58), .val (.ref b76), .val (.ref b90), .val (.long (own_off dd rr n')), .second, .val (.int lo), .unset, .unset] [(.int (fe ((0 : Int32)).toNatClampNeg)), (.int (fw ((0 : Int32)).toNatClampNeg))])) t → Steps p.tables e below (s₁.setTop (entryFrame m #[(.int eb'), (.int wb'), (.int ct'), (.int jk')] maxLocals)) t := by
      intro t kt
      refine pre133 t ?_
      show Steps p.tables e below (T130.setTop (mkF m 432 #[.val (.int eb'), .val (.int wb'), .val (.int ct'), .val (.int jk'), .val (.int n'), .val (.int m'), .val (.int k'), .val (.int sg'), .val (.int o'), .val (.ref b14), .val (.ref b24), .val (.ref b58), .val (.ref b76), .val (.ref b90), .val (.long (own_off dd rr n')), .second, .val (.int lo), .unset, .unset] [(.int lo)])) _
      refine XS.ifNo X130.here hx rfl (hb hby at_432) rfl ((if0 _ _).trans (tlt hc432_134).2.2.2) ?_
      show Steps p.tables e below (T130.setTop (mkF m 435 #[.val (.int eb'), .val (.int wb'), .val (.int ct'), .val (.int jk'), .val (.int n'), .val (.int m'), .val (.int k'), .val (.int sg'), .val (.int o'), .val (.ref b14), .val (.ref b24), .val (.ref b58), .val (.ref b76), .val (.ref b90), .val (.long (own_off dd rr n')), .second, .val (.int lo), .unset, .unset] [])) _
      refine XS.aload X130.here hx rfl (hb hby at_435) rfl rfl ?_
      show Steps p.tables e below (T130.setTop (mkF m 437 #[.val (.int eb'), .val (.int wb'), .val (.int ct'), .val (.int jk'), .val (.int n'), .val (.int m'), .val (.int k'), .val (.int sg'), .val (.int o'), .val (.ref b14), .val (.ref b24), .val (.ref b58), .val (.ref b76), .val (.ref b90), .val (.long (own_off dd rr n')), .second, .val (.int lo), .unset, .unset] [(.ref b58)])) _
      refine XS.iconst X130.here hx rfl (hb hby at_437) ?_
      show Steps p.tables e below (T130.setTop (mkF m 438 #[.val (.int eb'), .val (.int wb'), .val (.int ct'), .val (.int jk'), .val (.int n'), .val (.int m'), .val (.int k'), .val (.int sg'), .val (.int o'), .val (.ref b14), .val (.ref b24), .val (.ref b58), .val (.ref b76), .val (.ref b90), .val (.long (own_off dd rr n')), .second, .val (.int lo), .unset, .unset] [(.int (0 : Int32)), (.ref b58)])) _
      refine X130.baloadBytes hx (j := (0 : Int32)) (v := (.int (fw ((0 : Int32)).toNatClampNeg))) (by rw [hh130]; exact Ar438135.1) (State.isArrayOf_alike hZ.alike Ar438135.2.1) Ar438135.2.2 hin438135 hat438135 (g := (mkF m 438 #[.val (.int eb'), .val (.int wb'), .val (.int ct'), .val (.int jk'), .val (.int n'), .val (.int m'), .val (.int k'), .val (.int sg'), .val (.int o'), .val (.ref b14), .val (.ref b24), .val (.ref b58), .val (.ref b76), .val (.ref b90), .val (.long (own_off dd rr n')), .second, .val (.int lo), .unset, .unset] [(.int (0 : Int32)), (.ref b58)])) rfl rfl (hb hby at_438) _ ?_
      show Steps p.tables e below (T130.setTop (mkF m 439 #[.val (.int eb'), .val (.int wb'), .val (.int ct'), .val (.int jk'), .val (.int n'), .val (.int m'), .val (.int k'), .val (.int sg'), .val (.int o'), .val (.ref b14), .val (.ref b24), .val (.ref b58), .val (.ref b76), .val (.ref b90), .val (.long (own_off dd rr n')), .second, .val (.int lo), .unset, .unset] [(.int (fw ((0 : Int32)).toNatClampNeg))])) _
      refine XS.aload X130.here hx rfl (hb hby at_439) rfl rfl ?_
      show Steps p.tables e below (T130.setTop (mkF m 441 #[.val (.int eb'), .val (.int wb'), .val (.int ct'), .val (.int jk'), .val (.int n'), .val (.int m'), .val (.int k'), .val (.int sg'), .val (.int o'), .val (.ref b14), .val (.ref b24), .val (.ref b58), .val (.ref b76), .val (.ref b90), .val (.long (own_off dd rr n')), .second, .val (.int lo), .unset, .unset] [(.ref b14), (.int (fw ((0 : Int32)).toNatClampNeg))])) _
      refine XS.iconst X130.here hx rfl (hb hby at_441) ?_
      show Steps p.tables e below (T130.setTop (mkF m 442 #[.val (.int eb'), .val (.int wb'), .val (.int ct'), .val (.int jk'), .val (.int n'), .val (.int m'), .val (.int k'), .val (.int sg'), .val (.int o'), .val (.ref b14), .val (.ref b24), .val (.ref b58), .val (.ref b76), .val (.ref b90), .val (.long (own_off dd rr n')), .second, .val (.int lo), .unset, .unset] [(.int (0 : Int32)), (.ref b14), (.int (fw ((0 : Int32)).toNatClampNeg))])) _
      refine X130.baloadBytes hx (j := (0 : Int32)) (v := (.int (fe ((0 : Int32)).toNatClampNeg))) (by rw [hh130]; exact Ar442136.1) (State.isArrayOf_alike hZ.alike Ar442136.2.1) Ar442136.2.2 hin442136 hat442136 (g := (mkF m 442 #[.val (.int eb'), .val (.int wb'), .val (.int ct'), .val (.int jk'), .val (.int n'), .val (.int m'), .val (.int k'), .val (.int sg'), .val (.int o'), .val (.ref b14), .val (.ref b24), .val (.ref b58), .val (.ref b76), .val (.ref b90), .val (.long (own_off dd rr n')), .second, .val (.int lo), .unset, .unset] [(.int (0 : Int32)), (.ref b14), (.int (fw ((0 : Int32)).toNatClampNeg))])) rfl rfl (hb hby at_442) _ ?_
      exact kt
    by_cases hc443_138 : (fw ((0 : Int32)).toNatClampNeg) = (fe ((0 : Int32)).toNatClampNeg)
    · have pre139 : ∀ t, Steps p.tables e below (T130.setTop (mkF m 455 #[.val (.int eb'), .val (.int wb'), .val (.int ct'), .val (.int jk'), .val (.int n'), .val (.int m'), .val (.int k'), .val (.int sg'), .val (.int o'), .val (.ref b14), .val (.ref b24), .val (.ref b58), .val (.ref b76), .val (.ref b90), .val (.long (own_off dd rr n')), .second, .val (.int lo), .unset, .unset] [(.int (1 : Int32)), (.int lo)])) t → Steps p.tables e below (s₁.setTop (entryFrame m #[(.int eb'), (.int wb'), (.int ct'), (.int jk')] maxLocals)) t := by
        intro t kt
        refine pre137 t ?_
        show Steps p.tables e below (T130.setTop (mkF m 443 #[.val (.int eb'), .val (.int wb'), .val (.int ct'), .val (.int jk'), .val (.int n'), .val (.int m'), .val (.int k'), .val (.int sg'), .val (.int o'), .val (.ref b14), .val (.ref b24), .val (.ref b58), .val (.ref b76), .val (.ref b90), .val (.long (own_off dd rr n')), .second, .val (.int lo), .unset, .unset] [(.int (fe ((0 : Int32)).toNatClampNeg)), (.int (fw ((0 : Int32)).toNatClampNeg))])) _
        refine XS.icmpYes X130.here hx rfl (pc0 := 443) (pc' := 452) rfl (hb hby at_443) rfl (teq hc443_138).1 (by decide) (by decide) ?_
        show Steps p.tables e below (T130.setTop (mkF m 452 #[.val (.int eb'), .val (.int wb'), .val (.int ct'), .val (.int jk'), .val (.int n'), .val (.int m'), .val (.int k'), .val (.int sg'), .val (.int o'), .val (.ref b14), .val (.ref b24), .val (.ref b58), .val (.ref b76), .val (.ref b90), .val (.long (own_off dd rr n')), .second, .val (.int lo), .unset, .unset] [])) _
        refine XS.iload X130.here hx rfl (hb hby at_452) rfl ?_
        show Steps p.tables e below (T130.setTop (mkF m 454 #[.val (.int eb'), .val (.int wb'), .val (.int ct'), .val (.int jk'), .val (.int n'), .val (.int m'), .val (.int k'), .val (.int sg'), .val (.int o'), .val (.ref b14), .val (.ref b24), .val (.ref b58), .val (.ref b76), .val (.ref b90), .val (.long (own_off dd rr n')), .second, .val (.int lo), .unset, .unset] [(.int lo)])) _
        refine XS.iconst X130.here hx rfl (hb hby at_454) ?_
        exact kt
      by_cases hc455_140 : (1 : Int32) < lo
      · obtain ⟨cl461141, Ar461141, S461141, M461141, H461141⟩ := id V_b58
        have hin461141 : ¬ ((1 : Int32) < 0 ∨ cl461141.slots.size ≤ ((1 : Int32)).toNatClampNeg) := inb_of S461141 ⟨by decide, by decide⟩
        have hat461141 := own_A.at S461141 H461141 hin461141
        obtain ⟨cl465142, Ar465142, S465142, M465142, H465142⟩ := id V_b14
        have hin465142 : ¬ ((1 : Int32) < 0 ∨ cl465142.slots.size ≤ ((1 : Int32)).toNatClampNeg) := inb_of S465142 ⟨by decide, by decide⟩
        have hat465142 := own_A.at S465142 H465142 hin465142
        have pre143 : ∀ t, Steps p.tables e below (T130.setTop (mkF m 466 #[.val (.int eb'), .val (.int wb'), .val (.int ct'), .val (.int jk'), .val (.int n'), .val (.int m'), .val (.int k'), .val (.int sg'), .val (.int o'), .val (.ref b14), .val (.ref b24), .val (.ref b58), .val (.ref b76), .val (.ref b90), .val (.long (own_off dd rr n')), .second, .val (.int lo), .unset, .unset] [(.int (fe ((1 : Int32)).toNatClampNeg)), (.int (fw ((1 : Int32)).toNatClampNeg))])) t → Steps p.tables e below (s₁.setTop (entryFrame m #[(.int eb'), (.int wb'), (.int ct'), (.int jk')] maxLocals)) t := by
          intro t kt
          refine pre139 t ?_
          show Steps p.tables e below (T130.setTop (mkF m 455 #[.val (.int eb'), .val (.int wb'), .val (.int ct'), .val (.int jk'), .val (.int n'), .val (.int m'), .val (.int k'), .val (.int sg'), .val (.int o'), .val (.ref b14), .val (.ref b24), .val (.ref b58), .val (.ref b76), .val (.ref b90), .val (.long (own_off dd rr n')), .second, .val (.int lo), .unset, .unset] [(.int (1 : Int32)), (.int lo)])) _
          refine XS.icmpNo X130.here hx rfl (hb hby at_455) rfl (tlt hc455_140).2.2.2 ?_
          show Steps p.tables e below (T130.setTop (mkF m 458 #[.val (.int eb'), .val (.int wb'), .val (.int ct'), .val (.int jk'), .val (.int n'), .val (.int m'), .val (.int k'), .val (.int sg'), .val (.int o'), .val (.ref b14), .val (.ref b24), .val (.ref b58), .val (.ref b76), .val (.ref b90), .val (.long (own_off dd rr n')), .second, .val (.int lo), .unset, .unset] [])) _
          refine XS.aload X130.here hx rfl (hb hby at_458) rfl rfl ?_
          show Steps p.tables e below (T130.setTop (mkF m 460 #[.val (.int eb'), .val (.int wb'), .val (.int ct'), .val (.int jk'), .val (.int n'), .val (.int m'), .val (.int k'), .val (.int sg'), .val (.int o'), .val (.ref b14), .val (.ref b24), .val (.ref b58), .val (.ref b76), .val (.ref b90), .val (.long (own_off dd rr n')), .second, .val (.int lo), .unset, .unset] [(.ref b58)])) _
          refine XS.iconst X130.here hx rfl (hb hby at_460) ?_
          show Steps p.tables e below (T130.setTop (mkF m 461 #[.val (.int eb'), .val (.int wb'), .val (.int ct'), .val (.int jk'), .val (.int n'), .val (.int m'), .val (.int k'), .val (.int sg'), .val (.int o'), .val (.ref b14), .val (.ref b24), .val (.ref b58), .val (.ref b76), .val (.ref b90), .val (.long (own_off dd rr n')), .second, .val (.int lo), .unset, .unset] [(.int (1 : Int32)), (.ref b58)])) _
          refine X130.baloadBytes hx (j := (1 : Int32)) (v := (.int (fw ((1 : Int32)).toNatClampNeg))) (by rw [hh130]; exact Ar461141.1) (State.isArrayOf_alike hZ.alike Ar461141.2.1) Ar461141.2.2 hin461141 hat461141 (g := (mkF m 461 #[.val (.int eb'), .val (.int wb'), .val (.int ct'), .val (.int jk'), .val (.int n'), .val (.int m'), .val (.int k'), .val (.int sg'), .val (.int o'), .val (.ref b14), .val (.ref b24), .val (.ref b58), .val (.ref b76), .val (.ref b90), .val (.long (own_off dd rr n')), .second, .val (.int lo), .unset, .unset] [(.int (1 : Int32)), (.ref b58)])) rfl rfl (hb hby at_461) _ ?_
          show Steps p.tables e below (T130.setTop (mkF m 462 #[.val (.int eb'), .val (.int wb'), .val (.int ct'), .val (.int jk'), .val (.int n'), .val (.int m'), .val (.int k'), .val (.int sg'), .val (.int o'), .val (.ref b14), .val (.ref b24), .val (.ref b58), .val (.ref b76), .val (.ref b90), .val (.long (own_off dd rr n')), .second, .val (.int lo), .unset, .unset] [(.int (fw ((1 : Int32)).toNatClampNeg))])) _
          refine XS.aload X130.here hx rfl (hb hby at_462) rfl rfl ?_
          show Steps p.tables e below (T130.setTop (mkF m 464 #[.val (.int eb'), .val (.int wb'), .val (.int ct'), .val (.int jk'), .val (.int n'), .val (.int m'), .val (.int k'), .val (.int sg'), .val (.int o'), .val (.ref b14), .val (.ref b24), .val (.ref b58), .val (.ref b76), .val (.ref b90), .val (.long (own_off dd rr n')), .second, .val (.int lo), .unset, .unset] [(.ref b14), (.int (fw ((1 : Int32)).toNatClampNeg))])) _
          refine XS.iconst X130.here hx rfl (hb hby at_464) ?_
          show Steps p.tables e below (T130.setTop (mkF m 465 #[.val (.int eb'), .val (.int wb'), .val (.int ct'), .val (.int jk'), .val (.int n'), .val (.int m'), .val (.int k'), .val (.int sg'), .val (.int o'), .val (.ref b14), .val (.ref b24), .val (.ref b58), .val (.ref b76), .val (.ref b90), .val (.long (own_off dd rr n')), .second, .val (.int lo), .unset, .unset] [(.int (1 : Int32)), (.ref b14), (.int (fw ((1 : Int32)).toNatClampNeg))])) _
          refine X130.baloadBytes hx (j := (1 : Int32)) (v := (.int (fe ((1 : Int32)).toNatClampNeg))) (by rw [hh130]; exact Ar465142.1) (State.isArrayOf_alike hZ.alike Ar465142.2.1) Ar465142.2.2 hin465142 hat465142 (g := (mkF m 465 #[.val (.int eb'), .val (.int wb'), .val (.int ct'), .val (.int jk'), .val (.int n'), .val (.int m'), .val (.int k'), .val (.int sg'), .val (.int o'), .val (.ref b14), .val (.ref b24), .val (.ref b58), .val (.ref b76), .val (.ref b90), .val (.long (own_off dd rr n')), .second, .val (.int lo), .unset, .unset] [(.int (1 : Int32)), (.ref b14), (.int (fw ((1 : Int32)).toNatClampNeg))])) rfl rfl (hb hby at_465) _ ?_
          exact kt
        by_cases hc466_144 : (fw ((1 : Int32)).toNatClampNeg) = (fe ((1 : Int32)).toNatClampNeg)
        · have pre145 : ∀ t, Steps p.tables e below (T130.setTop (mkF m 478 #[.val (.int eb'), .val (.int wb'), .val (.int ct'), .val (.int jk'), .val (.int n'), .val (.int m'), .val (.int k'), .val (.int sg'), .val (.int o'), .val (.ref b14), .val (.ref b24), .val (.ref b58), .val (.ref b76), .val (.ref b90), .val (.long (own_off dd rr n')), .second, .val (.int lo), .unset, .unset] [(.int (2 : Int32)), (.int lo)])) t → Steps p.tables e below (s₁.setTop (entryFrame m #[(.int eb'), (.int wb'), (.int ct'), (.int jk')] maxLocals)) t := by
            intro t kt
            refine pre143 t ?_
            show Steps p.tables e below (T130.setTop (mkF m 466 #[.val (.int eb'), .val (.int wb'), .val (.int ct'), .val (.int jk'), .val (.int n'), .val (.int m'), .val (.int k'), .val (.int sg'), .val (.int o'), .val (.ref b14), .val (.ref b24), .val (.ref b58), .val (.ref b76), .val (.ref b90), .val (.long (own_off dd rr n')), .second, .val (.int lo), .unset, .unset] [(.int (fe ((1 : Int32)).toNatClampNeg)), (.int (fw ((1 : Int32)).toNatClampNeg))])) _
            refine XS.icmpYes X130.here hx rfl (pc0 := 466) (pc' := 475) rfl (hb hby at_466) rfl (teq hc466_144).1 (by decide) (by decide) ?_
            show Steps p.tables e below (T130.setTop (mkF m 475 #[.val (.int eb'), .val (.int wb'), .val (.int ct'), .val (.int jk'), .val (.int n'), .val (.int m'), .val (.int k'), .val (.int sg'), .val (.int o'), .val (.ref b14), .val (.ref b24), .val (.ref b58), .val (.ref b76), .val (.ref b90), .val (.long (own_off dd rr n')), .second, .val (.int lo), .unset, .unset] [])) _
            refine XS.iload X130.here hx rfl (hb hby at_475) rfl ?_
            show Steps p.tables e below (T130.setTop (mkF m 477 #[.val (.int eb'), .val (.int wb'), .val (.int ct'), .val (.int jk'), .val (.int n'), .val (.int m'), .val (.int k'), .val (.int sg'), .val (.int o'), .val (.ref b14), .val (.ref b24), .val (.ref b58), .val (.ref b76), .val (.ref b90), .val (.long (own_off dd rr n')), .second, .val (.int lo), .unset, .unset] [(.int lo)])) _
            refine XS.iconst X130.here hx rfl (hb hby at_477) ?_
            exact kt
          by_cases hc478_146 : (2 : Int32) < lo
          · obtain ⟨cl484147, Ar484147, S484147, M484147, H484147⟩ := id V_b58
            have hin484147 : ¬ ((2 : Int32) < 0 ∨ cl484147.slots.size ≤ ((2 : Int32)).toNatClampNeg) := inb_of S484147 ⟨by decide, by decide⟩
            have hat484147 := own_A.at S484147 H484147 hin484147
            obtain ⟨cl488148, Ar488148, S488148, M488148, H488148⟩ := id V_b14
            have hin488148 : ¬ ((2 : Int32) < 0 ∨ cl488148.slots.size ≤ ((2 : Int32)).toNatClampNeg) := inb_of S488148 ⟨by decide, by decide⟩
            have hat488148 := own_A.at S488148 H488148 hin488148
            have pre149 : ∀ t, Steps p.tables e below (T130.setTop (mkF m 489 #[.val (.int eb'), .val (.int wb'), .val (.int ct'), .val (.int jk'), .val (.int n'), .val (.int m'), .val (.int k'), .val (.int sg'), .val (.int o'), .val (.ref b14), .val (.ref b24), .val (.ref b58), .val (.ref b76), .val (.ref b90), .val (.long (own_off dd rr n')), .second, .val (.int lo), .unset, .unset] [(.int (fe ((2 : Int32)).toNatClampNeg)), (.int (fw ((2 : Int32)).toNatClampNeg))])) t → Steps p.tables e below (s₁.setTop (entryFrame m #[(.int eb'), (.int wb'), (.int ct'), (.int jk')] maxLocals)) t := by
              intro t kt
              refine pre145 t ?_
              show Steps p.tables e below (T130.setTop (mkF m 478 #[.val (.int eb'), .val (.int wb'), .val (.int ct'), .val (.int jk'), .val (.int n'), .val (.int m'), .val (.int k'), .val (.int sg'), .val (.int o'), .val (.ref b14), .val (.ref b24), .val (.ref b58), .val (.ref b76), .val (.ref b90), .val (.long (own_off dd rr n')), .second, .val (.int lo), .unset, .unset] [(.int (2 : Int32)), (.int lo)])) _
              refine XS.icmpNo X130.here hx rfl (hb hby at_478) rfl (tlt hc478_146).2.2.2 ?_
              show Steps p.tables e below (T130.setTop (mkF m 481 #[.val (.int eb'), .val (.int wb'), .val (.int ct'), .val (.int jk'), .val (.int n'), .val (.int m'), .val (.int k'), .val (.int sg'), .val (.int o'), .val (.ref b14), .val (.ref b24), .val (.ref b58), .val (.ref b76), .val (.ref b90), .val (.long (own_off dd rr n')), .second, .val (.int lo), .unset, .unset] [])) _
              refine XS.aload X130.here hx rfl (hb hby at_481) rfl rfl ?_
              show Steps p.tables e below (T130.setTop (mkF m 483 #[.val (.int eb'), .val (.int wb'), .val (.int ct'), .val (.int jk'), .val (.int n'), .val (.int m'), .val (.int k'), .val (.int sg'), .val (.int o'), .val (.ref b14), .val (.ref b24), .val (.ref b58), .val (.ref b76), .val (.ref b90), .val (.long (own_off dd rr n')), .second, .val (.int lo), .unset, .unset] [(.ref b58)])) _
              refine XS.iconst X130.here hx rfl (hb hby at_483) ?_
              show Steps p.tables e below (T130.setTop (mkF m 484 #[.val (.int eb'), .val (.int wb'), .val (.int ct'), .val (.int jk'), .val (.int n'), .val (.int m'), .val (.int k'), .val (.int sg'), .val (.int o'), .val (.ref b14), .val (.ref b24), .val (.ref b58), .val (.ref b76), .val (.ref b90), .val (.long (own_off dd rr n')), .second, .val (.int lo), .unset, .unset] [(.int (2 : Int32)), (.ref b58)])) _
              refine X130.baloadBytes hx (j := (2 : Int32)) (v := (.int (fw ((2 : Int32)).toNatClampNeg))) (by rw [hh130]; exact Ar484147.1) (State.isArrayOf_alike hZ.alike Ar484147.2.1) Ar484147.2.2 hin484147 hat484147 (g := (mkF m 484 #[.val (.int eb'), .val (.int wb'), .val (.int ct'), .val (.int jk'), .val (.int n'), .val (.int m'), .val (.int k'), .val (.int sg'), .val (.int o'), .val (.ref b14), .val (.ref b24), .val (.ref b58), .val (.ref b76), .val (.ref b90), .val (.long (own_off dd rr n')), .second, .val (.int lo), .unset, .unset] [(.int (2 : Int32)), (.ref b58)])) rfl rfl (hb hby at_484) _ ?_
              show Steps p.tables e below (T130.setTop (mkF m 485 #[.val (.int eb'), .val (.int wb'), .val (.int ct'), .val (.int jk'), .val (.int n'), .val (.int m'), .val (.int k'), .val (.int sg'), .val (.int o'), .val (.ref b14), .val (.ref b24), .val (.ref b58), .val (.ref b76), .val (.ref b90), .val (.long (own_off dd rr n')), .second, .val (.int lo), .unset, .unset] [(.int (fw ((2 : Int32)).toNatClampNeg))])) _
              refine XS.aload X130.here hx rfl (hb hby at_485) rfl rfl ?_
              show Steps p.tables e below (T130.setTop (mkF m 487 #[.val (.int eb'), .val (.int wb'), .val (.int ct'), .val (.int jk'), .val (.int n'), .val (.int m'), .val (.int k'), .val (.int sg'), .val (.int o'), .val (.ref b14), .val (.ref b24), .val (.ref b58), .val (.ref b76), .val (.ref b90), .val (.long (own_off dd rr n')), .second, .val (.int lo), .unset, .unset] [(.ref b14), (.int (fw ((2 : Int32)).toNatClampNeg))])) _
              refine XS.iconst X130.here hx rfl (hb hby at_487) ?_
              show Steps p.tables e below (T130.setTop (mkF m 488 #[.val (.int eb'), .val (.int wb'), .val (.int ct'), .val (.int jk'), .val (.int n'), .val (.int m'), .val (.int k'), .val (.int sg'), .val (.int o'), .val (.ref b14), .val (.ref b24), .val (.ref b58), .val (.ref b76), .val (.ref b90), .val (.long (own_off dd rr n')), .second, .val (.int lo), .unset, .unset] [(.int (2 : Int32)), (.ref b14), (.int (fw ((2 : Int32)).toNatClampNeg))])) _
              refine X130.baloadBytes hx (j := (2 : Int32)) (v := (.int (fe ((2 : Int32)).toNatClampNeg))) (by rw [hh130]; exact Ar488148.1) (State.isArrayOf_alike hZ.alike Ar488148.2.1) Ar488148.2.2 hin488148 hat488148 (g := (mkF m 488 #[.val (.int eb'), .val (.int wb'), .val (.int ct'), .val (.int jk'), .val (.int n'), .val (.int m'), .val (.int k'), .val (.int sg'), .val (.int o'), .val (.ref b14), .val (.ref b24), .val (.ref b58), .val (.ref b76), .val (.ref b90), .val (.long (own_off dd rr n')), .second, .val (.int lo), .unset, .unset] [(.int (2 : Int32)), (.ref b14), (.int (fw ((2 : Int32)).toNatClampNeg))])) rfl rfl (hb hby at_488) _ ?_
              exact kt
            by_cases hc489_150 : (fw ((2 : Int32)).toNatClampNeg) = (fe ((2 : Int32)).toNatClampNeg)
            · have pre151 : ∀ t, Steps p.tables e below (T130.setTop (mkF m 503 #[.val (.int eb'), .val (.int wb'), .val (.int ct'), .val (.int jk'), .val (.int n'), .val (.int m'), .val (.int k'), .val (.int sg'), .val (.int o'), .val (.ref b14), .val (.ref b24), .val (.ref b58), .val (.ref b76), .val (.ref b90), .val (.long (own_off dd rr n')), .second, .val (.int lo), .unset, .unset] [(.int (3 : Int32)), (.int lo)])) t → Steps p.tables e below (s₁.setTop (entryFrame m #[(.int eb'), (.int wb'), (.int ct'), (.int jk')] maxLocals)) t := by
                intro t kt
                refine pre149 t ?_
                show Steps p.tables e below (T130.setTop (mkF m 489 #[.val (.int eb'), .val (.int wb'), .val (.int ct'), .val (.int jk'), .val (.int n'), .val (.int m'), .val (.int k'), .val (.int sg'), .val (.int o'), .val (.ref b14), .val (.ref b24), .val (.ref b58), .val (.ref b76), .val (.ref b90), .val (.long (own_off dd rr n')), .second, .val (.int lo), .unset, .unset] [(.int (fe ((2 : Int32)).toNatClampNeg)), (.int (fw ((2 : Int32)).toNatClampNeg))])) _
                refine XS.icmpYes X130.here hx rfl (pc0 := 489) (pc' := 500) rfl (hb hby at_489) rfl (teq hc489_150).1 (by decide) (by decide) ?_
                show Steps p.tables e below (T130.setTop (mkF m 500 #[.val (.int eb'), .val (.int wb'), .val (.int ct'), .val (.int jk'), .val (.int n'), .val (.int m'), .val (.int k'), .val (.int sg'), .val (.int o'), .val (.ref b14), .val (.ref b24), .val (.ref b58), .val (.ref b76), .val (.ref b90), .val (.long (own_off dd rr n')), .second, .val (.int lo), .unset, .unset] [])) _
                refine XS.iload X130.here hx rfl (hb hby at_500) rfl ?_
                show Steps p.tables e below (T130.setTop (mkF m 502 #[.val (.int eb'), .val (.int wb'), .val (.int ct'), .val (.int jk'), .val (.int n'), .val (.int m'), .val (.int k'), .val (.int sg'), .val (.int o'), .val (.ref b14), .val (.ref b24), .val (.ref b58), .val (.ref b76), .val (.ref b90), .val (.long (own_off dd rr n')), .second, .val (.int lo), .unset, .unset] [(.int lo)])) _
                refine XS.iconst X130.here hx rfl (hb hby at_502) ?_
                exact kt
              by_cases hc503_152 : (3 : Int32) < lo
              · obtain ⟨cl509153, Ar509153, S509153, M509153, H509153⟩ := id V_b58
                have hin509153 : ¬ ((3 : Int32) < 0 ∨ cl509153.slots.size ≤ ((3 : Int32)).toNatClampNeg) := inb_of S509153 ⟨by decide, by decide⟩
                have hat509153 := own_A.at S509153 H509153 hin509153
                obtain ⟨cl513154, Ar513154, S513154, M513154, H513154⟩ := id V_b14
                have hin513154 : ¬ ((3 : Int32) < 0 ∨ cl513154.slots.size ≤ ((3 : Int32)).toNatClampNeg) := inb_of S513154 ⟨by decide, by decide⟩
                have hat513154 := own_A.at S513154 H513154 hin513154
                have pre155 : ∀ t, Steps p.tables e below (T130.setTop (mkF m 514 #[.val (.int eb'), .val (.int wb'), .val (.int ct'), .val (.int jk'), .val (.int n'), .val (.int m'), .val (.int k'), .val (.int sg'), .val (.int o'), .val (.ref b14), .val (.ref b24), .val (.ref b58), .val (.ref b76), .val (.ref b90), .val (.long (own_off dd rr n')), .second, .val (.int lo), .unset, .unset] [(.int (fe ((3 : Int32)).toNatClampNeg)), (.int (fw ((3 : Int32)).toNatClampNeg))])) t → Steps p.tables e below (s₁.setTop (entryFrame m #[(.int eb'), (.int wb'), (.int ct'), (.int jk')] maxLocals)) t := by
                  intro t kt
                  refine pre151 t ?_
                  show Steps p.tables e below (T130.setTop (mkF m 503 #[.val (.int eb'), .val (.int wb'), .val (.int ct'), .val (.int jk'), .val (.int n'), .val (.int m'), .val (.int k'), .val (.int sg'), .val (.int o'), .val (.ref b14), .val (.ref b24), .val (.ref b58), .val (.ref b76), .val (.ref b90), .val (.long (own_off dd rr n')), .second, .val (.int lo), .unset, .unset] [(.int (3 : Int32)), (.int lo)])) _
                  refine XS.icmpNo X130.here hx rfl (hb hby at_503) rfl (tlt hc503_152).2.2.2 ?_
                  show Steps p.tables e below (T130.setTop (mkF m 506 #[.val (.int eb'), .val (.int wb'), .val (.int ct'), .val (.int jk'), .val (.int n'), .val (.int m'), .val (.int k'), .val (.int sg'), .val (.int o'), .val (.ref b14), .val (.ref b24), .val (.ref b58), .val (.ref b76), .val (.ref b90), .val (.long (own_off dd rr n')), .second, .val (.int lo), .unset, .unset] [])) _
                  refine XS.aload X130.here hx rfl (hb hby at_506) rfl rfl ?_
                  show Steps p.tables e below (T130.setTop (mkF m 508 #[.val (.int eb'), .val (.int wb'), .val (.int ct'), .val (.int jk'), .val (.int n'), .val (.int m'), .val (.int k'), .val (.int sg'), .val (.int o'), .val (.ref b14), .val (.ref b24), .val (.ref b58), .val (.ref b76), .val (.ref b90), .val (.long (own_off dd rr n')), .second, .val (.int lo), .unset, .unset] [(.ref b58)])) _
                  refine XS.iconst X130.here hx rfl (hb hby at_508) ?_
                  show Steps p.tables e below (T130.setTop (mkF m 509 #[.val (.int eb'), .val (.int wb'), .val (.int ct'), .val (.int jk'), .val (.int n'), .val (.int m'), .val (.int k'), .val (.int sg'), .val (.int o'), .val (.ref b14), .val (.ref b24), .val (.ref b58), .val (.ref b76), .val (.ref b90), .val (.long (own_off dd rr n')), .second, .val (.int lo), .unset, .unset] [(.int (3 : Int32)), (.ref b58)])) _
                  refine X130.baloadBytes hx (j := (3 : Int32)) (v := (.int (fw ((3 : Int32)).toNatClampNeg))) (by rw [hh130]; exact Ar509153.1) (State.isArrayOf_alike hZ.alike Ar509153.2.1) Ar509153.2.2 hin509153 hat509153 (g := (mkF m 509 #[.val (.int eb'), .val (.int wb'), .val (.int ct'), .val (.int jk'), .val (.int n'), .val (.int m'), .val (.int k'), .val (.int sg'), .val (.int o'), .val (.ref b14), .val (.ref b24), .val (.ref b58), .val (.ref b76), .val (.ref b90), .val (.long (own_off dd rr n')), .second, .val (.int lo), .unset, .unset] [(.int (3 : Int32)), (.ref b58)])) rfl rfl (hb hby at_509) _ ?_
                  show Steps p.tables e below (T130.setTop (mkF m 510 #[.val (.int eb'), .val (.int wb'), .val (.int ct'), .val (.int jk'), .val (.int n'), .val (.int m'), .val (.int k'), .val (.int sg'), .val (.int o'), .val (.ref b14), .val (.ref b24), .val (.ref b58), .val (.ref b76), .val (.ref b90), .val (.long (own_off dd rr n')), .second, .val (.int lo), .unset, .unset] [(.int (fw ((3 : Int32)).toNatClampNeg))])) _
                  refine XS.aload X130.here hx rfl (hb hby at_510) rfl rfl ?_
                  show Steps p.tables e below (T130.setTop (mkF m 512 #[.val (.int eb'), .val (.int wb'), .val (.int ct'), .val (.int jk'), .val (.int n'), .val (.int m'), .val (.int k'), .val (.int sg'), .val (.int o'), .val (.ref b14), .val (.ref b24), .val (.ref b58), .val (.ref b76), .val (.ref b90), .val (.long (own_off dd rr n')), .second, .val (.int lo), .unset, .unset] [(.ref b14), (.int (fw ((3 : Int32)).toNatClampNeg))])) _
                  refine XS.iconst X130.here hx rfl (hb hby at_512) ?_
                  show Steps p.tables e below (T130.setTop (mkF m 513 #[.val (.int eb'), .val (.int wb'), .val (.int ct'), .val (.int jk'), .val (.int n'), .val (.int m'), .val (.int k'), .val (.int sg'), .val (.int o'), .val (.ref b14), .val (.ref b24), .val (.ref b58), .val (.ref b76), .val (.ref b90), .val (.long (own_off dd rr n')), .second, .val (.int lo), .unset, .unset] [(.int (3 : Int32)), (.ref b14), (.int (fw ((3 : Int32)).toNatClampNeg))])) _
                  refine X130.baloadBytes hx (j := (3 : Int32)) (v := (.int (fe ((3 : Int32)).toNatClampNeg))) (by rw [hh130]; exact Ar513154.1) (State.isArrayOf_alike hZ.alike Ar513154.2.1) Ar513154.2.2 hin513154 hat513154 (g := (mkF m 513 #[.val (.int eb'), .val (.int wb'), .val (.int ct'), .val (.int jk'), .val (.int n'), .val (.int m'), .val (.int k'), .val (.int sg'), .val (.int o'), .val (.ref b14), .val (.ref b24), .val (.ref b58), .val (.ref b76), .val (.ref b90), .val (.long (own_off dd rr n')), .second, .val (.int lo), .unset, .unset] [(.int (3 : Int32)), (.ref b14), (.int (fw ((3 : Int32)).toNatClampNeg))])) rfl rfl (hb hby at_513) _ ?_
                  exact kt
                by_cases hc514_156 : (fw ((3 : Int32)).toNatClampNeg) = (fe ((3 : Int32)).toNatClampNeg)
                · have pre157 : ∀ t, Steps p.tables e below (T130.setTop (mkF m 529 #[.val (.int eb'), .val (.int wb'), .val (.int ct'), .val (.int jk'), .val (.int n'), .val (.int m'), .val (.int k'), .val (.int sg'), .val (.int o'), .val (.ref b14), .val (.ref b24), .val (.ref b58), .val (.ref b76), .val (.ref b90), .val (.long (own_off dd rr n')), .second, .val (.int lo), .unset, .unset] [(.int n'), (.int m')])) t → Steps p.tables e below (s₁.setTop (entryFrame m #[(.int eb'), (.int wb'), (.int ct'), (.int jk')] maxLocals)) t := by
                    intro t kt
                    refine pre155 t ?_
                    show Steps p.tables e below (T130.setTop (mkF m 514 #[.val (.int eb'), .val (.int wb'), .val (.int ct'), .val (.int jk'), .val (.int n'), .val (.int m'), .val (.int k'), .val (.int sg'), .val (.int o'), .val (.ref b14), .val (.ref b24), .val (.ref b58), .val (.ref b76), .val (.ref b90), .val (.long (own_off dd rr n')), .second, .val (.int lo), .unset, .unset] [(.int (fe ((3 : Int32)).toNatClampNeg)), (.int (fw ((3 : Int32)).toNatClampNeg))])) _
                    refine XS.icmpYes X130.here hx rfl (pc0 := 514) (pc' := 525) rfl (hb hby at_514) rfl (teq hc514_156).1 (by decide) (by decide) ?_
                    show Steps p.tables e below (T130.setTop (mkF m 525 #[.val (.int eb'), .val (.int wb'), .val (.int ct'), .val (.int jk'), .val (.int n'), .val (.int m'), .val (.int k'), .val (.int sg'), .val (.int o'), .val (.ref b14), .val (.ref b24), .val (.ref b58), .val (.ref b76), .val (.ref b90), .val (.long (own_off dd rr n')), .second, .val (.int lo), .unset, .unset] [])) _
                    refine XS.iload X130.here hx rfl (hb hby at_525) rfl ?_
                    show Steps p.tables e below (T130.setTop (mkF m 527 #[.val (.int eb'), .val (.int wb'), .val (.int ct'), .val (.int jk'), .val (.int n'), .val (.int m'), .val (.int k'), .val (.int sg'), .val (.int o'), .val (.ref b14), .val (.ref b24), .val (.ref b58), .val (.ref b76), .val (.ref b90), .val (.long (own_off dd rr n')), .second, .val (.int lo), .unset, .unset] [(.int m')])) _
                    refine XS.iload X130.here hx rfl (hb hby at_527) rfl ?_
                    exact kt
                  by_cases hc529_158 : m' = n'
                  · obtain ⟨fs, hr, hrun, hended, hW⟩ := X130.leaveW hS (by rw [hh130]; exact hk) (v := some (.int (1 : Int32))) (fun h => by rw [Bd.returns] at h; cases h)
                    refine ⟨_, _, pre157 _ ?_, hrun, hended, _, _, rfl, ?_, hW.1, hW.2.1, hW.2.2.1, hW.2.2.2.mono (by decide) (by decide)⟩
                    · show Steps p.tables e below (T130.setTop (mkF m 529 #[.val (.int eb'), .val (.int wb'), .val (.int ct'), .val (.int jk'), .val (.int n'), .val (.int m'), .val (.int k'), .val (.int sg'), .val (.int o'), .val (.ref b14), .val (.ref b24), .val (.ref b58), .val (.ref b76), .val (.ref b90), .val (.long (own_off dd rr n')), .second, .val (.int lo), .unset, .unset] [(.int n'), (.int m')])) _
                      refine XS.icmpNo X130.here hx rfl (hb hby at_529) rfl (teq hc529_158).2 ?_
                      show Steps p.tables e below (T130.setTop (mkF m 532 #[.val (.int eb'), .val (.int wb'), .val (.int ct'), .val (.int jk'), .val (.int n'), .val (.int m'), .val (.int k'), .val (.int sg'), .val (.int o'), .val (.ref b14), .val (.ref b24), .val (.ref b58), .val (.ref b76), .val (.ref b90), .val (.long (own_off dd rr n')), .second, .val (.int lo), .unset, .unset] [])) _
                      refine X130.ldc2Long hx hown (mvT hZ (hw _ (List.mem_of_getElem? (i := 81) rfl))) (g := (mkF m 532 #[.val (.int eb'), .val (.int wb'), .val (.int ct'), .val (.int jk'), .val (.int n'), .val (.int m'), .val (.int k'), .val (.int sg'), .val (.int o'), .val (.ref b14), .val (.ref b24), .val (.ref b58), .val (.ref b76), .val (.ref b90), .val (.long (own_off dd rr n')), .second, .val (.int lo), .unset, .unset] [])) rfl (hb hby at_532) _ ?_
                      show Steps p.tables e below (T130.setTop (mkF m 535 #[.val (.int eb'), .val (.int wb'), .val (.int ct'), .val (.int jk'), .val (.int n'), .val (.int m'), .val (.int k'), .val (.int sg'), .val (.int o'), .val (.ref b14), .val (.ref b24), .val (.ref b58), .val (.ref b76), .val (.ref b90), .val (.long (own_off dd rr n')), .second, .val (.int lo), .unset, .unset] [(.long (-1 : Int64))])) _
                      refine XS.lstore X130.here hx rfl (hb hby at_535) rfl (l' := #[.val (.int eb'), .val (.int wb'), .val (.int ct'), .val (.int jk'), .val (.int n'), .val (.int m'), .val (.int k'), .val (.int sg'), .val (.int o'), .val (.ref b14), .val (.ref b24), .val (.ref b58), .val (.ref b76), .val (.ref b90), .val (.long (own_off dd rr n')), .second, .val (.int lo), .val (.long (-1 : Int64)), .second]) rfl ?_
                      show Steps p.tables e below (T130.setTop (mkF m 537 #[.val (.int eb'), .val (.int wb'), .val (.int ct'), .val (.int jk'), .val (.int n'), .val (.int m'), .val (.int k'), .val (.int sg'), .val (.int o'), .val (.ref b14), .val (.ref b24), .val (.ref b58), .val (.ref b76), .val (.ref b90), .val (.long (own_off dd rr n')), .second, .val (.int lo), .val (.long (-1 : Int64)), .second] [])) _
                      refine XS.goto X130.here hx rfl (pc0 := 537) (pc' := 545) rfl (hb hby at_537) (by decide) (by decide) ?_
                      show Steps p.tables e below (T130.setTop (mkF m 545 #[.val (.int eb'), .val (.int wb'), .val (.int ct'), .val (.int jk'), .val (.int n'), .val (.int m'), .val (.int k'), .val (.int sg'), .val (.int o'), .val (.ref b14), .val (.ref b24), .val (.ref b58), .val (.ref b76), .val (.ref b90), .val (.long (own_off dd rr n')), .second, .val (.int lo), .val (.long (-1 : Int64)), .second] [])) _
                      refine XS.lload X130.here hx rfl (hb hby at_545) rfl ?_
                      show Steps p.tables e below (T130.setTop (mkF m 547 #[.val (.int eb'), .val (.int wb'), .val (.int ct'), .val (.int jk'), .val (.int n'), .val (.int m'), .val (.int k'), .val (.int sg'), .val (.int o'), .val (.ref b14), .val (.ref b24), .val (.ref b58), .val (.ref b76), .val (.ref b90), .val (.long (own_off dd rr n')), .second, .val (.int lo), .val (.long (-1 : Int64)), .second] [(.long (own_off dd rr n'))])) _
                      refine XS.lload X130.here hx rfl (hb hby at_547) rfl ?_
                      show Steps p.tables e below (T130.setTop (mkF m 549 #[.val (.int eb'), .val (.int wb'), .val (.int ct'), .val (.int jk'), .val (.int n'), .val (.int m'), .val (.int k'), .val (.int sg'), .val (.int o'), .val (.ref b14), .val (.ref b24), .val (.ref b58), .val (.ref b76), .val (.ref b90), .val (.long (own_off dd rr n')), .second, .val (.int lo), .val (.long (-1 : Int64)), .second] [(.long (-1 : Int64)), (.long (own_off dd rr n'))])) _
                      refine XS.lcmp X130.here hx rfl (hb hby at_549) rfl ?_
                      show Steps p.tables e below (T130.setTop (mkF m 550 #[.val (.int eb'), .val (.int wb'), .val (.int ct'), .val (.int jk'), .val (.int n'), .val (.int m'), .val (.int k'), .val (.int sg'), .val (.int o'), .val (.ref b14), .val (.ref b24), .val (.ref b58), .val (.ref b76), .val (.ref b90), .val (.long (own_off dd rr n')), .second, .val (.int lo), .val (.long (-1 : Int64)), .second] [(.int (lcmpW (own_off dd rr n') (-1 : Int64)))])) _
                      refine XS.ifNo X130.here hx rfl (hb hby at_550) rfl ((if0 _ _).trans (teq ((lw_eq (own_off dd rr n') (-1 : Int64)).mpr (own_finB1 fw fe N M dd rr n' m' lo hdd hrr hM hN hlo (own_hq4 hm hlo (own_es (own_es (own_es (own_es own_e0 hc443_138) hc466_144) hc489_150) hc514_156)) hc529_158))).2) ?_
                      show Steps p.tables e below (T130.setTop (mkF m 553 #[.val (.int eb'), .val (.int wb'), .val (.int ct'), .val (.int jk'), .val (.int n'), .val (.int m'), .val (.int k'), .val (.int sg'), .val (.int o'), .val (.ref b14), .val (.ref b24), .val (.ref b58), .val (.ref b76), .val (.ref b90), .val (.long (own_off dd rr n')), .second, .val (.int lo), .val (.long (-1 : Int64)), .second] [])) _
                      refine XS.iconst X130.here hx rfl (hb hby at_553) ?_
                      show Steps p.tables e below (T130.setTop (mkF m 554 #[.val (.int eb'), .val (.int wb'), .val (.int ct'), .val (.int jk'), .val (.int n'), .val (.int m'), .val (.int k'), .val (.int sg'), .val (.int o'), .val (.ref b14), .val (.ref b24), .val (.ref b58), .val (.ref b76), .val (.ref b90), .val (.long (own_off dd rr n')), .second, .val (.int lo), .val (.long (-1 : Int64)), .second] [(.int (1 : Int32))])) _
                      refine XS.goto X130.here hx rfl (pc0 := 554) (pc' := 558) rfl (hb hby at_554) (by decide) (by decide) ?_
                      show Steps p.tables e below (T130.setTop (mkF m 558 #[.val (.int eb'), .val (.int wb'), .val (.int ct'), .val (.int jk'), .val (.int n'), .val (.int m'), .val (.int k'), .val (.int sg'), .val (.int o'), .val (.ref b14), .val (.ref b24), .val (.ref b58), .val (.ref b76), .val (.ref b90), .val (.long (own_off dd rr n')), .second, .val (.int lo), .val (.long (-1 : Int64)), .second] [(.int (1 : Int32))])) _
                      exact retN X130 hx (t := .boolean) Bd.returns (by simp) (hb hby at_558) hr
                    · show Q0 Z eb' wb' ct' jk' h0 n0 _ T130.heap _
                      rw [hh130]
                      exact ⟨rfl, N130⟩
                  · obtain ⟨fs, hr, hrun, hended, hW⟩ := X130.leaveW hS (by rw [hh130]; exact hk) (v := some (.int (1 : Int32))) (fun h => by rw [Bd.returns] at h; cases h)
                    refine ⟨_, _, pre157 _ ?_, hrun, hended, _, _, rfl, ?_, hW.1, hW.2.1, hW.2.2.1, hW.2.2.2.mono (by decide) (by decide)⟩
                    · show Steps p.tables e below (T130.setTop (mkF m 529 #[.val (.int eb'), .val (.int wb'), .val (.int ct'), .val (.int jk'), .val (.int n'), .val (.int m'), .val (.int k'), .val (.int sg'), .val (.int o'), .val (.ref b14), .val (.ref b24), .val (.ref b58), .val (.ref b76), .val (.ref b90), .val (.long (own_off dd rr n')), .second, .val (.int lo), .unset, .unset] [(.int n'), (.int m')])) _
                      refine XS.icmpYes X130.here hx rfl (pc0 := 529) (pc' := 540) rfl (hb hby at_529) rfl (feq hc529_158).2 (by decide) (by decide) ?_
                      show Steps p.tables e below (T130.setTop (mkF m 540 #[.val (.int eb'), .val (.int wb'), .val (.int ct'), .val (.int jk'), .val (.int n'), .val (.int m'), .val (.int k'), .val (.int sg'), .val (.int o'), .val (.ref b14), .val (.ref b24), .val (.ref b58), .val (.ref b76), .val (.ref b90), .val (.long (own_off dd rr n')), .second, .val (.int lo), .unset, .unset] [])) _
                      refine XS.iload X130.here hx rfl (hb hby at_540) rfl ?_
                      show Steps p.tables e below (T130.setTop (mkF m 542 #[.val (.int eb'), .val (.int wb'), .val (.int ct'), .val (.int jk'), .val (.int n'), .val (.int m'), .val (.int k'), .val (.int sg'), .val (.int o'), .val (.ref b14), .val (.ref b24), .val (.ref b58), .val (.ref b76), .val (.ref b90), .val (.long (own_off dd rr n')), .second, .val (.int lo), .unset, .unset] [(.int lo)])) _
                      refine XS.i2l X130.here hx rfl (hb hby at_542) rfl ?_
                      show Steps p.tables e below (T130.setTop (mkF m 543 #[.val (.int eb'), .val (.int wb'), .val (.int ct'), .val (.int jk'), .val (.int n'), .val (.int m'), .val (.int k'), .val (.int sg'), .val (.int o'), .val (.ref b14), .val (.ref b24), .val (.ref b58), .val (.ref b76), .val (.ref b90), .val (.long (own_off dd rr n')), .second, .val (.int lo), .unset, .unset] [(.long (lo.toInt64))])) _
                      refine XS.lstore X130.here hx rfl (hb hby at_543) rfl (l' := #[.val (.int eb'), .val (.int wb'), .val (.int ct'), .val (.int jk'), .val (.int n'), .val (.int m'), .val (.int k'), .val (.int sg'), .val (.int o'), .val (.ref b14), .val (.ref b24), .val (.ref b58), .val (.ref b76), .val (.ref b90), .val (.long (own_off dd rr n')), .second, .val (.int lo), .val (.long (lo.toInt64)), .second]) rfl ?_
                      show Steps p.tables e below (T130.setTop (mkF m 545 #[.val (.int eb'), .val (.int wb'), .val (.int ct'), .val (.int jk'), .val (.int n'), .val (.int m'), .val (.int k'), .val (.int sg'), .val (.int o'), .val (.ref b14), .val (.ref b24), .val (.ref b58), .val (.ref b76), .val (.ref b90), .val (.long (own_off dd rr n')), .second, .val (.int lo), .val (.long (lo.toInt64)), .second] [])) _
                      refine XS.lload X130.here hx rfl (hb hby at_545) rfl ?_
                      show Steps p.tables e below (T130.setTop (mkF m 547 #[.val (.int eb'), .val (.int wb'), .val (.int ct'), .val (.int jk'), .val (.int n'), .val (.int m'), .val (.int k'), .val (.int sg'), .val (.int o'), .val (.ref b14), .val (.ref b24), .val (.ref b58), .val (.ref b76), .val (.ref b90), .val (.long (own_off dd rr n')), .second, .val (.int lo), .val (.long (lo.toInt64)), .second] [(.long (own_off dd rr n'))])) _
                      refine XS.lload X130.here hx rfl (hb hby at_547) rfl ?_
                      show Steps p.tables e below (T130.setTop (mkF m 549 #[.val (.int eb'), .val (.int wb'), .val (.int ct'), .val (.int jk'), .val (.int n'), .val (.int m'), .val (.int k'), .val (.int sg'), .val (.int o'), .val (.ref b14), .val (.ref b24), .val (.ref b58), .val (.ref b76), .val (.ref b90), .val (.long (own_off dd rr n')), .second, .val (.int lo), .val (.long (lo.toInt64)), .second] [(.long (lo.toInt64)), (.long (own_off dd rr n'))])) _
                      refine XS.lcmp X130.here hx rfl (hb hby at_549) rfl ?_
                      show Steps p.tables e below (T130.setTop (mkF m 550 #[.val (.int eb'), .val (.int wb'), .val (.int ct'), .val (.int jk'), .val (.int n'), .val (.int m'), .val (.int k'), .val (.int sg'), .val (.int o'), .val (.ref b14), .val (.ref b24), .val (.ref b58), .val (.ref b76), .val (.ref b90), .val (.long (own_off dd rr n')), .second, .val (.int lo), .val (.long (lo.toInt64)), .second] [(.int (lcmpW (own_off dd rr n') (lo.toInt64)))])) _
                      refine XS.ifNo X130.here hx rfl (hb hby at_550) rfl ((if0 _ _).trans (teq ((lw_eq (own_off dd rr n') (lo.toInt64)).mpr (own_finB2 fw fe N M dd rr n' m' lo hdd hrr hM hN hlo (own_hq4 hm hlo (own_es (own_es (own_es (own_es own_e0 hc443_138) hc466_144) hc489_150) hc514_156)) hc529_158))).2) ?_
                      show Steps p.tables e below (T130.setTop (mkF m 553 #[.val (.int eb'), .val (.int wb'), .val (.int ct'), .val (.int jk'), .val (.int n'), .val (.int m'), .val (.int k'), .val (.int sg'), .val (.int o'), .val (.ref b14), .val (.ref b24), .val (.ref b58), .val (.ref b76), .val (.ref b90), .val (.long (own_off dd rr n')), .second, .val (.int lo), .val (.long (lo.toInt64)), .second] [])) _
                      refine XS.iconst X130.here hx rfl (hb hby at_553) ?_
                      show Steps p.tables e below (T130.setTop (mkF m 554 #[.val (.int eb'), .val (.int wb'), .val (.int ct'), .val (.int jk'), .val (.int n'), .val (.int m'), .val (.int k'), .val (.int sg'), .val (.int o'), .val (.ref b14), .val (.ref b24), .val (.ref b58), .val (.ref b76), .val (.ref b90), .val (.long (own_off dd rr n')), .second, .val (.int lo), .val (.long (lo.toInt64)), .second] [(.int (1 : Int32))])) _
                      refine XS.goto X130.here hx rfl (pc0 := 554) (pc' := 558) rfl (hb hby at_554) (by decide) (by decide) ?_
                      show Steps p.tables e below (T130.setTop (mkF m 558 #[.val (.int eb'), .val (.int wb'), .val (.int ct'), .val (.int jk'), .val (.int n'), .val (.int m'), .val (.int k'), .val (.int sg'), .val (.int o'), .val (.ref b14), .val (.ref b24), .val (.ref b58), .val (.ref b76), .val (.ref b90), .val (.long (own_off dd rr n')), .second, .val (.int lo), .val (.long (lo.toInt64)), .second] [(.int (1 : Int32))])) _
                      exact retN X130 hx (t := .boolean) Bd.returns (by simp) (hb hby at_558) hr
                    · show Q0 Z eb' wb' ct' jk' h0 n0 _ T130.heap _
                      rw [hh130]
                      exact ⟨rfl, N130⟩
                · obtain ⟨fs, hr, hrun, hended, hW⟩ := X130.leaveW hS (by rw [hh130]; exact hk) (v := some (.int (1 : Int32))) (fun h => by rw [Bd.returns] at h; cases h)
                  refine ⟨_, _, pre155 _ ?_, hrun, hended, _, _, rfl, ?_, hW.1, hW.2.1, hW.2.2.1, hW.2.2.2.mono (by decide) (by decide)⟩
                  · show Steps p.tables e below (T130.setTop (mkF m 514 #[.val (.int eb'), .val (.int wb'), .val (.int ct'), .val (.int jk'), .val (.int n'), .val (.int m'), .val (.int k'), .val (.int sg'), .val (.int o'), .val (.ref b14), .val (.ref b24), .val (.ref b58), .val (.ref b76), .val (.ref b90), .val (.long (own_off dd rr n')), .second, .val (.int lo), .unset, .unset] [(.int (fe ((3 : Int32)).toNatClampNeg)), (.int (fw ((3 : Int32)).toNatClampNeg))])) _
                    refine XS.icmpNo X130.here hx rfl (hb hby at_514) rfl (feq hc514_156).1 ?_
                    show Steps p.tables e below (T130.setTop (mkF m 517 #[.val (.int eb'), .val (.int wb'), .val (.int ct'), .val (.int jk'), .val (.int n'), .val (.int m'), .val (.int k'), .val (.int sg'), .val (.int o'), .val (.ref b14), .val (.ref b24), .val (.ref b58), .val (.ref b76), .val (.ref b90), .val (.long (own_off dd rr n')), .second, .val (.int lo), .unset, .unset] [])) _
                    refine X130.ldc2Long hx hown (mvT hZ (hw _ (List.mem_of_getElem? (i := 83) rfl))) (g := (mkF m 517 #[.val (.int eb'), .val (.int wb'), .val (.int ct'), .val (.int jk'), .val (.int n'), .val (.int m'), .val (.int k'), .val (.int sg'), .val (.int o'), .val (.ref b14), .val (.ref b24), .val (.ref b58), .val (.ref b76), .val (.ref b90), .val (.long (own_off dd rr n')), .second, .val (.int lo), .unset, .unset] [])) rfl (hb hby at_517) _ ?_
                    show Steps p.tables e below (T130.setTop (mkF m 520 #[.val (.int eb'), .val (.int wb'), .val (.int ct'), .val (.int jk'), .val (.int n'), .val (.int m'), .val (.int k'), .val (.int sg'), .val (.int o'), .val (.ref b14), .val (.ref b24), .val (.ref b58), .val (.ref b76), .val (.ref b90), .val (.long (own_off dd rr n')), .second, .val (.int lo), .unset, .unset] [(.long (3 : Int64))])) _
                    refine XS.lstore X130.here hx rfl (hb hby at_520) rfl (l' := #[.val (.int eb'), .val (.int wb'), .val (.int ct'), .val (.int jk'), .val (.int n'), .val (.int m'), .val (.int k'), .val (.int sg'), .val (.int o'), .val (.ref b14), .val (.ref b24), .val (.ref b58), .val (.ref b76), .val (.ref b90), .val (.long (own_off dd rr n')), .second, .val (.int lo), .val (.long (3 : Int64)), .second]) rfl ?_
                    show Steps p.tables e below (T130.setTop (mkF m 522 #[.val (.int eb'), .val (.int wb'), .val (.int ct'), .val (.int jk'), .val (.int n'), .val (.int m'), .val (.int k'), .val (.int sg'), .val (.int o'), .val (.ref b14), .val (.ref b24), .val (.ref b58), .val (.ref b76), .val (.ref b90), .val (.long (own_off dd rr n')), .second, .val (.int lo), .val (.long (3 : Int64)), .second] [])) _
                    refine XS.goto X130.here hx rfl (pc0 := 522) (pc' := 545) rfl (hb hby at_522) (by decide) (by decide) ?_
                    show Steps p.tables e below (T130.setTop (mkF m 545 #[.val (.int eb'), .val (.int wb'), .val (.int ct'), .val (.int jk'), .val (.int n'), .val (.int m'), .val (.int k'), .val (.int sg'), .val (.int o'), .val (.ref b14), .val (.ref b24), .val (.ref b58), .val (.ref b76), .val (.ref b90), .val (.long (own_off dd rr n')), .second, .val (.int lo), .val (.long (3 : Int64)), .second] [])) _
                    refine XS.lload X130.here hx rfl (hb hby at_545) rfl ?_
                    show Steps p.tables e below (T130.setTop (mkF m 547 #[.val (.int eb'), .val (.int wb'), .val (.int ct'), .val (.int jk'), .val (.int n'), .val (.int m'), .val (.int k'), .val (.int sg'), .val (.int o'), .val (.ref b14), .val (.ref b24), .val (.ref b58), .val (.ref b76), .val (.ref b90), .val (.long (own_off dd rr n')), .second, .val (.int lo), .val (.long (3 : Int64)), .second] [(.long (own_off dd rr n'))])) _
                    refine XS.lload X130.here hx rfl (hb hby at_547) rfl ?_
                    show Steps p.tables e below (T130.setTop (mkF m 549 #[.val (.int eb'), .val (.int wb'), .val (.int ct'), .val (.int jk'), .val (.int n'), .val (.int m'), .val (.int k'), .val (.int sg'), .val (.int o'), .val (.ref b14), .val (.ref b24), .val (.ref b58), .val (.ref b76), .val (.ref b90), .val (.long (own_off dd rr n')), .second, .val (.int lo), .val (.long (3 : Int64)), .second] [(.long (3 : Int64)), (.long (own_off dd rr n'))])) _
                    refine XS.lcmp X130.here hx rfl (hb hby at_549) rfl ?_
                    show Steps p.tables e below (T130.setTop (mkF m 550 #[.val (.int eb'), .val (.int wb'), .val (.int ct'), .val (.int jk'), .val (.int n'), .val (.int m'), .val (.int k'), .val (.int sg'), .val (.int o'), .val (.ref b14), .val (.ref b24), .val (.ref b58), .val (.ref b76), .val (.ref b90), .val (.long (own_off dd rr n')), .second, .val (.int lo), .val (.long (3 : Int64)), .second] [(.int (lcmpW (own_off dd rr n') (3 : Int64)))])) _
                    refine XS.ifNo X130.here hx rfl (hb hby at_550) rfl ((if0 _ _).trans (teq ((lw_eq (own_off dd rr n') (3 : Int64)).mpr (own_finA fw fe N M 3 dd rr n' m' (3 : Int32) (3 : Int64) hdd hM hN rfl rfl (hlo ▸ hc503_152) (own_es (own_es (own_es own_e0 hc443_138) hc466_144) hc489_150) hc514_156))).2) ?_
                    show Steps p.tables e below (T130.setTop (mkF m 553 #[.val (.int eb'), .val (.int wb'), .val (.int ct'), .val (.int jk'), .val (.int n'), .val (.int m'), .val (.int k'), .val (.int sg'), .val (.int o'), .val (.ref b14), .val (.ref b24), .val (.ref b58), .val (.ref b76), .val (.ref b90), .val (.long (own_off dd rr n')), .second, .val (.int lo), .val (.long (3 : Int64)), .second] [])) _
                    refine XS.iconst X130.here hx rfl (hb hby at_553) ?_
                    show Steps p.tables e below (T130.setTop (mkF m 554 #[.val (.int eb'), .val (.int wb'), .val (.int ct'), .val (.int jk'), .val (.int n'), .val (.int m'), .val (.int k'), .val (.int sg'), .val (.int o'), .val (.ref b14), .val (.ref b24), .val (.ref b58), .val (.ref b76), .val (.ref b90), .val (.long (own_off dd rr n')), .second, .val (.int lo), .val (.long (3 : Int64)), .second] [(.int (1 : Int32))])) _
                    refine XS.goto X130.here hx rfl (pc0 := 554) (pc' := 558) rfl (hb hby at_554) (by decide) (by decide) ?_
                    show Steps p.tables e below (T130.setTop (mkF m 558 #[.val (.int eb'), .val (.int wb'), .val (.int ct'), .val (.int jk'), .val (.int n'), .val (.int m'), .val (.int k'), .val (.int sg'), .val (.int o'), .val (.ref b14), .val (.ref b24), .val (.ref b58), .val (.ref b76), .val (.ref b90), .val (.long (own_off dd rr n')), .second, .val (.int lo), .val (.long (3 : Int64)), .second] [(.int (1 : Int32))])) _
                    exact retN X130 hx (t := .boolean) Bd.returns (by simp) (hb hby at_558) hr
                  · show Q0 Z eb' wb' ct' jk' h0 n0 _ T130.heap _
                    rw [hh130]
                    exact ⟨rfl, N130⟩
              · have pre159 : ∀ t, Steps p.tables e below (T130.setTop (mkF m 529 #[.val (.int eb'), .val (.int wb'), .val (.int ct'), .val (.int jk'), .val (.int n'), .val (.int m'), .val (.int k'), .val (.int sg'), .val (.int o'), .val (.ref b14), .val (.ref b24), .val (.ref b58), .val (.ref b76), .val (.ref b90), .val (.long (own_off dd rr n')), .second, .val (.int lo), .unset, .unset] [(.int n'), (.int m')])) t → Steps p.tables e below (s₁.setTop (entryFrame m #[(.int eb'), (.int wb'), (.int ct'), (.int jk')] maxLocals)) t := by
                  intro t kt
                  refine pre151 t ?_
                  show Steps p.tables e below (T130.setTop (mkF m 503 #[.val (.int eb'), .val (.int wb'), .val (.int ct'), .val (.int jk'), .val (.int n'), .val (.int m'), .val (.int k'), .val (.int sg'), .val (.int o'), .val (.ref b14), .val (.ref b24), .val (.ref b58), .val (.ref b76), .val (.ref b90), .val (.long (own_off dd rr n')), .second, .val (.int lo), .unset, .unset] [(.int (3 : Int32)), (.int lo)])) _
                  refine XS.icmpYes X130.here hx rfl (pc0 := 503) (pc' := 525) rfl (hb hby at_503) rfl (flt hc503_152).2.2.2 (by decide) (by decide) ?_
                  show Steps p.tables e below (T130.setTop (mkF m 525 #[.val (.int eb'), .val (.int wb'), .val (.int ct'), .val (.int jk'), .val (.int n'), .val (.int m'), .val (.int k'), .val (.int sg'), .val (.int o'), .val (.ref b14), .val (.ref b24), .val (.ref b58), .val (.ref b76), .val (.ref b90), .val (.long (own_off dd rr n')), .second, .val (.int lo), .unset, .unset] [])) _
                  refine XS.iload X130.here hx rfl (hb hby at_525) rfl ?_
                  show Steps p.tables e below (T130.setTop (mkF m 527 #[.val (.int eb'), .val (.int wb'), .val (.int ct'), .val (.int jk'), .val (.int n'), .val (.int m'), .val (.int k'), .val (.int sg'), .val (.int o'), .val (.ref b14), .val (.ref b24), .val (.ref b58), .val (.ref b76), .val (.ref b90), .val (.long (own_off dd rr n')), .second, .val (.int lo), .unset, .unset] [(.int m')])) _
                  refine XS.iload X130.here hx rfl (hb hby at_527) rfl ?_
                  exact kt
                by_cases hc529_160 : m' = n'
                · obtain ⟨fs, hr, hrun, hended, hW⟩ := X130.leaveW hS (by rw [hh130]; exact hk) (v := some (.int (1 : Int32))) (fun h => by rw [Bd.returns] at h; cases h)
                  refine ⟨_, _, pre159 _ ?_, hrun, hended, _, _, rfl, ?_, hW.1, hW.2.1, hW.2.2.1, hW.2.2.2.mono (by decide) (by decide)⟩
                  · show Steps p.tables e below (T130.setTop (mkF m 529 #[.val (.int eb'), .val (.int wb'), .val (.int ct'), .val (.int jk'), .val (.int n'), .val (.int m'), .val (.int k'), .val (.int sg'), .val (.int o'), .val (.ref b14), .val (.ref b24), .val (.ref b58), .val (.ref b76), .val (.ref b90), .val (.long (own_off dd rr n')), .second, .val (.int lo), .unset, .unset] [(.int n'), (.int m')])) _
                    refine XS.icmpNo X130.here hx rfl (hb hby at_529) rfl (teq hc529_160).2 ?_
                    show Steps p.tables e below (T130.setTop (mkF m 532 #[.val (.int eb'), .val (.int wb'), .val (.int ct'), .val (.int jk'), .val (.int n'), .val (.int m'), .val (.int k'), .val (.int sg'), .val (.int o'), .val (.ref b14), .val (.ref b24), .val (.ref b58), .val (.ref b76), .val (.ref b90), .val (.long (own_off dd rr n')), .second, .val (.int lo), .unset, .unset] [])) _
                    refine X130.ldc2Long hx hown (mvT hZ (hw _ (List.mem_of_getElem? (i := 81) rfl))) (g := (mkF m 532 #[.val (.int eb'), .val (.int wb'), .val (.int ct'), .val (.int jk'), .val (.int n'), .val (.int m'), .val (.int k'), .val (.int sg'), .val (.int o'), .val (.ref b14), .val (.ref b24), .val (.ref b58), .val (.ref b76), .val (.ref b90), .val (.long (own_off dd rr n')), .second, .val (.int lo), .unset, .unset] [])) rfl (hb hby at_532) _ ?_
                    show Steps p.tables e below (T130.setTop (mkF m 535 #[.val (.int eb'), .val (.int wb'), .val (.int ct'), .val (.int jk'), .val (.int n'), .val (.int m'), .val (.int k'), .val (.int sg'), .val (.int o'), .val (.ref b14), .val (.ref b24), .val (.ref b58), .val (.ref b76), .val (.ref b90), .val (.long (own_off dd rr n')), .second, .val (.int lo), .unset, .unset] [(.long (-1 : Int64))])) _
                    refine XS.lstore X130.here hx rfl (hb hby at_535) rfl (l' := #[.val (.int eb'), .val (.int wb'), .val (.int ct'), .val (.int jk'), .val (.int n'), .val (.int m'), .val (.int k'), .val (.int sg'), .val (.int o'), .val (.ref b14), .val (.ref b24), .val (.ref b58), .val (.ref b76), .val (.ref b90), .val (.long (own_off dd rr n')), .second, .val (.int lo), .val (.long (-1 : Int64)), .second]) rfl ?_
                    show Steps p.tables e below (T130.setTop (mkF m 537 #[.val (.int eb'), .val (.int wb'), .val (.int ct'), .val (.int jk'), .val (.int n'), .val (.int m'), .val (.int k'), .val (.int sg'), .val (.int o'), .val (.ref b14), .val (.ref b24), .val (.ref b58), .val (.ref b76), .val (.ref b90), .val (.long (own_off dd rr n')), .second, .val (.int lo), .val (.long (-1 : Int64)), .second] [])) _
                    refine XS.goto X130.here hx rfl (pc0 := 537) (pc' := 545) rfl (hb hby at_537) (by decide) (by decide) ?_
                    show Steps p.tables e below (T130.setTop (mkF m 545 #[.val (.int eb'), .val (.int wb'), .val (.int ct'), .val (.int jk'), .val (.int n'), .val (.int m'), .val (.int k'), .val (.int sg'), .val (.int o'), .val (.ref b14), .val (.ref b24), .val (.ref b58), .val (.ref b76), .val (.ref b90), .val (.long (own_off dd rr n')), .second, .val (.int lo), .val (.long (-1 : Int64)), .second] [])) _
                    refine XS.lload X130.here hx rfl (hb hby at_545) rfl ?_
                    show Steps p.tables e below (T130.setTop (mkF m 547 #[.val (.int eb'), .val (.int wb'), .val (.int ct'), .val (.int jk'), .val (.int n'), .val (.int m'), .val (.int k'), .val (.int sg'), .val (.int o'), .val (.ref b14), .val (.ref b24), .val (.ref b58), .val (.ref b76), .val (.ref b90), .val (.long (own_off dd rr n')), .second, .val (.int lo), .val (.long (-1 : Int64)), .second] [(.long (own_off dd rr n'))])) _
                    refine XS.lload X130.here hx rfl (hb hby at_547) rfl ?_
                    show Steps p.tables e below (T130.setTop (mkF m 549 #[.val (.int eb'), .val (.int wb'), .val (.int ct'), .val (.int jk'), .val (.int n'), .val (.int m'), .val (.int k'), .val (.int sg'), .val (.int o'), .val (.ref b14), .val (.ref b24), .val (.ref b58), .val (.ref b76), .val (.ref b90), .val (.long (own_off dd rr n')), .second, .val (.int lo), .val (.long (-1 : Int64)), .second] [(.long (-1 : Int64)), (.long (own_off dd rr n'))])) _
                    refine XS.lcmp X130.here hx rfl (hb hby at_549) rfl ?_
                    show Steps p.tables e below (T130.setTop (mkF m 550 #[.val (.int eb'), .val (.int wb'), .val (.int ct'), .val (.int jk'), .val (.int n'), .val (.int m'), .val (.int k'), .val (.int sg'), .val (.int o'), .val (.ref b14), .val (.ref b24), .val (.ref b58), .val (.ref b76), .val (.ref b90), .val (.long (own_off dd rr n')), .second, .val (.int lo), .val (.long (-1 : Int64)), .second] [(.int (lcmpW (own_off dd rr n') (-1 : Int64)))])) _
                    refine XS.ifNo X130.here hx rfl (hb hby at_550) rfl ((if0 _ _).trans (teq ((lw_eq (own_off dd rr n') (-1 : Int64)).mpr (own_finB1 fw fe N M dd rr n' m' lo hdd hrr hM hN hlo (own_hq (J := (3 : Int32)) (j := 3) rfl hc503_152 (own_es (own_es (own_es own_e0 hc443_138) hc466_144) hc489_150)) hc529_160))).2) ?_
                    show Steps p.tables e below (T130.setTop (mkF m 553 #[.val (.int eb'), .val (.int wb'), .val (.int ct'), .val (.int jk'), .val (.int n'), .val (.int m'), .val (.int k'), .val (.int sg'), .val (.int o'), .val (.ref b14), .val (.ref b24), .val (.ref b58), .val (.ref b76), .val (.ref b90), .val (.long (own_off dd rr n')), .second, .val (.int lo), .val (.long (-1 : Int64)), .second] [])) _
                    refine XS.iconst X130.here hx rfl (hb hby at_553) ?_
                    show Steps p.tables e below (T130.setTop (mkF m 554 #[.val (.int eb'), .val (.int wb'), .val (.int ct'), .val (.int jk'), .val (.int n'), .val (.int m'), .val (.int k'), .val (.int sg'), .val (.int o'), .val (.ref b14), .val (.ref b24), .val (.ref b58), .val (.ref b76), .val (.ref b90), .val (.long (own_off dd rr n')), .second, .val (.int lo), .val (.long (-1 : Int64)), .second] [(.int (1 : Int32))])) _
                    refine XS.goto X130.here hx rfl (pc0 := 554) (pc' := 558) rfl (hb hby at_554) (by decide) (by decide) ?_
                    show Steps p.tables e below (T130.setTop (mkF m 558 #[.val (.int eb'), .val (.int wb'), .val (.int ct'), .val (.int jk'), .val (.int n'), .val (.int m'), .val (.int k'), .val (.int sg'), .val (.int o'), .val (.ref b14), .val (.ref b24), .val (.ref b58), .val (.ref b76), .val (.ref b90), .val (.long (own_off dd rr n')), .second, .val (.int lo), .val (.long (-1 : Int64)), .second] [(.int (1 : Int32))])) _
                    exact retN X130 hx (t := .boolean) Bd.returns (by simp) (hb hby at_558) hr
                  · show Q0 Z eb' wb' ct' jk' h0 n0 _ T130.heap _
                    rw [hh130]
                    exact ⟨rfl, N130⟩
                · obtain ⟨fs, hr, hrun, hended, hW⟩ := X130.leaveW hS (by rw [hh130]; exact hk) (v := some (.int (1 : Int32))) (fun h => by rw [Bd.returns] at h; cases h)
                  refine ⟨_, _, pre159 _ ?_, hrun, hended, _, _, rfl, ?_, hW.1, hW.2.1, hW.2.2.1, hW.2.2.2.mono (by decide) (by decide)⟩
                  · show Steps p.tables e below (T130.setTop (mkF m 529 #[.val (.int eb'), .val (.int wb'), .val (.int ct'), .val (.int jk'), .val (.int n'), .val (.int m'), .val (.int k'), .val (.int sg'), .val (.int o'), .val (.ref b14), .val (.ref b24), .val (.ref b58), .val (.ref b76), .val (.ref b90), .val (.long (own_off dd rr n')), .second, .val (.int lo), .unset, .unset] [(.int n'), (.int m')])) _
                    refine XS.icmpYes X130.here hx rfl (pc0 := 529) (pc' := 540) rfl (hb hby at_529) rfl (feq hc529_160).2 (by decide) (by decide) ?_
                    show Steps p.tables e below (T130.setTop (mkF m 540 #[.val (.int eb'), .val (.int wb'), .val (.int ct'), .val (.int jk'), .val (.int n'), .val (.int m'), .val (.int k'), .val (.int sg'), .val (.int o'), .val (.ref b14), .val (.ref b24), .val (.ref b58), .val (.ref b76), .val (.ref b90), .val (.long (own_off dd rr n')), .second, .val (.int lo), .unset, .unset] [])) _
                    refine XS.iload X130.here hx rfl (hb hby at_540) rfl ?_
                    show Steps p.tables e below (T130.setTop (mkF m 542 #[.val (.int eb'), .val (.int wb'), .val (.int ct'), .val (.int jk'), .val (.int n'), .val (.int m'), .val (.int k'), .val (.int sg'), .val (.int o'), .val (.ref b14), .val (.ref b24), .val (.ref b58), .val (.ref b76), .val (.ref b90), .val (.long (own_off dd rr n')), .second, .val (.int lo), .unset, .unset] [(.int lo)])) _
                    refine XS.i2l X130.here hx rfl (hb hby at_542) rfl ?_
                    show Steps p.tables e below (T130.setTop (mkF m 543 #[.val (.int eb'), .val (.int wb'), .val (.int ct'), .val (.int jk'), .val (.int n'), .val (.int m'), .val (.int k'), .val (.int sg'), .val (.int o'), .val (.ref b14), .val (.ref b24), .val (.ref b58), .val (.ref b76), .val (.ref b90), .val (.long (own_off dd rr n')), .second, .val (.int lo), .unset, .unset] [(.long (lo.toInt64))])) _
                    refine XS.lstore X130.here hx rfl (hb hby at_543) rfl (l' := #[.val (.int eb'), .val (.int wb'), .val (.int ct'), .val (.int jk'), .val (.int n'), .val (.int m'), .val (.int k'), .val (.int sg'), .val (.int o'), .val (.ref b14), .val (.ref b24), .val (.ref b58), .val (.ref b76), .val (.ref b90), .val (.long (own_off dd rr n')), .second, .val (.int lo), .val (.long (lo.toInt64)), .second]) rfl ?_
                    show Steps p.tables e below (T130.setTop (mkF m 545 #[.val (.int eb'), .val (.int wb'), .val (.int ct'), .val (.int jk'), .val (.int n'), .val (.int m'), .val (.int k'), .val (.int sg'), .val (.int o'), .val (.ref b14), .val (.ref b24), .val (.ref b58), .val (.ref b76), .val (.ref b90), .val (.long (own_off dd rr n')), .second, .val (.int lo), .val (.long (lo.toInt64)), .second] [])) _
                    refine XS.lload X130.here hx rfl (hb hby at_545) rfl ?_
                    show Steps p.tables e below (T130.setTop (mkF m 547 #[.val (.int eb'), .val (.int wb'), .val (.int ct'), .val (.int jk'), .val (.int n'), .val (.int m'), .val (.int k'), .val (.int sg'), .val (.int o'), .val (.ref b14), .val (.ref b24), .val (.ref b58), .val (.ref b76), .val (.ref b90), .val (.long (own_off dd rr n')), .second, .val (.int lo), .val (.long (lo.toInt64)), .second] [(.long (own_off dd rr n'))])) _
                    refine XS.lload X130.here hx rfl (hb hby at_547) rfl ?_
                    show Steps p.tables e below (T130.setTop (mkF m 549 #[.val (.int eb'), .val (.int wb'), .val (.int ct'), .val (.int jk'), .val (.int n'), .val (.int m'), .val (.int k'), .val (.int sg'), .val (.int o'), .val (.ref b14), .val (.ref b24), .val (.ref b58), .val (.ref b76), .val (.ref b90), .val (.long (own_off dd rr n')), .second, .val (.int lo), .val (.long (lo.toInt64)), .second] [(.long (lo.toInt64)), (.long (own_off dd rr n'))])) _
                    refine XS.lcmp X130.here hx rfl (hb hby at_549) rfl ?_
                    show Steps p.tables e below (T130.setTop (mkF m 550 #[.val (.int eb'), .val (.int wb'), .val (.int ct'), .val (.int jk'), .val (.int n'), .val (.int m'), .val (.int k'), .val (.int sg'), .val (.int o'), .val (.ref b14), .val (.ref b24), .val (.ref b58), .val (.ref b76), .val (.ref b90), .val (.long (own_off dd rr n')), .second, .val (.int lo), .val (.long (lo.toInt64)), .second] [(.int (lcmpW (own_off dd rr n') (lo.toInt64)))])) _
                    refine XS.ifNo X130.here hx rfl (hb hby at_550) rfl ((if0 _ _).trans (teq ((lw_eq (own_off dd rr n') (lo.toInt64)).mpr (own_finB2 fw fe N M dd rr n' m' lo hdd hrr hM hN hlo (own_hq (J := (3 : Int32)) (j := 3) rfl hc503_152 (own_es (own_es (own_es own_e0 hc443_138) hc466_144) hc489_150)) hc529_160))).2) ?_
                    show Steps p.tables e below (T130.setTop (mkF m 553 #[.val (.int eb'), .val (.int wb'), .val (.int ct'), .val (.int jk'), .val (.int n'), .val (.int m'), .val (.int k'), .val (.int sg'), .val (.int o'), .val (.ref b14), .val (.ref b24), .val (.ref b58), .val (.ref b76), .val (.ref b90), .val (.long (own_off dd rr n')), .second, .val (.int lo), .val (.long (lo.toInt64)), .second] [])) _
                    refine XS.iconst X130.here hx rfl (hb hby at_553) ?_
                    show Steps p.tables e below (T130.setTop (mkF m 554 #[.val (.int eb'), .val (.int wb'), .val (.int ct'), .val (.int jk'), .val (.int n'), .val (.int m'), .val (.int k'), .val (.int sg'), .val (.int o'), .val (.ref b14), .val (.ref b24), .val (.ref b58), .val (.ref b76), .val (.ref b90), .val (.long (own_off dd rr n')), .second, .val (.int lo), .val (.long (lo.toInt64)), .second] [(.int (1 : Int32))])) _
                    refine XS.goto X130.here hx rfl (pc0 := 554) (pc' := 558) rfl (hb hby at_554) (by decide) (by decide) ?_
                    show Steps p.tables e below (T130.setTop (mkF m 558 #[.val (.int eb'), .val (.int wb'), .val (.int ct'), .val (.int jk'), .val (.int n'), .val (.int m'), .val (.int k'), .val (.int sg'), .val (.int o'), .val (.ref b14), .val (.ref b24), .val (.ref b58), .val (.ref b76), .val (.ref b90), .val (.long (own_off dd rr n')), .second, .val (.int lo), .val (.long (lo.toInt64)), .second] [(.int (1 : Int32))])) _
                    exact retN X130 hx (t := .boolean) Bd.returns (by simp) (hb hby at_558) hr
                  · show Q0 Z eb' wb' ct' jk' h0 n0 _ T130.heap _
                    rw [hh130]
                    exact ⟨rfl, N130⟩
            · obtain ⟨fs, hr, hrun, hended, hW⟩ := X130.leaveW hS (by rw [hh130]; exact hk) (v := some (.int (1 : Int32))) (fun h => by rw [Bd.returns] at h; cases h)
              refine ⟨_, _, pre149 _ ?_, hrun, hended, _, _, rfl, ?_, hW.1, hW.2.1, hW.2.2.1, hW.2.2.2.mono (by decide) (by decide)⟩
              · show Steps p.tables e below (T130.setTop (mkF m 489 #[.val (.int eb'), .val (.int wb'), .val (.int ct'), .val (.int jk'), .val (.int n'), .val (.int m'), .val (.int k'), .val (.int sg'), .val (.int o'), .val (.ref b14), .val (.ref b24), .val (.ref b58), .val (.ref b76), .val (.ref b90), .val (.long (own_off dd rr n')), .second, .val (.int lo), .unset, .unset] [(.int (fe ((2 : Int32)).toNatClampNeg)), (.int (fw ((2 : Int32)).toNatClampNeg))])) _
                refine XS.icmpNo X130.here hx rfl (hb hby at_489) rfl (feq hc489_150).1 ?_
                show Steps p.tables e below (T130.setTop (mkF m 492 #[.val (.int eb'), .val (.int wb'), .val (.int ct'), .val (.int jk'), .val (.int n'), .val (.int m'), .val (.int k'), .val (.int sg'), .val (.int o'), .val (.ref b14), .val (.ref b24), .val (.ref b58), .val (.ref b76), .val (.ref b90), .val (.long (own_off dd rr n')), .second, .val (.int lo), .unset, .unset] [])) _
                refine X130.ldc2Long hx hown (mvT hZ (hw _ (List.mem_of_getElem? (i := 82) rfl))) (g := (mkF m 492 #[.val (.int eb'), .val (.int wb'), .val (.int ct'), .val (.int jk'), .val (.int n'), .val (.int m'), .val (.int k'), .val (.int sg'), .val (.int o'), .val (.ref b14), .val (.ref b24), .val (.ref b58), .val (.ref b76), .val (.ref b90), .val (.long (own_off dd rr n')), .second, .val (.int lo), .unset, .unset] [])) rfl (hb hby at_492) _ ?_
                show Steps p.tables e below (T130.setTop (mkF m 495 #[.val (.int eb'), .val (.int wb'), .val (.int ct'), .val (.int jk'), .val (.int n'), .val (.int m'), .val (.int k'), .val (.int sg'), .val (.int o'), .val (.ref b14), .val (.ref b24), .val (.ref b58), .val (.ref b76), .val (.ref b90), .val (.long (own_off dd rr n')), .second, .val (.int lo), .unset, .unset] [(.long (2 : Int64))])) _
                refine XS.lstore X130.here hx rfl (hb hby at_495) rfl (l' := #[.val (.int eb'), .val (.int wb'), .val (.int ct'), .val (.int jk'), .val (.int n'), .val (.int m'), .val (.int k'), .val (.int sg'), .val (.int o'), .val (.ref b14), .val (.ref b24), .val (.ref b58), .val (.ref b76), .val (.ref b90), .val (.long (own_off dd rr n')), .second, .val (.int lo), .val (.long (2 : Int64)), .second]) rfl ?_
                show Steps p.tables e below (T130.setTop (mkF m 497 #[.val (.int eb'), .val (.int wb'), .val (.int ct'), .val (.int jk'), .val (.int n'), .val (.int m'), .val (.int k'), .val (.int sg'), .val (.int o'), .val (.ref b14), .val (.ref b24), .val (.ref b58), .val (.ref b76), .val (.ref b90), .val (.long (own_off dd rr n')), .second, .val (.int lo), .val (.long (2 : Int64)), .second] [])) _
                refine XS.goto X130.here hx rfl (pc0 := 497) (pc' := 545) rfl (hb hby at_497) (by decide) (by decide) ?_
                show Steps p.tables e below (T130.setTop (mkF m 545 #[.val (.int eb'), .val (.int wb'), .val (.int ct'), .val (.int jk'), .val (.int n'), .val (.int m'), .val (.int k'), .val (.int sg'), .val (.int o'), .val (.ref b14), .val (.ref b24), .val (.ref b58), .val (.ref b76), .val (.ref b90), .val (.long (own_off dd rr n')), .second, .val (.int lo), .val (.long (2 : Int64)), .second] [])) _
                refine XS.lload X130.here hx rfl (hb hby at_545) rfl ?_
                show Steps p.tables e below (T130.setTop (mkF m 547 #[.val (.int eb'), .val (.int wb'), .val (.int ct'), .val (.int jk'), .val (.int n'), .val (.int m'), .val (.int k'), .val (.int sg'), .val (.int o'), .val (.ref b14), .val (.ref b24), .val (.ref b58), .val (.ref b76), .val (.ref b90), .val (.long (own_off dd rr n')), .second, .val (.int lo), .val (.long (2 : Int64)), .second] [(.long (own_off dd rr n'))])) _
                refine XS.lload X130.here hx rfl (hb hby at_547) rfl ?_
                show Steps p.tables e below (T130.setTop (mkF m 549 #[.val (.int eb'), .val (.int wb'), .val (.int ct'), .val (.int jk'), .val (.int n'), .val (.int m'), .val (.int k'), .val (.int sg'), .val (.int o'), .val (.ref b14), .val (.ref b24), .val (.ref b58), .val (.ref b76), .val (.ref b90), .val (.long (own_off dd rr n')), .second, .val (.int lo), .val (.long (2 : Int64)), .second] [(.long (2 : Int64)), (.long (own_off dd rr n'))])) _
                refine XS.lcmp X130.here hx rfl (hb hby at_549) rfl ?_
                show Steps p.tables e below (T130.setTop (mkF m 550 #[.val (.int eb'), .val (.int wb'), .val (.int ct'), .val (.int jk'), .val (.int n'), .val (.int m'), .val (.int k'), .val (.int sg'), .val (.int o'), .val (.ref b14), .val (.ref b24), .val (.ref b58), .val (.ref b76), .val (.ref b90), .val (.long (own_off dd rr n')), .second, .val (.int lo), .val (.long (2 : Int64)), .second] [(.int (lcmpW (own_off dd rr n') (2 : Int64)))])) _
                refine XS.ifNo X130.here hx rfl (hb hby at_550) rfl ((if0 _ _).trans (teq ((lw_eq (own_off dd rr n') (2 : Int64)).mpr (own_finA fw fe N M 2 dd rr n' m' (2 : Int32) (2 : Int64) hdd hM hN rfl rfl (hlo ▸ hc478_146) (own_es (own_es own_e0 hc443_138) hc466_144) hc489_150))).2) ?_
                show Steps p.tables e below (T130.setTop (mkF m 553 #[.val (.int eb'), .val (.int wb'), .val (.int ct'), .val (.int jk'), .val (.int n'), .val (.int m'), .val (.int k'), .val (.int sg'), .val (.int o'), .val (.ref b14), .val (.ref b24), .val (.ref b58), .val (.ref b76), .val (.ref b90), .val (.long (own_off dd rr n')), .second, .val (.int lo), .val (.long (2 : Int64)), .second] [])) _
                refine XS.iconst X130.here hx rfl (hb hby at_553) ?_
                show Steps p.tables e below (T130.setTop (mkF m 554 #[.val (.int eb'), .val (.int wb'), .val (.int ct'), .val (.int jk'), .val (.int n'), .val (.int m'), .val (.int k'), .val (.int sg'), .val (.int o'), .val (.ref b14), .val (.ref b24), .val (.ref b58), .val (.ref b76), .val (.ref b90), .val (.long (own_off dd rr n')), .second, .val (.int lo), .val (.long (2 : Int64)), .second] [(.int (1 : Int32))])) _
                refine XS.goto X130.here hx rfl (pc0 := 554) (pc' := 558) rfl (hb hby at_554) (by decide) (by decide) ?_
                show Steps p.tables e below (T130.setTop (mkF m 558 #[.val (.int eb'), .val (.int wb'), .val (.int ct'), .val (.int jk'), .val (.int n'), .val (.int m'), .val (.int k'), .val (.int sg'), .val (.int o'), .val (.ref b14), .val (.ref b24), .val (.ref b58), .val (.ref b76), .val (.ref b90), .val (.long (own_off dd rr n')), .second, .val (.int lo), .val (.long (2 : Int64)), .second] [(.int (1 : Int32))])) _
                exact retN X130 hx (t := .boolean) Bd.returns (by simp) (hb hby at_558) hr
              · show Q0 Z eb' wb' ct' jk' h0 n0 _ T130.heap _
                rw [hh130]
                exact ⟨rfl, N130⟩
          · have pre161 : ∀ t, Steps p.tables e below (T130.setTop (mkF m 529 #[.val (.int eb'), .val (.int wb'), .val (.int ct'), .val (.int jk'), .val (.int n'), .val (.int m'), .val (.int k'), .val (.int sg'), .val (.int o'), .val (.ref b14), .val (.ref b24), .val (.ref b58), .val (.ref b76), .val (.ref b90), .val (.long (own_off dd rr n')), .second, .val (.int lo), .unset, .unset] [(.int n'), (.int m')])) t → Steps p.tables e below (s₁.setTop (entryFrame m #[(.int eb'), (.int wb'), (.int ct'), (.int jk')] maxLocals)) t := by
              intro t kt
              refine pre145 t ?_
              show Steps p.tables e below (T130.setTop (mkF m 478 #[.val (.int eb'), .val (.int wb'), .val (.int ct'), .val (.int jk'), .val (.int n'), .val (.int m'), .val (.int k'), .val (.int sg'), .val (.int o'), .val (.ref b14), .val (.ref b24), .val (.ref b58), .val (.ref b76), .val (.ref b90), .val (.long (own_off dd rr n')), .second, .val (.int lo), .unset, .unset] [(.int (2 : Int32)), (.int lo)])) _
              refine XS.icmpYes X130.here hx rfl (pc0 := 478) (pc' := 500) rfl (hb hby at_478) rfl (flt hc478_146).2.2.2 (by decide) (by decide) ?_
              show Steps p.tables e below (T130.setTop (mkF m 500 #[.val (.int eb'), .val (.int wb'), .val (.int ct'), .val (.int jk'), .val (.int n'), .val (.int m'), .val (.int k'), .val (.int sg'), .val (.int o'), .val (.ref b14), .val (.ref b24), .val (.ref b58), .val (.ref b76), .val (.ref b90), .val (.long (own_off dd rr n')), .second, .val (.int lo), .unset, .unset] [])) _
              refine XS.iload X130.here hx rfl (hb hby at_500) rfl ?_
              show Steps p.tables e below (T130.setTop (mkF m 502 #[.val (.int eb'), .val (.int wb'), .val (.int ct'), .val (.int jk'), .val (.int n'), .val (.int m'), .val (.int k'), .val (.int sg'), .val (.int o'), .val (.ref b14), .val (.ref b24), .val (.ref b58), .val (.ref b76), .val (.ref b90), .val (.long (own_off dd rr n')), .second, .val (.int lo), .unset, .unset] [(.int lo)])) _
              refine XS.iconst X130.here hx rfl (hb hby at_502) ?_
              show Steps p.tables e below (T130.setTop (mkF m 503 #[.val (.int eb'), .val (.int wb'), .val (.int ct'), .val (.int jk'), .val (.int n'), .val (.int m'), .val (.int k'), .val (.int sg'), .val (.int o'), .val (.ref b14), .val (.ref b24), .val (.ref b58), .val (.ref b76), .val (.ref b90), .val (.long (own_off dd rr n')), .second, .val (.int lo), .unset, .unset] [(.int (3 : Int32)), (.int lo)])) _
              refine XS.icmpYes X130.here hx rfl (pc0 := 503) (pc' := 525) rfl (hb hby at_503) rfl (flt (own_mono hc478_146 (by decide))).2.2.2 (by decide) (by decide) ?_
              show Steps p.tables e below (T130.setTop (mkF m 525 #[.val (.int eb'), .val (.int wb'), .val (.int ct'), .val (.int jk'), .val (.int n'), .val (.int m'), .val (.int k'), .val (.int sg'), .val (.int o'), .val (.ref b14), .val (.ref b24), .val (.ref b58), .val (.ref b76), .val (.ref b90), .val (.long (own_off dd rr n')), .second, .val (.int lo), .unset, .unset] [])) _
              refine XS.iload X130.here hx rfl (hb hby at_525) rfl ?_
              show Steps p.tables e below (T130.setTop (mkF m 527 #[.val (.int eb'), .val (.int wb'), .val (.int ct'), .val (.int jk'), .val (.int n'), .val (.int m'), .val (.int k'), .val (.int sg'), .val (.int o'), .val (.ref b14), .val (.ref b24), .val (.ref b58), .val (.ref b76), .val (.ref b90), .val (.long (own_off dd rr n')), .second, .val (.int lo), .unset, .unset] [(.int m')])) _
              refine XS.iload X130.here hx rfl (hb hby at_527) rfl ?_
              exact kt
            by_cases hc529_162 : m' = n'
            · obtain ⟨fs, hr, hrun, hended, hW⟩ := X130.leaveW hS (by rw [hh130]; exact hk) (v := some (.int (1 : Int32))) (fun h => by rw [Bd.returns] at h; cases h)
              refine ⟨_, _, pre161 _ ?_, hrun, hended, _, _, rfl, ?_, hW.1, hW.2.1, hW.2.2.1, hW.2.2.2.mono (by decide) (by decide)⟩
              · show Steps p.tables e below (T130.setTop (mkF m 529 #[.val (.int eb'), .val (.int wb'), .val (.int ct'), .val (.int jk'), .val (.int n'), .val (.int m'), .val (.int k'), .val (.int sg'), .val (.int o'), .val (.ref b14), .val (.ref b24), .val (.ref b58), .val (.ref b76), .val (.ref b90), .val (.long (own_off dd rr n')), .second, .val (.int lo), .unset, .unset] [(.int n'), (.int m')])) _
                refine XS.icmpNo X130.here hx rfl (hb hby at_529) rfl (teq hc529_162).2 ?_
                show Steps p.tables e below (T130.setTop (mkF m 532 #[.val (.int eb'), .val (.int wb'), .val (.int ct'), .val (.int jk'), .val (.int n'), .val (.int m'), .val (.int k'), .val (.int sg'), .val (.int o'), .val (.ref b14), .val (.ref b24), .val (.ref b58), .val (.ref b76), .val (.ref b90), .val (.long (own_off dd rr n')), .second, .val (.int lo), .unset, .unset] [])) _
                refine X130.ldc2Long hx hown (mvT hZ (hw _ (List.mem_of_getElem? (i := 81) rfl))) (g := (mkF m 532 #[.val (.int eb'), .val (.int wb'), .val (.int ct'), .val (.int jk'), .val (.int n'), .val (.int m'), .val (.int k'), .val (.int sg'), .val (.int o'), .val (.ref b14), .val (.ref b24), .val (.ref b58), .val (.ref b76), .val (.ref b90), .val (.long (own_off dd rr n')), .second, .val (.int lo), .unset, .unset] [])) rfl (hb hby at_532) _ ?_
                show Steps p.tables e below (T130.setTop (mkF m 535 #[.val (.int eb'), .val (.int wb'), .val (.int ct'), .val (.int jk'), .val (.int n'), .val (.int m'), .val (.int k'), .val (.int sg'), .val (.int o'), .val (.ref b14), .val (.ref b24), .val (.ref b58), .val (.ref b76), .val (.ref b90), .val (.long (own_off dd rr n')), .second, .val (.int lo), .unset, .unset] [(.long (-1 : Int64))])) _
                refine XS.lstore X130.here hx rfl (hb hby at_535) rfl (l' := #[.val (.int eb'), .val (.int wb'), .val (.int ct'), .val (.int jk'), .val (.int n'), .val (.int m'), .val (.int k'), .val (.int sg'), .val (.int o'), .val (.ref b14), .val (.ref b24), .val (.ref b58), .val (.ref b76), .val (.ref b90), .val (.long (own_off dd rr n')), .second, .val (.int lo), .val (.long (-1 : Int64)), .second]) rfl ?_
                show Steps p.tables e below (T130.setTop (mkF m 537 #[.val (.int eb'), .val (.int wb'), .val (.int ct'), .val (.int jk'), .val (.int n'), .val (.int m'), .val (.int k'), .val (.int sg'), .val (.int o'), .val (.ref b14), .val (.ref b24), .val (.ref b58), .val (.ref b76), .val (.ref b90), .val (.long (own_off dd rr n')), .second, .val (.int lo), .val (.long (-1 : Int64)), .second] [])) _
                refine XS.goto X130.here hx rfl (pc0 := 537) (pc' := 545) rfl (hb hby at_537) (by decide) (by decide) ?_
                show Steps p.tables e below (T130.setTop (mkF m 545 #[.val (.int eb'), .val (.int wb'), .val (.int ct'), .val (.int jk'), .val (.int n'), .val (.int m'), .val (.int k'), .val (.int sg'), .val (.int o'), .val (.ref b14), .val (.ref b24), .val (.ref b58), .val (.ref b76), .val (.ref b90), .val (.long (own_off dd rr n')), .second, .val (.int lo), .val (.long (-1 : Int64)), .second] [])) _
                refine XS.lload X130.here hx rfl (hb hby at_545) rfl ?_
                show Steps p.tables e below (T130.setTop (mkF m 547 #[.val (.int eb'), .val (.int wb'), .val (.int ct'), .val (.int jk'), .val (.int n'), .val (.int m'), .val (.int k'), .val (.int sg'), .val (.int o'), .val (.ref b14), .val (.ref b24), .val (.ref b58), .val (.ref b76), .val (.ref b90), .val (.long (own_off dd rr n')), .second, .val (.int lo), .val (.long (-1 : Int64)), .second] [(.long (own_off dd rr n'))])) _
                refine XS.lload X130.here hx rfl (hb hby at_547) rfl ?_
                show Steps p.tables e below (T130.setTop (mkF m 549 #[.val (.int eb'), .val (.int wb'), .val (.int ct'), .val (.int jk'), .val (.int n'), .val (.int m'), .val (.int k'), .val (.int sg'), .val (.int o'), .val (.ref b14), .val (.ref b24), .val (.ref b58), .val (.ref b76), .val (.ref b90), .val (.long (own_off dd rr n')), .second, .val (.int lo), .val (.long (-1 : Int64)), .second] [(.long (-1 : Int64)), (.long (own_off dd rr n'))])) _
                refine XS.lcmp X130.here hx rfl (hb hby at_549) rfl ?_
                show Steps p.tables e below (T130.setTop (mkF m 550 #[.val (.int eb'), .val (.int wb'), .val (.int ct'), .val (.int jk'), .val (.int n'), .val (.int m'), .val (.int k'), .val (.int sg'), .val (.int o'), .val (.ref b14), .val (.ref b24), .val (.ref b58), .val (.ref b76), .val (.ref b90), .val (.long (own_off dd rr n')), .second, .val (.int lo), .val (.long (-1 : Int64)), .second] [(.int (lcmpW (own_off dd rr n') (-1 : Int64)))])) _
                refine XS.ifNo X130.here hx rfl (hb hby at_550) rfl ((if0 _ _).trans (teq ((lw_eq (own_off dd rr n') (-1 : Int64)).mpr (own_finB1 fw fe N M dd rr n' m' lo hdd hrr hM hN hlo (own_hq (J := (2 : Int32)) (j := 2) rfl hc478_146 (own_es (own_es own_e0 hc443_138) hc466_144)) hc529_162))).2) ?_
                show Steps p.tables e below (T130.setTop (mkF m 553 #[.val (.int eb'), .val (.int wb'), .val (.int ct'), .val (.int jk'), .val (.int n'), .val (.int m'), .val (.int k'), .val (.int sg'), .val (.int o'), .val (.ref b14), .val (.ref b24), .val (.ref b58), .val (.ref b76), .val (.ref b90), .val (.long (own_off dd rr n')), .second, .val (.int lo), .val (.long (-1 : Int64)), .second] [])) _
                refine XS.iconst X130.here hx rfl (hb hby at_553) ?_
                show Steps p.tables e below (T130.setTop (mkF m 554 #[.val (.int eb'), .val (.int wb'), .val (.int ct'), .val (.int jk'), .val (.int n'), .val (.int m'), .val (.int k'), .val (.int sg'), .val (.int o'), .val (.ref b14), .val (.ref b24), .val (.ref b58), .val (.ref b76), .val (.ref b90), .val (.long (own_off dd rr n')), .second, .val (.int lo), .val (.long (-1 : Int64)), .second] [(.int (1 : Int32))])) _
                refine XS.goto X130.here hx rfl (pc0 := 554) (pc' := 558) rfl (hb hby at_554) (by decide) (by decide) ?_
                show Steps p.tables e below (T130.setTop (mkF m 558 #[.val (.int eb'), .val (.int wb'), .val (.int ct'), .val (.int jk'), .val (.int n'), .val (.int m'), .val (.int k'), .val (.int sg'), .val (.int o'), .val (.ref b14), .val (.ref b24), .val (.ref b58), .val (.ref b76), .val (.ref b90), .val (.long (own_off dd rr n')), .second, .val (.int lo), .val (.long (-1 : Int64)), .second] [(.int (1 : Int32))])) _
                exact retN X130 hx (t := .boolean) Bd.returns (by simp) (hb hby at_558) hr
              · show Q0 Z eb' wb' ct' jk' h0 n0 _ T130.heap _
                rw [hh130]
                exact ⟨rfl, N130⟩
            · obtain ⟨fs, hr, hrun, hended, hW⟩ := X130.leaveW hS (by rw [hh130]; exact hk) (v := some (.int (1 : Int32))) (fun h => by rw [Bd.returns] at h; cases h)
              refine ⟨_, _, pre161 _ ?_, hrun, hended, _, _, rfl, ?_, hW.1, hW.2.1, hW.2.2.1, hW.2.2.2.mono (by decide) (by decide)⟩
              · show Steps p.tables e below (T130.setTop (mkF m 529 #[.val (.int eb'), .val (.int wb'), .val (.int ct'), .val (.int jk'), .val (.int n'), .val (.int m'), .val (.int k'), .val (.int sg'), .val (.int o'), .val (.ref b14), .val (.ref b24), .val (.ref b58), .val (.ref b76), .val (.ref b90), .val (.long (own_off dd rr n')), .second, .val (.int lo), .unset, .unset] [(.int n'), (.int m')])) _
                refine XS.icmpYes X130.here hx rfl (pc0 := 529) (pc' := 540) rfl (hb hby at_529) rfl (feq hc529_162).2 (by decide) (by decide) ?_
                show Steps p.tables e below (T130.setTop (mkF m 540 #[.val (.int eb'), .val (.int wb'), .val (.int ct'), .val (.int jk'), .val (.int n'), .val (.int m'), .val (.int k'), .val (.int sg'), .val (.int o'), .val (.ref b14), .val (.ref b24), .val (.ref b58), .val (.ref b76), .val (.ref b90), .val (.long (own_off dd rr n')), .second, .val (.int lo), .unset, .unset] [])) _
                refine XS.iload X130.here hx rfl (hb hby at_540) rfl ?_
                show Steps p.tables e below (T130.setTop (mkF m 542 #[.val (.int eb'), .val (.int wb'), .val (.int ct'), .val (.int jk'), .val (.int n'), .val (.int m'), .val (.int k'), .val (.int sg'), .val (.int o'), .val (.ref b14), .val (.ref b24), .val (.ref b58), .val (.ref b76), .val (.ref b90), .val (.long (own_off dd rr n')), .second, .val (.int lo), .unset, .unset] [(.int lo)])) _
                refine XS.i2l X130.here hx rfl (hb hby at_542) rfl ?_
                show Steps p.tables e below (T130.setTop (mkF m 543 #[.val (.int eb'), .val (.int wb'), .val (.int ct'), .val (.int jk'), .val (.int n'), .val (.int m'), .val (.int k'), .val (.int sg'), .val (.int o'), .val (.ref b14), .val (.ref b24), .val (.ref b58), .val (.ref b76), .val (.ref b90), .val (.long (own_off dd rr n')), .second, .val (.int lo), .unset, .unset] [(.long (lo.toInt64))])) _
                refine XS.lstore X130.here hx rfl (hb hby at_543) rfl (l' := #[.val (.int eb'), .val (.int wb'), .val (.int ct'), .val (.int jk'), .val (.int n'), .val (.int m'), .val (.int k'), .val (.int sg'), .val (.int o'), .val (.ref b14), .val (.ref b24), .val (.ref b58), .val (.ref b76), .val (.ref b90), .val (.long (own_off dd rr n')), .second, .val (.int lo), .val (.long (lo.toInt64)), .second]) rfl ?_
                show Steps p.tables e below (T130.setTop (mkF m 545 #[.val (.int eb'), .val (.int wb'), .val (.int ct'), .val (.int jk'), .val (.int n'), .val (.int m'), .val (.int k'), .val (.int sg'), .val (.int o'), .val (.ref b14), .val (.ref b24), .val (.ref b58), .val (.ref b76), .val (.ref b90), .val (.long (own_off dd rr n')), .second, .val (.int lo), .val (.long (lo.toInt64)), .second] [])) _
                refine XS.lload X130.here hx rfl (hb hby at_545) rfl ?_
                show Steps p.tables e below (T130.setTop (mkF m 547 #[.val (.int eb'), .val (.int wb'), .val (.int ct'), .val (.int jk'), .val (.int n'), .val (.int m'), .val (.int k'), .val (.int sg'), .val (.int o'), .val (.ref b14), .val (.ref b24), .val (.ref b58), .val (.ref b76), .val (.ref b90), .val (.long (own_off dd rr n')), .second, .val (.int lo), .val (.long (lo.toInt64)), .second] [(.long (own_off dd rr n'))])) _
                refine XS.lload X130.here hx rfl (hb hby at_547) rfl ?_
                show Steps p.tables e below (T130.setTop (mkF m 549 #[.val (.int eb'), .val (.int wb'), .val (.int ct'), .val (.int jk'), .val (.int n'), .val (.int m'), .val (.int k'), .val (.int sg'), .val (.int o'), .val (.ref b14), .val (.ref b24), .val (.ref b58), .val (.ref b76), .val (.ref b90), .val (.long (own_off dd rr n')), .second, .val (.int lo), .val (.long (lo.toInt64)), .second] [(.long (lo.toInt64)), (.long (own_off dd rr n'))])) _
                refine XS.lcmp X130.here hx rfl (hb hby at_549) rfl ?_
                show Steps p.tables e below (T130.setTop (mkF m 550 #[.val (.int eb'), .val (.int wb'), .val (.int ct'), .val (.int jk'), .val (.int n'), .val (.int m'), .val (.int k'), .val (.int sg'), .val (.int o'), .val (.ref b14), .val (.ref b24), .val (.ref b58), .val (.ref b76), .val (.ref b90), .val (.long (own_off dd rr n')), .second, .val (.int lo), .val (.long (lo.toInt64)), .second] [(.int (lcmpW (own_off dd rr n') (lo.toInt64)))])) _
                refine XS.ifNo X130.here hx rfl (hb hby at_550) rfl ((if0 _ _).trans (teq ((lw_eq (own_off dd rr n') (lo.toInt64)).mpr (own_finB2 fw fe N M dd rr n' m' lo hdd hrr hM hN hlo (own_hq (J := (2 : Int32)) (j := 2) rfl hc478_146 (own_es (own_es own_e0 hc443_138) hc466_144)) hc529_162))).2) ?_
                show Steps p.tables e below (T130.setTop (mkF m 553 #[.val (.int eb'), .val (.int wb'), .val (.int ct'), .val (.int jk'), .val (.int n'), .val (.int m'), .val (.int k'), .val (.int sg'), .val (.int o'), .val (.ref b14), .val (.ref b24), .val (.ref b58), .val (.ref b76), .val (.ref b90), .val (.long (own_off dd rr n')), .second, .val (.int lo), .val (.long (lo.toInt64)), .second] [])) _
                refine XS.iconst X130.here hx rfl (hb hby at_553) ?_
                show Steps p.tables e below (T130.setTop (mkF m 554 #[.val (.int eb'), .val (.int wb'), .val (.int ct'), .val (.int jk'), .val (.int n'), .val (.int m'), .val (.int k'), .val (.int sg'), .val (.int o'), .val (.ref b14), .val (.ref b24), .val (.ref b58), .val (.ref b76), .val (.ref b90), .val (.long (own_off dd rr n')), .second, .val (.int lo), .val (.long (lo.toInt64)), .second] [(.int (1 : Int32))])) _
                refine XS.goto X130.here hx rfl (pc0 := 554) (pc' := 558) rfl (hb hby at_554) (by decide) (by decide) ?_
                show Steps p.tables e below (T130.setTop (mkF m 558 #[.val (.int eb'), .val (.int wb'), .val (.int ct'), .val (.int jk'), .val (.int n'), .val (.int m'), .val (.int k'), .val (.int sg'), .val (.int o'), .val (.ref b14), .val (.ref b24), .val (.ref b58), .val (.ref b76), .val (.ref b90), .val (.long (own_off dd rr n')), .second, .val (.int lo), .val (.long (lo.toInt64)), .second] [(.int (1 : Int32))])) _
                exact retN X130 hx (t := .boolean) Bd.returns (by simp) (hb hby at_558) hr
              · show Q0 Z eb' wb' ct' jk' h0 n0 _ T130.heap _
                rw [hh130]
                exact ⟨rfl, N130⟩
        · obtain ⟨fs, hr, hrun, hended, hW⟩ := X130.leaveW hS (by rw [hh130]; exact hk) (v := some (.int (1 : Int32))) (fun h => by rw [Bd.returns] at h; cases h)
          refine ⟨_, _, pre143 _ ?_, hrun, hended, _, _, rfl, ?_, hW.1, hW.2.1, hW.2.2.1, hW.2.2.2.mono (by decide) (by decide)⟩
          · show Steps p.tables e below (T130.setTop (mkF m 466 #[.val (.int eb'), .val (.int wb'), .val (.int ct'), .val (.int jk'), .val (.int n'), .val (.int m'), .val (.int k'), .val (.int sg'), .val (.int o'), .val (.ref b14), .val (.ref b24), .val (.ref b58), .val (.ref b76), .val (.ref b90), .val (.long (own_off dd rr n')), .second, .val (.int lo), .unset, .unset] [(.int (fe ((1 : Int32)).toNatClampNeg)), (.int (fw ((1 : Int32)).toNatClampNeg))])) _
            refine XS.icmpNo X130.here hx rfl (hb hby at_466) rfl (feq hc466_144).1 ?_
            show Steps p.tables e below (T130.setTop (mkF m 469 #[.val (.int eb'), .val (.int wb'), .val (.int ct'), .val (.int jk'), .val (.int n'), .val (.int m'), .val (.int k'), .val (.int sg'), .val (.int o'), .val (.ref b14), .val (.ref b24), .val (.ref b58), .val (.ref b76), .val (.ref b90), .val (.long (own_off dd rr n')), .second, .val (.int lo), .unset, .unset] [])) _
            refine XS.lconst X130.here hx rfl (hb hby at_469) ?_
            show Steps p.tables e below (T130.setTop (mkF m 470 #[.val (.int eb'), .val (.int wb'), .val (.int ct'), .val (.int jk'), .val (.int n'), .val (.int m'), .val (.int k'), .val (.int sg'), .val (.int o'), .val (.ref b14), .val (.ref b24), .val (.ref b58), .val (.ref b76), .val (.ref b90), .val (.long (own_off dd rr n')), .second, .val (.int lo), .unset, .unset] [(.long (1 : Int64))])) _
            refine XS.lstore X130.here hx rfl (hb hby at_470) rfl (l' := #[.val (.int eb'), .val (.int wb'), .val (.int ct'), .val (.int jk'), .val (.int n'), .val (.int m'), .val (.int k'), .val (.int sg'), .val (.int o'), .val (.ref b14), .val (.ref b24), .val (.ref b58), .val (.ref b76), .val (.ref b90), .val (.long (own_off dd rr n')), .second, .val (.int lo), .val (.long (1 : Int64)), .second]) rfl ?_
            show Steps p.tables e below (T130.setTop (mkF m 472 #[.val (.int eb'), .val (.int wb'), .val (.int ct'), .val (.int jk'), .val (.int n'), .val (.int m'), .val (.int k'), .val (.int sg'), .val (.int o'), .val (.ref b14), .val (.ref b24), .val (.ref b58), .val (.ref b76), .val (.ref b90), .val (.long (own_off dd rr n')), .second, .val (.int lo), .val (.long (1 : Int64)), .second] [])) _
            refine XS.goto X130.here hx rfl (pc0 := 472) (pc' := 545) rfl (hb hby at_472) (by decide) (by decide) ?_
            show Steps p.tables e below (T130.setTop (mkF m 545 #[.val (.int eb'), .val (.int wb'), .val (.int ct'), .val (.int jk'), .val (.int n'), .val (.int m'), .val (.int k'), .val (.int sg'), .val (.int o'), .val (.ref b14), .val (.ref b24), .val (.ref b58), .val (.ref b76), .val (.ref b90), .val (.long (own_off dd rr n')), .second, .val (.int lo), .val (.long (1 : Int64)), .second] [])) _
            refine XS.lload X130.here hx rfl (hb hby at_545) rfl ?_
            show Steps p.tables e below (T130.setTop (mkF m 547 #[.val (.int eb'), .val (.int wb'), .val (.int ct'), .val (.int jk'), .val (.int n'), .val (.int m'), .val (.int k'), .val (.int sg'), .val (.int o'), .val (.ref b14), .val (.ref b24), .val (.ref b58), .val (.ref b76), .val (.ref b90), .val (.long (own_off dd rr n')), .second, .val (.int lo), .val (.long (1 : Int64)), .second] [(.long (own_off dd rr n'))])) _
            refine XS.lload X130.here hx rfl (hb hby at_547) rfl ?_
            show Steps p.tables e below (T130.setTop (mkF m 549 #[.val (.int eb'), .val (.int wb'), .val (.int ct'), .val (.int jk'), .val (.int n'), .val (.int m'), .val (.int k'), .val (.int sg'), .val (.int o'), .val (.ref b14), .val (.ref b24), .val (.ref b58), .val (.ref b76), .val (.ref b90), .val (.long (own_off dd rr n')), .second, .val (.int lo), .val (.long (1 : Int64)), .second] [(.long (1 : Int64)), (.long (own_off dd rr n'))])) _
            refine XS.lcmp X130.here hx rfl (hb hby at_549) rfl ?_
            show Steps p.tables e below (T130.setTop (mkF m 550 #[.val (.int eb'), .val (.int wb'), .val (.int ct'), .val (.int jk'), .val (.int n'), .val (.int m'), .val (.int k'), .val (.int sg'), .val (.int o'), .val (.ref b14), .val (.ref b24), .val (.ref b58), .val (.ref b76), .val (.ref b90), .val (.long (own_off dd rr n')), .second, .val (.int lo), .val (.long (1 : Int64)), .second] [(.int (lcmpW (own_off dd rr n') (1 : Int64)))])) _
            refine XS.ifNo X130.here hx rfl (hb hby at_550) rfl ((if0 _ _).trans (teq ((lw_eq (own_off dd rr n') (1 : Int64)).mpr (own_finA fw fe N M 1 dd rr n' m' (1 : Int32) (1 : Int64) hdd hM hN rfl rfl (hlo ▸ hc455_140) (own_es own_e0 hc443_138) hc466_144))).2) ?_
            show Steps p.tables e below (T130.setTop (mkF m 553 #[.val (.int eb'), .val (.int wb'), .val (.int ct'), .val (.int jk'), .val (.int n'), .val (.int m'), .val (.int k'), .val (.int sg'), .val (.int o'), .val (.ref b14), .val (.ref b24), .val (.ref b58), .val (.ref b76), .val (.ref b90), .val (.long (own_off dd rr n')), .second, .val (.int lo), .val (.long (1 : Int64)), .second] [])) _
            refine XS.iconst X130.here hx rfl (hb hby at_553) ?_
            show Steps p.tables e below (T130.setTop (mkF m 554 #[.val (.int eb'), .val (.int wb'), .val (.int ct'), .val (.int jk'), .val (.int n'), .val (.int m'), .val (.int k'), .val (.int sg'), .val (.int o'), .val (.ref b14), .val (.ref b24), .val (.ref b58), .val (.ref b76), .val (.ref b90), .val (.long (own_off dd rr n')), .second, .val (.int lo), .val (.long (1 : Int64)), .second] [(.int (1 : Int32))])) _
            refine XS.goto X130.here hx rfl (pc0 := 554) (pc' := 558) rfl (hb hby at_554) (by decide) (by decide) ?_
            show Steps p.tables e below (T130.setTop (mkF m 558 #[.val (.int eb'), .val (.int wb'), .val (.int ct'), .val (.int jk'), .val (.int n'), .val (.int m'), .val (.int k'), .val (.int sg'), .val (.int o'), .val (.ref b14), .val (.ref b24), .val (.ref b58), .val (.ref b76), .val (.ref b90), .val (.long (own_off dd rr n')), .second, .val (.int lo), .val (.long (1 : Int64)), .second] [(.int (1 : Int32))])) _
            exact retN X130 hx (t := .boolean) Bd.returns (by simp) (hb hby at_558) hr
          · show Q0 Z eb' wb' ct' jk' h0 n0 _ T130.heap _
            rw [hh130]
            exact ⟨rfl, N130⟩
      · have pre163 : ∀ t, Steps p.tables e below (T130.setTop (mkF m 529 #[.val (.int eb'), .val (.int wb'), .val (.int ct'), .val (.int jk'), .val (.int n'), .val (.int m'), .val (.int k'), .val (.int sg'), .val (.int o'), .val (.ref b14), .val (.ref b24), .val (.ref b58), .val (.ref b76), .val (.ref b90), .val (.long (own_off dd rr n')), .second, .val (.int lo), .unset, .unset] [(.int n'), (.int m')])) t → Steps p.tables e below (s₁.setTop (entryFrame m #[(.int eb'), (.int wb'), (.int ct'), (.int jk')] maxLocals)) t := by
          intro t kt
          refine pre139 t ?_
          show Steps p.tables e below (T130.setTop (mkF m 455 #[.val (.int eb'), .val (.int wb'), .val (.int ct'), .val (.int jk'), .val (.int n'), .val (.int m'), .val (.int k'), .val (.int sg'), .val (.int o'), .val (.ref b14), .val (.ref b24), .val (.ref b58), .val (.ref b76), .val (.ref b90), .val (.long (own_off dd rr n')), .second, .val (.int lo), .unset, .unset] [(.int (1 : Int32)), (.int lo)])) _
          refine XS.icmpYes X130.here hx rfl (pc0 := 455) (pc' := 475) rfl (hb hby at_455) rfl (flt hc455_140).2.2.2 (by decide) (by decide) ?_
          show Steps p.tables e below (T130.setTop (mkF m 475 #[.val (.int eb'), .val (.int wb'), .val (.int ct'), .val (.int jk'), .val (.int n'), .val (.int m'), .val (.int k'), .val (.int sg'), .val (.int o'), .val (.ref b14), .val (.ref b24), .val (.ref b58), .val (.ref b76), .val (.ref b90), .val (.long (own_off dd rr n')), .second, .val (.int lo), .unset, .unset] [])) _
          refine XS.iload X130.here hx rfl (hb hby at_475) rfl ?_
          show Steps p.tables e below (T130.setTop (mkF m 477 #[.val (.int eb'), .val (.int wb'), .val (.int ct'), .val (.int jk'), .val (.int n'), .val (.int m'), .val (.int k'), .val (.int sg'), .val (.int o'), .val (.ref b14), .val (.ref b24), .val (.ref b58), .val (.ref b76), .val (.ref b90), .val (.long (own_off dd rr n')), .second, .val (.int lo), .unset, .unset] [(.int lo)])) _
          refine XS.iconst X130.here hx rfl (hb hby at_477) ?_
          show Steps p.tables e below (T130.setTop (mkF m 478 #[.val (.int eb'), .val (.int wb'), .val (.int ct'), .val (.int jk'), .val (.int n'), .val (.int m'), .val (.int k'), .val (.int sg'), .val (.int o'), .val (.ref b14), .val (.ref b24), .val (.ref b58), .val (.ref b76), .val (.ref b90), .val (.long (own_off dd rr n')), .second, .val (.int lo), .unset, .unset] [(.int (2 : Int32)), (.int lo)])) _
          refine XS.icmpYes X130.here hx rfl (pc0 := 478) (pc' := 500) rfl (hb hby at_478) rfl (flt (own_mono hc455_140 (by decide))).2.2.2 (by decide) (by decide) ?_
          show Steps p.tables e below (T130.setTop (mkF m 500 #[.val (.int eb'), .val (.int wb'), .val (.int ct'), .val (.int jk'), .val (.int n'), .val (.int m'), .val (.int k'), .val (.int sg'), .val (.int o'), .val (.ref b14), .val (.ref b24), .val (.ref b58), .val (.ref b76), .val (.ref b90), .val (.long (own_off dd rr n')), .second, .val (.int lo), .unset, .unset] [])) _
          refine XS.iload X130.here hx rfl (hb hby at_500) rfl ?_
          show Steps p.tables e below (T130.setTop (mkF m 502 #[.val (.int eb'), .val (.int wb'), .val (.int ct'), .val (.int jk'), .val (.int n'), .val (.int m'), .val (.int k'), .val (.int sg'), .val (.int o'), .val (.ref b14), .val (.ref b24), .val (.ref b58), .val (.ref b76), .val (.ref b90), .val (.long (own_off dd rr n')), .second, .val (.int lo), .unset, .unset] [(.int lo)])) _
          refine XS.iconst X130.here hx rfl (hb hby at_502) ?_
          show Steps p.tables e below (T130.setTop (mkF m 503 #[.val (.int eb'), .val (.int wb'), .val (.int ct'), .val (.int jk'), .val (.int n'), .val (.int m'), .val (.int k'), .val (.int sg'), .val (.int o'), .val (.ref b14), .val (.ref b24), .val (.ref b58), .val (.ref b76), .val (.ref b90), .val (.long (own_off dd rr n')), .second, .val (.int lo), .unset, .unset] [(.int (3 : Int32)), (.int lo)])) _
          refine XS.icmpYes X130.here hx rfl (pc0 := 503) (pc' := 525) rfl (hb hby at_503) rfl (flt (own_mono hc455_140 (by decide))).2.2.2 (by decide) (by decide) ?_
          show Steps p.tables e below (T130.setTop (mkF m 525 #[.val (.int eb'), .val (.int wb'), .val (.int ct'), .val (.int jk'), .val (.int n'), .val (.int m'), .val (.int k'), .val (.int sg'), .val (.int o'), .val (.ref b14), .val (.ref b24), .val (.ref b58), .val (.ref b76), .val (.ref b90), .val (.long (own_off dd rr n')), .second, .val (.int lo), .unset, .unset] [])) _
          refine XS.iload X130.here hx rfl (hb hby at_525) rfl ?_
          show Steps p.tables e below (T130.setTop (mkF m 527 #[.val (.int eb'), .val (.int wb'), .val (.int ct'), .val (.int jk'), .val (.int n'), .val (.int m'), .val (.int k'), .val (.int sg'), .val (.int o'), .val (.ref b14), .val (.ref b24), .val (.ref b58), .val (.ref b76), .val (.ref b90), .val (.long (own_off dd rr n')), .second, .val (.int lo), .unset, .unset] [(.int m')])) _
          refine XS.iload X130.here hx rfl (hb hby at_527) rfl ?_
          exact kt
        by_cases hc529_164 : m' = n'
        · obtain ⟨fs, hr, hrun, hended, hW⟩ := X130.leaveW hS (by rw [hh130]; exact hk) (v := some (.int (1 : Int32))) (fun h => by rw [Bd.returns] at h; cases h)
          refine ⟨_, _, pre163 _ ?_, hrun, hended, _, _, rfl, ?_, hW.1, hW.2.1, hW.2.2.1, hW.2.2.2.mono (by decide) (by decide)⟩
          · show Steps p.tables e below (T130.setTop (mkF m 529 #[.val (.int eb'), .val (.int wb'), .val (.int ct'), .val (.int jk'), .val (.int n'), .val (.int m'), .val (.int k'), .val (.int sg'), .val (.int o'), .val (.ref b14), .val (.ref b24), .val (.ref b58), .val (.ref b76), .val (.ref b90), .val (.long (own_off dd rr n')), .second, .val (.int lo), .unset, .unset] [(.int n'), (.int m')])) _
            refine XS.icmpNo X130.here hx rfl (hb hby at_529) rfl (teq hc529_164).2 ?_
            show Steps p.tables e below (T130.setTop (mkF m 532 #[.val (.int eb'), .val (.int wb'), .val (.int ct'), .val (.int jk'), .val (.int n'), .val (.int m'), .val (.int k'), .val (.int sg'), .val (.int o'), .val (.ref b14), .val (.ref b24), .val (.ref b58), .val (.ref b76), .val (.ref b90), .val (.long (own_off dd rr n')), .second, .val (.int lo), .unset, .unset] [])) _
            refine X130.ldc2Long hx hown (mvT hZ (hw _ (List.mem_of_getElem? (i := 81) rfl))) (g := (mkF m 532 #[.val (.int eb'), .val (.int wb'), .val (.int ct'), .val (.int jk'), .val (.int n'), .val (.int m'), .val (.int k'), .val (.int sg'), .val (.int o'), .val (.ref b14), .val (.ref b24), .val (.ref b58), .val (.ref b76), .val (.ref b90), .val (.long (own_off dd rr n')), .second, .val (.int lo), .unset, .unset] [])) rfl (hb hby at_532) _ ?_
            show Steps p.tables e below (T130.setTop (mkF m 535 #[.val (.int eb'), .val (.int wb'), .val (.int ct'), .val (.int jk'), .val (.int n'), .val (.int m'), .val (.int k'), .val (.int sg'), .val (.int o'), .val (.ref b14), .val (.ref b24), .val (.ref b58), .val (.ref b76), .val (.ref b90), .val (.long (own_off dd rr n')), .second, .val (.int lo), .unset, .unset] [(.long (-1 : Int64))])) _
            refine XS.lstore X130.here hx rfl (hb hby at_535) rfl (l' := #[.val (.int eb'), .val (.int wb'), .val (.int ct'), .val (.int jk'), .val (.int n'), .val (.int m'), .val (.int k'), .val (.int sg'), .val (.int o'), .val (.ref b14), .val (.ref b24), .val (.ref b58), .val (.ref b76), .val (.ref b90), .val (.long (own_off dd rr n')), .second, .val (.int lo), .val (.long (-1 : Int64)), .second]) rfl ?_
            show Steps p.tables e below (T130.setTop (mkF m 537 #[.val (.int eb'), .val (.int wb'), .val (.int ct'), .val (.int jk'), .val (.int n'), .val (.int m'), .val (.int k'), .val (.int sg'), .val (.int o'), .val (.ref b14), .val (.ref b24), .val (.ref b58), .val (.ref b76), .val (.ref b90), .val (.long (own_off dd rr n')), .second, .val (.int lo), .val (.long (-1 : Int64)), .second] [])) _
            refine XS.goto X130.here hx rfl (pc0 := 537) (pc' := 545) rfl (hb hby at_537) (by decide) (by decide) ?_
            show Steps p.tables e below (T130.setTop (mkF m 545 #[.val (.int eb'), .val (.int wb'), .val (.int ct'), .val (.int jk'), .val (.int n'), .val (.int m'), .val (.int k'), .val (.int sg'), .val (.int o'), .val (.ref b14), .val (.ref b24), .val (.ref b58), .val (.ref b76), .val (.ref b90), .val (.long (own_off dd rr n')), .second, .val (.int lo), .val (.long (-1 : Int64)), .second] [])) _
            refine XS.lload X130.here hx rfl (hb hby at_545) rfl ?_
            show Steps p.tables e below (T130.setTop (mkF m 547 #[.val (.int eb'), .val (.int wb'), .val (.int ct'), .val (.int jk'), .val (.int n'), .val (.int m'), .val (.int k'), .val (.int sg'), .val (.int o'), .val (.ref b14), .val (.ref b24), .val (.ref b58), .val (.ref b76), .val (.ref b90), .val (.long (own_off dd rr n')), .second, .val (.int lo), .val (.long (-1 : Int64)), .second] [(.long (own_off dd rr n'))])) _
            refine XS.lload X130.here hx rfl (hb hby at_547) rfl ?_
            show Steps p.tables e below (T130.setTop (mkF m 549 #[.val (.int eb'), .val (.int wb'), .val (.int ct'), .val (.int jk'), .val (.int n'), .val (.int m'), .val (.int k'), .val (.int sg'), .val (.int o'), .val (.ref b14), .val (.ref b24), .val (.ref b58), .val (.ref b76), .val (.ref b90), .val (.long (own_off dd rr n')), .second, .val (.int lo), .val (.long (-1 : Int64)), .second] [(.long (-1 : Int64)), (.long (own_off dd rr n'))])) _
            refine XS.lcmp X130.here hx rfl (hb hby at_549) rfl ?_
            show Steps p.tables e below (T130.setTop (mkF m 550 #[.val (.int eb'), .val (.int wb'), .val (.int ct'), .val (.int jk'), .val (.int n'), .val (.int m'), .val (.int k'), .val (.int sg'), .val (.int o'), .val (.ref b14), .val (.ref b24), .val (.ref b58), .val (.ref b76), .val (.ref b90), .val (.long (own_off dd rr n')), .second, .val (.int lo), .val (.long (-1 : Int64)), .second] [(.int (lcmpW (own_off dd rr n') (-1 : Int64)))])) _
            refine XS.ifNo X130.here hx rfl (hb hby at_550) rfl ((if0 _ _).trans (teq ((lw_eq (own_off dd rr n') (-1 : Int64)).mpr (own_finB1 fw fe N M dd rr n' m' lo hdd hrr hM hN hlo (own_hq (J := (1 : Int32)) (j := 1) rfl hc455_140 (own_es own_e0 hc443_138)) hc529_164))).2) ?_
            show Steps p.tables e below (T130.setTop (mkF m 553 #[.val (.int eb'), .val (.int wb'), .val (.int ct'), .val (.int jk'), .val (.int n'), .val (.int m'), .val (.int k'), .val (.int sg'), .val (.int o'), .val (.ref b14), .val (.ref b24), .val (.ref b58), .val (.ref b76), .val (.ref b90), .val (.long (own_off dd rr n')), .second, .val (.int lo), .val (.long (-1 : Int64)), .second] [])) _
            refine XS.iconst X130.here hx rfl (hb hby at_553) ?_
            show Steps p.tables e below (T130.setTop (mkF m 554 #[.val (.int eb'), .val (.int wb'), .val (.int ct'), .val (.int jk'), .val (.int n'), .val (.int m'), .val (.int k'), .val (.int sg'), .val (.int o'), .val (.ref b14), .val (.ref b24), .val (.ref b58), .val (.ref b76), .val (.ref b90), .val (.long (own_off dd rr n')), .second, .val (.int lo), .val (.long (-1 : Int64)), .second] [(.int (1 : Int32))])) _
            refine XS.goto X130.here hx rfl (pc0 := 554) (pc' := 558) rfl (hb hby at_554) (by decide) (by decide) ?_
            show Steps p.tables e below (T130.setTop (mkF m 558 #[.val (.int eb'), .val (.int wb'), .val (.int ct'), .val (.int jk'), .val (.int n'), .val (.int m'), .val (.int k'), .val (.int sg'), .val (.int o'), .val (.ref b14), .val (.ref b24), .val (.ref b58), .val (.ref b76), .val (.ref b90), .val (.long (own_off dd rr n')), .second, .val (.int lo), .val (.long (-1 : Int64)), .second] [(.int (1 : Int32))])) _
            exact retN X130 hx (t := .boolean) Bd.returns (by simp) (hb hby at_558) hr
          · show Q0 Z eb' wb' ct' jk' h0 n0 _ T130.heap _
            rw [hh130]
            exact ⟨rfl, N130⟩
        · obtain ⟨fs, hr, hrun, hended, hW⟩ := X130.leaveW hS (by rw [hh130]; exact hk) (v := some (.int (1 : Int32))) (fun h => by rw [Bd.returns] at h; cases h)
          refine ⟨_, _, pre163 _ ?_, hrun, hended, _, _, rfl, ?_, hW.1, hW.2.1, hW.2.2.1, hW.2.2.2.mono (by decide) (by decide)⟩
          · show Steps p.tables e below (T130.setTop (mkF m 529 #[.val (.int eb'), .val (.int wb'), .val (.int ct'), .val (.int jk'), .val (.int n'), .val (.int m'), .val (.int k'), .val (.int sg'), .val (.int o'), .val (.ref b14), .val (.ref b24), .val (.ref b58), .val (.ref b76), .val (.ref b90), .val (.long (own_off dd rr n')), .second, .val (.int lo), .unset, .unset] [(.int n'), (.int m')])) _
            refine XS.icmpYes X130.here hx rfl (pc0 := 529) (pc' := 540) rfl (hb hby at_529) rfl (feq hc529_164).2 (by decide) (by decide) ?_
            show Steps p.tables e below (T130.setTop (mkF m 540 #[.val (.int eb'), .val (.int wb'), .val (.int ct'), .val (.int jk'), .val (.int n'), .val (.int m'), .val (.int k'), .val (.int sg'), .val (.int o'), .val (.ref b14), .val (.ref b24), .val (.ref b58), .val (.ref b76), .val (.ref b90), .val (.long (own_off dd rr n')), .second, .val (.int lo), .unset, .unset] [])) _
            refine XS.iload X130.here hx rfl (hb hby at_540) rfl ?_
            show Steps p.tables e below (T130.setTop (mkF m 542 #[.val (.int eb'), .val (.int wb'), .val (.int ct'), .val (.int jk'), .val (.int n'), .val (.int m'), .val (.int k'), .val (.int sg'), .val (.int o'), .val (.ref b14), .val (.ref b24), .val (.ref b58), .val (.ref b76), .val (.ref b90), .val (.long (own_off dd rr n')), .second, .val (.int lo), .unset, .unset] [(.int lo)])) _
            refine XS.i2l X130.here hx rfl (hb hby at_542) rfl ?_
            show Steps p.tables e below (T130.setTop (mkF m 543 #[.val (.int eb'), .val (.int wb'), .val (.int ct'), .val (.int jk'), .val (.int n'), .val (.int m'), .val (.int k'), .val (.int sg'), .val (.int o'), .val (.ref b14), .val (.ref b24), .val (.ref b58), .val (.ref b76), .val (.ref b90), .val (.long (own_off dd rr n')), .second, .val (.int lo), .unset, .unset] [(.long (lo.toInt64))])) _
            refine XS.lstore X130.here hx rfl (hb hby at_543) rfl (l' := #[.val (.int eb'), .val (.int wb'), .val (.int ct'), .val (.int jk'), .val (.int n'), .val (.int m'), .val (.int k'), .val (.int sg'), .val (.int o'), .val (.ref b14), .val (.ref b24), .val (.ref b58), .val (.ref b76), .val (.ref b90), .val (.long (own_off dd rr n')), .second, .val (.int lo), .val (.long (lo.toInt64)), .second]) rfl ?_
            show Steps p.tables e below (T130.setTop (mkF m 545 #[.val (.int eb'), .val (.int wb'), .val (.int ct'), .val (.int jk'), .val (.int n'), .val (.int m'), .val (.int k'), .val (.int sg'), .val (.int o'), .val (.ref b14), .val (.ref b24), .val (.ref b58), .val (.ref b76), .val (.ref b90), .val (.long (own_off dd rr n')), .second, .val (.int lo), .val (.long (lo.toInt64)), .second] [])) _
            refine XS.lload X130.here hx rfl (hb hby at_545) rfl ?_
            show Steps p.tables e below (T130.setTop (mkF m 547 #[.val (.int eb'), .val (.int wb'), .val (.int ct'), .val (.int jk'), .val (.int n'), .val (.int m'), .val (.int k'), .val (.int sg'), .val (.int o'), .val (.ref b14), .val (.ref b24), .val (.ref b58), .val (.ref b76), .val (.ref b90), .val (.long (own_off dd rr n')), .second, .val (.int lo), .val (.long (lo.toInt64)), .second] [(.long (own_off dd rr n'))])) _
            refine XS.lload X130.here hx rfl (hb hby at_547) rfl ?_
            show Steps p.tables e below (T130.setTop (mkF m 549 #[.val (.int eb'), .val (.int wb'), .val (.int ct'), .val (.int jk'), .val (.int n'), .val (.int m'), .val (.int k'), .val (.int sg'), .val (.int o'), .val (.ref b14), .val (.ref b24), .val (.ref b58), .val (.ref b76), .val (.ref b90), .val (.long (own_off dd rr n')), .second, .val (.int lo), .val (.long (lo.toInt64)), .second] [(.long (lo.toInt64)), (.long (own_off dd rr n'))])) _
            refine XS.lcmp X130.here hx rfl (hb hby at_549) rfl ?_
            show Steps p.tables e below (T130.setTop (mkF m 550 #[.val (.int eb'), .val (.int wb'), .val (.int ct'), .val (.int jk'), .val (.int n'), .val (.int m'), .val (.int k'), .val (.int sg'), .val (.int o'), .val (.ref b14), .val (.ref b24), .val (.ref b58), .val (.ref b76), .val (.ref b90), .val (.long (own_off dd rr n')), .second, .val (.int lo), .val (.long (lo.toInt64)), .second] [(.int (lcmpW (own_off dd rr n') (lo.toInt64)))])) _
            refine XS.ifNo X130.here hx rfl (hb hby at_550) rfl ((if0 _ _).trans (teq ((lw_eq (own_off dd rr n') (lo.toInt64)).mpr (own_finB2 fw fe N M dd rr n' m' lo hdd hrr hM hN hlo (own_hq (J := (1 : Int32)) (j := 1) rfl hc455_140 (own_es own_e0 hc443_138)) hc529_164))).2) ?_
            show Steps p.tables e below (T130.setTop (mkF m 553 #[.val (.int eb'), .val (.int wb'), .val (.int ct'), .val (.int jk'), .val (.int n'), .val (.int m'), .val (.int k'), .val (.int sg'), .val (.int o'), .val (.ref b14), .val (.ref b24), .val (.ref b58), .val (.ref b76), .val (.ref b90), .val (.long (own_off dd rr n')), .second, .val (.int lo), .val (.long (lo.toInt64)), .second] [])) _
            refine XS.iconst X130.here hx rfl (hb hby at_553) ?_
            show Steps p.tables e below (T130.setTop (mkF m 554 #[.val (.int eb'), .val (.int wb'), .val (.int ct'), .val (.int jk'), .val (.int n'), .val (.int m'), .val (.int k'), .val (.int sg'), .val (.int o'), .val (.ref b14), .val (.ref b24), .val (.ref b58), .val (.ref b76), .val (.ref b90), .val (.long (own_off dd rr n')), .second, .val (.int lo), .val (.long (lo.toInt64)), .second] [(.int (1 : Int32))])) _
            refine XS.goto X130.here hx rfl (pc0 := 554) (pc' := 558) rfl (hb hby at_554) (by decide) (by decide) ?_
            show Steps p.tables e below (T130.setTop (mkF m 558 #[.val (.int eb'), .val (.int wb'), .val (.int ct'), .val (.int jk'), .val (.int n'), .val (.int m'), .val (.int k'), .val (.int sg'), .val (.int o'), .val (.ref b14), .val (.ref b24), .val (.ref b58), .val (.ref b76), .val (.ref b90), .val (.long (own_off dd rr n')), .second, .val (.int lo), .val (.long (lo.toInt64)), .second] [(.int (1 : Int32))])) _
            exact retN X130 hx (t := .boolean) Bd.returns (by simp) (hb hby at_558) hr
          · show Q0 Z eb' wb' ct' jk' h0 n0 _ T130.heap _
            rw [hh130]
            exact ⟨rfl, N130⟩
    · obtain ⟨fs, hr, hrun, hended, hW⟩ := X130.leaveW hS (by rw [hh130]; exact hk) (v := some (.int (1 : Int32))) (fun h => by rw [Bd.returns] at h; cases h)
      refine ⟨_, _, pre137 _ ?_, hrun, hended, _, _, rfl, ?_, hW.1, hW.2.1, hW.2.2.1, hW.2.2.2.mono (by decide) (by decide)⟩
      · show Steps p.tables e below (T130.setTop (mkF m 443 #[.val (.int eb'), .val (.int wb'), .val (.int ct'), .val (.int jk'), .val (.int n'), .val (.int m'), .val (.int k'), .val (.int sg'), .val (.int o'), .val (.ref b14), .val (.ref b24), .val (.ref b58), .val (.ref b76), .val (.ref b90), .val (.long (own_off dd rr n')), .second, .val (.int lo), .unset, .unset] [(.int (fe ((0 : Int32)).toNatClampNeg)), (.int (fw ((0 : Int32)).toNatClampNeg))])) _
        refine XS.icmpNo X130.here hx rfl (hb hby at_443) rfl (feq hc443_138).1 ?_
        show Steps p.tables e below (T130.setTop (mkF m 446 #[.val (.int eb'), .val (.int wb'), .val (.int ct'), .val (.int jk'), .val (.int n'), .val (.int m'), .val (.int k'), .val (.int sg'), .val (.int o'), .val (.ref b14), .val (.ref b24), .val (.ref b58), .val (.ref b76), .val (.ref b90), .val (.long (own_off dd rr n')), .second, .val (.int lo), .unset, .unset] [])) _
        refine XS.lconst X130.here hx rfl (hb hby at_446) ?_
        show Steps p.tables e below (T130.setTop (mkF m 447 #[.val (.int eb'), .val (.int wb'), .val (.int ct'), .val (.int jk'), .val (.int n'), .val (.int m'), .val (.int k'), .val (.int sg'), .val (.int o'), .val (.ref b14), .val (.ref b24), .val (.ref b58), .val (.ref b76), .val (.ref b90), .val (.long (own_off dd rr n')), .second, .val (.int lo), .unset, .unset] [(.long (0 : Int64))])) _
        refine XS.lstore X130.here hx rfl (hb hby at_447) rfl (l' := #[.val (.int eb'), .val (.int wb'), .val (.int ct'), .val (.int jk'), .val (.int n'), .val (.int m'), .val (.int k'), .val (.int sg'), .val (.int o'), .val (.ref b14), .val (.ref b24), .val (.ref b58), .val (.ref b76), .val (.ref b90), .val (.long (own_off dd rr n')), .second, .val (.int lo), .val (.long (0 : Int64)), .second]) rfl ?_
        show Steps p.tables e below (T130.setTop (mkF m 449 #[.val (.int eb'), .val (.int wb'), .val (.int ct'), .val (.int jk'), .val (.int n'), .val (.int m'), .val (.int k'), .val (.int sg'), .val (.int o'), .val (.ref b14), .val (.ref b24), .val (.ref b58), .val (.ref b76), .val (.ref b90), .val (.long (own_off dd rr n')), .second, .val (.int lo), .val (.long (0 : Int64)), .second] [])) _
        refine XS.goto X130.here hx rfl (pc0 := 449) (pc' := 545) rfl (hb hby at_449) (by decide) (by decide) ?_
        show Steps p.tables e below (T130.setTop (mkF m 545 #[.val (.int eb'), .val (.int wb'), .val (.int ct'), .val (.int jk'), .val (.int n'), .val (.int m'), .val (.int k'), .val (.int sg'), .val (.int o'), .val (.ref b14), .val (.ref b24), .val (.ref b58), .val (.ref b76), .val (.ref b90), .val (.long (own_off dd rr n')), .second, .val (.int lo), .val (.long (0 : Int64)), .second] [])) _
        refine XS.lload X130.here hx rfl (hb hby at_545) rfl ?_
        show Steps p.tables e below (T130.setTop (mkF m 547 #[.val (.int eb'), .val (.int wb'), .val (.int ct'), .val (.int jk'), .val (.int n'), .val (.int m'), .val (.int k'), .val (.int sg'), .val (.int o'), .val (.ref b14), .val (.ref b24), .val (.ref b58), .val (.ref b76), .val (.ref b90), .val (.long (own_off dd rr n')), .second, .val (.int lo), .val (.long (0 : Int64)), .second] [(.long (own_off dd rr n'))])) _
        refine XS.lload X130.here hx rfl (hb hby at_547) rfl ?_
        show Steps p.tables e below (T130.setTop (mkF m 549 #[.val (.int eb'), .val (.int wb'), .val (.int ct'), .val (.int jk'), .val (.int n'), .val (.int m'), .val (.int k'), .val (.int sg'), .val (.int o'), .val (.ref b14), .val (.ref b24), .val (.ref b58), .val (.ref b76), .val (.ref b90), .val (.long (own_off dd rr n')), .second, .val (.int lo), .val (.long (0 : Int64)), .second] [(.long (0 : Int64)), (.long (own_off dd rr n'))])) _
        refine XS.lcmp X130.here hx rfl (hb hby at_549) rfl ?_
        show Steps p.tables e below (T130.setTop (mkF m 550 #[.val (.int eb'), .val (.int wb'), .val (.int ct'), .val (.int jk'), .val (.int n'), .val (.int m'), .val (.int k'), .val (.int sg'), .val (.int o'), .val (.ref b14), .val (.ref b24), .val (.ref b58), .val (.ref b76), .val (.ref b90), .val (.long (own_off dd rr n')), .second, .val (.int lo), .val (.long (0 : Int64)), .second] [(.int (lcmpW (own_off dd rr n') (0 : Int64)))])) _
        refine XS.ifNo X130.here hx rfl (hb hby at_550) rfl ((if0 _ _).trans (teq ((lw_eq (own_off dd rr n') (0 : Int64)).mpr (own_finA fw fe N M 0 dd rr n' m' (0 : Int32) (0 : Int64) hdd hM hN rfl rfl (hlo ▸ hc432_134) own_e0 hc443_138))).2) ?_
        show Steps p.tables e below (T130.setTop (mkF m 553 #[.val (.int eb'), .val (.int wb'), .val (.int ct'), .val (.int jk'), .val (.int n'), .val (.int m'), .val (.int k'), .val (.int sg'), .val (.int o'), .val (.ref b14), .val (.ref b24), .val (.ref b58), .val (.ref b76), .val (.ref b90), .val (.long (own_off dd rr n')), .second, .val (.int lo), .val (.long (0 : Int64)), .second] [])) _
        refine XS.iconst X130.here hx rfl (hb hby at_553) ?_
        show Steps p.tables e below (T130.setTop (mkF m 554 #[.val (.int eb'), .val (.int wb'), .val (.int ct'), .val (.int jk'), .val (.int n'), .val (.int m'), .val (.int k'), .val (.int sg'), .val (.int o'), .val (.ref b14), .val (.ref b24), .val (.ref b58), .val (.ref b76), .val (.ref b90), .val (.long (own_off dd rr n')), .second, .val (.int lo), .val (.long (0 : Int64)), .second] [(.int (1 : Int32))])) _
        refine XS.goto X130.here hx rfl (pc0 := 554) (pc' := 558) rfl (hb hby at_554) (by decide) (by decide) ?_
        show Steps p.tables e below (T130.setTop (mkF m 558 #[.val (.int eb'), .val (.int wb'), .val (.int ct'), .val (.int jk'), .val (.int n'), .val (.int m'), .val (.int k'), .val (.int sg'), .val (.int o'), .val (.ref b14), .val (.ref b24), .val (.ref b58), .val (.ref b76), .val (.ref b90), .val (.long (own_off dd rr n')), .second, .val (.int lo), .val (.long (0 : Int64)), .second] [(.int (1 : Int32))])) _
        exact retN X130 hx (t := .boolean) Bd.returns (by simp) (hb hby at_558) hr
      · show Q0 Z eb' wb' ct' jk' h0 n0 _ T130.heap _
        rw [hh130]
        exact ⟨rfl, N130⟩
  · have pre165 : ∀ t, Steps p.tables e below (T130.setTop (mkF m 529 #[.val (.int eb'), .val (.int wb'), .val (.int ct'), .val (.int jk'), .val (.int n'), .val (.int m'), .val (.int k'), .val (.int sg'), .val (.int o'), .val (.ref b14), .val (.ref b24), .val (.ref b58), .val (.ref b76), .val (.ref b90), .val (.long (own_off dd rr n')), .second, .val (.int lo), .unset, .unset] [(.int n'), (.int m')])) t → Steps p.tables e below (s₁.setTop (entryFrame m #[(.int eb'), (.int wb'), (.int ct'), (.int jk')] maxLocals)) t := by
      intro t kt
      refine pre133 t ?_
      show Steps p.tables e below (T130.setTop (mkF m 432 #[.val (.int eb'), .val (.int wb'), .val (.int ct'), .val (.int jk'), .val (.int n'), .val (.int m'), .val (.int k'), .val (.int sg'), .val (.int o'), .val (.ref b14), .val (.ref b24), .val (.ref b58), .val (.ref b76), .val (.ref b90), .val (.long (own_off dd rr n')), .second, .val (.int lo), .unset, .unset] [(.int lo)])) _
      refine XS.ifYes X130.here hx rfl (pc0 := 432) (pc' := 452) rfl (hb hby at_432) rfl ((if0 _ _).trans (flt hc432_134).2.2.2) (by decide) (by decide) ?_
      show Steps p.tables e below (T130.setTop (mkF m 452 #[.val (.int eb'), .val (.int wb'), .val (.int ct'), .val (.int jk'), .val (.int n'), .val (.int m'), .val (.int k'), .val (.int sg'), .val (.int o'), .val (.ref b14), .val (.ref b24), .val (.ref b58), .val (.ref b76), .val (.ref b90), .val (.long (own_off dd rr n')), .second, .val (.int lo), .unset, .unset] [])) _
      refine XS.iload X130.here hx rfl (hb hby at_452) rfl ?_
      show Steps p.tables e below (T130.setTop (mkF m 454 #[.val (.int eb'), .val (.int wb'), .val (.int ct'), .val (.int jk'), .val (.int n'), .val (.int m'), .val (.int k'), .val (.int sg'), .val (.int o'), .val (.ref b14), .val (.ref b24), .val (.ref b58), .val (.ref b76), .val (.ref b90), .val (.long (own_off dd rr n')), .second, .val (.int lo), .unset, .unset] [(.int lo)])) _
      refine XS.iconst X130.here hx rfl (hb hby at_454) ?_
      show Steps p.tables e below (T130.setTop (mkF m 455 #[.val (.int eb'), .val (.int wb'), .val (.int ct'), .val (.int jk'), .val (.int n'), .val (.int m'), .val (.int k'), .val (.int sg'), .val (.int o'), .val (.ref b14), .val (.ref b24), .val (.ref b58), .val (.ref b76), .val (.ref b90), .val (.long (own_off dd rr n')), .second, .val (.int lo), .unset, .unset] [(.int (1 : Int32)), (.int lo)])) _
      refine XS.icmpYes X130.here hx rfl (pc0 := 455) (pc' := 475) rfl (hb hby at_455) rfl (flt (own_mono hc432_134 (by decide))).2.2.2 (by decide) (by decide) ?_
      show Steps p.tables e below (T130.setTop (mkF m 475 #[.val (.int eb'), .val (.int wb'), .val (.int ct'), .val (.int jk'), .val (.int n'), .val (.int m'), .val (.int k'), .val (.int sg'), .val (.int o'), .val (.ref b14), .val (.ref b24), .val (.ref b58), .val (.ref b76), .val (.ref b90), .val (.long (own_off dd rr n')), .second, .val (.int lo), .unset, .unset] [])) _
      refine XS.iload X130.here hx rfl (hb hby at_475) rfl ?_
      show Steps p.tables e below (T130.setTop (mkF m 477 #[.val (.int eb'), .val (.int wb'), .val (.int ct'), .val (.int jk'), .val (.int n'), .val (.int m'), .val (.int k'), .val (.int sg'), .val (.int o'), .val (.ref b14), .val (.ref b24), .val (.ref b58), .val (.ref b76), .val (.ref b90), .val (.long (own_off dd rr n')), .second, .val (.int lo), .unset, .unset] [(.int lo)])) _
      refine XS.iconst X130.here hx rfl (hb hby at_477) ?_
      show Steps p.tables e below (T130.setTop (mkF m 478 #[.val (.int eb'), .val (.int wb'), .val (.int ct'), .val (.int jk'), .val (.int n'), .val (.int m'), .val (.int k'), .val (.int sg'), .val (.int o'), .val (.ref b14), .val (.ref b24), .val (.ref b58), .val (.ref b76), .val (.ref b90), .val (.long (own_off dd rr n')), .second, .val (.int lo), .unset, .unset] [(.int (2 : Int32)), (.int lo)])) _
      refine XS.icmpYes X130.here hx rfl (pc0 := 478) (pc' := 500) rfl (hb hby at_478) rfl (flt (own_mono hc432_134 (by decide))).2.2.2 (by decide) (by decide) ?_
      show Steps p.tables e below (T130.setTop (mkF m 500 #[.val (.int eb'), .val (.int wb'), .val (.int ct'), .val (.int jk'), .val (.int n'), .val (.int m'), .val (.int k'), .val (.int sg'), .val (.int o'), .val (.ref b14), .val (.ref b24), .val (.ref b58), .val (.ref b76), .val (.ref b90), .val (.long (own_off dd rr n')), .second, .val (.int lo), .unset, .unset] [])) _
      refine XS.iload X130.here hx rfl (hb hby at_500) rfl ?_
      show Steps p.tables e below (T130.setTop (mkF m 502 #[.val (.int eb'), .val (.int wb'), .val (.int ct'), .val (.int jk'), .val (.int n'), .val (.int m'), .val (.int k'), .val (.int sg'), .val (.int o'), .val (.ref b14), .val (.ref b24), .val (.ref b58), .val (.ref b76), .val (.ref b90), .val (.long (own_off dd rr n')), .second, .val (.int lo), .unset, .unset] [(.int lo)])) _
      refine XS.iconst X130.here hx rfl (hb hby at_502) ?_
      show Steps p.tables e below (T130.setTop (mkF m 503 #[.val (.int eb'), .val (.int wb'), .val (.int ct'), .val (.int jk'), .val (.int n'), .val (.int m'), .val (.int k'), .val (.int sg'), .val (.int o'), .val (.ref b14), .val (.ref b24), .val (.ref b58), .val (.ref b76), .val (.ref b90), .val (.long (own_off dd rr n')), .second, .val (.int lo), .unset, .unset] [(.int (3 : Int32)), (.int lo)])) _
      refine XS.icmpYes X130.here hx rfl (pc0 := 503) (pc' := 525) rfl (hb hby at_503) rfl (flt (own_mono hc432_134 (by decide))).2.2.2 (by decide) (by decide) ?_
      show Steps p.tables e below (T130.setTop (mkF m 525 #[.val (.int eb'), .val (.int wb'), .val (.int ct'), .val (.int jk'), .val (.int n'), .val (.int m'), .val (.int k'), .val (.int sg'), .val (.int o'), .val (.ref b14), .val (.ref b24), .val (.ref b58), .val (.ref b76), .val (.ref b90), .val (.long (own_off dd rr n')), .second, .val (.int lo), .unset, .unset] [])) _
      refine XS.iload X130.here hx rfl (hb hby at_525) rfl ?_
      show Steps p.tables e below (T130.setTop (mkF m 527 #[.val (.int eb'), .val (.int wb'), .val (.int ct'), .val (.int jk'), .val (.int n'), .val (.int m'), .val (.int k'), .val (.int sg'), .val (.int o'), .val (.ref b14), .val (.ref b24), .val (.ref b58), .val (.ref b76), .val (.ref b90), .val (.long (own_off dd rr n')), .second, .val (.int lo), .unset, .unset] [(.int m')])) _
      refine XS.iload X130.here hx rfl (hb hby at_527) rfl ?_
      exact kt
    by_cases hc529_166 : m' = n'
    · obtain ⟨fs, hr, hrun, hended, hW⟩ := X130.leaveW hS (by rw [hh130]; exact hk) (v := some (.int (1 : Int32))) (fun h => by rw [Bd.returns] at h; cases h)
      refine ⟨_, _, pre165 _ ?_, hrun, hended, _, _, rfl, ?_, hW.1, hW.2.1, hW.2.2.1, hW.2.2.2.mono (by decide) (by decide)⟩
      · show Steps p.tables e below (T130.setTop (mkF m 529 #[.val (.int eb'), .val (.int wb'), .val (.int ct'), .val (.int jk'), .val (.int n'), .val (.int m'), .val (.int k'), .val (.int sg'), .val (.int o'), .val (.ref b14), .val (.ref b24), .val (.ref b58), .val (.ref b76), .val (.ref b90), .val (.long (own_off dd rr n')), .second, .val (.int lo), .unset, .unset] [(.int n'), (.int m')])) _
        refine XS.icmpNo X130.here hx rfl (hb hby at_529) rfl (teq hc529_166).2 ?_
        show Steps p.tables e below (T130.setTop (mkF m 532 #[.val (.int eb'), .val (.int wb'), .val (.int ct'), .val (.int jk'), .val (.int n'), .val (.int m'), .val (.int k'), .val (.int sg'), .val (.int o'), .val (.ref b14), .val (.ref b24), .val (.ref b58), .val (.ref b76), .val (.ref b90), .val (.long (own_off dd rr n')), .second, .val (.int lo), .unset, .unset] [])) _
        refine X130.ldc2Long hx hown (mvT hZ (hw _ (List.mem_of_getElem? (i := 81) rfl))) (g := (mkF m 532 #[.val (.int eb'), .val (.int wb'), .val (.int ct'), .val (.int jk'), .val (.int n'), .val (.int m'), .val (.int k'), .val (.int sg'), .val (.int o'), .val (.ref b14), .val (.ref b24), .val (.ref b58), .val (.ref b76), .val (.ref b90), .val (.long (own_off dd rr n')), .second, .val (.int lo), .unset, .unset] [])) rfl (hb hby at_532) _ ?_
        show Steps p.tables e below (T130.setTop (mkF m 535 #[.val (.int eb'), .val (.int wb'), .val (.int ct'), .val (.int jk'), .val (.int n'), .val (.int m'), .val (.int k'), .val (.int sg'), .val (.int o'), .val (.ref b14), .val (.ref b24), .val (.ref b58), .val (.ref b76), .val (.ref b90), .val (.long (own_off dd rr n')), .second, .val (.int lo), .unset, .unset] [(.long (-1 : Int64))])) _
        refine XS.lstore X130.here hx rfl (hb hby at_535) rfl (l' := #[.val (.int eb'), .val (.int wb'), .val (.int ct'), .val (.int jk'), .val (.int n'), .val (.int m'), .val (.int k'), .val (.int sg'), .val (.int o'), .val (.ref b14), .val (.ref b24), .val (.ref b58), .val (.ref b76), .val (.ref b90), .val (.long (own_off dd rr n')), .second, .val (.int lo), .val (.long (-1 : Int64)), .second]) rfl ?_
        show Steps p.tables e below (T130.setTop (mkF m 537 #[.val (.int eb'), .val (.int wb'), .val (.int ct'), .val (.int jk'), .val (.int n'), .val (.int m'), .val (.int k'), .val (.int sg'), .val (.int o'), .val (.ref b14), .val (.ref b24), .val (.ref b58), .val (.ref b76), .val (.ref b90), .val (.long (own_off dd rr n')), .second, .val (.int lo), .val (.long (-1 : Int64)), .second] [])) _
        refine XS.goto X130.here hx rfl (pc0 := 537) (pc' := 545) rfl (hb hby at_537) (by decide) (by decide) ?_
        show Steps p.tables e below (T130.setTop (mkF m 545 #[.val (.int eb'), .val (.int wb'), .val (.int ct'), .val (.int jk'), .val (.int n'), .val (.int m'), .val (.int k'), .val (.int sg'), .val (.int o'), .val (.ref b14), .val (.ref b24), .val (.ref b58), .val (.ref b76), .val (.ref b90), .val (.long (own_off dd rr n')), .second, .val (.int lo), .val (.long (-1 : Int64)), .second] [])) _
        refine XS.lload X130.here hx rfl (hb hby at_545) rfl ?_
        show Steps p.tables e below (T130.setTop (mkF m 547 #[.val (.int eb'), .val (.int wb'), .val (.int ct'), .val (.int jk'), .val (.int n'), .val (.int m'), .val (.int k'), .val (.int sg'), .val (.int o'), .val (.ref b14), .val (.ref b24), .val (.ref b58), .val (.ref b76), .val (.ref b90), .val (.long (own_off dd rr n')), .second, .val (.int lo), .val (.long (-1 : Int64)), .second] [(.long (own_off dd rr n'))])) _
        refine XS.lload X130.here hx rfl (hb hby at_547) rfl ?_
        show Steps p.tables e below (T130.setTop (mkF m 549 #[.val (.int eb'), .val (.int wb'), .val (.int ct'), .val (.int jk'), .val (.int n'), .val (.int m'), .val (.int k'), .val (.int sg'), .val (.int o'), .val (.ref b14), .val (.ref b24), .val (.ref b58), .val (.ref b76), .val (.ref b90), .val (.long (own_off dd rr n')), .second, .val (.int lo), .val (.long (-1 : Int64)), .second] [(.long (-1 : Int64)), (.long (own_off dd rr n'))])) _
        refine XS.lcmp X130.here hx rfl (hb hby at_549) rfl ?_
        show Steps p.tables e below (T130.setTop (mkF m 550 #[.val (.int eb'), .val (.int wb'), .val (.int ct'), .val (.int jk'), .val (.int n'), .val (.int m'), .val (.int k'), .val (.int sg'), .val (.int o'), .val (.ref b14), .val (.ref b24), .val (.ref b58), .val (.ref b76), .val (.ref b90), .val (.long (own_off dd rr n')), .second, .val (.int lo), .val (.long (-1 : Int64)), .second] [(.int (lcmpW (own_off dd rr n') (-1 : Int64)))])) _
        refine XS.ifNo X130.here hx rfl (hb hby at_550) rfl ((if0 _ _).trans (teq ((lw_eq (own_off dd rr n') (-1 : Int64)).mpr (own_finB1 fw fe N M dd rr n' m' lo hdd hrr hM hN hlo (own_hq (J := (0 : Int32)) (j := 0) rfl hc432_134 own_e0) hc529_166))).2) ?_
        show Steps p.tables e below (T130.setTop (mkF m 553 #[.val (.int eb'), .val (.int wb'), .val (.int ct'), .val (.int jk'), .val (.int n'), .val (.int m'), .val (.int k'), .val (.int sg'), .val (.int o'), .val (.ref b14), .val (.ref b24), .val (.ref b58), .val (.ref b76), .val (.ref b90), .val (.long (own_off dd rr n')), .second, .val (.int lo), .val (.long (-1 : Int64)), .second] [])) _
        refine XS.iconst X130.here hx rfl (hb hby at_553) ?_
        show Steps p.tables e below (T130.setTop (mkF m 554 #[.val (.int eb'), .val (.int wb'), .val (.int ct'), .val (.int jk'), .val (.int n'), .val (.int m'), .val (.int k'), .val (.int sg'), .val (.int o'), .val (.ref b14), .val (.ref b24), .val (.ref b58), .val (.ref b76), .val (.ref b90), .val (.long (own_off dd rr n')), .second, .val (.int lo), .val (.long (-1 : Int64)), .second] [(.int (1 : Int32))])) _
        refine XS.goto X130.here hx rfl (pc0 := 554) (pc' := 558) rfl (hb hby at_554) (by decide) (by decide) ?_
        show Steps p.tables e below (T130.setTop (mkF m 558 #[.val (.int eb'), .val (.int wb'), .val (.int ct'), .val (.int jk'), .val (.int n'), .val (.int m'), .val (.int k'), .val (.int sg'), .val (.int o'), .val (.ref b14), .val (.ref b24), .val (.ref b58), .val (.ref b76), .val (.ref b90), .val (.long (own_off dd rr n')), .second, .val (.int lo), .val (.long (-1 : Int64)), .second] [(.int (1 : Int32))])) _
        exact retN X130 hx (t := .boolean) Bd.returns (by simp) (hb hby at_558) hr
      · show Q0 Z eb' wb' ct' jk' h0 n0 _ T130.heap _
        rw [hh130]
        exact ⟨rfl, N130⟩
    · obtain ⟨fs, hr, hrun, hended, hW⟩ := X130.leaveW hS (by rw [hh130]; exact hk) (v := some (.int (1 : Int32))) (fun h => by rw [Bd.returns] at h; cases h)
      refine ⟨_, _, pre165 _ ?_, hrun, hended, _, _, rfl, ?_, hW.1, hW.2.1, hW.2.2.1, hW.2.2.2.mono (by decide) (by decide)⟩
      · show Steps p.tables e below (T130.setTop (mkF m 529 #[.val (.int eb'), .val (.int wb'), .val (.int ct'), .val (.int jk'), .val (.int n'), .val (.int m'), .val (.int k'), .val (.int sg'), .val (.int o'), .val (.ref b14), .val (.ref b24), .val (.ref b58), .val (.ref b76), .val (.ref b90), .val (.long (own_off dd rr n')), .second, .val (.int lo), .unset, .unset] [(.int n'), (.int m')])) _
        refine XS.icmpYes X130.here hx rfl (pc0 := 529) (pc' := 540) rfl (hb hby at_529) rfl (feq hc529_166).2 (by decide) (by decide) ?_
        show Steps p.tables e below (T130.setTop (mkF m 540 #[.val (.int eb'), .val (.int wb'), .val (.int ct'), .val (.int jk'), .val (.int n'), .val (.int m'), .val (.int k'), .val (.int sg'), .val (.int o'), .val (.ref b14), .val (.ref b24), .val (.ref b58), .val (.ref b76), .val (.ref b90), .val (.long (own_off dd rr n')), .second, .val (.int lo), .unset, .unset] [])) _
        refine XS.iload X130.here hx rfl (hb hby at_540) rfl ?_
        show Steps p.tables e below (T130.setTop (mkF m 542 #[.val (.int eb'), .val (.int wb'), .val (.int ct'), .val (.int jk'), .val (.int n'), .val (.int m'), .val (.int k'), .val (.int sg'), .val (.int o'), .val (.ref b14), .val (.ref b24), .val (.ref b58), .val (.ref b76), .val (.ref b90), .val (.long (own_off dd rr n')), .second, .val (.int lo), .unset, .unset] [(.int lo)])) _
        refine XS.i2l X130.here hx rfl (hb hby at_542) rfl ?_
        show Steps p.tables e below (T130.setTop (mkF m 543 #[.val (.int eb'), .val (.int wb'), .val (.int ct'), .val (.int jk'), .val (.int n'), .val (.int m'), .val (.int k'), .val (.int sg'), .val (.int o'), .val (.ref b14), .val (.ref b24), .val (.ref b58), .val (.ref b76), .val (.ref b90), .val (.long (own_off dd rr n')), .second, .val (.int lo), .unset, .unset] [(.long (lo.toInt64))])) _
        refine XS.lstore X130.here hx rfl (hb hby at_543) rfl (l' := #[.val (.int eb'), .val (.int wb'), .val (.int ct'), .val (.int jk'), .val (.int n'), .val (.int m'), .val (.int k'), .val (.int sg'), .val (.int o'), .val (.ref b14), .val (.ref b24), .val (.ref b58), .val (.ref b76), .val (.ref b90), .val (.long (own_off dd rr n')), .second, .val (.int lo), .val (.long (lo.toInt64)), .second]) rfl ?_
        show Steps p.tables e below (T130.setTop (mkF m 545 #[.val (.int eb'), .val (.int wb'), .val (.int ct'), .val (.int jk'), .val (.int n'), .val (.int m'), .val (.int k'), .val (.int sg'), .val (.int o'), .val (.ref b14), .val (.ref b24), .val (.ref b58), .val (.ref b76), .val (.ref b90), .val (.long (own_off dd rr n')), .second, .val (.int lo), .val (.long (lo.toInt64)), .second] [])) _
        refine XS.lload X130.here hx rfl (hb hby at_545) rfl ?_
        show Steps p.tables e below (T130.setTop (mkF m 547 #[.val (.int eb'), .val (.int wb'), .val (.int ct'), .val (.int jk'), .val (.int n'), .val (.int m'), .val (.int k'), .val (.int sg'), .val (.int o'), .val (.ref b14), .val (.ref b24), .val (.ref b58), .val (.ref b76), .val (.ref b90), .val (.long (own_off dd rr n')), .second, .val (.int lo), .val (.long (lo.toInt64)), .second] [(.long (own_off dd rr n'))])) _
        refine XS.lload X130.here hx rfl (hb hby at_547) rfl ?_
        show Steps p.tables e below (T130.setTop (mkF m 549 #[.val (.int eb'), .val (.int wb'), .val (.int ct'), .val (.int jk'), .val (.int n'), .val (.int m'), .val (.int k'), .val (.int sg'), .val (.int o'), .val (.ref b14), .val (.ref b24), .val (.ref b58), .val (.ref b76), .val (.ref b90), .val (.long (own_off dd rr n')), .second, .val (.int lo), .val (.long (lo.toInt64)), .second] [(.long (lo.toInt64)), (.long (own_off dd rr n'))])) _
        refine XS.lcmp X130.here hx rfl (hb hby at_549) rfl ?_
        show Steps p.tables e below (T130.setTop (mkF m 550 #[.val (.int eb'), .val (.int wb'), .val (.int ct'), .val (.int jk'), .val (.int n'), .val (.int m'), .val (.int k'), .val (.int sg'), .val (.int o'), .val (.ref b14), .val (.ref b24), .val (.ref b58), .val (.ref b76), .val (.ref b90), .val (.long (own_off dd rr n')), .second, .val (.int lo), .val (.long (lo.toInt64)), .second] [(.int (lcmpW (own_off dd rr n') (lo.toInt64)))])) _
        refine XS.ifNo X130.here hx rfl (hb hby at_550) rfl ((if0 _ _).trans (teq ((lw_eq (own_off dd rr n') (lo.toInt64)).mpr (own_finB2 fw fe N M dd rr n' m' lo hdd hrr hM hN hlo (own_hq (J := (0 : Int32)) (j := 0) rfl hc432_134 own_e0) hc529_166))).2) ?_
        show Steps p.tables e below (T130.setTop (mkF m 553 #[.val (.int eb'), .val (.int wb'), .val (.int ct'), .val (.int jk'), .val (.int n'), .val (.int m'), .val (.int k'), .val (.int sg'), .val (.int o'), .val (.ref b14), .val (.ref b24), .val (.ref b58), .val (.ref b76), .val (.ref b90), .val (.long (own_off dd rr n')), .second, .val (.int lo), .val (.long (lo.toInt64)), .second] [])) _
        refine XS.iconst X130.here hx rfl (hb hby at_553) ?_
        show Steps p.tables e below (T130.setTop (mkF m 554 #[.val (.int eb'), .val (.int wb'), .val (.int ct'), .val (.int jk'), .val (.int n'), .val (.int m'), .val (.int k'), .val (.int sg'), .val (.int o'), .val (.ref b14), .val (.ref b24), .val (.ref b58), .val (.ref b76), .val (.ref b90), .val (.long (own_off dd rr n')), .second, .val (.int lo), .val (.long (lo.toInt64)), .second] [(.int (1 : Int32))])) _
        refine XS.goto X130.here hx rfl (pc0 := 554) (pc' := 558) rfl (hb hby at_554) (by decide) (by decide) ?_
        show Steps p.tables e below (T130.setTop (mkF m 558 #[.val (.int eb'), .val (.int wb'), .val (.int ct'), .val (.int jk'), .val (.int n'), .val (.int m'), .val (.int k'), .val (.int sg'), .val (.int o'), .val (.ref b14), .val (.ref b24), .val (.ref b58), .val (.ref b76), .val (.ref b90), .val (.long (own_off dd rr n')), .second, .val (.int lo), .val (.long (lo.toInt64)), .second] [(.int (1 : Int32))])) _
        exact retN X130 hx (t := .boolean) Bd.returns (by simp) (hb hby at_558) hr
      · show Q0 Z eb' wb' ct' jk' h0 n0 _ T130.heap _
        rw [hh130]
        exact ⟨rfl, N130⟩
set_option maxRecDepth 65536 in
set_option maxHeartbeats 40000000 in
theorem comes_1 {Post : Tables → Env → Array Value → State → Outcome → State → Prop} (hpost : ∀ tb e args s v u, (limb_1_1.after args s (.returned v) u = true ∧ limb_1_2.after args s (.returned v) u = true ∧ True) → ReturnedEndW s (.returned v) u (Jvm.fieldLocs frame_1_writes args s ++ Jvm.arrayLocs frame_1_arrays args s ++ Jvm.staticLocs frame_1_statics s) 32 1152 → Post tb e args s (.returned v) u) :
    ArmFor flags0 classFile x code maxLocals ret World_1 tables_1 room_1 Calls_1 rest_1 Pre_1 Post := by
  intro l hfl _ _ p e ha hc hk s m args below hf hA hF happ hP
  obtain ⟨hcalls, hrest, hpre⟩ := hP
  obtain ⟨-, -, -, hnamed, -, -, -, hat⟩ := (Spec.applies_iff hf).mp happ
  obtain ⟨hg, hn⟩ := and_e (Cond.before_iff.mp (show (Jvm.Cond.and given_1 narrow_1).before args s = true from hpre))
  obtain ⟨hcount, gr0⟩ := and_e hg
  obtain ⟨ga0, gr1⟩ := and_e gr0
  obtain ⟨ga1, gr2⟩ := and_e gr1
  obtain ⟨ga2, ga3⟩ := and_e gr2
  obtain ⟨w0, w1, w2, w3, rfl⟩ : ∃ w0 w1 w2 w3 : Value, args = #[w0, w1, w2, w3] := by
    have hs : args.size = 4 := by simpa [Cond.value, given_1] using hcount
    obtain ⟨L⟩ := args
    match L, hs with
    | [w0, w1, w2, w3], _ => exact ⟨w0, w1, w2, w3, rfl⟩
  have hw := fun d (hd : d ∈ tables_1) => atoms_spec (ws := Jvm.Cond.code x code maxLocals ret :: tables_1) hat d (List.mem_cons_of_mem _ hd)
  have hfit : Fit s := fun {y c} hc i hi => by
    obtain ⟨ha, rfl⟩ := Array.getElem?_eq_some_iff.mp hc
    have q := List.all_eq_true.mp ((Array.all_eq_true_iff_forall_mem.mp hF) _ (Array.getElem_mem ha)) i (List.mem_range.mpr hi)
    simpa [Array.getElem?_eq_getElem hi] using q
  obtain ⟨i0, ei0⟩ := is_v ga0
  obtain rfl : w0 = (.int i0) := Option.some.inj ei0
  obtain ⟨i1, ei1⟩ := is_v ga1
  obtain rfl : w1 = (.int i1) := Option.some.inj ei1
  obtain ⟨i2, ei2⟩ := is_v ga2
  obtain rfl : w2 = (.int i2) := Option.some.inj ei2
  obtain ⟨i3, ei3⟩ := is_v ga3
  obtain rfl : w3 = (.int i3) := Option.some.inj ei3
  obtain ⟨n, o, h1, h2, h3, _, L, rfl, ⟨rfl, N⟩, hq⟩ := rm0 l s _ hw tables_1 i0 i1 i2 i3  s.heap s.heap.size (Nat.le_refl _)  p e ha hc hk s m _ below hf ((Spec.applies_iff_loose hf).mp happ).1 ⟨rfl, State.Warmed39.refl s, rfl⟩ trivial
  refine ⟨n, _, h1, h2, h3, hpost _ _ _ _ _ _ ⟨Cond.after_iff.mpr rfl, Cond.after_iff.mpr (eq_i res_at (Term.int_eval (1)) rfl), trivial⟩ ⟨hq.1, hq.2.1, hq.2.2.1, (hq.2.2.2.sift fun y hy => Or.inr (N y hy)).mono (by decide) (by decide)⟩⟩
theorem main_1_1 : Claimed_1_1 := comes_1 fun _ _ _ _ _ _ h hF => ⟨h.1, hF⟩
theorem main_1_2 : Claimed_1_2 := comes_1 fun _ _ _ _ _ _ h hF => ⟨h.2.1, hF⟩
end Jvm.Pilot.@@N@@
namespace Jvm.Pilot.@@N@@
open Jvm Jvm.ClassFile Sem Op Lib Jvm.Free Jvm.Stand Jvm.Pilot.@@N@@.Jvm.D
/-! MADE BY PROGRAM (witnessworld.py) out of the Statement's table words and the real class files: 23 classes; the members and pool entries that the words name. The judged class is class 1, her method 1. -/
namespace start1
open Jvm.ClassFile
def u (s : String) : CpInfo := .utf8 (stringToUtf16 s)
/-- a pool by its gaps: so many unusable entries, then the entry; so many at the end -/
def gap : Nat → List CpInfo → List CpInfo
  | 0, r => r
  | n + 1, r => .unusable :: gap n r
def poolList (es : List (Nat × CpInfo)) (last : Nat) : List CpInfo := es.foldr (fun e r => gap e.1 (e.2 :: r)) (gap last [])
def pool (es : List (Nat × CpInfo)) (last : Nat) : Array CpInfo := ⟨poolList es last⟩
def fileOf (pool : Array CpInfo) (this : Nat) (attrs : Array Attribute := #[]) (ms : Array MethodInfo := #[]) (fl : Nat := 33) (sup : Nat := 0) (ifs : Array Nat := #[]) (fds : Array FieldInfo := #[]) : ClassFile where
  minorVersion := 0
  majorVersion := 65
  constantPool := pool
  accessFlags := fl
  thisClass := this
  superClass := sup
  interfaces := ifs
  fields := fds
  methods := ms
  attributes := attrs
def plain (name : String) (sup : Option ClassId) : Class where
  name := name
  kind := .ordinary
  loader := none
  accessFlags := 33
  super := sup
  interfaces := #[]
  cf := none
  fields := #[]
  methods := #[]
  instanceTypes := #[]
  staticTypes := #[]
  resolved := #[]
  callSites := []
  init := .initialized
  statics := none
  mirror := none

def pool0 : Array CpInfo := pool [(5, u "<init>"), (0, u "()V"), (1, .class_ 10), (1, u "java/lang/Object")] 113

def k0c0 : Code := { maxStack := 0, maxLocals := 1, code := object_method_1_code, exceptionTable := #[], attributes := #[] }
def k0m0 : Method := { name := "<init>", desc := "()V", sig := { parameters := [], returnType := none }, accessFlags := 1, code := some k0c0 }
/-- java/lang/Object -/
def k0 : Class := { plain "java/lang/Object" none with
  accessFlags := 33
  interfaces := #[]
  cf := some (fileOf pool0 8 #[] #[{ accessFlags := 1, nameIndex := 5, descriptorIndex := 6, attributes := #[] }] 33 0 #[] #[])
  fields := #[]
  methods := #[k0m0]
  instanceTypes := #[]
  staticTypes := #[]
  resolved := Array.replicate 124 none
  statics := none }

def pool1 : Array CpInfo := pool [(2, .class_ 4), (1, u "java/lang/Object"), (0, u "<init>"), (0, u "()V"), (0, .methodref 8 9), (0, .class_ 10), (0, .nameAndType 11 12), (0, u "com/example/bytelace/bytelace/cli/FirstDifferenceOffsetPinLaw"), (0, u "pick"), (0, u "(IIIBI)B"), (0, .class_ 14), (0, u "com/example/bytelace/bytelace/cli/FirstDifference"), (0, .methodref 13 16), (0, .nameAndType 5 17), (0, u "([B)V"), (0, .methodref 13 19), (0, .nameAndType 20 21), (0, u "write"), (0, u "(I)V"), (0, .methodref 13 23), (0, .nameAndType 20 24), (0, u "([BII)V"), (0, .methodref 13 26), (0, .nameAndType 27 28), (0, u "offset"), (0, u "()J"), (0, .methodref 30 31), (0, .class_ 32), (0, .nameAndType 33 34), (0, u "java/lang/Math"), (0, u "min"), (0, u "(II)I"), (0, .long 2), (1, .long 3), (1, .long 18446744073709551615), (3, u "law"), (0, u "(IIII)Z")] 5

def k1m0 : Method := { name := "<init>", desc := "()V", sig := { parameters := [], returnType := none }, accessFlags := 1, code := none }
def k1c1 : Code := { maxStack := 7, maxLocals := 19, code := code, exceptionTable := #[], attributes := #[] }
def k1m1 : Method := { name := "law", desc := "(IIII)Z", sig := { parameters := [.int, .int, .int, .int], returnType := some .boolean }, accessFlags := 9, code := some k1c1 }
def k1c2 : Code := { maxStack := 3, maxLocals := 6, code := method_3_code, exceptionTable := #[], attributes := #[] }
def k1m2 : Method := { name := "pick", desc := "(IIIBI)B", sig := { parameters := [.int, .int, .int, .byte, .int], returnType := some .byte }, accessFlags := 10, code := some k1c2 }
/-- com/example/bytelace/bytelace/cli/FirstDifferenceOffsetPinLaw -/
def k1 : Class := { plain "com/example/bytelace/bytelace/cli/FirstDifferenceOffsetPinLaw" (some 0) with
  accessFlags := 49
  interfaces := #[]
  cf := some (fileOf pool1 8 #[] #[{ accessFlags := 1, nameIndex := 5, descriptorIndex := 6, attributes := #[] }, { accessFlags := 9, nameIndex := 43, descriptorIndex := 44, attributes := #[] }, { accessFlags := 10, nameIndex := 11, descriptorIndex := 12, attributes := #[] }] 49 2 #[] #[])
  fields := #[]
  methods := #[k1m0, k1m1, k1m2]
  instanceTypes := #[]
  staticTypes := #[]
  resolved := Array.replicate 50 none
  statics := none }

def pool2 : Array CpInfo := pool [(1, .class_ 2), (0, u "java/lang/AutoCloseable"), (0, .class_ 4), (0, u "java/lang/Object")] 7

/-- java/lang/AutoCloseable -/
def k2 : Class := { plain "java/lang/AutoCloseable" (some 0) with
  accessFlags := 1537
  interfaces := #[]
  cf := some (fileOf pool2 1 #[] #[] 1537 3 #[] #[])
  fields := #[]
  methods := #[]
  instanceTypes := #[]
  staticTypes := #[]
  resolved := Array.replicate 12 none
  statics := none }

def pool3 : Array CpInfo := pool [(1, .class_ 2), (0, u "java/io/Closeable"), (0, .class_ 4), (0, u "java/lang/Object"), (0, .class_ 6), (0, u "java/lang/AutoCloseable")] 7

/-- java/io/Closeable -/
def k3 : Class := { plain "java/io/Closeable" (some 0) with
  accessFlags := 1537
  interfaces := #[2]
  cf := some (fileOf pool3 1 #[] #[] 1537 3 #[5] #[])
  fields := #[]
  methods := #[]
  instanceTypes := #[]
  staticTypes := #[]
  resolved := Array.replicate 14 none
  statics := none }

def pool4 : Array CpInfo := pool [(1, .class_ 2), (0, u "java/io/Flushable"), (0, .class_ 4), (0, u "java/lang/Object")] 7

/-- java/io/Flushable -/
def k4 : Class := { plain "java/io/Flushable" (some 0) with
  accessFlags := 1537
  interfaces := #[]
  cf := some (fileOf pool4 1 #[] #[] 1537 3 #[] #[])
  fields := #[]
  methods := #[]
  instanceTypes := #[]
  staticTypes := #[]
  resolved := Array.replicate 12 none
  statics := none }

def pool5 : Array CpInfo := pool [(1, .methodref 2 3), (0, .class_ 4), (0, .nameAndType 5 6), (0, u "java/lang/Object"), (0, u "<init>"), (0, u "()V"), (0, .class_ 8), (0, u "java/io/OutputStream$1"), (2, .class_ 13), (1, u "java/io/OutputStream"), (11, .class_ 26), (0, u "java/io/Closeable"), (0, .class_ 28), (0, u "java/io/Flushable")] 24

def k5c0 : Code := { maxStack := 1, maxLocals := 1, code := jdk_2038_method_1_code, exceptionTable := #[], attributes := #[] }
def k5m0 : Method := { name := "<init>", desc := "()V", sig := { parameters := [], returnType := none }, accessFlags := 1, code := some k5c0 }
/-- java/io/OutputStream -/
def k5 : Class := { plain "java/io/OutputStream" (some 0) with
  accessFlags := 1057
  interfaces := #[3, 4]
  cf := some (fileOf pool5 11 #[.nestMembers #[7]] #[{ accessFlags := 1, nameIndex := 5, descriptorIndex := 6, attributes := #[] }] 1057 2 #[25, 27] #[])
  fields := #[]
  methods := #[k5m0]
  instanceTypes := #[]
  staticTypes := #[]
  resolved := Array.replicate 53 none
  statics := none }

def pool6 : Array CpInfo := pool [(1, .methodref 2 3), (0, .class_ 4), (0, .nameAndType 5 6), (0, u "java/io/OutputStream"), (0, u "<init>"), (0, u "()V"), (0, .long 18446744073709551615), (1, .fieldref 10 11), (0, .class_ 12), (0, .nameAndType 13 14), (0, u "com/example/bytelace/bytelace/cli/FirstDifference"), (0, u "difference"), (0, u "J"), (0, .string 16), (0, u "expected"), (0, .methodref 18 19), (0, .class_ 20), (0, .nameAndType 21 22), (0, u "java/util/Objects"), (0, u "requireNonNull"), (0, u "(Ljava/lang/Object;Ljava/lang/String;)Ljava/lang/Object;"), (0, .class_ 24), (0, u "[B"), (0, .fieldref 10 26), (0, .nameAndType 16 24), (0, .methodref 10 28), (0, .nameAndType 29 30), (0, u "write"), (0, u "([BII)V"), (0, .methodref 18 32), (0, .nameAndType 33 34), (0, u "checkFromIndexSize"), (0, u "(III)I"), (0, .fieldref 10 36), (0, .nameAndType 37 14), (0, u "written"), (0, .methodref 39 40), (0, .class_ 41), (0, .nameAndType 42 43), (0, u "java/lang/Math"), (0, u "min"), (0, u "(JJ)J"), (0, .methodref 45 46), (0, .class_ 47), (0, .nameAndType 48 49), (0, u "java/util/Arrays"), (0, u "mismatch"), (0, u "([BII[BII)I"), (0, u "([B)V"), (2, u "(I)V"), (1, u "offset"), (0, u "()J")] 2

def k6c0 : Code := { maxStack := 3, maxLocals := 2, code := prog_2_method_1_code, exceptionTable := #[], attributes := #[] }
def k6m0 : Method := { name := "<init>", desc := "([B)V", sig := { parameters := [(.array .byte)], returnType := none }, accessFlags := 0, code := some k6c0 }
def k6c1 : Code := { maxStack := 5, maxLocals := 2, code := prog_2_method_2_code, exceptionTable := #[], attributes := #[] }
def k6m1 : Method := { name := "write", desc := "(I)V", sig := { parameters := [.int], returnType := none }, accessFlags := 1, code := some k6c1 }
def k6c2 : Code := { maxStack := 6, maxLocals := 7, code := prog_2_method_3_code, exceptionTable := #[], attributes := #[] }
def k6m2 : Method := { name := "write", desc := "([BII)V", sig := { parameters := [(.array .byte), .int, .int], returnType := none }, accessFlags := 1, code := some k6c2 }
def k6c3 : Code := { maxStack := 4, maxLocals := 3, code := prog_2_method_4_code, exceptionTable := #[], attributes := #[] }
def k6m3 : Method := { name := "offset", desc := "()J", sig := { parameters := [], returnType := some .long }, accessFlags := 0, code := some k6c3 }
/-- com/example/bytelace/bytelace/cli/FirstDifference -/
def k6 : Class := { plain "com/example/bytelace/bytelace/cli/FirstDifference" (some 5) with
  accessFlags := 48
  interfaces := #[]
  cf := some (fileOf pool6 10 #[] #[{ accessFlags := 0, nameIndex := 5, descriptorIndex := 50, attributes := #[] }, { accessFlags := 1, nameIndex := 29, descriptorIndex := 53, attributes := #[] }, { accessFlags := 1, nameIndex := 29, descriptorIndex := 30, attributes := #[] }, { accessFlags := 0, nameIndex := 55, descriptorIndex := 56, attributes := #[] }] 48 2 #[] #[{ accessFlags := 18, nameIndex := 16, descriptorIndex := 24, attributes := #[] }, { accessFlags := 2, nameIndex := 37, descriptorIndex := 14, attributes := #[] }, { accessFlags := 2, nameIndex := 13, descriptorIndex := 14, attributes := #[] }])
  fields := #[{ name := "expected", type := (.array .byte), accessFlags := 18, slot := 0, constantValue := 0 }, { name := "written", type := .long, accessFlags := 2, slot := 1, constantValue := 0 }, { name := "difference", type := .long, accessFlags := 2, slot := 2, constantValue := 0 }]
  methods := #[k6m0, k6m1, k6m2, k6m3]
  instanceTypes := #[(.array .byte), .long, .long]
  staticTypes := #[]
  resolved := Array.replicate 59 none
  statics := none }

def pool7 : Array CpInfo := pool [(1, .class_ 2), (0, u "java/io/Serializable"), (0, .class_ 4), (0, u "java/lang/Object")] 2

/-- java/io/Serializable -/
def k7 : Class := { plain "java/io/Serializable" (some 0) with
  accessFlags := 1537
  interfaces := #[]
  cf := some (fileOf pool7 1 #[] #[] 1537 3 #[] #[])
  fields := #[]
  methods := #[]
  instanceTypes := #[]
  staticTypes := #[]
  resolved := Array.replicate 7 none
  statics := none }

def pool8 : Array CpInfo := pool [(1, .class_ 2), (0, u "java/lang/Comparable"), (0, .class_ 4), (0, u "java/lang/Object")] 7

/-- java/lang/Comparable -/
def k8 : Class := { plain "java/lang/Comparable" (some 0) with
  accessFlags := 1537
  interfaces := #[]
  cf := some (fileOf pool8 1 #[] #[] 1537 3 #[] #[])
  fields := #[]
  methods := #[]
  instanceTypes := #[]
  staticTypes := #[]
  resolved := Array.replicate 12 none
  statics := none }

def pool9 : Array CpInfo := pool [(2, .class_ 4), (1, u "java/lang/CharSequence"), (42, .class_ 48), (0, u "java/lang/CharSequence$1CodePointIterator"), (10, .class_ 60), (0, u "java/lang/CharSequence$1CharIterator"), (5, .class_ 67), (0, u "java/lang/Object")] 63

/-- java/lang/CharSequence -/
def k9 : Class := { plain "java/lang/CharSequence" (some 0) with
  accessFlags := 1537
  interfaces := #[]
  cf := some (fileOf pool9 2 #[.nestMembers #[47, 59]] #[] 1537 66 #[] #[])
  fields := #[]
  methods := #[]
  instanceTypes := #[]
  staticTypes := #[]
  resolved := Array.replicate 131 none
  statics := none }

def pool10 : Array CpInfo := pool [(1, .class_ 2), (0, u "java/lang/constant/Constable"), (0, .class_ 4), (0, u "java/lang/Object")] 6

/-- java/lang/constant/Constable -/
def k10 : Class := { plain "java/lang/constant/Constable" (some 0) with
  accessFlags := 1537
  interfaces := #[]
  cf := some (fileOf pool10 1 #[] #[] 1537 3 #[] #[])
  fields := #[]
  methods := #[]
  instanceTypes := #[]
  staticTypes := #[]
  resolved := Array.replicate 11 none
  statics := none }

def pool11 : Array CpInfo := pool [(1, .class_ 2), (0, u "java/lang/constant/ConstantDesc"), (0, .class_ 4), (0, u "java/lang/Object")] 32

/-- java/lang/constant/ConstantDesc -/
def k11 : Class := { plain "java/lang/constant/ConstantDesc" (some 0) with
  accessFlags := 1537
  interfaces := #[]
  cf := some (fileOf pool11 1 #[] #[] 1537 3 #[] #[])
  fields := #[]
  methods := #[]
  instanceTypes := #[]
  staticTypes := #[]
  resolved := Array.replicate 37 none
  statics := none }

def pool12 : Array CpInfo := pool [(2, .class_ 4), (1, u "java/lang/Object"), (0, u "<init>"), (0, u "()V"), (3, .class_ 12), (1, u "java/lang/String"), (0, u "value"), (0, u "[B"), (2, u "coder"), (0, u "B"), (2, u "hash"), (0, u "I"), (2, u "hashIsZero"), (0, u "Z"), (13, u "COMPACT_STRINGS"), (534, .class_ 576), (0, u "java/lang/CharSequence"), (22, u "CASE_INSENSITIVE_ORDER"), (0, u "Ljava/util/Comparator;"), (500, u "serialPersistentFields"), (0, u "[Ljava/io/ObjectStreamField;"), (0, .class_ 1104), (0, u "java/lang/String$CaseInsensitiveComparator"), (1, .class_ 1107), (0, u "java/io/Serializable"), (0, .class_ 1109), (0, u "java/lang/Comparable"), (0, .class_ 1111), (0, u "java/lang/constant/Constable"), (0, .class_ 1113), (0, u "java/lang/constant/ConstantDesc"), (2, u "serialVersionUID"), (0, u "J"), (3, u "REPL"), (0, u "C"), (2, u "LATIN1"), (1, u "UTF16")] 323

def k12m0 : Method := { name := "<init>", desc := "()V", sig := { parameters := [], returnType := none }, accessFlags := 1, code := none }
/-- java/lang/String -/
def k12 : Class := { plain "java/lang/String" (some 0) with
  accessFlags := 49
  interfaces := #[7, 8, 9, 10, 11]
  cf := some (fileOf pool12 10 #[.nestMembers #[1103]] #[{ accessFlags := 1, nameIndex := 5, descriptorIndex := 6, attributes := #[] }] 49 2 #[1106, 1108, 575, 1110, 1112] #[{ accessFlags := 18, nameIndex := 13, descriptorIndex := 14, attributes := #[] }, { accessFlags := 18, nameIndex := 17, descriptorIndex := 18, attributes := #[] }, { accessFlags := 2, nameIndex := 21, descriptorIndex := 22, attributes := #[] }, { accessFlags := 2, nameIndex := 25, descriptorIndex := 26, attributes := #[] }, { accessFlags := 26, nameIndex := 1116, descriptorIndex := 1117, attributes := #[] }, { accessFlags := 24, nameIndex := 40, descriptorIndex := 26, attributes := #[] }, { accessFlags := 26, nameIndex := 1101, descriptorIndex := 1102, attributes := #[] }, { accessFlags := 26, nameIndex := 1121, descriptorIndex := 1122, attributes := #[] }, { accessFlags := 25, nameIndex := 599, descriptorIndex := 600, attributes := #[] }, { accessFlags := 24, nameIndex := 1125, descriptorIndex := 18, attributes := #[] }, { accessFlags := 24, nameIndex := 1127, descriptorIndex := 18, attributes := #[] }])
  fields := #[{ name := "value", type := (.array .byte), accessFlags := 18, slot := 0, constantValue := 0 }, { name := "coder", type := .byte, accessFlags := 18, slot := 1, constantValue := 0 }, { name := "hash", type := .int, accessFlags := 2, slot := 2, constantValue := 0 }, { name := "hashIsZero", type := .boolean, accessFlags := 2, slot := 3, constantValue := 0 }, { name := "serialVersionUID", type := .long, accessFlags := 26, slot := 0, constantValue := 0 }, { name := "COMPACT_STRINGS", type := .boolean, accessFlags := 24, slot := 1, constantValue := 0 }, { name := "serialPersistentFields", type := (.array (.object "java/io/ObjectStreamField")), accessFlags := 26, slot := 2, constantValue := 0 }, { name := "REPL", type := .char, accessFlags := 26, slot := 3, constantValue := 0 }, { name := "CASE_INSENSITIVE_ORDER", type := (.object "java/util/Comparator"), accessFlags := 25, slot := 4, constantValue := 0 }, { name := "LATIN1", type := .byte, accessFlags := 24, slot := 5, constantValue := 0 }, { name := "UTF16", type := .byte, accessFlags := 24, slot := 6, constantValue := 0 }]
  methods := #[k12m0]
  instanceTypes := #[(.array .byte), .byte, .int, .boolean]
  staticTypes := #[.long, .boolean, (.array (.object "java/io/ObjectStreamField")), .char, (.object "java/util/Comparator"), .byte, .byte]
  resolved := Array.replicate 1451 none
  statics := none }

def pool13 : Array CpInfo := pool [(2, .class_ 4), (1, u "java/lang/Object"), (0, u "<init>"), (0, u "()V"), (35, .class_ 44), (1, u "java/util/Objects"), (0, u "requireNonNull"), (48, u "(Ljava/lang/Object;Ljava/lang/String;)Ljava/lang/Object;"), (11, .class_ 108), (1, u "jdk/internal/util/Preconditions"), (5, u "(IIILjava/util/function/BiFunction;)I"), (0, .methodref 106 116), (0, .nameAndType 117 114), (0, u "checkFromIndexSize"), (57, u "(III)I")] 8

def k13m0 : Method := { name := "<init>", desc := "()V", sig := { parameters := [], returnType := none }, accessFlags := 2, code := none }
def k13c1 : Code := { maxStack := 3, maxLocals := 2, code := jdk_31_method_11_code, exceptionTable := #[], attributes := #[] }
def k13m1 : Method := { name := "requireNonNull", desc := "(Ljava/lang/Object;Ljava/lang/String;)Ljava/lang/Object;", sig := { parameters := [(.object "java/lang/Object"), (.object "java/lang/String")], returnType := some (.object "java/lang/Object") }, accessFlags := 9, code := some k13c1 }
def k13c2 : Code := { maxStack := 4, maxLocals := 3, code := jdk_31_method_19_code, exceptionTable := #[], attributes := #[] }
def k13m2 : Method := { name := "checkFromIndexSize", desc := "(III)I", sig := { parameters := [.int, .int, .int], returnType := some .int }, accessFlags := 9, code := some k13c2 }
/-- java/util/Objects -/
def k13 : Class := { plain "java/util/Objects" (some 0) with
  accessFlags := 49
  interfaces := #[]
  cf := some (fileOf pool13 42 #[] #[{ accessFlags := 2, nameIndex := 5, descriptorIndex := 6, attributes := #[] }, { accessFlags := 9, nameIndex := 45, descriptorIndex := 94, attributes := #[] }, { accessFlags := 9, nameIndex := 117, descriptorIndex := 175, attributes := #[] }] 49 2 #[] #[])
  fields := #[]
  methods := #[k13m0, k13m1, k13m2]
  instanceTypes := #[]
  staticTypes := #[]
  resolved := Array.replicate 184 none
  statics := none }

def pool14 : Array CpInfo := pool [(2, .class_ 4), (1, u "java/lang/Object"), (0, u "<init>"), (0, u "()V"), (17, .class_ 26), (1, u "jdk/internal/util/Preconditions"), (22, u "checkFromIndexSize"), (5, .class_ 56), (0, u "jdk/internal/util/Preconditions$4"), (57, .class_ 115), (0, u "jdk/internal/util/Preconditions$1"), (7, u "SIOOBE_FORMATTER"), (0, u "Ljava/util/function/BiFunction;"), (0, .class_ 126), (0, u "jdk/internal/util/Preconditions$2"), (3, u "AIOOBE_FORMATTER"), (0, .class_ 132), (0, u "jdk/internal/util/Preconditions$3"), (3, u "IOOBE_FORMATTER"), (46, u "(IIILjava/util/function/BiFunction;)I")] 10

def k14m0 : Method := { name := "<init>", desc := "()V", sig := { parameters := [], returnType := none }, accessFlags := 1, code := none }
def k14c1 : Code := { maxStack := 4, maxLocals := 4, code := jdk_41_method_13_code, exceptionTable := #[], attributes := #[] }
def k14m1 : Method := { name := "checkFromIndexSize", desc := "(IIILjava/util/function/BiFunction;)I", sig := { parameters := [.int, .int, .int, (.object "java/util/function/BiFunction")], returnType := some .int }, accessFlags := 9, code := some k14c1 }
/-- jdk/internal/util/Preconditions -/
def k14 : Class := { plain "jdk/internal/util/Preconditions" (some 0) with
  accessFlags := 33
  interfaces := #[]
  cf := some (fileOf pool14 24 #[.nestMembers #[55, 131, 125, 114]] #[{ accessFlags := 1, nameIndex := 5, descriptorIndex := 6, attributes := #[] }, { accessFlags := 9, nameIndex := 49, descriptorIndex := 183, attributes := #[] }] 33 2 #[] #[{ accessFlags := 25, nameIndex := 123, descriptorIndex := 124, attributes := #[] }, { accessFlags := 25, nameIndex := 130, descriptorIndex := 124, attributes := #[] }, { accessFlags := 25, nameIndex := 136, descriptorIndex := 124, attributes := #[] }])
  fields := #[{ name := "SIOOBE_FORMATTER", type := (.object "java/util/function/BiFunction"), accessFlags := 25, slot := 0, constantValue := 0 }, { name := "AIOOBE_FORMATTER", type := (.object "java/util/function/BiFunction"), accessFlags := 25, slot := 1, constantValue := 0 }, { name := "IOOBE_FORMATTER", type := (.object "java/util/function/BiFunction"), accessFlags := 25, slot := 2, constantValue := 0 }]
  methods := #[k14m0, k14m1]
  instanceTypes := #[]
  staticTypes := #[(.object "java/util/function/BiFunction"), (.object "java/util/function/BiFunction"), (.object "java/util/function/BiFunction")]
  resolved := Array.replicate 194 none
  statics := none }

def pool15 : Array CpInfo := pool [(1, .class_ 2), (0, u "java/lang/Math"), (1, .class_ 6), (1, u "java/lang/Object"), (0, u "<init>"), (0, u "()V"), (89, .class_ 100), (1, u "java/lang/Math$RandomNumberGeneratorHolder"), (20, u "(JJ)J"), (50, u "negativeZeroFloatBits"), (0, u "J"), (2, u "negativeZeroDoubleBits"), (24, u "min"), (43, u "$assertionsDisabled"), (0, u "Z"), (88, u "(II)I"), (2, u "twoToTheDoubleScaleDown"), (0, u "D"), (4, u "twoToTheDoubleScaleUp"), (9, u "E"), (3, u "PI"), (2, u "TAU"), (2, u "DEGREES_TO_RADIANS"), (0, u "RADIANS_TO_DEGREES")] 94

def k15m0 : Method := { name := "<init>", desc := "()V", sig := { parameters := [], returnType := none }, accessFlags := 2, code := none }
def k15c1 : Code := { maxStack := 2, maxLocals := 2, code := jdk_29_method_69_code, exceptionTable := #[], attributes := #[] }
def k15m1 : Method := { name := "min", desc := "(II)I", sig := { parameters := [.int, .int], returnType := some .int }, accessFlags := 9, code := some k15c1 }
def k15c2 : Code := { maxStack := 4, maxLocals := 4, code := jdk_29_method_70_code, exceptionTable := #[], attributes := #[] }
def k15m2 : Method := { name := "min", desc := "(JJ)J", sig := { parameters := [.long, .long], returnType := some .long }, accessFlags := 9, code := some k15c2 }
/-- java/lang/Math -/
def k15 : Class := { plain "java/lang/Math" (some 0) with
  accessFlags := 49
  interfaces := #[]
  cf := some (fileOf pool15 1 #[.nestMembers #[98]] #[{ accessFlags := 2, nameIndex := 7, descriptorIndex := 8, attributes := #[] }, { accessFlags := 9, nameIndex := 201, descriptorIndex := 335, attributes := #[] }, { accessFlags := 9, nameIndex := 201, descriptorIndex := 121, attributes := #[] }] 49 4 #[] #[{ accessFlags := 25, nameIndex := 354, descriptorIndex := 339, attributes := #[] }, { accessFlags := 25, nameIndex := 358, descriptorIndex := 339, attributes := #[] }, { accessFlags := 25, nameIndex := 361, descriptorIndex := 339, attributes := #[] }, { accessFlags := 26, nameIndex := 364, descriptorIndex := 339, attributes := #[] }, { accessFlags := 26, nameIndex := 365, descriptorIndex := 339, attributes := #[] }, { accessFlags := 26, nameIndex := 172, descriptorIndex := 173, attributes := #[] }, { accessFlags := 26, nameIndex := 176, descriptorIndex := 173, attributes := #[] }, { accessFlags := 8, nameIndex := 344, descriptorIndex := 339, attributes := #[] }, { accessFlags := 8, nameIndex := 338, descriptorIndex := 339, attributes := #[] }, { accessFlags := 4120, nameIndex := 245, descriptorIndex := 246, attributes := #[] }])
  fields := #[{ name := "E", type := .double, accessFlags := 25, slot := 0, constantValue := 0 }, { name := "PI", type := .double, accessFlags := 25, slot := 1, constantValue := 0 }, { name := "TAU", type := .double, accessFlags := 25, slot := 2, constantValue := 0 }, { name := "DEGREES_TO_RADIANS", type := .double, accessFlags := 26, slot := 3, constantValue := 0 }, { name := "RADIANS_TO_DEGREES", type := .double, accessFlags := 26, slot := 4, constantValue := 0 }, { name := "negativeZeroFloatBits", type := .long, accessFlags := 26, slot := 5, constantValue := 0 }, { name := "negativeZeroDoubleBits", type := .long, accessFlags := 26, slot := 6, constantValue := 0 }, { name := "twoToTheDoubleScaleUp", type := .double, accessFlags := 8, slot := 7, constantValue := 0 }, { name := "twoToTheDoubleScaleDown", type := .double, accessFlags := 8, slot := 8, constantValue := 0 }, { name := "$assertionsDisabled", type := .boolean, accessFlags := 4120, slot := 9, constantValue := 0 }]
  methods := #[k15m0, k15m1, k15m2]
  instanceTypes := #[]
  staticTypes := #[.double, .double, .double, .double, .double, .long, .long, .double, .double, .boolean]
  resolved := Array.replicate 460 none
  statics := none }

def pool16 : Array CpInfo := pool [(2, .class_ 4), (1, u "java/lang/Object"), (0, u "<init>"), (0, u "()V"), (6, .methodref 14 15), (0, .class_ 16), (0, .nameAndType 17 18), (0, u "java/util/Arrays"), (0, u "rangeCheck"), (0, u "(III)V"), (55, .class_ 76), (1, u "java/util/Arrays$NaturalOrder"), (36, .class_ 115), (1, u "java/util/Arrays$LegacyMergeSort"), (1, u "Z"), (128, .class_ 248), (1, u "jdk/internal/util/ArraysSupport"), (0, u "mismatch"), (25, .methodref 246 276), (0, .nameAndType 249 277), (0, u "([BI[BII)I"), (26, .methodref 305 306), (0, .class_ 307), (0, .nameAndType 308 309), (0, u "java/lang/Math"), (0, u "min"), (0, u "(II)I"), (65, .class_ 376), (0, u "java/util/Arrays$ArrayList"), (68, u "$assertionsDisabled"), (269, u "MIN_ARRAY_SORT_GRAN"), (0, u "I"), (2, u "INSERTIONSORT_THRESHOLD"), (217, u "([BII[BII)I"), (37, .class_ 976), (0, u "java/util/Arrays$ArrayItr")] 52

def k16m0 : Method := { name := "<init>", desc := "()V", sig := { parameters := [], returnType := none }, accessFlags := 2, code := none }
def k16c1 : Code := { maxStack := 4, maxLocals := 3, code := jdk_65_method_30_code, exceptionTable := #[], attributes := #[] }
def k16m1 : Method := { name := "rangeCheck", desc := "(III)V", sig := { parameters := [.int, .int, .int], returnType := none }, accessFlags := 8, code := some k16c1 }
def k16c2 : Code := { maxStack := 5, maxLocals := 10, code := jdk_65_method_228_code, exceptionTable := #[], attributes := #[] }
def k16m2 : Method := { name := "mismatch", desc := "([BII[BII)I", sig := { parameters := [(.array .byte), .int, .int, (.array .byte), .int, .int], returnType := some .int }, accessFlags := 9, code := some k16c2 }
/-- java/util/Arrays -/
def k16 : Class := { plain "java/util/Arrays" (some 0) with
  accessFlags := 49
  interfaces := #[]
  cf := some (fileOf pool16 14 #[.nestMembers #[975, 375, 113, 74]] #[{ accessFlags := 2, nameIndex := 5, descriptorIndex := 6, attributes := #[] }, { accessFlags := 8, nameIndex := 17, descriptorIndex := 18, attributes := #[] }, { accessFlags := 9, nameIndex := 249, descriptorIndex := 937, attributes := #[] }] 49 2 #[] #[{ accessFlags := 26, nameIndex := 715, descriptorIndex := 716, attributes := #[] }, { accessFlags := 26, nameIndex := 719, descriptorIndex := 716, attributes := #[] }, { accessFlags := 4120, nameIndex := 445, descriptorIndex := 117, attributes := #[] }])
  fields := #[{ name := "MIN_ARRAY_SORT_GRAN", type := .int, accessFlags := 26, slot := 0, constantValue := 0 }, { name := "INSERTIONSORT_THRESHOLD", type := .int, accessFlags := 26, slot := 1, constantValue := 0 }, { name := "$assertionsDisabled", type := .boolean, accessFlags := 4120, slot := 2, constantValue := 0 }]
  methods := #[k16m0, k16m1, k16m2]
  instanceTypes := #[]
  staticTypes := #[.int, .int, .boolean]
  resolved := Array.replicate 1029 none
  statics := none }

def pool17 : Array CpInfo := pool [(9, u "<init>"), (6, .class_ 18), (1, u "java/lang/Object"), (0, u "()V"), (1, .class_ 23), (1, u "jdk/internal/util/ArraysSupport"), (0, u "LOG2_ARRAY_LONG_INDEX_SCALE"), (0, u "I"), (2, u "U"), (0, u "Ljdk/internal/misc/Unsafe;"), (8, u "BIG_ENDIAN"), (0, u "Z"), (8, u "LOG2_BYTE_BIT_SIZE"), (4, u "LOG2_ARRAY_INT_INDEX_SCALE"), (54, u "JLA"), (0, u "Ljdk/internal/access/JavaLangAccess;"), (11, u "LOG2_ARRAY_BOOLEAN_INDEX_SCALE"), (9, u "LOG2_ARRAY_BYTE_INDEX_SCALE"), (5, u "LOG2_ARRAY_CHAR_INDEX_SCALE"), (5, u "LOG2_ARRAY_SHORT_INDEX_SCALE"), (5, u "mismatch"), (12, u "LOG2_ARRAY_FLOAT_INDEX_SCALE"), (24, u "LOG2_ARRAY_DOUBLE_INDEX_SCALE"), (89, u "T_BOOLEAN"), (2, u "T_CHAR"), (1, u "T_FLOAT"), (1, u "T_DOUBLE"), (1, u "T_BYTE"), (1, u "T_SHORT"), (1, u "T_INT"), (1, u "T_LONG"), (1, u "SOFT_MAX_ARRAY_LENGTH"), (42, u "([BI[BII)I")] 40

def k17m0 : Method := { name := "<init>", desc := "()V", sig := { parameters := [], returnType := none }, accessFlags := 2, code := none }
def k17c1 : Code := { maxStack := 8, maxLocals := 8, code := jdk_48_method_14_code, exceptionTable := #[], attributes := #[] }
def k17m1 : Method := { name := "mismatch", desc := "([BI[BII)I", sig := { parameters := [(.array .byte), .int, (.array .byte), .int, .int], returnType := some .int }, accessFlags := 9, code := some k17c1 }
/-- jdk/internal/util/ArraysSupport -/
def k17 : Class := { plain "jdk/internal/util/ArraysSupport" (some 0) with
  accessFlags := 33
  interfaces := #[]
  cf := some (fileOf pool17 21 #[] #[{ accessFlags := 2, nameIndex := 9, descriptorIndex := 19, attributes := #[] }, { accessFlags := 9, nameIndex := 149, descriptorIndex := 337, attributes := #[] }] 33 16 #[] #[{ accessFlags := 24, nameIndex := 28, descriptorIndex := 29, attributes := #[] }, { accessFlags := 26, nameIndex := 38, descriptorIndex := 39, attributes := #[] }, { accessFlags := 25, nameIndex := 121, descriptorIndex := 25, attributes := #[] }, { accessFlags := 25, nameIndex := 131, descriptorIndex := 25, attributes := #[] }, { accessFlags := 25, nameIndex := 137, descriptorIndex := 25, attributes := #[] }, { accessFlags := 25, nameIndex := 143, descriptorIndex := 25, attributes := #[] }, { accessFlags := 25, nameIndex := 53, descriptorIndex := 25, attributes := #[] }, { accessFlags := 25, nameIndex := 24, descriptorIndex := 25, attributes := #[] }, { accessFlags := 25, nameIndex := 162, descriptorIndex := 25, attributes := #[] }, { accessFlags := 25, nameIndex := 187, descriptorIndex := 25, attributes := #[] }, { accessFlags := 26, nameIndex := 48, descriptorIndex := 25, attributes := #[] }, { accessFlags := 25, nameIndex := 277, descriptorIndex := 25, attributes := #[] }, { accessFlags := 25, nameIndex := 280, descriptorIndex := 25, attributes := #[] }, { accessFlags := 25, nameIndex := 282, descriptorIndex := 25, attributes := #[] }, { accessFlags := 25, nameIndex := 284, descriptorIndex := 25, attributes := #[] }, { accessFlags := 25, nameIndex := 286, descriptorIndex := 25, attributes := #[] }, { accessFlags := 25, nameIndex := 288, descriptorIndex := 25, attributes := #[] }, { accessFlags := 25, nameIndex := 290, descriptorIndex := 25, attributes := #[] }, { accessFlags := 25, nameIndex := 292, descriptorIndex := 25, attributes := #[] }, { accessFlags := 26, nameIndex := 108, descriptorIndex := 109, attributes := #[] }, { accessFlags := 25, nameIndex := 294, descriptorIndex := 25, attributes := #[] }])
  fields := #[{ name := "U", type := (.object "jdk/internal/misc/Unsafe"), accessFlags := 24, slot := 0, constantValue := 0 }, { name := "BIG_ENDIAN", type := .boolean, accessFlags := 26, slot := 1, constantValue := 0 }, { name := "LOG2_ARRAY_BOOLEAN_INDEX_SCALE", type := .int, accessFlags := 25, slot := 2, constantValue := 0 }, { name := "LOG2_ARRAY_BYTE_INDEX_SCALE", type := .int, accessFlags := 25, slot := 3, constantValue := 0 }, { name := "LOG2_ARRAY_CHAR_INDEX_SCALE", type := .int, accessFlags := 25, slot := 4, constantValue := 0 }, { name := "LOG2_ARRAY_SHORT_INDEX_SCALE", type := .int, accessFlags := 25, slot := 5, constantValue := 0 }, { name := "LOG2_ARRAY_INT_INDEX_SCALE", type := .int, accessFlags := 25, slot := 6, constantValue := 0 }, { name := "LOG2_ARRAY_LONG_INDEX_SCALE", type := .int, accessFlags := 25, slot := 7, constantValue := 0 }, { name := "LOG2_ARRAY_FLOAT_INDEX_SCALE", type := .int, accessFlags := 25, slot := 8, constantValue := 0 }, { name := "LOG2_ARRAY_DOUBLE_INDEX_SCALE", type := .int, accessFlags := 25, slot := 9, constantValue := 0 }, { name := "LOG2_BYTE_BIT_SIZE", type := .int, accessFlags := 26, slot := 10, constantValue := 0 }, { name := "T_BOOLEAN", type := .int, accessFlags := 25, slot := 11, constantValue := 0 }, { name := "T_CHAR", type := .int, accessFlags := 25, slot := 12, constantValue := 0 }, { name := "T_FLOAT", type := .int, accessFlags := 25, slot := 13, constantValue := 0 }, { name := "T_DOUBLE", type := .int, accessFlags := 25, slot := 14, constantValue := 0 }, { name := "T_BYTE", type := .int, accessFlags := 25, slot := 15, constantValue := 0 }, { name := "T_SHORT", type := .int, accessFlags := 25, slot := 16, constantValue := 0 }, { name := "T_INT", type := .int, accessFlags := 25, slot := 17, constantValue := 0 }, { name := "T_LONG", type := .int, accessFlags := 25, slot := 18, constantValue := 0 }, { name := "JLA", type := (.object "jdk/internal/access/JavaLangAccess"), accessFlags := 26, slot := 19, constantValue := 0 }, { name := "SOFT_MAX_ARRAY_LENGTH", type := .int, accessFlags := 25, slot := 20, constantValue := 0 }]
  methods := #[k17m0, k17m1]
  instanceTypes := #[]
  staticTypes := #[(.object "jdk/internal/misc/Unsafe"), .boolean, .int, .int, .int, .int, .int, .int, .int, .int, .int, .int, .int, .int, .int, .int, .int, .int, .int, (.object "jdk/internal/access/JavaLangAccess"), .int]
  resolved := Array.replicate 378 none
  statics := none }

def pool18 : Array CpInfo := pool [(1, u "java/lang/Cloneable"), (0, .class_ 1), (0, u "java/lang/Object"), (0, .class_ 3)] 3

/-- java/lang/Cloneable -/
def k18 : Class := { plain "java/lang/Cloneable" (some 0) with
  accessFlags := 1537
  interfaces := #[]
  cf := some (fileOf pool18 2 #[] #[] 1537 4 #[] #[])
  fields := #[]
  methods := #[]
  instanceTypes := #[]
  staticTypes := #[]
  resolved := Array.replicate 8 none
  statics := none }

/-- the primitive byte -/
def k19 : Class := { plain "byte" none with kind := .primitive 'B', accessFlags := 0x411 }
/-- [B -/
def k20 : Class := { plain "[B" (some 0) with kind := .array 19 .byte, interfaces := #[18, 7], accessFlags := 1041 }

/-- the primitive int -/
def k21 : Class := { plain "int" none with kind := .primitive 'I', accessFlags := 0x411 }
/-- [I -/
def k22 : Class := { plain "[I" (some 0) with kind := .array 21 .int, interfaces := #[18, 7], accessFlags := 1041 }

def heap : Heap := #[]
def classes : Array Class := #[k0, k1, k2, k3, k4, k5, k6, k7, k8, k9, k10, k11, k12, k13, k14, k15, k16, k17, k18, k19, k20, k21, k22]
def interned : List (Array UInt16 × Addr) := []
def slotsUsed : Nat := 0
def theMethod : MethodId := ⟨1, 1⟩
def args0 : Array Value := #[.int 1, .int 2, .int 3, .int 4]
def aboutOver (below : List Frame) : State where
  vm := { classes := classes, interned := interned.toArray }
  heap := heap
  slotsUsed := slotsUsed
  threads := #[{ frames := .invoking theMethod args0 :: below }]
def below0 : List Frame := [.native { method := ⟨0, 0⟩, args := #[] }]
def about1 : State := aboutOver below0
def p0 : Program := .bare "" "" ""
def e0 : Env := launch0.env 0 0 0
theorem w_frames : about1.frames = Frame.invoking theMethod args0 :: below0 := rfl
set_option maxRecDepth 65536 in
theorem w_args : argsFit about1.vm theMethod args0 = true := by decide +kernel
set_option maxRecDepth 65536 in
theorem w_heap : heapFits about1 = true := by decide +kernel
set_option maxRecDepth 65536 in
theorem w_runnable : about1.curStatus? = some .runnable := by decide +kernel
set_option maxRecDepth 65536 in
theorem w_alone : about1.alone = true := by decide +kernel
set_option maxRecDepth 65536 in
theorem w_named : about1.methodNamed? x = some theMethod := by decide +kernel
set_option maxRecDepth 65536 in
theorem w_hears : about1.hears theMethod below0 = true := by decide +kernel
set_option maxRecDepth 65536 in
theorem w_ripe : about1.ripe theMethod args0 below0 = true := by decide +kernel
theorem w_running : about1.status = .running := rfl
set_option maxRecDepth 65536 in
theorem w_room : about1.hasRoom e0.platform room_1 = true :=
  launch0.hasRoom_least _ room_1 (by decide +kernel) (by decide +kernel) (by decide +kernel) (by decide +kernel) (by decide +kernel) (by decide +kernel)
theorem allAtoms_all (ts : List Jvm.Cond) (a : Array Jvm.Value) (st : Jvm.State) : (allAtoms ts).before a st = ts.all (fun c => c.before a st) := by
  induction ts with
  | nil => rfl
  | cons c t ih =>
    show (Jvm.Cond.and c (allAtoms t)).before a st = _
    rw [Jvm.Cond.before_and, ih, List.all_cons]
def words1 : List Jvm.Cond := Jvm.Cond.code x code maxLocals ret :: tables_1
/-- a 'code' word, met by the world's own term for the bytes: nothing is compared byte by byte -/
theorem code_word {y : MethodName} {bytes : ByteArray} {mx : Nat} {rt : Option FieldType} {a : Array Value} {s : State} {m : MethodId} {meth : Method} {c : Code} (h1 : s.methodNamed? y = some m) (h2 : s.vm.method? m = some meth) (h3 : meth.code = some c) (h4 : c.code = bytes)
    (h5 : (c.maxLocals == mx && c.exceptionTable.isEmpty && decide (c.maxStack ≤ mostOperands) && decide (meth.sig.returnType = rt) && !meth.locks && decide (parseMethodDescriptor y.desc = some meth.sig)) = true) : (Jvm.Cond.code y bytes mx rt).before a s = true := by
  simp only [Bool.and_eq_true, beq_iff_eq, Bool.not_eq_true', decide_eq_true_eq] at h5
  obtain ⟨⟨⟨⟨⟨g1, g2⟩, g3⟩, g4⟩, g5⟩, g6⟩ := h5
  simp [Cond.before, Cond.holds, Cond.value, h1, h2, h3, h4, g1, g2, g3, g4, g5, g6]
def isCode : Jvm.Cond → Bool
  | .code _ _ _ _ => true
  | _ => false
theorem all_split {L : List Jvm.Cond} {P : Jvm.Cond → Bool} (h1 : L.all (fun c => isCode c || P c) = true) (h2 : ∀ c ∈ L.filter isCode, P c = true) : L.all P = true := by
  refine List.all_eq_true.mpr fun c hc => ?_
  have h := List.all_eq_true.mp h1 c hc
  rcases Bool.eq_false_or_eq_true (isCode c) with hi | hi
  · exact h2 c (List.mem_filter.mpr ⟨hc, hi⟩)
  · simpa [hi] using h
set_option maxRecDepth 65536 in
theorem w_c0 : (Jvm.Cond.code x code maxLocals ret).before args0 about1 = true := code_word (m := ⟨1, 1⟩) (meth := k1m1) (c := k1c1) (by decide +kernel) rfl rfl rfl (by decide +kernel)
set_option maxRecDepth 65536 in
theorem w_c1 : (Jvm.Cond.code ({ cls := "com/example/bytelace/bytelace/cli/FirstDifferenceOffsetPinLaw", name := "pick", desc := "(IIIBI)B" } : Jvm.MethodName) method_3_code (6 : Nat) (Option.some Jvm.ClassFile.FieldType.byte)).before args0 about1 = true := code_word (m := ⟨1, 2⟩) (meth := k1m2) (c := k1c2) (by decide +kernel) rfl rfl rfl (by decide +kernel)
set_option maxRecDepth 65536 in
theorem w_c2 : (Jvm.Cond.code ({ cls := "com/example/bytelace/bytelace/cli/FirstDifference", name := "<init>", desc := "([B)V" } : Jvm.MethodName) prog_2_method_1_code (2 : Nat) (Option.none : Option Jvm.ClassFile.FieldType)).before args0 about1 = true := code_word (m := ⟨6, 0⟩) (meth := k6m0) (c := k6c0) (by decide +kernel) rfl rfl rfl (by decide +kernel)
set_option maxRecDepth 65536 in
theorem w_c3 : (Jvm.Cond.code ({ cls := "java/io/OutputStream", name := "<init>", desc := "()V" } : Jvm.MethodName) jdk_2038_method_1_code (1 : Nat) (Option.none : Option Jvm.ClassFile.FieldType)).before args0 about1 = true := code_word (m := ⟨5, 0⟩) (meth := k5m0) (c := k5c0) (by decide +kernel) rfl rfl rfl (by decide +kernel)
set_option maxRecDepth 65536 in
theorem w_c4 : (Jvm.Cond.code ({ cls := "java/lang/Object", name := "<init>", desc := "()V" } : Jvm.MethodName) object_method_1_code (1 : Nat) (Option.none : Option Jvm.ClassFile.FieldType)).before args0 about1 = true := code_word (m := ⟨0, 0⟩) (meth := k0m0) (c := k0c0) (by decide +kernel) rfl rfl rfl (by decide +kernel)
set_option maxRecDepth 65536 in
theorem w_c5 : (Jvm.Cond.code ({ cls := "java/util/Objects", name := "requireNonNull", desc := "(Ljava/lang/Object;Ljava/lang/String;)Ljava/lang/Object;" } : Jvm.MethodName) jdk_31_method_11_code (2 : Nat) (Option.some (Jvm.ClassFile.FieldType.object "java/lang/Object"))).before args0 about1 = true := code_word (m := ⟨13, 1⟩) (meth := k13m1) (c := k13c1) (by decide +kernel) rfl rfl rfl (by decide +kernel)
set_option maxRecDepth 65536 in
theorem w_c6 : (Jvm.Cond.code ({ cls := "com/example/bytelace/bytelace/cli/FirstDifference", name := "write", desc := "([BII)V" } : Jvm.MethodName) prog_2_method_3_code (7 : Nat) (Option.none : Option Jvm.ClassFile.FieldType)).before args0 about1 = true := code_word (m := ⟨6, 2⟩) (meth := k6m2) (c := k6c2) (by decide +kernel) rfl rfl rfl (by decide +kernel)
set_option maxRecDepth 65536 in
theorem w_c7 : (Jvm.Cond.code ({ cls := "java/util/Objects", name := "checkFromIndexSize", desc := "(III)I" } : Jvm.MethodName) jdk_31_method_19_code (3 : Nat) (Option.some Jvm.ClassFile.FieldType.int)).before args0 about1 = true := code_word (m := ⟨13, 2⟩) (meth := k13m2) (c := k13c2) (by decide +kernel) rfl rfl rfl (by decide +kernel)
set_option maxRecDepth 65536 in
theorem w_c8 : (Jvm.Cond.code ({ cls := "jdk/internal/util/Preconditions", name := "checkFromIndexSize", desc := "(IIILjava/util/function/BiFunction;)I" } : Jvm.MethodName) jdk_41_method_13_code (4 : Nat) (Option.some Jvm.ClassFile.FieldType.int)).before args0 about1 = true := code_word (m := ⟨14, 1⟩) (meth := k14m1) (c := k14c1) (by decide +kernel) rfl rfl rfl (by decide +kernel)
set_option maxRecDepth 65536 in
theorem w_c9 : (Jvm.Cond.code ({ cls := "java/lang/Math", name := "min", desc := "(JJ)J" } : Jvm.MethodName) jdk_29_method_70_code (4 : Nat) (Option.some Jvm.ClassFile.FieldType.long)).before args0 about1 = true := code_word (m := ⟨15, 2⟩) (meth := k15m2) (c := k15c2) (by decide +kernel) rfl rfl rfl (by decide +kernel)
set_option maxRecDepth 65536 in
theorem w_c10 : (Jvm.Cond.code ({ cls := "java/util/Arrays", name := "mismatch", desc := "([BII[BII)I" } : Jvm.MethodName) jdk_65_method_228_code (10 : Nat) (Option.some Jvm.ClassFile.FieldType.int)).before args0 about1 = true := code_word (m := ⟨16, 2⟩) (meth := k16m2) (c := k16c2) (by decide +kernel) rfl rfl rfl (by decide +kernel)
set_option maxRecDepth 65536 in
theorem w_c11 : (Jvm.Cond.code ({ cls := "java/util/Arrays", name := "rangeCheck", desc := "(III)V" } : Jvm.MethodName) jdk_65_method_30_code (3 : Nat) (Option.none : Option Jvm.ClassFile.FieldType)).before args0 about1 = true := code_word (m := ⟨16, 1⟩) (meth := k16m1) (c := k16c1) (by decide +kernel) rfl rfl rfl (by decide +kernel)
set_option maxRecDepth 65536 in
theorem w_c12 : (Jvm.Cond.code ({ cls := "java/lang/Math", name := "min", desc := "(II)I" } : Jvm.MethodName) jdk_29_method_69_code (2 : Nat) (Option.some Jvm.ClassFile.FieldType.int)).before args0 about1 = true := code_word (m := ⟨15, 1⟩) (meth := k15m1) (c := k15c1) (by decide +kernel) rfl rfl rfl (by decide +kernel)
set_option maxRecDepth 65536 in
theorem w_c13 : (Jvm.Cond.code ({ cls := "jdk/internal/util/ArraysSupport", name := "mismatch", desc := "([BI[BII)I" } : Jvm.MethodName) jdk_48_method_14_code (8 : Nat) (Option.some Jvm.ClassFile.FieldType.int)).before args0 about1 = true := code_word (m := ⟨17, 1⟩) (meth := k17m1) (c := k17c1) (by decide +kernel) rfl rfl rfl (by decide +kernel)
set_option maxRecDepth 65536 in
theorem w_c14 : (Jvm.Cond.code ({ cls := "com/example/bytelace/bytelace/cli/FirstDifference", name := "offset", desc := "()J" } : Jvm.MethodName) prog_2_method_4_code (3 : Nat) (Option.some Jvm.ClassFile.FieldType.long)).before args0 about1 = true := code_word (m := ⟨6, 3⟩) (meth := k6m3) (c := k6c3) (by decide +kernel) rfl rfl rfl (by decide +kernel)
set_option maxRecDepth 65536 in
theorem w_c15 : (Jvm.Cond.code ({ cls := "com/example/bytelace/bytelace/cli/FirstDifference", name := "write", desc := "(I)V" } : Jvm.MethodName) prog_2_method_2_code (2 : Nat) (Option.none : Option Jvm.ClassFile.FieldType)).before args0 about1 = true := code_word (m := ⟨6, 1⟩) (meth := k6m1) (c := k6c1) (by decide +kernel) rfl rfl rfl (by decide +kernel)
def codes1 : List Jvm.Cond := [Jvm.Cond.code x code maxLocals ret, Jvm.Cond.code ({ cls := "com/example/bytelace/bytelace/cli/FirstDifferenceOffsetPinLaw", name := "pick", desc := "(IIIBI)B" } : Jvm.MethodName) method_3_code (6 : Nat) (Option.some Jvm.ClassFile.FieldType.byte), Jvm.Cond.code ({ cls := "com/example/bytelace/bytelace/cli/FirstDifference", name := "<init>", desc := "([B)V" } : Jvm.MethodName) prog_2_method_1_code (2 : Nat) (Option.none : Option Jvm.ClassFile.FieldType), Jvm.Cond.code ({ cls := "java/io/OutputStream", name := "<init>", desc := "()V" } : Jvm.MethodName) jdk_2038_method_1_code (1 : Nat) (Option.none : Option Jvm.ClassFile.FieldType), Jvm.Cond.code ({ cls := "java/lang/Object", name := "<init>", desc := "()V" } : Jvm.MethodName) object_method_1_code (1 : Nat) (Option.none : Option Jvm.ClassFile.FieldType), Jvm.Cond.code ({ cls := "java/util/Objects", name := "requireNonNull", desc := "(Ljava/lang/Object;Ljava/lang/String;)Ljava/lang/Object;" } : Jvm.MethodName) jdk_31_method_11_code (2 : Nat) (Option.some (Jvm.ClassFile.FieldType.object "java/lang/Object")), Jvm.Cond.code ({ cls := "com/example/bytelace/bytelace/cli/FirstDifference", name := "write", desc := "([BII)V" } : Jvm.MethodName) prog_2_method_3_code (7 : Nat) (Option.none : Option Jvm.ClassFile.FieldType), Jvm.Cond.code ({ cls := "java/util/Objects", name := "checkFromIndexSize", desc := "(III)I" } : Jvm.MethodName) jdk_31_method_19_code (3 : Nat) (Option.some Jvm.ClassFile.FieldType.int), Jvm.Cond.code ({ cls := "jdk/internal/util/Preconditions", name := "checkFromIndexSize", desc := "(IIILjava/util/function/BiFunction;)I" } : Jvm.MethodName) jdk_41_method_13_code (4 : Nat) (Option.some Jvm.ClassFile.FieldType.int), Jvm.Cond.code ({ cls := "java/lang/Math", name := "min", desc := "(JJ)J" } : Jvm.MethodName) jdk_29_method_70_code (4 : Nat) (Option.some Jvm.ClassFile.FieldType.long), Jvm.Cond.code ({ cls := "java/util/Arrays", name := "mismatch", desc := "([BII[BII)I" } : Jvm.MethodName) jdk_65_method_228_code (10 : Nat) (Option.some Jvm.ClassFile.FieldType.int), Jvm.Cond.code ({ cls := "java/util/Arrays", name := "rangeCheck", desc := "(III)V" } : Jvm.MethodName) jdk_65_method_30_code (3 : Nat) (Option.none : Option Jvm.ClassFile.FieldType), Jvm.Cond.code ({ cls := "java/lang/Math", name := "min", desc := "(II)I" } : Jvm.MethodName) jdk_29_method_69_code (2 : Nat) (Option.some Jvm.ClassFile.FieldType.int), Jvm.Cond.code ({ cls := "jdk/internal/util/ArraysSupport", name := "mismatch", desc := "([BI[BII)I" } : Jvm.MethodName) jdk_48_method_14_code (8 : Nat) (Option.some Jvm.ClassFile.FieldType.int), Jvm.Cond.code ({ cls := "com/example/bytelace/bytelace/cli/FirstDifference", name := "offset", desc := "()J" } : Jvm.MethodName) prog_2_method_4_code (3 : Nat) (Option.some Jvm.ClassFile.FieldType.long), Jvm.Cond.code ({ cls := "com/example/bytelace/bytelace/cli/FirstDifference", name := "write", desc := "(I)V" } : Jvm.MethodName) prog_2_method_2_code (2 : Nat) (Option.none : Option Jvm.ClassFile.FieldType)]
set_option maxRecDepth 65536 in
theorem codes_eq : words1.filter isCode = codes1 := rfl
theorem w_codes : ∀ c ∈ words1.filter isCode, c.before args0 about1 = true := by
  rw [codes_eq]
  intro c hc
  simp only [codes1, List.mem_cons, List.not_mem_nil, or_false] at hc
  rcases hc with rfl | rfl | rfl | rfl | rfl | rfl | rfl | rfl | rfl | rfl | rfl | rfl | rfl | rfl | rfl | rfl
  · exact w_c0
  · exact w_c1
  · exact w_c2
  · exact w_c3
  · exact w_c4
  · exact w_c5
  · exact w_c6
  · exact w_c7
  · exact w_c8
  · exact w_c9
  · exact w_c10
  · exact w_c11
  · exact w_c12
  · exact w_c13
  · exact w_c14
  · exact w_c15
set_option maxRecDepth 65536 in
theorem w_t1 : (words1.take 24).all (fun c => isCode c || c.before args0 about1) = true := by decide +kernel
set_option maxRecDepth 65536 in
theorem w_t2 : ((words1.drop 24).take 24).all (fun c => isCode c || c.before args0 about1) = true := by decide +kernel
set_option maxRecDepth 65536 in
theorem w_t3 : (((words1.drop 24).drop 24).take 24).all (fun c => isCode c || c.before args0 about1) = true := by decide +kernel
set_option maxRecDepth 65536 in
theorem w_t4 : (((words1.drop 24).drop 24).drop 24).all (fun c => isCode c || c.before args0 about1) = true := by decide +kernel
theorem w_tables : (allAtoms (Jvm.Cond.code x code maxLocals ret :: tables_1)).before args0 about1 = true := by
  rw [allAtoms_all]
  show words1.all (fun c => c.before args0 about1) = true
  refine all_split ?_ w_codes
  rw [← List.take_append_drop 24 words1, List.all_append, w_t1, ← List.take_append_drop 24 (words1.drop 24), List.all_append, w_t2, ← List.take_append_drop 24 ((words1.drop 24).drop 24), List.all_append, w_t3, w_t4]
  rfl
set_option maxRecDepth 65536 in
theorem w_case : (Jvm.Cond.and given_1 narrow_1).before args0 about1 = true := by decide +kernel
theorem w_applies : (headSpec (Jvm.Cond.code x code maxLocals ret :: tables_1) room_1).applies x e0.platform about1 = true :=
  (Spec.applies_iff w_frames).mpr ⟨w_running, w_runnable, w_alone, w_named, w_hears, w_ripe, w_room, w_tables⟩
theorem atStart : AtStart classFile x code maxLocals ret World_1 tables_1 room_1 Calls_1 rest_1 Pre_1 launch0 p0 e0 about1 theMethod args0 below0 :=
  ⟨lists_1, trivial, launch0.admits_env _ _ _, launch0.least_env, fairChoices_fair.cas, fairChoices_fair.clock, w_frames, w_args, w_heap, w_applies, trivial, trivial, w_case⟩
end start1
theorem witness_1 : WitnessClaimed_1 := ⟨start1.p0, start1.e0, start1.about1, start1.theMethod, start1.args0, start1.below0, start1.atStart⟩
end Jvm.Pilot.@@N@@
