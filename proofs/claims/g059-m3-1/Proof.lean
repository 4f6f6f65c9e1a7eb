import JvmDerived
import JvmDerived.Pilot.@@N@@Statement
import JvmDerived.Pilot.@@N@@Code
set_option linter.unusedVariables false
set_option linter.unusedSimpArgs false
namespace Jvm.Pilot.@@N@@
open Jvm Jvm.ClassFile Sem Op Lib Jvm.Free Jvm.Stand Jvm.LawKit Jvm.RoadKit Bundle Jvm.Pilot.@@N@@.Jvm.D
def own_A (Z : State) (h : Heap) (a : Addr) (ty : FieldType) (n : Int32) (f : Nat → Int32) : Prop := ∃ c : Cell, Arr Z h a c ty ∧ c.slots.size = n.toNatClampNeg ∧ ¬ n < 0 ∧ ∀ j, j < n.toNatClampNeg → c.slots[j]? = some (.int (f j))
def own_upd (f : Nat → Int32) (i : Nat) (x : Int32) : Nat → Int32 := fun j => if j = i then x else f j
theorem own_A.ext {Z : State} {h h' : Heap} {a : Addr} {ty : FieldType} {n : Int32} {f : Nat → Int32} (V : own_A Z h a ty n f) (E : Ext h h') : own_A Z h' a ty n f := by obtain ⟨c, A, r⟩ := V; exact ⟨c, A.ext E, r⟩
theorem own_A.other {Z : State} {h h' : Heap} {a b : Addr} {sl : Nat} {v : Value} {ty : FieldType} {n : Int32} {f : Nat → Int32} (V : own_A Z h b ty n f) (W : Wr h h' a sl v) (q : b ≠ a) : own_A Z h' b ty n f := by obtain ⟨c, A, r⟩ := V; exact ⟨c, A.other W q, r⟩
theorem own_A.keep {Z : State} {h h' : Heap} {a : Addr} {ws : List Addr} {ty : FieldType} {n : Int32} {f : Nat → Int32} (V : own_A Z h a ty n f) (K : Keep h h' ws) (q : a ∉ ws) : own_A Z h' a ty n f := by obtain ⟨c, A, r⟩ := V; exact ⟨c, ⟨K.2.1 a c A.1 q, A.2⟩, r⟩
theorem own_A.lt {Z : State} {h : Heap} {a : Addr} {ty : FieldType} {n : Int32} {f : Nat → Int32} (V : own_A Z h a ty n f) : a < h.size := by obtain ⟨c, A, -⟩ := V; exact A.lt
theorem own_A.new {Z : State} {h : Heap} {a : Addr} {k : ClassId} {ty : FieldType} {n : Int32} (A : Arr Z h a (newA k ty n) ty) (q : ¬ n < 0) (hd : defaultValue ty = .int 0) : own_A Z h a ty n (fun _ => 0) := by
  obtain ⟨c, A1, -, S, M, H, -⟩ := Arv.new A q
  refine ⟨c, A1, S, M, fun j hj => ?_⟩
  have w := H j (by rw [S]; exact hj)
  rw [hd] at w; simpa using w
theorem own_A.set {Z : State} {h h' : Heap} {a : Addr} {c : Cell} {ty : FieldType} {n : Int32} {f : Nat → Int32} {i : Nat} {x : Int32} (A : Arr Z h a c ty) (S : c.slots.size = n.toNatClampNeg) (M : ¬ n < 0) (H : ∀ j, j < n.toNatClampNeg → c.slots[j]? = some (.int (f j))) (W : Wr h h' a i (.int x)) : own_A Z h' a ty n (own_upd f i x) := by
  refine ⟨c.setSlot i (.int x), A.same W, by rw [sz_set]; exact S, M, fun j hj => ?_⟩
  show (c.slots.setIfInBounds i (.int x))[j]? = _
  rw [Array.getElem?_setIfInBounds]
  by_cases e : i = j
  · subst e; simp [own_upd, S, hj]
  · rw [if_neg e, H j hj, own_upd, if_neg (Ne.symm e)]
theorem own_A.at {c : Cell} {n j : Int32} {f : Nat → Int32} (S : c.slots.size = n.toNatClampNeg) (H : ∀ j, j < n.toNatClampNeg → c.slots[j]? = some (.int (f j))) (q : ¬ (j < 0 ∨ c.slots.size ≤ j.toNatClampNeg)) : c.slots[j.toNatClampNeg]? = some (.int (f j.toNatClampNeg)) := H _ (by rw [← S]; exact Nat.lt_of_not_le fun y => q (Or.inr y))
theorem own_eq {t : Term} {k : Int32} {args : Array Value} {s : State} (h : (Jvm.Cond.eq t (.int k)).value args s none s [] = some true) : t.eval args s none [] s = some (.int k) := by
  simp only [Cond.value, Term.eval] at h
  cases ht : t.eval args s none [] s with
  | none => simp [ht] at h
  | some x => cases x <;> simp [ht] at h ⊢; exact h
theorem own_sa {Z : State} {a0 : Array Value} (hw : ∀ d ∈ tables_1, d.before a0 Z = true) : ∀ a ∈ Bundle.stringAtoms, a.before a0 Z = true := by
  intro d hd
  simp only [Bundle.stringAtoms, List.mem_cons, List.not_mem_nil, or_false] at hd
  rcases hd with rfl | rfl | rfl | rfl | rfl | rfl | rfl
  · first | exact (hw _ (List.mem_of_getElem? (i := 10) rfl)) | exact (hw _ (List.mem_of_getElem? (i := 9) rfl)) | exact (hw _ (List.mem_of_getElem? (i := 27) rfl)) | exact (hw _ (List.mem_of_getElem? (i := 37) rfl)) | exact (hw _ (List.mem_of_getElem? (i := 35) rfl)) | exact (hw _ (List.mem_of_getElem? (i := 73) rfl)) | exact (hw _ (List.mem_of_getElem? (i := 74) rfl))
  · first | exact (hw _ (List.mem_of_getElem? (i := 10) rfl)) | exact (hw _ (List.mem_of_getElem? (i := 9) rfl)) | exact (hw _ (List.mem_of_getElem? (i := 27) rfl)) | exact (hw _ (List.mem_of_getElem? (i := 37) rfl)) | exact (hw _ (List.mem_of_getElem? (i := 35) rfl)) | exact (hw _ (List.mem_of_getElem? (i := 73) rfl)) | exact (hw _ (List.mem_of_getElem? (i := 74) rfl))
  · first | exact (hw _ (List.mem_of_getElem? (i := 10) rfl)) | exact (hw _ (List.mem_of_getElem? (i := 9) rfl)) | exact (hw _ (List.mem_of_getElem? (i := 27) rfl)) | exact (hw _ (List.mem_of_getElem? (i := 37) rfl)) | exact (hw _ (List.mem_of_getElem? (i := 35) rfl)) | exact (hw _ (List.mem_of_getElem? (i := 73) rfl)) | exact (hw _ (List.mem_of_getElem? (i := 74) rfl))
  · first | exact (hw _ (List.mem_of_getElem? (i := 10) rfl)) | exact (hw _ (List.mem_of_getElem? (i := 9) rfl)) | exact (hw _ (List.mem_of_getElem? (i := 27) rfl)) | exact (hw _ (List.mem_of_getElem? (i := 37) rfl)) | exact (hw _ (List.mem_of_getElem? (i := 35) rfl)) | exact (hw _ (List.mem_of_getElem? (i := 73) rfl)) | exact (hw _ (List.mem_of_getElem? (i := 74) rfl))
  · first | exact (hw _ (List.mem_of_getElem? (i := 10) rfl)) | exact (hw _ (List.mem_of_getElem? (i := 9) rfl)) | exact (hw _ (List.mem_of_getElem? (i := 27) rfl)) | exact (hw _ (List.mem_of_getElem? (i := 37) rfl)) | exact (hw _ (List.mem_of_getElem? (i := 35) rfl)) | exact (hw _ (List.mem_of_getElem? (i := 73) rfl)) | exact (hw _ (List.mem_of_getElem? (i := 74) rfl))
  · first | exact (hw _ (List.mem_of_getElem? (i := 10) rfl)) | exact (hw _ (List.mem_of_getElem? (i := 9) rfl)) | exact (hw _ (List.mem_of_getElem? (i := 27) rfl)) | exact (hw _ (List.mem_of_getElem? (i := 37) rfl)) | exact (hw _ (List.mem_of_getElem? (i := 35) rfl)) | exact (hw _ (List.mem_of_getElem? (i := 73) rfl)) | exact (hw _ (List.mem_of_getElem? (i := 74) rfl))
  · first | exact (hw _ (List.mem_of_getElem? (i := 10) rfl)) | exact (hw _ (List.mem_of_getElem? (i := 9) rfl)) | exact (hw _ (List.mem_of_getElem? (i := 27) rfl)) | exact (hw _ (List.mem_of_getElem? (i := 37) rfl)) | exact (hw _ (List.mem_of_getElem? (i := 35) rfl)) | exact (hw _ (List.mem_of_getElem? (i := 73) rfl)) | exact (hw _ (List.mem_of_getElem? (i := 74) rfl))
def own_emp (n : Int32) : Int32 := if n = (0 : Int32) then (1 : Int32) else (0 : Int32)
def own_R (n c : Int32) : Prop := n = (0 : Int32) ∨ (¬ n = (0 : Int32) ∧ ¬ (n >>> ((nar .byte c) &&& 31)) = (0 : Int32))
def own_lo (c : Int32) : Int32 := (nar .byte ((c >>> ((0 : Int32) &&& 31)).toInt8.toInt32))
def own_hi (c : Int32) : Int32 := (nar .byte ((c >>> ((8 : Int32) &&& 31)).toInt8.toInt32))
theorem own_z : (0 : Int32).toInt = 0 := rfl
theorem own_lts {x y : Int32} (h : x.toInt < y.toInt) : x < y := Int32.lt_iff_toInt_lt.mpr h
theorem own_nlt {x y : Int32} (h : y.toInt ≤ x.toInt) : ¬ x < y := fun q => by rw [Int32.lt_iff_toInt_lt] at q; omega
theorem own_of {x y : Int32} (h : x < y) : x.toInt < y.toInt := Int32.lt_iff_toInt_lt.mp h
theorem own_ofn {x y : Int32} (h : ¬ x < y) : y.toInt ≤ x.toInt := by have := mt Int32.lt_iff_toInt_lt.mpr h; omega
theorem own_123 {l : Int32} (h : 1 ≤ l.toInt ∧ l.toInt ≤ 3) : l = 1 ∨ l = 2 ∨ l = 3 := by simp only [← Int32.toInt_inj, Int32.reduceToInt]; omega
theorem own_l1 {l : Int32} (h : 1 ≤ l.toInt ∧ l.toInt ≤ 3) : ¬ l < (0 : Int32) := own_nlt (by rw [own_z]; omega)
theorem own_l2 {l : Int32} (h : 1 ≤ l.toInt ∧ l.toInt ≤ 3) : l < (1073741823 : Int32) := own_lts (by rw [show (1073741823 : Int32).toInt = 1073741823 from rfl]; omega)
theorem own_l3 {l : Int32} (h : 1 ≤ l.toInt ∧ l.toInt ≤ 3) : ¬ (l <<< ((1 : Int32) &&& 31)) < 0 := by rcases own_123 h with rfl | rfl | rfl <;> decide
theorem own_l4 {l : Int32} (h : 1 ≤ l.toInt ∧ l.toInt ≤ 3) : ((l <<< ((1 : Int32) &&& 31))).toNatClampNeg ≤ 6 := by rcases own_123 h with rfl | rfl | rfl <;> decide
theorem own_l5 {l : Int32} (h : 1 ≤ l.toInt ∧ l.toInt ≤ 3) : (0 : Int32) < l := own_lts (by rw [own_z]; omega)
theorem own_l6 {l : Int32} (h : 1 ≤ l.toInt ∧ l.toInt ≤ 3) : ¬ l < 0 := own_l1 h
theorem own_l7 {l : Int32} (h : 1 ≤ l.toInt ∧ l.toInt ≤ 3) : l.toNatClampNeg ≤ 3 := by rw [Int32.toNatClampNeg]; omega
theorem own_l8 {l : Int32} (h : 0 ≤ l.toInt ∧ l.toInt ≤ 3) (hz : ¬ l = (0 : Int32)) : 1 ≤ l.toInt ∧ l.toInt ≤ 3 := by
  have q : ¬ l.toInt = 0 := fun z => hz (Int32.toInt_inj.mp z)
  omega
theorem own_k012 {l k : Int32} (h : 1 ≤ l.toInt ∧ l.toInt ≤ 3) (h0 : ¬ k < 0) (h1 : k < l) : (k = 0 ∧ (l = 1 ∨ l = 2 ∨ l = 3)) ∨ (k = 1 ∧ (l = 2 ∨ l = 3)) ∨ (k = 2 ∧ l = 3) := by
  have a := own_ofn h0; have b := own_of h1; rw [own_z] at a
  simp only [← Int32.toInt_inj, Int32.reduceToInt]; omega
theorem own_q0 {l k : Int32} (h : 1 ≤ l.toInt ∧ l.toInt ≤ 3) (h0 : ¬ k < 0) (h1 : k < l) : ¬ (k <<< ((1 : Int32) &&& 31)) < 0 ∧ (k <<< ((1 : Int32) &&& 31)) < (l <<< ((1 : Int32) &&& 31)) := by
  rcases own_k012 h h0 h1 with ⟨rfl, rfl | rfl | rfl⟩ | ⟨rfl, rfl | rfl⟩ | ⟨rfl, rfl⟩ <;> decide
theorem own_q1 {l k : Int32} (h : 1 ≤ l.toInt ∧ l.toInt ≤ 3) (h0 : ¬ k < 0) (h1 : k < l) : ¬ ((k <<< ((1 : Int32) &&& 31)) + (1 : Int32)) < 0 ∧ ((k <<< ((1 : Int32) &&& 31)) + (1 : Int32)) < (l <<< ((1 : Int32) &&& 31)) := by
  rcases own_k012 h h0 h1 with ⟨rfl, rfl | rfl | rfl⟩ | ⟨rfl, rfl | rfl⟩ | ⟨rfl, rfl⟩ <;> decide
theorem own_p0 {l J : Int32} (h : 1 ≤ l.toInt ∧ l.toInt ≤ 3) {k : Nat} (hJ : J.toInt = k) (h1 : J < l) : ¬ (J <<< ((1 : Int32) &&& 31)) < 0 ∧ (J <<< ((1 : Int32) &&& 31)) < (l <<< ((1 : Int32) &&& 31)) := own_q0 h (own_nlt (by rw [own_z]; omega)) h1
theorem own_p1 {l J : Int32} (h : 1 ≤ l.toInt ∧ l.toInt ≤ 3) {k : Nat} (hJ : J.toInt = k) (h1 : J < l) : ¬ ((J <<< ((1 : Int32) &&& 31)) + (1 : Int32)) < 0 ∧ ((J <<< ((1 : Int32) &&& 31)) + (1 : Int32)) < (l <<< ((1 : Int32) &&& 31)) := own_q1 h (own_nlt (by rw [own_z]; omega)) h1
theorem own_il {l J : Int32} {j : Nat} (hJ : J.toInt = j) (h : ¬ J < l) {i : Nat} (hi : i < l.toNatClampNeg) : i < j := by
  have a := own_ofn h; rw [Int32.toNatClampNeg] at hi; omega
theorem own_il1 {i : Nat} (h : i < 1) : i = 0 := by omega
theorem own_il2 {i : Nat} (h : i < 2) : i = 0 ∨ i = 1 := by omega
theorem own_il3 {i : Nat} (h : i < 3) : i = 0 ∨ i = 1 ∨ i = 2 := by omega
theorem own_ch (z : Int32) : 0 ≤ (nar .char z).toInt ∧ (nar .char z).toInt < 65536 := (c_i2c z).2
theorem own_g1 (c : Int32) (h : 0 ≤ c.toInt ∧ c.toInt < 65536) : (nar .char ((((((own_lo c) &&& (255 : Int32)) <<< ((0 : Int32) &&& 31)) ||| (((own_hi c) &&& (255 : Int32)) <<< ((8 : Int32) &&& 31)))).toUInt32.toUInt16.toUInt32.toInt32)) = c := by
  apply Int32.toInt_inj.mp
  have e0 : own_lo c = (c >>> ((0 : Int32) &&& 31)).toInt8.toInt32.toInt8.toInt32 := rfl
  have e1 : own_hi c = (c >>> ((8 : Int32) &&& 31)).toInt8.toInt32.toInt8.toInt32 := rfl
  have a0 := c_ishr c 0 0 (by decide); have a1 := c_ishr c 8 8 (by decide)
  have b0 := c_i2b (c >>> ((0 : Int32) &&& 31)); have b0' := c_i2b (c >>> ((0 : Int32) &&& 31)).toInt8.toInt32
  have b1 := c_i2b (c >>> ((8 : Int32) &&& 31)); have b1' := c_i2b (c >>> ((8 : Int32) &&& 31)).toInt8.toInt32
  rw [← e0] at b0'; rw [← e1] at b1'
  have m0 := c_mask (own_lo c) 255 8 (by decide) (by decide); have m1 := c_mask (own_hi c) 255 8 (by decide) (by decide)
  have s0 := c_ishl (own_lo c &&& 255) 0 0 (by decide); have s1 := c_ishl (own_hi c &&& 255) 8 8 (by decide)
  have r0 := rng32 ((own_lo c &&& 255) <<< ((0 : Int32) &&& 31)); have r1 := rng32 ((own_hi c &&& 255) <<< ((8 : Int32) &&& 31))
  have o := c_or' ((own_lo c &&& 255) <<< ((0 : Int32) &&& 31)) ((own_hi c &&& 255) <<< ((8 : Int32) &&& 31)) 8 (by decide) 256 (by decide) (by omega) (by omega) (by omega)
  have r2 := rng32 (((own_lo c &&& 255) <<< ((0 : Int32) &&& 31)) ||| ((own_hi c &&& 255) <<< ((8 : Int32) &&& 31)))
  have f := c_i2c (((own_lo c &&& 255) <<< ((0 : Int32) &&& 31)) ||| ((own_hi c &&& 255) <<< ((8 : Int32) &&& 31)))
  have g := c_i2c (((own_lo c &&& 255) <<< ((0 : Int32) &&& 31)) ||| ((own_hi c &&& 255) <<< ((8 : Int32) &&& 31))).toUInt32.toUInt16.toUInt32.toInt32
  show (((own_lo c &&& 255) <<< ((0 : Int32) &&& 31)) ||| ((own_hi c &&& 255) <<< ((8 : Int32) &&& 31))).toUInt32.toUInt16.toUInt32.toInt32.toUInt32.toUInt16.toUInt32.toInt32.toInt = c.toInt
  omega
theorem own_gc {l k : Int32} {f g : Nat → Int32} (h : 1 ≤ l.toInt ∧ l.toInt ≤ 3) (h0 : ¬ k < 0) (h1 : k < l) (h2 : (255 : Int32) < f k.toNatClampNeg) (hf : ∀ i, 0 ≤ (f i).toInt ∧ (f i).toInt < 65536) (hg : ∀ i, i < l.toNatClampNeg → g (2 * i) = own_lo (f i) ∧ g (2 * i + 1) = own_hi (f i)) : (255 : Int32) < (nar .char ((((((g ((k <<< ((1 : Int32) &&& 31))).toNatClampNeg) &&& (255 : Int32)) <<< ((0 : Int32) &&& 31)) ||| (((g ((k <<< ((1 : Int32) &&& 31)) + (1 : Int32)).toNatClampNeg) &&& (255 : Int32)) <<< ((8 : Int32) &&& 31)))).toUInt32.toUInt16.toUInt32.toInt32)) := by
  have e : ((k <<< ((1 : Int32) &&& 31))).toNatClampNeg = 2 * k.toNatClampNeg ∧ ((k <<< ((1 : Int32) &&& 31)) + (1 : Int32)).toNatClampNeg = 2 * k.toNatClampNeg + 1 := by
    rcases own_k012 h h0 h1 with ⟨rfl, -⟩ | ⟨rfl, -⟩ | ⟨rfl, -⟩ <;> decide
  have hi : k.toNatClampNeg < l.toNatClampNeg := by
    have a := own_ofn h0; have b := own_of h1; rw [own_z] at a; rw [Int32.toNatClampNeg, Int32.toNatClampNeg]; omega
  rw [e.1, e.2, (hg _ hi).1, (hg _ hi).2, own_g1 _ (hf _)]
  exact h2
theorem own_cd {l n : Int32} (h : 1 ≤ l.toInt ∧ l.toInt ≤ 3) (hn : n = l ∨ n = (l <<< ((1 : Int32) &&& 31))) : ¬ n = (0 : Int32) ∧ ¬ (n >>> ((nar .byte (nar .byte (nar .byte (((((l - n).toUInt32 >>> ((31 : Int32) &&& 31).toUInt32).toInt32)).toInt8.toInt32)))) &&& 31)) = (0 : Int32) := by
  rcases own_123 h with rfl | rfl | rfl <;> rcases hn with rfl | rfl <;> decide
theorem own_z0 {n k : Int32} (h : n = (0 : Int32)) : n >>> (k &&& 31) = (0 : Int32) := by
  subst h
  apply Int32.toInt_inj.mp
  have := c_ishr 0 k (k.toBitVec.toNat % 32) rfl
  rw [this, own_z]; simp
def own_EL : List (String × Nat) := [("java/lang/String", 7)]
theorem own_ew {Z : State} {a0 : Array Value} (hw : ∀ d ∈ tables_1, d.before a0 Z = true) : EW Z a0 own_EL := EW.cons (text := "") (hw _ (List.mem_of_getElem? (i := 72) rfl)) (fun c hc => by simp at hc) EW.nil
theorem Cond.eq_ints_own {t : Term} {k z : Int32} {args : Array Value} {s : State} (hz : t.eval args s none [] s = some (.int z)) : (Jvm.Cond.eq t (.int k)).value args s none s [] = some (decide (z = k)) := by simp [Cond.value, hz, Term.eval]
theorem own_ne {t : Term} {k : Int32} {z : Int32} {args : Array Value} {s : State} (hz : t.eval args s none [] s = some (.int z)) (h : (Jvm.Cond.not (Jvm.Cond.eq t (.int k))).value args s none s [] = some true) : ¬ z = k := by
  have q := not_v h
  have e := Cond.eq_ints_own hz (k := k)
  rw [e] at q
  simpa using q
theorem own_backH {l : Launch} {p : Program} {e : Env} {R : Room} {below : List Frame} {s : State} {args : Array Value} {Z : State} {a0 : Array Value} {EL : List (String × Nat)} {h : Heap} {vm0 : Vm} {y : MethodName} {bytes : ByteArray} {maxL : Nat} {ret : Option FieldType} {rm : Room} {len W : Nat} {as' : Array Value} {Q : Option Value → Heap → List Loc → Prop}
    (hM : MetFree l y (head1 [Cond.code y bytes maxL ret] rm) (fun a U => a = as' ∧ Z.Warmed39 U.vm ∧ U.heap = h ∧ CHv Z EL U.vm h) (fun _ _ _ _ _ => True) (fun _ U o U' => ∃ v L, o = .returned v ∧ Q v U'.heap L ∧ ReturnedEndW U o U' L rm.cells rm.slots))
    (hZ : Z.Warmed39 vm0) (wc : (Cond.code y bytes maxL ret).before a0 Z = true) (wz : (Cond.initialized y.cls).before a0 Z = true) (hf : rm.frames + 1 ≤ R.frames) (hl : W + (maxL + 11) + rm.locals ≤ R.locals) (hEL : EW Z a0 EL) (H : CHv Z EL vm0 h) :
    BackS l R p e below (s.setVm vm0) args y len W (fun A a => a = as' ∧ A.U.heap = h ∧ A.cells + rm.cells ≤ R.cells ∧ A.slots + rm.slots ≤ R.slots)
      (fun A _ v B => ∃ L, Q v B.U.heap L ∧ B.locs = A.locs ++ L ∧ B.cells = A.cells + rm.cells ∧ B.slots = A.slots + rm.slots) := by
  refine BackS.of_freeW (bytes := bytes) (maxL := maxL) (ret := ret) (E := fun _ _ o t L k n => k = rm.cells ∧ n = rm.slots ∧ ∃ v, o = .returned v ∧ Q v t.heap L) hM hf hl ?_ ?_ (fun _ _ _ _ _ _ _ _ _ => trivial) ?_ ?_
  · intro m meth c A a Y hp
    have hU : Z.Warmed39 A.U.vm := wtrans (s := s.setVm vm0) hZ Y.warmed
    exact ⟨by show (Cond.and _ .tt).before a A.U = true; rw [Cond.before_and, mv hU wc]; rfl, mv hU wc, mv hU wz, hp.2.2.1, hp.2.2.2⟩
  · intro m meth c A a g mk Y hp
    exact ⟨hp.1, wtrans (s := s.setVm vm0) hZ Y.warmed, hp.2.1, (CHv.at Y hZ hEL H).1⟩
  · rintro _ _ _ _ ⟨v, L, h1, h2, h3⟩
    exact ⟨L, _, _, h3, rfl, rfl, v, h1, h2⟩
  · rintro m meth c A a g mk v t L k n Y hp _ _ ⟨e1, e2, v', e3, e4⟩
    cases e3; subst e1 e2
    exact ⟨L, e4, rfl, rfl, rfl⟩
theorem d11_0 : decode jdk_42_method_152_code 0 = .ok (.getstatic 38, 3) := by decide +kernel
theorem d11_3 : decode jdk_42_method_152_code 3 = .ok (.ifCond .eq 10, 3) := by decide +kernel
theorem d11_6 : decode jdk_42_method_152_code 6 = .ok (.aload_n 0, 1) := by decide +kernel
theorem d11_7 : decode jdk_42_method_152_code 7 = .ok (.getfield 15, 3) := by decide +kernel
theorem d11_10 : decode jdk_42_method_152_code 10 = .ok (.goto 4, 3) := by decide +kernel
theorem d11_14 : decode jdk_42_method_152_code 14 = .ok (.ireturn, 1) := by decide +kernel
theorem pn_11 : plainName "java/lang/String" = true := by first | (simp [plainName, overriddenIn]; done) | decide +kernel
theorem ef_11 (m : MethodId) (x0 : Addr) : entryFrame m #[(.ref x0)] 1 = mkF m 0 #[.val (.ref x0)] [] := by first | (simp [entryFrame, mkF, argsToLocals, Value.category]; done) | rfl
def Q11 (Z : State) (a : Addr) (cs' c' : Int32) (h0 : Heap) (n0 : Nat) (v : Option Value) (h : Heap) (L : List Loc) : Prop := v = some (.int (nar .byte c')) ∧ Fr n0 L ∧ h = h0
set_option maxRecDepth 65536 in
set_option maxHeartbeats 40000000 in
theorem rm11 (l : Launch) (Z : State) (a0 : Array Value) (hw : ∀ d ∈ tables_1, d.before a0 Z = true) (ws : List Jvm.Cond) (a : Addr) (cs' c' : Int32) (h0 : Heap) (n0 : Nat) (Z0 : n0 ≤ h0.size) (Od : Old Z n0 h0) (S_COMPACT_STRINGS : Sta Z Z.heap "java/lang/String" "COMPACT_STRINGS" "Z" (.int cs')) (S__assertionsDisabled : Sta Z Z.heap "java/lang/StringUTF16" "$assertionsDisabled" "Z" (.int (1 : Int32))) (S_HI_BYTE_SHIFT : Sta Z Z.heap "java/lang/StringUTF16" "HI_BYTE_SHIFT" "I" (.int (0 : Int32))) (S_LO_BYTE_SHIFT : Sta Z Z.heap "java/lang/StringUTF16" "LO_BYTE_SHIFT" "I" (.int (8 : Int32))) (hcs : ¬ cs' = (0 : Int32)) (F_coder_a : Fld Z h0 a "java/lang/String" "coder" "B" (.int c')) :
    MetFree l (⟨"java/lang/String", "coder", "()B"⟩ : MethodName) (head1 (Jvm.Cond.code (⟨"java/lang/String", "coder", "()B"⟩ : MethodName) jdk_42_method_152_code 1 (some .byte) :: ws) ({ frames := 0, cells := 0, slots := 0, locals := 0 } : Room)) (fun ar U => ar = #[(.ref a)] ∧ Z.Warmed39 U.vm ∧ U.heap = h0) (fun _ _ _ _ _ => True) (fun _ U o U' => ∃ v L, o = .returned v ∧ Q11 Z a cs' c' h0 n0 v U'.heap L ∧ FrameEnd U o U' L ({ frames := 0, cells := 0, slots := 0, locals := 0 } : Room).cells ({ frames := 0, cells := 0, slots := 0, locals := 0 } : Room).slots) := by
  refine MetFree.of_bodySF (plainFor_of_name pn_11) hisR ?_
  intro p e s m args below meth c s₁ Bd hml0 hP hK
  obtain ⟨rfl, hZ, hh⟩ := hP
  have hx := Bd.exec
  have hby := Bd.bytes
  have hml : c.maxLocals = 1 := hml0
  have hown : s.vm.findClass "java/lang/String" = some m.cls := findClass_of_methodNamed Bd.named
  have hnm := (name_of_methodNamed Bd.named Bd.method).1
  have X0 : Stand p l e ({ frames := 0, cells := 0, slots := 0, locals := 0 } : Room) s m #[(.ref a)] below meth c s₁ [] 0 0 := Stand.of_body Bd
  have e0 : s₁.heap = h0 := by rw [← hh, Bd.state]; rfl
  have N0 := Fr.nil n0
  have K0 : Keep h0 h0 [] := Keep.refl h0 _
  have pre0 : ∀ t, Steps p.tables e below (s₁.setTop (mkF m 0 #[.val (.ref a)] [])) t → Steps p.tables e below (s₁.setTop (entryFrame m #[(.ref a)] 1)) t := fun t k => castTop (ef_11 m a) k
  obtain ⟨T1, X1, e1, st1⟩ := getS2 X0 hx hZ hown (host := "") (Or.inl (hw _ (List.mem_of_getElem? (i := 22) rfl))) Via.refl e0 (S_COMPACT_STRINGS.ext Od.2) (g := (mkF m 0 #[.val (.ref a)] [])) rfl (hb hby d11_0)
  obtain ⟨T2, X2, e2, st2⟩ := getF X1 hx hZ hown (host := "") (Or.inl (hw _ (List.mem_of_getElem? (i := 34) rfl))) Via.refl e1 F_coder_a (g := (mkF m 7 #[.val (.ref a)] [(.ref a)])) rfl rfl (hb hby d11_7)
  obtain ⟨fs, hr, hrun, hended, hW, hsame⟩ := X2.leave (v := some (.int (nar .byte c'))) (fun h => by rw [Bd.returns] at h; cases h)
  refine ⟨_, _, pre0 _ ?_, hrun, hended, _, _, rfl, ?_, ⟨_, rfl⟩, hW, hsame.mono (by decide) (by decide)⟩
  · show Steps p.tables e below (s₁.setTop (mkF m 0 #[.val (.ref a)] [])) _
    refine st1 _ ?_
    show Steps p.tables e below (T1.setTop (mkF m 3 #[.val (.ref a)] [(.int cs')])) _
    refine XS.ifNo X1.here hx rfl (hb hby d11_3) rfl ((if0 _ _).trans (feq hcs).1) ?_
    show Steps p.tables e below (T1.setTop (mkF m 6 #[.val (.ref a)] [])) _
    refine XS.aloadN X1.here hx rfl (hb hby d11_6) rfl rfl ?_
    show Steps p.tables e below (T1.setTop (mkF m 7 #[.val (.ref a)] [(.ref a)])) _
    refine st2 _ ?_
    show Steps p.tables e below (T2.setTop (mkF m 10 #[.val (.ref a)] [(.int c')])) _
    refine XS.goto X2.here hx rfl (pc0 := 10) (pc' := 14) rfl (hb hby d11_10) (by decide) (by decide) ?_
    show Steps p.tables e below (T2.setTop (mkF m 14 #[.val (.ref a)] [(.int c')])) _
    exact retN X2 hx (t := .byte) Bd.returns (by simp) (hb hby d11_14) hr
  · show Q11 Z a cs' c' h0 n0 _ T2.heap _
    rw [e2]
    exact ⟨rfl, N0, rfl⟩
theorem d10_0 : decode jdk_42_method_54_code 0 = .ok (.aload_n 0, 1) := by decide +kernel
theorem d10_1 : decode jdk_42_method_54_code 1 = .ok (.getfield 9, 3) := by decide +kernel
theorem d10_4 : decode jdk_42_method_54_code 4 = .ok (.arraylength, 1) := by decide +kernel
theorem d10_5 : decode jdk_42_method_54_code 5 = .ok (.aload_n 0, 1) := by decide +kernel
theorem d10_6 : decode jdk_42_method_54_code 6 = .ok (.invokevirtual 335, 3) := by decide +kernel
theorem d10_9 : decode jdk_42_method_54_code 9 = .ok (.ishr, 1) := by decide +kernel
theorem d10_10 : decode jdk_42_method_54_code 10 = .ok (.ireturn, 1) := by decide +kernel
theorem pn_10 : plainName "java/lang/String" = true := by first | (simp [plainName, overriddenIn]; done) | decide +kernel
theorem pd10_0 : parseMethodDescriptor "()B" = some ⟨[], some .byte⟩ := by decide +kernel
theorem ef_10 (m : MethodId) (x0 : Addr) : entryFrame m #[(.ref x0)] 1 = mkF m 0 #[.val (.ref x0)] [] := by first | (simp [entryFrame, mkF, argsToLocals, Value.category]; done) | rfl
def Q10 (Z : State) (a : Addr) (cs' c' n' : Int32) (x : Addr) (g' : Nat → Int32) (h0 : Heap) (n0 : Nat) (v : Option Value) (h : Heap) (L : List Loc) : Prop := v = some (.int (n' >>> ((nar .byte c') &&& 31))) ∧ Fr n0 L ∧ h = h0
set_option maxRecDepth 65536 in
set_option maxHeartbeats 40000000 in
theorem rm10 (l : Launch) (Z : State) (a0 : Array Value) (hw : ∀ d ∈ tables_1, d.before a0 Z = true) (ws : List Jvm.Cond) (a : Addr) (cs' c' n' : Int32) (x : Addr) (g' : Nat → Int32) (h0 : Heap) (n0 : Nat) (Z0 : n0 ≤ h0.size) (Od : Old Z n0 h0) (S_COMPACT_STRINGS : Sta Z Z.heap "java/lang/String" "COMPACT_STRINGS" "Z" (.int cs')) (S__assertionsDisabled : Sta Z Z.heap "java/lang/StringUTF16" "$assertionsDisabled" "Z" (.int (1 : Int32))) (S_HI_BYTE_SHIFT : Sta Z Z.heap "java/lang/StringUTF16" "HI_BYTE_SHIFT" "I" (.int (0 : Int32))) (S_LO_BYTE_SHIFT : Sta Z Z.heap "java/lang/StringUTF16" "LO_BYTE_SHIFT" "I" (.int (8 : Int32))) (hcs : ¬ cs' = (0 : Int32)) (E_a : Exa Z h0 a "java/lang/String") (F_value_a : Fld Z h0 a "java/lang/String" "value" "[B" (.ref x)) (F_coder_a : Fld Z h0 a "java/lang/String" "coder" "B" (.int c')) (V_x : own_A Z h0 x .byte n' g') :
    MetFree l (⟨"java/lang/String", "length", "()I"⟩ : MethodName) (head1 (Jvm.Cond.code (⟨"java/lang/String", "length", "()I"⟩ : MethodName) jdk_42_method_54_code 1 (some .int) :: ws) ({ frames := 1, cells := 0, slots := 0, locals := 13 } : Room)) (fun ar U => ar = #[(.ref a)] ∧ Z.Warmed39 U.vm ∧ U.heap = h0) (fun _ _ _ _ _ => True) (fun _ U o U' => ∃ v L, o = .returned v ∧ Q10 Z a cs' c' n' x g' h0 n0 v U'.heap L ∧ FrameEnd U o U' L ({ frames := 1, cells := 0, slots := 0, locals := 13 } : Room).cells ({ frames := 1, cells := 0, slots := 0, locals := 13 } : Room).slots) := by
  refine MetFree.of_bodySF (plainFor_of_name pn_10) hisR ?_
  intro p e s m args below meth c s₁ Bd hml0 hP hK
  obtain ⟨rfl, hZ, hh⟩ := hP
  have hx := Bd.exec
  have hby := Bd.bytes
  have hml : c.maxLocals = 1 := hml0
  have hown : s.vm.findClass "java/lang/String" = some m.cls := findClass_of_methodNamed Bd.named
  have hnm := (name_of_methodNamed Bd.named Bd.method).1
  have X0 : Stand p l e ({ frames := 1, cells := 0, slots := 0, locals := 13 } : Room) s m #[(.ref a)] below meth c s₁ [] 0 0 := Stand.of_body Bd
  have e0 : s₁.heap = h0 := by rw [← hh, Bd.state]; rfl
  have N0 := Fr.nil n0
  have K0 : Keep h0 h0 [] := Keep.refl h0 _
  have pre0 : ∀ t, Steps p.tables e below (s₁.setTop (mkF m 0 #[.val (.ref a)] [])) t → Steps p.tables e below (s₁.setTop (entryFrame m #[(.ref a)] 1)) t := fun t k => castTop (ef_10 m a) k
  obtain ⟨T1, X1, e1, st1⟩ := getF X0 hx hZ hown (host := "") (Or.inl (hw _ (List.mem_of_getElem? (i := 36) rfl))) Via.refl e0 F_value_a (g := (mkF m 1 #[.val (.ref a)] [(.ref a)])) rfl rfl (hb hby d10_1)
  obtain ⟨cl42, Ar42, S42, M42, H42⟩ := id V_x
  obtain ⟨cq3, kq3, q3a, q3b, q3c⟩ := isOf hZ e1 E_a
  obtain ⟨_, _, ⟨T3, L3, k3, n3⟩, -, X3, ⟨Lc3, hQ3, l3, y3, z3⟩, st3⟩ := X1.virtualBack hx (y := (⟨"java/lang/String", "coder", "()B"⟩ : MethodName)) (z := (⟨"java/lang/String", "coder", "()B"⟩ : MethodName)) hown (mvT hZ (hw _ (List.mem_of_getElem? (i := 48) rfl))) (mvT hZ (hw _ (List.mem_of_getElem? (i := 49) rfl))) (notFace_of_selects (args := #[]) (mvT hZ (hw _ (List.mem_of_getElem? (i := 51) rfl)))) (mvT hZ (hw _ (List.mem_of_getElem? (i := 51) rfl))) (mvT hZ (hw _ (List.mem_of_getElem? (i := 50) rfl))) (by decide) (backOf (W := 1) (rm11 l Z a0 hw [] a cs' c' h0 n0 Z0 Od S_COMPACT_STRINGS S__assertionsDisabled S_HI_BYTE_SHIFT S_LO_BYTE_SHIFT hcs F_coder_a) hZ (hw _ (List.mem_of_getElem? (i := 52) rfl)) (hw _ (List.mem_of_getElem? (i := 10) rfl)) (by decide) (by decide)) q3a q3c (g := (mkF m 6 #[.val (.ref a)] [(.ref a), (.int n')])) rfl (by rw [hml]; rfl) (Steps.refl _) (argsL := []) (rest := [(.int n')]) (lenOf pd10_0 rfl) rfl (by show 2 * 0 + _ ≤ _; exact Nat.le_of_eq rfl) (hb hby d10_6) (fun _ _ => ⟨rfl, e1, (by decide : 0 + 0 ≤ _), (by decide : 0 + 0 ≤ _)⟩)
  dsimp only [Pt.U, Pt.locs, Pt.cells, Pt.slots] at X3 l3 y3 z3 st3 hQ3
  subst l3 y3 z3
  obtain ⟨rfl, N3q, hh3⟩ := hQ3
  have N3 := Fr.app N0 N3q
  obtain ⟨fs, hr, hrun, hended, hW, hsame⟩ := X3.leave (v := some (.int (n' >>> ((nar .byte c') &&& 31)))) (fun h => by rw [Bd.returns] at h; cases h)
  refine ⟨_, _, pre0 _ ?_, hrun, hended, _, _, rfl, ?_, ⟨_, rfl⟩, hW, hsame.mono (by decide) (by decide)⟩
  · show Steps p.tables e below (s₁.setTop (mkF m 0 #[.val (.ref a)] [])) _
    refine XS.aloadN X0.here hx rfl (hb hby d10_0) rfl rfl ?_
    show Steps p.tables e below (s₁.setTop (mkF m 1 #[.val (.ref a)] [(.ref a)])) _
    refine st1 _ ?_
    show Steps p.tables e below (T1.setTop (mkF m 4 #[.val (.ref a)] [(.ref x)])) _
    refine X1.arraylength hx (cell := cl42) (by rw [e1]; exact Ar42.1) (State.isArrayOf_alike hZ.alike Ar42.2.1) (g := (mkF m 4 #[.val (.ref a)] [(.ref x)])) rfl (rest := []) rfl (hb hby d10_4) _ ?_
    rw [len_of S42 M42]
    show Steps p.tables e below (T1.setTop (mkF m 5 #[.val (.ref a)] [(.int n')])) _
    refine XS.aloadN X1.here hx rfl (hb hby d10_5) rfl rfl ?_
    show Steps p.tables e below (T1.setTop (mkF m 6 #[.val (.ref a)] [(.ref a), (.int n')])) _
    refine st3.trans ?_
    show Steps p.tables e below (T3.setTop (mkF m 9 #[.val (.ref a)] [(.int (nar .byte c')), (.int n')])) _
    refine XS.ishr X3.here hx rfl (hb hby d10_9) rfl ?_
    show Steps p.tables e below (T3.setTop (mkF m 10 #[.val (.ref a)] [(.int (n' >>> ((nar .byte c') &&& 31)))])) _
    exact retOut X3 hx Bd.returns rfl (Or.inl ⟨rfl, Or.inl rfl, _, rfl⟩) (hb hby d10_10) hr
  · show Q10 Z a cs' c' n' x g' h0 n0 _ T3.heap _
    rw [hh3]
    exact ⟨rfl, N3, rfl⟩
theorem d9_0 : decode jdk_42_method_55_code 0 = .ok (.aload_n 0, 1) := by decide +kernel
theorem d9_1 : decode jdk_42_method_55_code 1 = .ok (.getfield 9, 3) := by decide +kernel
theorem d9_4 : decode jdk_42_method_55_code 4 = .ok (.arraylength, 1) := by decide +kernel
theorem d9_5 : decode jdk_42_method_55_code 5 = .ok (.ifCond .ne 7, 3) := by decide +kernel
theorem d9_8 : decode jdk_42_method_55_code 8 = .ok (.iconst 1, 1) := by decide +kernel
theorem d9_9 : decode jdk_42_method_55_code 9 = .ok (.goto 4, 3) := by decide +kernel
theorem d9_12 : decode jdk_42_method_55_code 12 = .ok (.iconst 0, 1) := by decide +kernel
theorem d9_13 : decode jdk_42_method_55_code 13 = .ok (.ireturn, 1) := by decide +kernel
theorem pn_9 : plainName "java/lang/String" = true := by first | (simp [plainName, overriddenIn]; done) | decide +kernel
theorem ef_9 (m : MethodId) (x0 : Addr) : entryFrame m #[(.ref x0)] 1 = mkF m 0 #[.val (.ref x0)] [] := by first | (simp [entryFrame, mkF, argsToLocals, Value.category]; done) | rfl
def Q9 (Z : State) (a : Addr) (n' : Int32) (x : Addr) (g' : Nat → Int32) (h0 : Heap) (n0 : Nat) (v : Option Value) (h : Heap) (L : List Loc) : Prop := v = some (.int (own_emp n')) ∧ Fr n0 L ∧ h = h0
set_option maxRecDepth 65536 in
set_option maxHeartbeats 40000000 in
theorem rm9 (l : Launch) (Z : State) (a0 : Array Value) (hw : ∀ d ∈ tables_1, d.before a0 Z = true) (ws : List Jvm.Cond) (a : Addr) (n' : Int32) (x : Addr) (g' : Nat → Int32) (h0 : Heap) (n0 : Nat) (Z0 : n0 ≤ h0.size) (F_value_a : Fld Z h0 a "java/lang/String" "value" "[B" (.ref x)) (V_x : own_A Z h0 x .byte n' g') :
    MetFree l (⟨"java/lang/String", "isEmpty", "()Z"⟩ : MethodName) (head1 (Jvm.Cond.code (⟨"java/lang/String", "isEmpty", "()Z"⟩ : MethodName) jdk_42_method_55_code 1 (some .boolean) :: ws) ({ frames := 0, cells := 0, slots := 0, locals := 0 } : Room)) (fun ar U => ar = #[(.ref a)] ∧ Z.Warmed39 U.vm ∧ U.heap = h0) (fun _ _ _ _ _ => True) (fun _ U o U' => ∃ v L, o = .returned v ∧ Q9 Z a n' x g' h0 n0 v U'.heap L ∧ FrameEnd U o U' L ({ frames := 0, cells := 0, slots := 0, locals := 0 } : Room).cells ({ frames := 0, cells := 0, slots := 0, locals := 0 } : Room).slots) := by
  refine MetFree.of_bodySF (plainFor_of_name pn_9) hisR ?_
  intro p e s m args below meth c s₁ Bd hml0 hP hK
  obtain ⟨rfl, hZ, hh⟩ := hP
  have hx := Bd.exec
  have hby := Bd.bytes
  have hml : c.maxLocals = 1 := hml0
  have hown : s.vm.findClass "java/lang/String" = some m.cls := findClass_of_methodNamed Bd.named
  have hnm := (name_of_methodNamed Bd.named Bd.method).1
  have X0 : Stand p l e ({ frames := 0, cells := 0, slots := 0, locals := 0 } : Room) s m #[(.ref a)] below meth c s₁ [] 0 0 := Stand.of_body Bd
  have e0 : s₁.heap = h0 := by rw [← hh, Bd.state]; rfl
  have N0 := Fr.nil n0
  have K0 : Keep h0 h0 [] := Keep.refl h0 _
  have pre0 : ∀ t, Steps p.tables e below (s₁.setTop (mkF m 0 #[.val (.ref a)] [])) t → Steps p.tables e below (s₁.setTop (entryFrame m #[(.ref a)] 1)) t := fun t k => castTop (ef_9 m a) k
  obtain ⟨T1, X1, e1, st1⟩ := getF X0 hx hZ hown (host := "") (Or.inl (hw _ (List.mem_of_getElem? (i := 36) rfl))) Via.refl e0 F_value_a (g := (mkF m 1 #[.val (.ref a)] [(.ref a)])) rfl rfl (hb hby d9_1)
  obtain ⟨cl42, Ar42, S42, M42, H42⟩ := id V_x
  have pre3 : ∀ t, Steps p.tables e below (T1.setTop (mkF m 5 #[.val (.ref a)] [(.int n')])) t → Steps p.tables e below (s₁.setTop (entryFrame m #[(.ref a)] 1)) t := by
    intro t kt
    refine pre0 t ?_
    show Steps p.tables e below (s₁.setTop (mkF m 0 #[.val (.ref a)] [])) _
    refine XS.aloadN X0.here hx rfl (hb hby d9_0) rfl rfl ?_
    show Steps p.tables e below (s₁.setTop (mkF m 1 #[.val (.ref a)] [(.ref a)])) _
    refine st1 _ ?_
    show Steps p.tables e below (T1.setTop (mkF m 4 #[.val (.ref a)] [(.ref x)])) _
    refine X1.arraylength hx (cell := cl42) (by rw [e1]; exact Ar42.1) (State.isArrayOf_alike hZ.alike Ar42.2.1) (g := (mkF m 4 #[.val (.ref a)] [(.ref x)])) rfl (rest := []) rfl (hb hby d9_4) _ ?_
    rw [len_of S42 M42]
    exact kt
  by_cases hc5_4 : n' = (0 : Int32)
  · obtain ⟨fs, hr, hrun, hended, hW, hsame⟩ := X1.leave (v := some (.int (1 : Int32))) (fun h => by rw [Bd.returns] at h; cases h)
    refine ⟨_, _, pre3 _ ?_, hrun, hended, _, _, rfl, ?_, ⟨_, rfl⟩, hW, hsame.mono (by decide) (by decide)⟩
    · show Steps p.tables e below (T1.setTop (mkF m 5 #[.val (.ref a)] [(.int n')])) _
      refine XS.ifNo X1.here hx rfl (hb hby d9_5) rfl ((if0 _ _).trans (teq hc5_4).2) ?_
      show Steps p.tables e below (T1.setTop (mkF m 8 #[.val (.ref a)] [])) _
      refine XS.iconst X1.here hx rfl (hb hby d9_8) ?_
      show Steps p.tables e below (T1.setTop (mkF m 9 #[.val (.ref a)] [(.int (1 : Int32))])) _
      refine XS.goto X1.here hx rfl (pc0 := 9) (pc' := 13) rfl (hb hby d9_9) (by decide) (by decide) ?_
      show Steps p.tables e below (T1.setTop (mkF m 13 #[.val (.ref a)] [(.int (1 : Int32))])) _
      exact retN X1 hx (t := .boolean) Bd.returns (by simp) (hb hby d9_13) hr
    · show Q9 Z a n' x g' h0 n0 _ T1.heap _
      rw [e1]
      exact ⟨by rw [own_emp, if_pos hc5_4], N0, rfl⟩
  · obtain ⟨fs, hr, hrun, hended, hW, hsame⟩ := X1.leave (v := some (.int (0 : Int32))) (fun h => by rw [Bd.returns] at h; cases h)
    refine ⟨_, _, pre3 _ ?_, hrun, hended, _, _, rfl, ?_, ⟨_, rfl⟩, hW, hsame.mono (by decide) (by decide)⟩
    · show Steps p.tables e below (T1.setTop (mkF m 5 #[.val (.ref a)] [(.int n')])) _
      refine XS.ifYes X1.here hx rfl (pc0 := 5) (pc' := 12) rfl (hb hby d9_5) rfl ((if0 _ _).trans (feq hc5_4).2) (by decide) (by decide) ?_
      show Steps p.tables e below (T1.setTop (mkF m 12 #[.val (.ref a)] [])) _
      refine XS.iconst X1.here hx rfl (hb hby d9_12) ?_
      show Steps p.tables e below (T1.setTop (mkF m 13 #[.val (.ref a)] [(.int (0 : Int32))])) _
      exact retN X1 hx (t := .boolean) Bd.returns (by simp) (hb hby d9_13) hr
    · show Q9 Z a n' x g' h0 n0 _ T1.heap _
      rw [e1]
      exact ⟨by rw [own_emp, if_neg hc5_4], N0, rfl⟩
theorem d1n_0 : decode prog_143_method_56_code 0 = .ok (.aload_n 0, 1) := by decide +kernel
theorem d1n_1 : decode prog_143_method_56_code 1 = .ok (.ifnull 10, 3) := by decide +kernel
theorem d1n_11 : decode prog_143_method_56_code 11 = .ok (.aconst_null, 1) := by decide +kernel
theorem d1n_12 : decode prog_143_method_56_code 12 = .ok (.goto 4, 3) := by decide +kernel
theorem d1n_16 : decode prog_143_method_56_code 16 = .ok (.areturn, 1) := by decide +kernel
theorem pn_1n : plainName "com/example/inject2/inject2/xml/BeanFileReader" = true := by first | (simp [plainName, overriddenIn]; done) | decide +kernel
theorem ef_1n (m : MethodId)  : entryFrame m #[.null] 1 = mkF m 0 #[.val .null] [] := by first | (simp [entryFrame, mkF, argsToLocals, Value.category]; done) | rfl
def Q1n (Z : State)  (h0 : Heap) (n0 : Nat) (v : Option Value) (h : Heap) (L : List Loc) : Prop := v = some .null ∧ Fr n0 L ∧ h = h0
set_option maxRecDepth 65536 in
set_option maxHeartbeats 40000000 in
theorem rm1n (l : Launch) (Z : State) (a0 : Array Value) (hw : ∀ d ∈ tables_1, d.before a0 Z = true) (ws : List Jvm.Cond)  (h0 : Heap) (n0 : Nat) (Z0 : n0 ≤ h0.size)  :
    MetFree l (⟨"com/example/inject2/inject2/xml/BeanFileReader", "nonEmpty", "(Ljava/lang/String;)Ljava/lang/String;"⟩ : MethodName) (head1 (Jvm.Cond.code (⟨"com/example/inject2/inject2/xml/BeanFileReader", "nonEmpty", "(Ljava/lang/String;)Ljava/lang/String;"⟩ : MethodName) prog_143_method_56_code 1 (some (.object "java/lang/String")) :: ws) ({ frames := 0, cells := 0, slots := 0, locals := 0 } : Room)) (fun ar U => ar = #[.null] ∧ Z.Warmed39 U.vm ∧ U.heap = h0) (fun _ _ _ _ _ => True) (fun _ U o U' => ∃ v L, o = .returned v ∧ Q1n Z  h0 n0 v U'.heap L ∧ FrameEnd U o U' L ({ frames := 0, cells := 0, slots := 0, locals := 0 } : Room).cells ({ frames := 0, cells := 0, slots := 0, locals := 0 } : Room).slots) := by
  refine MetFree.of_bodySF (plainFor_of_name pn_1n) hisR ?_
  intro p e s m args below meth c s₁ Bd hml0 hP hK
  obtain ⟨rfl, hZ, hh⟩ := hP
  have hx := Bd.exec
  have hby := Bd.bytes
  have hml : c.maxLocals = 1 := hml0
  have hown : s.vm.findClass "com/example/inject2/inject2/xml/BeanFileReader" = some m.cls := findClass_of_methodNamed Bd.named
  have hnm := (name_of_methodNamed Bd.named Bd.method).1
  have X0 : Stand p l e ({ frames := 0, cells := 0, slots := 0, locals := 0 } : Room) s m #[.null] below meth c s₁ [] 0 0 := Stand.of_body Bd
  have e0 : s₁.heap = h0 := by rw [← hh, Bd.state]; rfl
  have N0 := Fr.nil n0
  have K0 : Keep h0 h0 [] := Keep.refl h0 _
  have pre0 : ∀ t, Steps p.tables e below (s₁.setTop (mkF m 0 #[.val .null] [])) t → Steps p.tables e below (s₁.setTop (entryFrame m #[.null] 1)) t := fun t k => castTop (ef_1n m ) k
  obtain ⟨fs, hr, hrun, hended, hW, hsame⟩ := X0.leave (v := some .null) (fun h => by rw [Bd.returns] at h; cases h)
  refine ⟨_, _, pre0 _ ?_, hrun, hended, _, _, rfl, ?_, ⟨_, rfl⟩, hW, hsame.mono (by decide) (by decide)⟩
  · show Steps p.tables e below (s₁.setTop (mkF m 0 #[.val .null] [])) _
    refine XS.aloadN X0.here hx rfl (hb hby d1n_0) rfl rfl ?_
    show Steps p.tables e below (s₁.setTop (mkF m 1 #[.val .null] [.null])) _
    refine XS.ifnullYes X0.here hx rfl (pc0 := 1) (pc' := 11) rfl (hb hby d1n_1) rfl (by decide) (by decide) ?_
    show Steps p.tables e below (s₁.setTop (mkF m 11 #[.val .null] [])) _
    refine XS.aconstNull X0.here hx rfl (hb hby d1n_11) ?_
    show Steps p.tables e below (s₁.setTop (mkF m 12 #[.val .null] [.null])) _
    refine XS.goto X0.here hx rfl (pc0 := 12) (pc' := 16) rfl (hb hby d1n_12) (by decide) (by decide) ?_
    show Steps p.tables e below (s₁.setTop (mkF m 16 #[.val .null] [.null])) _
    exact retOut X0 hx Bd.returns rfl (Or.inr (Or.inr (Or.inr (Or.inr ⟨rfl, rfl, rfl⟩)))) (hb hby d1n_16) hr
  · show Q1n Z  h0 n0 _ s₁.heap _
    rw [e0]
    exact ⟨rfl, N0, rfl⟩
theorem d1e_0 : decode prog_143_method_56_code 0 = .ok (.aload_n 0, 1) := by decide +kernel
theorem d1e_1 : decode prog_143_method_56_code 1 = .ok (.ifnull 10, 3) := by decide +kernel
theorem d1e_4 : decode prog_143_method_56_code 4 = .ok (.aload_n 0, 1) := by decide +kernel
theorem d1e_5 : decode prog_143_method_56_code 5 = .ok (.invokevirtual 794, 3) := by decide +kernel
theorem d1e_8 : decode prog_143_method_56_code 8 = .ok (.ifCond .eq 7, 3) := by decide +kernel
theorem d1e_11 : decode prog_143_method_56_code 11 = .ok (.aconst_null, 1) := by decide +kernel
theorem d1e_12 : decode prog_143_method_56_code 12 = .ok (.goto 4, 3) := by decide +kernel
theorem d1e_16 : decode prog_143_method_56_code 16 = .ok (.areturn, 1) := by decide +kernel
theorem pn_1e : plainName "com/example/inject2/inject2/xml/BeanFileReader" = true := by first | (simp [plainName, overriddenIn]; done) | decide +kernel
theorem pd1e_0 : parseMethodDescriptor "()Z" = some ⟨[], some .boolean⟩ := by decide +kernel
theorem ef_1e (m : MethodId) (x0 : Addr) : entryFrame m #[(.ref x0)] 1 = mkF m 0 #[.val (.ref x0)] [] := by first | (simp [entryFrame, mkF, argsToLocals, Value.category]; done) | rfl
def Q1e (Z : State) (a : Addr) (n' : Int32) (x : Addr) (g' : Nat → Int32) (h0 : Heap) (n0 : Nat) (v : Option Value) (h : Heap) (L : List Loc) : Prop := v = some .null ∧ Fr n0 L ∧ h = h0
set_option maxRecDepth 65536 in
set_option maxHeartbeats 40000000 in
theorem rm1e (l : Launch) (Z : State) (a0 : Array Value) (hw : ∀ d ∈ tables_1, d.before a0 Z = true) (ws : List Jvm.Cond) (a : Addr) (n' : Int32) (x : Addr) (g' : Nat → Int32) (h0 : Heap) (n0 : Nat) (Z0 : n0 ≤ h0.size) (E_a : Exa Z h0 a "java/lang/String") (F_value_a : Fld Z h0 a "java/lang/String" "value" "[B" (.ref x)) (V_x : own_A Z h0 x .byte n' g') (hn : n' = (0 : Int32)) :
    MetFree l (⟨"com/example/inject2/inject2/xml/BeanFileReader", "nonEmpty", "(Ljava/lang/String;)Ljava/lang/String;"⟩ : MethodName) (head1 (Jvm.Cond.code (⟨"com/example/inject2/inject2/xml/BeanFileReader", "nonEmpty", "(Ljava/lang/String;)Ljava/lang/String;"⟩ : MethodName) prog_143_method_56_code 1 (some (.object "java/lang/String")) :: ws) ({ frames := 1, cells := 0, slots := 0, locals := 12 } : Room)) (fun ar U => ar = #[(.ref a)] ∧ Z.Warmed39 U.vm ∧ U.heap = h0) (fun _ _ _ _ _ => True) (fun _ U o U' => ∃ v L, o = .returned v ∧ Q1e Z a n' x g' h0 n0 v U'.heap L ∧ FrameEnd U o U' L ({ frames := 1, cells := 0, slots := 0, locals := 12 } : Room).cells ({ frames := 1, cells := 0, slots := 0, locals := 12 } : Room).slots) := by
  refine MetFree.of_bodySF (plainFor_of_name pn_1e) hisR ?_
  intro p e s m args below meth c s₁ Bd hml0 hP hK
  obtain ⟨rfl, hZ, hh⟩ := hP
  have hx := Bd.exec
  have hby := Bd.bytes
  have hml : c.maxLocals = 1 := hml0
  have hown : s.vm.findClass "com/example/inject2/inject2/xml/BeanFileReader" = some m.cls := findClass_of_methodNamed Bd.named
  have hnm := (name_of_methodNamed Bd.named Bd.method).1
  have X0 : Stand p l e ({ frames := 1, cells := 0, slots := 0, locals := 12 } : Room) s m #[(.ref a)] below meth c s₁ [] 0 0 := Stand.of_body Bd
  have e0 : s₁.heap = h0 := by rw [← hh, Bd.state]; rfl
  have N0 := Fr.nil n0
  have K0 : Keep h0 h0 [] := Keep.refl h0 _
  have pre0 : ∀ t, Steps p.tables e below (s₁.setTop (mkF m 0 #[.val (.ref a)] [])) t → Steps p.tables e below (s₁.setTop (entryFrame m #[(.ref a)] 1)) t := fun t k => castTop (ef_1e m a) k
  obtain ⟨cq1, kq1, q1a, q1b, q1c⟩ := isOf hZ e0 E_a
  obtain ⟨_, _, ⟨T1, L1, k1, n1⟩, -, X1, ⟨Lc1, hQ1, l1, y1, z1⟩, st1⟩ := X0.virtualBack hx (y := (⟨"java/lang/String", "isEmpty", "()Z"⟩ : MethodName)) (z := (⟨"java/lang/String", "isEmpty", "()Z"⟩ : MethodName)) hown (mvT hZ (hw _ (List.mem_of_getElem? (i := 38) rfl))) (mvT hZ (hw _ (List.mem_of_getElem? (i := 39) rfl))) (notFace_of_selects (args := #[]) (mvT hZ (hw _ (List.mem_of_getElem? (i := 41) rfl)))) (mvT hZ (hw _ (List.mem_of_getElem? (i := 41) rfl))) (mvT hZ (hw _ (List.mem_of_getElem? (i := 40) rfl))) (by decide) (backOf (W := 0) (rm9 l Z a0 hw [] a n' x g' h0 n0 Z0 F_value_a V_x) hZ (hw _ (List.mem_of_getElem? (i := 42) rfl)) (hw _ (List.mem_of_getElem? (i := 10) rfl)) (by decide) (by decide)) q1a q1c (g := (mkF m 5 #[.val (.ref a)] [(.ref a)])) rfl (by rw [hml]; rfl) (Steps.refl _) (argsL := []) (rest := []) (lenOf pd1e_0 rfl) rfl (by show 2 * 0 + _ ≤ _; exact Nat.le_of_eq rfl) (hb hby d1e_5) (fun _ _ => ⟨rfl, e0, (by decide : 0 + 0 ≤ _), (by decide : 0 + 0 ≤ _)⟩)
  dsimp only [Pt.U, Pt.locs, Pt.cells, Pt.slots] at X1 l1 y1 z1 st1 hQ1
  subst l1 y1 z1
  obtain ⟨rfl, N1q, hh1⟩ := hQ1
  have N1 := Fr.app N0 N1q
  obtain ⟨fs, hr, hrun, hended, hW, hsame⟩ := X1.leave (v := some .null) (fun h => by rw [Bd.returns] at h; cases h)
  refine ⟨_, _, pre0 _ ?_, hrun, hended, _, _, rfl, ?_, ⟨_, rfl⟩, hW, hsame.mono (by decide) (by decide)⟩
  · show Steps p.tables e below (s₁.setTop (mkF m 0 #[.val (.ref a)] [])) _
    refine XS.aloadN X0.here hx rfl (hb hby d1e_0) rfl rfl ?_
    show Steps p.tables e below (s₁.setTop (mkF m 1 #[.val (.ref a)] [(.ref a)])) _
    refine XS.ifnullNo X0.here hx rfl (hb hby d1e_1) rfl ?_
    show Steps p.tables e below (s₁.setTop (mkF m 4 #[.val (.ref a)] [])) _
    refine XS.aloadN X0.here hx rfl (hb hby d1e_4) rfl rfl ?_
    show Steps p.tables e below (s₁.setTop (mkF m 5 #[.val (.ref a)] [(.ref a)])) _
    refine st1.trans ?_
    show Steps p.tables e below (T1.setTop (mkF m 8 #[.val (.ref a)] [(.int (own_emp n'))])) _
    refine XS.ifNo X1.here hx rfl (hb hby d1e_8) rfl ((if0 _ _).trans (feq (by rw [own_emp, if_pos hn]; decide)).1) ?_
    show Steps p.tables e below (T1.setTop (mkF m 11 #[.val (.ref a)] [])) _
    refine XS.aconstNull X1.here hx rfl (hb hby d1e_11) ?_
    show Steps p.tables e below (T1.setTop (mkF m 12 #[.val (.ref a)] [.null])) _
    refine XS.goto X1.here hx rfl (pc0 := 12) (pc' := 16) rfl (hb hby d1e_12) (by decide) (by decide) ?_
    show Steps p.tables e below (T1.setTop (mkF m 16 #[.val (.ref a)] [.null])) _
    exact retOut X1 hx Bd.returns rfl (Or.inr (Or.inr (Or.inr (Or.inr ⟨rfl, rfl, rfl⟩)))) (hb hby d1e_16) hr
  · show Q1e Z a n' x g' h0 n0 _ T1.heap _
    rw [hh1]
    exact ⟨rfl, N1, rfl⟩
theorem d1r_0 : decode prog_143_method_56_code 0 = .ok (.aload_n 0, 1) := by decide +kernel
theorem d1r_1 : decode prog_143_method_56_code 1 = .ok (.ifnull 10, 3) := by decide +kernel
theorem d1r_4 : decode prog_143_method_56_code 4 = .ok (.aload_n 0, 1) := by decide +kernel
theorem d1r_5 : decode prog_143_method_56_code 5 = .ok (.invokevirtual 794, 3) := by decide +kernel
theorem d1r_8 : decode prog_143_method_56_code 8 = .ok (.ifCond .eq 7, 3) := by decide +kernel
theorem d1r_15 : decode prog_143_method_56_code 15 = .ok (.aload_n 0, 1) := by decide +kernel
theorem d1r_16 : decode prog_143_method_56_code 16 = .ok (.areturn, 1) := by decide +kernel
theorem pn_1r : plainName "com/example/inject2/inject2/xml/BeanFileReader" = true := by first | (simp [plainName, overriddenIn]; done) | decide +kernel
theorem pd1r_0 : parseMethodDescriptor "()Z" = some ⟨[], some .boolean⟩ := by decide +kernel
theorem ef_1r (m : MethodId) (x0 : Addr) : entryFrame m #[(.ref x0)] 1 = mkF m 0 #[.val (.ref x0)] [] := by first | (simp [entryFrame, mkF, argsToLocals, Value.category]; done) | rfl
def Q1r (Z : State) (a : Addr) (n' : Int32) (x : Addr) (g' : Nat → Int32) (h0 : Heap) (n0 : Nat) (v : Option Value) (h : Heap) (L : List Loc) : Prop := v = some (.ref a) ∧ Fr n0 L ∧ h = h0
set_option maxRecDepth 65536 in
set_option maxHeartbeats 40000000 in
theorem rm1r (l : Launch) (Z : State) (a0 : Array Value) (hw : ∀ d ∈ tables_1, d.before a0 Z = true) (ws : List Jvm.Cond) (a : Addr) (n' : Int32) (x : Addr) (g' : Nat → Int32) (h0 : Heap) (n0 : Nat) (Z0 : n0 ≤ h0.size) (E_a : Exa Z h0 a "java/lang/String") (F_value_a : Fld Z h0 a "java/lang/String" "value" "[B" (.ref x)) (V_x : own_A Z h0 x .byte n' g') (hn : ¬ n' = (0 : Int32)) :
    MetFree l (⟨"com/example/inject2/inject2/xml/BeanFileReader", "nonEmpty", "(Ljava/lang/String;)Ljava/lang/String;"⟩ : MethodName) (head1 (Jvm.Cond.code (⟨"com/example/inject2/inject2/xml/BeanFileReader", "nonEmpty", "(Ljava/lang/String;)Ljava/lang/String;"⟩ : MethodName) prog_143_method_56_code 1 (some (.object "java/lang/String")) :: ws) ({ frames := 1, cells := 0, slots := 0, locals := 12 } : Room)) (fun ar U => ar = #[(.ref a)] ∧ Z.Warmed39 U.vm ∧ U.heap = h0) (fun _ _ _ _ _ => True) (fun _ U o U' => ∃ v L, o = .returned v ∧ Q1r Z a n' x g' h0 n0 v U'.heap L ∧ FrameEnd U o U' L ({ frames := 1, cells := 0, slots := 0, locals := 12 } : Room).cells ({ frames := 1, cells := 0, slots := 0, locals := 12 } : Room).slots) := by
  refine MetFree.of_bodySF (plainFor_of_name pn_1r) hisR ?_
  intro p e s m args below meth c s₁ Bd hml0 hP hK
  obtain ⟨rfl, hZ, hh⟩ := hP
  have hx := Bd.exec
  have hby := Bd.bytes
  have hml : c.maxLocals = 1 := hml0
  have hown : s.vm.findClass "com/example/inject2/inject2/xml/BeanFileReader" = some m.cls := findClass_of_methodNamed Bd.named
  have hnm := (name_of_methodNamed Bd.named Bd.method).1
  have X0 : Stand p l e ({ frames := 1, cells := 0, slots := 0, locals := 12 } : Room) s m #[(.ref a)] below meth c s₁ [] 0 0 := Stand.of_body Bd
  have e0 : s₁.heap = h0 := by rw [← hh, Bd.state]; rfl
  have N0 := Fr.nil n0
  have K0 : Keep h0 h0 [] := Keep.refl h0 _
  have pre0 : ∀ t, Steps p.tables e below (s₁.setTop (mkF m 0 #[.val (.ref a)] [])) t → Steps p.tables e below (s₁.setTop (entryFrame m #[(.ref a)] 1)) t := fun t k => castTop (ef_1r m a) k
  obtain ⟨cq1, kq1, q1a, q1b, q1c⟩ := isOf hZ e0 E_a
  obtain ⟨_, _, ⟨T1, L1, k1, n1⟩, -, X1, ⟨Lc1, hQ1, l1, y1, z1⟩, st1⟩ := X0.virtualBack hx (y := (⟨"java/lang/String", "isEmpty", "()Z"⟩ : MethodName)) (z := (⟨"java/lang/String", "isEmpty", "()Z"⟩ : MethodName)) hown (mvT hZ (hw _ (List.mem_of_getElem? (i := 38) rfl))) (mvT hZ (hw _ (List.mem_of_getElem? (i := 39) rfl))) (notFace_of_selects (args := #[]) (mvT hZ (hw _ (List.mem_of_getElem? (i := 41) rfl)))) (mvT hZ (hw _ (List.mem_of_getElem? (i := 41) rfl))) (mvT hZ (hw _ (List.mem_of_getElem? (i := 40) rfl))) (by decide) (backOf (W := 0) (rm9 l Z a0 hw [] a n' x g' h0 n0 Z0 F_value_a V_x) hZ (hw _ (List.mem_of_getElem? (i := 42) rfl)) (hw _ (List.mem_of_getElem? (i := 10) rfl)) (by decide) (by decide)) q1a q1c (g := (mkF m 5 #[.val (.ref a)] [(.ref a)])) rfl (by rw [hml]; rfl) (Steps.refl _) (argsL := []) (rest := []) (lenOf pd1r_0 rfl) rfl (by show 2 * 0 + _ ≤ _; exact Nat.le_of_eq rfl) (hb hby d1r_5) (fun _ _ => ⟨rfl, e0, (by decide : 0 + 0 ≤ _), (by decide : 0 + 0 ≤ _)⟩)
  dsimp only [Pt.U, Pt.locs, Pt.cells, Pt.slots] at X1 l1 y1 z1 st1 hQ1
  subst l1 y1 z1
  obtain ⟨rfl, N1q, hh1⟩ := hQ1
  have N1 := Fr.app N0 N1q
  obtain ⟨fs, hr, hrun, hended, hW, hsame⟩ := X1.leave (v := some (.ref a)) (fun h => by rw [Bd.returns] at h; cases h)
  refine ⟨_, _, pre0 _ ?_, hrun, hended, _, _, rfl, ?_, ⟨_, rfl⟩, hW, hsame.mono (by decide) (by decide)⟩
  · show Steps p.tables e below (s₁.setTop (mkF m 0 #[.val (.ref a)] [])) _
    refine XS.aloadN X0.here hx rfl (hb hby d1r_0) rfl rfl ?_
    show Steps p.tables e below (s₁.setTop (mkF m 1 #[.val (.ref a)] [(.ref a)])) _
    refine XS.ifnullNo X0.here hx rfl (hb hby d1r_1) rfl ?_
    show Steps p.tables e below (s₁.setTop (mkF m 4 #[.val (.ref a)] [])) _
    refine XS.aloadN X0.here hx rfl (hb hby d1r_4) rfl rfl ?_
    show Steps p.tables e below (s₁.setTop (mkF m 5 #[.val (.ref a)] [(.ref a)])) _
    refine st1.trans ?_
    show Steps p.tables e below (T1.setTop (mkF m 8 #[.val (.ref a)] [(.int (own_emp n'))])) _
    refine XS.ifYes X1.here hx rfl (pc0 := 8) (pc' := 15) rfl (hb hby d1r_8) rfl ((if0 _ _).trans (teq (by rw [own_emp, if_neg hn])).1) (by decide) (by decide) ?_
    show Steps p.tables e below (T1.setTop (mkF m 15 #[.val (.ref a)] [])) _
    refine XS.aloadN X1.here hx rfl (hb hby d1r_15) rfl rfl ?_
    show Steps p.tables e below (T1.setTop (mkF m 16 #[.val (.ref a)] [(.ref a)])) _
    exact retOut X1 hx Bd.returns rfl (Or.inr (Or.inr (Or.inr (Or.inr ⟨rfl, rfl, rfl⟩)))) (hb hby d1r_16) hr
  · show Q1r Z a n' x g' h0 n0 _ T1.heap _
    rw [hh1]
    exact ⟨rfl, N1, rfl⟩
theorem d14_0 : decode jdk_52_method_3_code 0 = .ok (.iload_n 0, 1) := by decide +kernel
theorem d14_1 : decode jdk_52_method_3_code 1 = .ok (.ifCond .ge 11, 3) := by decide +kernel
theorem d14_12 : decode jdk_52_method_3_code 12 = .ok (.iload_n 0, 1) := by decide +kernel
theorem d14_13 : decode jdk_52_method_3_code 13 = .ok (.ldc 20, 2) := by decide +kernel
theorem d14_15 : decode jdk_52_method_3_code 15 = .ok (.if_icmp .lt 40, 3) := by decide +kernel
theorem d14_55 : decode jdk_52_method_3_code 55 = .ok (.iload_n 0, 1) := by decide +kernel
theorem d14_56 : decode jdk_52_method_3_code 56 = .ok (.iconst 1, 1) := by decide +kernel
theorem d14_57 : decode jdk_52_method_3_code 57 = .ok (.ishl, 1) := by decide +kernel
theorem d14_58 : decode jdk_52_method_3_code 58 = .ok (.ireturn, 1) := by decide +kernel
theorem pn_14 : plainName "java/lang/StringUTF16" = true := by first | (simp [plainName, overriddenIn]; done) | decide +kernel
theorem ef_14 (m : MethodId) (x0 : Int32) : entryFrame m #[(.int x0)] 1 = mkF m 0 #[.val (.int x0)] [] := by first | (simp [entryFrame, mkF, argsToLocals, Value.category]; done) | rfl
def Q14 (Z : State) (l' : Int32) (h0 : Heap) (n0 : Nat) (v : Option Value) (h : Heap) (L : List Loc) : Prop := v = some (.int (l' <<< ((1 : Int32) &&& 31))) ∧ Fr n0 L ∧ h = h0
set_option maxRecDepth 65536 in
set_option maxHeartbeats 40000000 in
theorem rm14 (l : Launch) (Z : State) (a0 : Array Value) (hw : ∀ d ∈ tables_1, d.before a0 Z = true) (ws : List Jvm.Cond) (l' : Int32) (h0 : Heap) (n0 : Nat) (Z0 : n0 ≤ h0.size) (h1 : ¬ l' < (0 : Int32)) (h2 : l' < (1073741823 : Int32)) :
    MetFree l (⟨"java/lang/StringUTF16", "newBytesLength", "(I)I"⟩ : MethodName) (head1 (Jvm.Cond.code (⟨"java/lang/StringUTF16", "newBytesLength", "(I)I"⟩ : MethodName) jdk_52_method_3_code 1 (some .int) :: ws) ({ frames := 0, cells := 0, slots := 0, locals := 0 } : Room)) (fun ar U => ar = #[(.int l')] ∧ Z.Warmed39 U.vm ∧ U.heap = h0) (fun _ _ _ _ _ => True) (fun _ U o U' => ∃ v L, o = .returned v ∧ Q14 Z l' h0 n0 v U'.heap L ∧ FrameEnd U o U' L ({ frames := 0, cells := 0, slots := 0, locals := 0 } : Room).cells ({ frames := 0, cells := 0, slots := 0, locals := 0 } : Room).slots) := by
  refine MetFree.of_bodySF (plainFor_of_name pn_14) hisR ?_
  intro p e s m args below meth c s₁ Bd hml0 hP hK
  obtain ⟨rfl, hZ, hh⟩ := hP
  have hx := Bd.exec
  have hby := Bd.bytes
  have hml : c.maxLocals = 1 := hml0
  have hown : s.vm.findClass "java/lang/StringUTF16" = some m.cls := findClass_of_methodNamed Bd.named
  have hnm := (name_of_methodNamed Bd.named Bd.method).1
  have X0 : Stand p l e ({ frames := 0, cells := 0, slots := 0, locals := 0 } : Room) s m #[(.int l')] below meth c s₁ [] 0 0 := Stand.of_body Bd
  have e0 : s₁.heap = h0 := by rw [← hh, Bd.state]; rfl
  have N0 := Fr.nil n0
  have K0 : Keep h0 h0 [] := Keep.refl h0 _
  have pre0 : ∀ t, Steps p.tables e below (s₁.setTop (mkF m 0 #[.val (.int l')] [])) t → Steps p.tables e below (s₁.setTop (entryFrame m #[(.int l')] 1)) t := fun t k => castTop (ef_14 m l') k
  obtain ⟨fs, hr, hrun, hended, hW, hsame⟩ := X0.leave (v := some (.int (l' <<< ((1 : Int32) &&& 31)))) (fun h => by rw [Bd.returns] at h; cases h)
  refine ⟨_, _, pre0 _ ?_, hrun, hended, _, _, rfl, ?_, ⟨_, rfl⟩, hW, hsame.mono (by decide) (by decide)⟩
  · show Steps p.tables e below (s₁.setTop (mkF m 0 #[.val (.int l')] [])) _
    refine XS.iloadN X0.here hx rfl (hb hby d14_0) rfl ?_
    show Steps p.tables e below (s₁.setTop (mkF m 1 #[.val (.int l')] [(.int l')])) _
    refine XS.ifYes X0.here hx rfl (pc0 := 1) (pc' := 12) rfl (hb hby d14_1) rfl ((if0 _ _).trans (flt h1).2.1) (by decide) (by decide) ?_
    show Steps p.tables e below (s₁.setTop (mkF m 12 #[.val (.int l')] [])) _
    refine XS.iloadN X0.here hx rfl (hb hby d14_12) rfl ?_
    show Steps p.tables e below (s₁.setTop (mkF m 13 #[.val (.int l')] [(.int l')])) _
    refine X0.ldcInt hx hown (mvT hZ (hw _ (List.mem_of_getElem? (i := 62) rfl))) (g := (mkF m 13 #[.val (.int l')] [(.int l')])) rfl (hb hby d14_13) _ ?_
    show Steps p.tables e below (s₁.setTop (mkF m 15 #[.val (.int l')] [(.int (1073741823 : Int32)), (.int l')])) _
    refine XS.icmpYes X0.here hx rfl (pc0 := 15) (pc' := 55) rfl (hb hby d14_15) rfl (tlt h2).1 (by decide) (by decide) ?_
    show Steps p.tables e below (s₁.setTop (mkF m 55 #[.val (.int l')] [])) _
    refine XS.iloadN X0.here hx rfl (hb hby d14_55) rfl ?_
    show Steps p.tables e below (s₁.setTop (mkF m 56 #[.val (.int l')] [(.int l')])) _
    refine XS.iconst X0.here hx rfl (hb hby d14_56) ?_
    show Steps p.tables e below (s₁.setTop (mkF m 57 #[.val (.int l')] [(.int (1 : Int32)), (.int l')])) _
    refine XS.ishl X0.here hx rfl (hb hby d14_57) rfl ?_
    show Steps p.tables e below (s₁.setTop (mkF m 58 #[.val (.int l')] [(.int (l' <<< ((1 : Int32) &&& 31)))])) _
    exact retOut X0 hx Bd.returns rfl (Or.inl ⟨rfl, Or.inl rfl, _, rfl⟩) (hb hby d14_58) hr
  · show Q14 Z l' h0 n0 _ s₁.heap _
    rw [e0]
    exact ⟨rfl, N0, rfl⟩
theorem d13_0 : decode jdk_52_method_2_code 0 = .ok (.iload_n 0, 1) := by decide +kernel
theorem d13_1 : decode jdk_52_method_2_code 1 = .ok (.invokestatic 11, 3) := by decide +kernel
theorem d13_4 : decode jdk_52_method_2_code 4 = .ok (.newarray .byte, 2) := by decide +kernel
theorem d13_6 : decode jdk_52_method_2_code 6 = .ok (.areturn, 1) := by decide +kernel
theorem pn_13 : plainName "java/lang/StringUTF16" = true := by first | (simp [plainName, overriddenIn]; done) | decide +kernel
theorem pd13_0 : parseMethodDescriptor "(I)I" = some ⟨[.int], some .int⟩ := by decide +kernel
theorem ef_13 (m : MethodId) (x0 : Int32) : entryFrame m #[(.int x0)] 1 = mkF m 0 #[.val (.int x0)] [] := by first | (simp [entryFrame, mkF, argsToLocals, Value.category]; done) | rfl
def Q13 (Z : State) (l' : Int32) (h0 : Heap) (n0 : Nat) (v : Option Value) (h : Heap) (L : List Loc) : Prop := ∃ (r : Addr), v = some (.ref r) ∧ Fr n0 L ∧ Keep h0 h [] ∧ n0 ≤ r ∧ h0.size ≤ r ∧ own_A Z h r .byte (l' <<< ((1 : Int32) &&& 31)) (fun _ => 0)
set_option maxRecDepth 65536 in
set_option maxHeartbeats 40000000 in
theorem rm13 (l : Launch) (Z : State) (a0 : Array Value) (hw : ∀ d ∈ tables_1, d.before a0 Z = true) (ws : List Jvm.Cond) (l' : Int32) (h0 : Heap) (n0 : Nat) (Z0 : n0 ≤ h0.size) (hl : 1 ≤ l'.toInt ∧ l'.toInt ≤ 3) :
    MetFree l (⟨"java/lang/StringUTF16", "newBytesFor", "(I)[B"⟩ : MethodName) (head1 (Jvm.Cond.code (⟨"java/lang/StringUTF16", "newBytesFor", "(I)[B"⟩ : MethodName) jdk_52_method_2_code 1 (some (.array .byte)) :: ws) ({ frames := 1, cells := 1, slots := 6, locals := 12 } : Room)) (fun ar U => ar = #[(.int l')] ∧ Z.Warmed39 U.vm ∧ U.heap = h0) (fun _ _ _ _ _ => True) (fun _ U o U' => ∃ v L, o = .returned v ∧ Q13 Z l' h0 n0 v U'.heap L ∧ FrameEnd U o U' L ({ frames := 1, cells := 1, slots := 6, locals := 12 } : Room).cells ({ frames := 1, cells := 1, slots := 6, locals := 12 } : Room).slots) := by
  refine MetFree.of_bodySF (plainFor_of_name pn_13) hisR ?_
  intro p e s m args below meth c s₁ Bd hml0 hP hK
  obtain ⟨rfl, hZ, hh⟩ := hP
  have hx := Bd.exec
  have hby := Bd.bytes
  have hml : c.maxLocals = 1 := hml0
  have hown : s.vm.findClass "java/lang/StringUTF16" = some m.cls := findClass_of_methodNamed Bd.named
  have hnm := (name_of_methodNamed Bd.named Bd.method).1
  have X0 : Stand p l e ({ frames := 1, cells := 1, slots := 6, locals := 12 } : Room) s m #[(.int l')] below meth c s₁ [] 0 0 := Stand.of_body Bd
  have e0 : s₁.heap = h0 := by rw [← hh, Bd.state]; rfl
  have N0 := Fr.nil n0
  have K0 : Keep h0 h0 [] := Keep.refl h0 _
  have pre0 : ∀ t, Steps p.tables e below (s₁.setTop (mkF m 0 #[.val (.int l')] [])) t → Steps p.tables e below (s₁.setTop (entryFrame m #[(.int l')] 1)) t := fun t k => castTop (ef_13 m l') k
  obtain ⟨_, _, ⟨T1, L1, k1, n1⟩, -, X1, ⟨Lc1, hQ1, l1, y1, z1⟩, st1⟩ := Jvm.LawKit.callS X0 hx (y := (⟨"java/lang/StringUTF16", "newBytesLength", "(I)I"⟩ : MethodName)) hown (mvT hZ (hw _ (List.mem_of_getElem? (i := 59) rfl))) (mvT hZ (hw _ (List.mem_of_getElem? (i := 60) rfl))) (mvT hZ (hw _ (List.mem_of_getElem? (i := 25) rfl))) (mvT hZ (hw _ (List.mem_of_getElem? (i := 61) rfl))) (by decide) (backOf (W := 0) (rm14 l Z a0 hw [] l' h0 n0 Z0 (own_l1 hl) (own_l2 hl)) hZ (hw _ (List.mem_of_getElem? (i := 61) rfl)) (hw _ (List.mem_of_getElem? (i := 25) rfl)) (by decide) (by decide)) (g := (mkF m 1 #[.val (.int l')] [(.int l')])) rfl (by rw [hml]; rfl) (argsL := [(.int l')]) (rest := []) (lenOf pd13_0 rfl) rfl (by show 2 * 0 + _ ≤ _; exact Nat.le_of_eq rfl) (hb hby d13_1) (fun _ _ => ⟨rfl, e0, (by decide : 0 + 0 ≤ _), (by decide : 0 + 0 ≤ _)⟩)
  dsimp only [Pt.U, Pt.locs, Pt.cells, Pt.slots] at X1 l1 y1 z1 st1 hQ1
  subst l1 y1 z1
  obtain ⟨rfl, N1q, hh1⟩ := hQ1
  have N1 := Fr.app N0 N1q
  obtain ⟨T2, h2, k2, X2, e2, E2, A2, st2⟩ := newP X1 hx hZ (hw _ (List.mem_of_getElem? (i := 27) rfl)) hh1 (g := (mkF m 4 #[.val (.int l')] [(.int (l' <<< ((1 : Int32) &&& 31)))])) rfl (hb hby d13_4) rfl (own_l3 hl) (cap := 6) (own_l4 hl) (by decide) (by decide) (by decide)
  obtain ⟨b2, g2⟩ : ∃ z, z = h0.size := ⟨_, rfl⟩
  rw [← g2] at A2 st2
  have g_b2 : n0 ≤ b2 := Nat.le_trans Z0 (Nat.le_of_eq g2.symm)
  have sz_b2 : h0.size ≤ b2 := Nat.le_trans K0.1 (Nat.le_of_eq g2.symm)
  have Zs2 : n0 ≤ h2.size := Nat.le_trans Z0 E2.1
  have K2 : Keep h0 h2 [] := K0.ext E2
  have V_b2 : own_A Z h2 b2 .byte (l' <<< ((1 : Int32) &&& 31)) (fun _ => 0) := own_A.new A2 (own_l3 hl) rfl
  obtain ⟨fs, hr, hrun, hended, hW, hsame⟩ := X2.leave (v := some (.ref b2)) (fun h => by rw [Bd.returns] at h; cases h)
  refine ⟨_, _, pre0 _ ?_, hrun, hended, _, _, rfl, ?_, ⟨_, rfl⟩, hW, hsame.mono (by decide) (by decide)⟩
  · show Steps p.tables e below (s₁.setTop (mkF m 0 #[.val (.int l')] [])) _
    refine XS.iloadN X0.here hx rfl (hb hby d13_0) rfl ?_
    show Steps p.tables e below (s₁.setTop (mkF m 1 #[.val (.int l')] [(.int l')])) _
    refine st1 _ ?_
    show Steps p.tables e below (T1.setTop (mkF m 4 #[.val (.int l')] [(.int (l' <<< ((1 : Int32) &&& 31)))])) _
    refine st2 _ ?_
    show Steps p.tables e below (T2.setTop (mkF m 6 #[.val (.int l')] [(.ref b2)])) _
    exact retOut X2 hx Bd.returns rfl (Or.inr (Or.inr (Or.inr (Or.inr ⟨rfl, rfl, rfl⟩)))) (hb hby d13_6) hr
  · show Q13 Z l' h0 n0 _ T2.heap _
    rw [e2]
    exact ⟨b2, rfl, N1, K2, g_b2, sz_b2, V_b2⟩
theorem d15_0 : decode jdk_52_method_4_code 0 = .ok (.getstatic 44, 3) := by decide +kernel
theorem d15_3 : decode jdk_52_method_4_code 3 = .ok (.ifCond .ne 25, 3) := by decide +kernel
theorem d15_28 : decode jdk_52_method_4_code 28 = .ok (.iload_n 1, 1) := by decide +kernel
theorem d15_29 : decode jdk_52_method_4_code 29 = .ok (.iconst 1, 1) := by decide +kernel
theorem d15_30 : decode jdk_52_method_4_code 30 = .ok (.ishl, 1) := by decide +kernel
theorem d15_31 : decode jdk_52_method_4_code 31 = .ok (.istore_n 1, 1) := by decide +kernel
theorem d15_32 : decode jdk_52_method_4_code 32 = .ok (.aload_n 0, 1) := by decide +kernel
theorem d15_33 : decode jdk_52_method_4_code 33 = .ok (.iload_n 1, 1) := by decide +kernel
theorem d15_34 : decode jdk_52_method_4_code 34 = .ok (.iinc 1 1, 3) := by decide +kernel
theorem d15_37 : decode jdk_52_method_4_code 37 = .ok (.iload_n 2, 1) := by decide +kernel
theorem d15_38 : decode jdk_52_method_4_code 38 = .ok (.getstatic 59, 3) := by decide +kernel
theorem d15_41 : decode jdk_52_method_4_code 41 = .ok (.ishr, 1) := by decide +kernel
theorem d15_42 : decode jdk_52_method_4_code 42 = .ok (.i2b, 1) := by decide +kernel
theorem d15_43 : decode jdk_52_method_4_code 43 = .ok (.bastore, 1) := by decide +kernel
theorem d15_44 : decode jdk_52_method_4_code 44 = .ok (.aload_n 0, 1) := by decide +kernel
theorem d15_45 : decode jdk_52_method_4_code 45 = .ok (.iload_n 1, 1) := by decide +kernel
theorem d15_46 : decode jdk_52_method_4_code 46 = .ok (.iload_n 2, 1) := by decide +kernel
theorem d15_47 : decode jdk_52_method_4_code 47 = .ok (.getstatic 63, 3) := by decide +kernel
theorem d15_50 : decode jdk_52_method_4_code 50 = .ok (.ishr, 1) := by decide +kernel
theorem d15_51 : decode jdk_52_method_4_code 51 = .ok (.i2b, 1) := by decide +kernel
theorem d15_52 : decode jdk_52_method_4_code 52 = .ok (.bastore, 1) := by decide +kernel
theorem d15_53 : decode jdk_52_method_4_code 53 = .ok (.return_, 1) := by decide +kernel
theorem pn_15 : plainName "java/lang/StringUTF16" = true := by first | (simp [plainName, overriddenIn]; done) | decide +kernel
theorem ef_15 (m : MethodId) (x0 : Addr) (x1 : Int32) (x2 : Int32) : entryFrame m #[(.ref x0), (.int x1), (.int x2)] 3 = mkF m 0 #[.val (.ref x0), .val (.int x1), .val (.int x2)] [] := by first | (simp [entryFrame, mkF, argsToLocals, Value.category]; done) | rfl
def Q15 (Z : State) (a : Addr) (i' : Int32) (c' : Int32) (cs' n' : Int32) (g' : Nat → Int32) (h0 : Heap) (n0 : Nat) (v : Option Value) (h : Heap) (L : List Loc) : Prop := v = none ∧ Fr n0 L ∧ Keep h0 h [a] ∧ own_A Z h a .byte n' (own_upd (own_upd g' ((i' <<< ((1 : Int32) &&& 31))).toNatClampNeg (nar .byte ((c' >>> ((0 : Int32) &&& 31)).toInt8.toInt32))) (((i' <<< ((1 : Int32) &&& 31)) + (1 : Int32))).toNatClampNeg (nar .byte ((c' >>> ((8 : Int32) &&& 31)).toInt8.toInt32)))
set_option maxRecDepth 65536 in
set_option maxHeartbeats 40000000 in
theorem rm15 (l : Launch) (Z : State) (a0 : Array Value) (hw : ∀ d ∈ tables_1, d.before a0 Z = true) (ws : List Jvm.Cond) (a : Addr) (i' : Int32) (c' : Int32) (cs' n' : Int32) (g' : Nat → Int32) (h0 : Heap) (n0 : Nat) (Z0 : n0 ≤ h0.size) (Od : Old Z n0 h0) (S_COMPACT_STRINGS : Sta Z Z.heap "java/lang/String" "COMPACT_STRINGS" "Z" (.int cs')) (S__assertionsDisabled : Sta Z Z.heap "java/lang/StringUTF16" "$assertionsDisabled" "Z" (.int (1 : Int32))) (S_HI_BYTE_SHIFT : Sta Z Z.heap "java/lang/StringUTF16" "HI_BYTE_SHIFT" "I" (.int (0 : Int32))) (S_LO_BYTE_SHIFT : Sta Z Z.heap "java/lang/StringUTF16" "LO_BYTE_SHIFT" "I" (.int (8 : Int32))) (hcs : ¬ cs' = (0 : Int32)) (V_a : own_A Z h0 a .byte n' g') (g_a : n0 ≤ a) (p0 : ¬ (i' <<< ((1 : Int32) &&& 31)) < 0 ∧ (i' <<< ((1 : Int32) &&& 31)) < n') (p1 : ¬ ((i' <<< ((1 : Int32) &&& 31)) + (1 : Int32)) < 0 ∧ ((i' <<< ((1 : Int32) &&& 31)) + (1 : Int32)) < n') :
    MetFree l (⟨"java/lang/StringUTF16", "putChar", "([BII)V"⟩ : MethodName) (head1 (Jvm.Cond.code (⟨"java/lang/StringUTF16", "putChar", "([BII)V"⟩ : MethodName) jdk_52_method_4_code 3 none :: ws) ({ frames := 0, cells := 0, slots := 0, locals := 0 } : Room)) (fun ar U => ar = #[(.ref a), (.int i'), (.int c')] ∧ Z.Warmed39 U.vm ∧ U.heap = h0) (fun _ _ _ _ _ => True) (fun _ U o U' => ∃ v L, o = .returned v ∧ Q15 Z a i' c' cs' n' g' h0 n0 v U'.heap L ∧ FrameEnd U o U' L ({ frames := 0, cells := 0, slots := 0, locals := 0 } : Room).cells ({ frames := 0, cells := 0, slots := 0, locals := 0 } : Room).slots) := by
  refine MetFree.of_bodySF (plainFor_of_name pn_15) hisR ?_
  intro p e s m args below meth c s₁ Bd hml0 hP hK
  obtain ⟨rfl, hZ, hh⟩ := hP
  have hx := Bd.exec
  have hby := Bd.bytes
  have hml : c.maxLocals = 3 := hml0
  have hown : s.vm.findClass "java/lang/StringUTF16" = some m.cls := findClass_of_methodNamed Bd.named
  have hnm := (name_of_methodNamed Bd.named Bd.method).1
  have X0 : Stand p l e ({ frames := 0, cells := 0, slots := 0, locals := 0 } : Room) s m #[(.ref a), (.int i'), (.int c')] below meth c s₁ [] 0 0 := Stand.of_body Bd
  have e0 : s₁.heap = h0 := by rw [← hh, Bd.state]; rfl
  have N0 := Fr.nil n0
  have K0 : Keep h0 h0 [a] := Keep.refl h0 _
  have pre0 : ∀ t, Steps p.tables e below (s₁.setTop (mkF m 0 #[.val (.ref a), .val (.int i'), .val (.int c')] [])) t → Steps p.tables e below (s₁.setTop (entryFrame m #[(.ref a), (.int i'), (.int c')] 3)) t := fun t k => castTop (ef_15 m a i' c') k
  obtain ⟨T1, X1, e1, st1⟩ := getS2 X0 hx hZ hown (host := "") (Or.inl (hw _ (List.mem_of_getElem? (i := 66) rfl))) Via.refl e0 (S__assertionsDisabled.ext Od.2) (g := (mkF m 0 #[.val (.ref a), .val (.int i'), .val (.int c')] [])) rfl (hb hby d15_0)
  obtain ⟨T2, X2, e2, st2⟩ := getS2 X1 hx hZ hown (host := "") (Or.inl (hw _ (List.mem_of_getElem? (i := 67) rfl))) Via.refl e1 (S_HI_BYTE_SHIFT.ext Od.2) (g := (mkF m 38 #[.val (.ref a), .val (.int ((i' <<< ((1 : Int32) &&& 31)) + (1 : Int32))), .val (.int c')] [(.int c'), (.int (i' <<< ((1 : Int32) &&& 31))), (.ref a)])) rfl (hb hby d15_38)
  obtain ⟨cl433, Ar433, S433, M433, H433⟩ := V_a
  have hin433 : ¬ ((i' <<< ((1 : Int32) &&& 31)) < 0 ∨ cl433.slots.size ≤ ((i' <<< ((1 : Int32) &&& 31))).toNatClampNeg) := inb_of S433 p0
  obtain ⟨T4, h4, X4, e4, W4, st4⟩ := stB X2 hx hZ e2 Ar433 (j := (i' <<< ((1 : Int32) &&& 31))) hin433 (g := (mkF m 43 #[.val (.ref a), .val (.int ((i' <<< ((1 : Int32) &&& 31)) + (1 : Int32))), .val (.int c')] [(.int ((c' >>> ((0 : Int32) &&& 31)).toInt8.toInt32)), (.int (i' <<< ((1 : Int32) &&& 31))), (.ref a)])) rfl rfl (hb hby d15_43)
  have Od := Od.wr W4 g_a
  have Zs4 : n0 ≤ h4.size := Nat.le_trans Z0 (Keep.of_wr W4).1
  have K4 : Keep h0 h4 [a] := K0.wr W4 (Or.inl (List.mem_of_getElem? (i := 0) rfl))
  have N4 := Fr.snoc X4 N0 g_a
  have V_a : own_A Z h4 a .byte n' (own_upd g' ((i' <<< ((1 : Int32) &&& 31))).toNatClampNeg (nar .byte ((c' >>> ((0 : Int32) &&& 31)).toInt8.toInt32))) := own_A.set Ar433 S433 M433 H433 W4
  obtain ⟨T5, X5, e5, st5⟩ := getS2 X4 hx hZ hown (host := "") (Or.inl (hw _ (List.mem_of_getElem? (i := 68) rfl))) Via.refl e4 (S_LO_BYTE_SHIFT.ext Od.2) (g := (mkF m 47 #[.val (.ref a), .val (.int ((i' <<< ((1 : Int32) &&& 31)) + (1 : Int32))), .val (.int c')] [(.int c'), (.int ((i' <<< ((1 : Int32) &&& 31)) + (1 : Int32))), (.ref a)])) rfl (hb hby d15_47)
  obtain ⟨cl526, Ar526, S526, M526, H526⟩ := V_a
  have hin526 : ¬ (((i' <<< ((1 : Int32) &&& 31)) + (1 : Int32)) < 0 ∨ cl526.slots.size ≤ (((i' <<< ((1 : Int32) &&& 31)) + (1 : Int32))).toNatClampNeg) := inb_of S526 p1
  obtain ⟨T7, h7, X7, e7, W7, st7⟩ := stB X5 hx hZ e5 Ar526 (j := ((i' <<< ((1 : Int32) &&& 31)) + (1 : Int32))) hin526 (g := (mkF m 52 #[.val (.ref a), .val (.int ((i' <<< ((1 : Int32) &&& 31)) + (1 : Int32))), .val (.int c')] [(.int ((c' >>> ((8 : Int32) &&& 31)).toInt8.toInt32)), (.int ((i' <<< ((1 : Int32) &&& 31)) + (1 : Int32))), (.ref a)])) rfl rfl (hb hby d15_52)
  have Od := Od.wr W7 g_a
  have Zs7 : n0 ≤ h7.size := Nat.le_trans Zs4 (Keep.of_wr W7).1
  have K7 : Keep h0 h7 [a] := K4.wr W7 (Or.inl (List.mem_of_getElem? (i := 0) rfl))
  have N7 := Fr.snoc X7 N4 g_a
  have V_a : own_A Z h7 a .byte n' (own_upd (own_upd g' ((i' <<< ((1 : Int32) &&& 31))).toNatClampNeg (nar .byte ((c' >>> ((0 : Int32) &&& 31)).toInt8.toInt32))) (((i' <<< ((1 : Int32) &&& 31)) + (1 : Int32))).toNatClampNeg (nar .byte ((c' >>> ((8 : Int32) &&& 31)).toInt8.toInt32))) := own_A.set Ar526 S526 M526 H526 W7
  obtain ⟨fs, hr, hrun, hended, hW, hsame⟩ := X7.leave (v := none) (fun _ => rfl)
  refine ⟨_, _, pre0 _ ?_, hrun, hended, _, _, rfl, ?_, ⟨_, rfl⟩, hW, hsame.mono (by decide) (by decide)⟩
  · show Steps p.tables e below (s₁.setTop (mkF m 0 #[.val (.ref a), .val (.int i'), .val (.int c')] [])) _
    refine st1 _ ?_
    show Steps p.tables e below (T1.setTop (mkF m 3 #[.val (.ref a), .val (.int i'), .val (.int c')] [(.int (1 : Int32))])) _
    refine XS.ifYes X1.here hx rfl (pc0 := 3) (pc' := 28) rfl (hb hby d15_3) rfl ((if0 _ _).trans (feq (by decide : ¬ ((1 : Int32) = (0 : Int32)))).2) (by decide) (by decide) ?_
    show Steps p.tables e below (T1.setTop (mkF m 28 #[.val (.ref a), .val (.int i'), .val (.int c')] [])) _
    refine XS.iloadN X1.here hx rfl (hb hby d15_28) rfl ?_
    show Steps p.tables e below (T1.setTop (mkF m 29 #[.val (.ref a), .val (.int i'), .val (.int c')] [(.int i')])) _
    refine XS.iconst X1.here hx rfl (hb hby d15_29) ?_
    show Steps p.tables e below (T1.setTop (mkF m 30 #[.val (.ref a), .val (.int i'), .val (.int c')] [(.int (1 : Int32)), (.int i')])) _
    refine XS.ishl X1.here hx rfl (hb hby d15_30) rfl ?_
    show Steps p.tables e below (T1.setTop (mkF m 31 #[.val (.ref a), .val (.int i'), .val (.int c')] [(.int (i' <<< ((1 : Int32) &&& 31)))])) _
    refine XS.istoreN X1.here hx rfl (hb hby d15_31) rfl (l' := #[.val (.ref a), .val (.int (i' <<< ((1 : Int32) &&& 31))), .val (.int c')]) rfl ?_
    show Steps p.tables e below (T1.setTop (mkF m 32 #[.val (.ref a), .val (.int (i' <<< ((1 : Int32) &&& 31))), .val (.int c')] [])) _
    refine XS.aloadN X1.here hx rfl (hb hby d15_32) rfl rfl ?_
    show Steps p.tables e below (T1.setTop (mkF m 33 #[.val (.ref a), .val (.int (i' <<< ((1 : Int32) &&& 31))), .val (.int c')] [(.ref a)])) _
    refine XS.iloadN X1.here hx rfl (hb hby d15_33) rfl ?_
    show Steps p.tables e below (T1.setTop (mkF m 34 #[.val (.ref a), .val (.int (i' <<< ((1 : Int32) &&& 31))), .val (.int c')] [(.int (i' <<< ((1 : Int32) &&& 31))), (.ref a)])) _
    refine XS.iinc X1.here hx rfl (hb hby d15_34) rfl (l' := #[.val (.ref a), .val (.int ((i' <<< ((1 : Int32) &&& 31)) + (1 : Int32))), .val (.int c')]) rfl ?_
    show Steps p.tables e below (T1.setTop (mkF m 37 #[.val (.ref a), .val (.int ((i' <<< ((1 : Int32) &&& 31)) + (1 : Int32))), .val (.int c')] [(.int (i' <<< ((1 : Int32) &&& 31))), (.ref a)])) _
    refine XS.iloadN X1.here hx rfl (hb hby d15_37) rfl ?_
    show Steps p.tables e below (T1.setTop (mkF m 38 #[.val (.ref a), .val (.int ((i' <<< ((1 : Int32) &&& 31)) + (1 : Int32))), .val (.int c')] [(.int c'), (.int (i' <<< ((1 : Int32) &&& 31))), (.ref a)])) _
    refine st2 _ ?_
    show Steps p.tables e below (T2.setTop (mkF m 41 #[.val (.ref a), .val (.int ((i' <<< ((1 : Int32) &&& 31)) + (1 : Int32))), .val (.int c')] [(.int (0 : Int32)), (.int c'), (.int (i' <<< ((1 : Int32) &&& 31))), (.ref a)])) _
    refine XS.ishr X2.here hx rfl (hb hby d15_41) rfl ?_
    show Steps p.tables e below (T2.setTop (mkF m 42 #[.val (.ref a), .val (.int ((i' <<< ((1 : Int32) &&& 31)) + (1 : Int32))), .val (.int c')] [(.int (c' >>> ((0 : Int32) &&& 31))), (.int (i' <<< ((1 : Int32) &&& 31))), (.ref a)])) _
    refine XS.i2b X2.here hx rfl (hb hby d15_42) rfl ?_
    show Steps p.tables e below (T2.setTop (mkF m 43 #[.val (.ref a), .val (.int ((i' <<< ((1 : Int32) &&& 31)) + (1 : Int32))), .val (.int c')] [(.int ((c' >>> ((0 : Int32) &&& 31)).toInt8.toInt32)), (.int (i' <<< ((1 : Int32) &&& 31))), (.ref a)])) _
    refine st4 _ ?_
    show Steps p.tables e below (T4.setTop (mkF m 44 #[.val (.ref a), .val (.int ((i' <<< ((1 : Int32) &&& 31)) + (1 : Int32))), .val (.int c')] [])) _
    refine XS.aloadN X4.here hx rfl (hb hby d15_44) rfl rfl ?_
    show Steps p.tables e below (T4.setTop (mkF m 45 #[.val (.ref a), .val (.int ((i' <<< ((1 : Int32) &&& 31)) + (1 : Int32))), .val (.int c')] [(.ref a)])) _
    refine XS.iloadN X4.here hx rfl (hb hby d15_45) rfl ?_
    show Steps p.tables e below (T4.setTop (mkF m 46 #[.val (.ref a), .val (.int ((i' <<< ((1 : Int32) &&& 31)) + (1 : Int32))), .val (.int c')] [(.int ((i' <<< ((1 : Int32) &&& 31)) + (1 : Int32))), (.ref a)])) _
    refine XS.iloadN X4.here hx rfl (hb hby d15_46) rfl ?_
    show Steps p.tables e below (T4.setTop (mkF m 47 #[.val (.ref a), .val (.int ((i' <<< ((1 : Int32) &&& 31)) + (1 : Int32))), .val (.int c')] [(.int c'), (.int ((i' <<< ((1 : Int32) &&& 31)) + (1 : Int32))), (.ref a)])) _
    refine st5 _ ?_
    show Steps p.tables e below (T5.setTop (mkF m 50 #[.val (.ref a), .val (.int ((i' <<< ((1 : Int32) &&& 31)) + (1 : Int32))), .val (.int c')] [(.int (8 : Int32)), (.int c'), (.int ((i' <<< ((1 : Int32) &&& 31)) + (1 : Int32))), (.ref a)])) _
    refine XS.ishr X5.here hx rfl (hb hby d15_50) rfl ?_
    show Steps p.tables e below (T5.setTop (mkF m 51 #[.val (.ref a), .val (.int ((i' <<< ((1 : Int32) &&& 31)) + (1 : Int32))), .val (.int c')] [(.int (c' >>> ((8 : Int32) &&& 31))), (.int ((i' <<< ((1 : Int32) &&& 31)) + (1 : Int32))), (.ref a)])) _
    refine XS.i2b X5.here hx rfl (hb hby d15_51) rfl ?_
    show Steps p.tables e below (T5.setTop (mkF m 52 #[.val (.ref a), .val (.int ((i' <<< ((1 : Int32) &&& 31)) + (1 : Int32))), .val (.int c')] [(.int ((c' >>> ((8 : Int32) &&& 31)).toInt8.toInt32)), (.int ((i' <<< ((1 : Int32) &&& 31)) + (1 : Int32))), (.ref a)])) _
    refine st7 _ ?_
    show Steps p.tables e below (T7.setTop (mkF m 53 #[.val (.ref a), .val (.int ((i' <<< ((1 : Int32) &&& 31)) + (1 : Int32))), .val (.int c')] [])) _
    exact X7.returnOut hx Bd.returns (hb hby d15_53) hr
  · show Q15 Z a i' c' cs' n' g' h0 n0 _ T7.heap _
    rw [e7]
    exact ⟨rfl, N7, K7, V_a⟩
theorem d16_0 : decode jdk_52_method_5_code 0 = .ok (.getstatic 44, 3) := by decide +kernel
theorem d16_3 : decode jdk_52_method_5_code 3 = .ok (.ifCond .ne 25, 3) := by decide +kernel
theorem d16_28 : decode jdk_52_method_5_code 28 = .ok (.iload_n 1, 1) := by decide +kernel
theorem d16_29 : decode jdk_52_method_5_code 29 = .ok (.iconst 1, 1) := by decide +kernel
theorem d16_30 : decode jdk_52_method_5_code 30 = .ok (.ishl, 1) := by decide +kernel
theorem d16_31 : decode jdk_52_method_5_code 31 = .ok (.istore_n 1, 1) := by decide +kernel
theorem d16_32 : decode jdk_52_method_5_code 32 = .ok (.aload_n 0, 1) := by decide +kernel
theorem d16_33 : decode jdk_52_method_5_code 33 = .ok (.iload_n 1, 1) := by decide +kernel
theorem d16_34 : decode jdk_52_method_5_code 34 = .ok (.iinc 1 1, 3) := by decide +kernel
theorem d16_37 : decode jdk_52_method_5_code 37 = .ok (.baload, 1) := by decide +kernel
theorem d16_38 : decode jdk_52_method_5_code 38 = .ok (.sipush 255, 3) := by decide +kernel
theorem d16_41 : decode jdk_52_method_5_code 41 = .ok (.iand, 1) := by decide +kernel
theorem d16_42 : decode jdk_52_method_5_code 42 = .ok (.getstatic 59, 3) := by decide +kernel
theorem d16_45 : decode jdk_52_method_5_code 45 = .ok (.ishl, 1) := by decide +kernel
theorem d16_46 : decode jdk_52_method_5_code 46 = .ok (.aload_n 0, 1) := by decide +kernel
theorem d16_47 : decode jdk_52_method_5_code 47 = .ok (.iload_n 1, 1) := by decide +kernel
theorem d16_48 : decode jdk_52_method_5_code 48 = .ok (.baload, 1) := by decide +kernel
theorem d16_49 : decode jdk_52_method_5_code 49 = .ok (.sipush 255, 3) := by decide +kernel
theorem d16_52 : decode jdk_52_method_5_code 52 = .ok (.iand, 1) := by decide +kernel
theorem d16_53 : decode jdk_52_method_5_code 53 = .ok (.getstatic 63, 3) := by decide +kernel
theorem d16_56 : decode jdk_52_method_5_code 56 = .ok (.ishl, 1) := by decide +kernel
theorem d16_57 : decode jdk_52_method_5_code 57 = .ok (.ior, 1) := by decide +kernel
theorem d16_58 : decode jdk_52_method_5_code 58 = .ok (.i2c, 1) := by decide +kernel
theorem d16_59 : decode jdk_52_method_5_code 59 = .ok (.ireturn, 1) := by decide +kernel
theorem pn_16 : plainName "java/lang/StringUTF16" = true := by first | (simp [plainName, overriddenIn]; done) | decide +kernel
theorem ef_16 (m : MethodId) (x0 : Addr) (x1 : Int32) : entryFrame m #[(.ref x0), (.int x1)] 2 = mkF m 0 #[.val (.ref x0), .val (.int x1)] [] := by first | (simp [entryFrame, mkF, argsToLocals, Value.category]; done) | rfl
def Q16 (Z : State) (a : Addr) (i' : Int32) (cs' n' : Int32) (g' : Nat → Int32) (h0 : Heap) (n0 : Nat) (v : Option Value) (h : Heap) (L : List Loc) : Prop := v = some (.int (nar .char ((((((g' ((i' <<< ((1 : Int32) &&& 31))).toNatClampNeg) &&& (255 : Int32)) <<< ((0 : Int32) &&& 31)) ||| (((g' (((i' <<< ((1 : Int32) &&& 31)) + (1 : Int32))).toNatClampNeg) &&& (255 : Int32)) <<< ((8 : Int32) &&& 31)))).toUInt32.toUInt16.toUInt32.toInt32))) ∧ Fr n0 L ∧ h = h0
set_option maxRecDepth 65536 in
set_option maxHeartbeats 40000000 in
theorem rm16 (l : Launch) (Z : State) (a0 : Array Value) (hw : ∀ d ∈ tables_1, d.before a0 Z = true) (ws : List Jvm.Cond) (a : Addr) (i' : Int32) (cs' n' : Int32) (g' : Nat → Int32) (h0 : Heap) (n0 : Nat) (Z0 : n0 ≤ h0.size) (Od : Old Z n0 h0) (S_COMPACT_STRINGS : Sta Z Z.heap "java/lang/String" "COMPACT_STRINGS" "Z" (.int cs')) (S__assertionsDisabled : Sta Z Z.heap "java/lang/StringUTF16" "$assertionsDisabled" "Z" (.int (1 : Int32))) (S_HI_BYTE_SHIFT : Sta Z Z.heap "java/lang/StringUTF16" "HI_BYTE_SHIFT" "I" (.int (0 : Int32))) (S_LO_BYTE_SHIFT : Sta Z Z.heap "java/lang/StringUTF16" "LO_BYTE_SHIFT" "I" (.int (8 : Int32))) (hcs : ¬ cs' = (0 : Int32)) (V_a : own_A Z h0 a .byte n' g') (p0 : ¬ (i' <<< ((1 : Int32) &&& 31)) < 0 ∧ (i' <<< ((1 : Int32) &&& 31)) < n') (p1 : ¬ ((i' <<< ((1 : Int32) &&& 31)) + (1 : Int32)) < 0 ∧ ((i' <<< ((1 : Int32) &&& 31)) + (1 : Int32)) < n') :
    MetFree l (⟨"java/lang/StringUTF16", "getChar", "([BI)C"⟩ : MethodName) (head1 (Jvm.Cond.code (⟨"java/lang/StringUTF16", "getChar", "([BI)C"⟩ : MethodName) jdk_52_method_5_code 2 (some .char) :: ws) ({ frames := 0, cells := 0, slots := 0, locals := 0 } : Room)) (fun ar U => ar = #[(.ref a), (.int i')] ∧ Z.Warmed39 U.vm ∧ U.heap = h0) (fun _ _ _ _ _ => True) (fun _ U o U' => ∃ v L, o = .returned v ∧ Q16 Z a i' cs' n' g' h0 n0 v U'.heap L ∧ FrameEnd U o U' L ({ frames := 0, cells := 0, slots := 0, locals := 0 } : Room).cells ({ frames := 0, cells := 0, slots := 0, locals := 0 } : Room).slots) := by
  refine MetFree.of_bodySF (plainFor_of_name pn_16) hisR ?_
  intro p e s m args below meth c s₁ Bd hml0 hP hK
  obtain ⟨rfl, hZ, hh⟩ := hP
  have hx := Bd.exec
  have hby := Bd.bytes
  have hml : c.maxLocals = 2 := hml0
  have hown : s.vm.findClass "java/lang/StringUTF16" = some m.cls := findClass_of_methodNamed Bd.named
  have hnm := (name_of_methodNamed Bd.named Bd.method).1
  have X0 : Stand p l e ({ frames := 0, cells := 0, slots := 0, locals := 0 } : Room) s m #[(.ref a), (.int i')] below meth c s₁ [] 0 0 := Stand.of_body Bd
  have e0 : s₁.heap = h0 := by rw [← hh, Bd.state]; rfl
  have N0 := Fr.nil n0
  have K0 : Keep h0 h0 [] := Keep.refl h0 _
  have pre0 : ∀ t, Steps p.tables e below (s₁.setTop (mkF m 0 #[.val (.ref a), .val (.int i')] [])) t → Steps p.tables e below (s₁.setTop (entryFrame m #[(.ref a), (.int i')] 2)) t := fun t k => castTop (ef_16 m a i') k
  obtain ⟨T1, X1, e1, st1⟩ := getS2 X0 hx hZ hown (host := "") (Or.inl (hw _ (List.mem_of_getElem? (i := 66) rfl))) Via.refl e0 (S__assertionsDisabled.ext Od.2) (g := (mkF m 0 #[.val (.ref a), .val (.int i')] [])) rfl (hb hby d16_0)
  obtain ⟨cl372, Ar372, S372, M372, H372⟩ := id V_a
  have hin372 : ¬ ((i' <<< ((1 : Int32) &&& 31)) < 0 ∨ cl372.slots.size ≤ ((i' <<< ((1 : Int32) &&& 31))).toNatClampNeg) := inb_of S372 p0
  have hat372 := own_A.at S372 H372 hin372
  obtain ⟨T3, X3, e3, st3⟩ := getS2 X1 hx hZ hown (host := "") (Or.inl (hw _ (List.mem_of_getElem? (i := 67) rfl))) Via.refl e1 (S_HI_BYTE_SHIFT.ext Od.2) (g := (mkF m 42 #[.val (.ref a), .val (.int ((i' <<< ((1 : Int32) &&& 31)) + (1 : Int32)))] [(.int ((g' ((i' <<< ((1 : Int32) &&& 31))).toNatClampNeg) &&& (255 : Int32)))])) rfl (hb hby d16_42)
  obtain ⟨cl484, Ar484, S484, M484, H484⟩ := id V_a
  have hin484 : ¬ (((i' <<< ((1 : Int32) &&& 31)) + (1 : Int32)) < 0 ∨ cl484.slots.size ≤ (((i' <<< ((1 : Int32) &&& 31)) + (1 : Int32))).toNatClampNeg) := inb_of S484 p1
  have hat484 := own_A.at S484 H484 hin484
  obtain ⟨T5, X5, e5, st5⟩ := getS2 X3 hx hZ hown (host := "") (Or.inl (hw _ (List.mem_of_getElem? (i := 68) rfl))) Via.refl e3 (S_LO_BYTE_SHIFT.ext Od.2) (g := (mkF m 53 #[.val (.ref a), .val (.int ((i' <<< ((1 : Int32) &&& 31)) + (1 : Int32)))] [(.int ((g' (((i' <<< ((1 : Int32) &&& 31)) + (1 : Int32))).toNatClampNeg) &&& (255 : Int32))), (.int (((g' ((i' <<< ((1 : Int32) &&& 31))).toNatClampNeg) &&& (255 : Int32)) <<< ((0 : Int32) &&& 31)))])) rfl (hb hby d16_53)
  obtain ⟨fs, hr, hrun, hended, hW, hsame⟩ := X5.leave (v := some (.int (nar .char (((((g' ((i' <<< ((1 : Int32) &&& 31))).toNatClampNeg) &&& (255 : Int32)) <<< ((0 : Int32) &&& 31)) ||| (((g' (((i' <<< ((1 : Int32) &&& 31)) + (1 : Int32))).toNatClampNeg) &&& (255 : Int32)) <<< ((8 : Int32) &&& 31))).toUInt32.toUInt16.toUInt32.toInt32)))) (fun h => by rw [Bd.returns] at h; cases h)
  refine ⟨_, _, pre0 _ ?_, hrun, hended, _, _, rfl, ?_, ⟨_, rfl⟩, hW, hsame.mono (by decide) (by decide)⟩
  · show Steps p.tables e below (s₁.setTop (mkF m 0 #[.val (.ref a), .val (.int i')] [])) _
    refine st1 _ ?_
    show Steps p.tables e below (T1.setTop (mkF m 3 #[.val (.ref a), .val (.int i')] [(.int (1 : Int32))])) _
    refine XS.ifYes X1.here hx rfl (pc0 := 3) (pc' := 28) rfl (hb hby d16_3) rfl ((if0 _ _).trans (feq (by decide : ¬ ((1 : Int32) = (0 : Int32)))).2) (by decide) (by decide) ?_
    show Steps p.tables e below (T1.setTop (mkF m 28 #[.val (.ref a), .val (.int i')] [])) _
    refine XS.iloadN X1.here hx rfl (hb hby d16_28) rfl ?_
    show Steps p.tables e below (T1.setTop (mkF m 29 #[.val (.ref a), .val (.int i')] [(.int i')])) _
    refine XS.iconst X1.here hx rfl (hb hby d16_29) ?_
    show Steps p.tables e below (T1.setTop (mkF m 30 #[.val (.ref a), .val (.int i')] [(.int (1 : Int32)), (.int i')])) _
    refine XS.ishl X1.here hx rfl (hb hby d16_30) rfl ?_
    show Steps p.tables e below (T1.setTop (mkF m 31 #[.val (.ref a), .val (.int i')] [(.int (i' <<< ((1 : Int32) &&& 31)))])) _
    refine XS.istoreN X1.here hx rfl (hb hby d16_31) rfl (l' := #[.val (.ref a), .val (.int (i' <<< ((1 : Int32) &&& 31)))]) rfl ?_
    show Steps p.tables e below (T1.setTop (mkF m 32 #[.val (.ref a), .val (.int (i' <<< ((1 : Int32) &&& 31)))] [])) _
    refine XS.aloadN X1.here hx rfl (hb hby d16_32) rfl rfl ?_
    show Steps p.tables e below (T1.setTop (mkF m 33 #[.val (.ref a), .val (.int (i' <<< ((1 : Int32) &&& 31)))] [(.ref a)])) _
    refine XS.iloadN X1.here hx rfl (hb hby d16_33) rfl ?_
    show Steps p.tables e below (T1.setTop (mkF m 34 #[.val (.ref a), .val (.int (i' <<< ((1 : Int32) &&& 31)))] [(.int (i' <<< ((1 : Int32) &&& 31))), (.ref a)])) _
    refine XS.iinc X1.here hx rfl (hb hby d16_34) rfl (l' := #[.val (.ref a), .val (.int ((i' <<< ((1 : Int32) &&& 31)) + (1 : Int32)))]) rfl ?_
    show Steps p.tables e below (T1.setTop (mkF m 37 #[.val (.ref a), .val (.int ((i' <<< ((1 : Int32) &&& 31)) + (1 : Int32)))] [(.int (i' <<< ((1 : Int32) &&& 31))), (.ref a)])) _
    refine X1.baloadBytes hx (j := (i' <<< ((1 : Int32) &&& 31))) (v := (.int (g' ((i' <<< ((1 : Int32) &&& 31))).toNatClampNeg))) (by rw [e1]; exact Ar372.1) (State.isArrayOf_alike hZ.alike Ar372.2.1) Ar372.2.2 hin372 hat372 (g := (mkF m 37 #[.val (.ref a), .val (.int ((i' <<< ((1 : Int32) &&& 31)) + (1 : Int32)))] [(.int (i' <<< ((1 : Int32) &&& 31))), (.ref a)])) rfl rfl (hb hby d16_37) _ ?_
    show Steps p.tables e below (T1.setTop (mkF m 38 #[.val (.ref a), .val (.int ((i' <<< ((1 : Int32) &&& 31)) + (1 : Int32)))] [(.int (g' ((i' <<< ((1 : Int32) &&& 31))).toNatClampNeg))])) _
    refine XS.sipush X1.here hx rfl (hb hby d16_38) ?_
    show Steps p.tables e below (T1.setTop (mkF m 41 #[.val (.ref a), .val (.int ((i' <<< ((1 : Int32) &&& 31)) + (1 : Int32)))] [(.int (255 : Int32)), (.int (g' ((i' <<< ((1 : Int32) &&& 31))).toNatClampNeg))])) _
    refine XS.iand X1.here hx rfl (hb hby d16_41) rfl ?_
    show Steps p.tables e below (T1.setTop (mkF m 42 #[.val (.ref a), .val (.int ((i' <<< ((1 : Int32) &&& 31)) + (1 : Int32)))] [(.int ((g' ((i' <<< ((1 : Int32) &&& 31))).toNatClampNeg) &&& (255 : Int32)))])) _
    refine st3 _ ?_
    show Steps p.tables e below (T3.setTop (mkF m 45 #[.val (.ref a), .val (.int ((i' <<< ((1 : Int32) &&& 31)) + (1 : Int32)))] [(.int (0 : Int32)), (.int ((g' ((i' <<< ((1 : Int32) &&& 31))).toNatClampNeg) &&& (255 : Int32)))])) _
    refine XS.ishl X3.here hx rfl (hb hby d16_45) rfl ?_
    show Steps p.tables e below (T3.setTop (mkF m 46 #[.val (.ref a), .val (.int ((i' <<< ((1 : Int32) &&& 31)) + (1 : Int32)))] [(.int (((g' ((i' <<< ((1 : Int32) &&& 31))).toNatClampNeg) &&& (255 : Int32)) <<< ((0 : Int32) &&& 31)))])) _
    refine XS.aloadN X3.here hx rfl (hb hby d16_46) rfl rfl ?_
    show Steps p.tables e below (T3.setTop (mkF m 47 #[.val (.ref a), .val (.int ((i' <<< ((1 : Int32) &&& 31)) + (1 : Int32)))] [(.ref a), (.int (((g' ((i' <<< ((1 : Int32) &&& 31))).toNatClampNeg) &&& (255 : Int32)) <<< ((0 : Int32) &&& 31)))])) _
    refine XS.iloadN X3.here hx rfl (hb hby d16_47) rfl ?_
    show Steps p.tables e below (T3.setTop (mkF m 48 #[.val (.ref a), .val (.int ((i' <<< ((1 : Int32) &&& 31)) + (1 : Int32)))] [(.int ((i' <<< ((1 : Int32) &&& 31)) + (1 : Int32))), (.ref a), (.int (((g' ((i' <<< ((1 : Int32) &&& 31))).toNatClampNeg) &&& (255 : Int32)) <<< ((0 : Int32) &&& 31)))])) _
    refine X3.baloadBytes hx (j := ((i' <<< ((1 : Int32) &&& 31)) + (1 : Int32))) (v := (.int (g' (((i' <<< ((1 : Int32) &&& 31)) + (1 : Int32))).toNatClampNeg))) (by rw [e3]; exact Ar484.1) (State.isArrayOf_alike hZ.alike Ar484.2.1) Ar484.2.2 hin484 hat484 (g := (mkF m 48 #[.val (.ref a), .val (.int ((i' <<< ((1 : Int32) &&& 31)) + (1 : Int32)))] [(.int ((i' <<< ((1 : Int32) &&& 31)) + (1 : Int32))), (.ref a), (.int (((g' ((i' <<< ((1 : Int32) &&& 31))).toNatClampNeg) &&& (255 : Int32)) <<< ((0 : Int32) &&& 31)))])) rfl rfl (hb hby d16_48) _ ?_
    show Steps p.tables e below (T3.setTop (mkF m 49 #[.val (.ref a), .val (.int ((i' <<< ((1 : Int32) &&& 31)) + (1 : Int32)))] [(.int (g' (((i' <<< ((1 : Int32) &&& 31)) + (1 : Int32))).toNatClampNeg)), (.int (((g' ((i' <<< ((1 : Int32) &&& 31))).toNatClampNeg) &&& (255 : Int32)) <<< ((0 : Int32) &&& 31)))])) _
    refine XS.sipush X3.here hx rfl (hb hby d16_49) ?_
    show Steps p.tables e below (T3.setTop (mkF m 52 #[.val (.ref a), .val (.int ((i' <<< ((1 : Int32) &&& 31)) + (1 : Int32)))] [(.int (255 : Int32)), (.int (g' (((i' <<< ((1 : Int32) &&& 31)) + (1 : Int32))).toNatClampNeg)), (.int (((g' ((i' <<< ((1 : Int32) &&& 31))).toNatClampNeg) &&& (255 : Int32)) <<< ((0 : Int32) &&& 31)))])) _
    refine XS.iand X3.here hx rfl (hb hby d16_52) rfl ?_
    show Steps p.tables e below (T3.setTop (mkF m 53 #[.val (.ref a), .val (.int ((i' <<< ((1 : Int32) &&& 31)) + (1 : Int32)))] [(.int ((g' (((i' <<< ((1 : Int32) &&& 31)) + (1 : Int32))).toNatClampNeg) &&& (255 : Int32))), (.int (((g' ((i' <<< ((1 : Int32) &&& 31))).toNatClampNeg) &&& (255 : Int32)) <<< ((0 : Int32) &&& 31)))])) _
    refine st5 _ ?_
    show Steps p.tables e below (T5.setTop (mkF m 56 #[.val (.ref a), .val (.int ((i' <<< ((1 : Int32) &&& 31)) + (1 : Int32)))] [(.int (8 : Int32)), (.int ((g' (((i' <<< ((1 : Int32) &&& 31)) + (1 : Int32))).toNatClampNeg) &&& (255 : Int32))), (.int (((g' ((i' <<< ((1 : Int32) &&& 31))).toNatClampNeg) &&& (255 : Int32)) <<< ((0 : Int32) &&& 31)))])) _
    refine XS.ishl X5.here hx rfl (hb hby d16_56) rfl ?_
    show Steps p.tables e below (T5.setTop (mkF m 57 #[.val (.ref a), .val (.int ((i' <<< ((1 : Int32) &&& 31)) + (1 : Int32)))] [(.int (((g' (((i' <<< ((1 : Int32) &&& 31)) + (1 : Int32))).toNatClampNeg) &&& (255 : Int32)) <<< ((8 : Int32) &&& 31))), (.int (((g' ((i' <<< ((1 : Int32) &&& 31))).toNatClampNeg) &&& (255 : Int32)) <<< ((0 : Int32) &&& 31)))])) _
    refine XS.ior X5.here hx rfl (hb hby d16_57) rfl ?_
    show Steps p.tables e below (T5.setTop (mkF m 58 #[.val (.ref a), .val (.int ((i' <<< ((1 : Int32) &&& 31)) + (1 : Int32)))] [(.int ((((g' ((i' <<< ((1 : Int32) &&& 31))).toNatClampNeg) &&& (255 : Int32)) <<< ((0 : Int32) &&& 31)) ||| (((g' (((i' <<< ((1 : Int32) &&& 31)) + (1 : Int32))).toNatClampNeg) &&& (255 : Int32)) <<< ((8 : Int32) &&& 31))))])) _
    refine XS.i2c X5.here hx rfl (hb hby d16_58) rfl ?_
    show Steps p.tables e below (T5.setTop (mkF m 59 #[.val (.ref a), .val (.int ((i' <<< ((1 : Int32) &&& 31)) + (1 : Int32)))] [(.int (((((g' ((i' <<< ((1 : Int32) &&& 31))).toNatClampNeg) &&& (255 : Int32)) <<< ((0 : Int32) &&& 31)) ||| (((g' (((i' <<< ((1 : Int32) &&& 31)) + (1 : Int32))).toNatClampNeg) &&& (255 : Int32)) <<< ((8 : Int32) &&& 31))).toUInt32.toUInt16.toUInt32.toInt32))])) _
    exact retN X5 hx (t := .char) Bd.returns (by simp) (hb hby d16_59) hr
  · show Q16 Z a i' cs' n' g' h0 n0 _ T5.heap _
    rw [e5]
    exact ⟨rfl, N0, rfl⟩
theorem d12_0 : decode jdk_52_method_14_code 0 = .ok (.iload_n 2, 1) := by decide +kernel
theorem d12_1 : decode jdk_52_method_14_code 1 = .ok (.invokestatic 107, 3) := by decide +kernel
theorem d12_4 : decode jdk_52_method_14_code 4 = .ok (.astore_n 3, 1) := by decide +kernel
theorem d12_5 : decode jdk_52_method_14_code 5 = .ok (.iconst 0, 1) := by decide +kernel
theorem d12_6 : decode jdk_52_method_14_code 6 = .ok (.istore 4, 2) := by decide +kernel
theorem d12_8 : decode jdk_52_method_14_code 8 = .ok (.iload 4, 2) := by decide +kernel
theorem d12_10 : decode jdk_52_method_14_code 10 = .ok (.iload_n 2, 1) := by decide +kernel
theorem d12_11 : decode jdk_52_method_14_code 11 = .ok (.if_icmp .ge 21, 3) := by decide +kernel
theorem d12_14 : decode jdk_52_method_14_code 14 = .ok (.aload_n 3, 1) := by decide +kernel
theorem d12_15 : decode jdk_52_method_14_code 15 = .ok (.iload 4, 2) := by decide +kernel
theorem d12_17 : decode jdk_52_method_14_code 17 = .ok (.aload_n 0, 1) := by decide +kernel
theorem d12_18 : decode jdk_52_method_14_code 18 = .ok (.iload_n 1, 1) := by decide +kernel
theorem d12_19 : decode jdk_52_method_14_code 19 = .ok (.caload, 1) := by decide +kernel
theorem d12_20 : decode jdk_52_method_14_code 20 = .ok (.invokestatic 111, 3) := by decide +kernel
theorem d12_23 : decode jdk_52_method_14_code 23 = .ok (.iinc 1 1, 3) := by decide +kernel
theorem d12_26 : decode jdk_52_method_14_code 26 = .ok (.iinc 4 1, 3) := by decide +kernel
theorem d12_29 : decode jdk_52_method_14_code 29 = .ok (.goto (-21), 3) := by decide +kernel
theorem d12_32 : decode jdk_52_method_14_code 32 = .ok (.aload_n 3, 1) := by decide +kernel
theorem d12_33 : decode jdk_52_method_14_code 33 = .ok (.areturn, 1) := by decide +kernel
theorem pn_12 : plainName "java/lang/StringUTF16" = true := by first | (simp [plainName, overriddenIn]; done) | decide +kernel
theorem pd12_0 : parseMethodDescriptor "(I)[B" = some ⟨[.int], some (.array .byte)⟩ := by decide +kernel
theorem pd12_1 : parseMethodDescriptor "([BII)V" = some ⟨[(.array .byte), .int, .int], none⟩ := by decide +kernel
theorem ef_12 (m : MethodId) (x0 : Addr) (x2 : Int32) : entryFrame m #[(.ref x0), (.int (0 : Int32)), (.int x2)] 5 = mkF m 0 #[.val (.ref x0), .val (.int (0 : Int32)), .val (.int x2), .unset, .unset] [] := by first | (simp [entryFrame, mkF, argsToLocals, Value.category]; done) | rfl
def Q12 (Z : State) (a : Addr) (l' : Int32) (cs' : Int32) (f' : Nat → Int32) (h0 : Heap) (n0 : Nat) (v : Option Value) (h : Heap) (L : List Loc) : Prop := ∃ (r : Addr) (g : Nat → Int32), v = some (.ref r) ∧ Fr n0 L ∧ Keep h0 h [] ∧ n0 ≤ r ∧ h0.size ≤ r ∧ own_A Z h r .byte (l' <<< ((1 : Int32) &&& 31)) g ∧ (∀ i, i < l'.toNatClampNeg → g (2 * i) = own_lo (f' i) ∧ g (2 * i + 1) = own_hi (f' i))
set_option maxRecDepth 65536 in
set_option maxHeartbeats 40000000 in
theorem rm12 (l : Launch) (Z : State) (a0 : Array Value) (hw : ∀ d ∈ tables_1, d.before a0 Z = true) (ws : List Jvm.Cond) (a : Addr) (l' : Int32) (cs' : Int32) (f' : Nat → Int32) (h0 : Heap) (n0 : Nat) (Z0 : n0 ≤ h0.size) (Od : Old Z n0 h0) (S_COMPACT_STRINGS : Sta Z Z.heap "java/lang/String" "COMPACT_STRINGS" "Z" (.int cs')) (S__assertionsDisabled : Sta Z Z.heap "java/lang/StringUTF16" "$assertionsDisabled" "Z" (.int (1 : Int32))) (S_HI_BYTE_SHIFT : Sta Z Z.heap "java/lang/StringUTF16" "HI_BYTE_SHIFT" "I" (.int (0 : Int32))) (S_LO_BYTE_SHIFT : Sta Z Z.heap "java/lang/StringUTF16" "LO_BYTE_SHIFT" "I" (.int (8 : Int32))) (hcs : ¬ cs' = (0 : Int32)) (V_a : own_A Z h0 a .char l' f') (hl : 1 ≤ l'.toInt ∧ l'.toInt ≤ 3) :
    MetFree l (⟨"java/lang/StringUTF16", "toBytes", "([CII)[B"⟩ : MethodName) (head1 (Jvm.Cond.code (⟨"java/lang/StringUTF16", "toBytes", "([CII)[B"⟩ : MethodName) jdk_52_method_14_code 5 (some (.array .byte)) :: ws) ({ frames := 2, cells := 1, slots := 6, locals := 24 } : Room)) (fun ar U => ar = #[(.ref a), (.int (0 : Int32)), (.int l')] ∧ Z.Warmed39 U.vm ∧ U.heap = h0) (fun _ _ _ _ _ => True) (fun _ U o U' => ∃ v L, o = .returned v ∧ Q12 Z a l' cs' f' h0 n0 v U'.heap L ∧ FrameEnd U o U' L ({ frames := 2, cells := 1, slots := 6, locals := 24 } : Room).cells ({ frames := 2, cells := 1, slots := 6, locals := 24 } : Room).slots) := by
  refine MetFree.of_bodySF (plainFor_of_name pn_12) hisR ?_
  intro p e s m args below meth c s₁ Bd hml0 hP hK
  obtain ⟨rfl, hZ, hh⟩ := hP
  have hx := Bd.exec
  have hby := Bd.bytes
  have hml : c.maxLocals = 5 := hml0
  have hown : s.vm.findClass "java/lang/StringUTF16" = some m.cls := findClass_of_methodNamed Bd.named
  have hnm := (name_of_methodNamed Bd.named Bd.method).1
  have X0 : Stand p l e ({ frames := 2, cells := 1, slots := 6, locals := 24 } : Room) s m #[(.ref a), (.int (0 : Int32)), (.int l')] below meth c s₁ [] 0 0 := Stand.of_body Bd
  have e0 : s₁.heap = h0 := by rw [← hh, Bd.state]; rfl
  have N0 := Fr.nil n0
  have K0 : Keep h0 h0 [] := Keep.refl h0 _
  have pre0 : ∀ t, Steps p.tables e below (s₁.setTop (mkF m 0 #[.val (.ref a), .val (.int (0 : Int32)), .val (.int l'), .unset, .unset] [])) t → Steps p.tables e below (s₁.setTop (entryFrame m #[(.ref a), (.int (0 : Int32)), (.int l')] 5)) t := fun t k => castTop (ef_12 m a l') k
  have V_a0 := V_a
  obtain ⟨_, _, ⟨T1, L1, k1, n1⟩, -, X1, ⟨Lc1, hQ1, l1, y1, z1⟩, st1⟩ := Jvm.LawKit.callS X0 hx (y := (⟨"java/lang/StringUTF16", "newBytesFor", "(I)[B"⟩ : MethodName)) hown (mvT hZ (hw _ (List.mem_of_getElem? (i := 56) rfl))) (mvT hZ (hw _ (List.mem_of_getElem? (i := 57) rfl))) (mvT hZ (hw _ (List.mem_of_getElem? (i := 25) rfl))) (mvT hZ (hw _ (List.mem_of_getElem? (i := 58) rfl))) (by decide) (backOf (W := 0) (rm13 l Z a0 hw [] l' h0 n0 Z0 hl) hZ (hw _ (List.mem_of_getElem? (i := 58) rfl)) (hw _ (List.mem_of_getElem? (i := 25) rfl)) (by decide) (by decide)) (g := (mkF m 1 #[.val (.ref a), .val (.int (0 : Int32)), .val (.int l'), .unset, .unset] [(.int l')])) rfl (by rw [hml]; rfl) (argsL := [(.int l')]) (rest := []) (lenOf pd12_0 rfl) rfl (by show 2 * 0 + _ ≤ _; exact Nat.le_of_eq rfl) (hb hby d12_1) (fun _ _ => ⟨rfl, e0, (by decide : 0 + 1 ≤ _), (by decide : 0 + 6 ≤ _)⟩)
  dsimp only [Pt.U, Pt.locs, Pt.cells, Pt.slots] at X1 l1 y1 z1 st1 hQ1
  subst l1 y1 z1
  obtain ⟨tq, rfl, N1q, Kq1, g_tq, szc_t, V_tq⟩ := hQ1
  have N1 := Fr.app N0 N1q
  have Od := Od.keep Kq1 all0
  have V_a := V_a.keep Kq1 nin0
  have Zs1 : n0 ≤ T1.heap.size := Nat.le_trans Z0 Kq1.1
  have K1 : Keep h0 T1.heap [] := K0.trans Kq1 all0
  have ne_a_tq : a ≠ tq := Nat.ne_of_lt (Nat.lt_of_lt_of_le V_a0.lt szc_t)
  have sz_tq : h0.size ≤ tq := Nat.le_trans K0.1 szc_t
  obtain ⟨cl192, Ar192, S192, M192, H192⟩ := id V_a
  have hin192 : ¬ ((0 : Int32) < 0 ∨ cl192.slots.size ≤ ((0 : Int32)).toNatClampNeg) := inb_of S192 ⟨by decide, (own_l5 hl)⟩
  have hat192 := own_A.at S192 H192 hin192
  obtain ⟨_, _, ⟨T3, L3, k3, n3⟩, -, X3, ⟨Lc3, hQ3, l3, y3, z3⟩, st3⟩ := Jvm.LawKit.callS X1 hx (y := (⟨"java/lang/StringUTF16", "putChar", "([BII)V"⟩ : MethodName)) hown (mvT hZ (hw _ (List.mem_of_getElem? (i := 63) rfl))) (mvT hZ (hw _ (List.mem_of_getElem? (i := 64) rfl))) (mvT hZ (hw _ (List.mem_of_getElem? (i := 25) rfl))) (mvT hZ (hw _ (List.mem_of_getElem? (i := 65) rfl))) (by decide) (backOf (W := 0) (rm15 l Z a0 hw [] tq (0 : Int32) (f' ((0 : Int32)).toNatClampNeg) cs' (l' <<< ((1 : Int32) &&& 31)) (fun _ => 0) T1.heap n0 Zs1 Od S_COMPACT_STRINGS S__assertionsDisabled S_HI_BYTE_SHIFT S_LO_BYTE_SHIFT hcs V_tq g_tq (own_p0 hl (J := (0 : Int32)) (k := 0) rfl (own_l5 hl)) (own_p1 hl (J := (0 : Int32)) (k := 0) rfl (own_l5 hl))) hZ (hw _ (List.mem_of_getElem? (i := 65) rfl)) (hw _ (List.mem_of_getElem? (i := 25) rfl)) (by decide) (by decide)) (g := (mkF m 20 #[.val (.ref a), .val (.int (0 : Int32)), .val (.int l'), .val (.ref tq), .val (.int (0 : Int32))] [(.int (f' ((0 : Int32)).toNatClampNeg)), (.int (0 : Int32)), (.ref tq)])) rfl (by rw [hml]; rfl) (argsL := [(.ref tq), (.int (0 : Int32)), (.int (f' ((0 : Int32)).toNatClampNeg))]) (rest := []) (lenOf pd12_1 rfl) rfl (by show 2 * 0 + _ ≤ _; exact Nat.le_of_eq rfl) (hb hby d12_20) (fun _ _ => ⟨rfl, rfl, (by decide : 1 + 0 ≤ _), (by decide : 6 + 0 ≤ _)⟩)
  dsimp only [Pt.U, Pt.locs, Pt.cells, Pt.slots] at X3 l3 y3 z3 st3 hQ3
  subst l3 y3 z3
  obtain ⟨rfl, N3q, Kq3, V_tq⟩ := hQ3
  have N3 := Fr.app N1 N3q
  have Od := Od.keep Kq3 (allS g_tq all0)
  have V_a := V_a.keep Kq3 (ninS ne_a_tq nin0)
  have Zs3 : n0 ≤ T3.heap.size := Nat.le_trans Zs1 Kq3.1
  have K3 : Keep h0 T3.heap [] := K1.trans Kq3 (allS (Or.inr sz_tq) all0)
  have V_tq : own_A Z T3.heap tq .byte (l' <<< ((1 : Int32) &&& 31)) (own_upd (own_upd (fun _ => 0) 0 (own_lo (f' ((0 : Int32)).toNatClampNeg))) 1 (own_hi (f' ((0 : Int32)).toNatClampNeg))) := V_tq
  have pre4 : ∀ t, Steps p.tables e below (T3.setTop (mkF m 11 #[.val (.ref a), .val (.int (1 : Int32)), .val (.int l'), .val (.ref tq), .val (.int (1 : Int32))] [(.int l'), (.int (1 : Int32))])) t → Steps p.tables e below (s₁.setTop (entryFrame m #[(.ref a), (.int (0 : Int32)), (.int l')] 5)) t := by
    intro t kt
    refine pre0 t ?_
    show Steps p.tables e below (s₁.setTop (mkF m 0 #[.val (.ref a), .val (.int (0 : Int32)), .val (.int l'), .unset, .unset] [])) _
    refine XS.iloadN X0.here hx rfl (hb hby d12_0) rfl ?_
    show Steps p.tables e below (s₁.setTop (mkF m 1 #[.val (.ref a), .val (.int (0 : Int32)), .val (.int l'), .unset, .unset] [(.int l')])) _
    refine st1 _ ?_
    show Steps p.tables e below (T1.setTop (mkF m 4 #[.val (.ref a), .val (.int (0 : Int32)), .val (.int l'), .unset, .unset] [(.ref tq)])) _
    refine XS.astoreN X1.here hx rfl (hb hby d12_4) rfl rfl (l' := #[.val (.ref a), .val (.int (0 : Int32)), .val (.int l'), .val (.ref tq), .unset]) rfl ?_
    show Steps p.tables e below (T1.setTop (mkF m 5 #[.val (.ref a), .val (.int (0 : Int32)), .val (.int l'), .val (.ref tq), .unset] [])) _
    refine XS.iconst X1.here hx rfl (hb hby d12_5) ?_
    show Steps p.tables e below (T1.setTop (mkF m 6 #[.val (.ref a), .val (.int (0 : Int32)), .val (.int l'), .val (.ref tq), .unset] [(.int (0 : Int32))])) _
    refine XS.istore X1.here hx rfl (hb hby d12_6) rfl (l' := #[.val (.ref a), .val (.int (0 : Int32)), .val (.int l'), .val (.ref tq), .val (.int (0 : Int32))]) rfl ?_
    show Steps p.tables e below (T1.setTop (mkF m 8 #[.val (.ref a), .val (.int (0 : Int32)), .val (.int l'), .val (.ref tq), .val (.int (0 : Int32))] [])) _
    refine XS.iload X1.here hx rfl (hb hby d12_8) rfl ?_
    show Steps p.tables e below (T1.setTop (mkF m 10 #[.val (.ref a), .val (.int (0 : Int32)), .val (.int l'), .val (.ref tq), .val (.int (0 : Int32))] [(.int (0 : Int32))])) _
    refine XS.iloadN X1.here hx rfl (hb hby d12_10) rfl ?_
    show Steps p.tables e below (T1.setTop (mkF m 11 #[.val (.ref a), .val (.int (0 : Int32)), .val (.int l'), .val (.ref tq), .val (.int (0 : Int32))] [(.int l'), (.int (0 : Int32))])) _
    refine XS.icmpNo X1.here hx rfl (hb hby d12_11) rfl (tlt (own_l5 hl)).2.1 ?_
    show Steps p.tables e below (T1.setTop (mkF m 14 #[.val (.ref a), .val (.int (0 : Int32)), .val (.int l'), .val (.ref tq), .val (.int (0 : Int32))] [])) _
    refine XS.aloadN X1.here hx rfl (hb hby d12_14) rfl rfl ?_
    show Steps p.tables e below (T1.setTop (mkF m 15 #[.val (.ref a), .val (.int (0 : Int32)), .val (.int l'), .val (.ref tq), .val (.int (0 : Int32))] [(.ref tq)])) _
    refine XS.iload X1.here hx rfl (hb hby d12_15) rfl ?_
    show Steps p.tables e below (T1.setTop (mkF m 17 #[.val (.ref a), .val (.int (0 : Int32)), .val (.int l'), .val (.ref tq), .val (.int (0 : Int32))] [(.int (0 : Int32)), (.ref tq)])) _
    refine XS.aloadN X1.here hx rfl (hb hby d12_17) rfl rfl ?_
    show Steps p.tables e below (T1.setTop (mkF m 18 #[.val (.ref a), .val (.int (0 : Int32)), .val (.int l'), .val (.ref tq), .val (.int (0 : Int32))] [(.ref a), (.int (0 : Int32)), (.ref tq)])) _
    refine XS.iloadN X1.here hx rfl (hb hby d12_18) rfl ?_
    show Steps p.tables e below (T1.setTop (mkF m 19 #[.val (.ref a), .val (.int (0 : Int32)), .val (.int l'), .val (.ref tq), .val (.int (0 : Int32))] [(.int (0 : Int32)), (.ref a), (.int (0 : Int32)), (.ref tq)])) _
    refine X1.caload hx (j := (0 : Int32)) (v := (.int (f' ((0 : Int32)).toNatClampNeg))) Ar192.1 (State.isArrayOf_alike hZ.alike Ar192.2.1) Ar192.2.2 hin192 hat192 (g := (mkF m 19 #[.val (.ref a), .val (.int (0 : Int32)), .val (.int l'), .val (.ref tq), .val (.int (0 : Int32))] [(.int (0 : Int32)), (.ref a), (.int (0 : Int32)), (.ref tq)])) rfl rfl (hb hby d12_19) _ ?_
    show Steps p.tables e below (T1.setTop (mkF m 20 #[.val (.ref a), .val (.int (0 : Int32)), .val (.int l'), .val (.ref tq), .val (.int (0 : Int32))] [(.int (f' ((0 : Int32)).toNatClampNeg)), (.int (0 : Int32)), (.ref tq)])) _
    refine st3 _ ?_
    show Steps p.tables e below (T3.setTop (mkF m 23 #[.val (.ref a), .val (.int (0 : Int32)), .val (.int l'), .val (.ref tq), .val (.int (0 : Int32))] [])) _
    refine XS.iinc X3.here hx rfl (hb hby d12_23) rfl (l' := #[.val (.ref a), .val (.int (1 : Int32)), .val (.int l'), .val (.ref tq), .val (.int (0 : Int32))]) rfl ?_
    show Steps p.tables e below (T3.setTop (mkF m 26 #[.val (.ref a), .val (.int (1 : Int32)), .val (.int l'), .val (.ref tq), .val (.int (0 : Int32))] [])) _
    refine XS.iinc X3.here hx rfl (hb hby d12_26) rfl (l' := #[.val (.ref a), .val (.int (1 : Int32)), .val (.int l'), .val (.ref tq), .val (.int (1 : Int32))]) rfl ?_
    show Steps p.tables e below (T3.setTop (mkF m 29 #[.val (.ref a), .val (.int (1 : Int32)), .val (.int l'), .val (.ref tq), .val (.int (1 : Int32))] [])) _
    refine XS.goto X3.here hx rfl (pc0 := 29) (pc' := 8) rfl (hb hby d12_29) (by decide) (by decide) ?_
    show Steps p.tables e below (T3.setTop (mkF m 8 #[.val (.ref a), .val (.int (1 : Int32)), .val (.int l'), .val (.ref tq), .val (.int (1 : Int32))] [])) _
    refine XS.iload X3.here hx rfl (hb hby d12_8) rfl ?_
    show Steps p.tables e below (T3.setTop (mkF m 10 #[.val (.ref a), .val (.int (1 : Int32)), .val (.int l'), .val (.ref tq), .val (.int (1 : Int32))] [(.int (1 : Int32))])) _
    refine XS.iloadN X3.here hx rfl (hb hby d12_10) rfl ?_
    exact kt
  by_cases hc11_5 : (1 : Int32) < l'
  · obtain ⟨cl196, Ar196, S196, M196, H196⟩ := id V_a
    have hin196 : ¬ ((1 : Int32) < 0 ∨ cl196.slots.size ≤ ((1 : Int32)).toNatClampNeg) := inb_of S196 ⟨by decide, hc11_5⟩
    have hat196 := own_A.at S196 H196 hin196
    obtain ⟨_, _, ⟨T7, L7, k7, n7⟩, -, X7, ⟨Lc7, hQ7, l7, y7, z7⟩, st7⟩ := Jvm.LawKit.callS X3 hx (y := (⟨"java/lang/StringUTF16", "putChar", "([BII)V"⟩ : MethodName)) hown (mvT hZ (hw _ (List.mem_of_getElem? (i := 63) rfl))) (mvT hZ (hw _ (List.mem_of_getElem? (i := 64) rfl))) (mvT hZ (hw _ (List.mem_of_getElem? (i := 25) rfl))) (mvT hZ (hw _ (List.mem_of_getElem? (i := 65) rfl))) (by decide) (backOf (W := 0) (rm15 l Z a0 hw [] tq (1 : Int32) (f' ((1 : Int32)).toNatClampNeg) cs' (l' <<< ((1 : Int32) &&& 31)) (own_upd (own_upd (fun _ => 0) 0 (own_lo (f' ((0 : Int32)).toNatClampNeg))) 1 (own_hi (f' ((0 : Int32)).toNatClampNeg))) T3.heap n0 Zs3 Od S_COMPACT_STRINGS S__assertionsDisabled S_HI_BYTE_SHIFT S_LO_BYTE_SHIFT hcs V_tq g_tq (own_p0 hl (J := (1 : Int32)) (k := 1) rfl hc11_5) (own_p1 hl (J := (1 : Int32)) (k := 1) rfl hc11_5)) hZ (hw _ (List.mem_of_getElem? (i := 65) rfl)) (hw _ (List.mem_of_getElem? (i := 25) rfl)) (by decide) (by decide)) (g := (mkF m 20 #[.val (.ref a), .val (.int (1 : Int32)), .val (.int l'), .val (.ref tq), .val (.int (1 : Int32))] [(.int (f' ((1 : Int32)).toNatClampNeg)), (.int (1 : Int32)), (.ref tq)])) rfl (by rw [hml]; rfl) (argsL := [(.ref tq), (.int (1 : Int32)), (.int (f' ((1 : Int32)).toNatClampNeg))]) (rest := []) (lenOf pd12_1 rfl) rfl (by show 2 * 0 + _ ≤ _; exact Nat.le_of_eq rfl) (hb hby d12_20) (fun _ _ => ⟨rfl, rfl, (by decide : 1 + 0 ≤ _), (by decide : 6 + 0 ≤ _)⟩)
    dsimp only [Pt.U, Pt.locs, Pt.cells, Pt.slots] at X7 l7 y7 z7 st7 hQ7
    subst l7 y7 z7
    obtain ⟨rfl, N7q, Kq7, V_tq⟩ := hQ7
    have N7 := Fr.app N3 N7q
    have Od := Od.keep Kq7 (allS g_tq all0)
    have V_a := V_a.keep Kq7 (ninS ne_a_tq nin0)
    have Zs7 : n0 ≤ T7.heap.size := Nat.le_trans Zs3 Kq7.1
    have K7 : Keep h0 T7.heap [] := K3.trans Kq7 (allS (Or.inr sz_tq) all0)
    have V_tq : own_A Z T7.heap tq .byte (l' <<< ((1 : Int32) &&& 31)) (own_upd (own_upd (own_upd (own_upd (fun _ => 0) 0 (own_lo (f' ((0 : Int32)).toNatClampNeg))) 1 (own_hi (f' ((0 : Int32)).toNatClampNeg))) 2 (own_lo (f' ((1 : Int32)).toNatClampNeg))) 3 (own_hi (f' ((1 : Int32)).toNatClampNeg))) := V_tq
    have pre8 : ∀ t, Steps p.tables e below (T7.setTop (mkF m 11 #[.val (.ref a), .val (.int (2 : Int32)), .val (.int l'), .val (.ref tq), .val (.int (2 : Int32))] [(.int l'), (.int (2 : Int32))])) t → Steps p.tables e below (s₁.setTop (entryFrame m #[(.ref a), (.int (0 : Int32)), (.int l')] 5)) t := by
      intro t kt
      refine pre4 t ?_
      show Steps p.tables e below (T3.setTop (mkF m 11 #[.val (.ref a), .val (.int (1 : Int32)), .val (.int l'), .val (.ref tq), .val (.int (1 : Int32))] [(.int l'), (.int (1 : Int32))])) _
      refine XS.icmpNo X3.here hx rfl (hb hby d12_11) rfl (tlt hc11_5).2.1 ?_
      show Steps p.tables e below (T3.setTop (mkF m 14 #[.val (.ref a), .val (.int (1 : Int32)), .val (.int l'), .val (.ref tq), .val (.int (1 : Int32))] [])) _
      refine XS.aloadN X3.here hx rfl (hb hby d12_14) rfl rfl ?_
      show Steps p.tables e below (T3.setTop (mkF m 15 #[.val (.ref a), .val (.int (1 : Int32)), .val (.int l'), .val (.ref tq), .val (.int (1 : Int32))] [(.ref tq)])) _
      refine XS.iload X3.here hx rfl (hb hby d12_15) rfl ?_
      show Steps p.tables e below (T3.setTop (mkF m 17 #[.val (.ref a), .val (.int (1 : Int32)), .val (.int l'), .val (.ref tq), .val (.int (1 : Int32))] [(.int (1 : Int32)), (.ref tq)])) _
      refine XS.aloadN X3.here hx rfl (hb hby d12_17) rfl rfl ?_
      show Steps p.tables e below (T3.setTop (mkF m 18 #[.val (.ref a), .val (.int (1 : Int32)), .val (.int l'), .val (.ref tq), .val (.int (1 : Int32))] [(.ref a), (.int (1 : Int32)), (.ref tq)])) _
      refine XS.iloadN X3.here hx rfl (hb hby d12_18) rfl ?_
      show Steps p.tables e below (T3.setTop (mkF m 19 #[.val (.ref a), .val (.int (1 : Int32)), .val (.int l'), .val (.ref tq), .val (.int (1 : Int32))] [(.int (1 : Int32)), (.ref a), (.int (1 : Int32)), (.ref tq)])) _
      refine X3.caload hx (j := (1 : Int32)) (v := (.int (f' ((1 : Int32)).toNatClampNeg))) Ar196.1 (State.isArrayOf_alike hZ.alike Ar196.2.1) Ar196.2.2 hin196 hat196 (g := (mkF m 19 #[.val (.ref a), .val (.int (1 : Int32)), .val (.int l'), .val (.ref tq), .val (.int (1 : Int32))] [(.int (1 : Int32)), (.ref a), (.int (1 : Int32)), (.ref tq)])) rfl rfl (hb hby d12_19) _ ?_
      show Steps p.tables e below (T3.setTop (mkF m 20 #[.val (.ref a), .val (.int (1 : Int32)), .val (.int l'), .val (.ref tq), .val (.int (1 : Int32))] [(.int (f' ((1 : Int32)).toNatClampNeg)), (.int (1 : Int32)), (.ref tq)])) _
      refine st7 _ ?_
      show Steps p.tables e below (T7.setTop (mkF m 23 #[.val (.ref a), .val (.int (1 : Int32)), .val (.int l'), .val (.ref tq), .val (.int (1 : Int32))] [])) _
      refine XS.iinc X7.here hx rfl (hb hby d12_23) rfl (l' := #[.val (.ref a), .val (.int (2 : Int32)), .val (.int l'), .val (.ref tq), .val (.int (1 : Int32))]) rfl ?_
      show Steps p.tables e below (T7.setTop (mkF m 26 #[.val (.ref a), .val (.int (2 : Int32)), .val (.int l'), .val (.ref tq), .val (.int (1 : Int32))] [])) _
      refine XS.iinc X7.here hx rfl (hb hby d12_26) rfl (l' := #[.val (.ref a), .val (.int (2 : Int32)), .val (.int l'), .val (.ref tq), .val (.int (2 : Int32))]) rfl ?_
      show Steps p.tables e below (T7.setTop (mkF m 29 #[.val (.ref a), .val (.int (2 : Int32)), .val (.int l'), .val (.ref tq), .val (.int (2 : Int32))] [])) _
      refine XS.goto X7.here hx rfl (pc0 := 29) (pc' := 8) rfl (hb hby d12_29) (by decide) (by decide) ?_
      show Steps p.tables e below (T7.setTop (mkF m 8 #[.val (.ref a), .val (.int (2 : Int32)), .val (.int l'), .val (.ref tq), .val (.int (2 : Int32))] [])) _
      refine XS.iload X7.here hx rfl (hb hby d12_8) rfl ?_
      show Steps p.tables e below (T7.setTop (mkF m 10 #[.val (.ref a), .val (.int (2 : Int32)), .val (.int l'), .val (.ref tq), .val (.int (2 : Int32))] [(.int (2 : Int32))])) _
      refine XS.iloadN X7.here hx rfl (hb hby d12_10) rfl ?_
      exact kt
    by_cases hc11_9 : (2 : Int32) < l'
    · obtain ⟨cl1910, Ar1910, S1910, M1910, H1910⟩ := id V_a
      have hin1910 : ¬ ((2 : Int32) < 0 ∨ cl1910.slots.size ≤ ((2 : Int32)).toNatClampNeg) := inb_of S1910 ⟨by decide, hc11_9⟩
      have hat1910 := own_A.at S1910 H1910 hin1910
      obtain ⟨_, _, ⟨T11, L11, k11, n11⟩, -, X11, ⟨Lc11, hQ11, l11, y11, z11⟩, st11⟩ := Jvm.LawKit.callS X7 hx (y := (⟨"java/lang/StringUTF16", "putChar", "([BII)V"⟩ : MethodName)) hown (mvT hZ (hw _ (List.mem_of_getElem? (i := 63) rfl))) (mvT hZ (hw _ (List.mem_of_getElem? (i := 64) rfl))) (mvT hZ (hw _ (List.mem_of_getElem? (i := 25) rfl))) (mvT hZ (hw _ (List.mem_of_getElem? (i := 65) rfl))) (by decide) (backOf (W := 0) (rm15 l Z a0 hw [] tq (2 : Int32) (f' ((2 : Int32)).toNatClampNeg) cs' (l' <<< ((1 : Int32) &&& 31)) (own_upd (own_upd (own_upd (own_upd (fun _ => 0) 0 (own_lo (f' ((0 : Int32)).toNatClampNeg))) 1 (own_hi (f' ((0 : Int32)).toNatClampNeg))) 2 (own_lo (f' ((1 : Int32)).toNatClampNeg))) 3 (own_hi (f' ((1 : Int32)).toNatClampNeg))) T7.heap n0 Zs7 Od S_COMPACT_STRINGS S__assertionsDisabled S_HI_BYTE_SHIFT S_LO_BYTE_SHIFT hcs V_tq g_tq (own_p0 hl (J := (2 : Int32)) (k := 2) rfl hc11_9) (own_p1 hl (J := (2 : Int32)) (k := 2) rfl hc11_9)) hZ (hw _ (List.mem_of_getElem? (i := 65) rfl)) (hw _ (List.mem_of_getElem? (i := 25) rfl)) (by decide) (by decide)) (g := (mkF m 20 #[.val (.ref a), .val (.int (2 : Int32)), .val (.int l'), .val (.ref tq), .val (.int (2 : Int32))] [(.int (f' ((2 : Int32)).toNatClampNeg)), (.int (2 : Int32)), (.ref tq)])) rfl (by rw [hml]; rfl) (argsL := [(.ref tq), (.int (2 : Int32)), (.int (f' ((2 : Int32)).toNatClampNeg))]) (rest := []) (lenOf pd12_1 rfl) rfl (by show 2 * 0 + _ ≤ _; exact Nat.le_of_eq rfl) (hb hby d12_20) (fun _ _ => ⟨rfl, rfl, (by decide : 1 + 0 ≤ _), (by decide : 6 + 0 ≤ _)⟩)
      dsimp only [Pt.U, Pt.locs, Pt.cells, Pt.slots] at X11 l11 y11 z11 st11 hQ11
      subst l11 y11 z11
      obtain ⟨rfl, N11q, Kq11, V_tq⟩ := hQ11
      have N11 := Fr.app N7 N11q
      have Od := Od.keep Kq11 (allS g_tq all0)
      have V_a := V_a.keep Kq11 (ninS ne_a_tq nin0)
      have Zs11 : n0 ≤ T11.heap.size := Nat.le_trans Zs7 Kq11.1
      have K11 : Keep h0 T11.heap [] := K7.trans Kq11 (allS (Or.inr sz_tq) all0)
      have V_tq : own_A Z T11.heap tq .byte (l' <<< ((1 : Int32) &&& 31)) (own_upd (own_upd (own_upd (own_upd (own_upd (own_upd (fun _ => 0) 0 (own_lo (f' ((0 : Int32)).toNatClampNeg))) 1 (own_hi (f' ((0 : Int32)).toNatClampNeg))) 2 (own_lo (f' ((1 : Int32)).toNatClampNeg))) 3 (own_hi (f' ((1 : Int32)).toNatClampNeg))) 4 (own_lo (f' ((2 : Int32)).toNatClampNeg))) 5 (own_hi (f' ((2 : Int32)).toNatClampNeg))) := V_tq
      obtain ⟨fs, hr, hrun, hended, hW, hsame⟩ := X11.leave (v := some (.ref tq)) (fun h => by rw [Bd.returns] at h; cases h)
      refine ⟨_, _, pre8 _ ?_, hrun, hended, _, _, rfl, ?_, ⟨_, rfl⟩, hW, hsame.mono (by decide) (by decide)⟩
      · show Steps p.tables e below (T7.setTop (mkF m 11 #[.val (.ref a), .val (.int (2 : Int32)), .val (.int l'), .val (.ref tq), .val (.int (2 : Int32))] [(.int l'), (.int (2 : Int32))])) _
        refine XS.icmpNo X7.here hx rfl (hb hby d12_11) rfl (tlt hc11_9).2.1 ?_
        show Steps p.tables e below (T7.setTop (mkF m 14 #[.val (.ref a), .val (.int (2 : Int32)), .val (.int l'), .val (.ref tq), .val (.int (2 : Int32))] [])) _
        refine XS.aloadN X7.here hx rfl (hb hby d12_14) rfl rfl ?_
        show Steps p.tables e below (T7.setTop (mkF m 15 #[.val (.ref a), .val (.int (2 : Int32)), .val (.int l'), .val (.ref tq), .val (.int (2 : Int32))] [(.ref tq)])) _
        refine XS.iload X7.here hx rfl (hb hby d12_15) rfl ?_
        show Steps p.tables e below (T7.setTop (mkF m 17 #[.val (.ref a), .val (.int (2 : Int32)), .val (.int l'), .val (.ref tq), .val (.int (2 : Int32))] [(.int (2 : Int32)), (.ref tq)])) _
        refine XS.aloadN X7.here hx rfl (hb hby d12_17) rfl rfl ?_
        show Steps p.tables e below (T7.setTop (mkF m 18 #[.val (.ref a), .val (.int (2 : Int32)), .val (.int l'), .val (.ref tq), .val (.int (2 : Int32))] [(.ref a), (.int (2 : Int32)), (.ref tq)])) _
        refine XS.iloadN X7.here hx rfl (hb hby d12_18) rfl ?_
        show Steps p.tables e below (T7.setTop (mkF m 19 #[.val (.ref a), .val (.int (2 : Int32)), .val (.int l'), .val (.ref tq), .val (.int (2 : Int32))] [(.int (2 : Int32)), (.ref a), (.int (2 : Int32)), (.ref tq)])) _
        refine X7.caload hx (j := (2 : Int32)) (v := (.int (f' ((2 : Int32)).toNatClampNeg))) Ar1910.1 (State.isArrayOf_alike hZ.alike Ar1910.2.1) Ar1910.2.2 hin1910 hat1910 (g := (mkF m 19 #[.val (.ref a), .val (.int (2 : Int32)), .val (.int l'), .val (.ref tq), .val (.int (2 : Int32))] [(.int (2 : Int32)), (.ref a), (.int (2 : Int32)), (.ref tq)])) rfl rfl (hb hby d12_19) _ ?_
        show Steps p.tables e below (T7.setTop (mkF m 20 #[.val (.ref a), .val (.int (2 : Int32)), .val (.int l'), .val (.ref tq), .val (.int (2 : Int32))] [(.int (f' ((2 : Int32)).toNatClampNeg)), (.int (2 : Int32)), (.ref tq)])) _
        refine st11 _ ?_
        show Steps p.tables e below (T11.setTop (mkF m 23 #[.val (.ref a), .val (.int (2 : Int32)), .val (.int l'), .val (.ref tq), .val (.int (2 : Int32))] [])) _
        refine XS.iinc X11.here hx rfl (hb hby d12_23) rfl (l' := #[.val (.ref a), .val (.int (3 : Int32)), .val (.int l'), .val (.ref tq), .val (.int (2 : Int32))]) rfl ?_
        show Steps p.tables e below (T11.setTop (mkF m 26 #[.val (.ref a), .val (.int (3 : Int32)), .val (.int l'), .val (.ref tq), .val (.int (2 : Int32))] [])) _
        refine XS.iinc X11.here hx rfl (hb hby d12_26) rfl (l' := #[.val (.ref a), .val (.int (3 : Int32)), .val (.int l'), .val (.ref tq), .val (.int (3 : Int32))]) rfl ?_
        show Steps p.tables e below (T11.setTop (mkF m 29 #[.val (.ref a), .val (.int (3 : Int32)), .val (.int l'), .val (.ref tq), .val (.int (3 : Int32))] [])) _
        refine XS.goto X11.here hx rfl (pc0 := 29) (pc' := 8) rfl (hb hby d12_29) (by decide) (by decide) ?_
        show Steps p.tables e below (T11.setTop (mkF m 8 #[.val (.ref a), .val (.int (3 : Int32)), .val (.int l'), .val (.ref tq), .val (.int (3 : Int32))] [])) _
        refine XS.iload X11.here hx rfl (hb hby d12_8) rfl ?_
        show Steps p.tables e below (T11.setTop (mkF m 10 #[.val (.ref a), .val (.int (3 : Int32)), .val (.int l'), .val (.ref tq), .val (.int (3 : Int32))] [(.int (3 : Int32))])) _
        refine XS.iloadN X11.here hx rfl (hb hby d12_10) rfl ?_
        show Steps p.tables e below (T11.setTop (mkF m 11 #[.val (.ref a), .val (.int (3 : Int32)), .val (.int l'), .val (.ref tq), .val (.int (3 : Int32))] [(.int l'), (.int (3 : Int32))])) _
        refine XS.icmpYes X11.here hx rfl (pc0 := 11) (pc' := 32) rfl (hb hby d12_11) rfl (flt (own_nlt (by rw [show (3 : Int32).toInt = 3 from rfl]; exact hl.2))).2.1 (by decide) (by decide) ?_
        show Steps p.tables e below (T11.setTop (mkF m 32 #[.val (.ref a), .val (.int (3 : Int32)), .val (.int l'), .val (.ref tq), .val (.int (3 : Int32))] [])) _
        refine XS.aloadN X11.here hx rfl (hb hby d12_32) rfl rfl ?_
        show Steps p.tables e below (T11.setTop (mkF m 33 #[.val (.ref a), .val (.int (3 : Int32)), .val (.int l'), .val (.ref tq), .val (.int (3 : Int32))] [(.ref tq)])) _
        exact retOut X11 hx Bd.returns rfl (Or.inr (Or.inr (Or.inr (Or.inr ⟨rfl, rfl, rfl⟩)))) (hb hby d12_33) hr
      · show Q12 Z a l' cs' f' h0 n0 _ T11.heap _
        exact ⟨tq, (own_upd (own_upd (own_upd (own_upd (own_upd (own_upd (fun _ => 0) 0 (own_lo (f' ((0 : Int32)).toNatClampNeg))) 1 (own_hi (f' ((0 : Int32)).toNatClampNeg))) 2 (own_lo (f' ((1 : Int32)).toNatClampNeg))) 3 (own_hi (f' ((1 : Int32)).toNatClampNeg))) 4 (own_lo (f' ((2 : Int32)).toNatClampNeg))) 5 (own_hi (f' ((2 : Int32)).toNatClampNeg))), rfl, N11, K11, g_tq, sz_tq, V_tq, fun i hi => by
            rcases own_il3 (own_il (J := (3 : Int32)) (j := 3) rfl (own_nlt (by rw [show (3 : Int32).toInt = 3 from rfl]; exact hl.2)) hi) with rfl | rfl | rfl <;> exact ⟨rfl, rfl⟩⟩
    · obtain ⟨fs, hr, hrun, hended, hW, hsame⟩ := X7.leave (v := some (.ref tq)) (fun h => by rw [Bd.returns] at h; cases h)
      refine ⟨_, _, pre8 _ ?_, hrun, hended, _, _, rfl, ?_, ⟨_, rfl⟩, hW, hsame.mono (by decide) (by decide)⟩
      · show Steps p.tables e below (T7.setTop (mkF m 11 #[.val (.ref a), .val (.int (2 : Int32)), .val (.int l'), .val (.ref tq), .val (.int (2 : Int32))] [(.int l'), (.int (2 : Int32))])) _
        refine XS.icmpYes X7.here hx rfl (pc0 := 11) (pc' := 32) rfl (hb hby d12_11) rfl (flt hc11_9).2.1 (by decide) (by decide) ?_
        show Steps p.tables e below (T7.setTop (mkF m 32 #[.val (.ref a), .val (.int (2 : Int32)), .val (.int l'), .val (.ref tq), .val (.int (2 : Int32))] [])) _
        refine XS.aloadN X7.here hx rfl (hb hby d12_32) rfl rfl ?_
        show Steps p.tables e below (T7.setTop (mkF m 33 #[.val (.ref a), .val (.int (2 : Int32)), .val (.int l'), .val (.ref tq), .val (.int (2 : Int32))] [(.ref tq)])) _
        exact retOut X7 hx Bd.returns rfl (Or.inr (Or.inr (Or.inr (Or.inr ⟨rfl, rfl, rfl⟩)))) (hb hby d12_33) hr
      · show Q12 Z a l' cs' f' h0 n0 _ T7.heap _
        exact ⟨tq, (own_upd (own_upd (own_upd (own_upd (fun _ => 0) 0 (own_lo (f' ((0 : Int32)).toNatClampNeg))) 1 (own_hi (f' ((0 : Int32)).toNatClampNeg))) 2 (own_lo (f' ((1 : Int32)).toNatClampNeg))) 3 (own_hi (f' ((1 : Int32)).toNatClampNeg))), rfl, N7, K7, g_tq, sz_tq, V_tq, fun i hi => by
            rcases own_il2 (own_il (J := (2 : Int32)) (j := 2) rfl hc11_9 hi) with rfl | rfl <;> exact ⟨rfl, rfl⟩⟩
  · obtain ⟨fs, hr, hrun, hended, hW, hsame⟩ := X3.leave (v := some (.ref tq)) (fun h => by rw [Bd.returns] at h; cases h)
    refine ⟨_, _, pre4 _ ?_, hrun, hended, _, _, rfl, ?_, ⟨_, rfl⟩, hW, hsame.mono (by decide) (by decide)⟩
    · show Steps p.tables e below (T3.setTop (mkF m 11 #[.val (.ref a), .val (.int (1 : Int32)), .val (.int l'), .val (.ref tq), .val (.int (1 : Int32))] [(.int l'), (.int (1 : Int32))])) _
      refine XS.icmpYes X3.here hx rfl (pc0 := 11) (pc' := 32) rfl (hb hby d12_11) rfl (flt hc11_5).2.1 (by decide) (by decide) ?_
      show Steps p.tables e below (T3.setTop (mkF m 32 #[.val (.ref a), .val (.int (1 : Int32)), .val (.int l'), .val (.ref tq), .val (.int (1 : Int32))] [])) _
      refine XS.aloadN X3.here hx rfl (hb hby d12_32) rfl rfl ?_
      show Steps p.tables e below (T3.setTop (mkF m 33 #[.val (.ref a), .val (.int (1 : Int32)), .val (.int l'), .val (.ref tq), .val (.int (1 : Int32))] [(.ref tq)])) _
      exact retOut X3 hx Bd.returns rfl (Or.inr (Or.inr (Or.inr (Or.inr ⟨rfl, rfl, rfl⟩)))) (hb hby d12_33) hr
    · show Q12 Z a l' cs' f' h0 n0 _ T3.heap _
      exact ⟨tq, (own_upd (own_upd (fun _ => 0) 0 (own_lo (f' ((0 : Int32)).toNatClampNeg))) 1 (own_hi (f' ((0 : Int32)).toNatClampNeg))), rfl, N3, K3, g_tq, sz_tq, V_tq, fun i hi => by
          rcases own_il1 (own_il (J := (1 : Int32)) (j := 1) rfl hc11_5 hi) with rfl <;> exact ⟨rfl, rfl⟩⟩
theorem d7_0 : decode jdk_52_method_21_code 0 = .ok (.iconst 0, 1) := by decide +kernel
theorem d7_1 : decode jdk_52_method_21_code 1 = .ok (.istore 5, 2) := by decide +kernel
theorem d7_3 : decode jdk_52_method_21_code 3 = .ok (.iload 5, 2) := by decide +kernel
theorem d7_5 : decode jdk_52_method_21_code 5 = .ok (.iload 4, 2) := by decide +kernel
theorem d7_7 : decode jdk_52_method_21_code 7 = .ok (.if_icmp .ge 37, 3) := by decide +kernel
theorem d7_10 : decode jdk_52_method_21_code 10 = .ok (.aload_n 0, 1) := by decide +kernel
theorem d7_11 : decode jdk_52_method_21_code 11 = .ok (.iload_n 1, 1) := by decide +kernel
theorem d7_12 : decode jdk_52_method_21_code 12 = .ok (.caload, 1) := by decide +kernel
theorem d7_13 : decode jdk_52_method_21_code 13 = .ok (.istore 6, 2) := by decide +kernel
theorem d7_15 : decode jdk_52_method_21_code 15 = .ok (.iload 6, 2) := by decide +kernel
theorem d7_17 : decode jdk_52_method_21_code 17 = .ok (.sipush 255, 3) := by decide +kernel
theorem d7_20 : decode jdk_52_method_21_code 20 = .ok (.if_icmp .le 6, 3) := by decide +kernel
theorem d7_23 : decode jdk_52_method_21_code 23 = .ok (.iload 5, 2) := by decide +kernel
theorem d7_25 : decode jdk_52_method_21_code 25 = .ok (.ireturn, 1) := by decide +kernel
theorem d7_26 : decode jdk_52_method_21_code 26 = .ok (.aload_n 2, 1) := by decide +kernel
theorem d7_27 : decode jdk_52_method_21_code 27 = .ok (.iload_n 3, 1) := by decide +kernel
theorem d7_28 : decode jdk_52_method_21_code 28 = .ok (.iload 6, 2) := by decide +kernel
theorem d7_30 : decode jdk_52_method_21_code 30 = .ok (.i2b, 1) := by decide +kernel
theorem d7_31 : decode jdk_52_method_21_code 31 = .ok (.bastore, 1) := by decide +kernel
theorem d7_32 : decode jdk_52_method_21_code 32 = .ok (.iinc 1 1, 3) := by decide +kernel
theorem d7_35 : decode jdk_52_method_21_code 35 = .ok (.iinc 3 1, 3) := by decide +kernel
theorem d7_38 : decode jdk_52_method_21_code 38 = .ok (.iinc 5 1, 3) := by decide +kernel
theorem d7_41 : decode jdk_52_method_21_code 41 = .ok (.goto (-38), 3) := by decide +kernel
theorem d7_44 : decode jdk_52_method_21_code 44 = .ok (.iload 4, 2) := by decide +kernel
theorem d7_46 : decode jdk_52_method_21_code 46 = .ok (.ireturn, 1) := by decide +kernel
theorem pn_7 : plainName "java/lang/StringUTF16" = true := by first | (simp [plainName, overriddenIn]; done) | decide +kernel
theorem ef_7 (m : MethodId) (x0 : Addr) (x2 : Addr) (x4 : Int32) : entryFrame m #[(.ref x0), (.int (0 : Int32)), (.ref x2), (.int (0 : Int32)), (.int x4)] 7 = mkF m 0 #[.val (.ref x0), .val (.int (0 : Int32)), .val (.ref x2), .val (.int (0 : Int32)), .val (.int x4), .unset, .unset] [] := by first | (simp [entryFrame, mkF, argsToLocals, Value.category]; done) | rfl
def Q7 (Z : State) (a : Addr) (b : Addr) (l' : Int32) (f' g' : Nat → Int32) (h0 : Heap) (n0 : Nat) (v : Option Value) (h : Heap) (L : List Loc) : Prop := ∃ k : Int32, v = some (.int k) ∧ Fr n0 L ∧ Keep h0 h [b] ∧ (∃ g2, own_A Z h b .byte l' g2) ∧ (k = l' ∨ (¬ k < 0 ∧ k < l' ∧ (255 : Int32) < f' k.toNatClampNeg))
set_option maxRecDepth 65536 in
set_option maxHeartbeats 40000000 in
theorem rm7 (l : Launch) (Z : State) (a0 : Array Value) (hw : ∀ d ∈ tables_1, d.before a0 Z = true) (ws : List Jvm.Cond) (a : Addr) (b : Addr) (l' : Int32) (f' g' : Nat → Int32) (h0 : Heap) (n0 : Nat) (Z0 : n0 ≤ h0.size) (V_a : own_A Z h0 a .char l' f') (V_b : own_A Z h0 b .byte l' g') (g_b : n0 ≤ b) (ne_a_b : a ≠ b) (hl : 1 ≤ l'.toInt ∧ l'.toInt ≤ 3) :
    MetFree l (⟨"java/lang/StringUTF16", "compress", "([CI[BII)I"⟩ : MethodName) (head1 (Jvm.Cond.code (⟨"java/lang/StringUTF16", "compress", "([CI[BII)I"⟩ : MethodName) jdk_52_method_21_code 7 (some .int) :: ws) ({ frames := 0, cells := 0, slots := 0, locals := 0 } : Room)) (fun ar U => ar = #[(.ref a), (.int (0 : Int32)), (.ref b), (.int (0 : Int32)), (.int l')] ∧ Z.Warmed39 U.vm ∧ U.heap = h0) (fun _ _ _ _ _ => True) (fun _ U o U' => ∃ v L, o = .returned v ∧ Q7 Z a b l' f' g' h0 n0 v U'.heap L ∧ FrameEnd U o U' L ({ frames := 0, cells := 0, slots := 0, locals := 0 } : Room).cells ({ frames := 0, cells := 0, slots := 0, locals := 0 } : Room).slots) := by
  refine MetFree.of_bodySF (plainFor_of_name pn_7) hisR ?_
  intro p e s m args below meth c s₁ Bd hml0 hP hK
  obtain ⟨rfl, hZ, hh⟩ := hP
  have hx := Bd.exec
  have hby := Bd.bytes
  have hml : c.maxLocals = 7 := hml0
  have hown : s.vm.findClass "java/lang/StringUTF16" = some m.cls := findClass_of_methodNamed Bd.named
  have hnm := (name_of_methodNamed Bd.named Bd.method).1
  have X0 : Stand p l e ({ frames := 0, cells := 0, slots := 0, locals := 0 } : Room) s m #[(.ref a), (.int (0 : Int32)), (.ref b), (.int (0 : Int32)), (.int l')] below meth c s₁ [] 0 0 := Stand.of_body Bd
  have e0 : s₁.heap = h0 := by rw [← hh, Bd.state]; rfl
  have N0 := Fr.nil n0
  have K0 : Keep h0 h0 [b] := Keep.refl h0 _
  have pre0 : ∀ t, Steps p.tables e below (s₁.setTop (mkF m 0 #[.val (.ref a), .val (.int (0 : Int32)), .val (.ref b), .val (.int (0 : Int32)), .val (.int l'), .unset, .unset] [])) t → Steps p.tables e below (s₁.setTop (entryFrame m #[(.ref a), (.int (0 : Int32)), (.ref b), (.int (0 : Int32)), (.int l')] 7)) t := fun t k => castTop (ef_7 m a b l') k
  have pre1 : ∀ t, Steps p.tables e below (s₁.setTop (mkF m 7 #[.val (.ref a), .val (.int (0 : Int32)), .val (.ref b), .val (.int (0 : Int32)), .val (.int l'), .val (.int (0 : Int32)), .unset] [(.int l'), (.int (0 : Int32))])) t → Steps p.tables e below (s₁.setTop (entryFrame m #[(.ref a), (.int (0 : Int32)), (.ref b), (.int (0 : Int32)), (.int l')] 7)) t := by
    intro t kt
    refine pre0 t ?_
    show Steps p.tables e below (s₁.setTop (mkF m 0 #[.val (.ref a), .val (.int (0 : Int32)), .val (.ref b), .val (.int (0 : Int32)), .val (.int l'), .unset, .unset] [])) _
    refine XS.iconst X0.here hx rfl (hb hby d7_0) ?_
    show Steps p.tables e below (s₁.setTop (mkF m 1 #[.val (.ref a), .val (.int (0 : Int32)), .val (.ref b), .val (.int (0 : Int32)), .val (.int l'), .unset, .unset] [(.int (0 : Int32))])) _
    refine XS.istore X0.here hx rfl (hb hby d7_1) rfl (l' := #[.val (.ref a), .val (.int (0 : Int32)), .val (.ref b), .val (.int (0 : Int32)), .val (.int l'), .val (.int (0 : Int32)), .unset]) rfl ?_
    show Steps p.tables e below (s₁.setTop (mkF m 3 #[.val (.ref a), .val (.int (0 : Int32)), .val (.ref b), .val (.int (0 : Int32)), .val (.int l'), .val (.int (0 : Int32)), .unset] [])) _
    refine XS.iload X0.here hx rfl (hb hby d7_3) rfl ?_
    show Steps p.tables e below (s₁.setTop (mkF m 5 #[.val (.ref a), .val (.int (0 : Int32)), .val (.ref b), .val (.int (0 : Int32)), .val (.int l'), .val (.int (0 : Int32)), .unset] [(.int (0 : Int32))])) _
    refine XS.iload X0.here hx rfl (hb hby d7_5) rfl ?_
    exact kt
  by_cases hc7_2 : (0 : Int32) < l'
  · obtain ⟨cl123, Ar123, S123, M123, H123⟩ := id V_a
    have hin123 : ¬ ((0 : Int32) < 0 ∨ cl123.slots.size ≤ ((0 : Int32)).toNatClampNeg) := inb_of S123 ⟨by decide, hc7_2⟩
    have hat123 := own_A.at S123 H123 hin123
    have pre4 : ∀ t, Steps p.tables e below (s₁.setTop (mkF m 20 #[.val (.ref a), .val (.int (0 : Int32)), .val (.ref b), .val (.int (0 : Int32)), .val (.int l'), .val (.int (0 : Int32)), .val (.int (f' ((0 : Int32)).toNatClampNeg))] [(.int (255 : Int32)), (.int (f' ((0 : Int32)).toNatClampNeg))])) t → Steps p.tables e below (s₁.setTop (entryFrame m #[(.ref a), (.int (0 : Int32)), (.ref b), (.int (0 : Int32)), (.int l')] 7)) t := by
      intro t kt
      refine pre1 t ?_
      show Steps p.tables e below (s₁.setTop (mkF m 7 #[.val (.ref a), .val (.int (0 : Int32)), .val (.ref b), .val (.int (0 : Int32)), .val (.int l'), .val (.int (0 : Int32)), .unset] [(.int l'), (.int (0 : Int32))])) _
      refine XS.icmpNo X0.here hx rfl (hb hby d7_7) rfl (tlt hc7_2).2.1 ?_
      show Steps p.tables e below (s₁.setTop (mkF m 10 #[.val (.ref a), .val (.int (0 : Int32)), .val (.ref b), .val (.int (0 : Int32)), .val (.int l'), .val (.int (0 : Int32)), .unset] [])) _
      refine XS.aloadN X0.here hx rfl (hb hby d7_10) rfl rfl ?_
      show Steps p.tables e below (s₁.setTop (mkF m 11 #[.val (.ref a), .val (.int (0 : Int32)), .val (.ref b), .val (.int (0 : Int32)), .val (.int l'), .val (.int (0 : Int32)), .unset] [(.ref a)])) _
      refine XS.iloadN X0.here hx rfl (hb hby d7_11) rfl ?_
      show Steps p.tables e below (s₁.setTop (mkF m 12 #[.val (.ref a), .val (.int (0 : Int32)), .val (.ref b), .val (.int (0 : Int32)), .val (.int l'), .val (.int (0 : Int32)), .unset] [(.int (0 : Int32)), (.ref a)])) _
      refine X0.caload hx (j := (0 : Int32)) (v := (.int (f' ((0 : Int32)).toNatClampNeg))) (by rw [e0]; exact Ar123.1) (State.isArrayOf_alike hZ.alike Ar123.2.1) Ar123.2.2 hin123 hat123 (g := (mkF m 12 #[.val (.ref a), .val (.int (0 : Int32)), .val (.ref b), .val (.int (0 : Int32)), .val (.int l'), .val (.int (0 : Int32)), .unset] [(.int (0 : Int32)), (.ref a)])) rfl rfl (hb hby d7_12) _ ?_
      show Steps p.tables e below (s₁.setTop (mkF m 13 #[.val (.ref a), .val (.int (0 : Int32)), .val (.ref b), .val (.int (0 : Int32)), .val (.int l'), .val (.int (0 : Int32)), .unset] [(.int (f' ((0 : Int32)).toNatClampNeg))])) _
      refine XS.istore X0.here hx rfl (hb hby d7_13) rfl (l' := #[.val (.ref a), .val (.int (0 : Int32)), .val (.ref b), .val (.int (0 : Int32)), .val (.int l'), .val (.int (0 : Int32)), .val (.int (f' ((0 : Int32)).toNatClampNeg))]) rfl ?_
      show Steps p.tables e below (s₁.setTop (mkF m 15 #[.val (.ref a), .val (.int (0 : Int32)), .val (.ref b), .val (.int (0 : Int32)), .val (.int l'), .val (.int (0 : Int32)), .val (.int (f' ((0 : Int32)).toNatClampNeg))] [])) _
      refine XS.iload X0.here hx rfl (hb hby d7_15) rfl ?_
      show Steps p.tables e below (s₁.setTop (mkF m 17 #[.val (.ref a), .val (.int (0 : Int32)), .val (.ref b), .val (.int (0 : Int32)), .val (.int l'), .val (.int (0 : Int32)), .val (.int (f' ((0 : Int32)).toNatClampNeg))] [(.int (f' ((0 : Int32)).toNatClampNeg))])) _
      refine XS.sipush X0.here hx rfl (hb hby d7_17) ?_
      exact kt
    by_cases hc20_5 : (255 : Int32) < (f' ((0 : Int32)).toNatClampNeg)
    · obtain ⟨fs, hr, hrun, hended, hW, hsame⟩ := X0.leave (v := some (.int (0 : Int32))) (fun h => by rw [Bd.returns] at h; cases h)
      refine ⟨_, _, pre4 _ ?_, hrun, hended, _, _, rfl, ?_, ⟨_, rfl⟩, hW, hsame.mono (by decide) (by decide)⟩
      · show Steps p.tables e below (s₁.setTop (mkF m 20 #[.val (.ref a), .val (.int (0 : Int32)), .val (.ref b), .val (.int (0 : Int32)), .val (.int l'), .val (.int (0 : Int32)), .val (.int (f' ((0 : Int32)).toNatClampNeg))] [(.int (255 : Int32)), (.int (f' ((0 : Int32)).toNatClampNeg))])) _
        refine XS.icmpNo X0.here hx rfl (hb hby d7_20) rfl (tlt hc20_5).2.2.2 ?_
        show Steps p.tables e below (s₁.setTop (mkF m 23 #[.val (.ref a), .val (.int (0 : Int32)), .val (.ref b), .val (.int (0 : Int32)), .val (.int l'), .val (.int (0 : Int32)), .val (.int (f' ((0 : Int32)).toNatClampNeg))] [])) _
        refine XS.iload X0.here hx rfl (hb hby d7_23) rfl ?_
        show Steps p.tables e below (s₁.setTop (mkF m 25 #[.val (.ref a), .val (.int (0 : Int32)), .val (.ref b), .val (.int (0 : Int32)), .val (.int l'), .val (.int (0 : Int32)), .val (.int (f' ((0 : Int32)).toNatClampNeg))] [(.int (0 : Int32))])) _
        exact retOut X0 hx Bd.returns rfl (Or.inl ⟨rfl, Or.inl rfl, _, rfl⟩) (hb hby d7_25) hr
      · show Q7 Z a b l' f' g' h0 n0 _ s₁.heap _
        rw [e0]
        exact ⟨(0 : Int32), rfl, N0, K0, ⟨_, V_b⟩, Or.inr ⟨by decide, hc7_2, hc20_5⟩⟩
    · obtain ⟨cl316, Ar316, S316, M316, H316⟩ := V_b
      have hin316 : ¬ ((0 : Int32) < 0 ∨ cl316.slots.size ≤ ((0 : Int32)).toNatClampNeg) := inb_of S316 ⟨by decide, hc7_2⟩
      obtain ⟨T7, h7, X7, e7, W7, st7⟩ := stB X0 hx hZ e0 Ar316 (j := (0 : Int32)) hin316 (g := (mkF m 31 #[.val (.ref a), .val (.int (0 : Int32)), .val (.ref b), .val (.int (0 : Int32)), .val (.int l'), .val (.int (0 : Int32)), .val (.int (f' ((0 : Int32)).toNatClampNeg))] [(.int ((f' ((0 : Int32)).toNatClampNeg).toInt8.toInt32)), (.int (0 : Int32)), (.ref b)])) rfl rfl (hb hby d7_31)
      have V_a := V_a.other W7 ne_a_b
      have Zs7 : n0 ≤ h7.size := Nat.le_trans Z0 (Keep.of_wr W7).1
      have K7 : Keep h0 h7 [b] := K0.wr W7 (Or.inl (List.mem_of_getElem? (i := 0) rfl))
      have N7 := Fr.snoc X7 N0 g_b
      obtain ⟨f7, V_b⟩ : ∃ f, own_A Z h7 b .byte l' f := ⟨_, own_A.set Ar316 S316 M316 H316 W7⟩
      have pre8 : ∀ t, Steps p.tables e below (T7.setTop (mkF m 7 #[.val (.ref a), .val (.int (1 : Int32)), .val (.ref b), .val (.int (1 : Int32)), .val (.int l'), .val (.int (1 : Int32)), .val (.int (f' ((0 : Int32)).toNatClampNeg))] [(.int l'), (.int (1 : Int32))])) t → Steps p.tables e below (s₁.setTop (entryFrame m #[(.ref a), (.int (0 : Int32)), (.ref b), (.int (0 : Int32)), (.int l')] 7)) t := by
        intro t kt
        refine pre4 t ?_
        show Steps p.tables e below (s₁.setTop (mkF m 20 #[.val (.ref a), .val (.int (0 : Int32)), .val (.ref b), .val (.int (0 : Int32)), .val (.int l'), .val (.int (0 : Int32)), .val (.int (f' ((0 : Int32)).toNatClampNeg))] [(.int (255 : Int32)), (.int (f' ((0 : Int32)).toNatClampNeg))])) _
        refine XS.icmpYes X0.here hx rfl (pc0 := 20) (pc' := 26) rfl (hb hby d7_20) rfl (flt hc20_5).2.2.2 (by decide) (by decide) ?_
        show Steps p.tables e below (s₁.setTop (mkF m 26 #[.val (.ref a), .val (.int (0 : Int32)), .val (.ref b), .val (.int (0 : Int32)), .val (.int l'), .val (.int (0 : Int32)), .val (.int (f' ((0 : Int32)).toNatClampNeg))] [])) _
        refine XS.aloadN X0.here hx rfl (hb hby d7_26) rfl rfl ?_
        show Steps p.tables e below (s₁.setTop (mkF m 27 #[.val (.ref a), .val (.int (0 : Int32)), .val (.ref b), .val (.int (0 : Int32)), .val (.int l'), .val (.int (0 : Int32)), .val (.int (f' ((0 : Int32)).toNatClampNeg))] [(.ref b)])) _
        refine XS.iloadN X0.here hx rfl (hb hby d7_27) rfl ?_
        show Steps p.tables e below (s₁.setTop (mkF m 28 #[.val (.ref a), .val (.int (0 : Int32)), .val (.ref b), .val (.int (0 : Int32)), .val (.int l'), .val (.int (0 : Int32)), .val (.int (f' ((0 : Int32)).toNatClampNeg))] [(.int (0 : Int32)), (.ref b)])) _
        refine XS.iload X0.here hx rfl (hb hby d7_28) rfl ?_
        show Steps p.tables e below (s₁.setTop (mkF m 30 #[.val (.ref a), .val (.int (0 : Int32)), .val (.ref b), .val (.int (0 : Int32)), .val (.int l'), .val (.int (0 : Int32)), .val (.int (f' ((0 : Int32)).toNatClampNeg))] [(.int (f' ((0 : Int32)).toNatClampNeg)), (.int (0 : Int32)), (.ref b)])) _
        refine XS.i2b X0.here hx rfl (hb hby d7_30) rfl ?_
        show Steps p.tables e below (s₁.setTop (mkF m 31 #[.val (.ref a), .val (.int (0 : Int32)), .val (.ref b), .val (.int (0 : Int32)), .val (.int l'), .val (.int (0 : Int32)), .val (.int (f' ((0 : Int32)).toNatClampNeg))] [(.int ((f' ((0 : Int32)).toNatClampNeg).toInt8.toInt32)), (.int (0 : Int32)), (.ref b)])) _
        refine st7 _ ?_
        show Steps p.tables e below (T7.setTop (mkF m 32 #[.val (.ref a), .val (.int (0 : Int32)), .val (.ref b), .val (.int (0 : Int32)), .val (.int l'), .val (.int (0 : Int32)), .val (.int (f' ((0 : Int32)).toNatClampNeg))] [])) _
        refine XS.iinc X7.here hx rfl (hb hby d7_32) rfl (l' := #[.val (.ref a), .val (.int (1 : Int32)), .val (.ref b), .val (.int (0 : Int32)), .val (.int l'), .val (.int (0 : Int32)), .val (.int (f' ((0 : Int32)).toNatClampNeg))]) rfl ?_
        show Steps p.tables e below (T7.setTop (mkF m 35 #[.val (.ref a), .val (.int (1 : Int32)), .val (.ref b), .val (.int (0 : Int32)), .val (.int l'), .val (.int (0 : Int32)), .val (.int (f' ((0 : Int32)).toNatClampNeg))] [])) _
        refine XS.iinc X7.here hx rfl (hb hby d7_35) rfl (l' := #[.val (.ref a), .val (.int (1 : Int32)), .val (.ref b), .val (.int (1 : Int32)), .val (.int l'), .val (.int (0 : Int32)), .val (.int (f' ((0 : Int32)).toNatClampNeg))]) rfl ?_
        show Steps p.tables e below (T7.setTop (mkF m 38 #[.val (.ref a), .val (.int (1 : Int32)), .val (.ref b), .val (.int (1 : Int32)), .val (.int l'), .val (.int (0 : Int32)), .val (.int (f' ((0 : Int32)).toNatClampNeg))] [])) _
        refine XS.iinc X7.here hx rfl (hb hby d7_38) rfl (l' := #[.val (.ref a), .val (.int (1 : Int32)), .val (.ref b), .val (.int (1 : Int32)), .val (.int l'), .val (.int (1 : Int32)), .val (.int (f' ((0 : Int32)).toNatClampNeg))]) rfl ?_
        show Steps p.tables e below (T7.setTop (mkF m 41 #[.val (.ref a), .val (.int (1 : Int32)), .val (.ref b), .val (.int (1 : Int32)), .val (.int l'), .val (.int (1 : Int32)), .val (.int (f' ((0 : Int32)).toNatClampNeg))] [])) _
        refine XS.goto X7.here hx rfl (pc0 := 41) (pc' := 3) rfl (hb hby d7_41) (by decide) (by decide) ?_
        show Steps p.tables e below (T7.setTop (mkF m 3 #[.val (.ref a), .val (.int (1 : Int32)), .val (.ref b), .val (.int (1 : Int32)), .val (.int l'), .val (.int (1 : Int32)), .val (.int (f' ((0 : Int32)).toNatClampNeg))] [])) _
        refine XS.iload X7.here hx rfl (hb hby d7_3) rfl ?_
        show Steps p.tables e below (T7.setTop (mkF m 5 #[.val (.ref a), .val (.int (1 : Int32)), .val (.ref b), .val (.int (1 : Int32)), .val (.int l'), .val (.int (1 : Int32)), .val (.int (f' ((0 : Int32)).toNatClampNeg))] [(.int (1 : Int32))])) _
        refine XS.iload X7.here hx rfl (hb hby d7_5) rfl ?_
        exact kt
      by_cases hc7_9 : (1 : Int32) < l'
      · obtain ⟨cl1210, Ar1210, S1210, M1210, H1210⟩ := id V_a
        have hin1210 : ¬ ((1 : Int32) < 0 ∨ cl1210.slots.size ≤ ((1 : Int32)).toNatClampNeg) := inb_of S1210 ⟨by decide, hc7_9⟩
        have hat1210 := own_A.at S1210 H1210 hin1210
        have pre11 : ∀ t, Steps p.tables e below (T7.setTop (mkF m 20 #[.val (.ref a), .val (.int (1 : Int32)), .val (.ref b), .val (.int (1 : Int32)), .val (.int l'), .val (.int (1 : Int32)), .val (.int (f' ((1 : Int32)).toNatClampNeg))] [(.int (255 : Int32)), (.int (f' ((1 : Int32)).toNatClampNeg))])) t → Steps p.tables e below (s₁.setTop (entryFrame m #[(.ref a), (.int (0 : Int32)), (.ref b), (.int (0 : Int32)), (.int l')] 7)) t := by
          intro t kt
          refine pre8 t ?_
          show Steps p.tables e below (T7.setTop (mkF m 7 #[.val (.ref a), .val (.int (1 : Int32)), .val (.ref b), .val (.int (1 : Int32)), .val (.int l'), .val (.int (1 : Int32)), .val (.int (f' ((0 : Int32)).toNatClampNeg))] [(.int l'), (.int (1 : Int32))])) _
          refine XS.icmpNo X7.here hx rfl (hb hby d7_7) rfl (tlt hc7_9).2.1 ?_
          show Steps p.tables e below (T7.setTop (mkF m 10 #[.val (.ref a), .val (.int (1 : Int32)), .val (.ref b), .val (.int (1 : Int32)), .val (.int l'), .val (.int (1 : Int32)), .val (.int (f' ((0 : Int32)).toNatClampNeg))] [])) _
          refine XS.aloadN X7.here hx rfl (hb hby d7_10) rfl rfl ?_
          show Steps p.tables e below (T7.setTop (mkF m 11 #[.val (.ref a), .val (.int (1 : Int32)), .val (.ref b), .val (.int (1 : Int32)), .val (.int l'), .val (.int (1 : Int32)), .val (.int (f' ((0 : Int32)).toNatClampNeg))] [(.ref a)])) _
          refine XS.iloadN X7.here hx rfl (hb hby d7_11) rfl ?_
          show Steps p.tables e below (T7.setTop (mkF m 12 #[.val (.ref a), .val (.int (1 : Int32)), .val (.ref b), .val (.int (1 : Int32)), .val (.int l'), .val (.int (1 : Int32)), .val (.int (f' ((0 : Int32)).toNatClampNeg))] [(.int (1 : Int32)), (.ref a)])) _
          refine X7.caload hx (j := (1 : Int32)) (v := (.int (f' ((1 : Int32)).toNatClampNeg))) (by rw [e7]; exact Ar1210.1) (State.isArrayOf_alike hZ.alike Ar1210.2.1) Ar1210.2.2 hin1210 hat1210 (g := (mkF m 12 #[.val (.ref a), .val (.int (1 : Int32)), .val (.ref b), .val (.int (1 : Int32)), .val (.int l'), .val (.int (1 : Int32)), .val (.int (f' ((0 : Int32)).toNatClampNeg))] [(.int (1 : Int32)), (.ref a)])) rfl rfl (hb hby d7_12) _ ?_
          show Steps p.tables e below (T7.setTop (mkF m 13 #[.val (.ref a), .val (.int (1 : Int32)), .val (.ref b), .val (.int (1 : Int32)), .val (.int l'), .val (.int (1 : Int32)), .val (.int (f' ((0 : Int32)).toNatClampNeg))] [(.int (f' ((1 : Int32)).toNatClampNeg))])) _
          refine XS.istore X7.here hx rfl (hb hby d7_13) rfl (l' := #[.val (.ref a), .val (.int (1 : Int32)), .val (.ref b), .val (.int (1 : Int32)), .val (.int l'), .val (.int (1 : Int32)), .val (.int (f' ((1 : Int32)).toNatClampNeg))]) rfl ?_
          show Steps p.tables e below (T7.setTop (mkF m 15 #[.val (.ref a), .val (.int (1 : Int32)), .val (.ref b), .val (.int (1 : Int32)), .val (.int l'), .val (.int (1 : Int32)), .val (.int (f' ((1 : Int32)).toNatClampNeg))] [])) _
          refine XS.iload X7.here hx rfl (hb hby d7_15) rfl ?_
          show Steps p.tables e below (T7.setTop (mkF m 17 #[.val (.ref a), .val (.int (1 : Int32)), .val (.ref b), .val (.int (1 : Int32)), .val (.int l'), .val (.int (1 : Int32)), .val (.int (f' ((1 : Int32)).toNatClampNeg))] [(.int (f' ((1 : Int32)).toNatClampNeg))])) _
          refine XS.sipush X7.here hx rfl (hb hby d7_17) ?_
          exact kt
        by_cases hc20_12 : (255 : Int32) < (f' ((1 : Int32)).toNatClampNeg)
        · obtain ⟨fs, hr, hrun, hended, hW, hsame⟩ := X7.leave (v := some (.int (1 : Int32))) (fun h => by rw [Bd.returns] at h; cases h)
          refine ⟨_, _, pre11 _ ?_, hrun, hended, _, _, rfl, ?_, ⟨_, rfl⟩, hW, hsame.mono (by decide) (by decide)⟩
          · show Steps p.tables e below (T7.setTop (mkF m 20 #[.val (.ref a), .val (.int (1 : Int32)), .val (.ref b), .val (.int (1 : Int32)), .val (.int l'), .val (.int (1 : Int32)), .val (.int (f' ((1 : Int32)).toNatClampNeg))] [(.int (255 : Int32)), (.int (f' ((1 : Int32)).toNatClampNeg))])) _
            refine XS.icmpNo X7.here hx rfl (hb hby d7_20) rfl (tlt hc20_12).2.2.2 ?_
            show Steps p.tables e below (T7.setTop (mkF m 23 #[.val (.ref a), .val (.int (1 : Int32)), .val (.ref b), .val (.int (1 : Int32)), .val (.int l'), .val (.int (1 : Int32)), .val (.int (f' ((1 : Int32)).toNatClampNeg))] [])) _
            refine XS.iload X7.here hx rfl (hb hby d7_23) rfl ?_
            show Steps p.tables e below (T7.setTop (mkF m 25 #[.val (.ref a), .val (.int (1 : Int32)), .val (.ref b), .val (.int (1 : Int32)), .val (.int l'), .val (.int (1 : Int32)), .val (.int (f' ((1 : Int32)).toNatClampNeg))] [(.int (1 : Int32))])) _
            exact retOut X7 hx Bd.returns rfl (Or.inl ⟨rfl, Or.inl rfl, _, rfl⟩) (hb hby d7_25) hr
          · show Q7 Z a b l' f' g' h0 n0 _ T7.heap _
            rw [e7]
            exact ⟨(1 : Int32), rfl, N7, K7, ⟨_, V_b⟩, Or.inr ⟨by decide, hc7_9, hc20_12⟩⟩
        · obtain ⟨cl3113, Ar3113, S3113, M3113, H3113⟩ := V_b
          have hin3113 : ¬ ((1 : Int32) < 0 ∨ cl3113.slots.size ≤ ((1 : Int32)).toNatClampNeg) := inb_of S3113 ⟨by decide, hc7_9⟩
          obtain ⟨T14, h14, X14, e14, W14, st14⟩ := stB X7 hx hZ e7 Ar3113 (j := (1 : Int32)) hin3113 (g := (mkF m 31 #[.val (.ref a), .val (.int (1 : Int32)), .val (.ref b), .val (.int (1 : Int32)), .val (.int l'), .val (.int (1 : Int32)), .val (.int (f' ((1 : Int32)).toNatClampNeg))] [(.int ((f' ((1 : Int32)).toNatClampNeg).toInt8.toInt32)), (.int (1 : Int32)), (.ref b)])) rfl rfl (hb hby d7_31)
          have V_a := V_a.other W14 ne_a_b
          have Zs14 : n0 ≤ h14.size := Nat.le_trans Zs7 (Keep.of_wr W14).1
          have K14 : Keep h0 h14 [b] := K7.wr W14 (Or.inl (List.mem_of_getElem? (i := 0) rfl))
          have N14 := Fr.snoc X14 N7 g_b
          obtain ⟨f14, V_b⟩ : ∃ f, own_A Z h14 b .byte l' f := ⟨_, own_A.set Ar3113 S3113 M3113 H3113 W14⟩
          have pre15 : ∀ t, Steps p.tables e below (T14.setTop (mkF m 7 #[.val (.ref a), .val (.int (2 : Int32)), .val (.ref b), .val (.int (2 : Int32)), .val (.int l'), .val (.int (2 : Int32)), .val (.int (f' ((1 : Int32)).toNatClampNeg))] [(.int l'), (.int (2 : Int32))])) t → Steps p.tables e below (s₁.setTop (entryFrame m #[(.ref a), (.int (0 : Int32)), (.ref b), (.int (0 : Int32)), (.int l')] 7)) t := by
            intro t kt
            refine pre11 t ?_
            show Steps p.tables e below (T7.setTop (mkF m 20 #[.val (.ref a), .val (.int (1 : Int32)), .val (.ref b), .val (.int (1 : Int32)), .val (.int l'), .val (.int (1 : Int32)), .val (.int (f' ((1 : Int32)).toNatClampNeg))] [(.int (255 : Int32)), (.int (f' ((1 : Int32)).toNatClampNeg))])) _
            refine XS.icmpYes X7.here hx rfl (pc0 := 20) (pc' := 26) rfl (hb hby d7_20) rfl (flt hc20_12).2.2.2 (by decide) (by decide) ?_
            show Steps p.tables e below (T7.setTop (mkF m 26 #[.val (.ref a), .val (.int (1 : Int32)), .val (.ref b), .val (.int (1 : Int32)), .val (.int l'), .val (.int (1 : Int32)), .val (.int (f' ((1 : Int32)).toNatClampNeg))] [])) _
            refine XS.aloadN X7.here hx rfl (hb hby d7_26) rfl rfl ?_
            show Steps p.tables e below (T7.setTop (mkF m 27 #[.val (.ref a), .val (.int (1 : Int32)), .val (.ref b), .val (.int (1 : Int32)), .val (.int l'), .val (.int (1 : Int32)), .val (.int (f' ((1 : Int32)).toNatClampNeg))] [(.ref b)])) _
            refine XS.iloadN X7.here hx rfl (hb hby d7_27) rfl ?_
            show Steps p.tables e below (T7.setTop (mkF m 28 #[.val (.ref a), .val (.int (1 : Int32)), .val (.ref b), .val (.int (1 : Int32)), .val (.int l'), .val (.int (1 : Int32)), .val (.int (f' ((1 : Int32)).toNatClampNeg))] [(.int (1 : Int32)), (.ref b)])) _
            refine XS.iload X7.here hx rfl (hb hby d7_28) rfl ?_
            show Steps p.tables e below (T7.setTop (mkF m 30 #[.val (.ref a), .val (.int (1 : Int32)), .val (.ref b), .val (.int (1 : Int32)), .val (.int l'), .val (.int (1 : Int32)), .val (.int (f' ((1 : Int32)).toNatClampNeg))] [(.int (f' ((1 : Int32)).toNatClampNeg)), (.int (1 : Int32)), (.ref b)])) _
            refine XS.i2b X7.here hx rfl (hb hby d7_30) rfl ?_
            show Steps p.tables e below (T7.setTop (mkF m 31 #[.val (.ref a), .val (.int (1 : Int32)), .val (.ref b), .val (.int (1 : Int32)), .val (.int l'), .val (.int (1 : Int32)), .val (.int (f' ((1 : Int32)).toNatClampNeg))] [(.int ((f' ((1 : Int32)).toNatClampNeg).toInt8.toInt32)), (.int (1 : Int32)), (.ref b)])) _
            refine st14 _ ?_
            show Steps p.tables e below (T14.setTop (mkF m 32 #[.val (.ref a), .val (.int (1 : Int32)), .val (.ref b), .val (.int (1 : Int32)), .val (.int l'), .val (.int (1 : Int32)), .val (.int (f' ((1 : Int32)).toNatClampNeg))] [])) _
            refine XS.iinc X14.here hx rfl (hb hby d7_32) rfl (l' := #[.val (.ref a), .val (.int (2 : Int32)), .val (.ref b), .val (.int (1 : Int32)), .val (.int l'), .val (.int (1 : Int32)), .val (.int (f' ((1 : Int32)).toNatClampNeg))]) rfl ?_
            show Steps p.tables e below (T14.setTop (mkF m 35 #[.val (.ref a), .val (.int (2 : Int32)), .val (.ref b), .val (.int (1 : Int32)), .val (.int l'), .val (.int (1 : Int32)), .val (.int (f' ((1 : Int32)).toNatClampNeg))] [])) _
            refine XS.iinc X14.here hx rfl (hb hby d7_35) rfl (l' := #[.val (.ref a), .val (.int (2 : Int32)), .val (.ref b), .val (.int (2 : Int32)), .val (.int l'), .val (.int (1 : Int32)), .val (.int (f' ((1 : Int32)).toNatClampNeg))]) rfl ?_
            show Steps p.tables e below (T14.setTop (mkF m 38 #[.val (.ref a), .val (.int (2 : Int32)), .val (.ref b), .val (.int (2 : Int32)), .val (.int l'), .val (.int (1 : Int32)), .val (.int (f' ((1 : Int32)).toNatClampNeg))] [])) _
            refine XS.iinc X14.here hx rfl (hb hby d7_38) rfl (l' := #[.val (.ref a), .val (.int (2 : Int32)), .val (.ref b), .val (.int (2 : Int32)), .val (.int l'), .val (.int (2 : Int32)), .val (.int (f' ((1 : Int32)).toNatClampNeg))]) rfl ?_
            show Steps p.tables e below (T14.setTop (mkF m 41 #[.val (.ref a), .val (.int (2 : Int32)), .val (.ref b), .val (.int (2 : Int32)), .val (.int l'), .val (.int (2 : Int32)), .val (.int (f' ((1 : Int32)).toNatClampNeg))] [])) _
            refine XS.goto X14.here hx rfl (pc0 := 41) (pc' := 3) rfl (hb hby d7_41) (by decide) (by decide) ?_
            show Steps p.tables e below (T14.setTop (mkF m 3 #[.val (.ref a), .val (.int (2 : Int32)), .val (.ref b), .val (.int (2 : Int32)), .val (.int l'), .val (.int (2 : Int32)), .val (.int (f' ((1 : Int32)).toNatClampNeg))] [])) _
            refine XS.iload X14.here hx rfl (hb hby d7_3) rfl ?_
            show Steps p.tables e below (T14.setTop (mkF m 5 #[.val (.ref a), .val (.int (2 : Int32)), .val (.ref b), .val (.int (2 : Int32)), .val (.int l'), .val (.int (2 : Int32)), .val (.int (f' ((1 : Int32)).toNatClampNeg))] [(.int (2 : Int32))])) _
            refine XS.iload X14.here hx rfl (hb hby d7_5) rfl ?_
            exact kt
          by_cases hc7_16 : (2 : Int32) < l'
          · obtain ⟨cl1217, Ar1217, S1217, M1217, H1217⟩ := id V_a
            have hin1217 : ¬ ((2 : Int32) < 0 ∨ cl1217.slots.size ≤ ((2 : Int32)).toNatClampNeg) := inb_of S1217 ⟨by decide, hc7_16⟩
            have hat1217 := own_A.at S1217 H1217 hin1217
            have pre18 : ∀ t, Steps p.tables e below (T14.setTop (mkF m 20 #[.val (.ref a), .val (.int (2 : Int32)), .val (.ref b), .val (.int (2 : Int32)), .val (.int l'), .val (.int (2 : Int32)), .val (.int (f' ((2 : Int32)).toNatClampNeg))] [(.int (255 : Int32)), (.int (f' ((2 : Int32)).toNatClampNeg))])) t → Steps p.tables e below (s₁.setTop (entryFrame m #[(.ref a), (.int (0 : Int32)), (.ref b), (.int (0 : Int32)), (.int l')] 7)) t := by
              intro t kt
              refine pre15 t ?_
              show Steps p.tables e below (T14.setTop (mkF m 7 #[.val (.ref a), .val (.int (2 : Int32)), .val (.ref b), .val (.int (2 : Int32)), .val (.int l'), .val (.int (2 : Int32)), .val (.int (f' ((1 : Int32)).toNatClampNeg))] [(.int l'), (.int (2 : Int32))])) _
              refine XS.icmpNo X14.here hx rfl (hb hby d7_7) rfl (tlt hc7_16).2.1 ?_
              show Steps p.tables e below (T14.setTop (mkF m 10 #[.val (.ref a), .val (.int (2 : Int32)), .val (.ref b), .val (.int (2 : Int32)), .val (.int l'), .val (.int (2 : Int32)), .val (.int (f' ((1 : Int32)).toNatClampNeg))] [])) _
              refine XS.aloadN X14.here hx rfl (hb hby d7_10) rfl rfl ?_
              show Steps p.tables e below (T14.setTop (mkF m 11 #[.val (.ref a), .val (.int (2 : Int32)), .val (.ref b), .val (.int (2 : Int32)), .val (.int l'), .val (.int (2 : Int32)), .val (.int (f' ((1 : Int32)).toNatClampNeg))] [(.ref a)])) _
              refine XS.iloadN X14.here hx rfl (hb hby d7_11) rfl ?_
              show Steps p.tables e below (T14.setTop (mkF m 12 #[.val (.ref a), .val (.int (2 : Int32)), .val (.ref b), .val (.int (2 : Int32)), .val (.int l'), .val (.int (2 : Int32)), .val (.int (f' ((1 : Int32)).toNatClampNeg))] [(.int (2 : Int32)), (.ref a)])) _
              refine X14.caload hx (j := (2 : Int32)) (v := (.int (f' ((2 : Int32)).toNatClampNeg))) (by rw [e14]; exact Ar1217.1) (State.isArrayOf_alike hZ.alike Ar1217.2.1) Ar1217.2.2 hin1217 hat1217 (g := (mkF m 12 #[.val (.ref a), .val (.int (2 : Int32)), .val (.ref b), .val (.int (2 : Int32)), .val (.int l'), .val (.int (2 : Int32)), .val (.int (f' ((1 : Int32)).toNatClampNeg))] [(.int (2 : Int32)), (.ref a)])) rfl rfl (hb hby d7_12) _ ?_
              show Steps p.tables e below (T14.setTop (mkF m 13 #[.val (.ref a), .val (.int (2 : Int32)), .val (.ref b), .val (.int (2 : Int32)), .val (.int l'), .val (.int (2 : Int32)), .val (.int (f' ((1 : Int32)).toNatClampNeg))] [(.int (f' ((2 : Int32)).toNatClampNeg))])) _
              refine XS.istore X14.here hx rfl (hb hby d7_13) rfl (l' := #[.val (.ref a), .val (.int (2 : Int32)), .val (.ref b), .val (.int (2 : Int32)), .val (.int l'), .val (.int (2 : Int32)), .val (.int (f' ((2 : Int32)).toNatClampNeg))]) rfl ?_
              show Steps p.tables e below (T14.setTop (mkF m 15 #[.val (.ref a), .val (.int (2 : Int32)), .val (.ref b), .val (.int (2 : Int32)), .val (.int l'), .val (.int (2 : Int32)), .val (.int (f' ((2 : Int32)).toNatClampNeg))] [])) _
              refine XS.iload X14.here hx rfl (hb hby d7_15) rfl ?_
              show Steps p.tables e below (T14.setTop (mkF m 17 #[.val (.ref a), .val (.int (2 : Int32)), .val (.ref b), .val (.int (2 : Int32)), .val (.int l'), .val (.int (2 : Int32)), .val (.int (f' ((2 : Int32)).toNatClampNeg))] [(.int (f' ((2 : Int32)).toNatClampNeg))])) _
              refine XS.sipush X14.here hx rfl (hb hby d7_17) ?_
              exact kt
            by_cases hc20_19 : (255 : Int32) < (f' ((2 : Int32)).toNatClampNeg)
            · obtain ⟨fs, hr, hrun, hended, hW, hsame⟩ := X14.leave (v := some (.int (2 : Int32))) (fun h => by rw [Bd.returns] at h; cases h)
              refine ⟨_, _, pre18 _ ?_, hrun, hended, _, _, rfl, ?_, ⟨_, rfl⟩, hW, hsame.mono (by decide) (by decide)⟩
              · show Steps p.tables e below (T14.setTop (mkF m 20 #[.val (.ref a), .val (.int (2 : Int32)), .val (.ref b), .val (.int (2 : Int32)), .val (.int l'), .val (.int (2 : Int32)), .val (.int (f' ((2 : Int32)).toNatClampNeg))] [(.int (255 : Int32)), (.int (f' ((2 : Int32)).toNatClampNeg))])) _
                refine XS.icmpNo X14.here hx rfl (hb hby d7_20) rfl (tlt hc20_19).2.2.2 ?_
                show Steps p.tables e below (T14.setTop (mkF m 23 #[.val (.ref a), .val (.int (2 : Int32)), .val (.ref b), .val (.int (2 : Int32)), .val (.int l'), .val (.int (2 : Int32)), .val (.int (f' ((2 : Int32)).toNatClampNeg))] [])) _
                refine XS.iload X14.here hx rfl (hb hby d7_23) rfl ?_
                show Steps p.tables e below (T14.setTop (mkF m 25 #[.val (.ref a), .val (.int (2 : Int32)), .val (.ref b), .val (.int (2 : Int32)), .val (.int l'), .val (.int (2 : Int32)), .val (.int (f' ((2 : Int32)).toNatClampNeg))] [(.int (2 : Int32))])) _
                exact retOut X14 hx Bd.returns rfl (Or.inl ⟨rfl, Or.inl rfl, _, rfl⟩) (hb hby d7_25) hr
              · show Q7 Z a b l' f' g' h0 n0 _ T14.heap _
                rw [e14]
                exact ⟨(2 : Int32), rfl, N14, K14, ⟨_, V_b⟩, Or.inr ⟨by decide, hc7_16, hc20_19⟩⟩
            · obtain ⟨cl3120, Ar3120, S3120, M3120, H3120⟩ := V_b
              have hin3120 : ¬ ((2 : Int32) < 0 ∨ cl3120.slots.size ≤ ((2 : Int32)).toNatClampNeg) := inb_of S3120 ⟨by decide, hc7_16⟩
              obtain ⟨T21, h21, X21, e21, W21, st21⟩ := stB X14 hx hZ e14 Ar3120 (j := (2 : Int32)) hin3120 (g := (mkF m 31 #[.val (.ref a), .val (.int (2 : Int32)), .val (.ref b), .val (.int (2 : Int32)), .val (.int l'), .val (.int (2 : Int32)), .val (.int (f' ((2 : Int32)).toNatClampNeg))] [(.int ((f' ((2 : Int32)).toNatClampNeg).toInt8.toInt32)), (.int (2 : Int32)), (.ref b)])) rfl rfl (hb hby d7_31)
              have V_a := V_a.other W21 ne_a_b
              have Zs21 : n0 ≤ h21.size := Nat.le_trans Zs14 (Keep.of_wr W21).1
              have K21 : Keep h0 h21 [b] := K14.wr W21 (Or.inl (List.mem_of_getElem? (i := 0) rfl))
              have N21 := Fr.snoc X21 N14 g_b
              obtain ⟨f21, V_b⟩ : ∃ f, own_A Z h21 b .byte l' f := ⟨_, own_A.set Ar3120 S3120 M3120 H3120 W21⟩
              obtain ⟨fs, hr, hrun, hended, hW, hsame⟩ := X21.leave (v := some (.int l')) (fun h => by rw [Bd.returns] at h; cases h)
              refine ⟨_, _, pre18 _ ?_, hrun, hended, _, _, rfl, ?_, ⟨_, rfl⟩, hW, hsame.mono (by decide) (by decide)⟩
              · show Steps p.tables e below (T14.setTop (mkF m 20 #[.val (.ref a), .val (.int (2 : Int32)), .val (.ref b), .val (.int (2 : Int32)), .val (.int l'), .val (.int (2 : Int32)), .val (.int (f' ((2 : Int32)).toNatClampNeg))] [(.int (255 : Int32)), (.int (f' ((2 : Int32)).toNatClampNeg))])) _
                refine XS.icmpYes X14.here hx rfl (pc0 := 20) (pc' := 26) rfl (hb hby d7_20) rfl (flt hc20_19).2.2.2 (by decide) (by decide) ?_
                show Steps p.tables e below (T14.setTop (mkF m 26 #[.val (.ref a), .val (.int (2 : Int32)), .val (.ref b), .val (.int (2 : Int32)), .val (.int l'), .val (.int (2 : Int32)), .val (.int (f' ((2 : Int32)).toNatClampNeg))] [])) _
                refine XS.aloadN X14.here hx rfl (hb hby d7_26) rfl rfl ?_
                show Steps p.tables e below (T14.setTop (mkF m 27 #[.val (.ref a), .val (.int (2 : Int32)), .val (.ref b), .val (.int (2 : Int32)), .val (.int l'), .val (.int (2 : Int32)), .val (.int (f' ((2 : Int32)).toNatClampNeg))] [(.ref b)])) _
                refine XS.iloadN X14.here hx rfl (hb hby d7_27) rfl ?_
                show Steps p.tables e below (T14.setTop (mkF m 28 #[.val (.ref a), .val (.int (2 : Int32)), .val (.ref b), .val (.int (2 : Int32)), .val (.int l'), .val (.int (2 : Int32)), .val (.int (f' ((2 : Int32)).toNatClampNeg))] [(.int (2 : Int32)), (.ref b)])) _
                refine XS.iload X14.here hx rfl (hb hby d7_28) rfl ?_
                show Steps p.tables e below (T14.setTop (mkF m 30 #[.val (.ref a), .val (.int (2 : Int32)), .val (.ref b), .val (.int (2 : Int32)), .val (.int l'), .val (.int (2 : Int32)), .val (.int (f' ((2 : Int32)).toNatClampNeg))] [(.int (f' ((2 : Int32)).toNatClampNeg)), (.int (2 : Int32)), (.ref b)])) _
                refine XS.i2b X14.here hx rfl (hb hby d7_30) rfl ?_
                show Steps p.tables e below (T14.setTop (mkF m 31 #[.val (.ref a), .val (.int (2 : Int32)), .val (.ref b), .val (.int (2 : Int32)), .val (.int l'), .val (.int (2 : Int32)), .val (.int (f' ((2 : Int32)).toNatClampNeg))] [(.int ((f' ((2 : Int32)).toNatClampNeg).toInt8.toInt32)), (.int (2 : Int32)), (.ref b)])) _
                refine st21 _ ?_
                show Steps p.tables e below (T21.setTop (mkF m 32 #[.val (.ref a), .val (.int (2 : Int32)), .val (.ref b), .val (.int (2 : Int32)), .val (.int l'), .val (.int (2 : Int32)), .val (.int (f' ((2 : Int32)).toNatClampNeg))] [])) _
                refine XS.iinc X21.here hx rfl (hb hby d7_32) rfl (l' := #[.val (.ref a), .val (.int (3 : Int32)), .val (.ref b), .val (.int (2 : Int32)), .val (.int l'), .val (.int (2 : Int32)), .val (.int (f' ((2 : Int32)).toNatClampNeg))]) rfl ?_
                show Steps p.tables e below (T21.setTop (mkF m 35 #[.val (.ref a), .val (.int (3 : Int32)), .val (.ref b), .val (.int (2 : Int32)), .val (.int l'), .val (.int (2 : Int32)), .val (.int (f' ((2 : Int32)).toNatClampNeg))] [])) _
                refine XS.iinc X21.here hx rfl (hb hby d7_35) rfl (l' := #[.val (.ref a), .val (.int (3 : Int32)), .val (.ref b), .val (.int (3 : Int32)), .val (.int l'), .val (.int (2 : Int32)), .val (.int (f' ((2 : Int32)).toNatClampNeg))]) rfl ?_
                show Steps p.tables e below (T21.setTop (mkF m 38 #[.val (.ref a), .val (.int (3 : Int32)), .val (.ref b), .val (.int (3 : Int32)), .val (.int l'), .val (.int (2 : Int32)), .val (.int (f' ((2 : Int32)).toNatClampNeg))] [])) _
                refine XS.iinc X21.here hx rfl (hb hby d7_38) rfl (l' := #[.val (.ref a), .val (.int (3 : Int32)), .val (.ref b), .val (.int (3 : Int32)), .val (.int l'), .val (.int (3 : Int32)), .val (.int (f' ((2 : Int32)).toNatClampNeg))]) rfl ?_
                show Steps p.tables e below (T21.setTop (mkF m 41 #[.val (.ref a), .val (.int (3 : Int32)), .val (.ref b), .val (.int (3 : Int32)), .val (.int l'), .val (.int (3 : Int32)), .val (.int (f' ((2 : Int32)).toNatClampNeg))] [])) _
                refine XS.goto X21.here hx rfl (pc0 := 41) (pc' := 3) rfl (hb hby d7_41) (by decide) (by decide) ?_
                show Steps p.tables e below (T21.setTop (mkF m 3 #[.val (.ref a), .val (.int (3 : Int32)), .val (.ref b), .val (.int (3 : Int32)), .val (.int l'), .val (.int (3 : Int32)), .val (.int (f' ((2 : Int32)).toNatClampNeg))] [])) _
                refine XS.iload X21.here hx rfl (hb hby d7_3) rfl ?_
                show Steps p.tables e below (T21.setTop (mkF m 5 #[.val (.ref a), .val (.int (3 : Int32)), .val (.ref b), .val (.int (3 : Int32)), .val (.int l'), .val (.int (3 : Int32)), .val (.int (f' ((2 : Int32)).toNatClampNeg))] [(.int (3 : Int32))])) _
                refine XS.iload X21.here hx rfl (hb hby d7_5) rfl ?_
                show Steps p.tables e below (T21.setTop (mkF m 7 #[.val (.ref a), .val (.int (3 : Int32)), .val (.ref b), .val (.int (3 : Int32)), .val (.int l'), .val (.int (3 : Int32)), .val (.int (f' ((2 : Int32)).toNatClampNeg))] [(.int l'), (.int (3 : Int32))])) _
                refine XS.icmpYes X21.here hx rfl (pc0 := 7) (pc' := 44) rfl (hb hby d7_7) rfl (flt (own_nlt (by rw [show (3 : Int32).toInt = 3 from rfl]; exact hl.2))).2.1 (by decide) (by decide) ?_
                show Steps p.tables e below (T21.setTop (mkF m 44 #[.val (.ref a), .val (.int (3 : Int32)), .val (.ref b), .val (.int (3 : Int32)), .val (.int l'), .val (.int (3 : Int32)), .val (.int (f' ((2 : Int32)).toNatClampNeg))] [])) _
                refine XS.iload X21.here hx rfl (hb hby d7_44) rfl ?_
                show Steps p.tables e below (T21.setTop (mkF m 46 #[.val (.ref a), .val (.int (3 : Int32)), .val (.ref b), .val (.int (3 : Int32)), .val (.int l'), .val (.int (3 : Int32)), .val (.int (f' ((2 : Int32)).toNatClampNeg))] [(.int l')])) _
                exact retOut X21 hx Bd.returns rfl (Or.inl ⟨rfl, Or.inl rfl, _, rfl⟩) (hb hby d7_46) hr
              · show Q7 Z a b l' f' g' h0 n0 _ T21.heap _
                rw [e21]
                exact ⟨l', rfl, N21, K21, ⟨_, V_b⟩, Or.inl rfl⟩
          · obtain ⟨fs, hr, hrun, hended, hW, hsame⟩ := X14.leave (v := some (.int l')) (fun h => by rw [Bd.returns] at h; cases h)
            refine ⟨_, _, pre15 _ ?_, hrun, hended, _, _, rfl, ?_, ⟨_, rfl⟩, hW, hsame.mono (by decide) (by decide)⟩
            · show Steps p.tables e below (T14.setTop (mkF m 7 #[.val (.ref a), .val (.int (2 : Int32)), .val (.ref b), .val (.int (2 : Int32)), .val (.int l'), .val (.int (2 : Int32)), .val (.int (f' ((1 : Int32)).toNatClampNeg))] [(.int l'), (.int (2 : Int32))])) _
              refine XS.icmpYes X14.here hx rfl (pc0 := 7) (pc' := 44) rfl (hb hby d7_7) rfl (flt hc7_16).2.1 (by decide) (by decide) ?_
              show Steps p.tables e below (T14.setTop (mkF m 44 #[.val (.ref a), .val (.int (2 : Int32)), .val (.ref b), .val (.int (2 : Int32)), .val (.int l'), .val (.int (2 : Int32)), .val (.int (f' ((1 : Int32)).toNatClampNeg))] [])) _
              refine XS.iload X14.here hx rfl (hb hby d7_44) rfl ?_
              show Steps p.tables e below (T14.setTop (mkF m 46 #[.val (.ref a), .val (.int (2 : Int32)), .val (.ref b), .val (.int (2 : Int32)), .val (.int l'), .val (.int (2 : Int32)), .val (.int (f' ((1 : Int32)).toNatClampNeg))] [(.int l')])) _
              exact retOut X14 hx Bd.returns rfl (Or.inl ⟨rfl, Or.inl rfl, _, rfl⟩) (hb hby d7_46) hr
            · show Q7 Z a b l' f' g' h0 n0 _ T14.heap _
              rw [e14]
              exact ⟨l', rfl, N14, K14, ⟨_, V_b⟩, Or.inl rfl⟩
      · obtain ⟨fs, hr, hrun, hended, hW, hsame⟩ := X7.leave (v := some (.int l')) (fun h => by rw [Bd.returns] at h; cases h)
        refine ⟨_, _, pre8 _ ?_, hrun, hended, _, _, rfl, ?_, ⟨_, rfl⟩, hW, hsame.mono (by decide) (by decide)⟩
        · show Steps p.tables e below (T7.setTop (mkF m 7 #[.val (.ref a), .val (.int (1 : Int32)), .val (.ref b), .val (.int (1 : Int32)), .val (.int l'), .val (.int (1 : Int32)), .val (.int (f' ((0 : Int32)).toNatClampNeg))] [(.int l'), (.int (1 : Int32))])) _
          refine XS.icmpYes X7.here hx rfl (pc0 := 7) (pc' := 44) rfl (hb hby d7_7) rfl (flt hc7_9).2.1 (by decide) (by decide) ?_
          show Steps p.tables e below (T7.setTop (mkF m 44 #[.val (.ref a), .val (.int (1 : Int32)), .val (.ref b), .val (.int (1 : Int32)), .val (.int l'), .val (.int (1 : Int32)), .val (.int (f' ((0 : Int32)).toNatClampNeg))] [])) _
          refine XS.iload X7.here hx rfl (hb hby d7_44) rfl ?_
          show Steps p.tables e below (T7.setTop (mkF m 46 #[.val (.ref a), .val (.int (1 : Int32)), .val (.ref b), .val (.int (1 : Int32)), .val (.int l'), .val (.int (1 : Int32)), .val (.int (f' ((0 : Int32)).toNatClampNeg))] [(.int l')])) _
          exact retOut X7 hx Bd.returns rfl (Or.inl ⟨rfl, Or.inl rfl, _, rfl⟩) (hb hby d7_46) hr
        · show Q7 Z a b l' f' g' h0 n0 _ T7.heap _
          rw [e7]
          exact ⟨l', rfl, N7, K7, ⟨_, V_b⟩, Or.inl rfl⟩
  · obtain ⟨fs, hr, hrun, hended, hW, hsame⟩ := X0.leave (v := some (.int l')) (fun h => by rw [Bd.returns] at h; cases h)
    refine ⟨_, _, pre1 _ ?_, hrun, hended, _, _, rfl, ?_, ⟨_, rfl⟩, hW, hsame.mono (by decide) (by decide)⟩
    · show Steps p.tables e below (s₁.setTop (mkF m 7 #[.val (.ref a), .val (.int (0 : Int32)), .val (.ref b), .val (.int (0 : Int32)), .val (.int l'), .val (.int (0 : Int32)), .unset] [(.int l'), (.int (0 : Int32))])) _
      refine XS.icmpYes X0.here hx rfl (pc0 := 7) (pc' := 44) rfl (hb hby d7_7) rfl (flt hc7_2).2.1 (by decide) (by decide) ?_
      show Steps p.tables e below (s₁.setTop (mkF m 44 #[.val (.ref a), .val (.int (0 : Int32)), .val (.ref b), .val (.int (0 : Int32)), .val (.int l'), .val (.int (0 : Int32)), .unset] [])) _
      refine XS.iload X0.here hx rfl (hb hby d7_44) rfl ?_
      show Steps p.tables e below (s₁.setTop (mkF m 46 #[.val (.ref a), .val (.int (0 : Int32)), .val (.ref b), .val (.int (0 : Int32)), .val (.int l'), .val (.int (0 : Int32)), .unset] [(.int l')])) _
      exact retOut X0 hx Bd.returns rfl (Or.inl ⟨rfl, Or.inl rfl, _, rfl⟩) (hb hby d7_46) hr
    · show Q7 Z a b l' f' g' h0 n0 _ s₁.heap _
      rw [e0]
      exact ⟨l', rfl, N0, K0, ⟨_, V_b⟩, Or.inl rfl⟩
theorem d6_0 : decode jdk_52_method_16_code 0 = .ok (.iload_n 2, 1) := by decide +kernel
theorem d6_1 : decode jdk_52_method_16_code 1 = .ok (.newarray .byte, 2) := by decide +kernel
theorem d6_3 : decode jdk_52_method_16_code 3 = .ok (.astore_n 3, 1) := by decide +kernel
theorem d6_4 : decode jdk_52_method_16_code 4 = .ok (.aload_n 0, 1) := by decide +kernel
theorem d6_5 : decode jdk_52_method_16_code 5 = .ok (.iload_n 1, 1) := by decide +kernel
theorem d6_6 : decode jdk_52_method_16_code 6 = .ok (.aload_n 3, 1) := by decide +kernel
theorem d6_7 : decode jdk_52_method_16_code 7 = .ok (.iconst 0, 1) := by decide +kernel
theorem d6_8 : decode jdk_52_method_16_code 8 = .ok (.iload_n 2, 1) := by decide +kernel
theorem d6_9 : decode jdk_52_method_16_code 9 = .ok (.invokestatic 115, 3) := by decide +kernel
theorem d6_12 : decode jdk_52_method_16_code 12 = .ok (.istore 4, 2) := by decide +kernel
theorem d6_14 : decode jdk_52_method_16_code 14 = .ok (.iload 4, 2) := by decide +kernel
theorem d6_16 : decode jdk_52_method_16_code 16 = .ok (.iload_n 2, 1) := by decide +kernel
theorem d6_17 : decode jdk_52_method_16_code 17 = .ok (.if_icmp .eq 40, 3) := by decide +kernel
theorem d6_20 : decode jdk_52_method_16_code 20 = .ok (.aload_n 0, 1) := by decide +kernel
theorem d6_21 : decode jdk_52_method_16_code 21 = .ok (.iload_n 1, 1) := by decide +kernel
theorem d6_22 : decode jdk_52_method_16_code 22 = .ok (.iload_n 2, 1) := by decide +kernel
theorem d6_23 : decode jdk_52_method_16_code 23 = .ok (.invokestatic 119, 3) := by decide +kernel
theorem d6_26 : decode jdk_52_method_16_code 26 = .ok (.astore 5, 2) := by decide +kernel
theorem d6_28 : decode jdk_52_method_16_code 28 = .ok (.aload 5, 2) := by decide +kernel
theorem d6_30 : decode jdk_52_method_16_code 30 = .ok (.iload 4, 2) := by decide +kernel
theorem d6_32 : decode jdk_52_method_16_code 32 = .ok (.invokestatic 71, 3) := by decide +kernel
theorem d6_35 : decode jdk_52_method_16_code 35 = .ok (.sipush 255, 3) := by decide +kernel
theorem d6_38 : decode jdk_52_method_16_code 38 = .ok (.if_icmp .gt 16, 3) := by decide +kernel
theorem d6_54 : decode jdk_52_method_16_code 54 = .ok (.aload 5, 2) := by decide +kernel
theorem d6_56 : decode jdk_52_method_16_code 56 = .ok (.areturn, 1) := by decide +kernel
theorem d6_57 : decode jdk_52_method_16_code 57 = .ok (.aload_n 3, 1) := by decide +kernel
theorem d6_58 : decode jdk_52_method_16_code 58 = .ok (.areturn, 1) := by decide +kernel
theorem pn_6 : plainName "java/lang/StringUTF16" = true := by first | (simp [plainName, overriddenIn]; done) | decide +kernel
theorem pd6_0 : parseMethodDescriptor "([CI[BII)I" = some ⟨[(.array .char), .int, (.array .byte), .int, .int], some .int⟩ := by decide +kernel
theorem pd6_1 : parseMethodDescriptor "([CII)[B" = some ⟨[(.array .char), .int, .int], some (.array .byte)⟩ := by decide +kernel
theorem pd6_2 : parseMethodDescriptor "([BI)C" = some ⟨[(.array .byte), .int], some .char⟩ := by decide +kernel
theorem ef_6 (m : MethodId) (x0 : Addr) (x2 : Int32) : entryFrame m #[(.ref x0), (.int (0 : Int32)), (.int x2)] 6 = mkF m 0 #[.val (.ref x0), .val (.int (0 : Int32)), .val (.int x2), .unset, .unset, .unset] [] := by first | (simp [entryFrame, mkF, argsToLocals, Value.category]; done) | rfl
def Q6 (Z : State) (a : Addr) (l' : Int32) (cs' : Int32) (f' : Nat → Int32) (h0 : Heap) (n0 : Nat) (v : Option Value) (h : Heap) (L : List Loc) : Prop := ∃ (r : Addr) (n : Int32) (g : Nat → Int32), v = some (.ref r) ∧ Fr n0 L ∧ Keep h0 h [] ∧ n0 ≤ r ∧ h0.size ≤ r ∧ own_A Z h r .byte n g ∧ (n = l' ∨ n = (l' <<< ((1 : Int32) &&& 31)))
set_option maxRecDepth 65536 in
set_option maxHeartbeats 40000000 in
theorem rm6 (l : Launch) (Z : State) (a0 : Array Value) (hw : ∀ d ∈ tables_1, d.before a0 Z = true) (ws : List Jvm.Cond) (a : Addr) (l' : Int32) (cs' : Int32) (f' : Nat → Int32) (h0 : Heap) (n0 : Nat) (Z0 : n0 ≤ h0.size) (Od : Old Z n0 h0) (S_COMPACT_STRINGS : Sta Z Z.heap "java/lang/String" "COMPACT_STRINGS" "Z" (.int cs')) (S__assertionsDisabled : Sta Z Z.heap "java/lang/StringUTF16" "$assertionsDisabled" "Z" (.int (1 : Int32))) (S_HI_BYTE_SHIFT : Sta Z Z.heap "java/lang/StringUTF16" "HI_BYTE_SHIFT" "I" (.int (0 : Int32))) (S_LO_BYTE_SHIFT : Sta Z Z.heap "java/lang/StringUTF16" "LO_BYTE_SHIFT" "I" (.int (8 : Int32))) (hcs : ¬ cs' = (0 : Int32)) (V_a : own_A Z h0 a .char l' f') (hl : 1 ≤ l'.toInt ∧ l'.toInt ≤ 3) (hf : ∀ i, 0 ≤ (f' i).toInt ∧ (f' i).toInt < 65536) :
    MetFree l (⟨"java/lang/StringUTF16", "compress", "([CII)[B"⟩ : MethodName) (head1 (Jvm.Cond.code (⟨"java/lang/StringUTF16", "compress", "([CII)[B"⟩ : MethodName) jdk_52_method_16_code 6 (some (.array .byte)) :: ws) ({ frames := 3, cells := 2, slots := 9, locals := 40 } : Room)) (fun ar U => ar = #[(.ref a), (.int (0 : Int32)), (.int l')] ∧ Z.Warmed39 U.vm ∧ U.heap = h0) (fun _ _ _ _ _ => True) (fun _ U o U' => ∃ v L, o = .returned v ∧ Q6 Z a l' cs' f' h0 n0 v U'.heap L ∧ FrameEnd U o U' L ({ frames := 3, cells := 2, slots := 9, locals := 40 } : Room).cells ({ frames := 3, cells := 2, slots := 9, locals := 40 } : Room).slots) := by
  refine MetFree.of_bodySF (plainFor_of_name pn_6) hisR ?_
  intro p e s m args below meth c s₁ Bd hml0 hP hK
  obtain ⟨rfl, hZ, hh⟩ := hP
  have hx := Bd.exec
  have hby := Bd.bytes
  have hml : c.maxLocals = 6 := hml0
  have hown : s.vm.findClass "java/lang/StringUTF16" = some m.cls := findClass_of_methodNamed Bd.named
  have hnm := (name_of_methodNamed Bd.named Bd.method).1
  have X0 : Stand p l e ({ frames := 3, cells := 2, slots := 9, locals := 40 } : Room) s m #[(.ref a), (.int (0 : Int32)), (.int l')] below meth c s₁ [] 0 0 := Stand.of_body Bd
  have e0 : s₁.heap = h0 := by rw [← hh, Bd.state]; rfl
  have N0 := Fr.nil n0
  have K0 : Keep h0 h0 [] := Keep.refl h0 _
  have pre0 : ∀ t, Steps p.tables e below (s₁.setTop (mkF m 0 #[.val (.ref a), .val (.int (0 : Int32)), .val (.int l'), .unset, .unset, .unset] [])) t → Steps p.tables e below (s₁.setTop (entryFrame m #[(.ref a), (.int (0 : Int32)), (.int l')] 6)) t := fun t k => castTop (ef_6 m a l') k
  obtain ⟨T1, h1, k1, X1, e1, E1, A1, st1⟩ := newP X0 hx hZ (hw _ (List.mem_of_getElem? (i := 27) rfl)) e0 (g := (mkF m 1 #[.val (.ref a), .val (.int (0 : Int32)), .val (.int l'), .unset, .unset, .unset] [(.int l')])) rfl (hb hby d6_1) rfl (own_l6 hl) (cap := 3) (own_l7 hl) (by decide) (by decide) (by decide)
  obtain ⟨b1, g1⟩ : ∃ z, z = h0.size := ⟨_, rfl⟩
  rw [← g1] at A1 st1
  have g_b1 : n0 ≤ b1 := Nat.le_trans Z0 (Nat.le_of_eq g1.symm)
  have sz_b1 : h0.size ≤ b1 := Nat.le_trans K0.1 (Nat.le_of_eq g1.symm)
  have ne_a_b1 : a ≠ b1 := Nat.ne_of_lt (Nat.lt_of_lt_of_le V_a.lt (Nat.le_of_eq g1.symm))
  have Od := Od.ext E1
  have V_a := V_a.ext E1
  have Zs1 : n0 ≤ h1.size := Nat.le_trans Z0 E1.1
  have K1 : Keep h0 h1 [] := K0.ext E1
  have V_b1 : own_A Z h1 b1 .byte l' (fun _ => 0) := own_A.new A1 (own_l6 hl) rfl
  obtain ⟨_, _, ⟨T2, L2, k2, n2⟩, -, X2, ⟨Lc2, hQ2, l2, y2, z2⟩, st2⟩ := Jvm.LawKit.callS X1 hx (y := (⟨"java/lang/StringUTF16", "compress", "([CI[BII)I"⟩ : MethodName)) hown (mvT hZ (hw _ (List.mem_of_getElem? (i := 28) rfl))) (mvT hZ (hw _ (List.mem_of_getElem? (i := 29) rfl))) (mvT hZ (hw _ (List.mem_of_getElem? (i := 25) rfl))) (mvT hZ (hw _ (List.mem_of_getElem? (i := 30) rfl))) (by decide) (backOf (W := 0) (rm7 l Z a0 hw [] a b1 l' f' (fun _ => 0) h1 n0 Zs1 V_a V_b1 g_b1 ne_a_b1 hl) hZ (hw _ (List.mem_of_getElem? (i := 30) rfl)) (hw _ (List.mem_of_getElem? (i := 25) rfl)) (by decide) (by decide)) (g := (mkF m 9 #[.val (.ref a), .val (.int (0 : Int32)), .val (.int l'), .val (.ref b1), .unset, .unset] [(.int l'), (.int (0 : Int32)), (.ref b1), (.int (0 : Int32)), (.ref a)])) rfl (by rw [hml]; rfl) (argsL := [(.ref a), (.int (0 : Int32)), (.ref b1), (.int (0 : Int32)), (.int l')]) (rest := []) (lenOf pd6_0 rfl) rfl (by show 2 * 0 + _ ≤ _; exact Nat.le_of_eq rfl) (hb hby d6_9) (fun _ _ => ⟨rfl, e1, (by decide : 1 + 0 ≤ _), (by decide : 3 + 0 ≤ _)⟩)
  dsimp only [Pt.U, Pt.locs, Pt.cells, Pt.slots] at X2 l2 y2 z2 st2 hQ2
  subst l2 y2 z2
  obtain ⟨k7, rfl, N2q, Kq2, ⟨g7, V_b1⟩, hk7⟩ := hQ2
  have N2 := Fr.app N0 N2q
  have Od := Od.keep Kq2 (allS g_b1 all0)
  have V_a := V_a.keep Kq2 (ninS ne_a_b1 nin0)
  have Zs2 : n0 ≤ T2.heap.size := Nat.le_trans Zs1 Kq2.1
  have K2 : Keep h0 T2.heap [] := K1.trans Kq2 (allS (Or.inr sz_b1) all0)
  have pre3 : ∀ t, Steps p.tables e below (T2.setTop (mkF m 17 #[.val (.ref a), .val (.int (0 : Int32)), .val (.int l'), .val (.ref b1), .val (.int k7), .unset] [(.int l'), (.int k7)])) t → Steps p.tables e below (s₁.setTop (entryFrame m #[(.ref a), (.int (0 : Int32)), (.int l')] 6)) t := by
    intro t kt
    refine pre0 t ?_
    show Steps p.tables e below (s₁.setTop (mkF m 0 #[.val (.ref a), .val (.int (0 : Int32)), .val (.int l'), .unset, .unset, .unset] [])) _
    refine XS.iloadN X0.here hx rfl (hb hby d6_0) rfl ?_
    show Steps p.tables e below (s₁.setTop (mkF m 1 #[.val (.ref a), .val (.int (0 : Int32)), .val (.int l'), .unset, .unset, .unset] [(.int l')])) _
    refine st1 _ ?_
    show Steps p.tables e below (T1.setTop (mkF m 3 #[.val (.ref a), .val (.int (0 : Int32)), .val (.int l'), .unset, .unset, .unset] [(.ref b1)])) _
    refine XS.astoreN X1.here hx rfl (hb hby d6_3) rfl rfl (l' := #[.val (.ref a), .val (.int (0 : Int32)), .val (.int l'), .val (.ref b1), .unset, .unset]) rfl ?_
    show Steps p.tables e below (T1.setTop (mkF m 4 #[.val (.ref a), .val (.int (0 : Int32)), .val (.int l'), .val (.ref b1), .unset, .unset] [])) _
    refine XS.aloadN X1.here hx rfl (hb hby d6_4) rfl rfl ?_
    show Steps p.tables e below (T1.setTop (mkF m 5 #[.val (.ref a), .val (.int (0 : Int32)), .val (.int l'), .val (.ref b1), .unset, .unset] [(.ref a)])) _
    refine XS.iloadN X1.here hx rfl (hb hby d6_5) rfl ?_
    show Steps p.tables e below (T1.setTop (mkF m 6 #[.val (.ref a), .val (.int (0 : Int32)), .val (.int l'), .val (.ref b1), .unset, .unset] [(.int (0 : Int32)), (.ref a)])) _
    refine XS.aloadN X1.here hx rfl (hb hby d6_6) rfl rfl ?_
    show Steps p.tables e below (T1.setTop (mkF m 7 #[.val (.ref a), .val (.int (0 : Int32)), .val (.int l'), .val (.ref b1), .unset, .unset] [(.ref b1), (.int (0 : Int32)), (.ref a)])) _
    refine XS.iconst X1.here hx rfl (hb hby d6_7) ?_
    show Steps p.tables e below (T1.setTop (mkF m 8 #[.val (.ref a), .val (.int (0 : Int32)), .val (.int l'), .val (.ref b1), .unset, .unset] [(.int (0 : Int32)), (.ref b1), (.int (0 : Int32)), (.ref a)])) _
    refine XS.iloadN X1.here hx rfl (hb hby d6_8) rfl ?_
    show Steps p.tables e below (T1.setTop (mkF m 9 #[.val (.ref a), .val (.int (0 : Int32)), .val (.int l'), .val (.ref b1), .unset, .unset] [(.int l'), (.int (0 : Int32)), (.ref b1), (.int (0 : Int32)), (.ref a)])) _
    refine st2 _ ?_
    show Steps p.tables e below (T2.setTop (mkF m 12 #[.val (.ref a), .val (.int (0 : Int32)), .val (.int l'), .val (.ref b1), .unset, .unset] [(.int k7)])) _
    refine XS.istore X2.here hx rfl (hb hby d6_12) rfl (l' := #[.val (.ref a), .val (.int (0 : Int32)), .val (.int l'), .val (.ref b1), .val (.int k7), .unset]) rfl ?_
    show Steps p.tables e below (T2.setTop (mkF m 14 #[.val (.ref a), .val (.int (0 : Int32)), .val (.int l'), .val (.ref b1), .val (.int k7), .unset] [])) _
    refine XS.iload X2.here hx rfl (hb hby d6_14) rfl ?_
    show Steps p.tables e below (T2.setTop (mkF m 16 #[.val (.ref a), .val (.int (0 : Int32)), .val (.int l'), .val (.ref b1), .val (.int k7), .unset] [(.int k7)])) _
    refine XS.iloadN X2.here hx rfl (hb hby d6_16) rfl ?_
    exact kt
  by_cases hc17_4 : k7 = l'
  · obtain ⟨fs, hr, hrun, hended, hW, hsame⟩ := X2.leave (v := some (.ref b1)) (fun h => by rw [Bd.returns] at h; cases h)
    refine ⟨_, _, pre3 _ ?_, hrun, hended, _, _, rfl, ?_, ⟨_, rfl⟩, hW, hsame.mono (by decide) (by decide)⟩
    · show Steps p.tables e below (T2.setTop (mkF m 17 #[.val (.ref a), .val (.int (0 : Int32)), .val (.int l'), .val (.ref b1), .val (.int k7), .unset] [(.int l'), (.int k7)])) _
      refine XS.icmpYes X2.here hx rfl (pc0 := 17) (pc' := 57) rfl (hb hby d6_17) rfl (teq hc17_4).1 (by decide) (by decide) ?_
      show Steps p.tables e below (T2.setTop (mkF m 57 #[.val (.ref a), .val (.int (0 : Int32)), .val (.int l'), .val (.ref b1), .val (.int k7), .unset] [])) _
      refine XS.aloadN X2.here hx rfl (hb hby d6_57) rfl rfl ?_
      show Steps p.tables e below (T2.setTop (mkF m 58 #[.val (.ref a), .val (.int (0 : Int32)), .val (.int l'), .val (.ref b1), .val (.int k7), .unset] [(.ref b1)])) _
      exact retOut X2 hx Bd.returns rfl (Or.inr (Or.inr (Or.inr (Or.inr ⟨rfl, rfl, rfl⟩)))) (hb hby d6_58) hr
    · show Q6 Z a l' cs' f' h0 n0 _ T2.heap _
      exact ⟨b1, l', g7, rfl, N2, K2, g_b1, sz_b1, V_b1, Or.inl rfl⟩
  · obtain ⟨_, _, ⟨T5, L5, k5, n5⟩, -, X5, ⟨Lc5, hQ5, l5, y5, z5⟩, st5⟩ := Jvm.LawKit.callS X2 hx (y := (⟨"java/lang/StringUTF16", "toBytes", "([CII)[B"⟩ : MethodName)) hown (mvT hZ (hw _ (List.mem_of_getElem? (i := 53) rfl))) (mvT hZ (hw _ (List.mem_of_getElem? (i := 54) rfl))) (mvT hZ (hw _ (List.mem_of_getElem? (i := 25) rfl))) (mvT hZ (hw _ (List.mem_of_getElem? (i := 55) rfl))) (by decide) (backOf (W := 0) (rm12 l Z a0 hw [] a l' cs' f' T2.heap n0 Zs2 Od S_COMPACT_STRINGS S__assertionsDisabled S_HI_BYTE_SHIFT S_LO_BYTE_SHIFT hcs V_a hl) hZ (hw _ (List.mem_of_getElem? (i := 55) rfl)) (hw _ (List.mem_of_getElem? (i := 25) rfl)) (by decide) (by decide)) (g := (mkF m 23 #[.val (.ref a), .val (.int (0 : Int32)), .val (.int l'), .val (.ref b1), .val (.int k7), .unset] [(.int l'), (.int (0 : Int32)), (.ref a)])) rfl (by rw [hml]; rfl) (argsL := [(.ref a), (.int (0 : Int32)), (.int l')]) (rest := []) (lenOf pd6_1 rfl) rfl (by show 2 * 0 + _ ≤ _; exact Nat.le_of_eq rfl) (hb hby d6_23) (fun _ _ => ⟨rfl, rfl, (by decide : 1 + 1 ≤ _), (by decide : 3 + 6 ≤ _)⟩)
    dsimp only [Pt.U, Pt.locs, Pt.cells, Pt.slots] at X5 l5 y5 z5 st5 hQ5
    subst l5 y5 z5
    obtain ⟨tq, g12, rfl, N5q, Kq5, g_tq, szc_t, V_tq, hg12⟩ := hQ5
    have N5 := Fr.app N2 N5q
    have Od := Od.keep Kq5 all0
    have V_a := V_a.keep Kq5 nin0
    have V_b1 := V_b1.keep Kq5 nin0
    have Zs5 : n0 ≤ T5.heap.size := Nat.le_trans Zs2 Kq5.1
    have K5 : Keep h0 T5.heap [] := K2.trans Kq5 all0
    have sz_tq : h0.size ≤ tq := Nat.le_trans (Nat.le_of_eq rfl) (Nat.le_trans K2.1 szc_t)
    obtain ⟨hk0, hk1, hk2⟩ := hk7.resolve_left hc17_4
    obtain ⟨_, _, ⟨T6, L6, k6, n6⟩, -, X6, ⟨Lc6, hQ6, l6, y6, z6⟩, st6⟩ := Jvm.LawKit.callS X5 hx (y := (⟨"java/lang/StringUTF16", "getChar", "([BI)C"⟩ : MethodName)) hown (mvT hZ (hw _ (List.mem_of_getElem? (i := 69) rfl))) (mvT hZ (hw _ (List.mem_of_getElem? (i := 70) rfl))) (mvT hZ (hw _ (List.mem_of_getElem? (i := 25) rfl))) (mvT hZ (hw _ (List.mem_of_getElem? (i := 71) rfl))) (by decide) (backOf (W := 0) (rm16 l Z a0 hw [] tq k7 cs' (l' <<< ((1 : Int32) &&& 31)) g12 T5.heap n0 Zs5 Od S_COMPACT_STRINGS S__assertionsDisabled S_HI_BYTE_SHIFT S_LO_BYTE_SHIFT hcs V_tq (own_q0 hl hk0 hk1) (own_q1 hl hk0 hk1)) hZ (hw _ (List.mem_of_getElem? (i := 71) rfl)) (hw _ (List.mem_of_getElem? (i := 25) rfl)) (by decide) (by decide)) (g := (mkF m 32 #[.val (.ref a), .val (.int (0 : Int32)), .val (.int l'), .val (.ref b1), .val (.int k7), .val (.ref tq)] [(.int k7), (.ref tq)])) rfl (by rw [hml]; rfl) (argsL := [(.ref tq), (.int k7)]) (rest := []) (lenOf pd6_2 rfl) rfl (by show 2 * 0 + _ ≤ _; exact Nat.le_of_eq rfl) (hb hby d6_32) (fun _ _ => ⟨rfl, rfl, (by decide : 2 + 0 ≤ _), (by decide : 9 + 0 ≤ _)⟩)
    dsimp only [Pt.U, Pt.locs, Pt.cells, Pt.slots] at X6 l6 y6 z6 st6 hQ6
    subst l6 y6 z6
    obtain ⟨rfl, N6q, hh6⟩ := hQ6
    have N6 := Fr.app N5 N6q
    obtain ⟨fs, hr, hrun, hended, hW, hsame⟩ := X6.leave (v := some (.ref tq)) (fun h => by rw [Bd.returns] at h; cases h)
    refine ⟨_, _, pre3 _ ?_, hrun, hended, _, _, rfl, ?_, ⟨_, rfl⟩, hW, hsame.mono (by decide) (by decide)⟩
    · show Steps p.tables e below (T2.setTop (mkF m 17 #[.val (.ref a), .val (.int (0 : Int32)), .val (.int l'), .val (.ref b1), .val (.int k7), .unset] [(.int l'), (.int k7)])) _
      refine XS.icmpNo X2.here hx rfl (hb hby d6_17) rfl (feq hc17_4).1 ?_
      show Steps p.tables e below (T2.setTop (mkF m 20 #[.val (.ref a), .val (.int (0 : Int32)), .val (.int l'), .val (.ref b1), .val (.int k7), .unset] [])) _
      refine XS.aloadN X2.here hx rfl (hb hby d6_20) rfl rfl ?_
      show Steps p.tables e below (T2.setTop (mkF m 21 #[.val (.ref a), .val (.int (0 : Int32)), .val (.int l'), .val (.ref b1), .val (.int k7), .unset] [(.ref a)])) _
      refine XS.iloadN X2.here hx rfl (hb hby d6_21) rfl ?_
      show Steps p.tables e below (T2.setTop (mkF m 22 #[.val (.ref a), .val (.int (0 : Int32)), .val (.int l'), .val (.ref b1), .val (.int k7), .unset] [(.int (0 : Int32)), (.ref a)])) _
      refine XS.iloadN X2.here hx rfl (hb hby d6_22) rfl ?_
      show Steps p.tables e below (T2.setTop (mkF m 23 #[.val (.ref a), .val (.int (0 : Int32)), .val (.int l'), .val (.ref b1), .val (.int k7), .unset] [(.int l'), (.int (0 : Int32)), (.ref a)])) _
      refine st5 _ ?_
      show Steps p.tables e below (T5.setTop (mkF m 26 #[.val (.ref a), .val (.int (0 : Int32)), .val (.int l'), .val (.ref b1), .val (.int k7), .unset] [(.ref tq)])) _
      refine XS.astore X5.here hx rfl (hb hby d6_26) rfl rfl (l' := #[.val (.ref a), .val (.int (0 : Int32)), .val (.int l'), .val (.ref b1), .val (.int k7), .val (.ref tq)]) rfl ?_
      show Steps p.tables e below (T5.setTop (mkF m 28 #[.val (.ref a), .val (.int (0 : Int32)), .val (.int l'), .val (.ref b1), .val (.int k7), .val (.ref tq)] [])) _
      refine XS.aload X5.here hx rfl (hb hby d6_28) rfl rfl ?_
      show Steps p.tables e below (T5.setTop (mkF m 30 #[.val (.ref a), .val (.int (0 : Int32)), .val (.int l'), .val (.ref b1), .val (.int k7), .val (.ref tq)] [(.ref tq)])) _
      refine XS.iload X5.here hx rfl (hb hby d6_30) rfl ?_
      show Steps p.tables e below (T5.setTop (mkF m 32 #[.val (.ref a), .val (.int (0 : Int32)), .val (.int l'), .val (.ref b1), .val (.int k7), .val (.ref tq)] [(.int k7), (.ref tq)])) _
      refine st6 _ ?_
      show Steps p.tables e below (T6.setTop (mkF m 35 #[.val (.ref a), .val (.int (0 : Int32)), .val (.int l'), .val (.ref b1), .val (.int k7), .val (.ref tq)] [(.int (nar .char ((((((g12 ((k7 <<< ((1 : Int32) &&& 31))).toNatClampNeg) &&& (255 : Int32)) <<< ((0 : Int32) &&& 31)) ||| (((g12 ((k7 <<< ((1 : Int32) &&& 31)) + (1 : Int32)).toNatClampNeg) &&& (255 : Int32)) <<< ((8 : Int32) &&& 31)))).toUInt32.toUInt16.toUInt32.toInt32)))])) _
      refine XS.sipush X6.here hx rfl (hb hby d6_35) ?_
      show Steps p.tables e below (T6.setTop (mkF m 38 #[.val (.ref a), .val (.int (0 : Int32)), .val (.int l'), .val (.ref b1), .val (.int k7), .val (.ref tq)] [(.int (255 : Int32)), (.int (nar .char ((((((g12 ((k7 <<< ((1 : Int32) &&& 31))).toNatClampNeg) &&& (255 : Int32)) <<< ((0 : Int32) &&& 31)) ||| (((g12 ((k7 <<< ((1 : Int32) &&& 31)) + (1 : Int32)).toNatClampNeg) &&& (255 : Int32)) <<< ((8 : Int32) &&& 31)))).toUInt32.toUInt16.toUInt32.toInt32)))])) _
      refine XS.icmpYes X6.here hx rfl (pc0 := 38) (pc' := 54) rfl (hb hby d6_38) rfl (tlt (own_gc hl hk0 hk1 hk2 hf hg12)).2.2.1 (by decide) (by decide) ?_
      show Steps p.tables e below (T6.setTop (mkF m 54 #[.val (.ref a), .val (.int (0 : Int32)), .val (.int l'), .val (.ref b1), .val (.int k7), .val (.ref tq)] [])) _
      refine XS.aload X6.here hx rfl (hb hby d6_54) rfl rfl ?_
      show Steps p.tables e below (T6.setTop (mkF m 56 #[.val (.ref a), .val (.int (0 : Int32)), .val (.int l'), .val (.ref b1), .val (.int k7), .val (.ref tq)] [(.ref tq)])) _
      exact retOut X6 hx Bd.returns rfl (Or.inr (Or.inr (Or.inr (Or.inr ⟨rfl, rfl, rfl⟩)))) (hb hby d6_56) hr
    · show Q6 Z a l' cs' f' h0 n0 _ T6.heap _
      rw [hh6]
      exact ⟨tq, (l' <<< ((1 : Int32) &&& 31)), g12, rfl, N6, K5, g_tq, sz_tq, V_tq, Or.inr rfl⟩
theorem d8_0 : decode jdk_52_method_15_code 0 = .ok (.iload_n 1, 1) := by decide +kernel
theorem d8_1 : decode jdk_52_method_15_code 1 = .ok (.aload_n 0, 1) := by decide +kernel
theorem d8_2 : decode jdk_52_method_15_code 2 = .ok (.arraylength, 1) := by decide +kernel
theorem d8_3 : decode jdk_52_method_15_code 3 = .ok (.isub, 1) := by decide +kernel
theorem d8_4 : decode jdk_52_method_15_code 4 = .ok (.bipush 31, 2) := by decide +kernel
theorem d8_6 : decode jdk_52_method_15_code 6 = .ok (.iushr, 1) := by decide +kernel
theorem d8_7 : decode jdk_52_method_15_code 7 = .ok (.i2b, 1) := by decide +kernel
theorem d8_8 : decode jdk_52_method_15_code 8 = .ok (.ireturn, 1) := by decide +kernel
theorem pn_8 : plainName "java/lang/StringUTF16" = true := by first | (simp [plainName, overriddenIn]; done) | decide +kernel
theorem ef_8 (m : MethodId) (x0 : Addr) (x1 : Int32) : entryFrame m #[(.ref x0), (.int x1)] 2 = mkF m 0 #[.val (.ref x0), .val (.int x1)] [] := by first | (simp [entryFrame, mkF, argsToLocals, Value.category]; done) | rfl
def Q8 (Z : State) (a : Addr) (l' : Int32) (n' : Int32) (g' : Nat → Int32) (h0 : Heap) (n0 : Nat) (v : Option Value) (h : Heap) (L : List Loc) : Prop := v = some (.int (nar .byte (((((l' - n').toUInt32 >>> ((31 : Int32) &&& 31).toUInt32).toInt32)).toInt8.toInt32))) ∧ Fr n0 L ∧ h = h0
set_option maxRecDepth 65536 in
set_option maxHeartbeats 40000000 in
theorem rm8 (l : Launch) (Z : State) (a0 : Array Value) (hw : ∀ d ∈ tables_1, d.before a0 Z = true) (ws : List Jvm.Cond) (a : Addr) (l' : Int32) (n' : Int32) (g' : Nat → Int32) (h0 : Heap) (n0 : Nat) (Z0 : n0 ≤ h0.size) (V_a : own_A Z h0 a .byte n' g') :
    MetFree l (⟨"java/lang/StringUTF16", "coderFromArrayLen", "([BI)B"⟩ : MethodName) (head1 (Jvm.Cond.code (⟨"java/lang/StringUTF16", "coderFromArrayLen", "([BI)B"⟩ : MethodName) jdk_52_method_15_code 2 (some .byte) :: ws) ({ frames := 0, cells := 0, slots := 0, locals := 0 } : Room)) (fun ar U => ar = #[(.ref a), (.int l')] ∧ Z.Warmed39 U.vm ∧ U.heap = h0) (fun _ _ _ _ _ => True) (fun _ U o U' => ∃ v L, o = .returned v ∧ Q8 Z a l' n' g' h0 n0 v U'.heap L ∧ FrameEnd U o U' L ({ frames := 0, cells := 0, slots := 0, locals := 0 } : Room).cells ({ frames := 0, cells := 0, slots := 0, locals := 0 } : Room).slots) := by
  refine MetFree.of_bodySF (plainFor_of_name pn_8) hisR ?_
  intro p e s m args below meth c s₁ Bd hml0 hP hK
  obtain ⟨rfl, hZ, hh⟩ := hP
  have hx := Bd.exec
  have hby := Bd.bytes
  have hml : c.maxLocals = 2 := hml0
  have hown : s.vm.findClass "java/lang/StringUTF16" = some m.cls := findClass_of_methodNamed Bd.named
  have hnm := (name_of_methodNamed Bd.named Bd.method).1
  have X0 : Stand p l e ({ frames := 0, cells := 0, slots := 0, locals := 0 } : Room) s m #[(.ref a), (.int l')] below meth c s₁ [] 0 0 := Stand.of_body Bd
  have e0 : s₁.heap = h0 := by rw [← hh, Bd.state]; rfl
  have N0 := Fr.nil n0
  have K0 : Keep h0 h0 [] := Keep.refl h0 _
  have pre0 : ∀ t, Steps p.tables e below (s₁.setTop (mkF m 0 #[.val (.ref a), .val (.int l')] [])) t → Steps p.tables e below (s₁.setTop (entryFrame m #[(.ref a), (.int l')] 2)) t := fun t k => castTop (ef_8 m a l') k
  obtain ⟨cl21, Ar21, S21, M21, H21⟩ := id V_a
  obtain ⟨fs, hr, hrun, hended, hW, hsame⟩ := X0.leave (v := some (.int (nar .byte ((((l' - n').toUInt32 >>> ((31 : Int32) &&& 31).toUInt32).toInt32).toInt8.toInt32)))) (fun h => by rw [Bd.returns] at h; cases h)
  refine ⟨_, _, pre0 _ ?_, hrun, hended, _, _, rfl, ?_, ⟨_, rfl⟩, hW, hsame.mono (by decide) (by decide)⟩
  · show Steps p.tables e below (s₁.setTop (mkF m 0 #[.val (.ref a), .val (.int l')] [])) _
    refine XS.iloadN X0.here hx rfl (hb hby d8_0) rfl ?_
    show Steps p.tables e below (s₁.setTop (mkF m 1 #[.val (.ref a), .val (.int l')] [(.int l')])) _
    refine XS.aloadN X0.here hx rfl (hb hby d8_1) rfl rfl ?_
    show Steps p.tables e below (s₁.setTop (mkF m 2 #[.val (.ref a), .val (.int l')] [(.ref a), (.int l')])) _
    refine X0.arraylength hx (cell := cl21) (by rw [e0]; exact Ar21.1) (State.isArrayOf_alike hZ.alike Ar21.2.1) (g := (mkF m 2 #[.val (.ref a), .val (.int l')] [(.ref a), (.int l')])) rfl (rest := [(.int l')]) rfl (hb hby d8_2) _ ?_
    rw [len_of S21 M21]
    show Steps p.tables e below (s₁.setTop (mkF m 3 #[.val (.ref a), .val (.int l')] [(.int n'), (.int l')])) _
    refine XS.isub X0.here hx rfl (hb hby d8_3) rfl ?_
    show Steps p.tables e below (s₁.setTop (mkF m 4 #[.val (.ref a), .val (.int l')] [(.int (l' - n'))])) _
    refine XS.bipush X0.here hx rfl (hb hby d8_4) ?_
    show Steps p.tables e below (s₁.setTop (mkF m 6 #[.val (.ref a), .val (.int l')] [(.int (31 : Int32)), (.int (l' - n'))])) _
    refine XS.iushr X0.here hx rfl (hb hby d8_6) rfl ?_
    show Steps p.tables e below (s₁.setTop (mkF m 7 #[.val (.ref a), .val (.int l')] [(.int (((l' - n').toUInt32 >>> ((31 : Int32) &&& 31).toUInt32).toInt32))])) _
    refine XS.i2b X0.here hx rfl (hb hby d8_7) rfl ?_
    show Steps p.tables e below (s₁.setTop (mkF m 8 #[.val (.ref a), .val (.int l')] [(.int ((((l' - n').toUInt32 >>> ((31 : Int32) &&& 31).toUInt32).toInt32).toInt8.toInt32))])) _
    exact retN X0 hx (t := .byte) Bd.returns (by simp) (hb hby d8_8) hr
  · show Q8 Z a l' n' g' h0 n0 _ s₁.heap _
    rw [e0]
    exact ⟨rfl, N0, rfl⟩
theorem d4_0 : decode jdk_42_method_149_code 0 = .ok (.aload_n 0, 1) := by decide +kernel
theorem d4_1 : decode jdk_42_method_149_code 1 = .ok (.invokespecial 1, 3) := by decide +kernel
theorem d4_4 : decode jdk_42_method_149_code 4 = .ok (.iload_n 3, 1) := by decide +kernel
theorem d4_5 : decode jdk_42_method_149_code 5 = .ok (.ifCond .ne 22, 3) := by decide +kernel
theorem d4_8 : decode jdk_42_method_149_code 8 = .ok (.aload_n 0, 1) := by decide +kernel
theorem d4_9 : decode jdk_42_method_149_code 9 = .ok (.ldc 7, 2) := by decide +kernel
theorem d4_11 : decode jdk_42_method_149_code 11 = .ok (.getfield 9, 3) := by decide +kernel
theorem d4_14 : decode jdk_42_method_149_code 14 = .ok (.putfield 9, 3) := by decide +kernel
theorem d4_17 : decode jdk_42_method_149_code 17 = .ok (.aload_n 0, 1) := by decide +kernel
theorem d4_18 : decode jdk_42_method_149_code 18 = .ok (.ldc 7, 2) := by decide +kernel
theorem d4_20 : decode jdk_42_method_149_code 20 = .ok (.getfield 15, 3) := by decide +kernel
theorem d4_23 : decode jdk_42_method_149_code 23 = .ok (.putfield 15, 3) := by decide +kernel
theorem d4_26 : decode jdk_42_method_149_code 26 = .ok (.return_, 1) := by decide +kernel
theorem d4_27 : decode jdk_42_method_149_code 27 = .ok (.getstatic 38, 3) := by decide +kernel
theorem d4_30 : decode jdk_42_method_149_code 30 = .ok (.ifCond .eq 28, 3) := by decide +kernel
theorem d4_33 : decode jdk_42_method_149_code 33 = .ok (.aload_n 1, 1) := by decide +kernel
theorem d4_34 : decode jdk_42_method_149_code 34 = .ok (.iload_n 2, 1) := by decide +kernel
theorem d4_35 : decode jdk_42_method_149_code 35 = .ok (.iload_n 3, 1) := by decide +kernel
theorem d4_36 : decode jdk_42_method_149_code 36 = .ok (.invokestatic 177, 3) := by decide +kernel
theorem d4_39 : decode jdk_42_method_149_code 39 = .ok (.astore 5, 2) := by decide +kernel
theorem d4_41 : decode jdk_42_method_149_code 41 = .ok (.aload_n 0, 1) := by decide +kernel
theorem d4_42 : decode jdk_42_method_149_code 42 = .ok (.aload 5, 2) := by decide +kernel
theorem d4_44 : decode jdk_42_method_149_code 44 = .ok (.iload_n 3, 1) := by decide +kernel
theorem d4_45 : decode jdk_42_method_149_code 45 = .ok (.invokestatic 47, 3) := by decide +kernel
theorem d4_48 : decode jdk_42_method_149_code 48 = .ok (.putfield 15, 3) := by decide +kernel
theorem d4_51 : decode jdk_42_method_149_code 51 = .ok (.aload_n 0, 1) := by decide +kernel
theorem d4_52 : decode jdk_42_method_149_code 52 = .ok (.aload 5, 2) := by decide +kernel
theorem d4_54 : decode jdk_42_method_149_code 54 = .ok (.putfield 9, 3) := by decide +kernel
theorem d4_57 : decode jdk_42_method_149_code 57 = .ok (.return_, 1) := by decide +kernel
theorem pn_4 : plainName "java/lang/String" = true := by first | (simp [plainName, overriddenIn]; done) | decide +kernel
theorem pd4_0 : parseMethodDescriptor "([CII)[B" = some ⟨[(.array .char), .int, .int], some (.array .byte)⟩ := by decide +kernel
theorem pd4_1 : parseMethodDescriptor "([BI)B" = some ⟨[(.array .byte), .int], some .byte⟩ := by decide +kernel
theorem ef_4 (m : MethodId) (x0 : Addr) (x1 : Addr) (x3 : Int32) : entryFrame m #[(.ref x0), (.ref x1), (.int (0 : Int32)), (.int x3), .null] 6 = mkF m 0 #[.val (.ref x0), .val (.ref x1), .val (.int (0 : Int32)), .val (.int x3), .val .null, .unset] [] := by first | (simp [entryFrame, mkF, argsToLocals, Value.category]; done) | rfl
def Q4 (Z : State) (a : Addr) (x : Addr) (l' : Int32) (cs' : Int32) (f' : Nat → Int32) (h0 : Heap) (n0 : Nat) (v : Option Value) (h : Heap) (L : List Loc) : Prop := v = none ∧ Fr n0 L ∧ Keep h0 h [a] ∧ ∃ (y : Addr) (n c : Int32) (g : Nat → Int32), Fld Z h a "java/lang/String" "value" "[B" (.ref y) ∧ Fld Z h a "java/lang/String" "coder" "B" (.int c) ∧ own_A Z h y .byte n g ∧ own_R n c
set_option maxRecDepth 65536 in
set_option maxHeartbeats 40000000 in
theorem rm4 (l : Launch) (Z : State) (a0 : Array Value) (hw : ∀ d ∈ tables_1, d.before a0 Z = true) (ws : List Jvm.Cond) (a : Addr) (x : Addr) (l' : Int32) (cs' : Int32) (f' : Nat → Int32) (h0 : Heap) (n0 : Nat) (Z0 : n0 ≤ h0.size) (Od : Old Z n0 h0) (S_COMPACT_STRINGS : Sta Z Z.heap "java/lang/String" "COMPACT_STRINGS" "Z" (.int cs')) (S__assertionsDisabled : Sta Z Z.heap "java/lang/StringUTF16" "$assertionsDisabled" "Z" (.int (1 : Int32))) (S_HI_BYTE_SHIFT : Sta Z Z.heap "java/lang/StringUTF16" "HI_BYTE_SHIFT" "I" (.int (0 : Int32))) (S_LO_BYTE_SHIFT : Sta Z Z.heap "java/lang/StringUTF16" "LO_BYTE_SHIFT" "I" (.int (8 : Int32))) (hcs : ¬ cs' = (0 : Int32)) (E_a : Exa Z h0 a "java/lang/String") (F_value_a : Fld Z h0 a "java/lang/String" "value" "[B" .null) (F_coder_a : Fld Z h0 a "java/lang/String" "coder" "B" (.int (0 : Int32))) (g_a : n0 ≤ a) (V_x : own_A Z h0 x .char l' f') (hl : 0 ≤ l'.toInt ∧ l'.toInt ≤ 3) (hf : ∀ i, 0 ≤ (f' i).toInt ∧ (f' i).toInt < 65536) :
    MetFree l (⟨"java/lang/String", "<init>", "([CIILjava/lang/Void;)V"⟩ : MethodName) (head1 (Jvm.Cond.code (⟨"java/lang/String", "<init>", "([CIILjava/lang/Void;)V"⟩ : MethodName) jdk_42_method_149_code 6 none :: ws) ({ frames := 4, cells := 2, slots := 9, locals := 57 } : Room)) (fun ar U => ar = #[(.ref a), (.ref x), (.int (0 : Int32)), (.int l'), .null] ∧ Z.Warmed39 U.vm ∧ U.heap = h0 ∧ CHv Z own_EL U.vm h0) (fun _ _ _ _ _ => True) (fun _ U o U' => ∃ v L, o = .returned v ∧ Q4 Z a x l' cs' f' h0 n0 v U'.heap L ∧ ReturnedEndW U o U' L ({ frames := 4, cells := 2, slots := 9, locals := 57 } : Room).cells ({ frames := 4, cells := 2, slots := 9, locals := 57 } : Room).slots) := by
  refine MetFree.of_bodySF (plainFor_of_name pn_4) hisR ?_
  intro p e s m args below meth c s₁ Bd hml0 hP hK
  obtain ⟨rfl, hZ, hh, Ch⟩ := hP
  have hx := Bd.exec
  have hby := Bd.bytes
  have hml : c.maxLocals = 6 := hml0
  have hown : s.vm.findClass "java/lang/String" = some m.cls := findClass_of_methodNamed Bd.named
  have hnm := (name_of_methodNamed Bd.named Bd.method).1
  have X0 : Stand p l e ({ frames := 4, cells := 2, slots := 9, locals := 57 } : Room) (s.setVm s.vm) m #[(.ref a), (.ref x), (.int (0 : Int32)), (.int l'), .null] below meth c s₁ [] 0 0 := (Stand.of_body Bd : Stand p l e ({ frames := 4, cells := 2, slots := 9, locals := 57 } : Room) s m #[(.ref a), (.ref x), (.int (0 : Int32)), (.int l'), .null] below meth c s₁ [] 0 0)
  have e0 : s₁.heap = h0 := by rw [← hh, Bd.state]; rfl
  have N0 := Fr.nil n0
  have K0 : Keep h0 h0 [a] := Keep.refl h0 _
  have pre0 : ∀ t, Steps p.tables e below (s₁.setTop (mkF m 0 #[.val (.ref a), .val (.ref x), .val (.int (0 : Int32)), .val (.int l'), .val .null, .unset] [])) t → Steps p.tables e below (s₁.setTop (entryFrame m #[(.ref a), (.ref x), (.int (0 : Int32)), (.int l'), .null] 6)) t := fun t k => castTop (ef_4 m a x l') k
  have hS : s.Since s.vm s.heap.size := (State.WarmedH.refl s).since _
  have hk : s.heap.size ≤ h0.size := by rw [← hh]; exact Nat.le_refl _
  obtain ⟨T1, X1, e1, st1⟩ := initO X0 hx hZ hown (hw _ (List.mem_of_getElem? (i := 19) rfl)) (hw _ (List.mem_of_getElem? (i := 20) rfl)) (hw _ (List.mem_of_getElem? (i := 21) rfl)) e0 (g := (mkF m 1 #[.val (.ref a), .val (.ref x), .val (.int (0 : Int32)), .val (.int l'), .val .null, .unset] [(.ref a)])) rfl (by rw [hml]; rfl) rfl (hb hby d4_1) (by decide) (W := 0) (by show 2 * 0 + _ ≤ _; exact Nat.le_of_eq rfl) (by decide)
  have pre2 : ∀ t, Steps p.tables e below (T1.setTop (mkF m 5 #[.val (.ref a), .val (.ref x), .val (.int (0 : Int32)), .val (.int l'), .val .null, .unset] [(.int l')])) t → Steps p.tables e below (s₁.setTop (entryFrame m #[(.ref a), (.ref x), (.int (0 : Int32)), (.int l'), .null] 6)) t := by
    intro t kt
    refine pre0 t ?_
    show Steps p.tables e below (s₁.setTop (mkF m 0 #[.val (.ref a), .val (.ref x), .val (.int (0 : Int32)), .val (.int l'), .val .null, .unset] [])) _
    refine XS.aloadN X0.here hx rfl (hb hby d4_0) rfl rfl ?_
    show Steps p.tables e below (s₁.setTop (mkF m 1 #[.val (.ref a), .val (.ref x), .val (.int (0 : Int32)), .val (.int l'), .val .null, .unset] [(.ref a)])) _
    refine st1 _ ?_
    show Steps p.tables e below (T1.setTop (mkF m 4 #[.val (.ref a), .val (.ref x), .val (.int (0 : Int32)), .val (.int l'), .val .null, .unset] [])) _
    refine XS.iloadN X1.here hx rfl (hb hby d4_4) rfl ?_
    exact kt
  by_cases hc5_3 : l' = (0 : Int32)
  · have pre4 : ∀ t, Steps p.tables e below (T1.setTop (mkF m 9 #[.val (.ref a), .val (.ref x), .val (.int (0 : Int32)), .val (.int l'), .val .null, .unset] [(.ref a)])) t → Steps p.tables e below (s₁.setTop (entryFrame m #[(.ref a), (.ref x), (.int (0 : Int32)), (.int l'), .null] 6)) t := by
      intro t kt
      refine pre2 t ?_
      show Steps p.tables e below (T1.setTop (mkF m 5 #[.val (.ref a), .val (.ref x), .val (.int (0 : Int32)), .val (.int l'), .val .null, .unset] [(.int l')])) _
      refine XS.ifNo X1.here hx rfl (hb hby d4_5) rfl ((if0 _ _).trans (teq hc5_3).2) ?_
      show Steps p.tables e below (T1.setTop (mkF m 8 #[.val (.ref a), .val (.ref x), .val (.int (0 : Int32)), .val (.int l'), .val .null, .unset] [])) _
      refine XS.aloadN X1.here hx rfl (hb hby d4_8) rfl rfl ?_
      exact kt
    obtain ⟨q1, T5, h5, k5, bq, kq, X5, e5, E5, hS, hk, hZ, hown, E_q1, F_coder_q1, F_value_q1, Aq, -, -, -, Lq, -, st5⟩ := ldcCH X1 hx hZ hown (hw _ (List.mem_of_getElem? (i := 72) rfl)) (own_sa hw) e1 hS hk (own_ew hw) (List.mem_cons_self ..) Ch (vs := []) (z := 0) ⟨fun c hc => by simp at hc, rfl⟩ (by decide) rfl (g := (mkF m 9 #[.val (.ref a), .val (.ref x), .val (.int (0 : Int32)), .val (.int l'), .val .null, .unset] [(.ref a)])) rfl (hb hby d4_9) (n := 0) (by decide +kernel) (by decide) (by decide) (by decide)
    have Od := Od.ext E5
    have E_a := E_a.ext E5
    have F_value_a := F_value_a.ext E5
    have F_coder_a := F_coder_a.ext E5
    have Zs5 : n0 ≤ h5.size := Nat.le_trans Z0 E5.1
    have K5 : Keep h0 h5 [a] := K0.ext E5
    obtain ⟨cq, Arq, -, Sq, Mq, -, -⟩ := Aq
    have V_bq : own_A Z h5 bq .byte (0 : Int32) (fun _ => 0) := ⟨cq, Arq, Sq, Mq, fun j hj => absurd hj (Nat.not_lt_zero j)⟩
    have ne_a_q1 : a ≠ q1 := Fld.ne F_value_a F_value_q1 (fun z => nomatch z)
    have ne_a_bq : a ≠ bq := ne_arr E_a (hw _ (List.mem_of_getElem? (i := 9) rfl)) Arq
    obtain ⟨T6, X6, e6, st6⟩ := getF X5 hx hZ hown (host := "") (Or.inl (hw _ (List.mem_of_getElem? (i := 36) rfl))) Via.refl e5 F_value_q1 (g := (mkF m 11 #[.val (.ref a), .val (.ref x), .val (.int (0 : Int32)), .val (.int l'), .val .null, .unset] [(.ref q1), (.ref a)])) rfl rfl (hb hby d4_11)
    obtain ⟨T7, h7, X7, e7, W7, st7⟩ := putF X6 hx hZ hown (host := "") (Or.inl (hw _ (List.mem_of_getElem? (i := 36) rfl))) Via.refl e6 F_value_a E_a (Or.inr ⟨(hw _ (List.mem_of_getElem? (i := 37) rfl)), rfl, hnm⟩) (hw _ (List.mem_of_getElem? (i := 9) rfl)) (ty := (.array .byte)) (by decide) rfl rfl (g := (mkF m 14 #[.val (.ref a), .val (.ref x), .val (.int (0 : Int32)), .val (.int l'), .val .null, .unset] [(.ref bq), (.ref a)])) rfl rfl (hb hby d4_14)
    have Od := Od.wr W7 g_a
    have E_a := E_a.wr W7
    have F_value_a := F_value_a.same W7
    have F_coder_a := F_coder_a.other W7 (Or.inr (slot_ne (Or.inr (hw _ (List.mem_of_getElem? (i := 35) rfl))) (Or.inr (hw _ (List.mem_of_getElem? (i := 37) rfl))) (by decide) (t := .byte) (t' := (.array .byte)) (by decide) (by decide)))
    have F_value_q1 := F_value_q1.other W7 (Or.inl (Ne.symm ne_a_q1))
    have F_coder_q1 := F_coder_q1.other W7 (Or.inl (Ne.symm ne_a_q1))
    have V_bq := V_bq.other W7 (Ne.symm ne_a_bq)
    have Zs7 : n0 ≤ h7.size := Nat.le_trans Zs5 (Keep.of_wr W7).1
    have hk := Nat.le_trans hk (Keep.of_wr W7).1
    have K7 : Keep h0 h7 [a] := K5.wr W7 (Or.inl (List.mem_of_getElem? (i := 0) rfl))
    have N7 := Fr.snoc X7 N0 g_a
    obtain ⟨T8, X8, e8, st8⟩ := getF X7 hx hZ hown (host := "") (Or.inl (hw _ (List.mem_of_getElem? (i := 34) rfl))) Via.refl e7 F_coder_q1 (g := (mkF m 20 #[.val (.ref a), .val (.ref x), .val (.int (0 : Int32)), .val (.int l'), .val .null, .unset] [(.ref q1), (.ref a)])) rfl rfl (hb hby d4_20)
    obtain ⟨T9, h9, X9, e9, W9, st9⟩ := putFN X8 hx hZ hown (hw _ (List.mem_of_getElem? (i := 34) rfl)) Via.refl e8 F_coder_a E_a (Or.inr ⟨(hw _ (List.mem_of_getElem? (i := 35) rfl)), rfl, hnm⟩) (hw _ (List.mem_of_getElem? (i := 9) rfl)) (ty := .byte) (v' := .int (nar .byte (0 : Int32))) (by decide) rfl (fits_nar_byte _) (g := (mkF m 23 #[.val (.ref a), .val (.ref x), .val (.int (0 : Int32)), .val (.int l'), .val .null, .unset] [(.int (0 : Int32)), (.ref a)])) rfl rfl (hb hby d4_23)
    have Od := Od.wr W9 g_a
    have E_a := E_a.wr W9
    have F_value_a := F_value_a.other W9 (Or.inr (slot_ne (Or.inr (hw _ (List.mem_of_getElem? (i := 37) rfl))) (Or.inr (hw _ (List.mem_of_getElem? (i := 35) rfl))) (by decide) (t := (.array .byte)) (t' := .byte) (by decide) (by decide)))
    have F_coder_a := F_coder_a.same W9
    have F_value_q1 := F_value_q1.other W9 (Or.inl (Ne.symm ne_a_q1))
    have F_coder_q1 := F_coder_q1.other W9 (Or.inl (Ne.symm ne_a_q1))
    have V_bq := V_bq.other W9 (Ne.symm ne_a_bq)
    have Zs9 : n0 ≤ h9.size := Nat.le_trans Zs7 (Keep.of_wr W9).1
    have hk := Nat.le_trans hk (Keep.of_wr W9).1
    have K9 : Keep h0 h9 [a] := K7.wr W9 (Or.inl (List.mem_of_getElem? (i := 0) rfl))
    have N9 := Fr.snoc X9 N7 g_a
    obtain ⟨fs, hr, hrun, hended, hW⟩ := X9.leaveW hS (by rw [e9]; exact hk) (v := none) (fun _ => rfl)
    refine ⟨_, _, pre4 _ ?_, hrun, hended, _, _, rfl, ?_, hW.1, hW.2.1, hW.2.2.1, hW.2.2.2.mono (by decide) (by decide)⟩
    · show Steps p.tables e below (T1.setTop (mkF m 9 #[.val (.ref a), .val (.ref x), .val (.int (0 : Int32)), .val (.int l'), .val .null, .unset] [(.ref a)])) _
      refine st5 _ ?_
      show Steps p.tables e below (T5.setTop (mkF m 11 #[.val (.ref a), .val (.ref x), .val (.int (0 : Int32)), .val (.int l'), .val .null, .unset] [(.ref q1), (.ref a)])) _
      refine st6 _ ?_
      show Steps p.tables e below (T6.setTop (mkF m 14 #[.val (.ref a), .val (.ref x), .val (.int (0 : Int32)), .val (.int l'), .val .null, .unset] [(.ref bq), (.ref a)])) _
      refine st7 _ ?_
      show Steps p.tables e below (T7.setTop (mkF m 17 #[.val (.ref a), .val (.ref x), .val (.int (0 : Int32)), .val (.int l'), .val .null, .unset] [])) _
      refine XS.aloadN X7.here hx rfl (hb hby d4_17) rfl rfl ?_
      show Steps p.tables e below (T7.setTop (mkF m 18 #[.val (.ref a), .val (.ref x), .val (.int (0 : Int32)), .val (.int l'), .val .null, .unset] [(.ref a)])) _
      refine ldcAgain X7 hx hZ hown (hw _ (List.mem_of_getElem? (i := 72) rfl)) Lq (g := (mkF m 18 #[.val (.ref a), .val (.ref x), .val (.int (0 : Int32)), .val (.int l'), .val .null, .unset] [(.ref a)])) rfl (hb hby d4_18) _ ?_
      show Steps p.tables e below (T7.setTop (mkF m 20 #[.val (.ref a), .val (.ref x), .val (.int (0 : Int32)), .val (.int l'), .val .null, .unset] [(.ref q1), (.ref a)])) _
      refine st8 _ ?_
      show Steps p.tables e below (T8.setTop (mkF m 23 #[.val (.ref a), .val (.ref x), .val (.int (0 : Int32)), .val (.int l'), .val .null, .unset] [(.int (0 : Int32)), (.ref a)])) _
      refine st9 _ ?_
      show Steps p.tables e below (T9.setTop (mkF m 26 #[.val (.ref a), .val (.ref x), .val (.int (0 : Int32)), .val (.int l'), .val .null, .unset] [])) _
      exact X9.returnOut hx Bd.returns (hb hby d4_26) hr
    · show Q4 Z a x l' cs' f' h0 n0 _ T9.heap _
      rw [e9]
      exact ⟨rfl, N9, K9, bq, (0 : Int32), (nar .byte (0 : Int32)), (fun _ => 0), F_value_a, F_coder_a, V_bq, Or.inl rfl⟩
  · obtain ⟨T10, X10, e10, st10⟩ := getS2 X1 hx hZ hown (host := "") (Or.inl (hw _ (List.mem_of_getElem? (i := 22) rfl))) Via.refl e1 (S_COMPACT_STRINGS.ext Od.2) (g := (mkF m 27 #[.val (.ref a), .val (.ref x), .val (.int (0 : Int32)), .val (.int l'), .val .null, .unset] [])) rfl (hb hby d4_27)
    have E_a0 := E_a
    have hl6 := own_l8 hl hc5_3
    obtain ⟨_, _, ⟨T11, L11, k11, n11⟩, -, X11, ⟨Lc11, hQ11, l11, y11, z11⟩, st11⟩ := Jvm.LawKit.callS X10 hx (y := (⟨"java/lang/StringUTF16", "compress", "([CII)[B"⟩ : MethodName)) hown (mvT hZ (hw _ (List.mem_of_getElem? (i := 23) rfl))) (mvT hZ (hw _ (List.mem_of_getElem? (i := 24) rfl))) (mvT hZ (hw _ (List.mem_of_getElem? (i := 25) rfl))) (mvT hZ (hw _ (List.mem_of_getElem? (i := 26) rfl))) (by decide) (backOf (W := 0) (rm6 l Z a0 hw [] x l' cs' f' h0 n0 Z0 Od S_COMPACT_STRINGS S__assertionsDisabled S_HI_BYTE_SHIFT S_LO_BYTE_SHIFT hcs V_x hl6 hf) hZ (hw _ (List.mem_of_getElem? (i := 26) rfl)) (hw _ (List.mem_of_getElem? (i := 25) rfl)) (by decide) (by decide)) (g := (mkF m 36 #[.val (.ref a), .val (.ref x), .val (.int (0 : Int32)), .val (.int l'), .val .null, .unset] [(.int l'), (.int (0 : Int32)), (.ref x)])) rfl (by rw [hml]; rfl) (argsL := [(.ref x), (.int (0 : Int32)), (.int l')]) (rest := []) (lenOf pd4_0 rfl) rfl (by show 2 * 0 + _ ≤ _; exact Nat.le_of_eq rfl) (hb hby d4_36) (fun _ _ => ⟨rfl, e10, (by decide : 0 + 2 ≤ _), (by decide : 0 + 9 ≤ _)⟩)
    dsimp only [Pt.U, Pt.locs, Pt.cells, Pt.slots] at X11 l11 y11 z11 st11 hQ11
    subst l11 y11 z11
    obtain ⟨r6, n6, g6, rfl, N11q, Kq11, g_r6, sz_r6, V_r6, hn6⟩ := hQ11
    have N11 := Fr.app N0 N11q
    have Od := Od.keep Kq11 all0
    have E_a := E_a.keep Kq11
    have F_value_a := F_value_a.keep Kq11 nin0
    have F_coder_a := F_coder_a.keep Kq11 nin0
    have V_x := V_x.keep Kq11 nin0
    have Zs11 : n0 ≤ T11.heap.size := Nat.le_trans Z0 Kq11.1
    have hk := Nat.le_trans hk Kq11.1
    have K11 : Keep h0 T11.heap [a] := K0.trans Kq11 all0
    have ne_a_r6 : a ≠ r6 := Nat.ne_of_lt (Nat.lt_of_lt_of_le E_a0.lt sz_r6)
    obtain ⟨_, _, ⟨T12, L12, k12, n12⟩, -, X12, ⟨Lc12, hQ12, l12, y12, z12⟩, st12⟩ := Jvm.LawKit.callS X11 hx (y := (⟨"java/lang/StringUTF16", "coderFromArrayLen", "([BI)B"⟩ : MethodName)) hown (mvT hZ (hw _ (List.mem_of_getElem? (i := 31) rfl))) (mvT hZ (hw _ (List.mem_of_getElem? (i := 32) rfl))) (mvT hZ (hw _ (List.mem_of_getElem? (i := 25) rfl))) (mvT hZ (hw _ (List.mem_of_getElem? (i := 33) rfl))) (by decide) (backOf (W := 1) (rm8 l Z a0 hw [] r6 l' n6 g6 T11.heap n0 Zs11 V_r6) hZ (hw _ (List.mem_of_getElem? (i := 33) rfl)) (hw _ (List.mem_of_getElem? (i := 25) rfl)) (by decide) (by decide)) (g := (mkF m 45 #[.val (.ref a), .val (.ref x), .val (.int (0 : Int32)), .val (.int l'), .val .null, .val (.ref r6)] [(.int l'), (.ref r6), (.ref a)])) rfl (by rw [hml]; rfl) (argsL := [(.ref r6), (.int l')]) (rest := [(.ref a)]) (lenOf pd4_1 rfl) rfl (by show 2 * 0 + _ ≤ _; exact Nat.le_of_eq rfl) (hb hby d4_45) (fun _ _ => ⟨rfl, rfl, (by decide : 2 + 0 ≤ _), (by decide : 9 + 0 ≤ _)⟩)
    dsimp only [Pt.U, Pt.locs, Pt.cells, Pt.slots] at X12 l12 y12 z12 st12 hQ12
    subst l12 y12 z12
    obtain ⟨rfl, N12q, hh12⟩ := hQ12
    have N12 := Fr.app N11 N12q
    obtain ⟨T13, h13, X13, e13, W13, st13⟩ := putFN X12 hx hZ hown (hw _ (List.mem_of_getElem? (i := 34) rfl)) Via.refl hh12 F_coder_a E_a (Or.inr ⟨(hw _ (List.mem_of_getElem? (i := 35) rfl)), rfl, hnm⟩) (hw _ (List.mem_of_getElem? (i := 9) rfl)) (ty := .byte) (v' := .int (nar .byte (nar .byte (((((l' - n6).toUInt32 >>> ((31 : Int32) &&& 31).toUInt32).toInt32)).toInt8.toInt32)))) (by decide) rfl (fits_nar_byte _) (g := (mkF m 48 #[.val (.ref a), .val (.ref x), .val (.int (0 : Int32)), .val (.int l'), .val .null, .val (.ref r6)] [(.int (nar .byte (((((l' - n6).toUInt32 >>> ((31 : Int32) &&& 31).toUInt32).toInt32)).toInt8.toInt32))), (.ref a)])) rfl rfl (hb hby d4_48)
    have Od := Od.wr W13 g_a
    have E_a := E_a.wr W13
    have F_value_a := F_value_a.other W13 (Or.inr (slot_ne (Or.inr (hw _ (List.mem_of_getElem? (i := 37) rfl))) (Or.inr (hw _ (List.mem_of_getElem? (i := 35) rfl))) (by decide) (t := (.array .byte)) (t' := .byte) (by decide) (by decide)))
    have F_coder_a := F_coder_a.same W13
    have V_r6 := V_r6.other W13 (Ne.symm ne_a_r6)
    have Zs13 : n0 ≤ h13.size := Nat.le_trans Zs11 (Keep.of_wr W13).1
    have hk := Nat.le_trans hk (Keep.of_wr W13).1
    have K13 : Keep h0 h13 [a] := K11.wr W13 (Or.inl (List.mem_of_getElem? (i := 0) rfl))
    have N13 := Fr.snoc X13 N12 g_a
    obtain ⟨T14, h14, X14, e14, W14, st14⟩ := putF X13 hx hZ hown (host := "") (Or.inl (hw _ (List.mem_of_getElem? (i := 36) rfl))) Via.refl e13 F_value_a E_a (Or.inr ⟨(hw _ (List.mem_of_getElem? (i := 37) rfl)), rfl, hnm⟩) (hw _ (List.mem_of_getElem? (i := 9) rfl)) (ty := (.array .byte)) (by decide) rfl rfl (g := (mkF m 54 #[.val (.ref a), .val (.ref x), .val (.int (0 : Int32)), .val (.int l'), .val .null, .val (.ref r6)] [(.ref r6), (.ref a)])) rfl rfl (hb hby d4_54)
    have Od := Od.wr W14 g_a
    have E_a := E_a.wr W14
    have F_value_a := F_value_a.same W14
    have F_coder_a := F_coder_a.other W14 (Or.inr (slot_ne (Or.inr (hw _ (List.mem_of_getElem? (i := 35) rfl))) (Or.inr (hw _ (List.mem_of_getElem? (i := 37) rfl))) (by decide) (t := .byte) (t' := (.array .byte)) (by decide) (by decide)))
    have V_r6 := V_r6.other W14 (Ne.symm ne_a_r6)
    have Zs14 : n0 ≤ h14.size := Nat.le_trans Zs13 (Keep.of_wr W14).1
    have hk := Nat.le_trans hk (Keep.of_wr W14).1
    have K14 : Keep h0 h14 [a] := K13.wr W14 (Or.inl (List.mem_of_getElem? (i := 0) rfl))
    have N14 := Fr.snoc X14 N13 g_a
    obtain ⟨fs, hr, hrun, hended, hW⟩ := X14.leaveW hS (by rw [e14]; exact hk) (v := none) (fun _ => rfl)
    refine ⟨_, _, pre2 _ ?_, hrun, hended, _, _, rfl, ?_, hW.1, hW.2.1, hW.2.2.1, hW.2.2.2.mono (by decide) (by decide)⟩
    · show Steps p.tables e below (T1.setTop (mkF m 5 #[.val (.ref a), .val (.ref x), .val (.int (0 : Int32)), .val (.int l'), .val .null, .unset] [(.int l')])) _
      refine XS.ifYes X1.here hx rfl (pc0 := 5) (pc' := 27) rfl (hb hby d4_5) rfl ((if0 _ _).trans (feq hc5_3).2) (by decide) (by decide) ?_
      show Steps p.tables e below (T1.setTop (mkF m 27 #[.val (.ref a), .val (.ref x), .val (.int (0 : Int32)), .val (.int l'), .val .null, .unset] [])) _
      refine st10 _ ?_
      show Steps p.tables e below (T10.setTop (mkF m 30 #[.val (.ref a), .val (.ref x), .val (.int (0 : Int32)), .val (.int l'), .val .null, .unset] [(.int cs')])) _
      refine XS.ifNo X10.here hx rfl (hb hby d4_30) rfl ((if0 _ _).trans (feq hcs).1) ?_
      show Steps p.tables e below (T10.setTop (mkF m 33 #[.val (.ref a), .val (.ref x), .val (.int (0 : Int32)), .val (.int l'), .val .null, .unset] [])) _
      refine XS.aloadN X10.here hx rfl (hb hby d4_33) rfl rfl ?_
      show Steps p.tables e below (T10.setTop (mkF m 34 #[.val (.ref a), .val (.ref x), .val (.int (0 : Int32)), .val (.int l'), .val .null, .unset] [(.ref x)])) _
      refine XS.iloadN X10.here hx rfl (hb hby d4_34) rfl ?_
      show Steps p.tables e below (T10.setTop (mkF m 35 #[.val (.ref a), .val (.ref x), .val (.int (0 : Int32)), .val (.int l'), .val .null, .unset] [(.int (0 : Int32)), (.ref x)])) _
      refine XS.iloadN X10.here hx rfl (hb hby d4_35) rfl ?_
      show Steps p.tables e below (T10.setTop (mkF m 36 #[.val (.ref a), .val (.ref x), .val (.int (0 : Int32)), .val (.int l'), .val .null, .unset] [(.int l'), (.int (0 : Int32)), (.ref x)])) _
      refine st11 _ ?_
      show Steps p.tables e below (T11.setTop (mkF m 39 #[.val (.ref a), .val (.ref x), .val (.int (0 : Int32)), .val (.int l'), .val .null, .unset] [(.ref r6)])) _
      refine XS.astore X11.here hx rfl (hb hby d4_39) rfl rfl (l' := #[.val (.ref a), .val (.ref x), .val (.int (0 : Int32)), .val (.int l'), .val .null, .val (.ref r6)]) rfl ?_
      show Steps p.tables e below (T11.setTop (mkF m 41 #[.val (.ref a), .val (.ref x), .val (.int (0 : Int32)), .val (.int l'), .val .null, .val (.ref r6)] [])) _
      refine XS.aloadN X11.here hx rfl (hb hby d4_41) rfl rfl ?_
      show Steps p.tables e below (T11.setTop (mkF m 42 #[.val (.ref a), .val (.ref x), .val (.int (0 : Int32)), .val (.int l'), .val .null, .val (.ref r6)] [(.ref a)])) _
      refine XS.aload X11.here hx rfl (hb hby d4_42) rfl rfl ?_
      show Steps p.tables e below (T11.setTop (mkF m 44 #[.val (.ref a), .val (.ref x), .val (.int (0 : Int32)), .val (.int l'), .val .null, .val (.ref r6)] [(.ref r6), (.ref a)])) _
      refine XS.iloadN X11.here hx rfl (hb hby d4_44) rfl ?_
      show Steps p.tables e below (T11.setTop (mkF m 45 #[.val (.ref a), .val (.ref x), .val (.int (0 : Int32)), .val (.int l'), .val .null, .val (.ref r6)] [(.int l'), (.ref r6), (.ref a)])) _
      refine st12 _ ?_
      show Steps p.tables e below (T12.setTop (mkF m 48 #[.val (.ref a), .val (.ref x), .val (.int (0 : Int32)), .val (.int l'), .val .null, .val (.ref r6)] [(.int (nar .byte (((((l' - n6).toUInt32 >>> ((31 : Int32) &&& 31).toUInt32).toInt32)).toInt8.toInt32))), (.ref a)])) _
      refine st13 _ ?_
      show Steps p.tables e below (T13.setTop (mkF m 51 #[.val (.ref a), .val (.ref x), .val (.int (0 : Int32)), .val (.int l'), .val .null, .val (.ref r6)] [])) _
      refine XS.aloadN X13.here hx rfl (hb hby d4_51) rfl rfl ?_
      show Steps p.tables e below (T13.setTop (mkF m 52 #[.val (.ref a), .val (.ref x), .val (.int (0 : Int32)), .val (.int l'), .val .null, .val (.ref r6)] [(.ref a)])) _
      refine XS.aload X13.here hx rfl (hb hby d4_52) rfl rfl ?_
      show Steps p.tables e below (T13.setTop (mkF m 54 #[.val (.ref a), .val (.ref x), .val (.int (0 : Int32)), .val (.int l'), .val .null, .val (.ref r6)] [(.ref r6), (.ref a)])) _
      refine st14 _ ?_
      show Steps p.tables e below (T14.setTop (mkF m 57 #[.val (.ref a), .val (.ref x), .val (.int (0 : Int32)), .val (.int l'), .val .null, .val (.ref r6)] [])) _
      exact X14.returnOut hx Bd.returns (hb hby d4_57) hr
    · show Q4 Z a x l' cs' f' h0 n0 _ T14.heap _
      rw [e14]
      exact ⟨rfl, N14, K14, r6, n6, (nar .byte (nar .byte (((((l' - n6).toUInt32 >>> ((31 : Int32) &&& 31).toUInt32).toInt32)).toInt8.toInt32))), g6, F_value_a, F_coder_a, V_r6, Or.inr (own_cd hl6 hn6)⟩
theorem d3_0 : decode jdk_42_method_3_code 0 = .ok (.aload_n 0, 1) := by decide +kernel
theorem d3_1 : decode jdk_42_method_3_code 1 = .ok (.aload_n 1, 1) := by decide +kernel
theorem d3_2 : decode jdk_42_method_3_code 2 = .ok (.iconst 0, 1) := by decide +kernel
theorem d3_3 : decode jdk_42_method_3_code 3 = .ok (.aload_n 1, 1) := by decide +kernel
theorem d3_4 : decode jdk_42_method_3_code 4 = .ok (.arraylength, 1) := by decide +kernel
theorem d3_5 : decode jdk_42_method_3_code 5 = .ok (.aconst_null, 1) := by decide +kernel
theorem d3_6 : decode jdk_42_method_3_code 6 = .ok (.invokespecial 27, 3) := by decide +kernel
theorem d3_9 : decode jdk_42_method_3_code 9 = .ok (.return_, 1) := by decide +kernel
theorem pn_3 : plainName "java/lang/String" = true := by first | (simp [plainName, overriddenIn]; done) | decide +kernel
theorem pd3_0 : parseMethodDescriptor "([CIILjava/lang/Void;)V" = some ⟨[(.array .char), .int, .int, (.object "java/lang/Void")], none⟩ := by decide +kernel
theorem ef_3 (m : MethodId) (x0 : Addr) (x1 : Addr) : entryFrame m #[(.ref x0), (.ref x1)] 2 = mkF m 0 #[.val (.ref x0), .val (.ref x1)] [] := by first | (simp [entryFrame, mkF, argsToLocals, Value.category]; done) | rfl
def Q3 (Z : State) (a : Addr) (x : Addr) (cs' l' : Int32) (f' : Nat → Int32) (h0 : Heap) (n0 : Nat) (v : Option Value) (h : Heap) (L : List Loc) : Prop := v = none ∧ Fr n0 L ∧ Keep h0 h [a] ∧ ∃ (y : Addr) (n c : Int32) (g : Nat → Int32), Fld Z h a "java/lang/String" "value" "[B" (.ref y) ∧ Fld Z h a "java/lang/String" "coder" "B" (.int c) ∧ own_A Z h y .byte n g ∧ own_R n c
set_option maxRecDepth 65536 in
set_option maxHeartbeats 40000000 in
theorem rm3 (l : Launch) (Z : State) (a0 : Array Value) (hw : ∀ d ∈ tables_1, d.before a0 Z = true) (ws : List Jvm.Cond) (a : Addr) (x : Addr) (cs' l' : Int32) (f' : Nat → Int32) (h0 : Heap) (n0 : Nat) (Z0 : n0 ≤ h0.size) (Od : Old Z n0 h0) (S_COMPACT_STRINGS : Sta Z Z.heap "java/lang/String" "COMPACT_STRINGS" "Z" (.int cs')) (S__assertionsDisabled : Sta Z Z.heap "java/lang/StringUTF16" "$assertionsDisabled" "Z" (.int (1 : Int32))) (S_HI_BYTE_SHIFT : Sta Z Z.heap "java/lang/StringUTF16" "HI_BYTE_SHIFT" "I" (.int (0 : Int32))) (S_LO_BYTE_SHIFT : Sta Z Z.heap "java/lang/StringUTF16" "LO_BYTE_SHIFT" "I" (.int (8 : Int32))) (hcs : ¬ cs' = (0 : Int32)) (E_a : Exa Z h0 a "java/lang/String") (F_value_a : Fld Z h0 a "java/lang/String" "value" "[B" .null) (F_coder_a : Fld Z h0 a "java/lang/String" "coder" "B" (.int (0 : Int32))) (g_a : n0 ≤ a) (V_x : own_A Z h0 x .char l' f') (hl : 0 ≤ l'.toInt ∧ l'.toInt ≤ 3) (hf : ∀ i, 0 ≤ (f' i).toInt ∧ (f' i).toInt < 65536) :
    MetFree l (⟨"java/lang/String", "<init>", "([C)V"⟩ : MethodName) (head1 (Jvm.Cond.code (⟨"java/lang/String", "<init>", "([C)V"⟩ : MethodName) jdk_42_method_3_code 2 none :: ws) ({ frames := 5, cells := 2, slots := 9, locals := 74 } : Room)) (fun ar U => ar = #[(.ref a), (.ref x)] ∧ Z.Warmed39 U.vm ∧ U.heap = h0 ∧ CHv Z own_EL U.vm h0) (fun _ _ _ _ _ => True) (fun _ U o U' => ∃ v L, o = .returned v ∧ Q3 Z a x cs' l' f' h0 n0 v U'.heap L ∧ ReturnedEndW U o U' L ({ frames := 5, cells := 2, slots := 9, locals := 74 } : Room).cells ({ frames := 5, cells := 2, slots := 9, locals := 74 } : Room).slots) := by
  refine MetFree.of_bodySF (plainFor_of_name pn_3) hisR ?_
  intro p e s m args below meth c s₁ Bd hml0 hP hK
  obtain ⟨rfl, hZ, hh, Ch⟩ := hP
  have hx := Bd.exec
  have hby := Bd.bytes
  have hml : c.maxLocals = 2 := hml0
  have hown : s.vm.findClass "java/lang/String" = some m.cls := findClass_of_methodNamed Bd.named
  have hnm := (name_of_methodNamed Bd.named Bd.method).1
  have X0 : Stand p l e ({ frames := 5, cells := 2, slots := 9, locals := 74 } : Room) (s.setVm s.vm) m #[(.ref a), (.ref x)] below meth c s₁ [] 0 0 := (Stand.of_body Bd : Stand p l e ({ frames := 5, cells := 2, slots := 9, locals := 74 } : Room) s m #[(.ref a), (.ref x)] below meth c s₁ [] 0 0)
  have e0 : s₁.heap = h0 := by rw [← hh, Bd.state]; rfl
  have N0 := Fr.nil n0
  have K0 : Keep h0 h0 [a] := Keep.refl h0 _
  have pre0 : ∀ t, Steps p.tables e below (s₁.setTop (mkF m 0 #[.val (.ref a), .val (.ref x)] [])) t → Steps p.tables e below (s₁.setTop (entryFrame m #[(.ref a), (.ref x)] 2)) t := fun t k => castTop (ef_3 m a x) k
  have hS : s.Since s.vm s.heap.size := (State.WarmedH.refl s).since _
  have hk : s.heap.size ≤ h0.size := by rw [← hh]; exact Nat.le_refl _
  obtain ⟨cl41, Ar41, S41, M41, H41⟩ := id V_x
  have pre3 : ∀ t, Steps p.tables e below (s₁.setTop (mkF m 6 #[.val (.ref a), .val (.ref x)] [.null, (.int l'), (.int (0 : Int32)), (.ref x), (.ref a)])) t → Steps p.tables e below (s₁.setTop (entryFrame m #[(.ref a), (.ref x)] 2)) t := by
    intro t kt
    refine pre0 t ?_
    show Steps p.tables e below (s₁.setTop (mkF m 0 #[.val (.ref a), .val (.ref x)] [])) _
    refine XS.aloadN X0.here hx rfl (hb hby d3_0) rfl rfl ?_
    show Steps p.tables e below (s₁.setTop (mkF m 1 #[.val (.ref a), .val (.ref x)] [(.ref a)])) _
    refine XS.aloadN X0.here hx rfl (hb hby d3_1) rfl rfl ?_
    show Steps p.tables e below (s₁.setTop (mkF m 2 #[.val (.ref a), .val (.ref x)] [(.ref x), (.ref a)])) _
    refine XS.iconst X0.here hx rfl (hb hby d3_2) ?_
    show Steps p.tables e below (s₁.setTop (mkF m 3 #[.val (.ref a), .val (.ref x)] [(.int (0 : Int32)), (.ref x), (.ref a)])) _
    refine XS.aloadN X0.here hx rfl (hb hby d3_3) rfl rfl ?_
    show Steps p.tables e below (s₁.setTop (mkF m 4 #[.val (.ref a), .val (.ref x)] [(.ref x), (.int (0 : Int32)), (.ref x), (.ref a)])) _
    refine X0.arraylength hx (cell := cl41) (by rw [e0]; exact Ar41.1) (State.isArrayOf_alike hZ.alike Ar41.2.1) (g := (mkF m 4 #[.val (.ref a), .val (.ref x)] [(.ref x), (.int (0 : Int32)), (.ref x), (.ref a)])) rfl (rest := [(.int (0 : Int32)), (.ref x), (.ref a)]) rfl (hb hby d3_4) _ ?_
    rw [len_of S41 M41]
    show Steps p.tables e below (s₁.setTop (mkF m 5 #[.val (.ref a), .val (.ref x)] [(.int l'), (.int (0 : Int32)), (.ref x), (.ref a)])) _
    refine XS.aconstNull X0.here hx rfl (hb hby d3_5) ?_
    exact kt
  obtain ⟨_, _, ⟨T2, L2, k2, n2⟩, -, X2, hSq2, hgr2, ⟨Lc2, hQ2, l2, y2, z2⟩, st2⟩ := X0.specialBackS hx (y := (⟨"java/lang/String", "<init>", "([CIILjava/lang/Void;)V"⟩ : MethodName)) rfl hown (mvT hZ (hw _ (List.mem_of_getElem? (i := 15) rfl))) (mvT hZ (hw _ (List.mem_of_getElem? (i := 16) rfl))) (mvT hZ (hw _ (List.mem_of_getElem? (i := 18) rfl))) (by decide) (own_backH (W := 0) (rm4 l Z a0 hw [] a x l' cs' f' h0 n0 Z0 Od S_COMPACT_STRINGS S__assertionsDisabled S_HI_BYTE_SHIFT S_LO_BYTE_SHIFT hcs E_a F_value_a F_coder_a g_a V_x hl hf) hZ (hw _ (List.mem_of_getElem? (i := 18) rfl)) (hw _ (List.mem_of_getElem? (i := 10) rfl)) (by decide) (by decide) (own_ew hw) Ch) (g := (mkF m 6 #[.val (.ref a), .val (.ref x)] [.null, (.int l'), (.int (0 : Int32)), (.ref x), (.ref a)])) rfl (by rw [hml]; rfl) (Steps.refl _) (a := a) (argsL := [(.ref x), (.int (0 : Int32)), (.int l'), .null]) (rest := []) (lenOf pd3_0 rfl) rfl (by show 2 * 0 + _ ≤ _; exact Nat.le_of_eq rfl) (hb hby d3_6) (fun _ _ => ⟨rfl, e0, (by decide : 0 + 2 ≤ _), (by decide : 0 + 9 ≤ _)⟩)
  dsimp only [Pt.U, Pt.locs, Pt.cells, Pt.slots] at X2 l2 y2 z2 st2 hQ2 hSq2 hgr2
  subst l2 y2 z2
  have X2 : Stand p l e _ (s.setVm T2.vm) m _ below meth c T2 _ _ _ := X2
  have hS := foldS hS (by rw [e0]; exact hk) hSq2 hgr2
  have hZ : Z.Warmed39 (s.setVm T2.vm).vm := State.Warmed39.trans hZ hSq2.1
  have hown : (s.setVm T2.vm).vm.findClass "java/lang/String" = some m.cls := by rw [show (s.setVm T2.vm).vm = T2.vm from rfl, hSq2.1.alike.findClass]; exact hown
  have hk : T2.heap.size ≤ T2.heap.size := Nat.le_refl _
  obtain ⟨rfl, N2q, Kq2, yq, nq, cq, gq, F_value_a, F_coder_a, V_yq, hRq⟩ := hQ2
  have N2 := Fr.app N0 N2q
  have Od := Od.keep Kq2 (allS g_a all0)
  have E_a := E_a.keep Kq2
  have Zs2 : n0 ≤ T2.heap.size := Nat.le_trans Z0 Kq2.1
  have K2 : Keep h0 T2.heap [a] := K0.trans Kq2 (allS (Or.inl (List.mem_of_getElem? (i := 0) rfl)) all0)
  obtain ⟨fs, hr, hrun, hended, hW⟩ := X2.leaveW hS (hk) (v := none) (fun _ => rfl)
  refine ⟨_, _, pre3 _ ?_, hrun, hended, _, _, rfl, ?_, hW.1, hW.2.1, hW.2.2.1, hW.2.2.2.mono (by decide) (by decide)⟩
  · show Steps p.tables e below (s₁.setTop (mkF m 6 #[.val (.ref a), .val (.ref x)] [.null, (.int l'), (.int (0 : Int32)), (.ref x), (.ref a)])) _
    refine st2.trans ?_
    show Steps p.tables e below (T2.setTop (mkF m 9 #[.val (.ref a), .val (.ref x)] [])) _
    exact X2.returnOut hx Bd.returns (hb hby d3_9) hr
  · show Q3 Z a x cs' l' f' h0 n0 _ T2.heap _
    exact ⟨rfl, N2, K2, yq, nq, cq, gq, F_value_a, F_coder_a, V_yq, hRq⟩
theorem d2_0 : decode method_2_code 0 = .ok (.iload_n 0, 1) := by decide +kernel
theorem d2_1 : decode method_2_code 1 = .ok (.ifCond .ne 14, 3) := by decide +kernel
theorem d2_4 : decode method_2_code 4 = .ok (.new 7, 3) := by decide +kernel
theorem d2_7 : decode method_2_code 7 = .ok (.dup, 1) := by decide +kernel
theorem d2_8 : decode method_2_code 8 = .ok (.iconst 0, 1) := by decide +kernel
theorem d2_9 : decode method_2_code 9 = .ok (.newarray .char, 2) := by decide +kernel
theorem d2_11 : decode method_2_code 11 = .ok (.invokespecial 9, 3) := by decide +kernel
theorem d2_14 : decode method_2_code 14 = .ok (.areturn, 1) := by decide +kernel
theorem d2_15 : decode method_2_code 15 = .ok (.iload_n 0, 1) := by decide +kernel
theorem d2_16 : decode method_2_code 16 = .ok (.iconst 1, 1) := by decide +kernel
theorem d2_17 : decode method_2_code 17 = .ok (.if_icmp .ne 19, 3) := by decide +kernel
theorem d2_20 : decode method_2_code 20 = .ok (.new 7, 3) := by decide +kernel
theorem d2_23 : decode method_2_code 23 = .ok (.dup, 1) := by decide +kernel
theorem d2_24 : decode method_2_code 24 = .ok (.iconst 1, 1) := by decide +kernel
theorem d2_25 : decode method_2_code 25 = .ok (.newarray .char, 2) := by decide +kernel
theorem d2_27 : decode method_2_code 27 = .ok (.dup, 1) := by decide +kernel
theorem d2_28 : decode method_2_code 28 = .ok (.iconst 0, 1) := by decide +kernel
theorem d2_29 : decode method_2_code 29 = .ok (.iload_n 1, 1) := by decide +kernel
theorem d2_30 : decode method_2_code 30 = .ok (.i2c, 1) := by decide +kernel
theorem d2_31 : decode method_2_code 31 = .ok (.castore, 1) := by decide +kernel
theorem d2_32 : decode method_2_code 32 = .ok (.invokespecial 9, 3) := by decide +kernel
theorem d2_35 : decode method_2_code 35 = .ok (.areturn, 1) := by decide +kernel
theorem d2_36 : decode method_2_code 36 = .ok (.iload_n 0, 1) := by decide +kernel
theorem d2_37 : decode method_2_code 37 = .ok (.iconst 2, 1) := by decide +kernel
theorem d2_38 : decode method_2_code 38 = .ok (.if_icmp .ne 24, 3) := by decide +kernel
theorem d2_41 : decode method_2_code 41 = .ok (.new 7, 3) := by decide +kernel
theorem d2_44 : decode method_2_code 44 = .ok (.dup, 1) := by decide +kernel
theorem d2_45 : decode method_2_code 45 = .ok (.iconst 2, 1) := by decide +kernel
theorem d2_46 : decode method_2_code 46 = .ok (.newarray .char, 2) := by decide +kernel
theorem d2_48 : decode method_2_code 48 = .ok (.dup, 1) := by decide +kernel
theorem d2_49 : decode method_2_code 49 = .ok (.iconst 0, 1) := by decide +kernel
theorem d2_50 : decode method_2_code 50 = .ok (.iload_n 1, 1) := by decide +kernel
theorem d2_51 : decode method_2_code 51 = .ok (.i2c, 1) := by decide +kernel
theorem d2_52 : decode method_2_code 52 = .ok (.castore, 1) := by decide +kernel
theorem d2_53 : decode method_2_code 53 = .ok (.dup, 1) := by decide +kernel
theorem d2_54 : decode method_2_code 54 = .ok (.iconst 1, 1) := by decide +kernel
theorem d2_55 : decode method_2_code 55 = .ok (.iload_n 2, 1) := by decide +kernel
theorem d2_56 : decode method_2_code 56 = .ok (.i2c, 1) := by decide +kernel
theorem d2_57 : decode method_2_code 57 = .ok (.castore, 1) := by decide +kernel
theorem d2_58 : decode method_2_code 58 = .ok (.invokespecial 9, 3) := by decide +kernel
theorem d2_61 : decode method_2_code 61 = .ok (.areturn, 1) := by decide +kernel
theorem d2_62 : decode method_2_code 62 = .ok (.new 7, 3) := by decide +kernel
theorem d2_65 : decode method_2_code 65 = .ok (.dup, 1) := by decide +kernel
theorem d2_66 : decode method_2_code 66 = .ok (.iconst 3, 1) := by decide +kernel
theorem d2_67 : decode method_2_code 67 = .ok (.newarray .char, 2) := by decide +kernel
theorem d2_69 : decode method_2_code 69 = .ok (.dup, 1) := by decide +kernel
theorem d2_70 : decode method_2_code 70 = .ok (.iconst 0, 1) := by decide +kernel
theorem d2_71 : decode method_2_code 71 = .ok (.iload_n 1, 1) := by decide +kernel
theorem d2_72 : decode method_2_code 72 = .ok (.i2c, 1) := by decide +kernel
theorem d2_73 : decode method_2_code 73 = .ok (.castore, 1) := by decide +kernel
theorem d2_74 : decode method_2_code 74 = .ok (.dup, 1) := by decide +kernel
theorem d2_75 : decode method_2_code 75 = .ok (.iconst 1, 1) := by decide +kernel
theorem d2_76 : decode method_2_code 76 = .ok (.iload_n 2, 1) := by decide +kernel
theorem d2_77 : decode method_2_code 77 = .ok (.i2c, 1) := by decide +kernel
theorem d2_78 : decode method_2_code 78 = .ok (.castore, 1) := by decide +kernel
theorem d2_79 : decode method_2_code 79 = .ok (.dup, 1) := by decide +kernel
theorem d2_80 : decode method_2_code 80 = .ok (.iconst 2, 1) := by decide +kernel
theorem d2_81 : decode method_2_code 81 = .ok (.iload_n 3, 1) := by decide +kernel
theorem d2_82 : decode method_2_code 82 = .ok (.i2c, 1) := by decide +kernel
theorem d2_83 : decode method_2_code 83 = .ok (.castore, 1) := by decide +kernel
theorem d2_84 : decode method_2_code 84 = .ok (.invokespecial 9, 3) := by decide +kernel
theorem d2_87 : decode method_2_code 87 = .ok (.areturn, 1) := by decide +kernel
theorem pn_2 : plainName "com/example/inject2/inject2/xml/BeanFileReaderNonEmptyPinLaw" = true := by first | (simp [plainName, overriddenIn]; done) | decide +kernel
theorem pd2_0 : parseMethodDescriptor "([C)V" = some ⟨[(.array .char)], none⟩ := by decide +kernel
theorem ef_2 (m : MethodId) (x0 : Int32) (x1 : Int32) (x2 : Int32) (x3 : Int32) : entryFrame m #[(.int x0), (.int x1), (.int x2), (.int x3)] 4 = mkF m 0 #[.val (.int x0), .val (.int x1), .val (.int x2), .val (.int x3)] [] := by first | (simp [entryFrame, mkF, argsToLocals, Value.category]; done) | rfl
def Q2 (Z : State) (l' : Int32) (p1' : Int32) (p2' : Int32) (p3' : Int32) (cs' : Int32) (h0 : Heap) (n0 : Nat) (v : Option Value) (h : Heap) (L : List Loc) : Prop := ∃ (r y : Addr) (n c : Int32) (g : Nat → Int32), v = some (.ref r) ∧ Fr n0 L ∧ Keep h0 h [] ∧ n0 ≤ r ∧ h0.size ≤ r ∧ Exa Z h r "java/lang/String" ∧ Fld Z h r "java/lang/String" "value" "[B" (.ref y) ∧ Fld Z h r "java/lang/String" "coder" "B" (.int c) ∧ own_A Z h y .byte n g ∧ own_R n c
set_option maxRecDepth 65536 in
set_option maxHeartbeats 40000000 in
theorem rm2 (l : Launch) (Z : State) (a0 : Array Value) (hw : ∀ d ∈ tables_1, d.before a0 Z = true) (ws : List Jvm.Cond) (l' : Int32) (p1' : Int32) (p2' : Int32) (p3' : Int32) (cs' : Int32) (h0 : Heap) (n0 : Nat) (Z0 : n0 ≤ h0.size) (Od : Old Z n0 h0) (S_COMPACT_STRINGS : Sta Z Z.heap "java/lang/String" "COMPACT_STRINGS" "Z" (.int cs')) (S__assertionsDisabled : Sta Z Z.heap "java/lang/StringUTF16" "$assertionsDisabled" "Z" (.int (1 : Int32))) (S_HI_BYTE_SHIFT : Sta Z Z.heap "java/lang/StringUTF16" "HI_BYTE_SHIFT" "I" (.int (0 : Int32))) (S_LO_BYTE_SHIFT : Sta Z Z.heap "java/lang/StringUTF16" "LO_BYTE_SHIFT" "I" (.int (8 : Int32))) (hcs : ¬ cs' = (0 : Int32)) :
    MetFree l (⟨"com/example/inject2/inject2/xml/BeanFileReaderNonEmptyPinLaw", "make", "(IIII)Ljava/lang/String;"⟩ : MethodName) (head1 (Jvm.Cond.code (⟨"com/example/inject2/inject2/xml/BeanFileReaderNonEmptyPinLaw", "make", "(IIII)Ljava/lang/String;"⟩ : MethodName) method_2_code 4 (some (.object "java/lang/String")) :: ws) ({ frames := 6, cells := 4, slots := 16, locals := 88 } : Room)) (fun ar U => ar = #[(.int l'), (.int p1'), (.int p2'), (.int p3')] ∧ Z.Warmed39 U.vm ∧ U.heap = h0 ∧ CHv Z own_EL U.vm h0) (fun _ _ _ _ _ => True) (fun _ U o U' => ∃ v L, o = .returned v ∧ Q2 Z l' p1' p2' p3' cs' h0 n0 v U'.heap L ∧ ReturnedEndW U o U' L ({ frames := 6, cells := 4, slots := 16, locals := 88 } : Room).cells ({ frames := 6, cells := 4, slots := 16, locals := 88 } : Room).slots) := by
  refine MetFree.of_bodySF (plainFor_of_name pn_2) hisR ?_
  intro p e s m args below meth c s₁ Bd hml0 hP hK
  obtain ⟨rfl, hZ, hh, Ch⟩ := hP
  have hx := Bd.exec
  have hby := Bd.bytes
  have hml : c.maxLocals = 4 := hml0
  have hown : s.vm.findClass "com/example/inject2/inject2/xml/BeanFileReaderNonEmptyPinLaw" = some m.cls := findClass_of_methodNamed Bd.named
  have hnm := (name_of_methodNamed Bd.named Bd.method).1
  have X0 : Stand p l e ({ frames := 6, cells := 4, slots := 16, locals := 88 } : Room) (s.setVm s.vm) m #[(.int l'), (.int p1'), (.int p2'), (.int p3')] below meth c s₁ [] 0 0 := (Stand.of_body Bd : Stand p l e ({ frames := 6, cells := 4, slots := 16, locals := 88 } : Room) s m #[(.int l'), (.int p1'), (.int p2'), (.int p3')] below meth c s₁ [] 0 0)
  have e0 : s₁.heap = h0 := by rw [← hh, Bd.state]; rfl
  have N0 := Fr.nil n0
  have K0 : Keep h0 h0 [] := Keep.refl h0 _
  have pre0 : ∀ t, Steps p.tables e below (s₁.setTop (mkF m 0 #[.val (.int l'), .val (.int p1'), .val (.int p2'), .val (.int p3')] [])) t → Steps p.tables e below (s₁.setTop (entryFrame m #[(.int l'), (.int p1'), (.int p2'), (.int p3')] 4)) t := fun t k => castTop (ef_2 m l' p1' p2' p3') k
  have hS : s.Since s.vm s.heap.size := (State.WarmedH.refl s).since _
  have hk : s.heap.size ≤ h0.size := by rw [← hh]; exact Nat.le_refl _
  have pre1 : ∀ t, Steps p.tables e below (s₁.setTop (mkF m 1 #[.val (.int l'), .val (.int p1'), .val (.int p2'), .val (.int p3')] [(.int l')])) t → Steps p.tables e below (s₁.setTop (entryFrame m #[(.int l'), (.int p1'), (.int p2'), (.int p3')] 4)) t := by
    intro t kt
    refine pre0 t ?_
    show Steps p.tables e below (s₁.setTop (mkF m 0 #[.val (.int l'), .val (.int p1'), .val (.int p2'), .val (.int p3')] [])) _
    refine XS.iloadN X0.here hx rfl (hb hby d2_0) rfl ?_
    exact kt
  by_cases hc1_2 : l' = (0 : Int32)
  · obtain ⟨T3, h3, X3, e3, E3, A3, D3, -, st3⟩ := newO X0 hx hZ hown (hw _ (List.mem_of_getElem? (i := 8) rfl)) (hw _ (List.mem_of_getElem? (i := 9) rfl)) (hw _ (List.mem_of_getElem? (i := 10) rfl)) e0 (g := (mkF m 4 #[.val (.int l'), .val (.int p1'), .val (.int p2'), .val (.int p3')] [])) rfl (hb hby d2_4) (by decide) (by decide)
    obtain ⟨b3, g3⟩ : ∃ z, z = h0.size := ⟨_, rfl⟩
    rw [← g3] at A3 D3 st3
    have g_b3 : n0 ≤ b3 := Nat.le_trans Z0 (Nat.le_of_eq g3.symm)
    have sz_b3 : h0.size ≤ b3 := Nat.le_trans K0.1 (Nat.le_of_eq g3.symm)
    have Od := Od.ext E3
    have Ch := CHv.ext E3 Ch
    have Zs3 : n0 ≤ h3.size := Nat.le_trans Z0 E3.1
    have hk := Nat.le_trans hk E3.1
    have K3 : Keep h0 h3 [] := K0.ext E3
    have E_b3 := A3
    have F_coder_b3 : Fld Z h3 b3 "java/lang/String" "coder" "B" (.int (0 : Int32)) := D3 (Or.inr (hw _ (List.mem_of_getElem? (i := 35) rfl))) (ty := .byte) (by decide)
    have F_value_b3 : Fld Z h3 b3 "java/lang/String" "value" "[B" .null := D3 (Or.inr (hw _ (List.mem_of_getElem? (i := 37) rfl))) (ty := (.array .byte)) (by decide)
    obtain ⟨T4, h4, k4, X4, e4, E4, A4, st4⟩ := newP X3 hx hZ (hw _ (List.mem_of_getElem? (i := 11) rfl)) e3 (g := (mkF m 9 #[.val (.int l'), .val (.int p1'), .val (.int p2'), .val (.int p3')] [(.int (0 : Int32)), (.ref b3), (.ref b3)])) rfl (hb hby d2_9) rfl (by decide) (cap := 0) (by decide) (by decide) (by decide) (by decide)
    obtain ⟨b4, g4⟩ : ∃ z, z = h3.size := ⟨_, rfl⟩
    rw [← g4] at A4 st4
    have g_b4 : n0 ≤ b4 := Nat.le_trans Zs3 (Nat.le_of_eq g4.symm)
    have sz_b4 : h0.size ≤ b4 := Nat.le_trans K3.1 (Nat.le_of_eq g4.symm)
    have ne_b3_b4 : b3 ≠ b4 := Nat.ne_of_lt (Nat.lt_of_lt_of_le E_b3.lt (Nat.le_of_eq g4.symm))
    have Od := Od.ext E4
    have Ch := CHv.ext E4 Ch
    have E_b3 := E_b3.ext E4
    have F_coder_b3 := F_coder_b3.ext E4
    have F_value_b3 := F_value_b3.ext E4
    have Zs4 : n0 ≤ h4.size := Nat.le_trans Zs3 E4.1
    have hk := Nat.le_trans hk E4.1
    have K4 : Keep h0 h4 [] := K3.ext E4
    have V_b4 : own_A Z h4 b4 .char (0 : Int32) (fun _ => 0) := own_A.new A4 (by decide) rfl
    have pre6 : ∀ t, Steps p.tables e below (T4.setTop (mkF m 11 #[.val (.int l'), .val (.int p1'), .val (.int p2'), .val (.int p3')] [(.ref b4), (.ref b3), (.ref b3)])) t → Steps p.tables e below (s₁.setTop (entryFrame m #[(.int l'), (.int p1'), (.int p2'), (.int p3')] 4)) t := by
      intro t kt
      refine pre1 t ?_
      show Steps p.tables e below (s₁.setTop (mkF m 1 #[.val (.int l'), .val (.int p1'), .val (.int p2'), .val (.int p3')] [(.int l')])) _
      refine XS.ifNo X0.here hx rfl (hb hby d2_1) rfl ((if0 _ _).trans (teq hc1_2).2) ?_
      show Steps p.tables e below (s₁.setTop (mkF m 4 #[.val (.int l'), .val (.int p1'), .val (.int p2'), .val (.int p3')] [])) _
      refine st3 _ ?_
      show Steps p.tables e below (T3.setTop (mkF m 7 #[.val (.int l'), .val (.int p1'), .val (.int p2'), .val (.int p3')] [(.ref b3)])) _
      refine XS.dup X3.here hx rfl (hb hby d2_7) rfl rfl ?_
      show Steps p.tables e below (T3.setTop (mkF m 8 #[.val (.int l'), .val (.int p1'), .val (.int p2'), .val (.int p3')] [(.ref b3), (.ref b3)])) _
      refine XS.iconst X3.here hx rfl (hb hby d2_8) ?_
      show Steps p.tables e below (T3.setTop (mkF m 9 #[.val (.int l'), .val (.int p1'), .val (.int p2'), .val (.int p3')] [(.int (0 : Int32)), (.ref b3), (.ref b3)])) _
      refine st4 _ ?_
      exact kt
    obtain ⟨_, _, ⟨T5, L5, k5, n5⟩, -, X5, hSq5, hgr5, ⟨Lc5, hQ5, l5, y5, z5⟩, st5⟩ := X4.specialBackS hx (y := (⟨"java/lang/String", "<init>", "([C)V"⟩ : MethodName)) rfl hown (mvT hZ (hw _ (List.mem_of_getElem? (i := 12) rfl))) (mvT hZ (hw _ (List.mem_of_getElem? (i := 13) rfl))) (mvT hZ (hw _ (List.mem_of_getElem? (i := 14) rfl))) (by decide) (own_backH (W := 1) (rm3 l Z a0 hw [] b3 b4 cs' (0 : Int32) (fun _ => 0) h4 n0 Zs4 Od S_COMPACT_STRINGS S__assertionsDisabled S_HI_BYTE_SHIFT S_LO_BYTE_SHIFT hcs E_b3 F_value_b3 F_coder_b3 g_b3 V_b4 ⟨by decide, by decide⟩ (by intro i; (try simp only [own_upd]); (repeat' split) <;> first | exact own_ch _ | exact ⟨by decide, by decide⟩)) hZ (hw _ (List.mem_of_getElem? (i := 14) rfl)) (hw _ (List.mem_of_getElem? (i := 10) rfl)) (by decide) (by decide) (own_ew hw) Ch) (g := (mkF m 11 #[.val (.int l'), .val (.int p1'), .val (.int p2'), .val (.int p3')] [(.ref b4), (.ref b3), (.ref b3)])) rfl (by rw [hml]; rfl) (Steps.refl _) (a := b3) (argsL := [(.ref b4)]) (rest := [(.ref b3)]) (lenOf pd2_0 rfl) rfl (by show 2 * 0 + _ ≤ _; exact Nat.le_of_eq rfl) (hb hby d2_11) (fun _ _ => ⟨rfl, e4, (by decide : 2 + 2 ≤ _), (by decide : 4 + 9 ≤ _)⟩)
    dsimp only [Pt.U, Pt.locs, Pt.cells, Pt.slots] at X5 l5 y5 z5 st5 hQ5 hSq5 hgr5
    subst l5 y5 z5
    have X5 : Stand p l e _ (s.setVm T5.vm) m _ below meth c T5 _ _ _ := X5
    have hS := foldS hS (by rw [e4]; exact hk) hSq5 hgr5
    have hZ : Z.Warmed39 (s.setVm T5.vm).vm := State.Warmed39.trans hZ hSq5.1
    have hown : (s.setVm T5.vm).vm.findClass "com/example/inject2/inject2/xml/BeanFileReaderNonEmptyPinLaw" = some m.cls := by rw [show (s.setVm T5.vm).vm = T5.vm from rfl, hSq5.1.alike.findClass]; exact hown
    have hk : T5.heap.size ≤ T5.heap.size := Nat.le_refl _
    obtain ⟨rfl, N5q, Kq5, yq, nq, cq, gq, F_value_b3, F_coder_b3, V_yq, hRq⟩ := hQ5
    have N5 := Fr.app N0 N5q
    have Od := Od.keep Kq5 (allS g_b3 all0)
    have E_b3 := E_b3.keep Kq5
    have Zs5 : n0 ≤ T5.heap.size := Nat.le_trans Zs4 Kq5.1
    have K5 : Keep h0 T5.heap [] := K4.trans Kq5 (allS (Or.inr sz_b3) all0)
    obtain ⟨fs, hr, hrun, hended, hW⟩ := X5.leaveW hS (hk) (v := some (.ref b3)) (fun h => by rw [Bd.returns] at h; cases h)
    refine ⟨_, _, pre6 _ ?_, hrun, hended, _, _, rfl, ?_, hW.1, hW.2.1, hW.2.2.1, hW.2.2.2.mono (by decide) (by decide)⟩
    · show Steps p.tables e below (T4.setTop (mkF m 11 #[.val (.int l'), .val (.int p1'), .val (.int p2'), .val (.int p3')] [(.ref b4), (.ref b3), (.ref b3)])) _
      refine st5.trans ?_
      show Steps p.tables e below (T5.setTop (mkF m 14 #[.val (.int l'), .val (.int p1'), .val (.int p2'), .val (.int p3')] [(.ref b3)])) _
      exact retOut X5 hx Bd.returns rfl (Or.inr (Or.inr (Or.inr (Or.inr ⟨rfl, rfl, rfl⟩)))) (hb hby d2_14) hr
    · show Q2 Z l' p1' p2' p3' cs' h0 n0 _ T5.heap _
      exact ⟨b3, yq, nq, cq, gq, rfl, N5, K5, g_b3, sz_b3, E_b3, F_value_b3, F_coder_b3, V_yq, hRq⟩
  · have pre7 : ∀ t, Steps p.tables e below (s₁.setTop (mkF m 17 #[.val (.int l'), .val (.int p1'), .val (.int p2'), .val (.int p3')] [(.int (1 : Int32)), (.int l')])) t → Steps p.tables e below (s₁.setTop (entryFrame m #[(.int l'), (.int p1'), (.int p2'), (.int p3')] 4)) t := by
      intro t kt
      refine pre1 t ?_
      show Steps p.tables e below (s₁.setTop (mkF m 1 #[.val (.int l'), .val (.int p1'), .val (.int p2'), .val (.int p3')] [(.int l')])) _
      refine XS.ifYes X0.here hx rfl (pc0 := 1) (pc' := 15) rfl (hb hby d2_1) rfl ((if0 _ _).trans (feq hc1_2).2) (by decide) (by decide) ?_
      show Steps p.tables e below (s₁.setTop (mkF m 15 #[.val (.int l'), .val (.int p1'), .val (.int p2'), .val (.int p3')] [])) _
      refine XS.iloadN X0.here hx rfl (hb hby d2_15) rfl ?_
      show Steps p.tables e below (s₁.setTop (mkF m 16 #[.val (.int l'), .val (.int p1'), .val (.int p2'), .val (.int p3')] [(.int l')])) _
      refine XS.iconst X0.here hx rfl (hb hby d2_16) ?_
      exact kt
    by_cases hc17_8 : l' = (1 : Int32)
    · obtain ⟨T9, h9, X9, e9, E9, A9, D9, -, st9⟩ := newO X0 hx hZ hown (hw _ (List.mem_of_getElem? (i := 8) rfl)) (hw _ (List.mem_of_getElem? (i := 9) rfl)) (hw _ (List.mem_of_getElem? (i := 10) rfl)) e0 (g := (mkF m 20 #[.val (.int l'), .val (.int p1'), .val (.int p2'), .val (.int p3')] [])) rfl (hb hby d2_20) (by decide) (by decide)
      obtain ⟨b9, g9⟩ : ∃ z, z = h0.size := ⟨_, rfl⟩
      rw [← g9] at A9 D9 st9
      have g_b9 : n0 ≤ b9 := Nat.le_trans Z0 (Nat.le_of_eq g9.symm)
      have sz_b9 : h0.size ≤ b9 := Nat.le_trans K0.1 (Nat.le_of_eq g9.symm)
      have Od := Od.ext E9
      have Ch := CHv.ext E9 Ch
      have Zs9 : n0 ≤ h9.size := Nat.le_trans Z0 E9.1
      have hk := Nat.le_trans hk E9.1
      have K9 : Keep h0 h9 [] := K0.ext E9
      have E_b9 := A9
      have F_coder_b9 : Fld Z h9 b9 "java/lang/String" "coder" "B" (.int (0 : Int32)) := D9 (Or.inr (hw _ (List.mem_of_getElem? (i := 35) rfl))) (ty := .byte) (by decide)
      have F_value_b9 : Fld Z h9 b9 "java/lang/String" "value" "[B" .null := D9 (Or.inr (hw _ (List.mem_of_getElem? (i := 37) rfl))) (ty := (.array .byte)) (by decide)
      obtain ⟨T10, h10, k10, X10, e10, E10, A10, st10⟩ := newP X9 hx hZ (hw _ (List.mem_of_getElem? (i := 11) rfl)) e9 (g := (mkF m 25 #[.val (.int l'), .val (.int p1'), .val (.int p2'), .val (.int p3')] [(.int (1 : Int32)), (.ref b9), (.ref b9)])) rfl (hb hby d2_25) rfl (by decide) (cap := 1) (by decide) (by decide) (by decide) (by decide)
      obtain ⟨b10, g10⟩ : ∃ z, z = h9.size := ⟨_, rfl⟩
      rw [← g10] at A10 st10
      have g_b10 : n0 ≤ b10 := Nat.le_trans Zs9 (Nat.le_of_eq g10.symm)
      have sz_b10 : h0.size ≤ b10 := Nat.le_trans K9.1 (Nat.le_of_eq g10.symm)
      have ne_b9_b10 : b9 ≠ b10 := Nat.ne_of_lt (Nat.lt_of_lt_of_le E_b9.lt (Nat.le_of_eq g10.symm))
      have Od := Od.ext E10
      have Ch := CHv.ext E10 Ch
      have E_b9 := E_b9.ext E10
      have F_coder_b9 := F_coder_b9.ext E10
      have F_value_b9 := F_value_b9.ext E10
      have Zs10 : n0 ≤ h10.size := Nat.le_trans Zs9 E10.1
      have hk := Nat.le_trans hk E10.1
      have K10 : Keep h0 h10 [] := K9.ext E10
      have V_b10 : own_A Z h10 b10 .char (1 : Int32) (fun _ => 0) := own_A.new A10 (by decide) rfl
      obtain ⟨cl3111, Ar3111, S3111, M3111, H3111⟩ := V_b10
      have hin3111 : ¬ ((0 : Int32) < 0 ∨ cl3111.slots.size ≤ ((0 : Int32)).toNatClampNeg) := inb_of S3111 ⟨by decide, by decide⟩
      obtain ⟨T12, h12, X12, e12, W12, st12⟩ := stC X10 hx hZ e10 Ar3111 (j := (0 : Int32)) hin3111 (g := (mkF m 31 #[.val (.int l'), .val (.int p1'), .val (.int p2'), .val (.int p3')] [(.int (p1'.toUInt32.toUInt16.toUInt32.toInt32)), (.int (0 : Int32)), (.ref b10), (.ref b10), (.ref b9), (.ref b9)])) rfl rfl (hb hby d2_31)
      have Ch := CHv.wr W12 (Safe.arr hZ.alike Ar3111 (by decide)) Ch
      have Od := Od.wr W12 g_b10
      have E_b9 := E_b9.wr W12
      have F_coder_b9 := F_coder_b9.other W12 (Or.inl ne_b9_b10)
      have F_value_b9 := F_value_b9.other W12 (Or.inl ne_b9_b10)
      have Zs12 : n0 ≤ h12.size := Nat.le_trans Zs10 (Keep.of_wr W12).1
      have hk := Nat.le_trans hk (Keep.of_wr W12).1
      have K12 : Keep h0 h12 [] := K10.wr W12 (Or.inr sz_b10)
      have N12 := Fr.snoc X12 N0 g_b10
      have V_b10 : own_A Z h12 b10 .char (1 : Int32) (own_upd (fun _ => 0) ((0 : Int32)).toNatClampNeg (nar .char (p1'.toUInt32.toUInt16.toUInt32.toInt32))) := own_A.set Ar3111 S3111 M3111 H3111 W12
      have pre14 : ∀ t, Steps p.tables e below (T12.setTop (mkF m 32 #[.val (.int l'), .val (.int p1'), .val (.int p2'), .val (.int p3')] [(.ref b10), (.ref b9), (.ref b9)])) t → Steps p.tables e below (s₁.setTop (entryFrame m #[(.int l'), (.int p1'), (.int p2'), (.int p3')] 4)) t := by
        intro t kt
        refine pre7 t ?_
        show Steps p.tables e below (s₁.setTop (mkF m 17 #[.val (.int l'), .val (.int p1'), .val (.int p2'), .val (.int p3')] [(.int (1 : Int32)), (.int l')])) _
        refine XS.icmpNo X0.here hx rfl (hb hby d2_17) rfl (teq hc17_8).2 ?_
        show Steps p.tables e below (s₁.setTop (mkF m 20 #[.val (.int l'), .val (.int p1'), .val (.int p2'), .val (.int p3')] [])) _
        refine st9 _ ?_
        show Steps p.tables e below (T9.setTop (mkF m 23 #[.val (.int l'), .val (.int p1'), .val (.int p2'), .val (.int p3')] [(.ref b9)])) _
        refine XS.dup X9.here hx rfl (hb hby d2_23) rfl rfl ?_
        show Steps p.tables e below (T9.setTop (mkF m 24 #[.val (.int l'), .val (.int p1'), .val (.int p2'), .val (.int p3')] [(.ref b9), (.ref b9)])) _
        refine XS.iconst X9.here hx rfl (hb hby d2_24) ?_
        show Steps p.tables e below (T9.setTop (mkF m 25 #[.val (.int l'), .val (.int p1'), .val (.int p2'), .val (.int p3')] [(.int (1 : Int32)), (.ref b9), (.ref b9)])) _
        refine st10 _ ?_
        show Steps p.tables e below (T10.setTop (mkF m 27 #[.val (.int l'), .val (.int p1'), .val (.int p2'), .val (.int p3')] [(.ref b10), (.ref b9), (.ref b9)])) _
        refine XS.dup X10.here hx rfl (hb hby d2_27) rfl rfl ?_
        show Steps p.tables e below (T10.setTop (mkF m 28 #[.val (.int l'), .val (.int p1'), .val (.int p2'), .val (.int p3')] [(.ref b10), (.ref b10), (.ref b9), (.ref b9)])) _
        refine XS.iconst X10.here hx rfl (hb hby d2_28) ?_
        show Steps p.tables e below (T10.setTop (mkF m 29 #[.val (.int l'), .val (.int p1'), .val (.int p2'), .val (.int p3')] [(.int (0 : Int32)), (.ref b10), (.ref b10), (.ref b9), (.ref b9)])) _
        refine XS.iloadN X10.here hx rfl (hb hby d2_29) rfl ?_
        show Steps p.tables e below (T10.setTop (mkF m 30 #[.val (.int l'), .val (.int p1'), .val (.int p2'), .val (.int p3')] [(.int p1'), (.int (0 : Int32)), (.ref b10), (.ref b10), (.ref b9), (.ref b9)])) _
        refine XS.i2c X10.here hx rfl (hb hby d2_30) rfl ?_
        show Steps p.tables e below (T10.setTop (mkF m 31 #[.val (.int l'), .val (.int p1'), .val (.int p2'), .val (.int p3')] [(.int (p1'.toUInt32.toUInt16.toUInt32.toInt32)), (.int (0 : Int32)), (.ref b10), (.ref b10), (.ref b9), (.ref b9)])) _
        refine st12 _ ?_
        exact kt
      obtain ⟨_, _, ⟨T13, L13, k13, n13⟩, -, X13, hSq13, hgr13, ⟨Lc13, hQ13, l13, y13, z13⟩, st13⟩ := X12.specialBackS hx (y := (⟨"java/lang/String", "<init>", "([C)V"⟩ : MethodName)) rfl hown (mvT hZ (hw _ (List.mem_of_getElem? (i := 12) rfl))) (mvT hZ (hw _ (List.mem_of_getElem? (i := 13) rfl))) (mvT hZ (hw _ (List.mem_of_getElem? (i := 14) rfl))) (by decide) (own_backH (W := 1) (rm3 l Z a0 hw [] b9 b10 cs' (1 : Int32) (own_upd (fun _ => 0) ((0 : Int32)).toNatClampNeg (nar .char (p1'.toUInt32.toUInt16.toUInt32.toInt32))) h12 n0 Zs12 Od S_COMPACT_STRINGS S__assertionsDisabled S_HI_BYTE_SHIFT S_LO_BYTE_SHIFT hcs E_b9 F_value_b9 F_coder_b9 g_b9 V_b10 ⟨by decide, by decide⟩ (by intro i; (try simp only [own_upd]); (repeat' split) <;> first | exact own_ch _ | exact ⟨by decide, by decide⟩)) hZ (hw _ (List.mem_of_getElem? (i := 14) rfl)) (hw _ (List.mem_of_getElem? (i := 10) rfl)) (by decide) (by decide) (own_ew hw) Ch) (g := (mkF m 32 #[.val (.int l'), .val (.int p1'), .val (.int p2'), .val (.int p3')] [(.ref b10), (.ref b9), (.ref b9)])) rfl (by rw [hml]; rfl) (Steps.refl _) (a := b9) (argsL := [(.ref b10)]) (rest := [(.ref b9)]) (lenOf pd2_0 rfl) rfl (by show 2 * 0 + _ ≤ _; exact Nat.le_of_eq rfl) (hb hby d2_32) (fun _ _ => ⟨rfl, e12, (by decide : 2 + 2 ≤ _), (by decide : 5 + 9 ≤ _)⟩)
      dsimp only [Pt.U, Pt.locs, Pt.cells, Pt.slots] at X13 l13 y13 z13 st13 hQ13 hSq13 hgr13
      subst l13 y13 z13
      have X13 : Stand p l e _ (s.setVm T13.vm) m _ below meth c T13 _ _ _ := X13
      have hS := foldS hS (by rw [e12]; exact hk) hSq13 hgr13
      have hZ : Z.Warmed39 (s.setVm T13.vm).vm := State.Warmed39.trans hZ hSq13.1
      have hown : (s.setVm T13.vm).vm.findClass "com/example/inject2/inject2/xml/BeanFileReaderNonEmptyPinLaw" = some m.cls := by rw [show (s.setVm T13.vm).vm = T13.vm from rfl, hSq13.1.alike.findClass]; exact hown
      have hk : T13.heap.size ≤ T13.heap.size := Nat.le_refl _
      obtain ⟨rfl, N13q, Kq13, yq, nq, cq, gq, F_value_b9, F_coder_b9, V_yq, hRq⟩ := hQ13
      have N13 := Fr.app N12 N13q
      have Od := Od.keep Kq13 (allS g_b9 all0)
      have E_b9 := E_b9.keep Kq13
      have Zs13 : n0 ≤ T13.heap.size := Nat.le_trans Zs12 Kq13.1
      have K13 : Keep h0 T13.heap [] := K12.trans Kq13 (allS (Or.inr sz_b9) all0)
      obtain ⟨fs, hr, hrun, hended, hW⟩ := X13.leaveW hS (hk) (v := some (.ref b9)) (fun h => by rw [Bd.returns] at h; cases h)
      refine ⟨_, _, pre14 _ ?_, hrun, hended, _, _, rfl, ?_, hW.1, hW.2.1, hW.2.2.1, hW.2.2.2.mono (by decide) (by decide)⟩
      · show Steps p.tables e below (T12.setTop (mkF m 32 #[.val (.int l'), .val (.int p1'), .val (.int p2'), .val (.int p3')] [(.ref b10), (.ref b9), (.ref b9)])) _
        refine st13.trans ?_
        show Steps p.tables e below (T13.setTop (mkF m 35 #[.val (.int l'), .val (.int p1'), .val (.int p2'), .val (.int p3')] [(.ref b9)])) _
        exact retOut X13 hx Bd.returns rfl (Or.inr (Or.inr (Or.inr (Or.inr ⟨rfl, rfl, rfl⟩)))) (hb hby d2_35) hr
      · show Q2 Z l' p1' p2' p3' cs' h0 n0 _ T13.heap _
        exact ⟨b9, yq, nq, cq, gq, rfl, N13, K13, g_b9, sz_b9, E_b9, F_value_b9, F_coder_b9, V_yq, hRq⟩
    · have pre15 : ∀ t, Steps p.tables e below (s₁.setTop (mkF m 38 #[.val (.int l'), .val (.int p1'), .val (.int p2'), .val (.int p3')] [(.int (2 : Int32)), (.int l')])) t → Steps p.tables e below (s₁.setTop (entryFrame m #[(.int l'), (.int p1'), (.int p2'), (.int p3')] 4)) t := by
        intro t kt
        refine pre7 t ?_
        show Steps p.tables e below (s₁.setTop (mkF m 17 #[.val (.int l'), .val (.int p1'), .val (.int p2'), .val (.int p3')] [(.int (1 : Int32)), (.int l')])) _
        refine XS.icmpYes X0.here hx rfl (pc0 := 17) (pc' := 36) rfl (hb hby d2_17) rfl (feq hc17_8).2 (by decide) (by decide) ?_
        show Steps p.tables e below (s₁.setTop (mkF m 36 #[.val (.int l'), .val (.int p1'), .val (.int p2'), .val (.int p3')] [])) _
        refine XS.iloadN X0.here hx rfl (hb hby d2_36) rfl ?_
        show Steps p.tables e below (s₁.setTop (mkF m 37 #[.val (.int l'), .val (.int p1'), .val (.int p2'), .val (.int p3')] [(.int l')])) _
        refine XS.iconst X0.here hx rfl (hb hby d2_37) ?_
        exact kt
      by_cases hc38_16 : l' = (2 : Int32)
      · obtain ⟨T17, h17, X17, e17, E17, A17, D17, -, st17⟩ := newO X0 hx hZ hown (hw _ (List.mem_of_getElem? (i := 8) rfl)) (hw _ (List.mem_of_getElem? (i := 9) rfl)) (hw _ (List.mem_of_getElem? (i := 10) rfl)) e0 (g := (mkF m 41 #[.val (.int l'), .val (.int p1'), .val (.int p2'), .val (.int p3')] [])) rfl (hb hby d2_41) (by decide) (by decide)
        obtain ⟨b17, g17⟩ : ∃ z, z = h0.size := ⟨_, rfl⟩
        rw [← g17] at A17 D17 st17
        have g_b17 : n0 ≤ b17 := Nat.le_trans Z0 (Nat.le_of_eq g17.symm)
        have sz_b17 : h0.size ≤ b17 := Nat.le_trans K0.1 (Nat.le_of_eq g17.symm)
        have Od := Od.ext E17
        have Ch := CHv.ext E17 Ch
        have Zs17 : n0 ≤ h17.size := Nat.le_trans Z0 E17.1
        have hk := Nat.le_trans hk E17.1
        have K17 : Keep h0 h17 [] := K0.ext E17
        have E_b17 := A17
        have F_coder_b17 : Fld Z h17 b17 "java/lang/String" "coder" "B" (.int (0 : Int32)) := D17 (Or.inr (hw _ (List.mem_of_getElem? (i := 35) rfl))) (ty := .byte) (by decide)
        have F_value_b17 : Fld Z h17 b17 "java/lang/String" "value" "[B" .null := D17 (Or.inr (hw _ (List.mem_of_getElem? (i := 37) rfl))) (ty := (.array .byte)) (by decide)
        obtain ⟨T18, h18, k18, X18, e18, E18, A18, st18⟩ := newP X17 hx hZ (hw _ (List.mem_of_getElem? (i := 11) rfl)) e17 (g := (mkF m 46 #[.val (.int l'), .val (.int p1'), .val (.int p2'), .val (.int p3')] [(.int (2 : Int32)), (.ref b17), (.ref b17)])) rfl (hb hby d2_46) rfl (by decide) (cap := 2) (by decide) (by decide) (by decide) (by decide)
        obtain ⟨b18, g18⟩ : ∃ z, z = h17.size := ⟨_, rfl⟩
        rw [← g18] at A18 st18
        have g_b18 : n0 ≤ b18 := Nat.le_trans Zs17 (Nat.le_of_eq g18.symm)
        have sz_b18 : h0.size ≤ b18 := Nat.le_trans K17.1 (Nat.le_of_eq g18.symm)
        have ne_b17_b18 : b17 ≠ b18 := Nat.ne_of_lt (Nat.lt_of_lt_of_le E_b17.lt (Nat.le_of_eq g18.symm))
        have Od := Od.ext E18
        have Ch := CHv.ext E18 Ch
        have E_b17 := E_b17.ext E18
        have F_coder_b17 := F_coder_b17.ext E18
        have F_value_b17 := F_value_b17.ext E18
        have Zs18 : n0 ≤ h18.size := Nat.le_trans Zs17 E18.1
        have hk := Nat.le_trans hk E18.1
        have K18 : Keep h0 h18 [] := K17.ext E18
        have V_b18 : own_A Z h18 b18 .char (2 : Int32) (fun _ => 0) := own_A.new A18 (by decide) rfl
        obtain ⟨cl5219, Ar5219, S5219, M5219, H5219⟩ := V_b18
        have hin5219 : ¬ ((0 : Int32) < 0 ∨ cl5219.slots.size ≤ ((0 : Int32)).toNatClampNeg) := inb_of S5219 ⟨by decide, by decide⟩
        obtain ⟨T20, h20, X20, e20, W20, st20⟩ := stC X18 hx hZ e18 Ar5219 (j := (0 : Int32)) hin5219 (g := (mkF m 52 #[.val (.int l'), .val (.int p1'), .val (.int p2'), .val (.int p3')] [(.int (p1'.toUInt32.toUInt16.toUInt32.toInt32)), (.int (0 : Int32)), (.ref b18), (.ref b18), (.ref b17), (.ref b17)])) rfl rfl (hb hby d2_52)
        have Ch := CHv.wr W20 (Safe.arr hZ.alike Ar5219 (by decide)) Ch
        have Od := Od.wr W20 g_b18
        have E_b17 := E_b17.wr W20
        have F_coder_b17 := F_coder_b17.other W20 (Or.inl ne_b17_b18)
        have F_value_b17 := F_value_b17.other W20 (Or.inl ne_b17_b18)
        have Zs20 : n0 ≤ h20.size := Nat.le_trans Zs18 (Keep.of_wr W20).1
        have hk := Nat.le_trans hk (Keep.of_wr W20).1
        have K20 : Keep h0 h20 [] := K18.wr W20 (Or.inr sz_b18)
        have N20 := Fr.snoc X20 N0 g_b18
        have V_b18 : own_A Z h20 b18 .char (2 : Int32) (own_upd (fun _ => 0) ((0 : Int32)).toNatClampNeg (nar .char (p1'.toUInt32.toUInt16.toUInt32.toInt32))) := own_A.set Ar5219 S5219 M5219 H5219 W20
        obtain ⟨cl5721, Ar5721, S5721, M5721, H5721⟩ := V_b18
        have hin5721 : ¬ ((1 : Int32) < 0 ∨ cl5721.slots.size ≤ ((1 : Int32)).toNatClampNeg) := inb_of S5721 ⟨by decide, by decide⟩
        obtain ⟨T22, h22, X22, e22, W22, st22⟩ := stC X20 hx hZ e20 Ar5721 (j := (1 : Int32)) hin5721 (g := (mkF m 57 #[.val (.int l'), .val (.int p1'), .val (.int p2'), .val (.int p3')] [(.int (p2'.toUInt32.toUInt16.toUInt32.toInt32)), (.int (1 : Int32)), (.ref b18), (.ref b18), (.ref b17), (.ref b17)])) rfl rfl (hb hby d2_57)
        have Ch := CHv.wr W22 (Safe.arr hZ.alike Ar5721 (by decide)) Ch
        have Od := Od.wr W22 g_b18
        have E_b17 := E_b17.wr W22
        have F_coder_b17 := F_coder_b17.other W22 (Or.inl ne_b17_b18)
        have F_value_b17 := F_value_b17.other W22 (Or.inl ne_b17_b18)
        have Zs22 : n0 ≤ h22.size := Nat.le_trans Zs20 (Keep.of_wr W22).1
        have hk := Nat.le_trans hk (Keep.of_wr W22).1
        have K22 : Keep h0 h22 [] := K20.wr W22 (Or.inr sz_b18)
        have N22 := Fr.snoc X22 N20 g_b18
        have V_b18 : own_A Z h22 b18 .char (2 : Int32) (own_upd (own_upd (fun _ => 0) ((0 : Int32)).toNatClampNeg (nar .char (p1'.toUInt32.toUInt16.toUInt32.toInt32))) ((1 : Int32)).toNatClampNeg (nar .char (p2'.toUInt32.toUInt16.toUInt32.toInt32))) := own_A.set Ar5721 S5721 M5721 H5721 W22
        have pre24 : ∀ t, Steps p.tables e below (T22.setTop (mkF m 58 #[.val (.int l'), .val (.int p1'), .val (.int p2'), .val (.int p3')] [(.ref b18), (.ref b17), (.ref b17)])) t → Steps p.tables e below (s₁.setTop (entryFrame m #[(.int l'), (.int p1'), (.int p2'), (.int p3')] 4)) t := by
          intro t kt
          refine pre15 t ?_
          show Steps p.tables e below (s₁.setTop (mkF m 38 #[.val (.int l'), .val (.int p1'), .val (.int p2'), .val (.int p3')] [(.int (2 : Int32)), (.int l')])) _
          refine XS.icmpNo X0.here hx rfl (hb hby d2_38) rfl (teq hc38_16).2 ?_
          show Steps p.tables e below (s₁.setTop (mkF m 41 #[.val (.int l'), .val (.int p1'), .val (.int p2'), .val (.int p3')] [])) _
          refine st17 _ ?_
          show Steps p.tables e below (T17.setTop (mkF m 44 #[.val (.int l'), .val (.int p1'), .val (.int p2'), .val (.int p3')] [(.ref b17)])) _
          refine XS.dup X17.here hx rfl (hb hby d2_44) rfl rfl ?_
          show Steps p.tables e below (T17.setTop (mkF m 45 #[.val (.int l'), .val (.int p1'), .val (.int p2'), .val (.int p3')] [(.ref b17), (.ref b17)])) _
          refine XS.iconst X17.here hx rfl (hb hby d2_45) ?_
          show Steps p.tables e below (T17.setTop (mkF m 46 #[.val (.int l'), .val (.int p1'), .val (.int p2'), .val (.int p3')] [(.int (2 : Int32)), (.ref b17), (.ref b17)])) _
          refine st18 _ ?_
          show Steps p.tables e below (T18.setTop (mkF m 48 #[.val (.int l'), .val (.int p1'), .val (.int p2'), .val (.int p3')] [(.ref b18), (.ref b17), (.ref b17)])) _
          refine XS.dup X18.here hx rfl (hb hby d2_48) rfl rfl ?_
          show Steps p.tables e below (T18.setTop (mkF m 49 #[.val (.int l'), .val (.int p1'), .val (.int p2'), .val (.int p3')] [(.ref b18), (.ref b18), (.ref b17), (.ref b17)])) _
          refine XS.iconst X18.here hx rfl (hb hby d2_49) ?_
          show Steps p.tables e below (T18.setTop (mkF m 50 #[.val (.int l'), .val (.int p1'), .val (.int p2'), .val (.int p3')] [(.int (0 : Int32)), (.ref b18), (.ref b18), (.ref b17), (.ref b17)])) _
          refine XS.iloadN X18.here hx rfl (hb hby d2_50) rfl ?_
          show Steps p.tables e below (T18.setTop (mkF m 51 #[.val (.int l'), .val (.int p1'), .val (.int p2'), .val (.int p3')] [(.int p1'), (.int (0 : Int32)), (.ref b18), (.ref b18), (.ref b17), (.ref b17)])) _
          refine XS.i2c X18.here hx rfl (hb hby d2_51) rfl ?_
          show Steps p.tables e below (T18.setTop (mkF m 52 #[.val (.int l'), .val (.int p1'), .val (.int p2'), .val (.int p3')] [(.int (p1'.toUInt32.toUInt16.toUInt32.toInt32)), (.int (0 : Int32)), (.ref b18), (.ref b18), (.ref b17), (.ref b17)])) _
          refine st20 _ ?_
          show Steps p.tables e below (T20.setTop (mkF m 53 #[.val (.int l'), .val (.int p1'), .val (.int p2'), .val (.int p3')] [(.ref b18), (.ref b17), (.ref b17)])) _
          refine XS.dup X20.here hx rfl (hb hby d2_53) rfl rfl ?_
          show Steps p.tables e below (T20.setTop (mkF m 54 #[.val (.int l'), .val (.int p1'), .val (.int p2'), .val (.int p3')] [(.ref b18), (.ref b18), (.ref b17), (.ref b17)])) _
          refine XS.iconst X20.here hx rfl (hb hby d2_54) ?_
          show Steps p.tables e below (T20.setTop (mkF m 55 #[.val (.int l'), .val (.int p1'), .val (.int p2'), .val (.int p3')] [(.int (1 : Int32)), (.ref b18), (.ref b18), (.ref b17), (.ref b17)])) _
          refine XS.iloadN X20.here hx rfl (hb hby d2_55) rfl ?_
          show Steps p.tables e below (T20.setTop (mkF m 56 #[.val (.int l'), .val (.int p1'), .val (.int p2'), .val (.int p3')] [(.int p2'), (.int (1 : Int32)), (.ref b18), (.ref b18), (.ref b17), (.ref b17)])) _
          refine XS.i2c X20.here hx rfl (hb hby d2_56) rfl ?_
          show Steps p.tables e below (T20.setTop (mkF m 57 #[.val (.int l'), .val (.int p1'), .val (.int p2'), .val (.int p3')] [(.int (p2'.toUInt32.toUInt16.toUInt32.toInt32)), (.int (1 : Int32)), (.ref b18), (.ref b18), (.ref b17), (.ref b17)])) _
          refine st22 _ ?_
          exact kt
        obtain ⟨_, _, ⟨T23, L23, k23, n23⟩, -, X23, hSq23, hgr23, ⟨Lc23, hQ23, l23, y23, z23⟩, st23⟩ := X22.specialBackS hx (y := (⟨"java/lang/String", "<init>", "([C)V"⟩ : MethodName)) rfl hown (mvT hZ (hw _ (List.mem_of_getElem? (i := 12) rfl))) (mvT hZ (hw _ (List.mem_of_getElem? (i := 13) rfl))) (mvT hZ (hw _ (List.mem_of_getElem? (i := 14) rfl))) (by decide) (own_backH (W := 1) (rm3 l Z a0 hw [] b17 b18 cs' (2 : Int32) (own_upd (own_upd (fun _ => 0) ((0 : Int32)).toNatClampNeg (nar .char (p1'.toUInt32.toUInt16.toUInt32.toInt32))) ((1 : Int32)).toNatClampNeg (nar .char (p2'.toUInt32.toUInt16.toUInt32.toInt32))) h22 n0 Zs22 Od S_COMPACT_STRINGS S__assertionsDisabled S_HI_BYTE_SHIFT S_LO_BYTE_SHIFT hcs E_b17 F_value_b17 F_coder_b17 g_b17 V_b18 ⟨by decide, by decide⟩ (by intro i; (try simp only [own_upd]); (repeat' split) <;> first | exact own_ch _ | exact ⟨by decide, by decide⟩)) hZ (hw _ (List.mem_of_getElem? (i := 14) rfl)) (hw _ (List.mem_of_getElem? (i := 10) rfl)) (by decide) (by decide) (own_ew hw) Ch) (g := (mkF m 58 #[.val (.int l'), .val (.int p1'), .val (.int p2'), .val (.int p3')] [(.ref b18), (.ref b17), (.ref b17)])) rfl (by rw [hml]; rfl) (Steps.refl _) (a := b17) (argsL := [(.ref b18)]) (rest := [(.ref b17)]) (lenOf pd2_0 rfl) rfl (by show 2 * 0 + _ ≤ _; exact Nat.le_of_eq rfl) (hb hby d2_58) (fun _ _ => ⟨rfl, e22, (by decide : 2 + 2 ≤ _), (by decide : 6 + 9 ≤ _)⟩)
        dsimp only [Pt.U, Pt.locs, Pt.cells, Pt.slots] at X23 l23 y23 z23 st23 hQ23 hSq23 hgr23
        subst l23 y23 z23
        have X23 : Stand p l e _ (s.setVm T23.vm) m _ below meth c T23 _ _ _ := X23
        have hS := foldS hS (by rw [e22]; exact hk) hSq23 hgr23
        have hZ : Z.Warmed39 (s.setVm T23.vm).vm := State.Warmed39.trans hZ hSq23.1
        have hown : (s.setVm T23.vm).vm.findClass "com/example/inject2/inject2/xml/BeanFileReaderNonEmptyPinLaw" = some m.cls := by rw [show (s.setVm T23.vm).vm = T23.vm from rfl, hSq23.1.alike.findClass]; exact hown
        have hk : T23.heap.size ≤ T23.heap.size := Nat.le_refl _
        obtain ⟨rfl, N23q, Kq23, yq, nq, cq, gq, F_value_b17, F_coder_b17, V_yq, hRq⟩ := hQ23
        have N23 := Fr.app N22 N23q
        have Od := Od.keep Kq23 (allS g_b17 all0)
        have E_b17 := E_b17.keep Kq23
        have Zs23 : n0 ≤ T23.heap.size := Nat.le_trans Zs22 Kq23.1
        have K23 : Keep h0 T23.heap [] := K22.trans Kq23 (allS (Or.inr sz_b17) all0)
        obtain ⟨fs, hr, hrun, hended, hW⟩ := X23.leaveW hS (hk) (v := some (.ref b17)) (fun h => by rw [Bd.returns] at h; cases h)
        refine ⟨_, _, pre24 _ ?_, hrun, hended, _, _, rfl, ?_, hW.1, hW.2.1, hW.2.2.1, hW.2.2.2.mono (by decide) (by decide)⟩
        · show Steps p.tables e below (T22.setTop (mkF m 58 #[.val (.int l'), .val (.int p1'), .val (.int p2'), .val (.int p3')] [(.ref b18), (.ref b17), (.ref b17)])) _
          refine st23.trans ?_
          show Steps p.tables e below (T23.setTop (mkF m 61 #[.val (.int l'), .val (.int p1'), .val (.int p2'), .val (.int p3')] [(.ref b17)])) _
          exact retOut X23 hx Bd.returns rfl (Or.inr (Or.inr (Or.inr (Or.inr ⟨rfl, rfl, rfl⟩)))) (hb hby d2_61) hr
        · show Q2 Z l' p1' p2' p3' cs' h0 n0 _ T23.heap _
          exact ⟨b17, yq, nq, cq, gq, rfl, N23, K23, g_b17, sz_b17, E_b17, F_value_b17, F_coder_b17, V_yq, hRq⟩
      · obtain ⟨T25, h25, X25, e25, E25, A25, D25, -, st25⟩ := newO X0 hx hZ hown (hw _ (List.mem_of_getElem? (i := 8) rfl)) (hw _ (List.mem_of_getElem? (i := 9) rfl)) (hw _ (List.mem_of_getElem? (i := 10) rfl)) e0 (g := (mkF m 62 #[.val (.int l'), .val (.int p1'), .val (.int p2'), .val (.int p3')] [])) rfl (hb hby d2_62) (by decide) (by decide)
        obtain ⟨b25, g25⟩ : ∃ z, z = h0.size := ⟨_, rfl⟩
        rw [← g25] at A25 D25 st25
        have g_b25 : n0 ≤ b25 := Nat.le_trans Z0 (Nat.le_of_eq g25.symm)
        have sz_b25 : h0.size ≤ b25 := Nat.le_trans K0.1 (Nat.le_of_eq g25.symm)
        have Od := Od.ext E25
        have Ch := CHv.ext E25 Ch
        have Zs25 : n0 ≤ h25.size := Nat.le_trans Z0 E25.1
        have hk := Nat.le_trans hk E25.1
        have K25 : Keep h0 h25 [] := K0.ext E25
        have E_b25 := A25
        have F_coder_b25 : Fld Z h25 b25 "java/lang/String" "coder" "B" (.int (0 : Int32)) := D25 (Or.inr (hw _ (List.mem_of_getElem? (i := 35) rfl))) (ty := .byte) (by decide)
        have F_value_b25 : Fld Z h25 b25 "java/lang/String" "value" "[B" .null := D25 (Or.inr (hw _ (List.mem_of_getElem? (i := 37) rfl))) (ty := (.array .byte)) (by decide)
        obtain ⟨T26, h26, k26, X26, e26, E26, A26, st26⟩ := newP X25 hx hZ (hw _ (List.mem_of_getElem? (i := 11) rfl)) e25 (g := (mkF m 67 #[.val (.int l'), .val (.int p1'), .val (.int p2'), .val (.int p3')] [(.int (3 : Int32)), (.ref b25), (.ref b25)])) rfl (hb hby d2_67) rfl (by decide) (cap := 3) (by decide) (by decide) (by decide) (by decide)
        obtain ⟨b26, g26⟩ : ∃ z, z = h25.size := ⟨_, rfl⟩
        rw [← g26] at A26 st26
        have g_b26 : n0 ≤ b26 := Nat.le_trans Zs25 (Nat.le_of_eq g26.symm)
        have sz_b26 : h0.size ≤ b26 := Nat.le_trans K25.1 (Nat.le_of_eq g26.symm)
        have ne_b25_b26 : b25 ≠ b26 := Nat.ne_of_lt (Nat.lt_of_lt_of_le E_b25.lt (Nat.le_of_eq g26.symm))
        have Od := Od.ext E26
        have Ch := CHv.ext E26 Ch
        have E_b25 := E_b25.ext E26
        have F_coder_b25 := F_coder_b25.ext E26
        have F_value_b25 := F_value_b25.ext E26
        have Zs26 : n0 ≤ h26.size := Nat.le_trans Zs25 E26.1
        have hk := Nat.le_trans hk E26.1
        have K26 : Keep h0 h26 [] := K25.ext E26
        have V_b26 : own_A Z h26 b26 .char (3 : Int32) (fun _ => 0) := own_A.new A26 (by decide) rfl
        obtain ⟨cl7327, Ar7327, S7327, M7327, H7327⟩ := V_b26
        have hin7327 : ¬ ((0 : Int32) < 0 ∨ cl7327.slots.size ≤ ((0 : Int32)).toNatClampNeg) := inb_of S7327 ⟨by decide, by decide⟩
        obtain ⟨T28, h28, X28, e28, W28, st28⟩ := stC X26 hx hZ e26 Ar7327 (j := (0 : Int32)) hin7327 (g := (mkF m 73 #[.val (.int l'), .val (.int p1'), .val (.int p2'), .val (.int p3')] [(.int (p1'.toUInt32.toUInt16.toUInt32.toInt32)), (.int (0 : Int32)), (.ref b26), (.ref b26), (.ref b25), (.ref b25)])) rfl rfl (hb hby d2_73)
        have Ch := CHv.wr W28 (Safe.arr hZ.alike Ar7327 (by decide)) Ch
        have Od := Od.wr W28 g_b26
        have E_b25 := E_b25.wr W28
        have F_coder_b25 := F_coder_b25.other W28 (Or.inl ne_b25_b26)
        have F_value_b25 := F_value_b25.other W28 (Or.inl ne_b25_b26)
        have Zs28 : n0 ≤ h28.size := Nat.le_trans Zs26 (Keep.of_wr W28).1
        have hk := Nat.le_trans hk (Keep.of_wr W28).1
        have K28 : Keep h0 h28 [] := K26.wr W28 (Or.inr sz_b26)
        have N28 := Fr.snoc X28 N0 g_b26
        have V_b26 : own_A Z h28 b26 .char (3 : Int32) (own_upd (fun _ => 0) ((0 : Int32)).toNatClampNeg (nar .char (p1'.toUInt32.toUInt16.toUInt32.toInt32))) := own_A.set Ar7327 S7327 M7327 H7327 W28
        obtain ⟨cl7829, Ar7829, S7829, M7829, H7829⟩ := V_b26
        have hin7829 : ¬ ((1 : Int32) < 0 ∨ cl7829.slots.size ≤ ((1 : Int32)).toNatClampNeg) := inb_of S7829 ⟨by decide, by decide⟩
        obtain ⟨T30, h30, X30, e30, W30, st30⟩ := stC X28 hx hZ e28 Ar7829 (j := (1 : Int32)) hin7829 (g := (mkF m 78 #[.val (.int l'), .val (.int p1'), .val (.int p2'), .val (.int p3')] [(.int (p2'.toUInt32.toUInt16.toUInt32.toInt32)), (.int (1 : Int32)), (.ref b26), (.ref b26), (.ref b25), (.ref b25)])) rfl rfl (hb hby d2_78)
        have Ch := CHv.wr W30 (Safe.arr hZ.alike Ar7829 (by decide)) Ch
        have Od := Od.wr W30 g_b26
        have E_b25 := E_b25.wr W30
        have F_coder_b25 := F_coder_b25.other W30 (Or.inl ne_b25_b26)
        have F_value_b25 := F_value_b25.other W30 (Or.inl ne_b25_b26)
        have Zs30 : n0 ≤ h30.size := Nat.le_trans Zs28 (Keep.of_wr W30).1
        have hk := Nat.le_trans hk (Keep.of_wr W30).1
        have K30 : Keep h0 h30 [] := K28.wr W30 (Or.inr sz_b26)
        have N30 := Fr.snoc X30 N28 g_b26
        have V_b26 : own_A Z h30 b26 .char (3 : Int32) (own_upd (own_upd (fun _ => 0) ((0 : Int32)).toNatClampNeg (nar .char (p1'.toUInt32.toUInt16.toUInt32.toInt32))) ((1 : Int32)).toNatClampNeg (nar .char (p2'.toUInt32.toUInt16.toUInt32.toInt32))) := own_A.set Ar7829 S7829 M7829 H7829 W30
        obtain ⟨cl8331, Ar8331, S8331, M8331, H8331⟩ := V_b26
        have hin8331 : ¬ ((2 : Int32) < 0 ∨ cl8331.slots.size ≤ ((2 : Int32)).toNatClampNeg) := inb_of S8331 ⟨by decide, by decide⟩
        obtain ⟨T32, h32, X32, e32, W32, st32⟩ := stC X30 hx hZ e30 Ar8331 (j := (2 : Int32)) hin8331 (g := (mkF m 83 #[.val (.int l'), .val (.int p1'), .val (.int p2'), .val (.int p3')] [(.int (p3'.toUInt32.toUInt16.toUInt32.toInt32)), (.int (2 : Int32)), (.ref b26), (.ref b26), (.ref b25), (.ref b25)])) rfl rfl (hb hby d2_83)
        have Ch := CHv.wr W32 (Safe.arr hZ.alike Ar8331 (by decide)) Ch
        have Od := Od.wr W32 g_b26
        have E_b25 := E_b25.wr W32
        have F_coder_b25 := F_coder_b25.other W32 (Or.inl ne_b25_b26)
        have F_value_b25 := F_value_b25.other W32 (Or.inl ne_b25_b26)
        have Zs32 : n0 ≤ h32.size := Nat.le_trans Zs30 (Keep.of_wr W32).1
        have hk := Nat.le_trans hk (Keep.of_wr W32).1
        have K32 : Keep h0 h32 [] := K30.wr W32 (Or.inr sz_b26)
        have N32 := Fr.snoc X32 N30 g_b26
        have V_b26 : own_A Z h32 b26 .char (3 : Int32) (own_upd (own_upd (own_upd (fun _ => 0) ((0 : Int32)).toNatClampNeg (nar .char (p1'.toUInt32.toUInt16.toUInt32.toInt32))) ((1 : Int32)).toNatClampNeg (nar .char (p2'.toUInt32.toUInt16.toUInt32.toInt32))) ((2 : Int32)).toNatClampNeg (nar .char (p3'.toUInt32.toUInt16.toUInt32.toInt32))) := own_A.set Ar8331 S8331 M8331 H8331 W32
        have pre34 : ∀ t, Steps p.tables e below (T32.setTop (mkF m 84 #[.val (.int l'), .val (.int p1'), .val (.int p2'), .val (.int p3')] [(.ref b26), (.ref b25), (.ref b25)])) t → Steps p.tables e below (s₁.setTop (entryFrame m #[(.int l'), (.int p1'), (.int p2'), (.int p3')] 4)) t := by
          intro t kt
          refine pre15 t ?_
          show Steps p.tables e below (s₁.setTop (mkF m 38 #[.val (.int l'), .val (.int p1'), .val (.int p2'), .val (.int p3')] [(.int (2 : Int32)), (.int l')])) _
          refine XS.icmpYes X0.here hx rfl (pc0 := 38) (pc' := 62) rfl (hb hby d2_38) rfl (feq hc38_16).2 (by decide) (by decide) ?_
          show Steps p.tables e below (s₁.setTop (mkF m 62 #[.val (.int l'), .val (.int p1'), .val (.int p2'), .val (.int p3')] [])) _
          refine st25 _ ?_
          show Steps p.tables e below (T25.setTop (mkF m 65 #[.val (.int l'), .val (.int p1'), .val (.int p2'), .val (.int p3')] [(.ref b25)])) _
          refine XS.dup X25.here hx rfl (hb hby d2_65) rfl rfl ?_
          show Steps p.tables e below (T25.setTop (mkF m 66 #[.val (.int l'), .val (.int p1'), .val (.int p2'), .val (.int p3')] [(.ref b25), (.ref b25)])) _
          refine XS.iconst X25.here hx rfl (hb hby d2_66) ?_
          show Steps p.tables e below (T25.setTop (mkF m 67 #[.val (.int l'), .val (.int p1'), .val (.int p2'), .val (.int p3')] [(.int (3 : Int32)), (.ref b25), (.ref b25)])) _
          refine st26 _ ?_
          show Steps p.tables e below (T26.setTop (mkF m 69 #[.val (.int l'), .val (.int p1'), .val (.int p2'), .val (.int p3')] [(.ref b26), (.ref b25), (.ref b25)])) _
          refine XS.dup X26.here hx rfl (hb hby d2_69) rfl rfl ?_
          show Steps p.tables e below (T26.setTop (mkF m 70 #[.val (.int l'), .val (.int p1'), .val (.int p2'), .val (.int p3')] [(.ref b26), (.ref b26), (.ref b25), (.ref b25)])) _
          refine XS.iconst X26.here hx rfl (hb hby d2_70) ?_
          show Steps p.tables e below (T26.setTop (mkF m 71 #[.val (.int l'), .val (.int p1'), .val (.int p2'), .val (.int p3')] [(.int (0 : Int32)), (.ref b26), (.ref b26), (.ref b25), (.ref b25)])) _
          refine XS.iloadN X26.here hx rfl (hb hby d2_71) rfl ?_
          show Steps p.tables e below (T26.setTop (mkF m 72 #[.val (.int l'), .val (.int p1'), .val (.int p2'), .val (.int p3')] [(.int p1'), (.int (0 : Int32)), (.ref b26), (.ref b26), (.ref b25), (.ref b25)])) _
          refine XS.i2c X26.here hx rfl (hb hby d2_72) rfl ?_
          show Steps p.tables e below (T26.setTop (mkF m 73 #[.val (.int l'), .val (.int p1'), .val (.int p2'), .val (.int p3')] [(.int (p1'.toUInt32.toUInt16.toUInt32.toInt32)), (.int (0 : Int32)), (.ref b26), (.ref b26), (.ref b25), (.ref b25)])) _
          refine st28 _ ?_
          show Steps p.tables e below (T28.setTop (mkF m 74 #[.val (.int l'), .val (.int p1'), .val (.int p2'), .val (.int p3')] [(.ref b26), (.ref b25), (.ref b25)])) _
          refine XS.dup X28.here hx rfl (hb hby d2_74) rfl rfl ?_
          show Steps p.tables e below (T28.setTop (mkF m 75 #[.val (.int l'), .val (.int p1'), .val (.int p2'), .val (.int p3')] [(.ref b26), (.ref b26), (.ref b25), (.ref b25)])) _
          refine XS.iconst X28.here hx rfl (hb hby d2_75) ?_
          show Steps p.tables e below (T28.setTop (mkF m 76 #[.val (.int l'), .val (.int p1'), .val (.int p2'), .val (.int p3')] [(.int (1 : Int32)), (.ref b26), (.ref b26), (.ref b25), (.ref b25)])) _
          refine XS.iloadN X28.here hx rfl (hb hby d2_76) rfl ?_
          show Steps p.tables e below (T28.setTop (mkF m 77 #[.val (.int l'), .val (.int p1'), .val (.int p2'), .val (.int p3')] [(.int p2'), (.int (1 : Int32)), (.ref b26), (.ref b26), (.ref b25), (.ref b25)])) _
          refine XS.i2c X28.here hx rfl (hb hby d2_77) rfl ?_
          show Steps p.tables e below (T28.setTop (mkF m 78 #[.val (.int l'), .val (.int p1'), .val (.int p2'), .val (.int p3')] [(.int (p2'.toUInt32.toUInt16.toUInt32.toInt32)), (.int (1 : Int32)), (.ref b26), (.ref b26), (.ref b25), (.ref b25)])) _
          refine st30 _ ?_
          show Steps p.tables e below (T30.setTop (mkF m 79 #[.val (.int l'), .val (.int p1'), .val (.int p2'), .val (.int p3')] [(.ref b26), (.ref b25), (.ref b25)])) _
          refine XS.dup X30.here hx rfl (hb hby d2_79) rfl rfl ?_
          show Steps p.tables e below (T30.setTop (mkF m 80 #[.val (.int l'), .val (.int p1'), .val (.int p2'), .val (.int p3')] [(.ref b26), (.ref b26), (.ref b25), (.ref b25)])) _
          refine XS.iconst X30.here hx rfl (hb hby d2_80) ?_
          show Steps p.tables e below (T30.setTop (mkF m 81 #[.val (.int l'), .val (.int p1'), .val (.int p2'), .val (.int p3')] [(.int (2 : Int32)), (.ref b26), (.ref b26), (.ref b25), (.ref b25)])) _
          refine XS.iloadN X30.here hx rfl (hb hby d2_81) rfl ?_
          show Steps p.tables e below (T30.setTop (mkF m 82 #[.val (.int l'), .val (.int p1'), .val (.int p2'), .val (.int p3')] [(.int p3'), (.int (2 : Int32)), (.ref b26), (.ref b26), (.ref b25), (.ref b25)])) _
          refine XS.i2c X30.here hx rfl (hb hby d2_82) rfl ?_
          show Steps p.tables e below (T30.setTop (mkF m 83 #[.val (.int l'), .val (.int p1'), .val (.int p2'), .val (.int p3')] [(.int (p3'.toUInt32.toUInt16.toUInt32.toInt32)), (.int (2 : Int32)), (.ref b26), (.ref b26), (.ref b25), (.ref b25)])) _
          refine st32 _ ?_
          exact kt
        obtain ⟨_, _, ⟨T33, L33, k33, n33⟩, -, X33, hSq33, hgr33, ⟨Lc33, hQ33, l33, y33, z33⟩, st33⟩ := X32.specialBackS hx (y := (⟨"java/lang/String", "<init>", "([C)V"⟩ : MethodName)) rfl hown (mvT hZ (hw _ (List.mem_of_getElem? (i := 12) rfl))) (mvT hZ (hw _ (List.mem_of_getElem? (i := 13) rfl))) (mvT hZ (hw _ (List.mem_of_getElem? (i := 14) rfl))) (by decide) (own_backH (W := 1) (rm3 l Z a0 hw [] b25 b26 cs' (3 : Int32) (own_upd (own_upd (own_upd (fun _ => 0) ((0 : Int32)).toNatClampNeg (nar .char (p1'.toUInt32.toUInt16.toUInt32.toInt32))) ((1 : Int32)).toNatClampNeg (nar .char (p2'.toUInt32.toUInt16.toUInt32.toInt32))) ((2 : Int32)).toNatClampNeg (nar .char (p3'.toUInt32.toUInt16.toUInt32.toInt32))) h32 n0 Zs32 Od S_COMPACT_STRINGS S__assertionsDisabled S_HI_BYTE_SHIFT S_LO_BYTE_SHIFT hcs E_b25 F_value_b25 F_coder_b25 g_b25 V_b26 ⟨by decide, by decide⟩ (by intro i; (try simp only [own_upd]); (repeat' split) <;> first | exact own_ch _ | exact ⟨by decide, by decide⟩)) hZ (hw _ (List.mem_of_getElem? (i := 14) rfl)) (hw _ (List.mem_of_getElem? (i := 10) rfl)) (by decide) (by decide) (own_ew hw) Ch) (g := (mkF m 84 #[.val (.int l'), .val (.int p1'), .val (.int p2'), .val (.int p3')] [(.ref b26), (.ref b25), (.ref b25)])) rfl (by rw [hml]; rfl) (Steps.refl _) (a := b25) (argsL := [(.ref b26)]) (rest := [(.ref b25)]) (lenOf pd2_0 rfl) rfl (by show 2 * 0 + _ ≤ _; exact Nat.le_of_eq rfl) (hb hby d2_84) (fun _ _ => ⟨rfl, e32, (by decide : 2 + 2 ≤ _), (by decide : 7 + 9 ≤ _)⟩)
        dsimp only [Pt.U, Pt.locs, Pt.cells, Pt.slots] at X33 l33 y33 z33 st33 hQ33 hSq33 hgr33
        subst l33 y33 z33
        have X33 : Stand p l e _ (s.setVm T33.vm) m _ below meth c T33 _ _ _ := X33
        have hS := foldS hS (by rw [e32]; exact hk) hSq33 hgr33
        have hZ : Z.Warmed39 (s.setVm T33.vm).vm := State.Warmed39.trans hZ hSq33.1
        have hown : (s.setVm T33.vm).vm.findClass "com/example/inject2/inject2/xml/BeanFileReaderNonEmptyPinLaw" = some m.cls := by rw [show (s.setVm T33.vm).vm = T33.vm from rfl, hSq33.1.alike.findClass]; exact hown
        have hk : T33.heap.size ≤ T33.heap.size := Nat.le_refl _
        obtain ⟨rfl, N33q, Kq33, yq, nq, cq, gq, F_value_b25, F_coder_b25, V_yq, hRq⟩ := hQ33
        have N33 := Fr.app N32 N33q
        have Od := Od.keep Kq33 (allS g_b25 all0)
        have E_b25 := E_b25.keep Kq33
        have Zs33 : n0 ≤ T33.heap.size := Nat.le_trans Zs32 Kq33.1
        have K33 : Keep h0 T33.heap [] := K32.trans Kq33 (allS (Or.inr sz_b25) all0)
        obtain ⟨fs, hr, hrun, hended, hW⟩ := X33.leaveW hS (hk) (v := some (.ref b25)) (fun h => by rw [Bd.returns] at h; cases h)
        refine ⟨_, _, pre34 _ ?_, hrun, hended, _, _, rfl, ?_, hW.1, hW.2.1, hW.2.2.1, hW.2.2.2.mono (by decide) (by decide)⟩
        · show Steps p.tables e below (T32.setTop (mkF m 84 #[.val (.int l'), .val (.int p1'), .val (.int p2'), .val (.int p3')] [(.ref b26), (.ref b25), (.ref b25)])) _
          refine st33.trans ?_
          show Steps p.tables e below (T33.setTop (mkF m 87 #[.val (.int l'), .val (.int p1'), .val (.int p2'), .val (.int p3')] [(.ref b25)])) _
          exact retOut X33 hx Bd.returns rfl (Or.inr (Or.inr (Or.inr (Or.inr ⟨rfl, rfl, rfl⟩)))) (hb hby d2_87) hr
        · show Q2 Z l' p1' p2' p3' cs' h0 n0 _ T33.heap _
          exact ⟨b25, yq, nq, cq, gq, rfl, N33, K33, g_b25, sz_b25, E_b25, F_value_b25, F_coder_b25, V_yq, hRq⟩
theorem pn_0 : plainName "com/example/inject2/inject2/xml/BeanFileReaderNonEmptyPinLaw" = true := by first | (simp [plainName, overriddenIn]; done) | decide +kernel
theorem pd0_0 : parseMethodDescriptor "(Ljava/lang/String;)Ljava/lang/String;" = some ⟨[(.object "java/lang/String")], some (.object "java/lang/String")⟩ := by decide +kernel
theorem pd0_1 : parseMethodDescriptor "(IIII)Ljava/lang/String;" = some ⟨[.int, .int, .int, .int], some (.object "java/lang/String")⟩ := by decide +kernel
theorem pd0_2 : parseMethodDescriptor "()I" = some ⟨[], some .int⟩ := by decide +kernel
theorem ef_0 (m : MethodId) (x0 : Int32) (x1 : Int32) (x2 : Int32) (x3 : Int32) : entryFrame m #[(.int x0), (.int x1), (.int x2), (.int x3)] maxLocals = mkF m 0 #[.val (.int x0), .val (.int x1), .val (.int x2), .val (.int x3), .unset, .unset, .unset] [] := by first | (simp [entryFrame, mkF, argsToLocals, Value.category, maxLocals]; done) | rfl
def Q0 (Z : State) (s' : Int32) (p1' : Int32) (p2' : Int32) (p3' : Int32) (cs' : Int32) (h0 : Heap) (n0 : Nat) (v : Option Value) (h : Heap) (L : List Loc) : Prop := v = some (.int (1 : Int32)) ∧ Fr n0 L
set_option maxRecDepth 65536 in
set_option maxHeartbeats 40000000 in
theorem rm0 (l : Launch) (Z : State) (a0 : Array Value) (hw : ∀ d ∈ tables_1, d.before a0 Z = true) (ws : List Jvm.Cond) (s' : Int32) (p1' : Int32) (p2' : Int32) (p3' : Int32) (cs' : Int32) (h0 : Heap) (n0 : Nat) (Z0 : n0 ≤ h0.size) (Od : Old Z n0 h0) (S_COMPACT_STRINGS : Sta Z Z.heap "java/lang/String" "COMPACT_STRINGS" "Z" (.int cs')) (S__assertionsDisabled : Sta Z Z.heap "java/lang/StringUTF16" "$assertionsDisabled" "Z" (.int (1 : Int32))) (S_HI_BYTE_SHIFT : Sta Z Z.heap "java/lang/StringUTF16" "HI_BYTE_SHIFT" "I" (.int (0 : Int32))) (S_LO_BYTE_SHIFT : Sta Z Z.heap "java/lang/StringUTF16" "LO_BYTE_SHIFT" "I" (.int (8 : Int32))) (hcs : ¬ cs' = (0 : Int32)) :
    MetFree l x (head1 (Jvm.Cond.code x code maxLocals ret :: ws) room_1) (fun ar U => ar = #[(.int s'), (.int p1'), (.int p2'), (.int p3')] ∧ Z.Warmed39 U.vm ∧ U.heap = h0 ∧ CHv Z own_EL U.vm h0) (fun _ _ _ _ _ => True) (fun _ U o U' => ∃ v L, o = .returned v ∧ Q0 Z s' p1' p2' p3' cs' h0 n0 v U'.heap L ∧ ReturnedEndW U o U' L room_1.cells room_1.slots) := by
  refine MetFree.of_bodySF (plainFor_of_name pn_0) hisR ?_
  intro p e s m args below meth c s₁ Bd hml0 hP hK
  obtain ⟨rfl, hZ, hh, Ch⟩ := hP
  have hx := Bd.exec
  have hby := Bd.bytes
  have hml : c.maxLocals = 7 := hml0
  have hown : s.vm.findClass "com/example/inject2/inject2/xml/BeanFileReaderNonEmptyPinLaw" = some m.cls := findClass_of_methodNamed Bd.named
  have hnm := (name_of_methodNamed Bd.named Bd.method).1
  have X0 : Stand p l e room_1 (s.setVm s.vm) m #[(.int s'), (.int p1'), (.int p2'), (.int p3')] below meth c s₁ [] 0 0 := (Stand.of_body Bd : Stand p l e room_1 s m #[(.int s'), (.int p1'), (.int p2'), (.int p3')] below meth c s₁ [] 0 0)
  have e0 : s₁.heap = h0 := by rw [← hh, Bd.state]; rfl
  have N0 := Fr.nil n0
  have K0 : Keep h0 h0 [] := Keep.refl h0 _
  have pre0 : ∀ t, Steps p.tables e below (s₁.setTop (mkF m 0 #[.val (.int s'), .val (.int p1'), .val (.int p2'), .val (.int p3'), .unset, .unset, .unset] [])) t → Steps p.tables e below (s₁.setTop (entryFrame m #[(.int s'), (.int p1'), (.int p2'), (.int p3')] maxLocals)) t := fun t k => castTop (ef_0 m s' p1' p2' p3') k
  have hS : s.Since s.vm s.heap.size := (State.WarmedH.refl s).since _
  have hk : s.heap.size ≤ h0.size := by rw [← hh]; exact Nat.le_refl _
  have pre1 : ∀ t, Steps p.tables e below (s₁.setTop (mkF m 11 #[.val (.int s'), .val (.int p1'), .val (.int p2'), .val (.int p3'), .val (.int (s' &&& (7 : Int32))), .val .null, .unset] [(.int (s' &&& (7 : Int32)))])) t → Steps p.tables e below (s₁.setTop (entryFrame m #[(.int s'), (.int p1'), (.int p2'), (.int p3')] maxLocals)) t := by
    intro t kt
    refine pre0 t ?_
    show Steps p.tables e below (s₁.setTop (mkF m 0 #[.val (.int s'), .val (.int p1'), .val (.int p2'), .val (.int p3'), .unset, .unset, .unset] [])) _
    refine XS.iloadN X0.here hx rfl (hb hby at_0) rfl ?_
    show Steps p.tables e below (s₁.setTop (mkF m 1 #[.val (.int s'), .val (.int p1'), .val (.int p2'), .val (.int p3'), .unset, .unset, .unset] [(.int s')])) _
    refine XS.bipush X0.here hx rfl (hb hby at_1) ?_
    show Steps p.tables e below (s₁.setTop (mkF m 3 #[.val (.int s'), .val (.int p1'), .val (.int p2'), .val (.int p3'), .unset, .unset, .unset] [(.int (7 : Int32)), (.int s')])) _
    refine XS.iand X0.here hx rfl (hb hby at_3) rfl ?_
    show Steps p.tables e below (s₁.setTop (mkF m 4 #[.val (.int s'), .val (.int p1'), .val (.int p2'), .val (.int p3'), .unset, .unset, .unset] [(.int (s' &&& (7 : Int32)))])) _
    refine XS.istore X0.here hx rfl (hb hby at_4) rfl (l' := #[.val (.int s'), .val (.int p1'), .val (.int p2'), .val (.int p3'), .val (.int (s' &&& (7 : Int32))), .unset, .unset]) rfl ?_
    show Steps p.tables e below (s₁.setTop (mkF m 6 #[.val (.int s'), .val (.int p1'), .val (.int p2'), .val (.int p3'), .val (.int (s' &&& (7 : Int32))), .unset, .unset] [])) _
    refine XS.aconstNull X0.here hx rfl (hb hby at_6) ?_
    show Steps p.tables e below (s₁.setTop (mkF m 7 #[.val (.int s'), .val (.int p1'), .val (.int p2'), .val (.int p3'), .val (.int (s' &&& (7 : Int32))), .unset, .unset] [.null])) _
    refine XS.astore X0.here hx rfl (hb hby at_7) rfl rfl (l' := #[.val (.int s'), .val (.int p1'), .val (.int p2'), .val (.int p3'), .val (.int (s' &&& (7 : Int32))), .val .null, .unset]) rfl ?_
    show Steps p.tables e below (s₁.setTop (mkF m 9 #[.val (.int s'), .val (.int p1'), .val (.int p2'), .val (.int p3'), .val (.int (s' &&& (7 : Int32))), .val .null, .unset] [])) _
    refine XS.iload X0.here hx rfl (hb hby at_9) rfl ?_
    exact kt
  by_cases hc11_2 : (s' &&& (7 : Int32)) = (0 : Int32)
  · obtain ⟨_, _, ⟨T3, L3, k3, n3⟩, -, X3, ⟨Lc3, hQ3, l3, y3, z3⟩, st3⟩ := Jvm.LawKit.callS X0 hx (y := (⟨"com/example/inject2/inject2/xml/BeanFileReader", "nonEmpty", "(Ljava/lang/String;)Ljava/lang/String;"⟩ : MethodName)) hown (mvT hZ (hw _ (List.mem_of_getElem? (i := 0) rfl))) (mvT hZ (hw _ (List.mem_of_getElem? (i := 1) rfl))) (mvT hZ (hw _ (List.mem_of_getElem? (i := 2) rfl))) (mvT hZ (hw _ (List.mem_of_getElem? (i := 3) rfl))) (by decide) (backOf (W := 0) (rm1n l Z a0 hw []  h0 n0 Z0 ) hZ (hw _ (List.mem_of_getElem? (i := 3) rfl)) (hw _ (List.mem_of_getElem? (i := 2) rfl)) (by decide) (by decide)) (g := (mkF m 30 #[.val (.int s'), .val (.int p1'), .val (.int p2'), .val (.int p3'), .val (.int (s' &&& (7 : Int32))), .val .null, .unset] [.null])) rfl (by rw [hml]; rfl) (argsL := [.null]) (rest := []) (lenOf pd0_0 rfl) rfl (by show 2 * 0 + _ ≤ _; exact Nat.le_of_eq rfl) (hb hby at_30) (fun _ _ => ⟨rfl, e0, (by decide : 0 + 0 ≤ _), (by decide : 0 + 0 ≤ _)⟩)
    dsimp only [Pt.U, Pt.locs, Pt.cells, Pt.slots] at X3 l3 y3 z3 st3 hQ3
    subst l3 y3 z3
    obtain ⟨rfl, N3q, hh3⟩ := hQ3
    have N3 := Fr.app N0 N3q
    obtain ⟨fs, hr, hrun, hended, hW⟩ := X3.leaveW hS (by rw [hh3]; exact hk) (v := some (.int (1 : Int32))) (fun h => by rw [Bd.returns] at h; cases h)
    refine ⟨_, _, pre1 _ ?_, hrun, hended, _, _, rfl, ?_, hW.1, hW.2.1, hW.2.2.1, hW.2.2.2.mono (by decide) (by decide)⟩
    · show Steps p.tables e below (s₁.setTop (mkF m 11 #[.val (.int s'), .val (.int p1'), .val (.int p2'), .val (.int p3'), .val (.int (s' &&& (7 : Int32))), .val .null, .unset] [(.int (s' &&& (7 : Int32)))])) _
      refine XS.ifYes X0.here hx rfl (pc0 := 11) (pc' := 28) rfl (hb hby at_11) rfl ((if0 _ _).trans (teq hc11_2).1) (by decide) (by decide) ?_
      show Steps p.tables e below (s₁.setTop (mkF m 28 #[.val (.int s'), .val (.int p1'), .val (.int p2'), .val (.int p3'), .val (.int (s' &&& (7 : Int32))), .val .null, .unset] [])) _
      refine XS.aload X0.here hx rfl (hb hby at_28) rfl rfl ?_
      show Steps p.tables e below (s₁.setTop (mkF m 30 #[.val (.int s'), .val (.int p1'), .val (.int p2'), .val (.int p3'), .val (.int (s' &&& (7 : Int32))), .val .null, .unset] [.null])) _
      refine st3 _ ?_
      show Steps p.tables e below (T3.setTop (mkF m 33 #[.val (.int s'), .val (.int p1'), .val (.int p2'), .val (.int p3'), .val (.int (s' &&& (7 : Int32))), .val .null, .unset] [.null])) _
      refine XS.astore X3.here hx rfl (hb hby at_33) rfl rfl (l' := #[.val (.int s'), .val (.int p1'), .val (.int p2'), .val (.int p3'), .val (.int (s' &&& (7 : Int32))), .val .null, .val .null]) rfl ?_
      show Steps p.tables e below (T3.setTop (mkF m 35 #[.val (.int s'), .val (.int p1'), .val (.int p2'), .val (.int p3'), .val (.int (s' &&& (7 : Int32))), .val .null, .val .null] [])) _
      refine XS.aload X3.here hx rfl (hb hby at_35) rfl rfl ?_
      show Steps p.tables e below (T3.setTop (mkF m 37 #[.val (.int s'), .val (.int p1'), .val (.int p2'), .val (.int p3'), .val (.int (s' &&& (7 : Int32))), .val .null, .val .null] [.null])) _
      refine XS.ifnonnullNo X3.here hx rfl (hb hby at_37) rfl ?_
      show Steps p.tables e below (T3.setTop (mkF m 40 #[.val (.int s'), .val (.int p1'), .val (.int p2'), .val (.int p3'), .val (.int (s' &&& (7 : Int32))), .val .null, .val .null] [])) _
      refine XS.aload X3.here hx rfl (hb hby at_40) rfl rfl ?_
      show Steps p.tables e below (T3.setTop (mkF m 42 #[.val (.int s'), .val (.int p1'), .val (.int p2'), .val (.int p3'), .val (.int (s' &&& (7 : Int32))), .val .null, .val .null] [.null])) _
      refine XS.ifnonnullNo X3.here hx rfl (hb hby at_42) rfl ?_
      show Steps p.tables e below (T3.setTop (mkF m 45 #[.val (.int s'), .val (.int p1'), .val (.int p2'), .val (.int p3'), .val (.int (s' &&& (7 : Int32))), .val .null, .val .null] [])) _
      refine XS.iconst X3.here hx rfl (hb hby at_45) ?_
      show Steps p.tables e below (T3.setTop (mkF m 46 #[.val (.int s'), .val (.int p1'), .val (.int p2'), .val (.int p3'), .val (.int (s' &&& (7 : Int32))), .val .null, .val .null] [(.int (1 : Int32))])) _
      refine XS.goto X3.here hx rfl (pc0 := 46) (pc' := 50) rfl (hb hby at_46) (by decide) (by decide) ?_
      show Steps p.tables e below (T3.setTop (mkF m 50 #[.val (.int s'), .val (.int p1'), .val (.int p2'), .val (.int p3'), .val (.int (s' &&& (7 : Int32))), .val .null, .val .null] [(.int (1 : Int32))])) _
      exact retN X3 hx (t := .boolean) Bd.returns (by simp) (hb hby at_50) hr
    · show Q0 Z s' p1' p2' p3' cs' h0 n0 _ T3.heap _
      rw [hh3]
      exact ⟨rfl, N3⟩
  · have pre5 : ∀ t, Steps p.tables e below (s₁.setTop (mkF m 23 #[.val (.int s'), .val (.int p1'), .val (.int p2'), .val (.int p3'), .val (.int (s' &&& (7 : Int32))), .val .null, .unset] [(.int p3'), (.int p2'), (.int p1'), (.int (((s' &&& (7 : Int32)) - (1 : Int32)) % (4 : Int32)))])) t → Steps p.tables e below (s₁.setTop (entryFrame m #[(.int s'), (.int p1'), (.int p2'), (.int p3')] maxLocals)) t := by
      intro t kt
      refine pre1 t ?_
      show Steps p.tables e below (s₁.setTop (mkF m 11 #[.val (.int s'), .val (.int p1'), .val (.int p2'), .val (.int p3'), .val (.int (s' &&& (7 : Int32))), .val .null, .unset] [(.int (s' &&& (7 : Int32)))])) _
      refine XS.ifNo X0.here hx rfl (hb hby at_11) rfl ((if0 _ _).trans (feq hc11_2).1) ?_
      show Steps p.tables e below (s₁.setTop (mkF m 14 #[.val (.int s'), .val (.int p1'), .val (.int p2'), .val (.int p3'), .val (.int (s' &&& (7 : Int32))), .val .null, .unset] [])) _
      refine XS.iload X0.here hx rfl (hb hby at_14) rfl ?_
      show Steps p.tables e below (s₁.setTop (mkF m 16 #[.val (.int s'), .val (.int p1'), .val (.int p2'), .val (.int p3'), .val (.int (s' &&& (7 : Int32))), .val .null, .unset] [(.int (s' &&& (7 : Int32)))])) _
      refine XS.iconst X0.here hx rfl (hb hby at_16) ?_
      show Steps p.tables e below (s₁.setTop (mkF m 17 #[.val (.int s'), .val (.int p1'), .val (.int p2'), .val (.int p3'), .val (.int (s' &&& (7 : Int32))), .val .null, .unset] [(.int (1 : Int32)), (.int (s' &&& (7 : Int32)))])) _
      refine XS.isub X0.here hx rfl (hb hby at_17) rfl ?_
      show Steps p.tables e below (s₁.setTop (mkF m 18 #[.val (.int s'), .val (.int p1'), .val (.int p2'), .val (.int p3'), .val (.int (s' &&& (7 : Int32))), .val .null, .unset] [(.int ((s' &&& (7 : Int32)) - (1 : Int32)))])) _
      refine XS.iconst X0.here hx rfl (hb hby at_18) ?_
      show Steps p.tables e below (s₁.setTop (mkF m 19 #[.val (.int s'), .val (.int p1'), .val (.int p2'), .val (.int p3'), .val (.int (s' &&& (7 : Int32))), .val .null, .unset] [(.int (4 : Int32)), (.int ((s' &&& (7 : Int32)) - (1 : Int32)))])) _
      refine iremM X0 hx rfl (hb hby at_19) rfl (by decide) ?_
      show Steps p.tables e below (s₁.setTop (mkF m 20 #[.val (.int s'), .val (.int p1'), .val (.int p2'), .val (.int p3'), .val (.int (s' &&& (7 : Int32))), .val .null, .unset] [(.int (((s' &&& (7 : Int32)) - (1 : Int32)) % (4 : Int32)))])) _
      refine XS.iloadN X0.here hx rfl (hb hby at_20) rfl ?_
      show Steps p.tables e below (s₁.setTop (mkF m 21 #[.val (.int s'), .val (.int p1'), .val (.int p2'), .val (.int p3'), .val (.int (s' &&& (7 : Int32))), .val .null, .unset] [(.int p1'), (.int (((s' &&& (7 : Int32)) - (1 : Int32)) % (4 : Int32)))])) _
      refine XS.iloadN X0.here hx rfl (hb hby at_21) rfl ?_
      show Steps p.tables e below (s₁.setTop (mkF m 22 #[.val (.int s'), .val (.int p1'), .val (.int p2'), .val (.int p3'), .val (.int (s' &&& (7 : Int32))), .val .null, .unset] [(.int p2'), (.int p1'), (.int (((s' &&& (7 : Int32)) - (1 : Int32)) % (4 : Int32)))])) _
      refine XS.iloadN X0.here hx rfl (hb hby at_22) rfl ?_
      exact kt
    obtain ⟨_, _, ⟨T4, L4, k4, n4⟩, -, X4, hSq4, hgr4, ⟨Lc4, hQ4, l4, y4, z4⟩, st4⟩ := callSS X0 hx (y := (⟨"com/example/inject2/inject2/xml/BeanFileReaderNonEmptyPinLaw", "make", "(IIII)Ljava/lang/String;"⟩ : MethodName)) hown (mvT hZ (hw _ (List.mem_of_getElem? (i := 4) rfl))) (mvT hZ (hw _ (List.mem_of_getElem? (i := 5) rfl))) (mvT hZ (hw _ (List.mem_of_getElem? (i := 6) rfl))) (mvT hZ (hw _ (List.mem_of_getElem? (i := 7) rfl))) (by decide) (own_backH (W := 0) (rm2 l Z a0 hw [] (((s' &&& (7 : Int32)) - (1 : Int32)) % (4 : Int32)) p1' p2' p3' cs' h0 n0 Z0 Od S_COMPACT_STRINGS S__assertionsDisabled S_HI_BYTE_SHIFT S_LO_BYTE_SHIFT hcs) hZ (hw _ (List.mem_of_getElem? (i := 7) rfl)) (hw _ (List.mem_of_getElem? (i := 6) rfl)) (by decide) (by decide) (own_ew hw) Ch) (g := (mkF m 23 #[.val (.int s'), .val (.int p1'), .val (.int p2'), .val (.int p3'), .val (.int (s' &&& (7 : Int32))), .val .null, .unset] [(.int p3'), (.int p2'), (.int p1'), (.int (((s' &&& (7 : Int32)) - (1 : Int32)) % (4 : Int32)))])) rfl (by rw [hml]; rfl) (argsL := [(.int (((s' &&& (7 : Int32)) - (1 : Int32)) % (4 : Int32))), (.int p1'), (.int p2'), (.int p3')]) (rest := []) (lenOf pd0_1 rfl) rfl (by show 2 * 0 + _ ≤ _; exact Nat.le_of_eq rfl) (hb hby at_23) (fun _ _ => ⟨rfl, e0, (by decide : 0 + 4 ≤ _), (by decide : 0 + 16 ≤ _)⟩)
    dsimp only [Pt.U, Pt.locs, Pt.cells, Pt.slots] at X4 l4 y4 z4 st4 hQ4 hSq4 hgr4
    subst l4 y4 z4
    have X4 : Stand p l e _ (s.setVm T4.vm) m _ below meth c T4 _ _ _ := X4
    have hS := foldS hS (by rw [e0]; exact hk) hSq4 hgr4
    have hZ : Z.Warmed39 (s.setVm T4.vm).vm := State.Warmed39.trans hZ hSq4.1
    have hown : (s.setVm T4.vm).vm.findClass "com/example/inject2/inject2/xml/BeanFileReaderNonEmptyPinLaw" = some m.cls := by rw [show (s.setVm T4.vm).vm = T4.vm from rfl, hSq4.1.alike.findClass]; exact hown
    have hk : T4.heap.size ≤ T4.heap.size := Nat.le_refl _
    obtain ⟨r', yq, nq, cq, gq, rfl, N4q, Kq4, g_r, sz_r, E_r', F_value_r', F_coder_r', V_yq, hRq⟩ := hQ4
    have N4 := Fr.app N0 N4q
    have Od := Od.keep Kq4 all0
    have Zs4 : n0 ≤ T4.heap.size := Nat.le_trans Z0 Kq4.1
    have K4 : Keep h0 T4.heap [] := K0.trans Kq4 all0
    have pre6 : ∀ t, Steps p.tables e below (T4.setTop (mkF m 28 #[.val (.int s'), .val (.int p1'), .val (.int p2'), .val (.int p3'), .val (.int (s' &&& (7 : Int32))), .val (.ref r'), .unset] [])) t → Steps p.tables e below (s₁.setTop (entryFrame m #[(.int s'), (.int p1'), (.int p2'), (.int p3')] maxLocals)) t := by
      intro t kt
      refine pre5 t ?_
      show Steps p.tables e below (s₁.setTop (mkF m 23 #[.val (.int s'), .val (.int p1'), .val (.int p2'), .val (.int p3'), .val (.int (s' &&& (7 : Int32))), .val .null, .unset] [(.int p3'), (.int p2'), (.int p1'), (.int (((s' &&& (7 : Int32)) - (1 : Int32)) % (4 : Int32)))])) _
      refine st4.trans ?_
      show Steps p.tables e below (T4.setTop (mkF m 26 #[.val (.int s'), .val (.int p1'), .val (.int p2'), .val (.int p3'), .val (.int (s' &&& (7 : Int32))), .val .null, .unset] [(.ref r')])) _
      refine XS.astore X4.here hx rfl (hb hby at_26) rfl rfl (l' := #[.val (.int s'), .val (.int p1'), .val (.int p2'), .val (.int p3'), .val (.int (s' &&& (7 : Int32))), .val (.ref r'), .unset]) rfl ?_
      exact kt
    by_cases hz : nq = (0 : Int32)
    · obtain ⟨_, _, ⟨T7, L7, k7, n7⟩, -, X7, ⟨Lc7, hQ7, l7, y7, z7⟩, st7⟩ := Jvm.LawKit.callS X4 hx (y := (⟨"com/example/inject2/inject2/xml/BeanFileReader", "nonEmpty", "(Ljava/lang/String;)Ljava/lang/String;"⟩ : MethodName)) hown (mvT hZ (hw _ (List.mem_of_getElem? (i := 0) rfl))) (mvT hZ (hw _ (List.mem_of_getElem? (i := 1) rfl))) (mvT hZ (hw _ (List.mem_of_getElem? (i := 2) rfl))) (mvT hZ (hw _ (List.mem_of_getElem? (i := 3) rfl))) (by decide) (backOf (W := 0) (rm1e l Z a0 hw [] r' nq yq gq T4.heap n0 Zs4 E_r' F_value_r' V_yq hz) hZ (hw _ (List.mem_of_getElem? (i := 3) rfl)) (hw _ (List.mem_of_getElem? (i := 2) rfl)) (by decide) (by decide)) (g := (mkF m 30 #[.val (.int s'), .val (.int p1'), .val (.int p2'), .val (.int p3'), .val (.int (s' &&& (7 : Int32))), .val (.ref r'), .unset] [(.ref r')])) rfl (by rw [hml]; rfl) (argsL := [(.ref r')]) (rest := []) (lenOf pd0_0 rfl) rfl (by show 2 * 0 + _ ≤ _; exact Nat.le_of_eq rfl) (hb hby at_30) (fun _ _ => ⟨rfl, rfl, (by decide : 4 + 0 ≤ _), (by decide : 16 + 0 ≤ _)⟩)
      dsimp only [Pt.U, Pt.locs, Pt.cells, Pt.slots] at X7 l7 y7 z7 st7 hQ7
      subst l7 y7 z7
      obtain ⟨rfl, N7q, hh7⟩ := hQ7
      have N7 := Fr.app N4 N7q
      obtain ⟨cq8, kq8, q8a, q8b, q8c⟩ := isOf hZ hh7 E_r'
      obtain ⟨_, _, ⟨T8, L8, k8, n8⟩, -, X8, ⟨Lc8, hQ8, l8, y8, z8⟩, st8⟩ := X7.virtualBack hx (y := (⟨"java/lang/String", "length", "()I"⟩ : MethodName)) (z := (⟨"java/lang/String", "length", "()I"⟩ : MethodName)) hown (mvT hZ (hw _ (List.mem_of_getElem? (i := 43) rfl))) (mvT hZ (hw _ (List.mem_of_getElem? (i := 44) rfl))) (notFace_of_selects (args := #[]) (mvT hZ (hw _ (List.mem_of_getElem? (i := 46) rfl)))) (mvT hZ (hw _ (List.mem_of_getElem? (i := 46) rfl))) (mvT hZ (hw _ (List.mem_of_getElem? (i := 45) rfl))) (by decide) (backOf (W := 0) (rm10 l Z a0 hw [] r' cs' cq nq yq gq T4.heap n0 Zs4 Od S_COMPACT_STRINGS S__assertionsDisabled S_HI_BYTE_SHIFT S_LO_BYTE_SHIFT hcs E_r' F_value_r' F_coder_r' V_yq) hZ (hw _ (List.mem_of_getElem? (i := 47) rfl)) (hw _ (List.mem_of_getElem? (i := 10) rfl)) (by decide) (by decide)) q8a q8c (g := (mkF m 53 #[.val (.int s'), .val (.int p1'), .val (.int p2'), .val (.int p3'), .val (.int (s' &&& (7 : Int32))), .val (.ref r'), .val .null] [(.ref r')])) rfl (by rw [hml]; rfl) (Steps.refl _) (argsL := []) (rest := []) (lenOf pd0_2 rfl) rfl (by show 2 * 0 + _ ≤ _; exact Nat.le_of_eq rfl) (hb hby at_53) (fun _ _ => ⟨rfl, hh7, (by decide : 4 + 0 ≤ _), (by decide : 16 + 0 ≤ _)⟩)
      dsimp only [Pt.U, Pt.locs, Pt.cells, Pt.slots] at X8 l8 y8 z8 st8 hQ8
      subst l8 y8 z8
      obtain ⟨rfl, N8q, hh8⟩ := hQ8
      have N8 := Fr.app N7 N8q
      obtain ⟨fs, hr, hrun, hended, hW⟩ := X8.leaveW hS (by rw [hh8]; exact hk) (v := some (.int (1 : Int32))) (fun h => by rw [Bd.returns] at h; cases h)
      refine ⟨_, _, pre6 _ ?_, hrun, hended, _, _, rfl, ?_, hW.1, hW.2.1, hW.2.2.1, hW.2.2.2.mono (by decide) (by decide)⟩
      · show Steps p.tables e below (T4.setTop (mkF m 28 #[.val (.int s'), .val (.int p1'), .val (.int p2'), .val (.int p3'), .val (.int (s' &&& (7 : Int32))), .val (.ref r'), .unset] [])) _
        refine XS.aload X4.here hx rfl (hb hby at_28) rfl rfl ?_
        show Steps p.tables e below (T4.setTop (mkF m 30 #[.val (.int s'), .val (.int p1'), .val (.int p2'), .val (.int p3'), .val (.int (s' &&& (7 : Int32))), .val (.ref r'), .unset] [(.ref r')])) _
        refine st7 _ ?_
        show Steps p.tables e below (T7.setTop (mkF m 33 #[.val (.int s'), .val (.int p1'), .val (.int p2'), .val (.int p3'), .val (.int (s' &&& (7 : Int32))), .val (.ref r'), .unset] [.null])) _
        refine XS.astore X7.here hx rfl (hb hby at_33) rfl rfl (l' := #[.val (.int s'), .val (.int p1'), .val (.int p2'), .val (.int p3'), .val (.int (s' &&& (7 : Int32))), .val (.ref r'), .val .null]) rfl ?_
        show Steps p.tables e below (T7.setTop (mkF m 35 #[.val (.int s'), .val (.int p1'), .val (.int p2'), .val (.int p3'), .val (.int (s' &&& (7 : Int32))), .val (.ref r'), .val .null] [])) _
        refine XS.aload X7.here hx rfl (hb hby at_35) rfl rfl ?_
        show Steps p.tables e below (T7.setTop (mkF m 37 #[.val (.int s'), .val (.int p1'), .val (.int p2'), .val (.int p3'), .val (.int (s' &&& (7 : Int32))), .val (.ref r'), .val .null] [(.ref r')])) _
        refine XS.ifnonnullYes X7.here hx rfl (pc0 := 37) (pc' := 51) rfl (hb hby at_37) rfl (by decide) (by decide) ?_
        show Steps p.tables e below (T7.setTop (mkF m 51 #[.val (.int s'), .val (.int p1'), .val (.int p2'), .val (.int p3'), .val (.int (s' &&& (7 : Int32))), .val (.ref r'), .val .null] [])) _
        refine XS.aload X7.here hx rfl (hb hby at_51) rfl rfl ?_
        show Steps p.tables e below (T7.setTop (mkF m 53 #[.val (.int s'), .val (.int p1'), .val (.int p2'), .val (.int p3'), .val (.int (s' &&& (7 : Int32))), .val (.ref r'), .val .null] [(.ref r')])) _
        refine st8.trans ?_
        show Steps p.tables e below (T8.setTop (mkF m 56 #[.val (.int s'), .val (.int p1'), .val (.int p2'), .val (.int p3'), .val (.int (s' &&& (7 : Int32))), .val (.ref r'), .val .null] [(.int (nq >>> ((nar .byte cq) &&& 31)))])) _
        refine XS.ifNo X8.here hx rfl (hb hby at_56) rfl ((if0 _ _).trans (teq (own_z0 hz)).2) ?_
        show Steps p.tables e below (T8.setTop (mkF m 59 #[.val (.int s'), .val (.int p1'), .val (.int p2'), .val (.int p3'), .val (.int (s' &&& (7 : Int32))), .val (.ref r'), .val .null] [])) _
        refine XS.aload X8.here hx rfl (hb hby at_59) rfl rfl ?_
        show Steps p.tables e below (T8.setTop (mkF m 61 #[.val (.int s'), .val (.int p1'), .val (.int p2'), .val (.int p3'), .val (.int (s' &&& (7 : Int32))), .val (.ref r'), .val .null] [.null])) _
        refine XS.ifnonnullNo X8.here hx rfl (hb hby at_61) rfl ?_
        show Steps p.tables e below (T8.setTop (mkF m 64 #[.val (.int s'), .val (.int p1'), .val (.int p2'), .val (.int p3'), .val (.int (s' &&& (7 : Int32))), .val (.ref r'), .val .null] [])) _
        refine XS.iconst X8.here hx rfl (hb hby at_64) ?_
        show Steps p.tables e below (T8.setTop (mkF m 65 #[.val (.int s'), .val (.int p1'), .val (.int p2'), .val (.int p3'), .val (.int (s' &&& (7 : Int32))), .val (.ref r'), .val .null] [(.int (1 : Int32))])) _
        refine XS.goto X8.here hx rfl (pc0 := 65) (pc' := 69) rfl (hb hby at_65) (by decide) (by decide) ?_
        show Steps p.tables e below (T8.setTop (mkF m 69 #[.val (.int s'), .val (.int p1'), .val (.int p2'), .val (.int p3'), .val (.int (s' &&& (7 : Int32))), .val (.ref r'), .val .null] [(.int (1 : Int32))])) _
        exact retN X8 hx (t := .boolean) Bd.returns (by simp) (hb hby at_69) hr
      · show Q0 Z s' p1' p2' p3' cs' h0 n0 _ T8.heap _
        rw [hh8]
        exact ⟨rfl, N8⟩
    · obtain ⟨_, _, ⟨T9, L9, k9, n9⟩, -, X9, ⟨Lc9, hQ9, l9, y9, z9⟩, st9⟩ := Jvm.LawKit.callS X4 hx (y := (⟨"com/example/inject2/inject2/xml/BeanFileReader", "nonEmpty", "(Ljava/lang/String;)Ljava/lang/String;"⟩ : MethodName)) hown (mvT hZ (hw _ (List.mem_of_getElem? (i := 0) rfl))) (mvT hZ (hw _ (List.mem_of_getElem? (i := 1) rfl))) (mvT hZ (hw _ (List.mem_of_getElem? (i := 2) rfl))) (mvT hZ (hw _ (List.mem_of_getElem? (i := 3) rfl))) (by decide) (backOf (W := 0) (rm1r l Z a0 hw [] r' nq yq gq T4.heap n0 Zs4 E_r' F_value_r' V_yq hz) hZ (hw _ (List.mem_of_getElem? (i := 3) rfl)) (hw _ (List.mem_of_getElem? (i := 2) rfl)) (by decide) (by decide)) (g := (mkF m 30 #[.val (.int s'), .val (.int p1'), .val (.int p2'), .val (.int p3'), .val (.int (s' &&& (7 : Int32))), .val (.ref r'), .unset] [(.ref r')])) rfl (by rw [hml]; rfl) (argsL := [(.ref r')]) (rest := []) (lenOf pd0_0 rfl) rfl (by show 2 * 0 + _ ≤ _; exact Nat.le_of_eq rfl) (hb hby at_30) (fun _ _ => ⟨rfl, rfl, (by decide : 4 + 0 ≤ _), (by decide : 16 + 0 ≤ _)⟩)
      dsimp only [Pt.U, Pt.locs, Pt.cells, Pt.slots] at X9 l9 y9 z9 st9 hQ9
      subst l9 y9 z9
      obtain ⟨rfl, N9q, hh9⟩ := hQ9
      have N9 := Fr.app N4 N9q
      obtain ⟨cq10, kq10, q10a, q10b, q10c⟩ := isOf hZ hh9 E_r'
      obtain ⟨_, _, ⟨T10, L10, k10, n10⟩, -, X10, ⟨Lc10, hQ10, l10, y10, z10⟩, st10⟩ := X9.virtualBack hx (y := (⟨"java/lang/String", "length", "()I"⟩ : MethodName)) (z := (⟨"java/lang/String", "length", "()I"⟩ : MethodName)) hown (mvT hZ (hw _ (List.mem_of_getElem? (i := 43) rfl))) (mvT hZ (hw _ (List.mem_of_getElem? (i := 44) rfl))) (notFace_of_selects (args := #[]) (mvT hZ (hw _ (List.mem_of_getElem? (i := 46) rfl)))) (mvT hZ (hw _ (List.mem_of_getElem? (i := 46) rfl))) (mvT hZ (hw _ (List.mem_of_getElem? (i := 45) rfl))) (by decide) (backOf (W := 0) (rm10 l Z a0 hw [] r' cs' cq nq yq gq T4.heap n0 Zs4 Od S_COMPACT_STRINGS S__assertionsDisabled S_HI_BYTE_SHIFT S_LO_BYTE_SHIFT hcs E_r' F_value_r' F_coder_r' V_yq) hZ (hw _ (List.mem_of_getElem? (i := 47) rfl)) (hw _ (List.mem_of_getElem? (i := 10) rfl)) (by decide) (by decide)) q10a q10c (g := (mkF m 53 #[.val (.int s'), .val (.int p1'), .val (.int p2'), .val (.int p3'), .val (.int (s' &&& (7 : Int32))), .val (.ref r'), .val (.ref r')] [(.ref r')])) rfl (by rw [hml]; rfl) (Steps.refl _) (argsL := []) (rest := []) (lenOf pd0_2 rfl) rfl (by show 2 * 0 + _ ≤ _; exact Nat.le_of_eq rfl) (hb hby at_53) (fun _ _ => ⟨rfl, hh9, (by decide : 4 + 0 ≤ _), (by decide : 16 + 0 ≤ _)⟩)
      dsimp only [Pt.U, Pt.locs, Pt.cells, Pt.slots] at X10 l10 y10 z10 st10 hQ10
      subst l10 y10 z10
      obtain ⟨rfl, N10q, hh10⟩ := hQ10
      have N10 := Fr.app N9 N10q
      obtain ⟨fs, hr, hrun, hended, hW⟩ := X10.leaveW hS (by rw [hh10]; exact hk) (v := some (.int (1 : Int32))) (fun h => by rw [Bd.returns] at h; cases h)
      refine ⟨_, _, pre6 _ ?_, hrun, hended, _, _, rfl, ?_, hW.1, hW.2.1, hW.2.2.1, hW.2.2.2.mono (by decide) (by decide)⟩
      · show Steps p.tables e below (T4.setTop (mkF m 28 #[.val (.int s'), .val (.int p1'), .val (.int p2'), .val (.int p3'), .val (.int (s' &&& (7 : Int32))), .val (.ref r'), .unset] [])) _
        refine XS.aload X4.here hx rfl (hb hby at_28) rfl rfl ?_
        show Steps p.tables e below (T4.setTop (mkF m 30 #[.val (.int s'), .val (.int p1'), .val (.int p2'), .val (.int p3'), .val (.int (s' &&& (7 : Int32))), .val (.ref r'), .unset] [(.ref r')])) _
        refine st9 _ ?_
        show Steps p.tables e below (T9.setTop (mkF m 33 #[.val (.int s'), .val (.int p1'), .val (.int p2'), .val (.int p3'), .val (.int (s' &&& (7 : Int32))), .val (.ref r'), .unset] [(.ref r')])) _
        refine XS.astore X9.here hx rfl (hb hby at_33) rfl rfl (l' := #[.val (.int s'), .val (.int p1'), .val (.int p2'), .val (.int p3'), .val (.int (s' &&& (7 : Int32))), .val (.ref r'), .val (.ref r')]) rfl ?_
        show Steps p.tables e below (T9.setTop (mkF m 35 #[.val (.int s'), .val (.int p1'), .val (.int p2'), .val (.int p3'), .val (.int (s' &&& (7 : Int32))), .val (.ref r'), .val (.ref r')] [])) _
        refine XS.aload X9.here hx rfl (hb hby at_35) rfl rfl ?_
        show Steps p.tables e below (T9.setTop (mkF m 37 #[.val (.int s'), .val (.int p1'), .val (.int p2'), .val (.int p3'), .val (.int (s' &&& (7 : Int32))), .val (.ref r'), .val (.ref r')] [(.ref r')])) _
        refine XS.ifnonnullYes X9.here hx rfl (pc0 := 37) (pc' := 51) rfl (hb hby at_37) rfl (by decide) (by decide) ?_
        show Steps p.tables e below (T9.setTop (mkF m 51 #[.val (.int s'), .val (.int p1'), .val (.int p2'), .val (.int p3'), .val (.int (s' &&& (7 : Int32))), .val (.ref r'), .val (.ref r')] [])) _
        refine XS.aload X9.here hx rfl (hb hby at_51) rfl rfl ?_
        show Steps p.tables e below (T9.setTop (mkF m 53 #[.val (.int s'), .val (.int p1'), .val (.int p2'), .val (.int p3'), .val (.int (s' &&& (7 : Int32))), .val (.ref r'), .val (.ref r')] [(.ref r')])) _
        refine st10.trans ?_
        show Steps p.tables e below (T10.setTop (mkF m 56 #[.val (.int s'), .val (.int p1'), .val (.int p2'), .val (.int p3'), .val (.int (s' &&& (7 : Int32))), .val (.ref r'), .val (.ref r')] [(.int (nq >>> ((nar .byte cq) &&& 31)))])) _
        refine XS.ifYes X10.here hx rfl (pc0 := 56) (pc' := 70) rfl (hb hby at_56) rfl ((if0 _ _).trans (feq (hRq.resolve_left hz).2).2) (by decide) (by decide) ?_
        show Steps p.tables e below (T10.setTop (mkF m 70 #[.val (.int s'), .val (.int p1'), .val (.int p2'), .val (.int p3'), .val (.int (s' &&& (7 : Int32))), .val (.ref r'), .val (.ref r')] [])) _
        refine XS.aload X10.here hx rfl (hb hby at_70) rfl rfl ?_
        show Steps p.tables e below (T10.setTop (mkF m 72 #[.val (.int s'), .val (.int p1'), .val (.int p2'), .val (.int p3'), .val (.int (s' &&& (7 : Int32))), .val (.ref r'), .val (.ref r')] [(.ref r')])) _
        refine XS.aload X10.here hx rfl (hb hby at_72) rfl rfl ?_
        show Steps p.tables e below (T10.setTop (mkF m 74 #[.val (.int s'), .val (.int p1'), .val (.int p2'), .val (.int p3'), .val (.int (s' &&& (7 : Int32))), .val (.ref r'), .val (.ref r')] [(.ref r'), (.ref r')])) _
        refine Jvm.RoadKit.acmp (g := (mkF m 74 #[.val (.int s'), .val (.int p1'), .val (.int p2'), .val (.int p3'), .val (.int (s' &&& (7 : Int32))), .val (.ref r'), .val (.ref r')] [(.ref r'), (.ref r')])) X10 hx rfl rfl rfl (pc0 := 74) (pc' := 77) (same := true) rfl (hb hby at_74) rfl (decide_eq_true rfl) (by decide) (by decide) ?_
        show Steps p.tables e below (T10.setTop (mkF m 77 #[.val (.int s'), .val (.int p1'), .val (.int p2'), .val (.int p3'), .val (.int (s' &&& (7 : Int32))), .val (.ref r'), .val (.ref r')] [])) _
        refine XS.iconst X10.here hx rfl (hb hby at_77) ?_
        show Steps p.tables e below (T10.setTop (mkF m 78 #[.val (.int s'), .val (.int p1'), .val (.int p2'), .val (.int p3'), .val (.int (s' &&& (7 : Int32))), .val (.ref r'), .val (.ref r')] [(.int (1 : Int32))])) _
        refine XS.goto X10.here hx rfl (pc0 := 78) (pc' := 82) rfl (hb hby at_78) (by decide) (by decide) ?_
        show Steps p.tables e below (T10.setTop (mkF m 82 #[.val (.int s'), .val (.int p1'), .val (.int p2'), .val (.int p3'), .val (.int (s' &&& (7 : Int32))), .val (.ref r'), .val (.ref r')] [(.int (1 : Int32))])) _
        exact retN X10 hx (t := .boolean) Bd.returns (by simp) (hb hby at_82) hr
      · show Q0 Z s' p1' p2' p3' cs' h0 n0 _ T10.heap _
        rw [hh10]
        exact ⟨rfl, N10⟩
set_option maxRecDepth 65536 in
set_option maxHeartbeats 40000000 in
theorem comes_1 {Post : Tables → Env → Array Value → State → Outcome → State → Prop} (hpost : ∀ tb e args s v u, (limb_1_1.after args s (.returned v) u = true ∧ limb_1_2.after args s (.returned v) u = true ∧ True) → ReturnedEndW s (.returned v) u (Jvm.fieldLocs frame_1_writes args s ++ Jvm.arrayLocs frame_1_arrays args s ++ Jvm.staticLocs frame_1_statics s) 24 1152 → Post tb e args s (.returned v) u) :
    ArmFor flags0 classFile x code maxLocals ret World_1 tables_1 room_1 Calls_1 rest_1 Pre_1 Post := by
  intro l hfl _ _ p e ha hc hk s m args below hf hA hF happ hP
  obtain ⟨hcalls, hrest, hpre⟩ := hP
  obtain ⟨-, -, -, hnamed, -, -, -, hat⟩ := (Spec.applies_iff hf).mp happ
  obtain ⟨hg, hn⟩ := and_e (Cond.before_iff.mp (show (Jvm.Cond.and given_1 narrow_1).before args s = true from hpre))
  obtain ⟨hcount, gr0⟩ := and_e hg
  obtain ⟨ga0, gr1⟩ := and_e gr0
  obtain ⟨ga1, gr2⟩ := and_e gr1
  obtain ⟨ga2, ga3⟩ := and_e gr2
  obtain ⟨w0, w1, w2, w3, rfl⟩ : ∃ w0 w1 w2 w3 : Value, args = #[w0, w1, w2, w3] := by
    have hs : args.size = 4 := by simpa [Cond.value, given_1] using hcount
    obtain ⟨L⟩ := args
    match L, hs with
    | [w0, w1, w2, w3], _ => exact ⟨w0, w1, w2, w3, rfl⟩
  have hw := fun d (hd : d ∈ tables_1) => atoms_spec (ws := Jvm.Cond.code x code maxLocals ret :: tables_1) hat d (List.mem_cons_of_mem _ hd)
  have hfit : Fit s := fun {y c} hc i hi => by
    obtain ⟨ha, rfl⟩ := Array.getElem?_eq_some_iff.mp hc
    have q := List.all_eq_true.mp ((Array.all_eq_true_iff_forall_mem.mp hF) _ (Array.getElem_mem ha)) i (List.mem_range.mpr hi)
    simpa [Array.getElem?_eq_getElem hi] using q
  obtain ⟨hsets, hown0⟩ := atoms_of _ (rest_1_c_eq ▸ (show rest_1_c.before _ s = true from hrest))
  have hr0 := Cond.before_iff.mp hown0
  obtain ⟨i0, ei0⟩ := is_v ga0
  obtain rfl : w0 = (.int i0) := Option.some.inj ei0
  obtain ⟨i1, ei1⟩ := is_v ga1
  obtain rfl : w1 = (.int i1) := Option.some.inj ei1
  obtain ⟨i2, ei2⟩ := is_v ga2
  obtain rfl : w2 = (.int i2) := Option.some.inj ei2
  obtain ⟨i3, ei3⟩ := is_v ga3
  obtain rfl : w3 = (.int i3) := Option.some.inj ei3
  obtain ⟨cs, ecs⟩ := is_v (Cond.before_iff.mp (hsets _ (List.mem_of_getElem? (i := 1) rfl)))
  have hcs := own_ne ecs (Cond.before_iff.mp (hsets _ (List.mem_of_getElem? (i := 2) rfl)))
  obtain ⟨n, o, h1, h2, h3, _, L, rfl, ⟨rfl, N⟩, hq⟩ := rm0 l s _ hw tables_1 i0 i1 i2 i3 cs s.heap s.heap.size (Nat.le_refl _) (Old.start s) (Sta.start ecs (Or.inl (hsets _ (List.mem_of_getElem? (i := 0) rfl)))) (Sta.start (own_eq (Cond.before_iff.mp (hsets _ (List.mem_of_getElem? (i := 12) rfl)))) (Or.inl (hsets _ (List.mem_of_getElem? (i := 11) rfl)))) (Sta.start (own_eq (Cond.before_iff.mp (hsets _ (List.mem_of_getElem? (i := 15) rfl)))) (Or.inl (hsets _ (List.mem_of_getElem? (i := 14) rfl)))) (Sta.start (own_eq (Cond.before_iff.mp (hsets _ (List.mem_of_getElem? (i := 18) rfl)))) (Or.inl (hsets _ (List.mem_of_getElem? (i := 17) rfl)))) hcs p e ha hc hk s m _ below hf ((Spec.applies_iff_loose hf).mp happ).1 ⟨rfl, State.Warmed39.refl s, rfl, CHv.start (own_ew hw) (fun p hp => hcalls.1 p hp) (hsets _ (List.mem_of_getElem? (i := 2) rfl)) (hw _ (List.mem_of_getElem? (i := 27) rfl)) (hw _ (List.mem_of_getElem? (i := 9) rfl))⟩ trivial
  refine ⟨n, _, h1, h2, h3, hpost _ _ _ _ _ _ ⟨Cond.after_iff.mpr rfl, Cond.after_iff.mpr (eq_i res_at (Term.int_eval (1)) rfl), trivial⟩ ⟨hq.1, hq.2.1, hq.2.2.1, (hq.2.2.2.sift fun y hy => Or.inr (N y hy)).mono (by decide) (by decide)⟩⟩
theorem main_1_1 : Claimed_1_1 := comes_1 fun _ _ _ _ _ _ h hF => ⟨h.1, hF⟩
theorem main_1_2 : Claimed_1_2 := comes_1 fun _ _ _ _ _ _ h hF => ⟨h.2.1, hF⟩
end Jvm.Pilot.@@N@@
namespace Jvm.Pilot.@@N@@
open Jvm Jvm.ClassFile Sem Op Lib Jvm.Free Jvm.Stand Jvm.Pilot.@@N@@.Jvm.D
/-! MADE BY PROGRAM (witnessworld.py) out of the Statement's table words and the real class files: 20 classes; the members and pool entries that the words name. The judged class is class 1, her method 2. -/
namespace start1
open Jvm.ClassFile
def u (s : String) : CpInfo := .utf8 (stringToUtf16 s)
/-- a pool by its gaps: so many unusable entries, then the entry; so many at the end -/
def gap : Nat → List CpInfo → List CpInfo
  | 0, r => r
  | n + 1, r => .unusable :: gap n r
def poolList (es : List (Nat × CpInfo)) (last : Nat) : List CpInfo := es.foldr (fun e r => gap e.1 (e.2 :: r)) (gap last [])
def pool (es : List (Nat × CpInfo)) (last : Nat) : Array CpInfo := ⟨poolList es last⟩
def fileOf (pool : Array CpInfo) (this : Nat) (attrs : Array Attribute := #[]) (ms : Array MethodInfo := #[]) (fl : Nat := 33) (sup : Nat := 0) (ifs : Array Nat := #[]) (fds : Array FieldInfo := #[]) : ClassFile where
  minorVersion := 0
  majorVersion := 65
  constantPool := pool
  accessFlags := fl
  thisClass := this
  superClass := sup
  interfaces := ifs
  fields := fds
  methods := ms
  attributes := attrs
def plain (name : String) (sup : Option ClassId) : Class where
  name := name
  kind := .ordinary
  loader := none
  accessFlags := 33
  super := sup
  interfaces := #[]
  cf := none
  fields := #[]
  methods := #[]
  instanceTypes := #[]
  staticTypes := #[]
  resolved := #[]
  callSites := []
  init := .initialized
  statics := none
  mirror := none

def pool0 : Array CpInfo := pool [(5, u "<init>"), (0, u "()V"), (1, .class_ 10), (1, u "java/lang/Object")] 113

def k0c0 : Code := { maxStack := 0, maxLocals := 1, code := object_method_1_code, exceptionTable := #[], attributes := #[] }
def k0m0 : Method := { name := "<init>", desc := "()V", sig := { parameters := [], returnType := none }, accessFlags := 1, code := some k0c0 }
/-- java/lang/Object -/
def k0 : Class := { plain "java/lang/Object" none with
  accessFlags := 33
  interfaces := #[]
  cf := some (fileOf pool0 8 #[] #[{ accessFlags := 1, nameIndex := 5, descriptorIndex := 6, attributes := #[] }] 33 0 #[] #[])
  fields := #[]
  methods := #[k0m0]
  instanceTypes := #[]
  staticTypes := #[]
  resolved := Array.replicate 124 none
  statics := none }

def pool1 : Array CpInfo := pool [(2, .class_ 4), (1, u "java/lang/Object"), (0, u "<init>"), (0, u "()V"), (0, .class_ 8), (0, u "java/lang/String"), (0, .methodref 7 10), (0, .nameAndType 5 11), (0, u "([C)V"), (0, .methodref 13 14), (0, .class_ 15), (0, .nameAndType 16 17), (0, u "com/example/inject2/inject2/xml/BeanFileReaderNonEmptyPinLaw"), (0, u "make"), (0, u "(IIII)Ljava/lang/String;"), (0, .methodref 19 20), (0, .class_ 21), (0, .nameAndType 22 23), (0, u "com/example/inject2/inject2/xml/BeanFileReader"), (0, u "nonEmpty"), (0, u "(Ljava/lang/String;)Ljava/lang/String;"), (0, .methodref 7 25), (0, .nameAndType 26 27), (0, u "length"), (0, u "()I"), (3, u "law"), (0, u "(IIII)Z")] 2

def k1m0 : Method := { name := "<init>", desc := "()V", sig := { parameters := [], returnType := none }, accessFlags := 2, code := none }
def k1c1 : Code := { maxStack := 6, maxLocals := 4, code := method_2_code, exceptionTable := #[], attributes := #[] }
def k1m1 : Method := { name := "make", desc := "(IIII)Ljava/lang/String;", sig := { parameters := [.int, .int, .int, .int], returnType := some (.object "java/lang/String") }, accessFlags := 10, code := some k1c1 }
def k1c2 : Code := { maxStack := 4, maxLocals := 7, code := code, exceptionTable := #[], attributes := #[] }
def k1m2 : Method := { name := "law", desc := "(IIII)Z", sig := { parameters := [.int, .int, .int, .int], returnType := some .boolean }, accessFlags := 9, code := some k1c2 }
/-- com/example/inject2/inject2/xml/BeanFileReaderNonEmptyPinLaw -/
def k1 : Class := { plain "com/example/inject2/inject2/xml/BeanFileReaderNonEmptyPinLaw" (some 0) with
  accessFlags := 49
  interfaces := #[]
  cf := some (fileOf pool1 13 #[] #[{ accessFlags := 2, nameIndex := 5, descriptorIndex := 6, attributes := #[] }, { accessFlags := 10, nameIndex := 16, descriptorIndex := 17, attributes := #[] }, { accessFlags := 9, nameIndex := 31, descriptorIndex := 32, attributes := #[] }] 49 2 #[] #[])
  fields := #[]
  methods := #[k1m0, k1m1, k1m2]
  instanceTypes := #[]
  staticTypes := #[]
  resolved := Array.replicate 35 none
  statics := none }

def pool2 : Array CpInfo := pool [(2, .class_ 4), (1, u "java/lang/Object"), (2, .class_ 8), (0, u "com/example/inject2/inject2/xml/BeanFileReader"), (4, u "defaultAutowire"), (0, u "Ljava/lang/String;"), (5, u "localReferences"), (0, u "Ljava/util/List;"), (2, u "BEAN_ATTRIBUTES"), (0, u "[Ljava/lang/String;"), (0, .class_ 27), (0, u "java/lang/String"), (2, u "beanValues"), (2, u "CONSTRUCTOR_ARG_ATTRIBUTES"), (2, u "argumentValues"), (2, u "PROPERTY_ATTRIBUTES"), (2, u "propertyValues"), (2, u "file"), (0, u "Ljava/nio/file/Path;"), (2, u "xml"), (0, u "Lcom/example/inject2/inject2/xml/XmlScanner;"), (46, u "(Ljava/lang/String;)Ljava/lang/String;"), (82, u "()Z"), (7, u "coreNamespace"), (8, u "ROOT_ATTRIBUTES"), (0, u "Ljava/util/Set;"), (12, u "defaultLazyInit"), (0, u "Z"), (17, u "candidatePatterns"), (0, u "Lcom/example/inject2/inject2/xml/NamePatterns;"), (4, u "nonEmpty"), (2, u "defaultInitMethod"), (4, u "defaultDestroyMethod"), (19, u "extensions"), (19, .class_ 285), (0, u "com/example/inject2/inject2/xml/BeanFileReader$LocalReference"), (24, u "Lcom/example/inject2/inject2/xml/Extensions;"), (12, .nameAndType 324 180), (0, u "isEmpty"), (96, .class_ 422), (0, u "com/example/inject2/inject2/xml/BeanFileReader$Keys"), (61, u "QUALIFIER_ATTRIBUTES"), (49, u "VALUE_CHOICES"), (28, u "nesting"), (0, u "I"), (9, u "MERGEABLE"), (44, u "IDREF_ATTRIBUTES"), (45, u "VALUE_ATTRIBUTES"), (15, u "REF_ATTRIBUTES"), (5, u "TARGET_ATTRIBUTES"), (12, u "COLLECTION_ATTRIBUTES"), (8, u "MAP_ATTRIBUTES"), (14, u "ENTRY_ATTRIBUTES"), (9, u "KEY_CHOICES"), (4, u "ENTRY_VALUE_CHOICES"), (13, u "PROPS_ATTRIBUTES"), (4, u "PROP_ATTRIBUTES"), (35, .methodref 26 323), (97, u "ID"), (2, u "NAME"), (1, u "CLASS"), (1, u "PARENT"), (1, u "ABSTRACT"), (1, u "SCOPE"), (1, u "LAZY_INIT"), (1, u "DEPENDS_ON"), (1, u "INIT_METHOD"), (1, u "DESTROY_METHOD"), (1, u "AUTOWIRE"), (1, u "AUTOWIRE_CANDIDATE"), (1, u "PRIMARY"), (1, u "ARGUMENT_INDEX"), (0, u "ARGUMENT_VALUE"), (0, u "ARGUMENT_REF"), (0, u "ARGUMENT_TYPE"), (0, u "ARGUMENT_NAME"), (0, u "PROPERTY_NAME"), (0, u "PROPERTY_VALUE"), (0, u "PROPERTY_REF"), (1, u "DEFAULT"), (0, u "NO_AUTOWIRE"), (0, u "VALUE_ELEMENT"), (0, u "MAX_NESTING")] 125

def k2c0 : Code := { maxStack := 1, maxLocals := 1, code := prog_143_method_56_code, exceptionTable := #[], attributes := #[] }
def k2m0 : Method := { name := "nonEmpty", desc := "(Ljava/lang/String;)Ljava/lang/String;", sig := { parameters := [(.object "java/lang/String")], returnType := some (.object "java/lang/String") }, accessFlags := 8, code := some k2c0 }
/-- com/example/inject2/inject2/xml/BeanFileReader -/
def k2 : Class := { plain "com/example/inject2/inject2/xml/BeanFileReader" (some 0) with
  accessFlags := 49
  interfaces := #[]
  cf := some (fileOf pool2 7 #[.nestMembers #[421, 284]] #[{ accessFlags := 8, nameIndex := 236, descriptorIndex := 97, attributes := #[] }] 49 2 #[] #[{ accessFlags := 26, nameIndex := 197, descriptorIndex := 198, attributes := #[] }, { accessFlags := 26, nameIndex := 24, descriptorIndex := 25, attributes := #[] }, { accessFlags := 26, nameIndex := 892, descriptorIndex := 564, attributes := #[] }, { accessFlags := 26, nameIndex := 895, descriptorIndex := 564, attributes := #[] }, { accessFlags := 26, nameIndex := 897, descriptorIndex := 564, attributes := #[] }, { accessFlags := 26, nameIndex := 899, descriptorIndex := 564, attributes := #[] }, { accessFlags := 26, nameIndex := 901, descriptorIndex := 564, attributes := #[] }, { accessFlags := 26, nameIndex := 903, descriptorIndex := 564, attributes := #[] }, { accessFlags := 26, nameIndex := 905, descriptorIndex := 564, attributes := #[] }, { accessFlags := 26, nameIndex := 907, descriptorIndex := 564, attributes := #[] }, { accessFlags := 26, nameIndex := 909, descriptorIndex := 564, attributes := #[] }, { accessFlags := 26, nameIndex := 911, descriptorIndex := 564, attributes := #[] }, { accessFlags := 26, nameIndex := 913, descriptorIndex := 564, attributes := #[] }, { accessFlags := 26, nameIndex := 915, descriptorIndex := 564, attributes := #[] }, { accessFlags := 26, nameIndex := 917, descriptorIndex := 564, attributes := #[] }, { accessFlags := 26, nameIndex := 33, descriptorIndex := 25, attributes := #[] }, { accessFlags := 26, nameIndex := 919, descriptorIndex := 564, attributes := #[] }, { accessFlags := 26, nameIndex := 920, descriptorIndex := 564, attributes := #[] }, { accessFlags := 26, nameIndex := 921, descriptorIndex := 564, attributes := #[] }, { accessFlags := 26, nameIndex := 922, descriptorIndex := 564, attributes := #[] }, { accessFlags := 26, nameIndex := 923, descriptorIndex := 564, attributes := #[] }, { accessFlags := 26, nameIndex := 39, descriptorIndex := 25, attributes := #[] }, { accessFlags := 26, nameIndex := 924, descriptorIndex := 564, attributes := #[] }, { accessFlags := 26, nameIndex := 925, descriptorIndex := 564, attributes := #[] }, { accessFlags := 26, nameIndex := 926, descriptorIndex := 564, attributes := #[] }, { accessFlags := 26, nameIndex := 665, descriptorIndex := 198, attributes := #[] }, { accessFlags := 26, nameIndex := 681, descriptorIndex := 198, attributes := #[] }, { accessFlags := 26, nameIndex := 619, descriptorIndex := 198, attributes := #[] }, { accessFlags := 26, nameIndex := 687, descriptorIndex := 21, attributes := #[] }, { accessFlags := 26, nameIndex := 574, descriptorIndex := 198, attributes := #[] }, { accessFlags := 26, nameIndex := 700, descriptorIndex := 198, attributes := #[] }, { accessFlags := 26, nameIndex := 709, descriptorIndex := 198, attributes := #[] }, { accessFlags := 26, nameIndex := 753, descriptorIndex := 198, attributes := #[] }, { accessFlags := 26, nameIndex := 724, descriptorIndex := 198, attributes := #[] }, { accessFlags := 26, nameIndex := 758, descriptorIndex := 198, attributes := #[] }, { accessFlags := 26, nameIndex := 484, descriptorIndex := 198, attributes := #[] }, { accessFlags := 26, nameIndex := 928, descriptorIndex := 14, attributes := #[] }, { accessFlags := 26, nameIndex := 929, descriptorIndex := 14, attributes := #[] }, { accessFlags := 26, nameIndex := 930, descriptorIndex := 14, attributes := #[] }, { accessFlags := 26, nameIndex := 534, descriptorIndex := 14, attributes := #[] }, { accessFlags := 26, nameIndex := 734, descriptorIndex := 14, attributes := #[] }, { accessFlags := 26, nameIndex := 739, descriptorIndex := 14, attributes := #[] }, { accessFlags := 26, nameIndex := 931, descriptorIndex := 564, attributes := #[] }, { accessFlags := 18, nameIndex := 45, descriptorIndex := 46, attributes := #[] }, { accessFlags := 18, nameIndex := 49, descriptorIndex := 50, attributes := #[] }, { accessFlags := 2, nameIndex := 188, descriptorIndex := 14, attributes := #[] }, { accessFlags := 2, nameIndex := 264, descriptorIndex := 310, attributes := #[] }, { accessFlags := 2, nameIndex := 211, descriptorIndex := 212, attributes := #[] }, { accessFlags := 2, nameIndex := 13, descriptorIndex := 14, attributes := #[] }, { accessFlags := 2, nameIndex := 230, descriptorIndex := 231, attributes := #[] }, { accessFlags := 2, nameIndex := 239, descriptorIndex := 14, attributes := #[] }, { accessFlags := 2, nameIndex := 244, descriptorIndex := 14, attributes := #[] }, { accessFlags := 2, nameIndex := 563, descriptorIndex := 564, attributes := #[] }, { accessFlags := 18, nameIndex := 20, descriptorIndex := 21, attributes := #[] }, { accessFlags := 18, nameIndex := 30, descriptorIndex := 25, attributes := #[] }, { accessFlags := 18, nameIndex := 36, descriptorIndex := 25, attributes := #[] }, { accessFlags := 18, nameIndex := 42, descriptorIndex := 25, attributes := #[] }])
  fields := #[{ name := "ROOT_ATTRIBUTES", type := (.object "java/util/Set"), accessFlags := 26, slot := 0, constantValue := 0 }, { name := "BEAN_ATTRIBUTES", type := (.array (.object "java/lang/String")), accessFlags := 26, slot := 1, constantValue := 0 }, { name := "ID", type := .int, accessFlags := 26, slot := 2, constantValue := 0 }, { name := "NAME", type := .int, accessFlags := 26, slot := 3, constantValue := 0 }, { name := "CLASS", type := .int, accessFlags := 26, slot := 4, constantValue := 0 }, { name := "PARENT", type := .int, accessFlags := 26, slot := 5, constantValue := 0 }, { name := "ABSTRACT", type := .int, accessFlags := 26, slot := 6, constantValue := 0 }, { name := "SCOPE", type := .int, accessFlags := 26, slot := 7, constantValue := 0 }, { name := "LAZY_INIT", type := .int, accessFlags := 26, slot := 8, constantValue := 0 }, { name := "DEPENDS_ON", type := .int, accessFlags := 26, slot := 9, constantValue := 0 }, { name := "INIT_METHOD", type := .int, accessFlags := 26, slot := 10, constantValue := 0 }, { name := "DESTROY_METHOD", type := .int, accessFlags := 26, slot := 11, constantValue := 0 }, { name := "AUTOWIRE", type := .int, accessFlags := 26, slot := 12, constantValue := 0 }, { name := "AUTOWIRE_CANDIDATE", type := .int, accessFlags := 26, slot := 13, constantValue := 0 }, { name := "PRIMARY", type := .int, accessFlags := 26, slot := 14, constantValue := 0 }, { name := "CONSTRUCTOR_ARG_ATTRIBUTES", type := (.array (.object "java/lang/String")), accessFlags := 26, slot := 15, constantValue := 0 }, { name := "ARGUMENT_INDEX", type := .int, accessFlags := 26, slot := 16, constantValue := 0 }, { name := "ARGUMENT_VALUE", type := .int, accessFlags := 26, slot := 17, constantValue := 0 }, { name := "ARGUMENT_REF", type := .int, accessFlags := 26, slot := 18, constantValue := 0 }, { name := "ARGUMENT_TYPE", type := .int, accessFlags := 26, slot := 19, constantValue := 0 }, { name := "ARGUMENT_NAME", type := .int, accessFlags := 26, slot := 20, constantValue := 0 }, { name := "PROPERTY_ATTRIBUTES", type := (.array (.object "java/lang/String")), accessFlags := 26, slot := 21, constantValue := 0 }, { name := "PROPERTY_NAME", type := .int, accessFlags := 26, slot := 22, constantValue := 0 }, { name := "PROPERTY_VALUE", type := .int, accessFlags := 26, slot := 23, constantValue := 0 }, { name := "PROPERTY_REF", type := .int, accessFlags := 26, slot := 24, constantValue := 0 }, { name := "VALUE_ATTRIBUTES", type := (.object "java/util/Set"), accessFlags := 26, slot := 25, constantValue := 0 }, { name := "REF_ATTRIBUTES", type := (.object "java/util/Set"), accessFlags := 26, slot := 26, constantValue := 0 }, { name := "IDREF_ATTRIBUTES", type := (.object "java/util/Set"), accessFlags := 26, slot := 27, constantValue := 0 }, { name := "TARGET_ATTRIBUTES", type := (.object "java/util/List"), accessFlags := 26, slot := 28, constantValue := 0 }, { name := "MERGEABLE", type := (.object "java/util/Set"), accessFlags := 26, slot := 29, constantValue := 0 }, { name := "COLLECTION_ATTRIBUTES", type := (.object "java/util/Set"), accessFlags := 26, slot := 30, constantValue := 0 }, { name := "MAP_ATTRIBUTES", type := (.object "java/util/Set"), accessFlags := 26, slot := 31, constantValue := 0 }, { name := "PROPS_ATTRIBUTES", type := (.object "java/util/Set"), accessFlags := 26, slot := 32, constantValue := 0 }, { name := "ENTRY_ATTRIBUTES", type := (.object "java/util/Set"), accessFlags := 26, slot := 33, constantValue := 0 }, { name := "PROP_ATTRIBUTES", type := (.object "java/util/Set"), accessFlags := 26, slot := 34, constantValue := 0 }, { name := "QUALIFIER_ATTRIBUTES", type := (.object "java/util/Set"), accessFlags := 26, slot := 35, constantValue := 0 }, { name := "DEFAULT", type := (.object "java/lang/String"), accessFlags := 26, slot := 36, constantValue := 0 }, { name := "NO_AUTOWIRE", type := (.object "java/lang/String"), accessFlags := 26, slot := 37, constantValue := 0 }, { name := "VALUE_ELEMENT", type := (.object "java/lang/String"), accessFlags := 26, slot := 38, constantValue := 0 }, { name := "VALUE_CHOICES", type := (.object "java/lang/String"), accessFlags := 26, slot := 39, constantValue := 0 }, { name := "KEY_CHOICES", type := (.object "java/lang/String"), accessFlags := 26, slot := 40, constantValue := 0 }, { name := "ENTRY_VALUE_CHOICES", type := (.object "java/lang/String"), accessFlags := 26, slot := 41, constantValue := 0 }, { name := "MAX_NESTING", type := .int, accessFlags := 26, slot := 42, constantValue := 0 }, { name := "file", type := (.object "java/nio/file/Path"), accessFlags := 18, slot := 0, constantValue := 0 }, { name := "xml", type := (.object "com/example/inject2/inject2/xml/XmlScanner"), accessFlags := 18, slot := 1, constantValue := 0 }, { name := "coreNamespace", type := (.object "java/lang/String"), accessFlags := 2, slot := 2, constantValue := 0 }, { name := "extensions", type := (.object "com/example/inject2/inject2/xml/Extensions"), accessFlags := 2, slot := 3, constantValue := 0 }, { name := "defaultLazyInit", type := .boolean, accessFlags := 2, slot := 4, constantValue := 0 }, { name := "defaultAutowire", type := (.object "java/lang/String"), accessFlags := 2, slot := 5, constantValue := 0 }, { name := "candidatePatterns", type := (.object "com/example/inject2/inject2/xml/NamePatterns"), accessFlags := 2, slot := 6, constantValue := 0 }, { name := "defaultInitMethod", type := (.object "java/lang/String"), accessFlags := 2, slot := 7, constantValue := 0 }, { name := "defaultDestroyMethod", type := (.object "java/lang/String"), accessFlags := 2, slot := 8, constantValue := 0 }, { name := "nesting", type := .int, accessFlags := 2, slot := 9, constantValue := 0 }, { name := "localReferences", type := (.object "java/util/List"), accessFlags := 18, slot := 10, constantValue := 0 }, { name := "beanValues", type := (.array (.object "java/lang/String")), accessFlags := 18, slot := 11, constantValue := 0 }, { name := "argumentValues", type := (.array (.object "java/lang/String")), accessFlags := 18, slot := 12, constantValue := 0 }, { name := "propertyValues", type := (.array (.object "java/lang/String")), accessFlags := 18, slot := 13, constantValue := 0 }]
  methods := #[k2m0]
  instanceTypes := #[(.object "java/nio/file/Path"), (.object "com/example/inject2/inject2/xml/XmlScanner"), (.object "java/lang/String"), (.object "com/example/inject2/inject2/xml/Extensions"), .boolean, (.object "java/lang/String"), (.object "com/example/inject2/inject2/xml/NamePatterns"), (.object "java/lang/String"), (.object "java/lang/String"), .int, (.object "java/util/List"), (.array (.object "java/lang/String")), (.array (.object "java/lang/String")), (.array (.object "java/lang/String"))]
  staticTypes := #[(.object "java/util/Set"), (.array (.object "java/lang/String")), .int, .int, .int, .int, .int, .int, .int, .int, .int, .int, .int, .int, .int, (.array (.object "java/lang/String")), .int, .int, .int, .int, .int, (.array (.object "java/lang/String")), .int, .int, .int, (.object "java/util/Set"), (.object "java/util/Set"), (.object "java/util/Set"), (.object "java/util/List"), (.object "java/util/Set"), (.object "java/util/Set"), (.object "java/util/Set"), (.object "java/util/Set"), (.object "java/util/Set"), (.object "java/util/Set"), (.object "java/util/Set"), (.object "java/lang/String"), (.object "java/lang/String"), (.object "java/lang/String"), (.object "java/lang/String"), (.object "java/lang/String"), (.object "java/lang/String"), .int]
  resolved := Array.replicate 1057 none
  statics := none }

def pool3 : Array CpInfo := pool [(1, .class_ 2), (0, u "java/io/Serializable"), (0, .class_ 4), (0, u "java/lang/Object")] 2

/-- java/io/Serializable -/
def k3 : Class := { plain "java/io/Serializable" (some 0) with
  accessFlags := 1537
  interfaces := #[]
  cf := some (fileOf pool3 1 #[] #[] 1537 3 #[] #[])
  fields := #[]
  methods := #[]
  instanceTypes := #[]
  staticTypes := #[]
  resolved := Array.replicate 7 none
  statics := none }

def pool4 : Array CpInfo := pool [(1, .class_ 2), (0, u "java/lang/Comparable"), (0, .class_ 4), (0, u "java/lang/Object")] 7

/-- java/lang/Comparable -/
def k4 : Class := { plain "java/lang/Comparable" (some 0) with
  accessFlags := 1537
  interfaces := #[]
  cf := some (fileOf pool4 1 #[] #[] 1537 3 #[] #[])
  fields := #[]
  methods := #[]
  instanceTypes := #[]
  staticTypes := #[]
  resolved := Array.replicate 12 none
  statics := none }

def pool5 : Array CpInfo := pool [(2, .class_ 4), (1, u "java/lang/CharSequence"), (42, .class_ 48), (0, u "java/lang/CharSequence$1CodePointIterator"), (10, .class_ 60), (0, u "java/lang/CharSequence$1CharIterator"), (5, .class_ 67), (0, u "java/lang/Object")] 63

/-- java/lang/CharSequence -/
def k5 : Class := { plain "java/lang/CharSequence" (some 0) with
  accessFlags := 1537
  interfaces := #[]
  cf := some (fileOf pool5 2 #[.nestMembers #[47, 59]] #[] 1537 66 #[] #[])
  fields := #[]
  methods := #[]
  instanceTypes := #[]
  staticTypes := #[]
  resolved := Array.replicate 131 none
  statics := none }

def pool6 : Array CpInfo := pool [(1, .class_ 2), (0, u "java/lang/constant/Constable"), (0, .class_ 4), (0, u "java/lang/Object")] 6

/-- java/lang/constant/Constable -/
def k6 : Class := { plain "java/lang/constant/Constable" (some 0) with
  accessFlags := 1537
  interfaces := #[]
  cf := some (fileOf pool6 1 #[] #[] 1537 3 #[] #[])
  fields := #[]
  methods := #[]
  instanceTypes := #[]
  staticTypes := #[]
  resolved := Array.replicate 11 none
  statics := none }

def pool7 : Array CpInfo := pool [(1, .class_ 2), (0, u "java/lang/constant/ConstantDesc"), (0, .class_ 4), (0, u "java/lang/Object")] 32

/-- java/lang/constant/ConstantDesc -/
def k7 : Class := { plain "java/lang/constant/ConstantDesc" (some 0) with
  accessFlags := 1537
  interfaces := #[]
  cf := some (fileOf pool7 1 #[] #[] 1537 3 #[] #[])
  fields := #[]
  methods := #[]
  instanceTypes := #[]
  staticTypes := #[]
  resolved := Array.replicate 37 none
  statics := none }

def pool8 : Array CpInfo := pool [(1, .methodref 2 3), (0, .class_ 4), (0, .nameAndType 5 6), (0, u "java/lang/Object"), (0, u "<init>"), (0, u "()V"), (0, .string 8), (0, u ""), (0, .fieldref 10 11), (0, .class_ 12), (0, .nameAndType 13 14), (0, u "java/lang/String"), (0, u "value"), (0, u "[B"), (0, .fieldref 10 16), (0, .nameAndType 17 18), (0, u "coder"), (0, u "B"), (2, u "hash"), (0, u "I"), (2, u "hashIsZero"), (0, u "Z"), (0, .methodref 10 28), (0, .nameAndType 5 29), (0, u "([CIILjava/lang/Void;)V"), (8, .fieldref 10 39), (0, .nameAndType 40 26), (0, u "COMPACT_STRINGS"), (1, .class_ 44), (1, u "java/lang/StringUTF16"), (0, u "compress"), (1, .methodref 42 48), (0, .nameAndType 49 50), (0, u "coderFromArrayLen"), (0, u "([BI)B"), (91, u "()Z"), (34, .methodref 42 178), (0, .nameAndType 45 179), (0, u "([CII)[B"), (154, u "()I"), (0, .methodref 10 336), (0, .nameAndType 17 337), (0, u "()B"), (169, u "length"), (67, .class_ 576), (0, u "java/lang/CharSequence"), (22, u "CASE_INSENSITIVE_ORDER"), (0, u "Ljava/util/Comparator;"), (91, u "isEmpty"), (317, u "([C)V"), (90, u "serialPersistentFields"), (0, u "[Ljava/io/ObjectStreamField;"), (0, .class_ 1104), (0, u "java/lang/String$CaseInsensitiveComparator"), (1, .class_ 1107), (0, u "java/io/Serializable"), (0, .class_ 1109), (0, u "java/lang/Comparable"), (0, .class_ 1111), (0, u "java/lang/constant/Constable"), (0, .class_ 1113), (0, u "java/lang/constant/ConstantDesc"), (2, u "serialVersionUID"), (0, u "J"), (3, u "REPL"), (0, u "C"), (2, u "LATIN1"), (1, u "UTF16")] 323

def k8m0 : Method := { name := "<init>", desc := "()V", sig := { parameters := [], returnType := none }, accessFlags := 1, code := none }
def k8c1 : Code := { maxStack := 5, maxLocals := 2, code := jdk_42_method_3_code, exceptionTable := #[], attributes := #[] }
def k8m1 : Method := { name := "<init>", desc := "([C)V", sig := { parameters := [(.array .char)], returnType := none }, accessFlags := 1, code := some k8c1 }
def k8c2 : Code := { maxStack := 2, maxLocals := 1, code := jdk_42_method_54_code, exceptionTable := #[], attributes := #[] }
def k8m2 : Method := { name := "length", desc := "()I", sig := { parameters := [], returnType := some .int }, accessFlags := 1, code := some k8c2 }
def k8c3 : Code := { maxStack := 1, maxLocals := 1, code := jdk_42_method_55_code, exceptionTable := #[], attributes := #[] }
def k8m3 : Method := { name := "isEmpty", desc := "()Z", sig := { parameters := [], returnType := some .boolean }, accessFlags := 1, code := some k8c3 }
def k8c4 : Code := { maxStack := 4, maxLocals := 6, code := jdk_42_method_149_code, exceptionTable := #[], attributes := #[] }
def k8m4 : Method := { name := "<init>", desc := "([CIILjava/lang/Void;)V", sig := { parameters := [(.array .char), .int, .int, (.object "java/lang/Void")], returnType := none }, accessFlags := 2, code := some k8c4 }
def k8c5 : Code := { maxStack := 1, maxLocals := 1, code := jdk_42_method_152_code, exceptionTable := #[], attributes := #[] }
def k8m5 : Method := { name := "coder", desc := "()B", sig := { parameters := [], returnType := some .byte }, accessFlags := 0, code := some k8c5 }
/-- java/lang/String -/
def k8 : Class := { plain "java/lang/String" (some 0) with
  accessFlags := 49
  interfaces := #[3, 4, 5, 6, 7]
  cf := some (fileOf pool8 10 #[.nestMembers #[1103]] #[{ accessFlags := 1, nameIndex := 5, descriptorIndex := 6, attributes := #[] }, { accessFlags := 1, nameIndex := 5, descriptorIndex := 1010, attributes := #[] }, { accessFlags := 1, nameIndex := 507, descriptorIndex := 334, attributes := #[] }, { accessFlags := 1, nameIndex := 692, descriptorIndex := 142, attributes := #[] }, { accessFlags := 2, nameIndex := 5, descriptorIndex := 29, attributes := #[] }, { accessFlags := 0, nameIndex := 17, descriptorIndex := 337, attributes := #[] }] 49 2 #[1106, 1108, 575, 1110, 1112] #[{ accessFlags := 18, nameIndex := 13, descriptorIndex := 14, attributes := #[] }, { accessFlags := 18, nameIndex := 17, descriptorIndex := 18, attributes := #[] }, { accessFlags := 2, nameIndex := 21, descriptorIndex := 22, attributes := #[] }, { accessFlags := 2, nameIndex := 25, descriptorIndex := 26, attributes := #[] }, { accessFlags := 26, nameIndex := 1116, descriptorIndex := 1117, attributes := #[] }, { accessFlags := 24, nameIndex := 40, descriptorIndex := 26, attributes := #[] }, { accessFlags := 26, nameIndex := 1101, descriptorIndex := 1102, attributes := #[] }, { accessFlags := 26, nameIndex := 1121, descriptorIndex := 1122, attributes := #[] }, { accessFlags := 25, nameIndex := 599, descriptorIndex := 600, attributes := #[] }, { accessFlags := 24, nameIndex := 1125, descriptorIndex := 18, attributes := #[] }, { accessFlags := 24, nameIndex := 1127, descriptorIndex := 18, attributes := #[] }])
  fields := #[{ name := "value", type := (.array .byte), accessFlags := 18, slot := 0, constantValue := 0 }, { name := "coder", type := .byte, accessFlags := 18, slot := 1, constantValue := 0 }, { name := "hash", type := .int, accessFlags := 2, slot := 2, constantValue := 0 }, { name := "hashIsZero", type := .boolean, accessFlags := 2, slot := 3, constantValue := 0 }, { name := "serialVersionUID", type := .long, accessFlags := 26, slot := 0, constantValue := 0 }, { name := "COMPACT_STRINGS", type := .boolean, accessFlags := 24, slot := 1, constantValue := 0 }, { name := "serialPersistentFields", type := (.array (.object "java/io/ObjectStreamField")), accessFlags := 26, slot := 2, constantValue := 0 }, { name := "REPL", type := .char, accessFlags := 26, slot := 3, constantValue := 0 }, { name := "CASE_INSENSITIVE_ORDER", type := (.object "java/util/Comparator"), accessFlags := 25, slot := 4, constantValue := 0 }, { name := "LATIN1", type := .byte, accessFlags := 24, slot := 5, constantValue := 0 }, { name := "UTF16", type := .byte, accessFlags := 24, slot := 6, constantValue := 0 }]
  methods := #[k8m0, k8m1, k8m2, k8m3, k8m4, k8m5]
  instanceTypes := #[(.array .byte), .byte, .int, .boolean]
  staticTypes := #[.long, .boolean, (.array (.object "java/io/ObjectStreamField")), .char, (.object "java/util/Comparator"), .byte, .byte]
  resolved := Array.replicate 1451 none
  statics := some 0 }

def pool9 : Array CpInfo := pool [(6, .class_ 8), (1, u "java/lang/Object"), (0, u "<init>"), (0, u "()V"), (0, .methodref 12 13), (0, .class_ 14), (0, .nameAndType 15 16), (0, u "java/lang/StringUTF16"), (0, u "newBytesLength"), (0, u "(I)I"), (3, .integer 1073741823), (23, .fieldref 12 45), (0, .nameAndType 46 47), (0, u "$assertionsDisabled"), (0, u "Z"), (11, .fieldref 12 60), (0, .nameAndType 61 62), (0, u "HI_BYTE_SHIFT"), (0, u "I"), (0, .fieldref 12 64), (0, .nameAndType 65 62), (0, u "LO_BYTE_SHIFT"), (5, .methodref 12 72), (0, .nameAndType 73 74), (0, u "getChar"), (0, u "([BI)C"), (32, .methodref 12 108), (0, .nameAndType 109 110), (0, u "newBytesFor"), (0, u "(I)[B"), (0, .methodref 12 112), (0, .nameAndType 113 114), (0, u "putChar"), (0, u "([BII)V"), (0, .methodref 12 116), (0, .nameAndType 117 118), (0, u "compress"), (0, u "([CI[BII)I"), (0, .methodref 12 120), (0, .nameAndType 121 122), (0, u "toBytes"), (0, u "([CII)[B"), (138, u "coderFromArrayLen"), (0, u "([BI)B"), (106, .class_ 371), (1, u "java/lang/StringUTF16$LinesSpliterator"), (58, u "MAX_LENGTH"), (196, .class_ 628), (0, u "java/lang/StringUTF16$CodePointsSpliterator"), (0, .class_ 630), (0, u "java/lang/StringUTF16$CharsSpliterator")] 4

def k9m0 : Method := { name := "<init>", desc := "()V", sig := { parameters := [], returnType := none }, accessFlags := 0, code := none }
def k9c1 : Code := { maxStack := 1, maxLocals := 1, code := jdk_52_method_2_code, exceptionTable := #[], attributes := #[] }
def k9m1 : Method := { name := "newBytesFor", desc := "(I)[B", sig := { parameters := [.int], returnType := some (.array .byte) }, accessFlags := 9, code := some k9c1 }
def k9c2 : Code := { maxStack := 4, maxLocals := 1, code := jdk_52_method_3_code, exceptionTable := #[], attributes := #[] }
def k9m2 : Method := { name := "newBytesLength", desc := "(I)I", sig := { parameters := [.int], returnType := some .int }, accessFlags := 9, code := some k9c2 }
def k9c3 : Code := { maxStack := 4, maxLocals := 3, code := jdk_52_method_4_code, exceptionTable := #[], attributes := #[] }
def k9m3 : Method := { name := "putChar", desc := "([BII)V", sig := { parameters := [(.array .byte), .int, .int], returnType := none }, accessFlags := 8, code := some k9c3 }
def k9c4 : Code := { maxStack := 3, maxLocals := 2, code := jdk_52_method_5_code, exceptionTable := #[], attributes := #[] }
def k9m4 : Method := { name := "getChar", desc := "([BI)C", sig := { parameters := [(.array .byte), .int], returnType := some .char }, accessFlags := 8, code := some k9c4 }
def k9c5 : Code := { maxStack := 4, maxLocals := 5, code := jdk_52_method_14_code, exceptionTable := #[], attributes := #[] }
def k9m5 : Method := { name := "toBytes", desc := "([CII)[B", sig := { parameters := [(.array .char), .int, .int], returnType := some (.array .byte) }, accessFlags := 9, code := some k9c5 }
def k9c6 : Code := { maxStack := 2, maxLocals := 2, code := jdk_52_method_15_code, exceptionTable := #[], attributes := #[] }
def k9m6 : Method := { name := "coderFromArrayLen", desc := "([BI)B", sig := { parameters := [(.array .byte), .int], returnType := some .byte }, accessFlags := 8, code := some k9c6 }
def k9c7 : Code := { maxStack := 5, maxLocals := 6, code := jdk_52_method_16_code, exceptionTable := #[], attributes := #[] }
def k9m7 : Method := { name := "compress", desc := "([CII)[B", sig := { parameters := [(.array .char), .int, .int], returnType := some (.array .byte) }, accessFlags := 9, code := some k9c7 }
def k9c8 : Code := { maxStack := 3, maxLocals := 7, code := jdk_52_method_21_code, exceptionTable := #[], attributes := #[] }
def k9m8 : Method := { name := "compress", desc := "([CI[BII)I", sig := { parameters := [(.array .char), .int, (.array .byte), .int, .int], returnType := some .int }, accessFlags := 9, code := some k9c8 }
/-- java/lang/StringUTF16 -/
def k9 : Class := { plain "java/lang/StringUTF16" (some 0) with
  accessFlags := 48
  interfaces := #[]
  cf := some (fileOf pool9 12 #[.nestMembers #[627, 629, 369]] #[{ accessFlags := 0, nameIndex := 9, descriptorIndex := 10, attributes := #[] }, { accessFlags := 9, nameIndex := 109, descriptorIndex := 110, attributes := #[] }, { accessFlags := 9, nameIndex := 15, descriptorIndex := 16, attributes := #[] }, { accessFlags := 8, nameIndex := 113, descriptorIndex := 114, attributes := #[] }, { accessFlags := 8, nameIndex := 73, descriptorIndex := 74, attributes := #[] }, { accessFlags := 9, nameIndex := 121, descriptorIndex := 122, attributes := #[] }, { accessFlags := 8, nameIndex := 261, descriptorIndex := 262, attributes := #[] }, { accessFlags := 9, nameIndex := 117, descriptorIndex := 122, attributes := #[] }, { accessFlags := 9, nameIndex := 117, descriptorIndex := 118, attributes := #[] }] 48 6 #[] #[{ accessFlags := 26, nameIndex := 61, descriptorIndex := 62, attributes := #[] }, { accessFlags := 26, nameIndex := 65, descriptorIndex := 62, attributes := #[] }, { accessFlags := 24, nameIndex := 430, descriptorIndex := 62, attributes := #[] }, { accessFlags := 4120, nameIndex := 46, descriptorIndex := 47, attributes := #[] }])
  fields := #[{ name := "HI_BYTE_SHIFT", type := .int, accessFlags := 26, slot := 0, constantValue := 0 }, { name := "LO_BYTE_SHIFT", type := .int, accessFlags := 26, slot := 1, constantValue := 0 }, { name := "MAX_LENGTH", type := .int, accessFlags := 24, slot := 2, constantValue := 0 }, { name := "$assertionsDisabled", type := .boolean, accessFlags := 4120, slot := 3, constantValue := 0 }]
  methods := #[k9m0, k9m1, k9m2, k9m3, k9m4, k9m5, k9m6, k9m7, k9m8]
  instanceTypes := #[]
  staticTypes := #[.int, .int, .int, .boolean]
  resolved := Array.replicate 635 none
  statics := some 1 }

def pool10 : Array CpInfo := pool [(4, .class_ 6), (1, u "java/lang/Object"), (0, u "<init>"), (0, u "()V"), (5, .class_ 16), (1, u "java/lang/StringLatin1"), (104, u "$assertionsDisabled"), (0, u "Z"), (98, .class_ 223), (1, u "java/lang/StringLatin1$LinesSpliterator"), (166, .class_ 391), (0, u "java/lang/StringLatin1$CharsSpliterator")] 3

def k10m0 : Method := { name := "<init>", desc := "()V", sig := { parameters := [], returnType := none }, accessFlags := 0, code := none }
/-- java/lang/StringLatin1 -/
def k10 : Class := { plain "java/lang/StringLatin1" (some 0) with
  accessFlags := 48
  interfaces := #[]
  cf := some (fileOf pool10 14 #[.nestMembers #[390, 221]] #[{ accessFlags := 0, nameIndex := 7, descriptorIndex := 8, attributes := #[] }] 48 4 #[] #[{ accessFlags := 4120, nameIndex := 121, descriptorIndex := 122, attributes := #[] }])
  fields := #[{ name := "$assertionsDisabled", type := .boolean, accessFlags := 4120, slot := 0, constantValue := 0 }]
  methods := #[k10m0]
  instanceTypes := #[]
  staticTypes := #[.boolean]
  resolved := Array.replicate 395 none
  statics := none }

def pool11 : Array CpInfo := pool [(2, .class_ 4), (1, u "java/lang/Object"), (0, u "<init>"), (0, u "()V"), (17, .class_ 26), (1, u "jdk/internal/util/Preconditions"), (28, .class_ 56), (0, u "jdk/internal/util/Preconditions$4"), (57, .class_ 115), (0, u "jdk/internal/util/Preconditions$1"), (7, u "SIOOBE_FORMATTER"), (0, u "Ljava/util/function/BiFunction;"), (0, .class_ 126), (0, u "jdk/internal/util/Preconditions$2"), (3, u "AIOOBE_FORMATTER"), (0, .class_ 132), (0, u "jdk/internal/util/Preconditions$3"), (3, u "IOOBE_FORMATTER")] 57

def k11m0 : Method := { name := "<init>", desc := "()V", sig := { parameters := [], returnType := none }, accessFlags := 1, code := none }
/-- jdk/internal/util/Preconditions -/
def k11 : Class := { plain "jdk/internal/util/Preconditions" (some 0) with
  accessFlags := 33
  interfaces := #[]
  cf := some (fileOf pool11 24 #[.nestMembers #[55, 131, 125, 114]] #[{ accessFlags := 1, nameIndex := 5, descriptorIndex := 6, attributes := #[] }] 33 2 #[] #[{ accessFlags := 25, nameIndex := 123, descriptorIndex := 124, attributes := #[] }, { accessFlags := 25, nameIndex := 130, descriptorIndex := 124, attributes := #[] }, { accessFlags := 25, nameIndex := 136, descriptorIndex := 124, attributes := #[] }])
  fields := #[{ name := "SIOOBE_FORMATTER", type := (.object "java/util/function/BiFunction"), accessFlags := 25, slot := 0, constantValue := 0 }, { name := "AIOOBE_FORMATTER", type := (.object "java/util/function/BiFunction"), accessFlags := 25, slot := 1, constantValue := 0 }, { name := "IOOBE_FORMATTER", type := (.object "java/util/function/BiFunction"), accessFlags := 25, slot := 2, constantValue := 0 }]
  methods := #[k11m0]
  instanceTypes := #[]
  staticTypes := #[(.object "java/util/function/BiFunction"), (.object "java/util/function/BiFunction"), (.object "java/util/function/BiFunction")]
  resolved := Array.replicate 194 none
  statics := some 2 }

def pool12 : Array CpInfo := pool [(9, u "<init>"), (6, .class_ 18), (1, u "java/lang/Object"), (0, u "()V"), (1, .class_ 23), (1, u "jdk/internal/util/ArraysSupport"), (0, u "LOG2_ARRAY_LONG_INDEX_SCALE"), (0, u "I"), (2, u "U"), (0, u "Ljdk/internal/misc/Unsafe;"), (8, u "BIG_ENDIAN"), (0, u "Z"), (8, u "LOG2_BYTE_BIT_SIZE"), (4, u "LOG2_ARRAY_INT_INDEX_SCALE"), (54, u "JLA"), (0, u "Ljdk/internal/access/JavaLangAccess;"), (11, u "LOG2_ARRAY_BOOLEAN_INDEX_SCALE"), (9, u "LOG2_ARRAY_BYTE_INDEX_SCALE"), (5, u "LOG2_ARRAY_CHAR_INDEX_SCALE"), (5, u "LOG2_ARRAY_SHORT_INDEX_SCALE"), (18, u "LOG2_ARRAY_FLOAT_INDEX_SCALE"), (24, u "LOG2_ARRAY_DOUBLE_INDEX_SCALE"), (89, u "T_BOOLEAN"), (2, u "T_CHAR"), (1, u "T_FLOAT"), (1, u "T_DOUBLE"), (1, u "T_BYTE"), (1, u "T_SHORT"), (1, u "T_INT"), (1, u "T_LONG"), (1, u "SOFT_MAX_ARRAY_LENGTH")] 83

def k12m0 : Method := { name := "<init>", desc := "()V", sig := { parameters := [], returnType := none }, accessFlags := 2, code := none }
/-- jdk/internal/util/ArraysSupport -/
def k12 : Class := { plain "jdk/internal/util/ArraysSupport" (some 0) with
  accessFlags := 33
  interfaces := #[]
  cf := some (fileOf pool12 21 #[] #[{ accessFlags := 2, nameIndex := 9, descriptorIndex := 19, attributes := #[] }] 33 16 #[] #[{ accessFlags := 24, nameIndex := 28, descriptorIndex := 29, attributes := #[] }, { accessFlags := 26, nameIndex := 38, descriptorIndex := 39, attributes := #[] }, { accessFlags := 25, nameIndex := 121, descriptorIndex := 25, attributes := #[] }, { accessFlags := 25, nameIndex := 131, descriptorIndex := 25, attributes := #[] }, { accessFlags := 25, nameIndex := 137, descriptorIndex := 25, attributes := #[] }, { accessFlags := 25, nameIndex := 143, descriptorIndex := 25, attributes := #[] }, { accessFlags := 25, nameIndex := 53, descriptorIndex := 25, attributes := #[] }, { accessFlags := 25, nameIndex := 24, descriptorIndex := 25, attributes := #[] }, { accessFlags := 25, nameIndex := 162, descriptorIndex := 25, attributes := #[] }, { accessFlags := 25, nameIndex := 187, descriptorIndex := 25, attributes := #[] }, { accessFlags := 26, nameIndex := 48, descriptorIndex := 25, attributes := #[] }, { accessFlags := 25, nameIndex := 277, descriptorIndex := 25, attributes := #[] }, { accessFlags := 25, nameIndex := 280, descriptorIndex := 25, attributes := #[] }, { accessFlags := 25, nameIndex := 282, descriptorIndex := 25, attributes := #[] }, { accessFlags := 25, nameIndex := 284, descriptorIndex := 25, attributes := #[] }, { accessFlags := 25, nameIndex := 286, descriptorIndex := 25, attributes := #[] }, { accessFlags := 25, nameIndex := 288, descriptorIndex := 25, attributes := #[] }, { accessFlags := 25, nameIndex := 290, descriptorIndex := 25, attributes := #[] }, { accessFlags := 25, nameIndex := 292, descriptorIndex := 25, attributes := #[] }, { accessFlags := 26, nameIndex := 108, descriptorIndex := 109, attributes := #[] }, { accessFlags := 25, nameIndex := 294, descriptorIndex := 25, attributes := #[] }])
  fields := #[{ name := "U", type := (.object "jdk/internal/misc/Unsafe"), accessFlags := 24, slot := 0, constantValue := 0 }, { name := "BIG_ENDIAN", type := .boolean, accessFlags := 26, slot := 1, constantValue := 0 }, { name := "LOG2_ARRAY_BOOLEAN_INDEX_SCALE", type := .int, accessFlags := 25, slot := 2, constantValue := 0 }, { name := "LOG2_ARRAY_BYTE_INDEX_SCALE", type := .int, accessFlags := 25, slot := 3, constantValue := 0 }, { name := "LOG2_ARRAY_CHAR_INDEX_SCALE", type := .int, accessFlags := 25, slot := 4, constantValue := 0 }, { name := "LOG2_ARRAY_SHORT_INDEX_SCALE", type := .int, accessFlags := 25, slot := 5, constantValue := 0 }, { name := "LOG2_ARRAY_INT_INDEX_SCALE", type := .int, accessFlags := 25, slot := 6, constantValue := 0 }, { name := "LOG2_ARRAY_LONG_INDEX_SCALE", type := .int, accessFlags := 25, slot := 7, constantValue := 0 }, { name := "LOG2_ARRAY_FLOAT_INDEX_SCALE", type := .int, accessFlags := 25, slot := 8, constantValue := 0 }, { name := "LOG2_ARRAY_DOUBLE_INDEX_SCALE", type := .int, accessFlags := 25, slot := 9, constantValue := 0 }, { name := "LOG2_BYTE_BIT_SIZE", type := .int, accessFlags := 26, slot := 10, constantValue := 0 }, { name := "T_BOOLEAN", type := .int, accessFlags := 25, slot := 11, constantValue := 0 }, { name := "T_CHAR", type := .int, accessFlags := 25, slot := 12, constantValue := 0 }, { name := "T_FLOAT", type := .int, accessFlags := 25, slot := 13, constantValue := 0 }, { name := "T_DOUBLE", type := .int, accessFlags := 25, slot := 14, constantValue := 0 }, { name := "T_BYTE", type := .int, accessFlags := 25, slot := 15, constantValue := 0 }, { name := "T_SHORT", type := .int, accessFlags := 25, slot := 16, constantValue := 0 }, { name := "T_INT", type := .int, accessFlags := 25, slot := 17, constantValue := 0 }, { name := "T_LONG", type := .int, accessFlags := 25, slot := 18, constantValue := 0 }, { name := "JLA", type := (.object "jdk/internal/access/JavaLangAccess"), accessFlags := 26, slot := 19, constantValue := 0 }, { name := "SOFT_MAX_ARRAY_LENGTH", type := .int, accessFlags := 25, slot := 20, constantValue := 0 }]
  methods := #[k12m0]
  instanceTypes := #[]
  staticTypes := #[(.object "jdk/internal/misc/Unsafe"), .boolean, .int, .int, .int, .int, .int, .int, .int, .int, .int, .int, .int, .int, .int, .int, .int, .int, .int, (.object "jdk/internal/access/JavaLangAccess"), .int]
  resolved := Array.replicate 378 none
  statics := none }

def pool13 : Array CpInfo := pool [(1, u "java/lang/Cloneable"), (0, .class_ 1), (0, u "java/lang/Object"), (0, .class_ 3)] 3

/-- java/lang/Cloneable -/
def k13 : Class := { plain "java/lang/Cloneable" (some 0) with
  accessFlags := 1537
  interfaces := #[]
  cf := some (fileOf pool13 2 #[] #[] 1537 4 #[] #[])
  fields := #[]
  methods := #[]
  instanceTypes := #[]
  staticTypes := #[]
  resolved := Array.replicate 8 none
  statics := none }

/-- the primitive byte -/
def k14 : Class := { plain "byte" none with kind := .primitive 'B', accessFlags := 0x411 }
/-- [B -/
def k15 : Class := { plain "[B" (some 0) with kind := .array 14 .byte, interfaces := #[13, 3], accessFlags := 1041 }

/-- the primitive char -/
def k16 : Class := { plain "char" none with kind := .primitive 'C', accessFlags := 0x411 }
/-- [C -/
def k17 : Class := { plain "[C" (some 0) with kind := .array 16 .char, interfaces := #[13, 3], accessFlags := 1041 }

/-- the primitive int -/
def k18 : Class := { plain "int" none with kind := .primitive 'I', accessFlags := 0x411 }
/-- [I -/
def k19 : Class := { plain "[I" (some 0) with kind := .array 18 .int, interfaces := #[13, 3], accessFlags := 1041 }

def heap : Heap := #[{ cls := 8, slots := #[.long 0, .int 1, .null, .int 0, .null, .int 0, .int 0], vm := .statics 8 },
  { cls := 9, slots := #[.int 0, .int 8, .int 0, .int 1], vm := .statics 9 },
  { cls := 11, slots := #[.null, .null, .null], vm := .statics 11 }]
def classes : Array Class := #[k0, k1, k2, k3, k4, k5, k6, k7, k8, k9, k10, k11, k12, k13, k14, k15, k16, k17, k18, k19]
def interned : List (Array UInt16 × Addr) := []
def slotsUsed : Nat := 14
def theMethod : MethodId := ⟨1, 2⟩
def args0 : Array Value := #[.int 1, .int 65, .int 66, .int 67]
def aboutOver (below : List Frame) : State where
  vm := { classes := classes, interned := interned.toArray }
  heap := heap
  slotsUsed := slotsUsed
  threads := #[{ frames := .invoking theMethod args0 :: below }]
def below0 : List Frame := [.native { method := ⟨0, 0⟩, args := #[] }]
def about1 : State := aboutOver below0
def p0 : Program := .bare "" "" ""
def e0 : Env := launch0.env 0 0 0
theorem w_frames : about1.frames = Frame.invoking theMethod args0 :: below0 := rfl
set_option maxRecDepth 65536 in
theorem w_args : argsFit about1.vm theMethod args0 = true := by decide +kernel
set_option maxRecDepth 65536 in
theorem w_heap : heapFits about1 = true := by decide +kernel
set_option maxRecDepth 65536 in
theorem w_runnable : about1.curStatus? = some .runnable := by decide +kernel
set_option maxRecDepth 65536 in
theorem w_alone : about1.alone = true := by decide +kernel
set_option maxRecDepth 65536 in
theorem w_named : about1.methodNamed? x = some theMethod := by decide +kernel
set_option maxRecDepth 65536 in
theorem w_hears : about1.hears theMethod below0 = true := by decide +kernel
set_option maxRecDepth 65536 in
theorem w_ripe : about1.ripe theMethod args0 below0 = true := by decide +kernel
theorem w_running : about1.status = .running := rfl
set_option maxRecDepth 65536 in
theorem w_room : about1.hasRoom e0.platform room_1 = true :=
  launch0.hasRoom_least _ room_1 (by decide +kernel) (by decide +kernel) (by decide +kernel) (by decide +kernel) (by decide +kernel) (by decide +kernel)
theorem allAtoms_all (ts : List Jvm.Cond) (a : Array Jvm.Value) (st : Jvm.State) : (allAtoms ts).before a st = ts.all (fun c => c.before a st) := by
  induction ts with
  | nil => rfl
  | cons c t ih =>
    show (Jvm.Cond.and c (allAtoms t)).before a st = _
    rw [Jvm.Cond.before_and, ih, List.all_cons]
def words1 : List Jvm.Cond := Jvm.Cond.code x code maxLocals ret :: tables_1
/-- a 'code' word, met by the world's own term for the bytes: nothing is compared byte by byte -/
theorem code_word {y : MethodName} {bytes : ByteArray} {mx : Nat} {rt : Option FieldType} {a : Array Value} {s : State} {m : MethodId} {meth : Method} {c : Code} (h1 : s.methodNamed? y = some m) (h2 : s.vm.method? m = some meth) (h3 : meth.code = some c) (h4 : c.code = bytes)
    (h5 : (c.maxLocals == mx && c.exceptionTable.isEmpty && decide (c.maxStack ≤ mostOperands) && decide (meth.sig.returnType = rt) && !meth.locks && decide (parseMethodDescriptor y.desc = some meth.sig)) = true) : (Jvm.Cond.code y bytes mx rt).before a s = true := by
  simp only [Bool.and_eq_true, beq_iff_eq, Bool.not_eq_true', decide_eq_true_eq] at h5
  obtain ⟨⟨⟨⟨⟨g1, g2⟩, g3⟩, g4⟩, g5⟩, g6⟩ := h5
  simp [Cond.before, Cond.holds, Cond.value, h1, h2, h3, h4, g1, g2, g3, g4, g5, g6]
def isCode : Jvm.Cond → Bool
  | .code _ _ _ _ => true
  | _ => false
theorem all_split {L : List Jvm.Cond} {P : Jvm.Cond → Bool} (h1 : L.all (fun c => isCode c || P c) = true) (h2 : ∀ c ∈ L.filter isCode, P c = true) : L.all P = true := by
  refine List.all_eq_true.mpr fun c hc => ?_
  have h := List.all_eq_true.mp h1 c hc
  rcases Bool.eq_false_or_eq_true (isCode c) with hi | hi
  · exact h2 c (List.mem_filter.mpr ⟨hc, hi⟩)
  · simpa [hi] using h
set_option maxRecDepth 65536 in
theorem w_c0 : (Jvm.Cond.code x code maxLocals ret).before args0 about1 = true := code_word (m := ⟨1, 2⟩) (meth := k1m2) (c := k1c2) (by decide +kernel) rfl rfl rfl (by decide +kernel)
set_option maxRecDepth 65536 in
theorem w_c1 : (Jvm.Cond.code ({ cls := "com/example/inject2/inject2/xml/BeanFileReader", name := "nonEmpty", desc := "(Ljava/lang/String;)Ljava/lang/String;" } : Jvm.MethodName) prog_143_method_56_code (1 : Nat) (Option.some (Jvm.ClassFile.FieldType.object "java/lang/String"))).before args0 about1 = true := code_word (m := ⟨2, 0⟩) (meth := k2m0) (c := k2c0) (by decide +kernel) rfl rfl rfl (by decide +kernel)
set_option maxRecDepth 65536 in
theorem w_c2 : (Jvm.Cond.code ({ cls := "com/example/inject2/inject2/xml/BeanFileReaderNonEmptyPinLaw", name := "make", desc := "(IIII)Ljava/lang/String;" } : Jvm.MethodName) method_2_code (4 : Nat) (Option.some (Jvm.ClassFile.FieldType.object "java/lang/String"))).before args0 about1 = true := code_word (m := ⟨1, 1⟩) (meth := k1m1) (c := k1c1) (by decide +kernel) rfl rfl rfl (by decide +kernel)
set_option maxRecDepth 65536 in
theorem w_c3 : (Jvm.Cond.code ({ cls := "java/lang/String", name := "<init>", desc := "([C)V" } : Jvm.MethodName) jdk_42_method_3_code (2 : Nat) (Option.none : Option Jvm.ClassFile.FieldType)).before args0 about1 = true := code_word (m := ⟨8, 1⟩) (meth := k8m1) (c := k8c1) (by decide +kernel) rfl rfl rfl (by decide +kernel)
set_option maxRecDepth 65536 in
theorem w_c4 : (Jvm.Cond.code ({ cls := "java/lang/String", name := "<init>", desc := "([CIILjava/lang/Void;)V" } : Jvm.MethodName) jdk_42_method_149_code (6 : Nat) (Option.none : Option Jvm.ClassFile.FieldType)).before args0 about1 = true := code_word (m := ⟨8, 4⟩) (meth := k8m4) (c := k8c4) (by decide +kernel) rfl rfl rfl (by decide +kernel)
set_option maxRecDepth 65536 in
theorem w_c5 : (Jvm.Cond.code ({ cls := "java/lang/Object", name := "<init>", desc := "()V" } : Jvm.MethodName) object_method_1_code (1 : Nat) (Option.none : Option Jvm.ClassFile.FieldType)).before args0 about1 = true := code_word (m := ⟨0, 0⟩) (meth := k0m0) (c := k0c0) (by decide +kernel) rfl rfl rfl (by decide +kernel)
set_option maxRecDepth 65536 in
theorem w_c6 : (Jvm.Cond.code ({ cls := "java/lang/StringUTF16", name := "compress", desc := "([CII)[B" } : Jvm.MethodName) jdk_52_method_16_code (6 : Nat) (Option.some (Jvm.ClassFile.FieldType.array Jvm.ClassFile.FieldType.byte))).before args0 about1 = true := code_word (m := ⟨9, 7⟩) (meth := k9m7) (c := k9c7) (by decide +kernel) rfl rfl rfl (by decide +kernel)
set_option maxRecDepth 65536 in
theorem w_c7 : (Jvm.Cond.code ({ cls := "java/lang/StringUTF16", name := "compress", desc := "([CI[BII)I" } : Jvm.MethodName) jdk_52_method_21_code (7 : Nat) (Option.some Jvm.ClassFile.FieldType.int)).before args0 about1 = true := code_word (m := ⟨9, 8⟩) (meth := k9m8) (c := k9c8) (by decide +kernel) rfl rfl rfl (by decide +kernel)
set_option maxRecDepth 65536 in
theorem w_c8 : (Jvm.Cond.code ({ cls := "java/lang/StringUTF16", name := "coderFromArrayLen", desc := "([BI)B" } : Jvm.MethodName) jdk_52_method_15_code (2 : Nat) (Option.some Jvm.ClassFile.FieldType.byte)).before args0 about1 = true := code_word (m := ⟨9, 6⟩) (meth := k9m6) (c := k9c6) (by decide +kernel) rfl rfl rfl (by decide +kernel)
set_option maxRecDepth 65536 in
theorem w_c9 : (Jvm.Cond.code ({ cls := "java/lang/String", name := "isEmpty", desc := "()Z" } : Jvm.MethodName) jdk_42_method_55_code (1 : Nat) (Option.some Jvm.ClassFile.FieldType.boolean)).before args0 about1 = true := code_word (m := ⟨8, 3⟩) (meth := k8m3) (c := k8c3) (by decide +kernel) rfl rfl rfl (by decide +kernel)
set_option maxRecDepth 65536 in
theorem w_c10 : (Jvm.Cond.code ({ cls := "java/lang/String", name := "length", desc := "()I" } : Jvm.MethodName) jdk_42_method_54_code (1 : Nat) (Option.some Jvm.ClassFile.FieldType.int)).before args0 about1 = true := code_word (m := ⟨8, 2⟩) (meth := k8m2) (c := k8c2) (by decide +kernel) rfl rfl rfl (by decide +kernel)
set_option maxRecDepth 65536 in
theorem w_c11 : (Jvm.Cond.code ({ cls := "java/lang/String", name := "coder", desc := "()B" } : Jvm.MethodName) jdk_42_method_152_code (1 : Nat) (Option.some Jvm.ClassFile.FieldType.byte)).before args0 about1 = true := code_word (m := ⟨8, 5⟩) (meth := k8m5) (c := k8c5) (by decide +kernel) rfl rfl rfl (by decide +kernel)
set_option maxRecDepth 65536 in
theorem w_c12 : (Jvm.Cond.code ({ cls := "java/lang/StringUTF16", name := "toBytes", desc := "([CII)[B" } : Jvm.MethodName) jdk_52_method_14_code (5 : Nat) (Option.some (Jvm.ClassFile.FieldType.array Jvm.ClassFile.FieldType.byte))).before args0 about1 = true := code_word (m := ⟨9, 5⟩) (meth := k9m5) (c := k9c5) (by decide +kernel) rfl rfl rfl (by decide +kernel)
set_option maxRecDepth 65536 in
theorem w_c13 : (Jvm.Cond.code ({ cls := "java/lang/StringUTF16", name := "newBytesFor", desc := "(I)[B" } : Jvm.MethodName) jdk_52_method_2_code (1 : Nat) (Option.some (Jvm.ClassFile.FieldType.array Jvm.ClassFile.FieldType.byte))).before args0 about1 = true := code_word (m := ⟨9, 1⟩) (meth := k9m1) (c := k9c1) (by decide +kernel) rfl rfl rfl (by decide +kernel)
set_option maxRecDepth 65536 in
theorem w_c14 : (Jvm.Cond.code ({ cls := "java/lang/StringUTF16", name := "newBytesLength", desc := "(I)I" } : Jvm.MethodName) jdk_52_method_3_code (1 : Nat) (Option.some Jvm.ClassFile.FieldType.int)).before args0 about1 = true := code_word (m := ⟨9, 2⟩) (meth := k9m2) (c := k9c2) (by decide +kernel) rfl rfl rfl (by decide +kernel)
set_option maxRecDepth 65536 in
theorem w_c15 : (Jvm.Cond.code ({ cls := "java/lang/StringUTF16", name := "putChar", desc := "([BII)V" } : Jvm.MethodName) jdk_52_method_4_code (3 : Nat) (Option.none : Option Jvm.ClassFile.FieldType)).before args0 about1 = true := code_word (m := ⟨9, 3⟩) (meth := k9m3) (c := k9c3) (by decide +kernel) rfl rfl rfl (by decide +kernel)
set_option maxRecDepth 65536 in
theorem w_c16 : (Jvm.Cond.code ({ cls := "java/lang/StringUTF16", name := "getChar", desc := "([BI)C" } : Jvm.MethodName) jdk_52_method_5_code (2 : Nat) (Option.some Jvm.ClassFile.FieldType.char)).before args0 about1 = true := code_word (m := ⟨9, 4⟩) (meth := k9m4) (c := k9c4) (by decide +kernel) rfl rfl rfl (by decide +kernel)
def codes1 : List Jvm.Cond := [Jvm.Cond.code x code maxLocals ret, Jvm.Cond.code ({ cls := "com/example/inject2/inject2/xml/BeanFileReader", name := "nonEmpty", desc := "(Ljava/lang/String;)Ljava/lang/String;" } : Jvm.MethodName) prog_143_method_56_code (1 : Nat) (Option.some (Jvm.ClassFile.FieldType.object "java/lang/String")), Jvm.Cond.code ({ cls := "com/example/inject2/inject2/xml/BeanFileReaderNonEmptyPinLaw", name := "make", desc := "(IIII)Ljava/lang/String;" } : Jvm.MethodName) method_2_code (4 : Nat) (Option.some (Jvm.ClassFile.FieldType.object "java/lang/String")), Jvm.Cond.code ({ cls := "java/lang/String", name := "<init>", desc := "([C)V" } : Jvm.MethodName) jdk_42_method_3_code (2 : Nat) (Option.none : Option Jvm.ClassFile.FieldType), Jvm.Cond.code ({ cls := "java/lang/String", name := "<init>", desc := "([CIILjava/lang/Void;)V" } : Jvm.MethodName) jdk_42_method_149_code (6 : Nat) (Option.none : Option Jvm.ClassFile.FieldType), Jvm.Cond.code ({ cls := "java/lang/Object", name := "<init>", desc := "()V" } : Jvm.MethodName) object_method_1_code (1 : Nat) (Option.none : Option Jvm.ClassFile.FieldType), Jvm.Cond.code ({ cls := "java/lang/StringUTF16", name := "compress", desc := "([CII)[B" } : Jvm.MethodName) jdk_52_method_16_code (6 : Nat) (Option.some (Jvm.ClassFile.FieldType.array Jvm.ClassFile.FieldType.byte)), Jvm.Cond.code ({ cls := "java/lang/StringUTF16", name := "compress", desc := "([CI[BII)I" } : Jvm.MethodName) jdk_52_method_21_code (7 : Nat) (Option.some Jvm.ClassFile.FieldType.int), Jvm.Cond.code ({ cls := "java/lang/StringUTF16", name := "coderFromArrayLen", desc := "([BI)B" } : Jvm.MethodName) jdk_52_method_15_code (2 : Nat) (Option.some Jvm.ClassFile.FieldType.byte), Jvm.Cond.code ({ cls := "java/lang/String", name := "isEmpty", desc := "()Z" } : Jvm.MethodName) jdk_42_method_55_code (1 : Nat) (Option.some Jvm.ClassFile.FieldType.boolean), Jvm.Cond.code ({ cls := "java/lang/String", name := "length", desc := "()I" } : Jvm.MethodName) jdk_42_method_54_code (1 : Nat) (Option.some Jvm.ClassFile.FieldType.int), Jvm.Cond.code ({ cls := "java/lang/String", name := "coder", desc := "()B" } : Jvm.MethodName) jdk_42_method_152_code (1 : Nat) (Option.some Jvm.ClassFile.FieldType.byte), Jvm.Cond.code ({ cls := "java/lang/StringUTF16", name := "toBytes", desc := "([CII)[B" } : Jvm.MethodName) jdk_52_method_14_code (5 : Nat) (Option.some (Jvm.ClassFile.FieldType.array Jvm.ClassFile.FieldType.byte)), Jvm.Cond.code ({ cls := "java/lang/StringUTF16", name := "newBytesFor", desc := "(I)[B" } : Jvm.MethodName) jdk_52_method_2_code (1 : Nat) (Option.some (Jvm.ClassFile.FieldType.array Jvm.ClassFile.FieldType.byte)), Jvm.Cond.code ({ cls := "java/lang/StringUTF16", name := "newBytesLength", desc := "(I)I" } : Jvm.MethodName) jdk_52_method_3_code (1 : Nat) (Option.some Jvm.ClassFile.FieldType.int), Jvm.Cond.code ({ cls := "java/lang/StringUTF16", name := "putChar", desc := "([BII)V" } : Jvm.MethodName) jdk_52_method_4_code (3 : Nat) (Option.none : Option Jvm.ClassFile.FieldType), Jvm.Cond.code ({ cls := "java/lang/StringUTF16", name := "getChar", desc := "([BI)C" } : Jvm.MethodName) jdk_52_method_5_code (2 : Nat) (Option.some Jvm.ClassFile.FieldType.char)]
set_option maxRecDepth 65536 in
theorem codes_eq : words1.filter isCode = codes1 := rfl
theorem w_codes : ∀ c ∈ words1.filter isCode, c.before args0 about1 = true := by
  rw [codes_eq]
  intro c hc
  simp only [codes1, List.mem_cons, List.not_mem_nil, or_false] at hc
  rcases hc with rfl | rfl | rfl | rfl | rfl | rfl | rfl | rfl | rfl | rfl | rfl | rfl | rfl | rfl | rfl | rfl | rfl
  · exact w_c0
  · exact w_c1
  · exact w_c2
  · exact w_c3
  · exact w_c4
  · exact w_c5
  · exact w_c6
  · exact w_c7
  · exact w_c8
  · exact w_c9
  · exact w_c10
  · exact w_c11
  · exact w_c12
  · exact w_c13
  · exact w_c14
  · exact w_c15
  · exact w_c16
set_option maxRecDepth 65536 in
theorem w_t1 : (words1.take 24).all (fun c => isCode c || c.before args0 about1) = true := by decide +kernel
set_option maxRecDepth 65536 in
theorem w_t2 : ((words1.drop 24).take 24).all (fun c => isCode c || c.before args0 about1) = true := by decide +kernel
set_option maxRecDepth 65536 in
theorem w_t3 : (((words1.drop 24).drop 24).take 24).all (fun c => isCode c || c.before args0 about1) = true := by decide +kernel
set_option maxRecDepth 65536 in
theorem w_t4 : (((words1.drop 24).drop 24).drop 24).all (fun c => isCode c || c.before args0 about1) = true := by decide +kernel
theorem w_tables : (allAtoms (Jvm.Cond.code x code maxLocals ret :: tables_1)).before args0 about1 = true := by
  rw [allAtoms_all]
  show words1.all (fun c => c.before args0 about1) = true
  refine all_split ?_ w_codes
  rw [← List.take_append_drop 24 words1, List.all_append, w_t1, ← List.take_append_drop 24 (words1.drop 24), List.all_append, w_t2, ← List.take_append_drop 24 ((words1.drop 24).drop 24), List.all_append, w_t3, w_t4]
  rfl
set_option maxRecDepth 65536 in
theorem w_rest : rest_1_c.before args0 about1 = true := by decide +kernel
set_option maxRecDepth 65536 in
theorem w_case : (Jvm.Cond.and given_1 narrow_1).before args0 about1 = true := by decide +kernel
set_option maxRecDepth 65536 in
theorem w_consts : constsHeld consts_1 about1 := Jvm.Lit.constsHeldB_iff.mp (by decide +kernel)
theorem w_applies : (headSpec (Jvm.Cond.code x code maxLocals ret :: tables_1) room_1).applies x e0.platform about1 = true :=
  (Spec.applies_iff w_frames).mpr ⟨w_running, w_runnable, w_alone, w_named, w_hears, w_ripe, w_room, w_tables⟩
theorem atStart : AtStart classFile x code maxLocals ret World_1 tables_1 room_1 Calls_1 rest_1 Pre_1 launch0 p0 e0 about1 theMethod args0 below0 :=
  ⟨lists_1, trivial, launch0.admits_env _ _ _, launch0.least_env, fairChoices_fair.cas, fairChoices_fair.clock, w_frames, w_args, w_heap, w_applies, ⟨w_consts, trivial⟩, w_rest, w_case⟩
end start1
theorem witness_1 : WitnessClaimed_1 := ⟨start1.p0, start1.e0, start1.about1, start1.theMethod, start1.args0, start1.below0, start1.atStart⟩
end Jvm.Pilot.@@N@@
