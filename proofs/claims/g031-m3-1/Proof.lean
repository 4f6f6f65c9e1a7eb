import JvmDerived
import JvmDerived.Pilot.@@N@@Statement
import JvmDerived.Pilot.@@N@@Code
set_option linter.unusedVariables false
set_option linter.unusedSimpArgs false
namespace Jvm.Pilot.@@N@@
open Jvm Jvm.ClassFile Sem Op Lib Jvm.Free Jvm.Stand Jvm.LawKit Jvm.RoadKit Bundle Jvm.Pilot.@@N@@.Jvm.D
def own_A (Z : State) (h : Heap) (a : Addr) (ty : FieldType) (n : Int32) (f : Nat → Int32) : Prop := ∃ c : Cell, Arr Z h a c ty ∧ c.slots.size = n.toNatClampNeg ∧ ¬ n < 0 ∧ ∀ j, j < n.toNatClampNeg → c.slots[j]? = some (.int (f j))
def own_upd (f : Nat → Int32) (i : Nat) (x : Int32) : Nat → Int32 := fun j => if j = i then x else f j
theorem own_A.ext {Z : State} {h h' : Heap} {a : Addr} {ty : FieldType} {n : Int32} {f : Nat → Int32} (V : own_A Z h a ty n f) (E : Ext h h') : own_A Z h' a ty n f := by obtain ⟨c, A, r⟩ := V; exact ⟨c, A.ext E, r⟩
theorem own_A.other {Z : State} {h h' : Heap} {a b : Addr} {sl : Nat} {v : Value} {ty : FieldType} {n : Int32} {f : Nat → Int32} (V : own_A Z h b ty n f) (W : Wr h h' a sl v) (q : b ≠ a) : own_A Z h' b ty n f := by obtain ⟨c, A, r⟩ := V; exact ⟨c, A.other W q, r⟩
theorem own_A.keep {Z : State} {h h' : Heap} {a : Addr} {ws : List Addr} {ty : FieldType} {n : Int32} {f : Nat → Int32} (V : own_A Z h a ty n f) (K : Keep h h' ws) (q : a ∉ ws) : own_A Z h' a ty n f := by obtain ⟨c, A, r⟩ := V; exact ⟨c, ⟨K.2.1 a c A.1 q, A.2⟩, r⟩
theorem own_A.lt {Z : State} {h : Heap} {a : Addr} {ty : FieldType} {n : Int32} {f : Nat → Int32} (V : own_A Z h a ty n f) : a < h.size := by obtain ⟨c, A, -⟩ := V; exact A.lt
theorem own_A.new {Z : State} {h : Heap} {a : Addr} {k : ClassId} {ty : FieldType} {n : Int32} (A : Arr Z h a (newA k ty n) ty) (q : ¬ n < 0) (hd : defaultValue ty = .int 0) : own_A Z h a ty n (fun _ => 0) := by
  obtain ⟨c, A1, -, S, M, H, -⟩ := Arv.new A q
  refine ⟨c, A1, S, M, fun j hj => ?_⟩
  have w := H j (by rw [S]; exact hj)
  rw [hd] at w; simpa using w
theorem own_A.set {Z : State} {h h' : Heap} {a : Addr} {c : Cell} {ty : FieldType} {n : Int32} {f : Nat → Int32} {i : Nat} {x : Int32} (A : Arr Z h a c ty) (S : c.slots.size = n.toNatClampNeg) (M : ¬ n < 0) (H : ∀ j, j < n.toNatClampNeg → c.slots[j]? = some (.int (f j))) (W : Wr h h' a i (.int x)) : own_A Z h' a ty n (own_upd f i x) := by
  refine ⟨c.setSlot i (.int x), A.same W, by rw [sz_set]; exact S, M, fun j hj => ?_⟩
  show (c.slots.setIfInBounds i (.int x))[j]? = _
  rw [Array.getElem?_setIfInBounds]
  by_cases e : i = j
  · subst e; simp [own_upd, S, hj]
  · rw [if_neg e, H j hj, own_upd, if_neg (Ne.symm e)]
theorem own_A.at {c : Cell} {n j : Int32} {f : Nat → Int32} (S : c.slots.size = n.toNatClampNeg) (H : ∀ j, j < n.toNatClampNeg → c.slots[j]? = some (.int (f j))) (q : ¬ (j < 0 ∨ c.slots.size ≤ j.toNatClampNeg)) : c.slots[j.toNatClampNeg]? = some (.int (f j.toNatClampNeg)) := H _ (by rw [← S]; exact Nat.lt_of_not_le fun y => q (Or.inr y))
theorem own_lts {x y : Int32} (h : x.toInt < y.toInt) : x < y := Int32.lt_iff_toInt_lt.mpr h
theorem own_nlt {x y : Int32} (h : y.toInt ≤ x.toInt) : ¬ x < y := fun q => by rw [Int32.lt_iff_toInt_lt] at q; omega
theorem own_nltL {x y : Int64} (h : y.toInt ≤ x.toInt) : ¬ x < y := fun q => by rw [Int64.lt_iff_toInt_lt] at q; omega
theorem own_n (s : Int32) : 0 ≤ ((s &&& (15 : Int32)) % (9 : Int32)).toInt ∧ ((s &&& (15 : Int32)) % (9 : Int32)).toInt ≤ 8 := by
  have a := c_mask s 15 4 (by decide) (by decide)
  have b := (c_irem (s &&& 15) 9 9 rfl).1 (by omega)
  omega
theorem own_n1 {n : Int32} (h : 0 ≤ n.toInt ∧ n.toInt ≤ 8) : (n + (1 : Int32)).toInt = n.toInt + 1 := by
  have a := c_iadd n 1; rw [show (1 : Int32).toInt = 1 from rfl] at a; have r := rng32 (n + 1); omega
theorem own_nz {n : Int32} (h : 0 ≤ n.toInt ∧ n.toInt ≤ 8) : (n + (1 : Int32)) ≠ (0 : Int32) := fun q => by
  have a := own_n1 h; rw [q, show (0 : Int32).toInt = 0 from rfl] at a; omega
theorem own_kk (x : Int32) {n : Int32} (h : 0 ≤ n.toInt ∧ n.toInt ≤ 8) : 0 ≤ ((x &&& (15 : Int32)) % (n + (1 : Int32))).toInt ∧ ((x &&& (15 : Int32)) % (n + (1 : Int32))).toInt ≤ n.toInt := by
  have a := c_mask x 15 4 (by decide) (by decide)
  have b := own_n1 h
  have c := (c_iremV (x &&& 15) (n + 1)).1 (by omega) (by omega)
  omega
theorem own_o1 (x : Int32) : 0 ≤ (x &&& (15 : Int32)).toInt := by have a := c_mask x 15 4 (by decide) (by decide); omega
theorem own_o2 (x : Int32) : 0 ≤ (x &&& (2147483647 : Int32)).toInt := by have a := c_mask x 2147483647 31 (by decide) (by decide); omega
theorem own_cap {n : Int32} (h : 0 ≤ n.toInt ∧ n.toInt ≤ 8) : n.toNatClampNeg ≤ 8 := by rw [Int32.toNatClampNeg]; omega
theorem own_sk {n k : Int32} (h : 0 ≤ n.toInt ∧ n.toInt ≤ 8) (hk : 0 ≤ k.toInt ∧ k.toInt ≤ n.toInt) : ¬ (n - (0 : Int32)).toInt64 < k.toInt64 := by
  have a := c_isub n 0; rw [show (0 : Int32).toInt = 0 from rfl] at a; have r := rng32 (n - 0); have r2 := rng32 n
  exact own_nltL (by rw [c_i2l, c_i2l]; omega)
theorem own_pos (k : Int32) : ((0 : Int32) + k.toInt64.toInt32) = k := by
  apply Int32.toInt_inj.mp
  have a := c_iadd 0 k.toInt64.toInt32; have b := c_l2i k.toInt64; rw [c_i2l] at b; rw [show (0 : Int32).toInt = 0 from rfl] at a
  have r := rng32 (0 + k.toInt64.toInt32); have r1 := rng32 k; have r2 := rng32 k.toInt64.toInt32
  omega
theorem own_byte (x : Int64) : (nar .byte x.toInt32.toInt8.toInt32 &&& (255 : Int32)) = (x &&& (255 : Int64)).toInt32 := by
  apply Int32.toInt_inj.mp
  have e : nar .byte x.toInt32.toInt8.toInt32 = x.toInt32.toInt8.toInt32.toInt8.toInt32 := rfl
  have a := c_mask (nar .byte x.toInt32.toInt8.toInt32) 255 8 (by decide) (by decide)
  have b := c_maskL x 255 8 (by decide) (by decide)
  have c := c_l2i (x &&& 255); have d := c_l2i x; have f := c_i2b x.toInt32; have g := c_i2b x.toInt32.toInt8.toInt32
  have r := rng32 (x &&& 255).toInt32
  rw [e] at a ⊢
  omega
def own_ub (f : Nat → Int32) (n o : Int32) : Int32 := if o < n then (f o.toNatClampNeg &&& (255 : Int32)) else (-1 : Int32)
theorem own_sh0 (x : Int64) : (x.toUInt64 >>> (((8 : Int32) * (0 : Int32)) &&& 0x3f).toInt64.toUInt64).toInt64 = x := by
  have e : (((8 : Int32) * (0 : Int32)) &&& 0x3f).toInt64.toUInt64 = 0 := by decide
  rw [e]; simp
theorem own_fin (w' : Int64) (f : Nat → Int32) (n' o : Int32) (hn : 0 ≤ n'.toInt ∧ n'.toInt ≤ 8) (ho : 0 ≤ o.toInt) (hlt : o < n') (B0 : ((0 : Int32) < n' → f 0 = (nar .byte ((w'.toInt32).toInt8.toInt32)))) (B1 : ((1 : Int32) < n' → f 1 = (nar .byte ((((w'.toUInt64 >>> ((8 : Int32) &&& 0x3f).toInt64.toUInt64).toInt64).toInt32).toInt8.toInt32)))) (B2 : ((2 : Int32) < n' → f 2 = (nar .byte ((((w'.toUInt64 >>> ((16 : Int32) &&& 0x3f).toInt64.toUInt64).toInt64).toInt32).toInt8.toInt32)))) (B3 : ((3 : Int32) < n' → f 3 = (nar .byte ((((w'.toUInt64 >>> ((24 : Int32) &&& 0x3f).toInt64.toUInt64).toInt64).toInt32).toInt8.toInt32)))) (B4 : ((4 : Int32) < n' → f 4 = (nar .byte ((((w'.toUInt64 >>> ((32 : Int32) &&& 0x3f).toInt64.toUInt64).toInt64).toInt32).toInt8.toInt32)))) (B5 : ((5 : Int32) < n' → f 5 = (nar .byte ((((w'.toUInt64 >>> ((40 : Int32) &&& 0x3f).toInt64.toUInt64).toInt64).toInt32).toInt8.toInt32)))) (B6 : ((6 : Int32) < n' → f 6 = (nar .byte ((((w'.toUInt64 >>> ((48 : Int32) &&& 0x3f).toInt64.toUInt64).toInt64).toInt32).toInt8.toInt32)))) (B7 : ((7 : Int32) < n' → f 7 = (nar .byte ((((w'.toUInt64 >>> ((56 : Int32) &&& 0x3f).toInt64.toUInt64).toInt64).toInt32).toInt8.toInt32)))) : (f o.toNatClampNeg &&& (255 : Int32)) = ((w'.toUInt64 >>> (((8 : Int32) * o) &&& 0x3f).toInt64.toUInt64).toInt64 &&& (255 : Int64)).toInt32 := by
  have q : o = (0 : Int32) ∨ o = (1 : Int32) ∨ o = (2 : Int32) ∨ o = (3 : Int32) ∨ o = (4 : Int32) ∨ o = (5 : Int32) ∨ o = (6 : Int32) ∨ o = (7 : Int32) := by
    rw [Int32.lt_iff_toInt_lt] at hlt
    simp only [← Int32.toInt_inj, Int32.reduceToInt]; omega
  rcases q with rfl | rfl | rfl | rfl | rfl | rfl | rfl | rfl
  · rw [show ((0 : Int32)).toNatClampNeg = 0 from rfl, B0 hlt]
    rw [own_sh0]; exact own_byte _
  · rw [show ((1 : Int32)).toNatClampNeg = 1 from rfl, B1 hlt]
    rw [show ((8 : Int32) * (1 : Int32)) = (8 : Int32) from rfl]; exact own_byte _
  · rw [show ((2 : Int32)).toNatClampNeg = 2 from rfl, B2 hlt]
    rw [show ((8 : Int32) * (2 : Int32)) = (16 : Int32) from rfl]; exact own_byte _
  · rw [show ((3 : Int32)).toNatClampNeg = 3 from rfl, B3 hlt]
    rw [show ((8 : Int32) * (3 : Int32)) = (24 : Int32) from rfl]; exact own_byte _
  · rw [show ((4 : Int32)).toNatClampNeg = 4 from rfl, B4 hlt]
    rw [show ((8 : Int32) * (4 : Int32)) = (32 : Int32) from rfl]; exact own_byte _
  · rw [show ((5 : Int32)).toNatClampNeg = 5 from rfl, B5 hlt]
    rw [show ((8 : Int32) * (5 : Int32)) = (40 : Int32) from rfl]; exact own_byte _
  · rw [show ((6 : Int32)).toNatClampNeg = 6 from rfl, B6 hlt]
    rw [show ((8 : Int32) * (6 : Int32)) = (48 : Int32) from rfl]; exact own_byte _
  · rw [show ((7 : Int32)).toNatClampNeg = 7 from rfl, B7 hlt]
    rw [show ((8 : Int32) * (7 : Int32)) = (56 : Int32) from rfl]; exact own_byte _
theorem d1_0 : decode prog_5_method_1_code 0 = .ok (.aload_n 0, 1) := by decide +kernel
theorem d1_1 : decode prog_5_method_1_code 1 = .ok (.invokespecial 1, 3) := by decide +kernel
theorem d1_4 : decode prog_5_method_1_code 4 = .ok (.aload_n 0, 1) := by decide +kernel
theorem d1_5 : decode prog_5_method_1_code 5 = .ok (.aload_n 1, 1) := by decide +kernel
theorem d1_6 : decode prog_5_method_1_code 6 = .ok (.putfield 7, 3) := by decide +kernel
theorem d1_9 : decode prog_5_method_1_code 9 = .ok (.return_, 1) := by decide +kernel
theorem pn_1 : plainName "com/example/bytelace/bytelace/core/ByteInput" = true := by first | (simp [plainName, overriddenIn]; done) | decide +kernel
theorem ef_1 (m : MethodId) (x0 : Addr) (x1 : Addr) : entryFrame m #[(.ref x0), (.ref x1)] 2 = mkF m 0 #[.val (.ref x0), .val (.ref x1)] [] := by first | (simp [entryFrame, mkF, argsToLocals, Value.category]; done) | rfl
def Q1 (Z : State) (a : Addr) (b : Addr) (h0 : Heap) (n0 : Nat) (v : Option Value) (h : Heap) (L : List Loc) : Prop := v = none ∧ Fr n0 L ∧ Keep h0 h [a] ∧ Fld Z h a "com/example/bytelace/bytelace/core/ByteInput" "bytes" "[B" (.ref b) ∧ Fld Z h a "com/example/bytelace/bytelace/core/ByteInput" "position" "I" (.int (0 : Int32))
set_option maxRecDepth 65536 in
set_option maxHeartbeats 40000000 in
theorem rm1 (l : Launch) (Z : State) (a0 : Array Value) (hw : ∀ d ∈ tables_1, d.before a0 Z = true) (ws : List Jvm.Cond) (a : Addr) (b : Addr) (h0 : Heap) (n0 : Nat) (Z0 : n0 ≤ h0.size) (E_a : Exa Z h0 a "com/example/bytelace/bytelace/core/ByteInput") (F_bytes_a : Fld Z h0 a "com/example/bytelace/bytelace/core/ByteInput" "bytes" "[B" .null) (F_position_a : Fld Z h0 a "com/example/bytelace/bytelace/core/ByteInput" "position" "I" (.int (0 : Int32))) (g_a : n0 ≤ a) :
    MetFree l (⟨"com/example/bytelace/bytelace/core/ByteInput", "<init>", "([B)V"⟩ : MethodName) (head1 (Jvm.Cond.code (⟨"com/example/bytelace/bytelace/core/ByteInput", "<init>", "([B)V"⟩ : MethodName) prog_5_method_1_code 2 none :: ws) ({ frames := 1, cells := 0, slots := 0, locals := 12 } : Room)) (fun ar U => ar = #[(.ref a), (.ref b)] ∧ Z.Warmed39 U.vm ∧ U.heap = h0) (fun _ _ _ _ _ => True) (fun _ U o U' => ∃ v L, o = .returned v ∧ Q1 Z a b h0 n0 v U'.heap L ∧ FrameEnd U o U' L ({ frames := 1, cells := 0, slots := 0, locals := 12 } : Room).cells ({ frames := 1, cells := 0, slots := 0, locals := 12 } : Room).slots) := by
  refine MetFree.of_bodySF (plainFor_of_name pn_1) hisR ?_
  intro p e s m args below meth c s₁ Bd hml0 hP hK
  obtain ⟨rfl, hZ, hh⟩ := hP
  have hx := Bd.exec
  have hby := Bd.bytes
  have hml : c.maxLocals = 2 := hml0
  have hown : s.vm.findClass "com/example/bytelace/bytelace/core/ByteInput" = some m.cls := findClass_of_methodNamed Bd.named
  have hnm := (name_of_methodNamed Bd.named Bd.method).1
  have X0 : Stand p l e ({ frames := 1, cells := 0, slots := 0, locals := 12 } : Room) s m #[(.ref a), (.ref b)] below meth c s₁ [] 0 0 := Stand.of_body Bd
  have e0 : s₁.heap = h0 := by rw [← hh, Bd.state]; rfl
  have N0 := Fr.nil n0
  have K0 : Keep h0 h0 [a] := Keep.refl h0 _
  have pre0 : ∀ t, Steps p.tables e below (s₁.setTop (mkF m 0 #[.val (.ref a), .val (.ref b)] [])) t → Steps p.tables e below (s₁.setTop (entryFrame m #[(.ref a), (.ref b)] 2)) t := fun t k => castTop (ef_1 m a b) k
  obtain ⟨T1, X1, e1, st1⟩ := initO X0 hx hZ hown (hw _ (List.mem_of_getElem? (i := 8) rfl)) (hw _ (List.mem_of_getElem? (i := 9) rfl)) (hw _ (List.mem_of_getElem? (i := 10) rfl)) e0 (g := (mkF m 1 #[.val (.ref a), .val (.ref b)] [(.ref a)])) rfl (by rw [hml]; rfl) rfl (hb hby d1_1) (by decide) (W := 0) (by show 2 * 0 + _ ≤ _; exact Nat.le_of_eq rfl) (by decide)
  obtain ⟨T2, h2, X2, e2, W2, st2⟩ := putF X1 hx hZ hown (host := "") (Or.inl (hw _ (List.mem_of_getElem? (i := 11) rfl))) Via.refl e1 F_bytes_a E_a (Or.inr ⟨(hw _ (List.mem_of_getElem? (i := 12) rfl)), rfl, hnm⟩) (hw _ (List.mem_of_getElem? (i := 3) rfl)) (ty := (.array .byte)) (by decide) rfl rfl (g := (mkF m 6 #[.val (.ref a), .val (.ref b)] [(.ref b), (.ref a)])) rfl rfl (hb hby d1_6)
  have E_a := E_a.wr W2
  have F_bytes_a := F_bytes_a.same W2
  have F_position_a := F_position_a.other W2 (Or.inr (slot_ne (Or.inl (hw _ (List.mem_of_getElem? (i := 29) rfl))) (Or.inr (hw _ (List.mem_of_getElem? (i := 12) rfl))) (by decide) (t := .int) (t' := (.array .byte)) (by decide) (by decide)))
  have Zs2 : n0 ≤ h2.size := Nat.le_trans Z0 (Keep.of_wr W2).1
  have K2 : Keep h0 h2 [a] := K0.wr W2 (Or.inl (List.mem_of_getElem? (i := 0) rfl))
  have N2 := Fr.snoc X2 N0 g_a
  obtain ⟨fs, hr, hrun, hended, hW, hsame⟩ := X2.leave (v := none) (fun _ => rfl)
  refine ⟨_, _, pre0 _ ?_, hrun, hended, _, _, rfl, ?_, ⟨_, rfl⟩, hW, hsame.mono (by decide) (by decide)⟩
  · show Steps p.tables e below (s₁.setTop (mkF m 0 #[.val (.ref a), .val (.ref b)] [])) _
    refine XS.aloadN X0.here hx rfl (hb hby d1_0) rfl rfl ?_
    show Steps p.tables e below (s₁.setTop (mkF m 1 #[.val (.ref a), .val (.ref b)] [(.ref a)])) _
    refine st1 _ ?_
    show Steps p.tables e below (T1.setTop (mkF m 4 #[.val (.ref a), .val (.ref b)] [])) _
    refine XS.aloadN X1.here hx rfl (hb hby d1_4) rfl rfl ?_
    show Steps p.tables e below (T1.setTop (mkF m 5 #[.val (.ref a), .val (.ref b)] [(.ref a)])) _
    refine XS.aloadN X1.here hx rfl (hb hby d1_5) rfl rfl ?_
    show Steps p.tables e below (T1.setTop (mkF m 6 #[.val (.ref a), .val (.ref b)] [(.ref b), (.ref a)])) _
    refine st2 _ ?_
    show Steps p.tables e below (T2.setTop (mkF m 9 #[.val (.ref a), .val (.ref b)] [])) _
    exact X2.returnOut hx Bd.returns (hb hby d1_9) hr
  · show Q1 Z a b h0 n0 _ T2.heap _
    rw [e2]
    exact ⟨rfl, N2, K2, F_bytes_a, F_position_a⟩
theorem d5_0 : decode prog_5_method_3_code 0 = .ok (.aload_n 0, 1) := by decide +kernel
theorem d5_1 : decode prog_5_method_3_code 1 = .ok (.getfield 7, 3) := by decide +kernel
theorem d5_4 : decode prog_5_method_3_code 4 = .ok (.arraylength, 1) := by decide +kernel
theorem d5_5 : decode prog_5_method_3_code 5 = .ok (.aload_n 0, 1) := by decide +kernel
theorem d5_6 : decode prog_5_method_3_code 6 = .ok (.getfield 13, 3) := by decide +kernel
theorem d5_9 : decode prog_5_method_3_code 9 = .ok (.isub, 1) := by decide +kernel
theorem d5_10 : decode prog_5_method_3_code 10 = .ok (.ireturn, 1) := by decide +kernel
theorem pn_5 : plainName "com/example/bytelace/bytelace/core/ByteInput" = true := by first | (simp [plainName, overriddenIn]; done) | decide +kernel
theorem ef_5 (m : MethodId) (x0 : Addr) : entryFrame m #[(.ref x0)] 1 = mkF m 0 #[.val (.ref x0)] [] := by first | (simp [entryFrame, mkF, argsToLocals, Value.category]; done) | rfl
def Q5 (Z : State) (a : Addr) (b : Addr) (n' pos' : Int32) (f' : Nat → Int32) (h0 : Heap) (n0 : Nat) (v : Option Value) (h : Heap) (L : List Loc) : Prop := v = some (.int (n' - pos')) ∧ Fr n0 L ∧ h = h0
set_option maxRecDepth 65536 in
set_option maxHeartbeats 40000000 in
theorem rm5 (l : Launch) (Z : State) (a0 : Array Value) (hw : ∀ d ∈ tables_1, d.before a0 Z = true) (ws : List Jvm.Cond) (a : Addr) (b : Addr) (n' pos' : Int32) (f' : Nat → Int32) (h0 : Heap) (n0 : Nat) (Z0 : n0 ≤ h0.size) (F_bytes_a : Fld Z h0 a "com/example/bytelace/bytelace/core/ByteInput" "bytes" "[B" (.ref b)) (F_position_a : Fld Z h0 a "com/example/bytelace/bytelace/core/ByteInput" "position" "I" (.int pos')) (V_b : own_A Z h0 b .byte n' f') :
    MetFree l (⟨"com/example/bytelace/bytelace/core/ByteInput", "remaining", "()I"⟩ : MethodName) (head1 (Jvm.Cond.code (⟨"com/example/bytelace/bytelace/core/ByteInput", "remaining", "()I"⟩ : MethodName) prog_5_method_3_code 1 (some .int) :: ws) ({ frames := 0, cells := 0, slots := 0, locals := 0 } : Room)) (fun ar U => ar = #[(.ref a)] ∧ Z.Warmed39 U.vm ∧ U.heap = h0) (fun _ _ _ _ _ => True) (fun _ U o U' => ∃ v L, o = .returned v ∧ Q5 Z a b n' pos' f' h0 n0 v U'.heap L ∧ FrameEnd U o U' L ({ frames := 0, cells := 0, slots := 0, locals := 0 } : Room).cells ({ frames := 0, cells := 0, slots := 0, locals := 0 } : Room).slots) := by
  refine MetFree.of_bodySF (plainFor_of_name pn_5) hisR ?_
  intro p e s m args below meth c s₁ Bd hml0 hP hK
  obtain ⟨rfl, hZ, hh⟩ := hP
  have hx := Bd.exec
  have hby := Bd.bytes
  have hml : c.maxLocals = 1 := hml0
  have hown : s.vm.findClass "com/example/bytelace/bytelace/core/ByteInput" = some m.cls := findClass_of_methodNamed Bd.named
  have hnm := (name_of_methodNamed Bd.named Bd.method).1
  have X0 : Stand p l e ({ frames := 0, cells := 0, slots := 0, locals := 0 } : Room) s m #[(.ref a)] below meth c s₁ [] 0 0 := Stand.of_body Bd
  have e0 : s₁.heap = h0 := by rw [← hh, Bd.state]; rfl
  have N0 := Fr.nil n0
  have K0 : Keep h0 h0 [] := Keep.refl h0 _
  have pre0 : ∀ t, Steps p.tables e below (s₁.setTop (mkF m 0 #[.val (.ref a)] [])) t → Steps p.tables e below (s₁.setTop (entryFrame m #[(.ref a)] 1)) t := fun t k => castTop (ef_5 m a) k
  obtain ⟨T1, X1, e1, st1⟩ := getF X0 hx hZ hown (host := "") (Or.inl (hw _ (List.mem_of_getElem? (i := 11) rfl))) Via.refl e0 F_bytes_a (g := (mkF m 1 #[.val (.ref a)] [(.ref a)])) rfl rfl (hb hby d5_1)
  obtain ⟨cl42, Ar42, S42, M42, H42⟩ := id V_b
  obtain ⟨T3, X3, e3, st3⟩ := getF X1 hx hZ hown (host := "") (Or.inl (hw _ (List.mem_of_getElem? (i := 28) rfl))) Via.refl e1 F_position_a (g := (mkF m 6 #[.val (.ref a)] [(.ref a), (.int n')])) rfl rfl (hb hby d5_6)
  obtain ⟨fs, hr, hrun, hended, hW, hsame⟩ := X3.leave (v := some (.int (n' - pos'))) (fun h => by rw [Bd.returns] at h; cases h)
  refine ⟨_, _, pre0 _ ?_, hrun, hended, _, _, rfl, ?_, ⟨_, rfl⟩, hW, hsame.mono (by decide) (by decide)⟩
  · show Steps p.tables e below (s₁.setTop (mkF m 0 #[.val (.ref a)] [])) _
    refine XS.aloadN X0.here hx rfl (hb hby d5_0) rfl rfl ?_
    show Steps p.tables e below (s₁.setTop (mkF m 1 #[.val (.ref a)] [(.ref a)])) _
    refine st1 _ ?_
    show Steps p.tables e below (T1.setTop (mkF m 4 #[.val (.ref a)] [(.ref b)])) _
    refine X1.arraylength hx (cell := cl42) (by rw [e1]; exact Ar42.1) (State.isArrayOf_alike hZ.alike Ar42.2.1) (g := (mkF m 4 #[.val (.ref a)] [(.ref b)])) rfl (rest := []) rfl (hb hby d5_4) _ ?_
    rw [len_of S42 M42]
    show Steps p.tables e below (T1.setTop (mkF m 5 #[.val (.ref a)] [(.int n')])) _
    refine XS.aloadN X1.here hx rfl (hb hby d5_5) rfl rfl ?_
    show Steps p.tables e below (T1.setTop (mkF m 6 #[.val (.ref a)] [(.ref a), (.int n')])) _
    refine st3 _ ?_
    show Steps p.tables e below (T3.setTop (mkF m 9 #[.val (.ref a)] [(.int pos'), (.int n')])) _
    refine XS.isub X3.here hx rfl (hb hby d5_9) rfl ?_
    show Steps p.tables e below (T3.setTop (mkF m 10 #[.val (.ref a)] [(.int (n' - pos'))])) _
    exact retOut X3 hx Bd.returns rfl (Or.inl ⟨rfl, Or.inl rfl, _, rfl⟩) (hb hby d5_10) hr
  · show Q5 Z a b n' pos' f' h0 n0 _ T3.heap _
    rw [e3]
    exact ⟨rfl, N0, rfl⟩
theorem d4_0 : decode prog_5_method_4_code 0 = .ok (.lload_n 1, 1) := by decide +kernel
theorem d4_1 : decode prog_5_method_4_code 1 = .ok (.lconst 0, 1) := by decide +kernel
theorem d4_2 : decode prog_5_method_4_code 2 = .ok (.lcmp, 1) := by decide +kernel
theorem d4_3 : decode prog_5_method_4_code 3 = .ok (.ifCond .lt 13, 3) := by decide +kernel
theorem d4_6 : decode prog_5_method_4_code 6 = .ok (.lload_n 1, 1) := by decide +kernel
theorem d4_7 : decode prog_5_method_4_code 7 = .ok (.aload_n 0, 1) := by decide +kernel
theorem d4_8 : decode prog_5_method_4_code 8 = .ok (.invokevirtual 17, 3) := by decide +kernel
theorem d4_11 : decode prog_5_method_4_code 11 = .ok (.i2l, 1) := by decide +kernel
theorem d4_12 : decode prog_5_method_4_code 12 = .ok (.lcmp, 1) := by decide +kernel
theorem d4_13 : decode prog_5_method_4_code 13 = .ok (.ifCond .le 15, 3) := by decide +kernel
theorem d4_28 : decode prog_5_method_4_code 28 = .ok (.return_, 1) := by decide +kernel
theorem pn_4 : plainName "com/example/bytelace/bytelace/core/ByteInput" = true := by first | (simp [plainName, overriddenIn]; done) | decide +kernel
theorem pd4_0 : parseMethodDescriptor "()I" = some ⟨[], some .int⟩ := by decide +kernel
theorem ef_4 (m : MethodId) (x0 : Addr) (x1 : Int64) (x2 : Int32) : entryFrame m #[(.ref x0), (.long x1), (.int x2)] 4 = mkF m 0 #[.val (.ref x0), .val (.long x1), .second, .val (.int x2)] [] := by first | (simp [entryFrame, mkF, argsToLocals, Value.category]; done) | rfl
def Q4 (Z : State) (a : Addr) (q' : Int64) (i' : Int32) (b : Addr) (n' pos' : Int32) (f' : Nat → Int32) (h0 : Heap) (n0 : Nat) (v : Option Value) (h : Heap) (L : List Loc) : Prop := v = none ∧ Fr n0 L ∧ h = h0
set_option maxRecDepth 65536 in
set_option maxHeartbeats 40000000 in
theorem rm4 (l : Launch) (Z : State) (a0 : Array Value) (hw : ∀ d ∈ tables_1, d.before a0 Z = true) (ws : List Jvm.Cond) (a : Addr) (q' : Int64) (i' : Int32) (b : Addr) (n' pos' : Int32) (f' : Nat → Int32) (h0 : Heap) (n0 : Nat) (Z0 : n0 ≤ h0.size) (F_bytes_a : Fld Z h0 a "com/example/bytelace/bytelace/core/ByteInput" "bytes" "[B" (.ref b)) (F_position_a : Fld Z h0 a "com/example/bytelace/bytelace/core/ByteInput" "position" "I" (.int pos')) (V_b : own_A Z h0 b .byte n' f') (E_a : Exa Z h0 a "com/example/bytelace/bytelace/core/ByteInput") (h1 : ¬ q' < (0 : Int64)) (h2 : ¬ (n' - pos').toInt64 < q') :
    MetFree l (⟨"com/example/bytelace/bytelace/core/ByteInput", "require", "(JI)V"⟩ : MethodName) (head1 (Jvm.Cond.code (⟨"com/example/bytelace/bytelace/core/ByteInput", "require", "(JI)V"⟩ : MethodName) prog_5_method_4_code 4 none :: ws) ({ frames := 1, cells := 0, slots := 0, locals := 14 } : Room)) (fun ar U => ar = #[(.ref a), (.long q'), (.int i')] ∧ Z.Warmed39 U.vm ∧ U.heap = h0) (fun _ _ _ _ _ => True) (fun _ U o U' => ∃ v L, o = .returned v ∧ Q4 Z a q' i' b n' pos' f' h0 n0 v U'.heap L ∧ FrameEnd U o U' L ({ frames := 1, cells := 0, slots := 0, locals := 14 } : Room).cells ({ frames := 1, cells := 0, slots := 0, locals := 14 } : Room).slots) := by
  refine MetFree.of_bodySF (plainFor_of_name pn_4) hisR ?_
  intro p e s m args below meth c s₁ Bd hml0 hP hK
  obtain ⟨rfl, hZ, hh⟩ := hP
  have hx := Bd.exec
  have hby := Bd.bytes
  have hml : c.maxLocals = 4 := hml0
  have hown : s.vm.findClass "com/example/bytelace/bytelace/core/ByteInput" = some m.cls := findClass_of_methodNamed Bd.named
  have hnm := (name_of_methodNamed Bd.named Bd.method).1
  have X0 : Stand p l e ({ frames := 1, cells := 0, slots := 0, locals := 14 } : Room) s m #[(.ref a), (.long q'), (.int i')] below meth c s₁ [] 0 0 := Stand.of_body Bd
  have e0 : s₁.heap = h0 := by rw [← hh, Bd.state]; rfl
  have N0 := Fr.nil n0
  have K0 : Keep h0 h0 [] := Keep.refl h0 _
  have pre0 : ∀ t, Steps p.tables e below (s₁.setTop (mkF m 0 #[.val (.ref a), .val (.long q'), .second, .val (.int i')] [])) t → Steps p.tables e below (s₁.setTop (entryFrame m #[(.ref a), (.long q'), (.int i')] 4)) t := fun t k => castTop (ef_4 m a q' i') k
  obtain ⟨cq1, kq1, q1a, q1b, q1c⟩ := isOf hZ e0 E_a
  obtain ⟨_, _, ⟨T1, L1, k1, n1⟩, -, X1, ⟨Lc1, hQ1, l1, y1, z1⟩, st1⟩ := X0.virtualBack hx (y := (⟨"com/example/bytelace/bytelace/core/ByteInput", "remaining", "()I"⟩ : MethodName)) (z := (⟨"com/example/bytelace/bytelace/core/ByteInput", "remaining", "()I"⟩ : MethodName)) hown (mvT hZ (hw _ (List.mem_of_getElem? (i := 23) rfl))) (mvT hZ (hw _ (List.mem_of_getElem? (i := 24) rfl))) (notFace_of_selects (args := #[]) (mvT hZ (hw _ (List.mem_of_getElem? (i := 26) rfl)))) (mvT hZ (hw _ (List.mem_of_getElem? (i := 26) rfl))) (mvT hZ (hw _ (List.mem_of_getElem? (i := 25) rfl))) (by decide) (backOf (W := 2) (rm5 l Z a0 hw [] a b n' pos' f' h0 n0 Z0 F_bytes_a F_position_a V_b) hZ (hw _ (List.mem_of_getElem? (i := 27) rfl)) (hw _ (List.mem_of_getElem? (i := 4) rfl)) (by decide) (by decide)) q1a q1c (g := (mkF m 8 #[.val (.ref a), .val (.long q'), .second, .val (.int i')] [(.ref a), (.long q')])) rfl (by rw [hml]; rfl) (Steps.refl _) (argsL := []) (rest := [(.long q')]) (lenOf pd4_0 rfl) rfl (by show 2 * 0 + _ ≤ _; exact Nat.le_of_eq rfl) (hb hby d4_8) (fun _ _ => ⟨rfl, e0, (by decide : 0 + 0 ≤ _), (by decide : 0 + 0 ≤ _)⟩)
  dsimp only [Pt.U, Pt.locs, Pt.cells, Pt.slots] at X1 l1 y1 z1 st1 hQ1
  subst l1 y1 z1
  obtain ⟨rfl, N1q, hh1⟩ := hQ1
  have N1 := Fr.app N0 N1q
  obtain ⟨fs, hr, hrun, hended, hW, hsame⟩ := X1.leave (v := none) (fun _ => rfl)
  refine ⟨_, _, pre0 _ ?_, hrun, hended, _, _, rfl, ?_, ⟨_, rfl⟩, hW, hsame.mono (by decide) (by decide)⟩
  · show Steps p.tables e below (s₁.setTop (mkF m 0 #[.val (.ref a), .val (.long q'), .second, .val (.int i')] [])) _
    refine XS.lloadN X0.here hx rfl (hb hby d4_0) rfl ?_
    show Steps p.tables e below (s₁.setTop (mkF m 1 #[.val (.ref a), .val (.long q'), .second, .val (.int i')] [(.long q')])) _
    refine XS.lconst X0.here hx rfl (hb hby d4_1) ?_
    show Steps p.tables e below (s₁.setTop (mkF m 2 #[.val (.ref a), .val (.long q'), .second, .val (.int i')] [(.long (0 : Int64)), (.long q')])) _
    refine XS.lcmp X0.here hx rfl (hb hby d4_2) rfl ?_
    show Steps p.tables e below (s₁.setTop (mkF m 3 #[.val (.ref a), .val (.long q'), .second, .val (.int i')] [(.int (lcmpW q' (0 : Int64)))])) _
    refine XS.ifNo X0.here hx rfl (hb hby d4_3) rfl ((if0 _ _).trans (flt (fun q => h1 ((lw_lt q' (0 : Int64)).mp q))).1) ?_
    show Steps p.tables e below (s₁.setTop (mkF m 6 #[.val (.ref a), .val (.long q'), .second, .val (.int i')] [])) _
    refine XS.lloadN X0.here hx rfl (hb hby d4_6) rfl ?_
    show Steps p.tables e below (s₁.setTop (mkF m 7 #[.val (.ref a), .val (.long q'), .second, .val (.int i')] [(.long q')])) _
    refine XS.aloadN X0.here hx rfl (hb hby d4_7) rfl rfl ?_
    show Steps p.tables e below (s₁.setTop (mkF m 8 #[.val (.ref a), .val (.long q'), .second, .val (.int i')] [(.ref a), (.long q')])) _
    refine st1.trans ?_
    show Steps p.tables e below (T1.setTop (mkF m 11 #[.val (.ref a), .val (.long q'), .second, .val (.int i')] [(.int (n' - pos')), (.long q')])) _
    refine XS.i2l X1.here hx rfl (hb hby d4_11) rfl ?_
    show Steps p.tables e below (T1.setTop (mkF m 12 #[.val (.ref a), .val (.long q'), .second, .val (.int i')] [(.long ((n' - pos').toInt64)), (.long q')])) _
    refine XS.lcmp X1.here hx rfl (hb hby d4_12) rfl ?_
    show Steps p.tables e below (T1.setTop (mkF m 13 #[.val (.ref a), .val (.long q'), .second, .val (.int i')] [(.int (lcmpW q' ((n' - pos').toInt64)))])) _
    refine XS.ifYes X1.here hx rfl (pc0 := 13) (pc' := 28) rfl (hb hby d4_13) rfl ((if0 _ _).trans (flt (fun q => h2 ((lw_gt q' ((n' - pos').toInt64)).mp q))).2.2.2) (by decide) (by decide) ?_
    show Steps p.tables e below (T1.setTop (mkF m 28 #[.val (.ref a), .val (.long q'), .second, .val (.int i')] [])) _
    exact X1.returnOut hx Bd.returns (hb hby d4_28) hr
  · show Q4 Z a q' i' b n' pos' f' h0 n0 _ T1.heap _
    rw [hh1]
    exact ⟨rfl, N1, rfl⟩
theorem d3_0 : decode prog_5_method_12_code 0 = .ok (.lload_n 1, 1) := by decide +kernel
theorem d3_1 : decode prog_5_method_12_code 1 = .ok (.lconst 0, 1) := by decide +kernel
theorem d3_2 : decode prog_5_method_12_code 2 = .ok (.lcmp, 1) := by decide +kernel
theorem d3_3 : decode prog_5_method_12_code 3 = .ok (.ifCond .ge 8, 3) := by decide +kernel
theorem d3_11 : decode prog_5_method_12_code 11 = .ok (.aload_n 0, 1) := by decide +kernel
theorem d3_12 : decode prog_5_method_12_code 12 = .ok (.lload_n 1, 1) := by decide +kernel
theorem d3_13 : decode prog_5_method_12_code 13 = .ok (.iload_n 3, 1) := by decide +kernel
theorem d3_14 : decode prog_5_method_12_code 14 = .ok (.invokevirtual 27, 3) := by decide +kernel
theorem d3_17 : decode prog_5_method_12_code 17 = .ok (.aload_n 0, 1) := by decide +kernel
theorem d3_18 : decode prog_5_method_12_code 18 = .ok (.dup, 1) := by decide +kernel
theorem d3_19 : decode prog_5_method_12_code 19 = .ok (.getfield 13, 3) := by decide +kernel
theorem d3_22 : decode prog_5_method_12_code 22 = .ok (.lload_n 1, 1) := by decide +kernel
theorem d3_23 : decode prog_5_method_12_code 23 = .ok (.l2i, 1) := by decide +kernel
theorem d3_24 : decode prog_5_method_12_code 24 = .ok (.iadd, 1) := by decide +kernel
theorem d3_25 : decode prog_5_method_12_code 25 = .ok (.putfield 13, 3) := by decide +kernel
theorem d3_28 : decode prog_5_method_12_code 28 = .ok (.return_, 1) := by decide +kernel
theorem pn_3 : plainName "com/example/bytelace/bytelace/core/ByteInput" = true := by first | (simp [plainName, overriddenIn]; done) | decide +kernel
theorem pd3_0 : parseMethodDescriptor "(JI)V" = some ⟨[.long, .int], none⟩ := by decide +kernel
theorem ef_3 (m : MethodId) (x0 : Addr) (x1 : Int64) (x2 : Int32) : entryFrame m #[(.ref x0), (.long x1), (.int x2)] 4 = mkF m 0 #[.val (.ref x0), .val (.long x1), .second, .val (.int x2)] [] := by first | (simp [entryFrame, mkF, argsToLocals, Value.category]; done) | rfl
def Q3 (Z : State) (a : Addr) (q' : Int64) (i' : Int32) (b : Addr) (n' pos' : Int32) (f' : Nat → Int32) (h0 : Heap) (n0 : Nat) (v : Option Value) (h : Heap) (L : List Loc) : Prop := v = none ∧ Fr n0 L ∧ Keep h0 h [a] ∧ Fld Z h a "com/example/bytelace/bytelace/core/ByteInput" "bytes" "[B" (.ref b) ∧ Fld Z h a "com/example/bytelace/bytelace/core/ByteInput" "position" "I" (.int (pos' + q'.toInt32))
set_option maxRecDepth 65536 in
set_option maxHeartbeats 40000000 in
theorem rm3 (l : Launch) (Z : State) (a0 : Array Value) (hw : ∀ d ∈ tables_1, d.before a0 Z = true) (ws : List Jvm.Cond) (a : Addr) (q' : Int64) (i' : Int32) (b : Addr) (n' pos' : Int32) (f' : Nat → Int32) (h0 : Heap) (n0 : Nat) (Z0 : n0 ≤ h0.size) (F_bytes_a : Fld Z h0 a "com/example/bytelace/bytelace/core/ByteInput" "bytes" "[B" (.ref b)) (F_position_a : Fld Z h0 a "com/example/bytelace/bytelace/core/ByteInput" "position" "I" (.int pos')) (V_b : own_A Z h0 b .byte n' f') (E_a : Exa Z h0 a "com/example/bytelace/bytelace/core/ByteInput") (g_a : n0 ≤ a) (h1 : ¬ q' < (0 : Int64)) (h2 : ¬ (n' - pos').toInt64 < q') :
    MetFree l (⟨"com/example/bytelace/bytelace/core/ByteInput", "skip", "(JI)V"⟩ : MethodName) (head1 (Jvm.Cond.code (⟨"com/example/bytelace/bytelace/core/ByteInput", "skip", "(JI)V"⟩ : MethodName) prog_5_method_12_code 4 none :: ws) ({ frames := 2, cells := 0, slots := 0, locals := 29 } : Room)) (fun ar U => ar = #[(.ref a), (.long q'), (.int i')] ∧ Z.Warmed39 U.vm ∧ U.heap = h0) (fun _ _ _ _ _ => True) (fun _ U o U' => ∃ v L, o = .returned v ∧ Q3 Z a q' i' b n' pos' f' h0 n0 v U'.heap L ∧ FrameEnd U o U' L ({ frames := 2, cells := 0, slots := 0, locals := 29 } : Room).cells ({ frames := 2, cells := 0, slots := 0, locals := 29 } : Room).slots) := by
  refine MetFree.of_bodySF (plainFor_of_name pn_3) hisR ?_
  intro p e s m args below meth c s₁ Bd hml0 hP hK
  obtain ⟨rfl, hZ, hh⟩ := hP
  have hx := Bd.exec
  have hby := Bd.bytes
  have hml : c.maxLocals = 4 := hml0
  have hown : s.vm.findClass "com/example/bytelace/bytelace/core/ByteInput" = some m.cls := findClass_of_methodNamed Bd.named
  have hnm := (name_of_methodNamed Bd.named Bd.method).1
  have X0 : Stand p l e ({ frames := 2, cells := 0, slots := 0, locals := 29 } : Room) s m #[(.ref a), (.long q'), (.int i')] below meth c s₁ [] 0 0 := Stand.of_body Bd
  have e0 : s₁.heap = h0 := by rw [← hh, Bd.state]; rfl
  have N0 := Fr.nil n0
  have K0 : Keep h0 h0 [a] := Keep.refl h0 _
  have pre0 : ∀ t, Steps p.tables e below (s₁.setTop (mkF m 0 #[.val (.ref a), .val (.long q'), .second, .val (.int i')] [])) t → Steps p.tables e below (s₁.setTop (entryFrame m #[(.ref a), (.long q'), (.int i')] 4)) t := fun t k => castTop (ef_3 m a q' i') k
  obtain ⟨cq1, kq1, q1a, q1b, q1c⟩ := isOf hZ e0 E_a
  obtain ⟨_, _, ⟨T1, L1, k1, n1⟩, -, X1, ⟨Lc1, hQ1, l1, y1, z1⟩, st1⟩ := X0.virtualBack hx (y := (⟨"com/example/bytelace/bytelace/core/ByteInput", "require", "(JI)V"⟩ : MethodName)) (z := (⟨"com/example/bytelace/bytelace/core/ByteInput", "require", "(JI)V"⟩ : MethodName)) hown (mvT hZ (hw _ (List.mem_of_getElem? (i := 18) rfl))) (mvT hZ (hw _ (List.mem_of_getElem? (i := 19) rfl))) (notFace_of_selects (args := #[]) (mvT hZ (hw _ (List.mem_of_getElem? (i := 21) rfl)))) (mvT hZ (hw _ (List.mem_of_getElem? (i := 21) rfl))) (mvT hZ (hw _ (List.mem_of_getElem? (i := 20) rfl))) (by decide) (backOf (W := 0) (rm4 l Z a0 hw [] a q' i' b n' pos' f' h0 n0 Z0 F_bytes_a F_position_a V_b E_a h1 h2) hZ (hw _ (List.mem_of_getElem? (i := 22) rfl)) (hw _ (List.mem_of_getElem? (i := 4) rfl)) (by decide) (by decide)) q1a q1c (g := (mkF m 14 #[.val (.ref a), .val (.long q'), .second, .val (.int i')] [(.int i'), (.long q'), (.ref a)])) rfl (by rw [hml]; rfl) (Steps.refl _) (argsL := [(.long q'), (.int i')]) (rest := []) (lenOf pd3_0 rfl) rfl (by show 2 * 0 + _ ≤ _; exact Nat.le_of_eq rfl) (hb hby d3_14) (fun _ _ => ⟨rfl, e0, (by decide : 0 + 0 ≤ _), (by decide : 0 + 0 ≤ _)⟩)
  dsimp only [Pt.U, Pt.locs, Pt.cells, Pt.slots] at X1 l1 y1 z1 st1 hQ1
  subst l1 y1 z1
  obtain ⟨rfl, N1q, hh1⟩ := hQ1
  have N1 := Fr.app N0 N1q
  obtain ⟨T2, X2, e2, st2⟩ := getF X1 hx hZ hown (host := "") (Or.inl (hw _ (List.mem_of_getElem? (i := 28) rfl))) Via.refl hh1 F_position_a (g := (mkF m 19 #[.val (.ref a), .val (.long q'), .second, .val (.int i')] [(.ref a), (.ref a)])) rfl rfl (hb hby d3_19)
  obtain ⟨T3, h3, X3, e3, W3, st3⟩ := putF X2 hx hZ hown (host := "") (Or.inl (hw _ (List.mem_of_getElem? (i := 28) rfl))) Via.refl e2 F_position_a E_a (Or.inl (hw _ (List.mem_of_getElem? (i := 29) rfl))) (hw _ (List.mem_of_getElem? (i := 3) rfl)) (ty := .int) (by decide) rfl rfl (g := (mkF m 25 #[.val (.ref a), .val (.long q'), .second, .val (.int i')] [(.int (pos' + (q'.toInt32))), (.ref a)])) rfl rfl (hb hby d3_25)
  have E_a := E_a.wr W3
  have F_bytes_a := F_bytes_a.other W3 (Or.inr (slot_ne (Or.inr (hw _ (List.mem_of_getElem? (i := 12) rfl))) (Or.inl (hw _ (List.mem_of_getElem? (i := 29) rfl))) (by decide) (t := (.array .byte)) (t' := .int) (by decide) (by decide)))
  have F_position_a := F_position_a.same W3
  have Zs3 : n0 ≤ h3.size := Nat.le_trans Z0 (Keep.of_wr W3).1
  have K3 : Keep h0 h3 [a] := K0.wr W3 (Or.inl (List.mem_of_getElem? (i := 0) rfl))
  have N3 := Fr.snoc X3 N1 g_a
  obtain ⟨fs, hr, hrun, hended, hW, hsame⟩ := X3.leave (v := none) (fun _ => rfl)
  refine ⟨_, _, pre0 _ ?_, hrun, hended, _, _, rfl, ?_, ⟨_, rfl⟩, hW, hsame.mono (by decide) (by decide)⟩
  · show Steps p.tables e below (s₁.setTop (mkF m 0 #[.val (.ref a), .val (.long q'), .second, .val (.int i')] [])) _
    refine XS.lloadN X0.here hx rfl (hb hby d3_0) rfl ?_
    show Steps p.tables e below (s₁.setTop (mkF m 1 #[.val (.ref a), .val (.long q'), .second, .val (.int i')] [(.long q')])) _
    refine XS.lconst X0.here hx rfl (hb hby d3_1) ?_
    show Steps p.tables e below (s₁.setTop (mkF m 2 #[.val (.ref a), .val (.long q'), .second, .val (.int i')] [(.long (0 : Int64)), (.long q')])) _
    refine XS.lcmp X0.here hx rfl (hb hby d3_2) rfl ?_
    show Steps p.tables e below (s₁.setTop (mkF m 3 #[.val (.ref a), .val (.long q'), .second, .val (.int i')] [(.int (lcmpW q' (0 : Int64)))])) _
    refine XS.ifYes X0.here hx rfl (pc0 := 3) (pc' := 11) rfl (hb hby d3_3) rfl ((if0 _ _).trans (flt (fun q => h1 ((lw_lt q' (0 : Int64)).mp q))).2.1) (by decide) (by decide) ?_
    show Steps p.tables e below (s₁.setTop (mkF m 11 #[.val (.ref a), .val (.long q'), .second, .val (.int i')] [])) _
    refine XS.aloadN X0.here hx rfl (hb hby d3_11) rfl rfl ?_
    show Steps p.tables e below (s₁.setTop (mkF m 12 #[.val (.ref a), .val (.long q'), .second, .val (.int i')] [(.ref a)])) _
    refine XS.lloadN X0.here hx rfl (hb hby d3_12) rfl ?_
    show Steps p.tables e below (s₁.setTop (mkF m 13 #[.val (.ref a), .val (.long q'), .second, .val (.int i')] [(.long q'), (.ref a)])) _
    refine XS.iloadN X0.here hx rfl (hb hby d3_13) rfl ?_
    show Steps p.tables e below (s₁.setTop (mkF m 14 #[.val (.ref a), .val (.long q'), .second, .val (.int i')] [(.int i'), (.long q'), (.ref a)])) _
    refine st1.trans ?_
    show Steps p.tables e below (T1.setTop (mkF m 17 #[.val (.ref a), .val (.long q'), .second, .val (.int i')] [])) _
    refine XS.aloadN X1.here hx rfl (hb hby d3_17) rfl rfl ?_
    show Steps p.tables e below (T1.setTop (mkF m 18 #[.val (.ref a), .val (.long q'), .second, .val (.int i')] [(.ref a)])) _
    refine XS.dup X1.here hx rfl (hb hby d3_18) rfl rfl ?_
    show Steps p.tables e below (T1.setTop (mkF m 19 #[.val (.ref a), .val (.long q'), .second, .val (.int i')] [(.ref a), (.ref a)])) _
    refine st2 _ ?_
    show Steps p.tables e below (T2.setTop (mkF m 22 #[.val (.ref a), .val (.long q'), .second, .val (.int i')] [(.int pos'), (.ref a)])) _
    refine XS.lloadN X2.here hx rfl (hb hby d3_22) rfl ?_
    show Steps p.tables e below (T2.setTop (mkF m 23 #[.val (.ref a), .val (.long q'), .second, .val (.int i')] [(.long q'), (.int pos'), (.ref a)])) _
    refine XS.l2i X2.here hx rfl (hb hby d3_23) rfl ?_
    show Steps p.tables e below (T2.setTop (mkF m 24 #[.val (.ref a), .val (.long q'), .second, .val (.int i')] [(.int (q'.toInt32)), (.int pos'), (.ref a)])) _
    refine XS.iadd X2.here hx rfl (hb hby d3_24) rfl ?_
    show Steps p.tables e below (T2.setTop (mkF m 25 #[.val (.ref a), .val (.long q'), .second, .val (.int i')] [(.int (pos' + (q'.toInt32))), (.ref a)])) _
    refine st3 _ ?_
    show Steps p.tables e below (T3.setTop (mkF m 28 #[.val (.ref a), .val (.long q'), .second, .val (.int i')] [])) _
    exact X3.returnOut hx Bd.returns (hb hby d3_28) hr
  · show Q3 Z a q' i' b n' pos' f' h0 n0 _ T3.heap _
    rw [e3]
    exact ⟨rfl, N3, K3, F_bytes_a, F_position_a⟩
theorem d6_0 : decode prog_5_method_6_code 0 = .ok (.iload_n 1, 1) := by decide +kernel
theorem d6_1 : decode prog_5_method_6_code 1 = .ok (.aload_n 0, 1) := by decide +kernel
theorem d6_2 : decode prog_5_method_6_code 2 = .ok (.getfield 7, 3) := by decide +kernel
theorem d6_5 : decode prog_5_method_6_code 5 = .ok (.arraylength, 1) := by decide +kernel
theorem d6_6 : decode prog_5_method_6_code 6 = .ok (.if_icmp .ge 16, 3) := by decide +kernel
theorem d6_9 : decode prog_5_method_6_code 9 = .ok (.aload_n 0, 1) := by decide +kernel
theorem d6_10 : decode prog_5_method_6_code 10 = .ok (.getfield 7, 3) := by decide +kernel
theorem d6_13 : decode prog_5_method_6_code 13 = .ok (.iload_n 1, 1) := by decide +kernel
theorem d6_14 : decode prog_5_method_6_code 14 = .ok (.baload, 1) := by decide +kernel
theorem d6_15 : decode prog_5_method_6_code 15 = .ok (.sipush 255, 3) := by decide +kernel
theorem d6_18 : decode prog_5_method_6_code 18 = .ok (.iand, 1) := by decide +kernel
theorem d6_19 : decode prog_5_method_6_code 19 = .ok (.goto 4, 3) := by decide +kernel
theorem d6_22 : decode prog_5_method_6_code 22 = .ok (.iconst (-1), 1) := by decide +kernel
theorem d6_23 : decode prog_5_method_6_code 23 = .ok (.ireturn, 1) := by decide +kernel
theorem pn_6 : plainName "com/example/bytelace/bytelace/core/ByteInput" = true := by first | (simp [plainName, overriddenIn]; done) | decide +kernel
theorem ef_6 (m : MethodId) (x0 : Addr) (x1 : Int32) : entryFrame m #[(.ref x0), (.int x1)] 2 = mkF m 0 #[.val (.ref x0), .val (.int x1)] [] := by first | (simp [entryFrame, mkF, argsToLocals, Value.category]; done) | rfl
def Q6 (Z : State) (a : Addr) (o' : Int32) (b : Addr) (n' : Int32) (f' : Nat → Int32) (h0 : Heap) (n0 : Nat) (v : Option Value) (h : Heap) (L : List Loc) : Prop := v = some (.int (own_ub f' n' o')) ∧ Fr n0 L ∧ h = h0
set_option maxRecDepth 65536 in
set_option maxHeartbeats 40000000 in
theorem rm6 (l : Launch) (Z : State) (a0 : Array Value) (hw : ∀ d ∈ tables_1, d.before a0 Z = true) (ws : List Jvm.Cond) (a : Addr) (o' : Int32) (b : Addr) (n' : Int32) (f' : Nat → Int32) (h0 : Heap) (n0 : Nat) (Z0 : n0 ≤ h0.size) (F_bytes_a : Fld Z h0 a "com/example/bytelace/bytelace/core/ByteInput" "bytes" "[B" (.ref b)) (V_b : own_A Z h0 b .byte n' f') (ho : ¬ o' < 0) :
    MetFree l (⟨"com/example/bytelace/bytelace/core/ByteInput", "unsignedByteAt", "(I)I"⟩ : MethodName) (head1 (Jvm.Cond.code (⟨"com/example/bytelace/bytelace/core/ByteInput", "unsignedByteAt", "(I)I"⟩ : MethodName) prog_5_method_6_code 2 (some .int) :: ws) ({ frames := 0, cells := 0, slots := 0, locals := 0 } : Room)) (fun ar U => ar = #[(.ref a), (.int o')] ∧ Z.Warmed39 U.vm ∧ U.heap = h0) (fun _ _ _ _ _ => True) (fun _ U o U' => ∃ v L, o = .returned v ∧ Q6 Z a o' b n' f' h0 n0 v U'.heap L ∧ FrameEnd U o U' L ({ frames := 0, cells := 0, slots := 0, locals := 0 } : Room).cells ({ frames := 0, cells := 0, slots := 0, locals := 0 } : Room).slots) := by
  refine MetFree.of_bodySF (plainFor_of_name pn_6) hisR ?_
  intro p e s m args below meth c s₁ Bd hml0 hP hK
  obtain ⟨rfl, hZ, hh⟩ := hP
  have hx := Bd.exec
  have hby := Bd.bytes
  have hml : c.maxLocals = 2 := hml0
  have hown : s.vm.findClass "com/example/bytelace/bytelace/core/ByteInput" = some m.cls := findClass_of_methodNamed Bd.named
  have hnm := (name_of_methodNamed Bd.named Bd.method).1
  have X0 : Stand p l e ({ frames := 0, cells := 0, slots := 0, locals := 0 } : Room) s m #[(.ref a), (.int o')] below meth c s₁ [] 0 0 := Stand.of_body Bd
  have e0 : s₁.heap = h0 := by rw [← hh, Bd.state]; rfl
  have N0 := Fr.nil n0
  have K0 : Keep h0 h0 [] := Keep.refl h0 _
  have pre0 : ∀ t, Steps p.tables e below (s₁.setTop (mkF m 0 #[.val (.ref a), .val (.int o')] [])) t → Steps p.tables e below (s₁.setTop (entryFrame m #[(.ref a), (.int o')] 2)) t := fun t k => castTop (ef_6 m a o') k
  obtain ⟨T1, X1, e1, st1⟩ := getF X0 hx hZ hown (host := "") (Or.inl (hw _ (List.mem_of_getElem? (i := 11) rfl))) Via.refl e0 F_bytes_a (g := (mkF m 2 #[.val (.ref a), .val (.int o')] [(.ref a), (.int o')])) rfl rfl (hb hby d6_2)
  obtain ⟨cl52, Ar52, S52, M52, H52⟩ := id V_b
  have pre3 : ∀ t, Steps p.tables e below (T1.setTop (mkF m 6 #[.val (.ref a), .val (.int o')] [(.int n'), (.int o')])) t → Steps p.tables e below (s₁.setTop (entryFrame m #[(.ref a), (.int o')] 2)) t := by
    intro t kt
    refine pre0 t ?_
    show Steps p.tables e below (s₁.setTop (mkF m 0 #[.val (.ref a), .val (.int o')] [])) _
    refine XS.iloadN X0.here hx rfl (hb hby d6_0) rfl ?_
    show Steps p.tables e below (s₁.setTop (mkF m 1 #[.val (.ref a), .val (.int o')] [(.int o')])) _
    refine XS.aloadN X0.here hx rfl (hb hby d6_1) rfl rfl ?_
    show Steps p.tables e below (s₁.setTop (mkF m 2 #[.val (.ref a), .val (.int o')] [(.ref a), (.int o')])) _
    refine st1 _ ?_
    show Steps p.tables e below (T1.setTop (mkF m 5 #[.val (.ref a), .val (.int o')] [(.ref b), (.int o')])) _
    refine X1.arraylength hx (cell := cl52) (by rw [e1]; exact Ar52.1) (State.isArrayOf_alike hZ.alike Ar52.2.1) (g := (mkF m 5 #[.val (.ref a), .val (.int o')] [(.ref b), (.int o')])) rfl (rest := [(.int o')]) rfl (hb hby d6_5) _ ?_
    rw [len_of S52 M52]
    exact kt
  by_cases hc6_4 : o' < n'
  · obtain ⟨T5, X5, e5, st5⟩ := getF X1 hx hZ hown (host := "") (Or.inl (hw _ (List.mem_of_getElem? (i := 11) rfl))) Via.refl e1 F_bytes_a (g := (mkF m 10 #[.val (.ref a), .val (.int o')] [(.ref a)])) rfl rfl (hb hby d6_10)
    obtain ⟨cl146, Ar146, S146, M146, H146⟩ := id V_b
    have hin146 : ¬ (o' < 0 ∨ cl146.slots.size ≤ (o').toNatClampNeg) := inb_of S146 ⟨ho, hc6_4⟩
    have hat146 := own_A.at S146 H146 hin146
    obtain ⟨fs, hr, hrun, hended, hW, hsame⟩ := X5.leave (v := some (.int ((f' (o').toNatClampNeg) &&& (255 : Int32)))) (fun h => by rw [Bd.returns] at h; cases h)
    refine ⟨_, _, pre3 _ ?_, hrun, hended, _, _, rfl, ?_, ⟨_, rfl⟩, hW, hsame.mono (by decide) (by decide)⟩
    · show Steps p.tables e below (T1.setTop (mkF m 6 #[.val (.ref a), .val (.int o')] [(.int n'), (.int o')])) _
      refine XS.icmpNo X1.here hx rfl (hb hby d6_6) rfl (tlt hc6_4).2.1 ?_
      show Steps p.tables e below (T1.setTop (mkF m 9 #[.val (.ref a), .val (.int o')] [])) _
      refine XS.aloadN X1.here hx rfl (hb hby d6_9) rfl rfl ?_
      show Steps p.tables e below (T1.setTop (mkF m 10 #[.val (.ref a), .val (.int o')] [(.ref a)])) _
      refine st5 _ ?_
      show Steps p.tables e below (T5.setTop (mkF m 13 #[.val (.ref a), .val (.int o')] [(.ref b)])) _
      refine XS.iloadN X5.here hx rfl (hb hby d6_13) rfl ?_
      show Steps p.tables e below (T5.setTop (mkF m 14 #[.val (.ref a), .val (.int o')] [(.int o'), (.ref b)])) _
      refine X5.baloadBytes hx (j := o') (v := (.int (f' (o').toNatClampNeg))) (by rw [e5]; exact Ar146.1) (State.isArrayOf_alike hZ.alike Ar146.2.1) Ar146.2.2 hin146 hat146 (g := (mkF m 14 #[.val (.ref a), .val (.int o')] [(.int o'), (.ref b)])) rfl rfl (hb hby d6_14) _ ?_
      show Steps p.tables e below (T5.setTop (mkF m 15 #[.val (.ref a), .val (.int o')] [(.int (f' (o').toNatClampNeg))])) _
      refine XS.sipush X5.here hx rfl (hb hby d6_15) ?_
      show Steps p.tables e below (T5.setTop (mkF m 18 #[.val (.ref a), .val (.int o')] [(.int (255 : Int32)), (.int (f' (o').toNatClampNeg))])) _
      refine XS.iand X5.here hx rfl (hb hby d6_18) rfl ?_
      show Steps p.tables e below (T5.setTop (mkF m 19 #[.val (.ref a), .val (.int o')] [(.int ((f' (o').toNatClampNeg) &&& (255 : Int32)))])) _
      refine XS.goto X5.here hx rfl (pc0 := 19) (pc' := 23) rfl (hb hby d6_19) (by decide) (by decide) ?_
      show Steps p.tables e below (T5.setTop (mkF m 23 #[.val (.ref a), .val (.int o')] [(.int ((f' (o').toNatClampNeg) &&& (255 : Int32)))])) _
      exact retOut X5 hx Bd.returns rfl (Or.inl ⟨rfl, Or.inl rfl, _, rfl⟩) (hb hby d6_23) hr
    · show Q6 Z a o' b n' f' h0 n0 _ T5.heap _
      rw [e5]
      exact ⟨by rw [own_ub, if_pos hc6_4], N0, rfl⟩
  · obtain ⟨fs, hr, hrun, hended, hW, hsame⟩ := X1.leave (v := some (.int (-1 : Int32))) (fun h => by rw [Bd.returns] at h; cases h)
    refine ⟨_, _, pre3 _ ?_, hrun, hended, _, _, rfl, ?_, ⟨_, rfl⟩, hW, hsame.mono (by decide) (by decide)⟩
    · show Steps p.tables e below (T1.setTop (mkF m 6 #[.val (.ref a), .val (.int o')] [(.int n'), (.int o')])) _
      refine XS.icmpYes X1.here hx rfl (pc0 := 6) (pc' := 22) rfl (hb hby d6_6) rfl (flt hc6_4).2.1 (by decide) (by decide) ?_
      show Steps p.tables e below (T1.setTop (mkF m 22 #[.val (.ref a), .val (.int o')] [])) _
      refine XS.iconst X1.here hx rfl (hb hby d6_22) ?_
      show Steps p.tables e below (T1.setTop (mkF m 23 #[.val (.ref a), .val (.int o')] [(.int (-1 : Int32))])) _
      exact retOut X1 hx Bd.returns rfl (Or.inl ⟨rfl, Or.inl rfl, _, rfl⟩) (hb hby d6_23) hr
    · show Q6 Z a o' b n' f' h0 n0 _ T1.heap _
      rw [e1]
      exact ⟨by rw [own_ub, if_neg hc6_4], N0, rfl⟩
theorem d7_0 : decode prog_5_method_2_code 0 = .ok (.aload_n 0, 1) := by decide +kernel
theorem d7_1 : decode prog_5_method_2_code 1 = .ok (.getfield 13, 3) := by decide +kernel
theorem d7_4 : decode prog_5_method_2_code 4 = .ok (.ireturn, 1) := by decide +kernel
theorem pn_7 : plainName "com/example/bytelace/bytelace/core/ByteInput" = true := by first | (simp [plainName, overriddenIn]; done) | decide +kernel
theorem ef_7 (m : MethodId) (x0 : Addr) : entryFrame m #[(.ref x0)] 1 = mkF m 0 #[.val (.ref x0)] [] := by first | (simp [entryFrame, mkF, argsToLocals, Value.category]; done) | rfl
def Q7 (Z : State) (a : Addr) (pos' : Int32) (h0 : Heap) (n0 : Nat) (v : Option Value) (h : Heap) (L : List Loc) : Prop := v = some (.int pos') ∧ Fr n0 L ∧ h = h0
set_option maxRecDepth 65536 in
set_option maxHeartbeats 40000000 in
theorem rm7 (l : Launch) (Z : State) (a0 : Array Value) (hw : ∀ d ∈ tables_1, d.before a0 Z = true) (ws : List Jvm.Cond) (a : Addr) (pos' : Int32) (h0 : Heap) (n0 : Nat) (Z0 : n0 ≤ h0.size) (F_position_a : Fld Z h0 a "com/example/bytelace/bytelace/core/ByteInput" "position" "I" (.int pos')) :
    MetFree l (⟨"com/example/bytelace/bytelace/core/ByteInput", "position", "()I"⟩ : MethodName) (head1 (Jvm.Cond.code (⟨"com/example/bytelace/bytelace/core/ByteInput", "position", "()I"⟩ : MethodName) prog_5_method_2_code 1 (some .int) :: ws) ({ frames := 0, cells := 0, slots := 0, locals := 0 } : Room)) (fun ar U => ar = #[(.ref a)] ∧ Z.Warmed39 U.vm ∧ U.heap = h0) (fun _ _ _ _ _ => True) (fun _ U o U' => ∃ v L, o = .returned v ∧ Q7 Z a pos' h0 n0 v U'.heap L ∧ FrameEnd U o U' L ({ frames := 0, cells := 0, slots := 0, locals := 0 } : Room).cells ({ frames := 0, cells := 0, slots := 0, locals := 0 } : Room).slots) := by
  refine MetFree.of_bodySF (plainFor_of_name pn_7) hisR ?_
  intro p e s m args below meth c s₁ Bd hml0 hP hK
  obtain ⟨rfl, hZ, hh⟩ := hP
  have hx := Bd.exec
  have hby := Bd.bytes
  have hml : c.maxLocals = 1 := hml0
  have hown : s.vm.findClass "com/example/bytelace/bytelace/core/ByteInput" = some m.cls := findClass_of_methodNamed Bd.named
  have hnm := (name_of_methodNamed Bd.named Bd.method).1
  have X0 : Stand p l e ({ frames := 0, cells := 0, slots := 0, locals := 0 } : Room) s m #[(.ref a)] below meth c s₁ [] 0 0 := Stand.of_body Bd
  have e0 : s₁.heap = h0 := by rw [← hh, Bd.state]; rfl
  have N0 := Fr.nil n0
  have K0 : Keep h0 h0 [] := Keep.refl h0 _
  have pre0 : ∀ t, Steps p.tables e below (s₁.setTop (mkF m 0 #[.val (.ref a)] [])) t → Steps p.tables e below (s₁.setTop (entryFrame m #[(.ref a)] 1)) t := fun t k => castTop (ef_7 m a) k
  obtain ⟨T1, X1, e1, st1⟩ := getF X0 hx hZ hown (host := "") (Or.inl (hw _ (List.mem_of_getElem? (i := 28) rfl))) Via.refl e0 F_position_a (g := (mkF m 1 #[.val (.ref a)] [(.ref a)])) rfl rfl (hb hby d7_1)
  obtain ⟨fs, hr, hrun, hended, hW, hsame⟩ := X1.leave (v := some (.int pos')) (fun h => by rw [Bd.returns] at h; cases h)
  refine ⟨_, _, pre0 _ ?_, hrun, hended, _, _, rfl, ?_, ⟨_, rfl⟩, hW, hsame.mono (by decide) (by decide)⟩
  · show Steps p.tables e below (s₁.setTop (mkF m 0 #[.val (.ref a)] [])) _
    refine XS.aloadN X0.here hx rfl (hb hby d7_0) rfl rfl ?_
    show Steps p.tables e below (s₁.setTop (mkF m 1 #[.val (.ref a)] [(.ref a)])) _
    refine st1 _ ?_
    show Steps p.tables e below (T1.setTop (mkF m 4 #[.val (.ref a)] [(.int pos')])) _
    exact retOut X1 hx Bd.returns rfl (Or.inl ⟨rfl, Or.inl rfl, _, rfl⟩) (hb hby d7_4) hr
  · show Q7 Z a pos' h0 n0 _ T1.heap _
    rw [e1]
    exact ⟨rfl, N0, rfl⟩
theorem pn_0 : plainName "com/example/bytelace/bytelace/core/ByteInputUnsignedByteAtPinLaw" = true := by first | (simp [plainName, overriddenIn]; done) | decide +kernel
theorem pd0_0 : parseMethodDescriptor "([B)V" = some ⟨[(.array .byte)], none⟩ := by decide +kernel
theorem pd0_1 : parseMethodDescriptor "(JI)V" = some ⟨[.long, .int], none⟩ := by decide +kernel
theorem pd0_2 : parseMethodDescriptor "(I)I" = some ⟨[.int], some .int⟩ := by decide +kernel
theorem pd0_3 : parseMethodDescriptor "()I" = some ⟨[], some .int⟩ := by decide +kernel
theorem ef_0 (m : MethodId) (x0 : Int64) (x1 : Int32) (x2 : Int32) : entryFrame m #[(.long x0), (.int x1), (.int x2)] maxLocals = mkF m 0 #[.val (.long x0), .second, .val (.int x1), .val (.int x2), .unset, .unset, .unset, .unset, .unset, .unset, .unset] [] := by first | (simp [entryFrame, mkF, argsToLocals, Value.category, maxLocals]; done) | rfl
def Q0 (Z : State) (w' : Int64) (s' : Int32) (x' : Int32) (h0 : Heap) (n0 : Nat) (v : Option Value) (h : Heap) (L : List Loc) : Prop := v = some (.int (1 : Int32)) ∧ Fr n0 L
set_option maxRecDepth 65536 in
set_option maxHeartbeats 40000000 in
theorem rm0 (l : Launch) (Z : State) (a0 : Array Value) (hw : ∀ d ∈ tables_1, d.before a0 Z = true) (ws : List Jvm.Cond) (w' : Int64) (s' : Int32) (x' : Int32) (h0 : Heap) (n0 : Nat) (Z0 : n0 ≤ h0.size)  :
    MetFree l x (head1 (Jvm.Cond.code x code maxLocals ret :: ws) room_1) (fun ar U => ar = #[(.long w'), (.int s'), (.int x')] ∧ Z.Warmed39 U.vm ∧ U.heap = h0) (fun _ _ _ _ _ => True) (fun _ U o U' => ∃ v L, o = .returned v ∧ Q0 Z w' s' x' h0 n0 v U'.heap L ∧ FrameEnd U o U' L room_1.cells room_1.slots) := by
  refine MetFree.of_bodySF (plainFor_of_name pn_0) hisR ?_
  intro p e s m args below meth c s₁ Bd hml0 hP hK
  obtain ⟨rfl, hZ, hh⟩ := hP
  have hx := Bd.exec
  have hby := Bd.bytes
  have hml : c.maxLocals = 11 := hml0
  have hown : s.vm.findClass "com/example/bytelace/bytelace/core/ByteInputUnsignedByteAtPinLaw" = some m.cls := findClass_of_methodNamed Bd.named
  have hnm := (name_of_methodNamed Bd.named Bd.method).1
  have X0 : Stand p l e room_1 s m #[(.long w'), (.int s'), (.int x')] below meth c s₁ [] 0 0 := Stand.of_body Bd
  have e0 : s₁.heap = h0 := by rw [← hh, Bd.state]; rfl
  have N0 := Fr.nil n0
  have K0 : Keep h0 h0 [] := Keep.refl h0 _
  have pre0 : ∀ t, Steps p.tables e below (s₁.setTop (mkF m 0 #[.val (.long w'), .second, .val (.int s'), .val (.int x'), .unset, .unset, .unset, .unset, .unset, .unset, .unset] [])) t → Steps p.tables e below (s₁.setTop (entryFrame m #[(.long w'), (.int s'), (.int x')] maxLocals)) t := fun t k => castTop (ef_0 m w' s' x') k
  have pre1 : ∀ t, Steps p.tables e below (s₁.setTop (mkF m 9 #[.val (.long w'), .second, .val (.int s'), .val (.int x'), .val (.int ((s' &&& (15 : Int32)) % (9 : Int32))), .unset, .unset, .unset, .unset, .unset, .unset] [])) t → Steps p.tables e below (s₁.setTop (entryFrame m #[(.long w'), (.int s'), (.int x')] maxLocals)) t := by
    intro t kt
    refine pre0 t ?_
    show Steps p.tables e below (s₁.setTop (mkF m 0 #[.val (.long w'), .second, .val (.int s'), .val (.int x'), .unset, .unset, .unset, .unset, .unset, .unset, .unset] [])) _
    refine XS.iloadN X0.here hx rfl (hb hby at_0) rfl ?_
    show Steps p.tables e below (s₁.setTop (mkF m 1 #[.val (.long w'), .second, .val (.int s'), .val (.int x'), .unset, .unset, .unset, .unset, .unset, .unset, .unset] [(.int s')])) _
    refine XS.bipush X0.here hx rfl (hb hby at_1) ?_
    show Steps p.tables e below (s₁.setTop (mkF m 3 #[.val (.long w'), .second, .val (.int s'), .val (.int x'), .unset, .unset, .unset, .unset, .unset, .unset, .unset] [(.int (15 : Int32)), (.int s')])) _
    refine XS.iand X0.here hx rfl (hb hby at_3) rfl ?_
    show Steps p.tables e below (s₁.setTop (mkF m 4 #[.val (.long w'), .second, .val (.int s'), .val (.int x'), .unset, .unset, .unset, .unset, .unset, .unset, .unset] [(.int (s' &&& (15 : Int32)))])) _
    refine XS.bipush X0.here hx rfl (hb hby at_4) ?_
    show Steps p.tables e below (s₁.setTop (mkF m 6 #[.val (.long w'), .second, .val (.int s'), .val (.int x'), .unset, .unset, .unset, .unset, .unset, .unset, .unset] [(.int (9 : Int32)), (.int (s' &&& (15 : Int32)))])) _
    refine iremM X0 hx rfl (hb hby at_6) rfl (by decide) ?_
    show Steps p.tables e below (s₁.setTop (mkF m 7 #[.val (.long w'), .second, .val (.int s'), .val (.int x'), .unset, .unset, .unset, .unset, .unset, .unset, .unset] [(.int ((s' &&& (15 : Int32)) % (9 : Int32)))])) _
    refine XS.istore X0.here hx rfl (hb hby at_7) rfl (l' := #[.val (.long w'), .second, .val (.int s'), .val (.int x'), .val (.int ((s' &&& (15 : Int32)) % (9 : Int32))), .unset, .unset, .unset, .unset, .unset, .unset]) rfl ?_
    exact kt
  obtain ⟨n', h_n'⟩ : ∃ z : Int32, z = ((s' &&& (15 : Int32)) % (9 : Int32)) := ⟨_, rfl⟩
  have pre2 : ∀ t, Steps p.tables e below (s₁.setTop (mkF m 9 #[.val (.long w'), .second, .val (.int s'), .val (.int x'), .val (.int n'), .unset, .unset, .unset, .unset, .unset, .unset] [])) t → Steps p.tables e below (s₁.setTop (entryFrame m #[(.long w'), (.int s'), (.int x')] maxLocals)) t := by rw [h_n']; exact pre1
  have hn : 0 ≤ n'.toInt ∧ n'.toInt ≤ 8 := by rw [h_n']; exact own_n s'
  have hnz19 := own_nz hn
  have pre3 : ∀ t, Steps p.tables e below (s₁.setTop (mkF m 22 #[.val (.long w'), .second, .val (.int s'), .val (.int x'), .val (.int n'), .val (.int ((((s'.toUInt32 >>> ((4 : Int32) &&& 31).toUInt32).toInt32) &&& (15 : Int32)) % (n' + (1 : Int32)))), .unset, .unset, .unset, .unset, .unset] [])) t → Steps p.tables e below (s₁.setTop (entryFrame m #[(.long w'), (.int s'), (.int x')] maxLocals)) t := by
    intro t kt
    refine pre2 t ?_
    show Steps p.tables e below (s₁.setTop (mkF m 9 #[.val (.long w'), .second, .val (.int s'), .val (.int x'), .val (.int n'), .unset, .unset, .unset, .unset, .unset, .unset] [])) _
    refine XS.iloadN X0.here hx rfl (hb hby at_9) rfl ?_
    show Steps p.tables e below (s₁.setTop (mkF m 10 #[.val (.long w'), .second, .val (.int s'), .val (.int x'), .val (.int n'), .unset, .unset, .unset, .unset, .unset, .unset] [(.int s')])) _
    refine XS.iconst X0.here hx rfl (hb hby at_10) ?_
    show Steps p.tables e below (s₁.setTop (mkF m 11 #[.val (.long w'), .second, .val (.int s'), .val (.int x'), .val (.int n'), .unset, .unset, .unset, .unset, .unset, .unset] [(.int (4 : Int32)), (.int s')])) _
    refine XS.iushr X0.here hx rfl (hb hby at_11) rfl ?_
    show Steps p.tables e below (s₁.setTop (mkF m 12 #[.val (.long w'), .second, .val (.int s'), .val (.int x'), .val (.int n'), .unset, .unset, .unset, .unset, .unset, .unset] [(.int ((s'.toUInt32 >>> ((4 : Int32) &&& 31).toUInt32).toInt32))])) _
    refine XS.bipush X0.here hx rfl (hb hby at_12) ?_
    show Steps p.tables e below (s₁.setTop (mkF m 14 #[.val (.long w'), .second, .val (.int s'), .val (.int x'), .val (.int n'), .unset, .unset, .unset, .unset, .unset, .unset] [(.int (15 : Int32)), (.int ((s'.toUInt32 >>> ((4 : Int32) &&& 31).toUInt32).toInt32))])) _
    refine XS.iand X0.here hx rfl (hb hby at_14) rfl ?_
    show Steps p.tables e below (s₁.setTop (mkF m 15 #[.val (.long w'), .second, .val (.int s'), .val (.int x'), .val (.int n'), .unset, .unset, .unset, .unset, .unset, .unset] [(.int (((s'.toUInt32 >>> ((4 : Int32) &&& 31).toUInt32).toInt32) &&& (15 : Int32)))])) _
    refine XS.iload X0.here hx rfl (hb hby at_15) rfl ?_
    show Steps p.tables e below (s₁.setTop (mkF m 17 #[.val (.long w'), .second, .val (.int s'), .val (.int x'), .val (.int n'), .unset, .unset, .unset, .unset, .unset, .unset] [(.int n'), (.int (((s'.toUInt32 >>> ((4 : Int32) &&& 31).toUInt32).toInt32) &&& (15 : Int32)))])) _
    refine XS.iconst X0.here hx rfl (hb hby at_17) ?_
    show Steps p.tables e below (s₁.setTop (mkF m 18 #[.val (.long w'), .second, .val (.int s'), .val (.int x'), .val (.int n'), .unset, .unset, .unset, .unset, .unset, .unset] [(.int (1 : Int32)), (.int n'), (.int (((s'.toUInt32 >>> ((4 : Int32) &&& 31).toUInt32).toInt32) &&& (15 : Int32)))])) _
    refine XS.iadd X0.here hx rfl (hb hby at_18) rfl ?_
    show Steps p.tables e below (s₁.setTop (mkF m 19 #[.val (.long w'), .second, .val (.int s'), .val (.int x'), .val (.int n'), .unset, .unset, .unset, .unset, .unset, .unset] [(.int (n' + (1 : Int32))), (.int (((s'.toUInt32 >>> ((4 : Int32) &&& 31).toUInt32).toInt32) &&& (15 : Int32)))])) _
    refine iremM X0 hx rfl (hb hby at_19) rfl hnz19 ?_
    show Steps p.tables e below (s₁.setTop (mkF m 20 #[.val (.long w'), .second, .val (.int s'), .val (.int x'), .val (.int n'), .unset, .unset, .unset, .unset, .unset, .unset] [(.int ((((s'.toUInt32 >>> ((4 : Int32) &&& 31).toUInt32).toInt32) &&& (15 : Int32)) % (n' + (1 : Int32))))])) _
    refine XS.istore X0.here hx rfl (hb hby at_20) rfl (l' := #[.val (.long w'), .second, .val (.int s'), .val (.int x'), .val (.int n'), .val (.int ((((s'.toUInt32 >>> ((4 : Int32) &&& 31).toUInt32).toInt32) &&& (15 : Int32)) % (n' + (1 : Int32)))), .unset, .unset, .unset, .unset, .unset]) rfl ?_
    exact kt
  obtain ⟨k', h_k'⟩ : ∃ z : Int32, z = ((((s'.toUInt32 >>> ((4 : Int32) &&& 31).toUInt32).toInt32) &&& (15 : Int32)) % (n' + (1 : Int32))) := ⟨_, rfl⟩
  have pre4 : ∀ t, Steps p.tables e below (s₁.setTop (mkF m 22 #[.val (.long w'), .second, .val (.int s'), .val (.int x'), .val (.int n'), .val (.int k'), .unset, .unset, .unset, .unset, .unset] [])) t → Steps p.tables e below (s₁.setTop (entryFrame m #[(.long w'), (.int s'), (.int x')] maxLocals)) t := by rw [h_k']; exact pre3
  have hk : 0 ≤ k'.toInt ∧ k'.toInt ≤ n'.toInt := by rw [h_k']; exact own_kk _ hn
  have J5 : ∃ (o' : Int32), (0 ≤ o'.toInt) ∧ ∀ t, Steps p.tables e below (s₁.setTop (mkF m 42 #[.val (.long w'), .second, .val (.int s'), .val (.int x'), .val (.int n'), .val (.int k'), .unset, .unset, .unset, .unset, .unset] [(.int o')])) t → Steps p.tables e below (s₁.setTop (entryFrame m #[(.long w'), (.int s'), (.int x')] maxLocals)) t := by
    have pre6 : ∀ t, Steps p.tables e below (s₁.setTop (mkF m 28 #[.val (.long w'), .second, .val (.int s'), .val (.int x'), .val (.int n'), .val (.int k'), .unset, .unset, .unset, .unset, .unset] [(.int (((s'.toUInt32 >>> ((8 : Int32) &&& 31).toUInt32).toInt32) &&& (1 : Int32)))])) t → Steps p.tables e below (s₁.setTop (entryFrame m #[(.long w'), (.int s'), (.int x')] maxLocals)) t := by
      intro t kt
      refine pre4 t ?_
      show Steps p.tables e below (s₁.setTop (mkF m 22 #[.val (.long w'), .second, .val (.int s'), .val (.int x'), .val (.int n'), .val (.int k'), .unset, .unset, .unset, .unset, .unset] [])) _
      refine XS.iloadN X0.here hx rfl (hb hby at_22) rfl ?_
      show Steps p.tables e below (s₁.setTop (mkF m 23 #[.val (.long w'), .second, .val (.int s'), .val (.int x'), .val (.int n'), .val (.int k'), .unset, .unset, .unset, .unset, .unset] [(.int s')])) _
      refine XS.bipush X0.here hx rfl (hb hby at_23) ?_
      show Steps p.tables e below (s₁.setTop (mkF m 25 #[.val (.long w'), .second, .val (.int s'), .val (.int x'), .val (.int n'), .val (.int k'), .unset, .unset, .unset, .unset, .unset] [(.int (8 : Int32)), (.int s')])) _
      refine XS.iushr X0.here hx rfl (hb hby at_25) rfl ?_
      show Steps p.tables e below (s₁.setTop (mkF m 26 #[.val (.long w'), .second, .val (.int s'), .val (.int x'), .val (.int n'), .val (.int k'), .unset, .unset, .unset, .unset, .unset] [(.int ((s'.toUInt32 >>> ((8 : Int32) &&& 31).toUInt32).toInt32))])) _
      refine XS.iconst X0.here hx rfl (hb hby at_26) ?_
      show Steps p.tables e below (s₁.setTop (mkF m 27 #[.val (.long w'), .second, .val (.int s'), .val (.int x'), .val (.int n'), .val (.int k'), .unset, .unset, .unset, .unset, .unset] [(.int (1 : Int32)), (.int ((s'.toUInt32 >>> ((8 : Int32) &&& 31).toUInt32).toInt32))])) _
      refine XS.iand X0.here hx rfl (hb hby at_27) rfl ?_
      exact kt
    by_cases hc28_7 : (((s'.toUInt32 >>> ((8 : Int32) &&& 31).toUInt32).toInt32) &&& (1 : Int32)) = (0 : Int32)
    · have pre8 : ∀ t, Steps p.tables e below (s₁.setTop (mkF m 42 #[.val (.long w'), .second, .val (.int s'), .val (.int x'), .val (.int n'), .val (.int k'), .unset, .unset, .unset, .unset, .unset] [(.int (x' &&& (2147483647 : Int32)))])) t → Steps p.tables e below (s₁.setTop (entryFrame m #[(.long w'), (.int s'), (.int x')] maxLocals)) t := by
        intro t kt
        refine pre6 t ?_
        show Steps p.tables e below (s₁.setTop (mkF m 28 #[.val (.long w'), .second, .val (.int s'), .val (.int x'), .val (.int n'), .val (.int k'), .unset, .unset, .unset, .unset, .unset] [(.int (((s'.toUInt32 >>> ((8 : Int32) &&& 31).toUInt32).toInt32) &&& (1 : Int32)))])) _
        refine XS.ifYes X0.here hx rfl (pc0 := 28) (pc' := 38) rfl (hb hby at_28) rfl ((if0 _ _).trans (teq hc28_7).1) (by decide) (by decide) ?_
        show Steps p.tables e below (s₁.setTop (mkF m 38 #[.val (.long w'), .second, .val (.int s'), .val (.int x'), .val (.int n'), .val (.int k'), .unset, .unset, .unset, .unset, .unset] [])) _
        refine XS.iloadN X0.here hx rfl (hb hby at_38) rfl ?_
        show Steps p.tables e below (s₁.setTop (mkF m 39 #[.val (.long w'), .second, .val (.int s'), .val (.int x'), .val (.int n'), .val (.int k'), .unset, .unset, .unset, .unset, .unset] [(.int x')])) _
        refine X0.ldcInt hx hown (mvT hZ (hw _ (List.mem_of_getElem? (i := 0) rfl))) (g := (mkF m 39 #[.val (.long w'), .second, .val (.int s'), .val (.int x'), .val (.int n'), .val (.int k'), .unset, .unset, .unset, .unset, .unset] [(.int x')])) rfl (hb hby at_39) _ ?_
        show Steps p.tables e below (s₁.setTop (mkF m 41 #[.val (.long w'), .second, .val (.int s'), .val (.int x'), .val (.int n'), .val (.int k'), .unset, .unset, .unset, .unset, .unset] [(.int (2147483647 : Int32)), (.int x')])) _
        refine XS.iand X0.here hx rfl (hb hby at_41) rfl ?_
        exact kt
      exact ⟨(x' &&& (2147483647 : Int32)), own_o2 _, pre8⟩
    · have pre9 : ∀ t, Steps p.tables e below (s₁.setTop (mkF m 42 #[.val (.long w'), .second, .val (.int s'), .val (.int x'), .val (.int n'), .val (.int k'), .unset, .unset, .unset, .unset, .unset] [(.int (x' &&& (15 : Int32)))])) t → Steps p.tables e below (s₁.setTop (entryFrame m #[(.long w'), (.int s'), (.int x')] maxLocals)) t := by
        intro t kt
        refine pre6 t ?_
        show Steps p.tables e below (s₁.setTop (mkF m 28 #[.val (.long w'), .second, .val (.int s'), .val (.int x'), .val (.int n'), .val (.int k'), .unset, .unset, .unset, .unset, .unset] [(.int (((s'.toUInt32 >>> ((8 : Int32) &&& 31).toUInt32).toInt32) &&& (1 : Int32)))])) _
        refine XS.ifNo X0.here hx rfl (hb hby at_28) rfl ((if0 _ _).trans (feq hc28_7).1) ?_
        show Steps p.tables e below (s₁.setTop (mkF m 31 #[.val (.long w'), .second, .val (.int s'), .val (.int x'), .val (.int n'), .val (.int k'), .unset, .unset, .unset, .unset, .unset] [])) _
        refine XS.iloadN X0.here hx rfl (hb hby at_31) rfl ?_
        show Steps p.tables e below (s₁.setTop (mkF m 32 #[.val (.long w'), .second, .val (.int s'), .val (.int x'), .val (.int n'), .val (.int k'), .unset, .unset, .unset, .unset, .unset] [(.int x')])) _
        refine XS.bipush X0.here hx rfl (hb hby at_32) ?_
        show Steps p.tables e below (s₁.setTop (mkF m 34 #[.val (.long w'), .second, .val (.int s'), .val (.int x'), .val (.int n'), .val (.int k'), .unset, .unset, .unset, .unset, .unset] [(.int (15 : Int32)), (.int x')])) _
        refine XS.iand X0.here hx rfl (hb hby at_34) rfl ?_
        show Steps p.tables e below (s₁.setTop (mkF m 35 #[.val (.long w'), .second, .val (.int s'), .val (.int x'), .val (.int n'), .val (.int k'), .unset, .unset, .unset, .unset, .unset] [(.int (x' &&& (15 : Int32)))])) _
        refine XS.goto X0.here hx rfl (pc0 := 35) (pc' := 42) rfl (hb hby at_35) (by decide) (by decide) ?_
        exact kt
      exact ⟨(x' &&& (15 : Int32)), own_o1 _, pre9⟩
  obtain ⟨o', hJ5, pre5⟩ := J5
  have hJo := hJ5
  obtain ⟨T10, h10, k10, X10, e10, E10, A10, st10⟩ := newP X0 hx hZ (hw _ (List.mem_of_getElem? (i := 1) rfl)) e0 (g := (mkF m 46 #[.val (.long w'), .second, .val (.int s'), .val (.int x'), .val (.int n'), .val (.int k'), .val (.int o'), .unset, .unset, .unset, .unset] [(.int n')])) rfl (hb hby at_46) rfl (own_nlt hn.1) (cap := 8) (own_cap hn) (by decide) (by decide) (by decide)
  obtain ⟨b10, g10⟩ : ∃ z, z = h0.size := ⟨_, rfl⟩
  rw [← g10] at A10 st10
  have g_b10 : n0 ≤ b10 := Nat.le_trans Z0 (Nat.le_of_eq g10.symm)
  have sz_b10 : h0.size ≤ b10 := Nat.le_trans K0.1 (Nat.le_of_eq g10.symm)
  have Zs10 : n0 ≤ h10.size := Nat.le_trans Z0 E10.1
  have K10 : Keep h0 h10 [] := K0.ext E10
  have V_b10 : own_A Z h10 b10 .byte n' (fun _ => 0) := own_A.new A10 (own_nlt hn.1) rfl
  have pre11 : ∀ t, Steps p.tables e below (T10.setTop (mkF m 50 #[.val (.long w'), .second, .val (.int s'), .val (.int x'), .val (.int n'), .val (.int k'), .val (.int o'), .val (.ref b10), .unset, .unset, .unset] [])) t → Steps p.tables e below (s₁.setTop (entryFrame m #[(.long w'), (.int s'), (.int x')] maxLocals)) t := by
    intro t kt
    refine pre5 t ?_
    show Steps p.tables e below (s₁.setTop (mkF m 42 #[.val (.long w'), .second, .val (.int s'), .val (.int x'), .val (.int n'), .val (.int k'), .unset, .unset, .unset, .unset, .unset] [(.int o')])) _
    refine XS.istore X0.here hx rfl (hb hby at_42) rfl (l' := #[.val (.long w'), .second, .val (.int s'), .val (.int x'), .val (.int n'), .val (.int k'), .val (.int o'), .unset, .unset, .unset, .unset]) rfl ?_
    show Steps p.tables e below (s₁.setTop (mkF m 44 #[.val (.long w'), .second, .val (.int s'), .val (.int x'), .val (.int n'), .val (.int k'), .val (.int o'), .unset, .unset, .unset, .unset] [])) _
    refine XS.iload X0.here hx rfl (hb hby at_44) rfl ?_
    show Steps p.tables e below (s₁.setTop (mkF m 46 #[.val (.long w'), .second, .val (.int s'), .val (.int x'), .val (.int n'), .val (.int k'), .val (.int o'), .unset, .unset, .unset, .unset] [(.int n')])) _
    refine st10 _ ?_
    show Steps p.tables e below (T10.setTop (mkF m 48 #[.val (.long w'), .second, .val (.int s'), .val (.int x'), .val (.int n'), .val (.int k'), .val (.int o'), .unset, .unset, .unset, .unset] [(.ref b10)])) _
    refine XS.astore X10.here hx rfl (hb hby at_48) rfl rfl (l' := #[.val (.long w'), .second, .val (.int s'), .val (.int x'), .val (.int n'), .val (.int k'), .val (.int o'), .val (.ref b10), .unset, .unset, .unset]) rfl ?_
    exact kt
  have J12 : ∃ (T' : State) (h' : Heap) (L' : List Loc) (f' : Nat → Int32), Stand p l e room_1 s m #[(.long w'), (.int s'), (.int x')] below meth c T' L' 1 8 ∧ T'.heap = h' ∧ Fr n0 L' ∧ n0 ≤ h'.size ∧ Keep h0 h' [] ∧ own_A Z h' b10 .byte n' f' ∧ ((0 : Int32) < n' → f' 0 = (nar .byte ((w'.toInt32).toInt8.toInt32))) ∧ ∀ t, Steps p.tables e below (T'.setTop (mkF m 62 #[.val (.long w'), .second, .val (.int s'), .val (.int x'), .val (.int n'), .val (.int k'), .val (.int o'), .val (.ref b10), .unset, .unset, .unset] [])) t → Steps p.tables e below (s₁.setTop (entryFrame m #[(.long w'), (.int s'), (.int x')] maxLocals)) t := by
    have pre13 : ∀ t, Steps p.tables e below (T10.setTop (mkF m 52 #[.val (.long w'), .second, .val (.int s'), .val (.int x'), .val (.int n'), .val (.int k'), .val (.int o'), .val (.ref b10), .unset, .unset, .unset] [(.int n')])) t → Steps p.tables e below (s₁.setTop (entryFrame m #[(.long w'), (.int s'), (.int x')] maxLocals)) t := by
      intro t kt
      refine pre11 t ?_
      show Steps p.tables e below (T10.setTop (mkF m 50 #[.val (.long w'), .second, .val (.int s'), .val (.int x'), .val (.int n'), .val (.int k'), .val (.int o'), .val (.ref b10), .unset, .unset, .unset] [])) _
      refine XS.iload X10.here hx rfl (hb hby at_50) rfl ?_
      exact kt
    by_cases hc52_14 : (0 : Int32) < n'
    · obtain ⟨cl6115, Ar6115, S6115, M6115, H6115⟩ := V_b10
      have hin6115 : ¬ ((0 : Int32) < 0 ∨ cl6115.slots.size ≤ ((0 : Int32)).toNatClampNeg) := inb_of S6115 ⟨by decide, hc52_14⟩
      obtain ⟨T16, h16, X16, e16, W16, st16⟩ := stB X10 hx hZ e10 Ar6115 (j := (0 : Int32)) hin6115 (g := (mkF m 61 #[.val (.long w'), .second, .val (.int s'), .val (.int x'), .val (.int n'), .val (.int k'), .val (.int o'), .val (.ref b10), .unset, .unset, .unset] [(.int ((w'.toInt32).toInt8.toInt32)), (.int (0 : Int32)), (.ref b10)])) rfl rfl (hb hby at_61)
      have Zs16 : n0 ≤ h16.size := Nat.le_trans Zs10 (Keep.of_wr W16).1
      have K16 : Keep h0 h16 [] := K10.wr W16 (Or.inr sz_b10)
      have N16 := Fr.snoc X16 N0 g_b10
      have V_b10 : own_A Z h16 b10 .byte n' (own_upd (fun _ => 0) ((0 : Int32)).toNatClampNeg (nar .byte ((w'.toInt32).toInt8.toInt32))) := own_A.set Ar6115 S6115 M6115 H6115 W16
      have pre17 : ∀ t, Steps p.tables e below (T16.setTop (mkF m 62 #[.val (.long w'), .second, .val (.int s'), .val (.int x'), .val (.int n'), .val (.int k'), .val (.int o'), .val (.ref b10), .unset, .unset, .unset] [])) t → Steps p.tables e below (s₁.setTop (entryFrame m #[(.long w'), (.int s'), (.int x')] maxLocals)) t := by
        intro t kt
        refine pre13 t ?_
        show Steps p.tables e below (T10.setTop (mkF m 52 #[.val (.long w'), .second, .val (.int s'), .val (.int x'), .val (.int n'), .val (.int k'), .val (.int o'), .val (.ref b10), .unset, .unset, .unset] [(.int n')])) _
        refine XS.ifNo X10.here hx rfl (hb hby at_52) rfl ((if0 _ _).trans (tlt hc52_14).2.2.2) ?_
        show Steps p.tables e below (T10.setTop (mkF m 55 #[.val (.long w'), .second, .val (.int s'), .val (.int x'), .val (.int n'), .val (.int k'), .val (.int o'), .val (.ref b10), .unset, .unset, .unset] [])) _
        refine XS.aload X10.here hx rfl (hb hby at_55) rfl rfl ?_
        show Steps p.tables e below (T10.setTop (mkF m 57 #[.val (.long w'), .second, .val (.int s'), .val (.int x'), .val (.int n'), .val (.int k'), .val (.int o'), .val (.ref b10), .unset, .unset, .unset] [(.ref b10)])) _
        refine XS.iconst X10.here hx rfl (hb hby at_57) ?_
        show Steps p.tables e below (T10.setTop (mkF m 58 #[.val (.long w'), .second, .val (.int s'), .val (.int x'), .val (.int n'), .val (.int k'), .val (.int o'), .val (.ref b10), .unset, .unset, .unset] [(.int (0 : Int32)), (.ref b10)])) _
        refine XS.lloadN X10.here hx rfl (hb hby at_58) rfl ?_
        show Steps p.tables e below (T10.setTop (mkF m 59 #[.val (.long w'), .second, .val (.int s'), .val (.int x'), .val (.int n'), .val (.int k'), .val (.int o'), .val (.ref b10), .unset, .unset, .unset] [(.long w'), (.int (0 : Int32)), (.ref b10)])) _
        refine XS.l2i X10.here hx rfl (hb hby at_59) rfl ?_
        show Steps p.tables e below (T10.setTop (mkF m 60 #[.val (.long w'), .second, .val (.int s'), .val (.int x'), .val (.int n'), .val (.int k'), .val (.int o'), .val (.ref b10), .unset, .unset, .unset] [(.int (w'.toInt32)), (.int (0 : Int32)), (.ref b10)])) _
        refine XS.i2b X10.here hx rfl (hb hby at_60) rfl ?_
        show Steps p.tables e below (T10.setTop (mkF m 61 #[.val (.long w'), .second, .val (.int s'), .val (.int x'), .val (.int n'), .val (.int k'), .val (.int o'), .val (.ref b10), .unset, .unset, .unset] [(.int ((w'.toInt32).toInt8.toInt32)), (.int (0 : Int32)), (.ref b10)])) _
        refine st16 _ ?_
        exact kt
      exact ⟨T16, _, _, (own_upd (fun _ => 0) ((0 : Int32)).toNatClampNeg (nar .byte ((w'.toInt32).toInt8.toInt32))), X16, e16, N16, Zs16, K16, V_b10, fun _ => if_pos rfl, pre17⟩
    · have pre18 : ∀ t, Steps p.tables e below (T10.setTop (mkF m 62 #[.val (.long w'), .second, .val (.int s'), .val (.int x'), .val (.int n'), .val (.int k'), .val (.int o'), .val (.ref b10), .unset, .unset, .unset] [])) t → Steps p.tables e below (s₁.setTop (entryFrame m #[(.long w'), (.int s'), (.int x')] maxLocals)) t := by
        intro t kt
        refine pre13 t ?_
        show Steps p.tables e below (T10.setTop (mkF m 52 #[.val (.long w'), .second, .val (.int s'), .val (.int x'), .val (.int n'), .val (.int k'), .val (.int o'), .val (.ref b10), .unset, .unset, .unset] [(.int n')])) _
        refine XS.ifYes X10.here hx rfl (pc0 := 52) (pc' := 62) rfl (hb hby at_52) rfl ((if0 _ _).trans (flt hc52_14).2.2.2) (by decide) (by decide) ?_
        exact kt
      exact ⟨T10, _, _, (fun _ => 0), X10, e10, N0, Zs10, K10, V_b10, fun q => absurd q hc52_14, pre18⟩
  obtain ⟨T12, h12, L12, f12, X12, e12, N12, Zs12, K12, V_b10, B0, pre12⟩ := J12
  have J19 : ∃ (T' : State) (h' : Heap) (L' : List Loc) (f' : Nat → Int32), Stand p l e room_1 s m #[(.long w'), (.int s'), (.int x')] below meth c T' L' 1 8 ∧ T'.heap = h' ∧ Fr n0 L' ∧ n0 ≤ h'.size ∧ Keep h0 h' [] ∧ own_A Z h' b10 .byte n' f' ∧ ((0 : Int32) < n' → f' 0 = (nar .byte ((w'.toInt32).toInt8.toInt32))) ∧ ((1 : Int32) < n' → f' 1 = (nar .byte ((((w'.toUInt64 >>> ((8 : Int32) &&& 0x3f).toInt64.toUInt64).toInt64).toInt32).toInt8.toInt32))) ∧ ∀ t, Steps p.tables e below (T'.setTop (mkF m 78 #[.val (.long w'), .second, .val (.int s'), .val (.int x'), .val (.int n'), .val (.int k'), .val (.int o'), .val (.ref b10), .unset, .unset, .unset] [])) t → Steps p.tables e below (s₁.setTop (entryFrame m #[(.long w'), (.int s'), (.int x')] maxLocals)) t := by
    have pre20 : ∀ t, Steps p.tables e below (T12.setTop (mkF m 65 #[.val (.long w'), .second, .val (.int s'), .val (.int x'), .val (.int n'), .val (.int k'), .val (.int o'), .val (.ref b10), .unset, .unset, .unset] [(.int (1 : Int32)), (.int n')])) t → Steps p.tables e below (s₁.setTop (entryFrame m #[(.long w'), (.int s'), (.int x')] maxLocals)) t := by
      intro t kt
      refine pre12 t ?_
      show Steps p.tables e below (T12.setTop (mkF m 62 #[.val (.long w'), .second, .val (.int s'), .val (.int x'), .val (.int n'), .val (.int k'), .val (.int o'), .val (.ref b10), .unset, .unset, .unset] [])) _
      refine XS.iload X12.here hx rfl (hb hby at_62) rfl ?_
      show Steps p.tables e below (T12.setTop (mkF m 64 #[.val (.long w'), .second, .val (.int s'), .val (.int x'), .val (.int n'), .val (.int k'), .val (.int o'), .val (.ref b10), .unset, .unset, .unset] [(.int n')])) _
      refine XS.iconst X12.here hx rfl (hb hby at_64) ?_
      exact kt
    by_cases hc65_21 : (1 : Int32) < n'
    · obtain ⟨cl7722, Ar7722, S7722, M7722, H7722⟩ := V_b10
      have hin7722 : ¬ ((1 : Int32) < 0 ∨ cl7722.slots.size ≤ ((1 : Int32)).toNatClampNeg) := inb_of S7722 ⟨by decide, hc65_21⟩
      obtain ⟨T23, h23, X23, e23, W23, st23⟩ := stB X12 hx hZ e12 Ar7722 (j := (1 : Int32)) hin7722 (g := (mkF m 77 #[.val (.long w'), .second, .val (.int s'), .val (.int x'), .val (.int n'), .val (.int k'), .val (.int o'), .val (.ref b10), .unset, .unset, .unset] [(.int ((((w'.toUInt64 >>> ((8 : Int32) &&& 0x3f).toInt64.toUInt64).toInt64).toInt32).toInt8.toInt32)), (.int (1 : Int32)), (.ref b10)])) rfl rfl (hb hby at_77)
      have Zs23 : n0 ≤ h23.size := Nat.le_trans Zs12 (Keep.of_wr W23).1
      have K23 : Keep h0 h23 [] := K12.wr W23 (Or.inr sz_b10)
      have N23 := Fr.snoc X23 N12 g_b10
      have V_b10 : own_A Z h23 b10 .byte n' (own_upd f12 ((1 : Int32)).toNatClampNeg (nar .byte ((((w'.toUInt64 >>> ((8 : Int32) &&& 0x3f).toInt64.toUInt64).toInt64).toInt32).toInt8.toInt32))) := own_A.set Ar7722 S7722 M7722 H7722 W23
      have pre24 : ∀ t, Steps p.tables e below (T23.setTop (mkF m 78 #[.val (.long w'), .second, .val (.int s'), .val (.int x'), .val (.int n'), .val (.int k'), .val (.int o'), .val (.ref b10), .unset, .unset, .unset] [])) t → Steps p.tables e below (s₁.setTop (entryFrame m #[(.long w'), (.int s'), (.int x')] maxLocals)) t := by
        intro t kt
        refine pre20 t ?_
        show Steps p.tables e below (T12.setTop (mkF m 65 #[.val (.long w'), .second, .val (.int s'), .val (.int x'), .val (.int n'), .val (.int k'), .val (.int o'), .val (.ref b10), .unset, .unset, .unset] [(.int (1 : Int32)), (.int n')])) _
        refine XS.icmpNo X12.here hx rfl (hb hby at_65) rfl (tlt hc65_21).2.2.2 ?_
        show Steps p.tables e below (T12.setTop (mkF m 68 #[.val (.long w'), .second, .val (.int s'), .val (.int x'), .val (.int n'), .val (.int k'), .val (.int o'), .val (.ref b10), .unset, .unset, .unset] [])) _
        refine XS.aload X12.here hx rfl (hb hby at_68) rfl rfl ?_
        show Steps p.tables e below (T12.setTop (mkF m 70 #[.val (.long w'), .second, .val (.int s'), .val (.int x'), .val (.int n'), .val (.int k'), .val (.int o'), .val (.ref b10), .unset, .unset, .unset] [(.ref b10)])) _
        refine XS.iconst X12.here hx rfl (hb hby at_70) ?_
        show Steps p.tables e below (T12.setTop (mkF m 71 #[.val (.long w'), .second, .val (.int s'), .val (.int x'), .val (.int n'), .val (.int k'), .val (.int o'), .val (.ref b10), .unset, .unset, .unset] [(.int (1 : Int32)), (.ref b10)])) _
        refine XS.lloadN X12.here hx rfl (hb hby at_71) rfl ?_
        show Steps p.tables e below (T12.setTop (mkF m 72 #[.val (.long w'), .second, .val (.int s'), .val (.int x'), .val (.int n'), .val (.int k'), .val (.int o'), .val (.ref b10), .unset, .unset, .unset] [(.long w'), (.int (1 : Int32)), (.ref b10)])) _
        refine XS.bipush X12.here hx rfl (hb hby at_72) ?_
        show Steps p.tables e below (T12.setTop (mkF m 74 #[.val (.long w'), .second, .val (.int s'), .val (.int x'), .val (.int n'), .val (.int k'), .val (.int o'), .val (.ref b10), .unset, .unset, .unset] [(.int (8 : Int32)), (.long w'), (.int (1 : Int32)), (.ref b10)])) _
        refine XS.lushr X12.here hx rfl (hb hby at_74) rfl ?_
        show Steps p.tables e below (T12.setTop (mkF m 75 #[.val (.long w'), .second, .val (.int s'), .val (.int x'), .val (.int n'), .val (.int k'), .val (.int o'), .val (.ref b10), .unset, .unset, .unset] [(.long ((w'.toUInt64 >>> ((8 : Int32) &&& 0x3f).toInt64.toUInt64).toInt64)), (.int (1 : Int32)), (.ref b10)])) _
        refine XS.l2i X12.here hx rfl (hb hby at_75) rfl ?_
        show Steps p.tables e below (T12.setTop (mkF m 76 #[.val (.long w'), .second, .val (.int s'), .val (.int x'), .val (.int n'), .val (.int k'), .val (.int o'), .val (.ref b10), .unset, .unset, .unset] [(.int (((w'.toUInt64 >>> ((8 : Int32) &&& 0x3f).toInt64.toUInt64).toInt64).toInt32)), (.int (1 : Int32)), (.ref b10)])) _
        refine XS.i2b X12.here hx rfl (hb hby at_76) rfl ?_
        show Steps p.tables e below (T12.setTop (mkF m 77 #[.val (.long w'), .second, .val (.int s'), .val (.int x'), .val (.int n'), .val (.int k'), .val (.int o'), .val (.ref b10), .unset, .unset, .unset] [(.int ((((w'.toUInt64 >>> ((8 : Int32) &&& 0x3f).toInt64.toUInt64).toInt64).toInt32).toInt8.toInt32)), (.int (1 : Int32)), (.ref b10)])) _
        refine st23 _ ?_
        exact kt
      exact ⟨T23, _, _, (own_upd f12 ((1 : Int32)).toNatClampNeg (nar .byte ((((w'.toUInt64 >>> ((8 : Int32) &&& 0x3f).toInt64.toUInt64).toInt64).toInt32).toInt8.toInt32))), X23, e23, N23, Zs23, K23, V_b10, fun q => (if_neg (by decide)).trans (B0 q), fun _ => if_pos rfl, pre24⟩
    · have pre25 : ∀ t, Steps p.tables e below (T12.setTop (mkF m 78 #[.val (.long w'), .second, .val (.int s'), .val (.int x'), .val (.int n'), .val (.int k'), .val (.int o'), .val (.ref b10), .unset, .unset, .unset] [])) t → Steps p.tables e below (s₁.setTop (entryFrame m #[(.long w'), (.int s'), (.int x')] maxLocals)) t := by
        intro t kt
        refine pre20 t ?_
        show Steps p.tables e below (T12.setTop (mkF m 65 #[.val (.long w'), .second, .val (.int s'), .val (.int x'), .val (.int n'), .val (.int k'), .val (.int o'), .val (.ref b10), .unset, .unset, .unset] [(.int (1 : Int32)), (.int n')])) _
        refine XS.icmpYes X12.here hx rfl (pc0 := 65) (pc' := 78) rfl (hb hby at_65) rfl (flt hc65_21).2.2.2 (by decide) (by decide) ?_
        exact kt
      exact ⟨T12, _, _, f12, X12, e12, N12, Zs12, K12, V_b10, B0, fun q => absurd q hc65_21, pre25⟩
  obtain ⟨T19, h19, L19, f19, X19, e19, N19, Zs19, K19, V_b10, B0, B1, pre19⟩ := J19
  have J26 : ∃ (T' : State) (h' : Heap) (L' : List Loc) (f' : Nat → Int32), Stand p l e room_1 s m #[(.long w'), (.int s'), (.int x')] below meth c T' L' 1 8 ∧ T'.heap = h' ∧ Fr n0 L' ∧ n0 ≤ h'.size ∧ Keep h0 h' [] ∧ own_A Z h' b10 .byte n' f' ∧ ((0 : Int32) < n' → f' 0 = (nar .byte ((w'.toInt32).toInt8.toInt32))) ∧ ((1 : Int32) < n' → f' 1 = (nar .byte ((((w'.toUInt64 >>> ((8 : Int32) &&& 0x3f).toInt64.toUInt64).toInt64).toInt32).toInt8.toInt32))) ∧ ((2 : Int32) < n' → f' 2 = (nar .byte ((((w'.toUInt64 >>> ((16 : Int32) &&& 0x3f).toInt64.toUInt64).toInt64).toInt32).toInt8.toInt32))) ∧ ∀ t, Steps p.tables e below (T'.setTop (mkF m 94 #[.val (.long w'), .second, .val (.int s'), .val (.int x'), .val (.int n'), .val (.int k'), .val (.int o'), .val (.ref b10), .unset, .unset, .unset] [])) t → Steps p.tables e below (s₁.setTop (entryFrame m #[(.long w'), (.int s'), (.int x')] maxLocals)) t := by
    have pre27 : ∀ t, Steps p.tables e below (T19.setTop (mkF m 81 #[.val (.long w'), .second, .val (.int s'), .val (.int x'), .val (.int n'), .val (.int k'), .val (.int o'), .val (.ref b10), .unset, .unset, .unset] [(.int (2 : Int32)), (.int n')])) t → Steps p.tables e below (s₁.setTop (entryFrame m #[(.long w'), (.int s'), (.int x')] maxLocals)) t := by
      intro t kt
      refine pre19 t ?_
      show Steps p.tables e below (T19.setTop (mkF m 78 #[.val (.long w'), .second, .val (.int s'), .val (.int x'), .val (.int n'), .val (.int k'), .val (.int o'), .val (.ref b10), .unset, .unset, .unset] [])) _
      refine XS.iload X19.here hx rfl (hb hby at_78) rfl ?_
      show Steps p.tables e below (T19.setTop (mkF m 80 #[.val (.long w'), .second, .val (.int s'), .val (.int x'), .val (.int n'), .val (.int k'), .val (.int o'), .val (.ref b10), .unset, .unset, .unset] [(.int n')])) _
      refine XS.iconst X19.here hx rfl (hb hby at_80) ?_
      exact kt
    by_cases hc81_28 : (2 : Int32) < n'
    · obtain ⟨cl9329, Ar9329, S9329, M9329, H9329⟩ := V_b10
      have hin9329 : ¬ ((2 : Int32) < 0 ∨ cl9329.slots.size ≤ ((2 : Int32)).toNatClampNeg) := inb_of S9329 ⟨by decide, hc81_28⟩
      obtain ⟨T30, h30, X30, e30, W30, st30⟩ := stB X19 hx hZ e19 Ar9329 (j := (2 : Int32)) hin9329 (g := (mkF m 93 #[.val (.long w'), .second, .val (.int s'), .val (.int x'), .val (.int n'), .val (.int k'), .val (.int o'), .val (.ref b10), .unset, .unset, .unset] [(.int ((((w'.toUInt64 >>> ((16 : Int32) &&& 0x3f).toInt64.toUInt64).toInt64).toInt32).toInt8.toInt32)), (.int (2 : Int32)), (.ref b10)])) rfl rfl (hb hby at_93)
      have Zs30 : n0 ≤ h30.size := Nat.le_trans Zs19 (Keep.of_wr W30).1
      have K30 : Keep h0 h30 [] := K19.wr W30 (Or.inr sz_b10)
      have N30 := Fr.snoc X30 N19 g_b10
      have V_b10 : own_A Z h30 b10 .byte n' (own_upd f19 ((2 : Int32)).toNatClampNeg (nar .byte ((((w'.toUInt64 >>> ((16 : Int32) &&& 0x3f).toInt64.toUInt64).toInt64).toInt32).toInt8.toInt32))) := own_A.set Ar9329 S9329 M9329 H9329 W30
      have pre31 : ∀ t, Steps p.tables e below (T30.setTop (mkF m 94 #[.val (.long w'), .second, .val (.int s'), .val (.int x'), .val (.int n'), .val (.int k'), .val (.int o'), .val (.ref b10), .unset, .unset, .unset] [])) t → Steps p.tables e below (s₁.setTop (entryFrame m #[(.long w'), (.int s'), (.int x')] maxLocals)) t := by
        intro t kt
        refine pre27 t ?_
        show Steps p.tables e below (T19.setTop (mkF m 81 #[.val (.long w'), .second, .val (.int s'), .val (.int x'), .val (.int n'), .val (.int k'), .val (.int o'), .val (.ref b10), .unset, .unset, .unset] [(.int (2 : Int32)), (.int n')])) _
        refine XS.icmpNo X19.here hx rfl (hb hby at_81) rfl (tlt hc81_28).2.2.2 ?_
        show Steps p.tables e below (T19.setTop (mkF m 84 #[.val (.long w'), .second, .val (.int s'), .val (.int x'), .val (.int n'), .val (.int k'), .val (.int o'), .val (.ref b10), .unset, .unset, .unset] [])) _
        refine XS.aload X19.here hx rfl (hb hby at_84) rfl rfl ?_
        show Steps p.tables e below (T19.setTop (mkF m 86 #[.val (.long w'), .second, .val (.int s'), .val (.int x'), .val (.int n'), .val (.int k'), .val (.int o'), .val (.ref b10), .unset, .unset, .unset] [(.ref b10)])) _
        refine XS.iconst X19.here hx rfl (hb hby at_86) ?_
        show Steps p.tables e below (T19.setTop (mkF m 87 #[.val (.long w'), .second, .val (.int s'), .val (.int x'), .val (.int n'), .val (.int k'), .val (.int o'), .val (.ref b10), .unset, .unset, .unset] [(.int (2 : Int32)), (.ref b10)])) _
        refine XS.lloadN X19.here hx rfl (hb hby at_87) rfl ?_
        show Steps p.tables e below (T19.setTop (mkF m 88 #[.val (.long w'), .second, .val (.int s'), .val (.int x'), .val (.int n'), .val (.int k'), .val (.int o'), .val (.ref b10), .unset, .unset, .unset] [(.long w'), (.int (2 : Int32)), (.ref b10)])) _
        refine XS.bipush X19.here hx rfl (hb hby at_88) ?_
        show Steps p.tables e below (T19.setTop (mkF m 90 #[.val (.long w'), .second, .val (.int s'), .val (.int x'), .val (.int n'), .val (.int k'), .val (.int o'), .val (.ref b10), .unset, .unset, .unset] [(.int (16 : Int32)), (.long w'), (.int (2 : Int32)), (.ref b10)])) _
        refine XS.lushr X19.here hx rfl (hb hby at_90) rfl ?_
        show Steps p.tables e below (T19.setTop (mkF m 91 #[.val (.long w'), .second, .val (.int s'), .val (.int x'), .val (.int n'), .val (.int k'), .val (.int o'), .val (.ref b10), .unset, .unset, .unset] [(.long ((w'.toUInt64 >>> ((16 : Int32) &&& 0x3f).toInt64.toUInt64).toInt64)), (.int (2 : Int32)), (.ref b10)])) _
        refine XS.l2i X19.here hx rfl (hb hby at_91) rfl ?_
        show Steps p.tables e below (T19.setTop (mkF m 92 #[.val (.long w'), .second, .val (.int s'), .val (.int x'), .val (.int n'), .val (.int k'), .val (.int o'), .val (.ref b10), .unset, .unset, .unset] [(.int (((w'.toUInt64 >>> ((16 : Int32) &&& 0x3f).toInt64.toUInt64).toInt64).toInt32)), (.int (2 : Int32)), (.ref b10)])) _
        refine XS.i2b X19.here hx rfl (hb hby at_92) rfl ?_
        show Steps p.tables e below (T19.setTop (mkF m 93 #[.val (.long w'), .second, .val (.int s'), .val (.int x'), .val (.int n'), .val (.int k'), .val (.int o'), .val (.ref b10), .unset, .unset, .unset] [(.int ((((w'.toUInt64 >>> ((16 : Int32) &&& 0x3f).toInt64.toUInt64).toInt64).toInt32).toInt8.toInt32)), (.int (2 : Int32)), (.ref b10)])) _
        refine st30 _ ?_
        exact kt
      exact ⟨T30, _, _, (own_upd f19 ((2 : Int32)).toNatClampNeg (nar .byte ((((w'.toUInt64 >>> ((16 : Int32) &&& 0x3f).toInt64.toUInt64).toInt64).toInt32).toInt8.toInt32))), X30, e30, N30, Zs30, K30, V_b10, fun q => (if_neg (by decide)).trans (B0 q), fun q => (if_neg (by decide)).trans (B1 q), fun _ => if_pos rfl, pre31⟩
    · have pre32 : ∀ t, Steps p.tables e below (T19.setTop (mkF m 94 #[.val (.long w'), .second, .val (.int s'), .val (.int x'), .val (.int n'), .val (.int k'), .val (.int o'), .val (.ref b10), .unset, .unset, .unset] [])) t → Steps p.tables e below (s₁.setTop (entryFrame m #[(.long w'), (.int s'), (.int x')] maxLocals)) t := by
        intro t kt
        refine pre27 t ?_
        show Steps p.tables e below (T19.setTop (mkF m 81 #[.val (.long w'), .second, .val (.int s'), .val (.int x'), .val (.int n'), .val (.int k'), .val (.int o'), .val (.ref b10), .unset, .unset, .unset] [(.int (2 : Int32)), (.int n')])) _
        refine XS.icmpYes X19.here hx rfl (pc0 := 81) (pc' := 94) rfl (hb hby at_81) rfl (flt hc81_28).2.2.2 (by decide) (by decide) ?_
        exact kt
      exact ⟨T19, _, _, f19, X19, e19, N19, Zs19, K19, V_b10, B0, B1, fun q => absurd q hc81_28, pre32⟩
  obtain ⟨T26, h26, L26, f26, X26, e26, N26, Zs26, K26, V_b10, B0, B1, B2, pre26⟩ := J26
  have J33 : ∃ (T' : State) (h' : Heap) (L' : List Loc) (f' : Nat → Int32), Stand p l e room_1 s m #[(.long w'), (.int s'), (.int x')] below meth c T' L' 1 8 ∧ T'.heap = h' ∧ Fr n0 L' ∧ n0 ≤ h'.size ∧ Keep h0 h' [] ∧ own_A Z h' b10 .byte n' f' ∧ ((0 : Int32) < n' → f' 0 = (nar .byte ((w'.toInt32).toInt8.toInt32))) ∧ ((1 : Int32) < n' → f' 1 = (nar .byte ((((w'.toUInt64 >>> ((8 : Int32) &&& 0x3f).toInt64.toUInt64).toInt64).toInt32).toInt8.toInt32))) ∧ ((2 : Int32) < n' → f' 2 = (nar .byte ((((w'.toUInt64 >>> ((16 : Int32) &&& 0x3f).toInt64.toUInt64).toInt64).toInt32).toInt8.toInt32))) ∧ ((3 : Int32) < n' → f' 3 = (nar .byte ((((w'.toUInt64 >>> ((24 : Int32) &&& 0x3f).toInt64.toUInt64).toInt64).toInt32).toInt8.toInt32))) ∧ ∀ t, Steps p.tables e below (T'.setTop (mkF m 110 #[.val (.long w'), .second, .val (.int s'), .val (.int x'), .val (.int n'), .val (.int k'), .val (.int o'), .val (.ref b10), .unset, .unset, .unset] [])) t → Steps p.tables e below (s₁.setTop (entryFrame m #[(.long w'), (.int s'), (.int x')] maxLocals)) t := by
    have pre34 : ∀ t, Steps p.tables e below (T26.setTop (mkF m 97 #[.val (.long w'), .second, .val (.int s'), .val (.int x'), .val (.int n'), .val (.int k'), .val (.int o'), .val (.ref b10), .unset, .unset, .unset] [(.int (3 : Int32)), (.int n')])) t → Steps p.tables e below (s₁.setTop (entryFrame m #[(.long w'), (.int s'), (.int x')] maxLocals)) t := by
      intro t kt
      refine pre26 t ?_
      show Steps p.tables e below (T26.setTop (mkF m 94 #[.val (.long w'), .second, .val (.int s'), .val (.int x'), .val (.int n'), .val (.int k'), .val (.int o'), .val (.ref b10), .unset, .unset, .unset] [])) _
      refine XS.iload X26.here hx rfl (hb hby at_94) rfl ?_
      show Steps p.tables e below (T26.setTop (mkF m 96 #[.val (.long w'), .second, .val (.int s'), .val (.int x'), .val (.int n'), .val (.int k'), .val (.int o'), .val (.ref b10), .unset, .unset, .unset] [(.int n')])) _
      refine XS.iconst X26.here hx rfl (hb hby at_96) ?_
      exact kt
    by_cases hc97_35 : (3 : Int32) < n'
    · obtain ⟨cl10936, Ar10936, S10936, M10936, H10936⟩ := V_b10
      have hin10936 : ¬ ((3 : Int32) < 0 ∨ cl10936.slots.size ≤ ((3 : Int32)).toNatClampNeg) := inb_of S10936 ⟨by decide, hc97_35⟩
      obtain ⟨T37, h37, X37, e37, W37, st37⟩ := stB X26 hx hZ e26 Ar10936 (j := (3 : Int32)) hin10936 (g := (mkF m 109 #[.val (.long w'), .second, .val (.int s'), .val (.int x'), .val (.int n'), .val (.int k'), .val (.int o'), .val (.ref b10), .unset, .unset, .unset] [(.int ((((w'.toUInt64 >>> ((24 : Int32) &&& 0x3f).toInt64.toUInt64).toInt64).toInt32).toInt8.toInt32)), (.int (3 : Int32)), (.ref b10)])) rfl rfl (hb hby at_109)
      have Zs37 : n0 ≤ h37.size := Nat.le_trans Zs26 (Keep.of_wr W37).1
      have K37 : Keep h0 h37 [] := K26.wr W37 (Or.inr sz_b10)
      have N37 := Fr.snoc X37 N26 g_b10
      have V_b10 : own_A Z h37 b10 .byte n' (own_upd f26 ((3 : Int32)).toNatClampNeg (nar .byte ((((w'.toUInt64 >>> ((24 : Int32) &&& 0x3f).toInt64.toUInt64).toInt64).toInt32).toInt8.toInt32))) := own_A.set Ar10936 S10936 M10936 H10936 W37
      have pre38 : ∀ t, Steps p.tables e below (T37.setTop (mkF m 110 #[.val (.long w'), .second, .val (.int s'), .val (.int x'), .val (.int n'), .val (.int k'), .val (.int o'), .val (.ref b10), .unset, .unset, .unset] [])) t → Steps p.tables e below (s₁.setTop (entryFrame m #[(.long w'), (.int s'), (.int x')] maxLocals)) t := by
        intro t kt
        refine pre34 t ?_
        show Steps p.tables e below (T26.setTop (mkF m 97 #[.val (.long w'), .second, .val (.int s'), .val (.int x'), .val (.int n'), .val (.int k'), .val (.int o'), .val (.ref b10), .unset, .unset, .unset] [(.int (3 : Int32)), (.int n')])) _
        refine XS.icmpNo X26.here hx rfl (hb hby at_97) rfl (tlt hc97_35).2.2.2 ?_
        show Steps p.tables e below (T26.setTop (mkF m 100 #[.val (.long w'), .second, .val (.int s'), .val (.int x'), .val (.int n'), .val (.int k'), .val (.int o'), .val (.ref b10), .unset, .unset, .unset] [])) _
        refine XS.aload X26.here hx rfl (hb hby at_100) rfl rfl ?_
        show Steps p.tables e below (T26.setTop (mkF m 102 #[.val (.long w'), .second, .val (.int s'), .val (.int x'), .val (.int n'), .val (.int k'), .val (.int o'), .val (.ref b10), .unset, .unset, .unset] [(.ref b10)])) _
        refine XS.iconst X26.here hx rfl (hb hby at_102) ?_
        show Steps p.tables e below (T26.setTop (mkF m 103 #[.val (.long w'), .second, .val (.int s'), .val (.int x'), .val (.int n'), .val (.int k'), .val (.int o'), .val (.ref b10), .unset, .unset, .unset] [(.int (3 : Int32)), (.ref b10)])) _
        refine XS.lloadN X26.here hx rfl (hb hby at_103) rfl ?_
        show Steps p.tables e below (T26.setTop (mkF m 104 #[.val (.long w'), .second, .val (.int s'), .val (.int x'), .val (.int n'), .val (.int k'), .val (.int o'), .val (.ref b10), .unset, .unset, .unset] [(.long w'), (.int (3 : Int32)), (.ref b10)])) _
        refine XS.bipush X26.here hx rfl (hb hby at_104) ?_
        show Steps p.tables e below (T26.setTop (mkF m 106 #[.val (.long w'), .second, .val (.int s'), .val (.int x'), .val (.int n'), .val (.int k'), .val (.int o'), .val (.ref b10), .unset, .unset, .unset] [(.int (24 : Int32)), (.long w'), (.int (3 : Int32)), (.ref b10)])) _
        refine XS.lushr X26.here hx rfl (hb hby at_106) rfl ?_
        show Steps p.tables e below (T26.setTop (mkF m 107 #[.val (.long w'), .second, .val (.int s'), .val (.int x'), .val (.int n'), .val (.int k'), .val (.int o'), .val (.ref b10), .unset, .unset, .unset] [(.long ((w'.toUInt64 >>> ((24 : Int32) &&& 0x3f).toInt64.toUInt64).toInt64)), (.int (3 : Int32)), (.ref b10)])) _
        refine XS.l2i X26.here hx rfl (hb hby at_107) rfl ?_
        show Steps p.tables e below (T26.setTop (mkF m 108 #[.val (.long w'), .second, .val (.int s'), .val (.int x'), .val (.int n'), .val (.int k'), .val (.int o'), .val (.ref b10), .unset, .unset, .unset] [(.int (((w'.toUInt64 >>> ((24 : Int32) &&& 0x3f).toInt64.toUInt64).toInt64).toInt32)), (.int (3 : Int32)), (.ref b10)])) _
        refine XS.i2b X26.here hx rfl (hb hby at_108) rfl ?_
        show Steps p.tables e below (T26.setTop (mkF m 109 #[.val (.long w'), .second, .val (.int s'), .val (.int x'), .val (.int n'), .val (.int k'), .val (.int o'), .val (.ref b10), .unset, .unset, .unset] [(.int ((((w'.toUInt64 >>> ((24 : Int32) &&& 0x3f).toInt64.toUInt64).toInt64).toInt32).toInt8.toInt32)), (.int (3 : Int32)), (.ref b10)])) _
        refine st37 _ ?_
        exact kt
      exact ⟨T37, _, _, (own_upd f26 ((3 : Int32)).toNatClampNeg (nar .byte ((((w'.toUInt64 >>> ((24 : Int32) &&& 0x3f).toInt64.toUInt64).toInt64).toInt32).toInt8.toInt32))), X37, e37, N37, Zs37, K37, V_b10, fun q => (if_neg (by decide)).trans (B0 q), fun q => (if_neg (by decide)).trans (B1 q), fun q => (if_neg (by decide)).trans (B2 q), fun _ => if_pos rfl, pre38⟩
    · have pre39 : ∀ t, Steps p.tables e below (T26.setTop (mkF m 110 #[.val (.long w'), .second, .val (.int s'), .val (.int x'), .val (.int n'), .val (.int k'), .val (.int o'), .val (.ref b10), .unset, .unset, .unset] [])) t → Steps p.tables e below (s₁.setTop (entryFrame m #[(.long w'), (.int s'), (.int x')] maxLocals)) t := by
        intro t kt
        refine pre34 t ?_
        show Steps p.tables e below (T26.setTop (mkF m 97 #[.val (.long w'), .second, .val (.int s'), .val (.int x'), .val (.int n'), .val (.int k'), .val (.int o'), .val (.ref b10), .unset, .unset, .unset] [(.int (3 : Int32)), (.int n')])) _
        refine XS.icmpYes X26.here hx rfl (pc0 := 97) (pc' := 110) rfl (hb hby at_97) rfl (flt hc97_35).2.2.2 (by decide) (by decide) ?_
        exact kt
      exact ⟨T26, _, _, f26, X26, e26, N26, Zs26, K26, V_b10, B0, B1, B2, fun q => absurd q hc97_35, pre39⟩
  obtain ⟨T33, h33, L33, f33, X33, e33, N33, Zs33, K33, V_b10, B0, B1, B2, B3, pre33⟩ := J33
  have J40 : ∃ (T' : State) (h' : Heap) (L' : List Loc) (f' : Nat → Int32), Stand p l e room_1 s m #[(.long w'), (.int s'), (.int x')] below meth c T' L' 1 8 ∧ T'.heap = h' ∧ Fr n0 L' ∧ n0 ≤ h'.size ∧ Keep h0 h' [] ∧ own_A Z h' b10 .byte n' f' ∧ ((0 : Int32) < n' → f' 0 = (nar .byte ((w'.toInt32).toInt8.toInt32))) ∧ ((1 : Int32) < n' → f' 1 = (nar .byte ((((w'.toUInt64 >>> ((8 : Int32) &&& 0x3f).toInt64.toUInt64).toInt64).toInt32).toInt8.toInt32))) ∧ ((2 : Int32) < n' → f' 2 = (nar .byte ((((w'.toUInt64 >>> ((16 : Int32) &&& 0x3f).toInt64.toUInt64).toInt64).toInt32).toInt8.toInt32))) ∧ ((3 : Int32) < n' → f' 3 = (nar .byte ((((w'.toUInt64 >>> ((24 : Int32) &&& 0x3f).toInt64.toUInt64).toInt64).toInt32).toInt8.toInt32))) ∧ ((4 : Int32) < n' → f' 4 = (nar .byte ((((w'.toUInt64 >>> ((32 : Int32) &&& 0x3f).toInt64.toUInt64).toInt64).toInt32).toInt8.toInt32))) ∧ ∀ t, Steps p.tables e below (T'.setTop (mkF m 126 #[.val (.long w'), .second, .val (.int s'), .val (.int x'), .val (.int n'), .val (.int k'), .val (.int o'), .val (.ref b10), .unset, .unset, .unset] [])) t → Steps p.tables e below (s₁.setTop (entryFrame m #[(.long w'), (.int s'), (.int x')] maxLocals)) t := by
    have pre41 : ∀ t, Steps p.tables e below (T33.setTop (mkF m 113 #[.val (.long w'), .second, .val (.int s'), .val (.int x'), .val (.int n'), .val (.int k'), .val (.int o'), .val (.ref b10), .unset, .unset, .unset] [(.int (4 : Int32)), (.int n')])) t → Steps p.tables e below (s₁.setTop (entryFrame m #[(.long w'), (.int s'), (.int x')] maxLocals)) t := by
      intro t kt
      refine pre33 t ?_
      show Steps p.tables e below (T33.setTop (mkF m 110 #[.val (.long w'), .second, .val (.int s'), .val (.int x'), .val (.int n'), .val (.int k'), .val (.int o'), .val (.ref b10), .unset, .unset, .unset] [])) _
      refine XS.iload X33.here hx rfl (hb hby at_110) rfl ?_
      show Steps p.tables e below (T33.setTop (mkF m 112 #[.val (.long w'), .second, .val (.int s'), .val (.int x'), .val (.int n'), .val (.int k'), .val (.int o'), .val (.ref b10), .unset, .unset, .unset] [(.int n')])) _
      refine XS.iconst X33.here hx rfl (hb hby at_112) ?_
      exact kt
    by_cases hc113_42 : (4 : Int32) < n'
    · obtain ⟨cl12543, Ar12543, S12543, M12543, H12543⟩ := V_b10
      have hin12543 : ¬ ((4 : Int32) < 0 ∨ cl12543.slots.size ≤ ((4 : Int32)).toNatClampNeg) := inb_of S12543 ⟨by decide, hc113_42⟩
      obtain ⟨T44, h44, X44, e44, W44, st44⟩ := stB X33 hx hZ e33 Ar12543 (j := (4 : Int32)) hin12543 (g := (mkF m 125 #[.val (.long w'), .second, .val (.int s'), .val (.int x'), .val (.int n'), .val (.int k'), .val (.int o'), .val (.ref b10), .unset, .unset, .unset] [(.int ((((w'.toUInt64 >>> ((32 : Int32) &&& 0x3f).toInt64.toUInt64).toInt64).toInt32).toInt8.toInt32)), (.int (4 : Int32)), (.ref b10)])) rfl rfl (hb hby at_125)
      have Zs44 : n0 ≤ h44.size := Nat.le_trans Zs33 (Keep.of_wr W44).1
      have K44 : Keep h0 h44 [] := K33.wr W44 (Or.inr sz_b10)
      have N44 := Fr.snoc X44 N33 g_b10
      have V_b10 : own_A Z h44 b10 .byte n' (own_upd f33 ((4 : Int32)).toNatClampNeg (nar .byte ((((w'.toUInt64 >>> ((32 : Int32) &&& 0x3f).toInt64.toUInt64).toInt64).toInt32).toInt8.toInt32))) := own_A.set Ar12543 S12543 M12543 H12543 W44
      have pre45 : ∀ t, Steps p.tables e below (T44.setTop (mkF m 126 #[.val (.long w'), .second, .val (.int s'), .val (.int x'), .val (.int n'), .val (.int k'), .val (.int o'), .val (.ref b10), .unset, .unset, .unset] [])) t → Steps p.tables e below (s₁.setTop (entryFrame m #[(.long w'), (.int s'), (.int x')] maxLocals)) t := by
        intro t kt
        refine pre41 t ?_
        show Steps p.tables e below (T33.setTop (mkF m 113 #[.val (.long w'), .second, .val (.int s'), .val (.int x'), .val (.int n'), .val (.int k'), .val (.int o'), .val (.ref b10), .unset, .unset, .unset] [(.int (4 : Int32)), (.int n')])) _
        refine XS.icmpNo X33.here hx rfl (hb hby at_113) rfl (tlt hc113_42).2.2.2 ?_
        show Steps p.tables e below (T33.setTop (mkF m 116 #[.val (.long w'), .second, .val (.int s'), .val (.int x'), .val (.int n'), .val (.int k'), .val (.int o'), .val (.ref b10), .unset, .unset, .unset] [])) _
        refine XS.aload X33.here hx rfl (hb hby at_116) rfl rfl ?_
        show Steps p.tables e below (T33.setTop (mkF m 118 #[.val (.long w'), .second, .val (.int s'), .val (.int x'), .val (.int n'), .val (.int k'), .val (.int o'), .val (.ref b10), .unset, .unset, .unset] [(.ref b10)])) _
        refine XS.iconst X33.here hx rfl (hb hby at_118) ?_
        show Steps p.tables e below (T33.setTop (mkF m 119 #[.val (.long w'), .second, .val (.int s'), .val (.int x'), .val (.int n'), .val (.int k'), .val (.int o'), .val (.ref b10), .unset, .unset, .unset] [(.int (4 : Int32)), (.ref b10)])) _
        refine XS.lloadN X33.here hx rfl (hb hby at_119) rfl ?_
        show Steps p.tables e below (T33.setTop (mkF m 120 #[.val (.long w'), .second, .val (.int s'), .val (.int x'), .val (.int n'), .val (.int k'), .val (.int o'), .val (.ref b10), .unset, .unset, .unset] [(.long w'), (.int (4 : Int32)), (.ref b10)])) _
        refine XS.bipush X33.here hx rfl (hb hby at_120) ?_
        show Steps p.tables e below (T33.setTop (mkF m 122 #[.val (.long w'), .second, .val (.int s'), .val (.int x'), .val (.int n'), .val (.int k'), .val (.int o'), .val (.ref b10), .unset, .unset, .unset] [(.int (32 : Int32)), (.long w'), (.int (4 : Int32)), (.ref b10)])) _
        refine XS.lushr X33.here hx rfl (hb hby at_122) rfl ?_
        show Steps p.tables e below (T33.setTop (mkF m 123 #[.val (.long w'), .second, .val (.int s'), .val (.int x'), .val (.int n'), .val (.int k'), .val (.int o'), .val (.ref b10), .unset, .unset, .unset] [(.long ((w'.toUInt64 >>> ((32 : Int32) &&& 0x3f).toInt64.toUInt64).toInt64)), (.int (4 : Int32)), (.ref b10)])) _
        refine XS.l2i X33.here hx rfl (hb hby at_123) rfl ?_
        show Steps p.tables e below (T33.setTop (mkF m 124 #[.val (.long w'), .second, .val (.int s'), .val (.int x'), .val (.int n'), .val (.int k'), .val (.int o'), .val (.ref b10), .unset, .unset, .unset] [(.int (((w'.toUInt64 >>> ((32 : Int32) &&& 0x3f).toInt64.toUInt64).toInt64).toInt32)), (.int (4 : Int32)), (.ref b10)])) _
        refine XS.i2b X33.here hx rfl (hb hby at_124) rfl ?_
        show Steps p.tables e below (T33.setTop (mkF m 125 #[.val (.long w'), .second, .val (.int s'), .val (.int x'), .val (.int n'), .val (.int k'), .val (.int o'), .val (.ref b10), .unset, .unset, .unset] [(.int ((((w'.toUInt64 >>> ((32 : Int32) &&& 0x3f).toInt64.toUInt64).toInt64).toInt32).toInt8.toInt32)), (.int (4 : Int32)), (.ref b10)])) _
        refine st44 _ ?_
        exact kt
      exact ⟨T44, _, _, (own_upd f33 ((4 : Int32)).toNatClampNeg (nar .byte ((((w'.toUInt64 >>> ((32 : Int32) &&& 0x3f).toInt64.toUInt64).toInt64).toInt32).toInt8.toInt32))), X44, e44, N44, Zs44, K44, V_b10, fun q => (if_neg (by decide)).trans (B0 q), fun q => (if_neg (by decide)).trans (B1 q), fun q => (if_neg (by decide)).trans (B2 q), fun q => (if_neg (by decide)).trans (B3 q), fun _ => if_pos rfl, pre45⟩
    · have pre46 : ∀ t, Steps p.tables e below (T33.setTop (mkF m 126 #[.val (.long w'), .second, .val (.int s'), .val (.int x'), .val (.int n'), .val (.int k'), .val (.int o'), .val (.ref b10), .unset, .unset, .unset] [])) t → Steps p.tables e below (s₁.setTop (entryFrame m #[(.long w'), (.int s'), (.int x')] maxLocals)) t := by
        intro t kt
        refine pre41 t ?_
        show Steps p.tables e below (T33.setTop (mkF m 113 #[.val (.long w'), .second, .val (.int s'), .val (.int x'), .val (.int n'), .val (.int k'), .val (.int o'), .val (.ref b10), .unset, .unset, .unset] [(.int (4 : Int32)), (.int n')])) _
        refine XS.icmpYes X33.here hx rfl (pc0 := 113) (pc' := 126) rfl (hb hby at_113) rfl (flt hc113_42).2.2.2 (by decide) (by decide) ?_
        exact kt
      exact ⟨T33, _, _, f33, X33, e33, N33, Zs33, K33, V_b10, B0, B1, B2, B3, fun q => absurd q hc113_42, pre46⟩
  obtain ⟨T40, h40, L40, f40, X40, e40, N40, Zs40, K40, V_b10, B0, B1, B2, B3, B4, pre40⟩ := J40
  have J47 : ∃ (T' : State) (h' : Heap) (L' : List Loc) (f' : Nat → Int32), Stand p l e room_1 s m #[(.long w'), (.int s'), (.int x')] below meth c T' L' 1 8 ∧ T'.heap = h' ∧ Fr n0 L' ∧ n0 ≤ h'.size ∧ Keep h0 h' [] ∧ own_A Z h' b10 .byte n' f' ∧ ((0 : Int32) < n' → f' 0 = (nar .byte ((w'.toInt32).toInt8.toInt32))) ∧ ((1 : Int32) < n' → f' 1 = (nar .byte ((((w'.toUInt64 >>> ((8 : Int32) &&& 0x3f).toInt64.toUInt64).toInt64).toInt32).toInt8.toInt32))) ∧ ((2 : Int32) < n' → f' 2 = (nar .byte ((((w'.toUInt64 >>> ((16 : Int32) &&& 0x3f).toInt64.toUInt64).toInt64).toInt32).toInt8.toInt32))) ∧ ((3 : Int32) < n' → f' 3 = (nar .byte ((((w'.toUInt64 >>> ((24 : Int32) &&& 0x3f).toInt64.toUInt64).toInt64).toInt32).toInt8.toInt32))) ∧ ((4 : Int32) < n' → f' 4 = (nar .byte ((((w'.toUInt64 >>> ((32 : Int32) &&& 0x3f).toInt64.toUInt64).toInt64).toInt32).toInt8.toInt32))) ∧ ((5 : Int32) < n' → f' 5 = (nar .byte ((((w'.toUInt64 >>> ((40 : Int32) &&& 0x3f).toInt64.toUInt64).toInt64).toInt32).toInt8.toInt32))) ∧ ∀ t, Steps p.tables e below (T'.setTop (mkF m 142 #[.val (.long w'), .second, .val (.int s'), .val (.int x'), .val (.int n'), .val (.int k'), .val (.int o'), .val (.ref b10), .unset, .unset, .unset] [])) t → Steps p.tables e below (s₁.setTop (entryFrame m #[(.long w'), (.int s'), (.int x')] maxLocals)) t := by
    have pre48 : ∀ t, Steps p.tables e below (T40.setTop (mkF m 129 #[.val (.long w'), .second, .val (.int s'), .val (.int x'), .val (.int n'), .val (.int k'), .val (.int o'), .val (.ref b10), .unset, .unset, .unset] [(.int (5 : Int32)), (.int n')])) t → Steps p.tables e below (s₁.setTop (entryFrame m #[(.long w'), (.int s'), (.int x')] maxLocals)) t := by
      intro t kt
      refine pre40 t ?_
      show Steps p.tables e below (T40.setTop (mkF m 126 #[.val (.long w'), .second, .val (.int s'), .val (.int x'), .val (.int n'), .val (.int k'), .val (.int o'), .val (.ref b10), .unset, .unset, .unset] [])) _
      refine XS.iload X40.here hx rfl (hb hby at_126) rfl ?_
      show Steps p.tables e below (T40.setTop (mkF m 128 #[.val (.long w'), .second, .val (.int s'), .val (.int x'), .val (.int n'), .val (.int k'), .val (.int o'), .val (.ref b10), .unset, .unset, .unset] [(.int n')])) _
      refine XS.iconst X40.here hx rfl (hb hby at_128) ?_
      exact kt
    by_cases hc129_49 : (5 : Int32) < n'
    · obtain ⟨cl14150, Ar14150, S14150, M14150, H14150⟩ := V_b10
      have hin14150 : ¬ ((5 : Int32) < 0 ∨ cl14150.slots.size ≤ ((5 : Int32)).toNatClampNeg) := inb_of S14150 ⟨by decide, hc129_49⟩
      obtain ⟨T51, h51, X51, e51, W51, st51⟩ := stB X40 hx hZ e40 Ar14150 (j := (5 : Int32)) hin14150 (g := (mkF m 141 #[.val (.long w'), .second, .val (.int s'), .val (.int x'), .val (.int n'), .val (.int k'), .val (.int o'), .val (.ref b10), .unset, .unset, .unset] [(.int ((((w'.toUInt64 >>> ((40 : Int32) &&& 0x3f).toInt64.toUInt64).toInt64).toInt32).toInt8.toInt32)), (.int (5 : Int32)), (.ref b10)])) rfl rfl (hb hby at_141)
      have Zs51 : n0 ≤ h51.size := Nat.le_trans Zs40 (Keep.of_wr W51).1
      have K51 : Keep h0 h51 [] := K40.wr W51 (Or.inr sz_b10)
      have N51 := Fr.snoc X51 N40 g_b10
      have V_b10 : own_A Z h51 b10 .byte n' (own_upd f40 ((5 : Int32)).toNatClampNeg (nar .byte ((((w'.toUInt64 >>> ((40 : Int32) &&& 0x3f).toInt64.toUInt64).toInt64).toInt32).toInt8.toInt32))) := own_A.set Ar14150 S14150 M14150 H14150 W51
      have pre52 : ∀ t, Steps p.tables e below (T51.setTop (mkF m 142 #[.val (.long w'), .second, .val (.int s'), .val (.int x'), .val (.int n'), .val (.int k'), .val (.int o'), .val (.ref b10), .unset, .unset, .unset] [])) t → Steps p.tables e below (s₁.setTop (entryFrame m #[(.long w'), (.int s'), (.int x')] maxLocals)) t := by
        intro t kt
        refine pre48 t ?_
        show Steps p.tables e below (T40.setTop (mkF m 129 #[.val (.long w'), .second, .val (.int s'), .val (.int x'), .val (.int n'), .val (.int k'), .val (.int o'), .val (.ref b10), .unset, .unset, .unset] [(.int (5 : Int32)), (.int n')])) _
        refine XS.icmpNo X40.here hx rfl (hb hby at_129) rfl (tlt hc129_49).2.2.2 ?_
        show Steps p.tables e below (T40.setTop (mkF m 132 #[.val (.long w'), .second, .val (.int s'), .val (.int x'), .val (.int n'), .val (.int k'), .val (.int o'), .val (.ref b10), .unset, .unset, .unset] [])) _
        refine XS.aload X40.here hx rfl (hb hby at_132) rfl rfl ?_
        show Steps p.tables e below (T40.setTop (mkF m 134 #[.val (.long w'), .second, .val (.int s'), .val (.int x'), .val (.int n'), .val (.int k'), .val (.int o'), .val (.ref b10), .unset, .unset, .unset] [(.ref b10)])) _
        refine XS.iconst X40.here hx rfl (hb hby at_134) ?_
        show Steps p.tables e below (T40.setTop (mkF m 135 #[.val (.long w'), .second, .val (.int s'), .val (.int x'), .val (.int n'), .val (.int k'), .val (.int o'), .val (.ref b10), .unset, .unset, .unset] [(.int (5 : Int32)), (.ref b10)])) _
        refine XS.lloadN X40.here hx rfl (hb hby at_135) rfl ?_
        show Steps p.tables e below (T40.setTop (mkF m 136 #[.val (.long w'), .second, .val (.int s'), .val (.int x'), .val (.int n'), .val (.int k'), .val (.int o'), .val (.ref b10), .unset, .unset, .unset] [(.long w'), (.int (5 : Int32)), (.ref b10)])) _
        refine XS.bipush X40.here hx rfl (hb hby at_136) ?_
        show Steps p.tables e below (T40.setTop (mkF m 138 #[.val (.long w'), .second, .val (.int s'), .val (.int x'), .val (.int n'), .val (.int k'), .val (.int o'), .val (.ref b10), .unset, .unset, .unset] [(.int (40 : Int32)), (.long w'), (.int (5 : Int32)), (.ref b10)])) _
        refine XS.lushr X40.here hx rfl (hb hby at_138) rfl ?_
        show Steps p.tables e below (T40.setTop (mkF m 139 #[.val (.long w'), .second, .val (.int s'), .val (.int x'), .val (.int n'), .val (.int k'), .val (.int o'), .val (.ref b10), .unset, .unset, .unset] [(.long ((w'.toUInt64 >>> ((40 : Int32) &&& 0x3f).toInt64.toUInt64).toInt64)), (.int (5 : Int32)), (.ref b10)])) _
        refine XS.l2i X40.here hx rfl (hb hby at_139) rfl ?_
        show Steps p.tables e below (T40.setTop (mkF m 140 #[.val (.long w'), .second, .val (.int s'), .val (.int x'), .val (.int n'), .val (.int k'), .val (.int o'), .val (.ref b10), .unset, .unset, .unset] [(.int (((w'.toUInt64 >>> ((40 : Int32) &&& 0x3f).toInt64.toUInt64).toInt64).toInt32)), (.int (5 : Int32)), (.ref b10)])) _
        refine XS.i2b X40.here hx rfl (hb hby at_140) rfl ?_
        show Steps p.tables e below (T40.setTop (mkF m 141 #[.val (.long w'), .second, .val (.int s'), .val (.int x'), .val (.int n'), .val (.int k'), .val (.int o'), .val (.ref b10), .unset, .unset, .unset] [(.int ((((w'.toUInt64 >>> ((40 : Int32) &&& 0x3f).toInt64.toUInt64).toInt64).toInt32).toInt8.toInt32)), (.int (5 : Int32)), (.ref b10)])) _
        refine st51 _ ?_
        exact kt
      exact ⟨T51, _, _, (own_upd f40 ((5 : Int32)).toNatClampNeg (nar .byte ((((w'.toUInt64 >>> ((40 : Int32) &&& 0x3f).toInt64.toUInt64).toInt64).toInt32).toInt8.toInt32))), X51, e51, N51, Zs51, K51, V_b10, fun q => (if_neg (by decide)).trans (B0 q), fun q => (if_neg (by decide)).trans (B1 q), fun q => (if_neg (by decide)).trans (B2 q), fun q => (if_neg (by decide)).trans (B3 q), fun q => (if_neg (by decide)).trans (B4 q), fun _ => if_pos rfl, pre52⟩
    · have pre53 : ∀ t, Steps p.tables e below (T40.setTop (mkF m 142 #[.val (.long w'), .second, .val (.int s'), .val (.int x'), .val (.int n'), .val (.int k'), .val (.int o'), .val (.ref b10), .unset, .unset, .unset] [])) t → Steps p.tables e below (s₁.setTop (entryFrame m #[(.long w'), (.int s'), (.int x')] maxLocals)) t := by
        intro t kt
        refine pre48 t ?_
        show Steps p.tables e below (T40.setTop (mkF m 129 #[.val (.long w'), .second, .val (.int s'), .val (.int x'), .val (.int n'), .val (.int k'), .val (.int o'), .val (.ref b10), .unset, .unset, .unset] [(.int (5 : Int32)), (.int n')])) _
        refine XS.icmpYes X40.here hx rfl (pc0 := 129) (pc' := 142) rfl (hb hby at_129) rfl (flt hc129_49).2.2.2 (by decide) (by decide) ?_
        exact kt
      exact ⟨T40, _, _, f40, X40, e40, N40, Zs40, K40, V_b10, B0, B1, B2, B3, B4, fun q => absurd q hc129_49, pre53⟩
  obtain ⟨T47, h47, L47, f47, X47, e47, N47, Zs47, K47, V_b10, B0, B1, B2, B3, B4, B5, pre47⟩ := J47
  have J54 : ∃ (T' : State) (h' : Heap) (L' : List Loc) (f' : Nat → Int32), Stand p l e room_1 s m #[(.long w'), (.int s'), (.int x')] below meth c T' L' 1 8 ∧ T'.heap = h' ∧ Fr n0 L' ∧ n0 ≤ h'.size ∧ Keep h0 h' [] ∧ own_A Z h' b10 .byte n' f' ∧ ((0 : Int32) < n' → f' 0 = (nar .byte ((w'.toInt32).toInt8.toInt32))) ∧ ((1 : Int32) < n' → f' 1 = (nar .byte ((((w'.toUInt64 >>> ((8 : Int32) &&& 0x3f).toInt64.toUInt64).toInt64).toInt32).toInt8.toInt32))) ∧ ((2 : Int32) < n' → f' 2 = (nar .byte ((((w'.toUInt64 >>> ((16 : Int32) &&& 0x3f).toInt64.toUInt64).toInt64).toInt32).toInt8.toInt32))) ∧ ((3 : Int32) < n' → f' 3 = (nar .byte ((((w'.toUInt64 >>> ((24 : Int32) &&& 0x3f).toInt64.toUInt64).toInt64).toInt32).toInt8.toInt32))) ∧ ((4 : Int32) < n' → f' 4 = (nar .byte ((((w'.toUInt64 >>> ((32 : Int32) &&& 0x3f).toInt64.toUInt64).toInt64).toInt32).toInt8.toInt32))) ∧ ((5 : Int32) < n' → f' 5 = (nar .byte ((((w'.toUInt64 >>> ((40 : Int32) &&& 0x3f).toInt64.toUInt64).toInt64).toInt32).toInt8.toInt32))) ∧ ((6 : Int32) < n' → f' 6 = (nar .byte ((((w'.toUInt64 >>> ((48 : Int32) &&& 0x3f).toInt64.toUInt64).toInt64).toInt32).toInt8.toInt32))) ∧ ∀ t, Steps p.tables e below (T'.setTop (mkF m 160 #[.val (.long w'), .second, .val (.int s'), .val (.int x'), .val (.int n'), .val (.int k'), .val (.int o'), .val (.ref b10), .unset, .unset, .unset] [])) t → Steps p.tables e below (s₁.setTop (entryFrame m #[(.long w'), (.int s'), (.int x')] maxLocals)) t := by
    have pre55 : ∀ t, Steps p.tables e below (T47.setTop (mkF m 146 #[.val (.long w'), .second, .val (.int s'), .val (.int x'), .val (.int n'), .val (.int k'), .val (.int o'), .val (.ref b10), .unset, .unset, .unset] [(.int (6 : Int32)), (.int n')])) t → Steps p.tables e below (s₁.setTop (entryFrame m #[(.long w'), (.int s'), (.int x')] maxLocals)) t := by
      intro t kt
      refine pre47 t ?_
      show Steps p.tables e below (T47.setTop (mkF m 142 #[.val (.long w'), .second, .val (.int s'), .val (.int x'), .val (.int n'), .val (.int k'), .val (.int o'), .val (.ref b10), .unset, .unset, .unset] [])) _
      refine XS.iload X47.here hx rfl (hb hby at_142) rfl ?_
      show Steps p.tables e below (T47.setTop (mkF m 144 #[.val (.long w'), .second, .val (.int s'), .val (.int x'), .val (.int n'), .val (.int k'), .val (.int o'), .val (.ref b10), .unset, .unset, .unset] [(.int n')])) _
      refine XS.bipush X47.here hx rfl (hb hby at_144) ?_
      exact kt
    by_cases hc146_56 : (6 : Int32) < n'
    · obtain ⟨cl15957, Ar15957, S15957, M15957, H15957⟩ := V_b10
      have hin15957 : ¬ ((6 : Int32) < 0 ∨ cl15957.slots.size ≤ ((6 : Int32)).toNatClampNeg) := inb_of S15957 ⟨by decide, hc146_56⟩
      obtain ⟨T58, h58, X58, e58, W58, st58⟩ := stB X47 hx hZ e47 Ar15957 (j := (6 : Int32)) hin15957 (g := (mkF m 159 #[.val (.long w'), .second, .val (.int s'), .val (.int x'), .val (.int n'), .val (.int k'), .val (.int o'), .val (.ref b10), .unset, .unset, .unset] [(.int ((((w'.toUInt64 >>> ((48 : Int32) &&& 0x3f).toInt64.toUInt64).toInt64).toInt32).toInt8.toInt32)), (.int (6 : Int32)), (.ref b10)])) rfl rfl (hb hby at_159)
      have Zs58 : n0 ≤ h58.size := Nat.le_trans Zs47 (Keep.of_wr W58).1
      have K58 : Keep h0 h58 [] := K47.wr W58 (Or.inr sz_b10)
      have N58 := Fr.snoc X58 N47 g_b10
      have V_b10 : own_A Z h58 b10 .byte n' (own_upd f47 ((6 : Int32)).toNatClampNeg (nar .byte ((((w'.toUInt64 >>> ((48 : Int32) &&& 0x3f).toInt64.toUInt64).toInt64).toInt32).toInt8.toInt32))) := own_A.set Ar15957 S15957 M15957 H15957 W58
      have pre59 : ∀ t, Steps p.tables e below (T58.setTop (mkF m 160 #[.val (.long w'), .second, .val (.int s'), .val (.int x'), .val (.int n'), .val (.int k'), .val (.int o'), .val (.ref b10), .unset, .unset, .unset] [])) t → Steps p.tables e below (s₁.setTop (entryFrame m #[(.long w'), (.int s'), (.int x')] maxLocals)) t := by
        intro t kt
        refine pre55 t ?_
        show Steps p.tables e below (T47.setTop (mkF m 146 #[.val (.long w'), .second, .val (.int s'), .val (.int x'), .val (.int n'), .val (.int k'), .val (.int o'), .val (.ref b10), .unset, .unset, .unset] [(.int (6 : Int32)), (.int n')])) _
        refine XS.icmpNo X47.here hx rfl (hb hby at_146) rfl (tlt hc146_56).2.2.2 ?_
        show Steps p.tables e below (T47.setTop (mkF m 149 #[.val (.long w'), .second, .val (.int s'), .val (.int x'), .val (.int n'), .val (.int k'), .val (.int o'), .val (.ref b10), .unset, .unset, .unset] [])) _
        refine XS.aload X47.here hx rfl (hb hby at_149) rfl rfl ?_
        show Steps p.tables e below (T47.setTop (mkF m 151 #[.val (.long w'), .second, .val (.int s'), .val (.int x'), .val (.int n'), .val (.int k'), .val (.int o'), .val (.ref b10), .unset, .unset, .unset] [(.ref b10)])) _
        refine XS.bipush X47.here hx rfl (hb hby at_151) ?_
        show Steps p.tables e below (T47.setTop (mkF m 153 #[.val (.long w'), .second, .val (.int s'), .val (.int x'), .val (.int n'), .val (.int k'), .val (.int o'), .val (.ref b10), .unset, .unset, .unset] [(.int (6 : Int32)), (.ref b10)])) _
        refine XS.lloadN X47.here hx rfl (hb hby at_153) rfl ?_
        show Steps p.tables e below (T47.setTop (mkF m 154 #[.val (.long w'), .second, .val (.int s'), .val (.int x'), .val (.int n'), .val (.int k'), .val (.int o'), .val (.ref b10), .unset, .unset, .unset] [(.long w'), (.int (6 : Int32)), (.ref b10)])) _
        refine XS.bipush X47.here hx rfl (hb hby at_154) ?_
        show Steps p.tables e below (T47.setTop (mkF m 156 #[.val (.long w'), .second, .val (.int s'), .val (.int x'), .val (.int n'), .val (.int k'), .val (.int o'), .val (.ref b10), .unset, .unset, .unset] [(.int (48 : Int32)), (.long w'), (.int (6 : Int32)), (.ref b10)])) _
        refine XS.lushr X47.here hx rfl (hb hby at_156) rfl ?_
        show Steps p.tables e below (T47.setTop (mkF m 157 #[.val (.long w'), .second, .val (.int s'), .val (.int x'), .val (.int n'), .val (.int k'), .val (.int o'), .val (.ref b10), .unset, .unset, .unset] [(.long ((w'.toUInt64 >>> ((48 : Int32) &&& 0x3f).toInt64.toUInt64).toInt64)), (.int (6 : Int32)), (.ref b10)])) _
        refine XS.l2i X47.here hx rfl (hb hby at_157) rfl ?_
        show Steps p.tables e below (T47.setTop (mkF m 158 #[.val (.long w'), .second, .val (.int s'), .val (.int x'), .val (.int n'), .val (.int k'), .val (.int o'), .val (.ref b10), .unset, .unset, .unset] [(.int (((w'.toUInt64 >>> ((48 : Int32) &&& 0x3f).toInt64.toUInt64).toInt64).toInt32)), (.int (6 : Int32)), (.ref b10)])) _
        refine XS.i2b X47.here hx rfl (hb hby at_158) rfl ?_
        show Steps p.tables e below (T47.setTop (mkF m 159 #[.val (.long w'), .second, .val (.int s'), .val (.int x'), .val (.int n'), .val (.int k'), .val (.int o'), .val (.ref b10), .unset, .unset, .unset] [(.int ((((w'.toUInt64 >>> ((48 : Int32) &&& 0x3f).toInt64.toUInt64).toInt64).toInt32).toInt8.toInt32)), (.int (6 : Int32)), (.ref b10)])) _
        refine st58 _ ?_
        exact kt
      exact ⟨T58, _, _, (own_upd f47 ((6 : Int32)).toNatClampNeg (nar .byte ((((w'.toUInt64 >>> ((48 : Int32) &&& 0x3f).toInt64.toUInt64).toInt64).toInt32).toInt8.toInt32))), X58, e58, N58, Zs58, K58, V_b10, fun q => (if_neg (by decide)).trans (B0 q), fun q => (if_neg (by decide)).trans (B1 q), fun q => (if_neg (by decide)).trans (B2 q), fun q => (if_neg (by decide)).trans (B3 q), fun q => (if_neg (by decide)).trans (B4 q), fun q => (if_neg (by decide)).trans (B5 q), fun _ => if_pos rfl, pre59⟩
    · have pre60 : ∀ t, Steps p.tables e below (T47.setTop (mkF m 160 #[.val (.long w'), .second, .val (.int s'), .val (.int x'), .val (.int n'), .val (.int k'), .val (.int o'), .val (.ref b10), .unset, .unset, .unset] [])) t → Steps p.tables e below (s₁.setTop (entryFrame m #[(.long w'), (.int s'), (.int x')] maxLocals)) t := by
        intro t kt
        refine pre55 t ?_
        show Steps p.tables e below (T47.setTop (mkF m 146 #[.val (.long w'), .second, .val (.int s'), .val (.int x'), .val (.int n'), .val (.int k'), .val (.int o'), .val (.ref b10), .unset, .unset, .unset] [(.int (6 : Int32)), (.int n')])) _
        refine XS.icmpYes X47.here hx rfl (pc0 := 146) (pc' := 160) rfl (hb hby at_146) rfl (flt hc146_56).2.2.2 (by decide) (by decide) ?_
        exact kt
      exact ⟨T47, _, _, f47, X47, e47, N47, Zs47, K47, V_b10, B0, B1, B2, B3, B4, B5, fun q => absurd q hc146_56, pre60⟩
  obtain ⟨T54, h54, L54, f54, X54, e54, N54, Zs54, K54, V_b10, B0, B1, B2, B3, B4, B5, B6, pre54⟩ := J54
  have J61 : ∃ (T' : State) (h' : Heap) (L' : List Loc) (f' : Nat → Int32), Stand p l e room_1 s m #[(.long w'), (.int s'), (.int x')] below meth c T' L' 1 8 ∧ T'.heap = h' ∧ Fr n0 L' ∧ n0 ≤ h'.size ∧ Keep h0 h' [] ∧ own_A Z h' b10 .byte n' f' ∧ ((0 : Int32) < n' → f' 0 = (nar .byte ((w'.toInt32).toInt8.toInt32))) ∧ ((1 : Int32) < n' → f' 1 = (nar .byte ((((w'.toUInt64 >>> ((8 : Int32) &&& 0x3f).toInt64.toUInt64).toInt64).toInt32).toInt8.toInt32))) ∧ ((2 : Int32) < n' → f' 2 = (nar .byte ((((w'.toUInt64 >>> ((16 : Int32) &&& 0x3f).toInt64.toUInt64).toInt64).toInt32).toInt8.toInt32))) ∧ ((3 : Int32) < n' → f' 3 = (nar .byte ((((w'.toUInt64 >>> ((24 : Int32) &&& 0x3f).toInt64.toUInt64).toInt64).toInt32).toInt8.toInt32))) ∧ ((4 : Int32) < n' → f' 4 = (nar .byte ((((w'.toUInt64 >>> ((32 : Int32) &&& 0x3f).toInt64.toUInt64).toInt64).toInt32).toInt8.toInt32))) ∧ ((5 : Int32) < n' → f' 5 = (nar .byte ((((w'.toUInt64 >>> ((40 : Int32) &&& 0x3f).toInt64.toUInt64).toInt64).toInt32).toInt8.toInt32))) ∧ ((6 : Int32) < n' → f' 6 = (nar .byte ((((w'.toUInt64 >>> ((48 : Int32) &&& 0x3f).toInt64.toUInt64).toInt64).toInt32).toInt8.toInt32))) ∧ ((7 : Int32) < n' → f' 7 = (nar .byte ((((w'.toUInt64 >>> ((56 : Int32) &&& 0x3f).toInt64.toUInt64).toInt64).toInt32).toInt8.toInt32))) ∧ ∀ t, Steps p.tables e below (T'.setTop (mkF m 178 #[.val (.long w'), .second, .val (.int s'), .val (.int x'), .val (.int n'), .val (.int k'), .val (.int o'), .val (.ref b10), .unset, .unset, .unset] [])) t → Steps p.tables e below (s₁.setTop (entryFrame m #[(.long w'), (.int s'), (.int x')] maxLocals)) t := by
    have pre62 : ∀ t, Steps p.tables e below (T54.setTop (mkF m 164 #[.val (.long w'), .second, .val (.int s'), .val (.int x'), .val (.int n'), .val (.int k'), .val (.int o'), .val (.ref b10), .unset, .unset, .unset] [(.int (7 : Int32)), (.int n')])) t → Steps p.tables e below (s₁.setTop (entryFrame m #[(.long w'), (.int s'), (.int x')] maxLocals)) t := by
      intro t kt
      refine pre54 t ?_
      show Steps p.tables e below (T54.setTop (mkF m 160 #[.val (.long w'), .second, .val (.int s'), .val (.int x'), .val (.int n'), .val (.int k'), .val (.int o'), .val (.ref b10), .unset, .unset, .unset] [])) _
      refine XS.iload X54.here hx rfl (hb hby at_160) rfl ?_
      show Steps p.tables e below (T54.setTop (mkF m 162 #[.val (.long w'), .second, .val (.int s'), .val (.int x'), .val (.int n'), .val (.int k'), .val (.int o'), .val (.ref b10), .unset, .unset, .unset] [(.int n')])) _
      refine XS.bipush X54.here hx rfl (hb hby at_162) ?_
      exact kt
    by_cases hc164_63 : (7 : Int32) < n'
    · obtain ⟨cl17764, Ar17764, S17764, M17764, H17764⟩ := V_b10
      have hin17764 : ¬ ((7 : Int32) < 0 ∨ cl17764.slots.size ≤ ((7 : Int32)).toNatClampNeg) := inb_of S17764 ⟨by decide, hc164_63⟩
      obtain ⟨T65, h65, X65, e65, W65, st65⟩ := stB X54 hx hZ e54 Ar17764 (j := (7 : Int32)) hin17764 (g := (mkF m 177 #[.val (.long w'), .second, .val (.int s'), .val (.int x'), .val (.int n'), .val (.int k'), .val (.int o'), .val (.ref b10), .unset, .unset, .unset] [(.int ((((w'.toUInt64 >>> ((56 : Int32) &&& 0x3f).toInt64.toUInt64).toInt64).toInt32).toInt8.toInt32)), (.int (7 : Int32)), (.ref b10)])) rfl rfl (hb hby at_177)
      have Zs65 : n0 ≤ h65.size := Nat.le_trans Zs54 (Keep.of_wr W65).1
      have K65 : Keep h0 h65 [] := K54.wr W65 (Or.inr sz_b10)
      have N65 := Fr.snoc X65 N54 g_b10
      have V_b10 : own_A Z h65 b10 .byte n' (own_upd f54 ((7 : Int32)).toNatClampNeg (nar .byte ((((w'.toUInt64 >>> ((56 : Int32) &&& 0x3f).toInt64.toUInt64).toInt64).toInt32).toInt8.toInt32))) := own_A.set Ar17764 S17764 M17764 H17764 W65
      have pre66 : ∀ t, Steps p.tables e below (T65.setTop (mkF m 178 #[.val (.long w'), .second, .val (.int s'), .val (.int x'), .val (.int n'), .val (.int k'), .val (.int o'), .val (.ref b10), .unset, .unset, .unset] [])) t → Steps p.tables e below (s₁.setTop (entryFrame m #[(.long w'), (.int s'), (.int x')] maxLocals)) t := by
        intro t kt
        refine pre62 t ?_
        show Steps p.tables e below (T54.setTop (mkF m 164 #[.val (.long w'), .second, .val (.int s'), .val (.int x'), .val (.int n'), .val (.int k'), .val (.int o'), .val (.ref b10), .unset, .unset, .unset] [(.int (7 : Int32)), (.int n')])) _
        refine XS.icmpNo X54.here hx rfl (hb hby at_164) rfl (tlt hc164_63).2.2.2 ?_
        show Steps p.tables e below (T54.setTop (mkF m 167 #[.val (.long w'), .second, .val (.int s'), .val (.int x'), .val (.int n'), .val (.int k'), .val (.int o'), .val (.ref b10), .unset, .unset, .unset] [])) _
        refine XS.aload X54.here hx rfl (hb hby at_167) rfl rfl ?_
        show Steps p.tables e below (T54.setTop (mkF m 169 #[.val (.long w'), .second, .val (.int s'), .val (.int x'), .val (.int n'), .val (.int k'), .val (.int o'), .val (.ref b10), .unset, .unset, .unset] [(.ref b10)])) _
        refine XS.bipush X54.here hx rfl (hb hby at_169) ?_
        show Steps p.tables e below (T54.setTop (mkF m 171 #[.val (.long w'), .second, .val (.int s'), .val (.int x'), .val (.int n'), .val (.int k'), .val (.int o'), .val (.ref b10), .unset, .unset, .unset] [(.int (7 : Int32)), (.ref b10)])) _
        refine XS.lloadN X54.here hx rfl (hb hby at_171) rfl ?_
        show Steps p.tables e below (T54.setTop (mkF m 172 #[.val (.long w'), .second, .val (.int s'), .val (.int x'), .val (.int n'), .val (.int k'), .val (.int o'), .val (.ref b10), .unset, .unset, .unset] [(.long w'), (.int (7 : Int32)), (.ref b10)])) _
        refine XS.bipush X54.here hx rfl (hb hby at_172) ?_
        show Steps p.tables e below (T54.setTop (mkF m 174 #[.val (.long w'), .second, .val (.int s'), .val (.int x'), .val (.int n'), .val (.int k'), .val (.int o'), .val (.ref b10), .unset, .unset, .unset] [(.int (56 : Int32)), (.long w'), (.int (7 : Int32)), (.ref b10)])) _
        refine XS.lushr X54.here hx rfl (hb hby at_174) rfl ?_
        show Steps p.tables e below (T54.setTop (mkF m 175 #[.val (.long w'), .second, .val (.int s'), .val (.int x'), .val (.int n'), .val (.int k'), .val (.int o'), .val (.ref b10), .unset, .unset, .unset] [(.long ((w'.toUInt64 >>> ((56 : Int32) &&& 0x3f).toInt64.toUInt64).toInt64)), (.int (7 : Int32)), (.ref b10)])) _
        refine XS.l2i X54.here hx rfl (hb hby at_175) rfl ?_
        show Steps p.tables e below (T54.setTop (mkF m 176 #[.val (.long w'), .second, .val (.int s'), .val (.int x'), .val (.int n'), .val (.int k'), .val (.int o'), .val (.ref b10), .unset, .unset, .unset] [(.int (((w'.toUInt64 >>> ((56 : Int32) &&& 0x3f).toInt64.toUInt64).toInt64).toInt32)), (.int (7 : Int32)), (.ref b10)])) _
        refine XS.i2b X54.here hx rfl (hb hby at_176) rfl ?_
        show Steps p.tables e below (T54.setTop (mkF m 177 #[.val (.long w'), .second, .val (.int s'), .val (.int x'), .val (.int n'), .val (.int k'), .val (.int o'), .val (.ref b10), .unset, .unset, .unset] [(.int ((((w'.toUInt64 >>> ((56 : Int32) &&& 0x3f).toInt64.toUInt64).toInt64).toInt32).toInt8.toInt32)), (.int (7 : Int32)), (.ref b10)])) _
        refine st65 _ ?_
        exact kt
      exact ⟨T65, _, _, (own_upd f54 ((7 : Int32)).toNatClampNeg (nar .byte ((((w'.toUInt64 >>> ((56 : Int32) &&& 0x3f).toInt64.toUInt64).toInt64).toInt32).toInt8.toInt32))), X65, e65, N65, Zs65, K65, V_b10, fun q => (if_neg (by decide)).trans (B0 q), fun q => (if_neg (by decide)).trans (B1 q), fun q => (if_neg (by decide)).trans (B2 q), fun q => (if_neg (by decide)).trans (B3 q), fun q => (if_neg (by decide)).trans (B4 q), fun q => (if_neg (by decide)).trans (B5 q), fun q => (if_neg (by decide)).trans (B6 q), fun _ => if_pos rfl, pre66⟩
    · have pre67 : ∀ t, Steps p.tables e below (T54.setTop (mkF m 178 #[.val (.long w'), .second, .val (.int s'), .val (.int x'), .val (.int n'), .val (.int k'), .val (.int o'), .val (.ref b10), .unset, .unset, .unset] [])) t → Steps p.tables e below (s₁.setTop (entryFrame m #[(.long w'), (.int s'), (.int x')] maxLocals)) t := by
        intro t kt
        refine pre62 t ?_
        show Steps p.tables e below (T54.setTop (mkF m 164 #[.val (.long w'), .second, .val (.int s'), .val (.int x'), .val (.int n'), .val (.int k'), .val (.int o'), .val (.ref b10), .unset, .unset, .unset] [(.int (7 : Int32)), (.int n')])) _
        refine XS.icmpYes X54.here hx rfl (pc0 := 164) (pc' := 178) rfl (hb hby at_164) rfl (flt hc164_63).2.2.2 (by decide) (by decide) ?_
        exact kt
      exact ⟨T54, _, _, f54, X54, e54, N54, Zs54, K54, V_b10, B0, B1, B2, B3, B4, B5, B6, fun q => absurd q hc164_63, pre67⟩
  obtain ⟨T61, h61, L61, f61, X61, e61, N61, Zs61, K61, V_b10, B0, B1, B2, B3, B4, B5, B6, B7, pre61⟩ := J61
  obtain ⟨T68, h68, X68, e68, E68, A68, D68, -, st68⟩ := newO X61 hx hZ hown (hw _ (List.mem_of_getElem? (i := 2) rfl)) (hw _ (List.mem_of_getElem? (i := 3) rfl)) (hw _ (List.mem_of_getElem? (i := 4) rfl)) e61 (g := (mkF m 178 #[.val (.long w'), .second, .val (.int s'), .val (.int x'), .val (.int n'), .val (.int k'), .val (.int o'), .val (.ref b10), .unset, .unset, .unset] [])) rfl (hb hby at_178) (by decide) (by decide)
  obtain ⟨b68, g68⟩ : ∃ z, z = h61.size := ⟨_, rfl⟩
  rw [← g68] at A68 D68 st68
  have g_b68 : n0 ≤ b68 := Nat.le_trans Zs61 (Nat.le_of_eq g68.symm)
  have sz_b68 : h0.size ≤ b68 := Nat.le_trans K61.1 (Nat.le_of_eq g68.symm)
  have ne_b10_b68 : b10 ≠ b68 := Nat.ne_of_lt (Nat.lt_of_lt_of_le V_b10.lt (Nat.le_of_eq g68.symm))
  have V_b10 := V_b10.ext E68
  have Zs68 : n0 ≤ h68.size := Nat.le_trans Zs61 E68.1
  have K68 : Keep h0 h68 [] := K61.ext E68
  have E_b68 := A68
  have F_bytes_b68 : Fld Z h68 b68 "com/example/bytelace/bytelace/core/ByteInput" "bytes" "[B" .null := D68 (Or.inr (hw _ (List.mem_of_getElem? (i := 12) rfl))) (ty := (.array .byte)) (by decide)
  have F_position_b68 : Fld Z h68 b68 "com/example/bytelace/bytelace/core/ByteInput" "position" "I" (.int (0 : Int32)) := D68 (Or.inl (hw _ (List.mem_of_getElem? (i := 29) rfl))) (ty := .int) (by decide)
  obtain ⟨_, _, ⟨T69, L69, k69, n69⟩, -, X69, ⟨Lc69, hQ69, l69, y69, z69⟩, st69⟩ := X68.specialBack hx (y := (⟨"com/example/bytelace/bytelace/core/ByteInput", "<init>", "([B)V"⟩ : MethodName)) rfl hown (mvT hZ (hw _ (List.mem_of_getElem? (i := 5) rfl))) (mvT hZ (hw _ (List.mem_of_getElem? (i := 6) rfl))) (mvT hZ (hw _ (List.mem_of_getElem? (i := 7) rfl))) (by decide) (backOf (W := 1) (rm1 l Z a0 hw [] b68 b10 h68 n0 Zs68 E_b68 F_bytes_b68 F_position_b68 g_b68) hZ (hw _ (List.mem_of_getElem? (i := 7) rfl)) (hw _ (List.mem_of_getElem? (i := 4) rfl)) (by decide) (by decide)) (g := (mkF m 184 #[.val (.long w'), .second, .val (.int s'), .val (.int x'), .val (.int n'), .val (.int k'), .val (.int o'), .val (.ref b10), .unset, .unset, .unset] [(.ref b10), (.ref b68), (.ref b68)])) rfl (by rw [hml]; rfl) (Steps.refl _) (a := b68) (argsL := [(.ref b10)]) (rest := [(.ref b68)]) (lenOf pd0_0 rfl) rfl (by show 2 * 0 + _ ≤ _; exact Nat.le_of_eq rfl) (hb hby at_184) (fun _ _ => ⟨rfl, e68, (by decide : 2 + 0 ≤ _), (by decide : 11 + 0 ≤ _)⟩)
  dsimp only [Pt.U, Pt.locs, Pt.cells, Pt.slots] at X69 l69 y69 z69 st69 hQ69
  subst l69 y69 z69
  obtain ⟨rfl, N69q, Kq69, F_bytes_b68, F_position_b68⟩ := hQ69
  have N69 := Fr.app N61 N69q
  have V_b10 := V_b10.keep Kq69 (ninS ne_b10_b68 nin0)
  have E_b68 := E_b68.keep Kq69
  have Zs69 : n0 ≤ T69.heap.size := Nat.le_trans Zs68 Kq69.1
  have K69 : Keep h0 T69.heap [] := K68.trans Kq69 (allS (Or.inr sz_b68) all0)
  obtain ⟨cq70, kq70, q70a, q70b, q70c⟩ := isOf hZ rfl E_b68
  obtain ⟨_, _, ⟨T70, L70, k70, n70⟩, -, X70, ⟨Lc70, hQ70, l70, y70, z70⟩, st70⟩ := X69.virtualBack hx (y := (⟨"com/example/bytelace/bytelace/core/ByteInput", "skip", "(JI)V"⟩ : MethodName)) (z := (⟨"com/example/bytelace/bytelace/core/ByteInput", "skip", "(JI)V"⟩ : MethodName)) hown (mvT hZ (hw _ (List.mem_of_getElem? (i := 13) rfl))) (mvT hZ (hw _ (List.mem_of_getElem? (i := 14) rfl))) (notFace_of_selects (args := #[]) (mvT hZ (hw _ (List.mem_of_getElem? (i := 16) rfl)))) (mvT hZ (hw _ (List.mem_of_getElem? (i := 16) rfl))) (mvT hZ (hw _ (List.mem_of_getElem? (i := 15) rfl))) (by decide) (backOf (W := 0) (rm3 l Z a0 hw [] b68 (k'.toInt64) (0 : Int32) b10 n' (0 : Int32) f61 T69.heap n0 Zs69 F_bytes_b68 F_position_b68 V_b10 E_b68 g_b68 (own_nltL (by rw [c_i2l]; exact hk.1)) (own_sk hn hk)) hZ (hw _ (List.mem_of_getElem? (i := 17) rfl)) (hw _ (List.mem_of_getElem? (i := 4) rfl)) (by decide) (by decide)) q70a q70c (g := (mkF m 195 #[.val (.long w'), .second, .val (.int s'), .val (.int x'), .val (.int n'), .val (.int k'), .val (.int o'), .val (.ref b10), .val (.ref b68), .unset, .unset] [(.int (0 : Int32)), (.long (k'.toInt64)), (.ref b68)])) rfl (by rw [hml]; rfl) (Steps.refl _) (argsL := [(.long (k'.toInt64)), (.int (0 : Int32))]) (rest := []) (lenOf pd0_1 rfl) rfl (by show 2 * 0 + _ ≤ _; exact Nat.le_of_eq rfl) (hb hby at_195) (fun _ _ => ⟨rfl, rfl, (by decide : 2 + 0 ≤ _), (by decide : 11 + 0 ≤ _)⟩)
  dsimp only [Pt.U, Pt.locs, Pt.cells, Pt.slots] at X70 l70 y70 z70 st70 hQ70
  subst l70 y70 z70
  obtain ⟨rfl, N70q, Kq70, F_bytes_b68, F_position_b68⟩ := hQ70
  have N70 := Fr.app N69 N70q
  have V_b10 := V_b10.keep Kq70 (ninS ne_b10_b68 nin0)
  have E_b68 := E_b68.keep Kq70
  have Zs70 : n0 ≤ T70.heap.size := Nat.le_trans Zs69 Kq70.1
  have K70 : Keep h0 T70.heap [] := K69.trans Kq70 (allS (Or.inr sz_b68) all0)
  obtain ⟨cq71, kq71, q71a, q71b, q71c⟩ := isOf hZ rfl E_b68
  obtain ⟨_, _, ⟨T71, L71, k71, n71⟩, -, X71, ⟨Lc71, hQ71, l71, y71, z71⟩, st71⟩ := X70.virtualBack hx (y := (⟨"com/example/bytelace/bytelace/core/ByteInput", "unsignedByteAt", "(I)I"⟩ : MethodName)) (z := (⟨"com/example/bytelace/bytelace/core/ByteInput", "unsignedByteAt", "(I)I"⟩ : MethodName)) hown (mvT hZ (hw _ (List.mem_of_getElem? (i := 30) rfl))) (mvT hZ (hw _ (List.mem_of_getElem? (i := 31) rfl))) (notFace_of_selects (args := #[]) (mvT hZ (hw _ (List.mem_of_getElem? (i := 33) rfl)))) (mvT hZ (hw _ (List.mem_of_getElem? (i := 33) rfl))) (mvT hZ (hw _ (List.mem_of_getElem? (i := 32) rfl))) (by decide) (backOf (W := 0) (rm6 l Z a0 hw [] b68 o' b10 n' f61 T70.heap n0 Zs70 F_bytes_b68 V_b10 (own_nlt hJo)) hZ (hw _ (List.mem_of_getElem? (i := 34) rfl)) (hw _ (List.mem_of_getElem? (i := 4) rfl)) (by decide) (by decide)) q71a q71c (g := (mkF m 202 #[.val (.long w'), .second, .val (.int s'), .val (.int x'), .val (.int n'), .val (.int k'), .val (.int o'), .val (.ref b10), .val (.ref b68), .unset, .unset] [(.int o'), (.ref b68)])) rfl (by rw [hml]; rfl) (Steps.refl _) (argsL := [(.int o')]) (rest := []) (lenOf pd0_2 rfl) rfl (by show 2 * 0 + _ ≤ _; exact Nat.le_of_eq rfl) (hb hby at_202) (fun _ _ => ⟨rfl, rfl, (by decide : 2 + 0 ≤ _), (by decide : 11 + 0 ≤ _)⟩)
  dsimp only [Pt.U, Pt.locs, Pt.cells, Pt.slots] at X71 l71 y71 z71 st71 hQ71
  subst l71 y71 z71
  obtain ⟨rfl, N71q, hh71⟩ := hQ71
  have N71 := Fr.app N70 N71q
  have pre72 : ∀ t, Steps p.tables e below (T71.setTop (mkF m 211 #[.val (.long w'), .second, .val (.int s'), .val (.int x'), .val (.int n'), .val (.int k'), .val (.int o'), .val (.ref b10), .val (.ref b68), .val (.int (own_ub f61 n' o')), .unset] [(.int n'), (.int o')])) t → Steps p.tables e below (s₁.setTop (entryFrame m #[(.long w'), (.int s'), (.int x')] maxLocals)) t := by
    intro t kt
    refine pre61 t ?_
    show Steps p.tables e below (T61.setTop (mkF m 178 #[.val (.long w'), .second, .val (.int s'), .val (.int x'), .val (.int n'), .val (.int k'), .val (.int o'), .val (.ref b10), .unset, .unset, .unset] [])) _
    refine st68 _ ?_
    show Steps p.tables e below (T68.setTop (mkF m 181 #[.val (.long w'), .second, .val (.int s'), .val (.int x'), .val (.int n'), .val (.int k'), .val (.int o'), .val (.ref b10), .unset, .unset, .unset] [(.ref b68)])) _
    refine XS.dup X68.here hx rfl (hb hby at_181) rfl rfl ?_
    show Steps p.tables e below (T68.setTop (mkF m 182 #[.val (.long w'), .second, .val (.int s'), .val (.int x'), .val (.int n'), .val (.int k'), .val (.int o'), .val (.ref b10), .unset, .unset, .unset] [(.ref b68), (.ref b68)])) _
    refine XS.aload X68.here hx rfl (hb hby at_182) rfl rfl ?_
    show Steps p.tables e below (T68.setTop (mkF m 184 #[.val (.long w'), .second, .val (.int s'), .val (.int x'), .val (.int n'), .val (.int k'), .val (.int o'), .val (.ref b10), .unset, .unset, .unset] [(.ref b10), (.ref b68), (.ref b68)])) _
    refine st69.trans ?_
    show Steps p.tables e below (T69.setTop (mkF m 187 #[.val (.long w'), .second, .val (.int s'), .val (.int x'), .val (.int n'), .val (.int k'), .val (.int o'), .val (.ref b10), .unset, .unset, .unset] [(.ref b68)])) _
    refine XS.astore X69.here hx rfl (hb hby at_187) rfl rfl (l' := #[.val (.long w'), .second, .val (.int s'), .val (.int x'), .val (.int n'), .val (.int k'), .val (.int o'), .val (.ref b10), .val (.ref b68), .unset, .unset]) rfl ?_
    show Steps p.tables e below (T69.setTop (mkF m 189 #[.val (.long w'), .second, .val (.int s'), .val (.int x'), .val (.int n'), .val (.int k'), .val (.int o'), .val (.ref b10), .val (.ref b68), .unset, .unset] [])) _
    refine XS.aload X69.here hx rfl (hb hby at_189) rfl rfl ?_
    show Steps p.tables e below (T69.setTop (mkF m 191 #[.val (.long w'), .second, .val (.int s'), .val (.int x'), .val (.int n'), .val (.int k'), .val (.int o'), .val (.ref b10), .val (.ref b68), .unset, .unset] [(.ref b68)])) _
    refine XS.iload X69.here hx rfl (hb hby at_191) rfl ?_
    show Steps p.tables e below (T69.setTop (mkF m 193 #[.val (.long w'), .second, .val (.int s'), .val (.int x'), .val (.int n'), .val (.int k'), .val (.int o'), .val (.ref b10), .val (.ref b68), .unset, .unset] [(.int k'), (.ref b68)])) _
    refine XS.i2l X69.here hx rfl (hb hby at_193) rfl ?_
    show Steps p.tables e below (T69.setTop (mkF m 194 #[.val (.long w'), .second, .val (.int s'), .val (.int x'), .val (.int n'), .val (.int k'), .val (.int o'), .val (.ref b10), .val (.ref b68), .unset, .unset] [(.long (k'.toInt64)), (.ref b68)])) _
    refine XS.iconst X69.here hx rfl (hb hby at_194) ?_
    show Steps p.tables e below (T69.setTop (mkF m 195 #[.val (.long w'), .second, .val (.int s'), .val (.int x'), .val (.int n'), .val (.int k'), .val (.int o'), .val (.ref b10), .val (.ref b68), .unset, .unset] [(.int (0 : Int32)), (.long (k'.toInt64)), (.ref b68)])) _
    refine st70.trans ?_
    show Steps p.tables e below (T70.setTop (mkF m 198 #[.val (.long w'), .second, .val (.int s'), .val (.int x'), .val (.int n'), .val (.int k'), .val (.int o'), .val (.ref b10), .val (.ref b68), .unset, .unset] [])) _
    refine XS.aload X70.here hx rfl (hb hby at_198) rfl rfl ?_
    show Steps p.tables e below (T70.setTop (mkF m 200 #[.val (.long w'), .second, .val (.int s'), .val (.int x'), .val (.int n'), .val (.int k'), .val (.int o'), .val (.ref b10), .val (.ref b68), .unset, .unset] [(.ref b68)])) _
    refine XS.iload X70.here hx rfl (hb hby at_200) rfl ?_
    show Steps p.tables e below (T70.setTop (mkF m 202 #[.val (.long w'), .second, .val (.int s'), .val (.int x'), .val (.int n'), .val (.int k'), .val (.int o'), .val (.ref b10), .val (.ref b68), .unset, .unset] [(.int o'), (.ref b68)])) _
    refine st71.trans ?_
    show Steps p.tables e below (T71.setTop (mkF m 205 #[.val (.long w'), .second, .val (.int s'), .val (.int x'), .val (.int n'), .val (.int k'), .val (.int o'), .val (.ref b10), .val (.ref b68), .unset, .unset] [(.int (own_ub f61 n' o'))])) _
    refine XS.istore X71.here hx rfl (hb hby at_205) rfl (l' := #[.val (.long w'), .second, .val (.int s'), .val (.int x'), .val (.int n'), .val (.int k'), .val (.int o'), .val (.ref b10), .val (.ref b68), .val (.int (own_ub f61 n' o')), .unset]) rfl ?_
    show Steps p.tables e below (T71.setTop (mkF m 207 #[.val (.long w'), .second, .val (.int s'), .val (.int x'), .val (.int n'), .val (.int k'), .val (.int o'), .val (.ref b10), .val (.ref b68), .val (.int (own_ub f61 n' o')), .unset] [])) _
    refine XS.iload X71.here hx rfl (hb hby at_207) rfl ?_
    show Steps p.tables e below (T71.setTop (mkF m 209 #[.val (.long w'), .second, .val (.int s'), .val (.int x'), .val (.int n'), .val (.int k'), .val (.int o'), .val (.ref b10), .val (.ref b68), .val (.int (own_ub f61 n' o')), .unset] [(.int o')])) _
    refine XS.iload X71.here hx rfl (hb hby at_209) rfl ?_
    exact kt
  by_cases hc211_73 : o' < n'
  · obtain ⟨cq74, kq74, q74a, q74b, q74c⟩ := isOf hZ hh71 E_b68
    obtain ⟨_, _, ⟨T74, L74, k74, n74⟩, -, X74, ⟨Lc74, hQ74, l74, y74, z74⟩, st74⟩ := X71.virtualBack hx (y := (⟨"com/example/bytelace/bytelace/core/ByteInput", "position", "()I"⟩ : MethodName)) (z := (⟨"com/example/bytelace/bytelace/core/ByteInput", "position", "()I"⟩ : MethodName)) hown (mvT hZ (hw _ (List.mem_of_getElem? (i := 36) rfl))) (mvT hZ (hw _ (List.mem_of_getElem? (i := 37) rfl))) (notFace_of_selects (args := #[]) (mvT hZ (hw _ (List.mem_of_getElem? (i := 39) rfl)))) (mvT hZ (hw _ (List.mem_of_getElem? (i := 39) rfl))) (mvT hZ (hw _ (List.mem_of_getElem? (i := 38) rfl))) (by decide) (backOf (W := 0) (rm7 l Z a0 hw [] b68 ((0 : Int32) + k'.toInt64.toInt32) T70.heap n0 Zs70 F_position_b68) hZ (hw _ (List.mem_of_getElem? (i := 40) rfl)) (hw _ (List.mem_of_getElem? (i := 4) rfl)) (by decide) (by decide)) q74a q74c (g := (mkF m 241 #[.val (.long w'), .second, .val (.int s'), .val (.int x'), .val (.int n'), .val (.int k'), .val (.int o'), .val (.ref b10), .val (.ref b68), .val (.int (own_ub f61 n' o')), .val (.int ((((w'.toUInt64 >>> (((8 : Int32) * o') &&& 0x3f).toInt64.toUInt64).toInt64) &&& (255 : Int64)).toInt32))] [(.ref b68)])) rfl (by rw [hml]; rfl) (Steps.refl _) (argsL := []) (rest := []) (lenOf pd0_3 rfl) rfl (by show 2 * 0 + _ ≤ _; exact Nat.le_of_eq rfl) (hb hby at_241) (fun _ _ => ⟨rfl, hh71, (by decide : 2 + 0 ≤ _), (by decide : 11 + 0 ≤ _)⟩)
    dsimp only [Pt.U, Pt.locs, Pt.cells, Pt.slots] at X74 l74 y74 z74 st74 hQ74
    subst l74 y74 z74
    obtain ⟨rfl, N74q, hh74⟩ := hQ74
    have N74 := Fr.app N71 N74q
    obtain ⟨fs, hr, hrun, hended, hW, hsame⟩ := X74.leave (v := some (.int (1 : Int32))) (fun h => by rw [Bd.returns] at h; cases h)
    refine ⟨_, _, pre72 _ ?_, hrun, hended, _, _, rfl, ?_, ⟨_, rfl⟩, hW, hsame.mono (by decide) (by decide)⟩
    · show Steps p.tables e below (T71.setTop (mkF m 211 #[.val (.long w'), .second, .val (.int s'), .val (.int x'), .val (.int n'), .val (.int k'), .val (.int o'), .val (.ref b10), .val (.ref b68), .val (.int (own_ub f61 n' o')), .unset] [(.int n'), (.int o')])) _
      refine XS.icmpYes X71.here hx rfl (pc0 := 211) (pc' := 218) rfl (hb hby at_211) rfl (tlt hc211_73).1 (by decide) (by decide) ?_
      show Steps p.tables e below (T71.setTop (mkF m 218 #[.val (.long w'), .second, .val (.int s'), .val (.int x'), .val (.int n'), .val (.int k'), .val (.int o'), .val (.ref b10), .val (.ref b68), .val (.int (own_ub f61 n' o')), .unset] [])) _
      refine XS.lloadN X71.here hx rfl (hb hby at_218) rfl ?_
      show Steps p.tables e below (T71.setTop (mkF m 219 #[.val (.long w'), .second, .val (.int s'), .val (.int x'), .val (.int n'), .val (.int k'), .val (.int o'), .val (.ref b10), .val (.ref b68), .val (.int (own_ub f61 n' o')), .unset] [(.long w')])) _
      refine XS.bipush X71.here hx rfl (hb hby at_219) ?_
      show Steps p.tables e below (T71.setTop (mkF m 221 #[.val (.long w'), .second, .val (.int s'), .val (.int x'), .val (.int n'), .val (.int k'), .val (.int o'), .val (.ref b10), .val (.ref b68), .val (.int (own_ub f61 n' o')), .unset] [(.int (8 : Int32)), (.long w')])) _
      refine XS.iload X71.here hx rfl (hb hby at_221) rfl ?_
      show Steps p.tables e below (T71.setTop (mkF m 223 #[.val (.long w'), .second, .val (.int s'), .val (.int x'), .val (.int n'), .val (.int k'), .val (.int o'), .val (.ref b10), .val (.ref b68), .val (.int (own_ub f61 n' o')), .unset] [(.int o'), (.int (8 : Int32)), (.long w')])) _
      refine XS.imul X71.here hx rfl (hb hby at_223) rfl ?_
      show Steps p.tables e below (T71.setTop (mkF m 224 #[.val (.long w'), .second, .val (.int s'), .val (.int x'), .val (.int n'), .val (.int k'), .val (.int o'), .val (.ref b10), .val (.ref b68), .val (.int (own_ub f61 n' o')), .unset] [(.int ((8 : Int32) * o')), (.long w')])) _
      refine XS.lushr X71.here hx rfl (hb hby at_224) rfl ?_
      show Steps p.tables e below (T71.setTop (mkF m 225 #[.val (.long w'), .second, .val (.int s'), .val (.int x'), .val (.int n'), .val (.int k'), .val (.int o'), .val (.ref b10), .val (.ref b68), .val (.int (own_ub f61 n' o')), .unset] [(.long ((w'.toUInt64 >>> (((8 : Int32) * o') &&& 0x3f).toInt64.toUInt64).toInt64))])) _
      refine X71.ldc2Long hx hown (mvT hZ (hw _ (List.mem_of_getElem? (i := 35) rfl))) (g := (mkF m 225 #[.val (.long w'), .second, .val (.int s'), .val (.int x'), .val (.int n'), .val (.int k'), .val (.int o'), .val (.ref b10), .val (.ref b68), .val (.int (own_ub f61 n' o')), .unset] [(.long ((w'.toUInt64 >>> (((8 : Int32) * o') &&& 0x3f).toInt64.toUInt64).toInt64))])) rfl (hb hby at_225) _ ?_
      show Steps p.tables e below (T71.setTop (mkF m 228 #[.val (.long w'), .second, .val (.int s'), .val (.int x'), .val (.int n'), .val (.int k'), .val (.int o'), .val (.ref b10), .val (.ref b68), .val (.int (own_ub f61 n' o')), .unset] [(.long (255 : Int64)), (.long ((w'.toUInt64 >>> (((8 : Int32) * o') &&& 0x3f).toInt64.toUInt64).toInt64))])) _
      refine XS.land X71.here hx rfl (hb hby at_228) rfl ?_
      show Steps p.tables e below (T71.setTop (mkF m 229 #[.val (.long w'), .second, .val (.int s'), .val (.int x'), .val (.int n'), .val (.int k'), .val (.int o'), .val (.ref b10), .val (.ref b68), .val (.int (own_ub f61 n' o')), .unset] [(.long (((w'.toUInt64 >>> (((8 : Int32) * o') &&& 0x3f).toInt64.toUInt64).toInt64) &&& (255 : Int64)))])) _
      refine XS.l2i X71.here hx rfl (hb hby at_229) rfl ?_
      show Steps p.tables e below (T71.setTop (mkF m 230 #[.val (.long w'), .second, .val (.int s'), .val (.int x'), .val (.int n'), .val (.int k'), .val (.int o'), .val (.ref b10), .val (.ref b68), .val (.int (own_ub f61 n' o')), .unset] [(.int ((((w'.toUInt64 >>> (((8 : Int32) * o') &&& 0x3f).toInt64.toUInt64).toInt64) &&& (255 : Int64)).toInt32))])) _
      refine XS.istore X71.here hx rfl (hb hby at_230) rfl (l' := #[.val (.long w'), .second, .val (.int s'), .val (.int x'), .val (.int n'), .val (.int k'), .val (.int o'), .val (.ref b10), .val (.ref b68), .val (.int (own_ub f61 n' o')), .val (.int ((((w'.toUInt64 >>> (((8 : Int32) * o') &&& 0x3f).toInt64.toUInt64).toInt64) &&& (255 : Int64)).toInt32))]) rfl ?_
      show Steps p.tables e below (T71.setTop (mkF m 232 #[.val (.long w'), .second, .val (.int s'), .val (.int x'), .val (.int n'), .val (.int k'), .val (.int o'), .val (.ref b10), .val (.ref b68), .val (.int (own_ub f61 n' o')), .val (.int ((((w'.toUInt64 >>> (((8 : Int32) * o') &&& 0x3f).toInt64.toUInt64).toInt64) &&& (255 : Int64)).toInt32))] [])) _
      refine XS.iload X71.here hx rfl (hb hby at_232) rfl ?_
      show Steps p.tables e below (T71.setTop (mkF m 234 #[.val (.long w'), .second, .val (.int s'), .val (.int x'), .val (.int n'), .val (.int k'), .val (.int o'), .val (.ref b10), .val (.ref b68), .val (.int (own_ub f61 n' o')), .val (.int ((((w'.toUInt64 >>> (((8 : Int32) * o') &&& 0x3f).toInt64.toUInt64).toInt64) &&& (255 : Int64)).toInt32))] [(.int (own_ub f61 n' o'))])) _
      refine XS.iload X71.here hx rfl (hb hby at_234) rfl ?_
      show Steps p.tables e below (T71.setTop (mkF m 236 #[.val (.long w'), .second, .val (.int s'), .val (.int x'), .val (.int n'), .val (.int k'), .val (.int o'), .val (.ref b10), .val (.ref b68), .val (.int (own_ub f61 n' o')), .val (.int ((((w'.toUInt64 >>> (((8 : Int32) * o') &&& 0x3f).toInt64.toUInt64).toInt64) &&& (255 : Int64)).toInt32))] [(.int ((((w'.toUInt64 >>> (((8 : Int32) * o') &&& 0x3f).toInt64.toUInt64).toInt64) &&& (255 : Int64)).toInt32)), (.int (own_ub f61 n' o'))])) _
      refine XS.icmpNo X71.here hx rfl (hb hby at_236) rfl (teq (by rw [own_ub, if_pos hc211_73]; exact own_fin w' f61 n' o' hn hJo hc211_73 B0 B1 B2 B3 B4 B5 B6 B7)).2 ?_
      show Steps p.tables e below (T71.setTop (mkF m 239 #[.val (.long w'), .second, .val (.int s'), .val (.int x'), .val (.int n'), .val (.int k'), .val (.int o'), .val (.ref b10), .val (.ref b68), .val (.int (own_ub f61 n' o')), .val (.int ((((w'.toUInt64 >>> (((8 : Int32) * o') &&& 0x3f).toInt64.toUInt64).toInt64) &&& (255 : Int64)).toInt32))] [])) _
      refine XS.aload X71.here hx rfl (hb hby at_239) rfl rfl ?_
      show Steps p.tables e below (T71.setTop (mkF m 241 #[.val (.long w'), .second, .val (.int s'), .val (.int x'), .val (.int n'), .val (.int k'), .val (.int o'), .val (.ref b10), .val (.ref b68), .val (.int (own_ub f61 n' o')), .val (.int ((((w'.toUInt64 >>> (((8 : Int32) * o') &&& 0x3f).toInt64.toUInt64).toInt64) &&& (255 : Int64)).toInt32))] [(.ref b68)])) _
      refine st74.trans ?_
      show Steps p.tables e below (T74.setTop (mkF m 244 #[.val (.long w'), .second, .val (.int s'), .val (.int x'), .val (.int n'), .val (.int k'), .val (.int o'), .val (.ref b10), .val (.ref b68), .val (.int (own_ub f61 n' o')), .val (.int ((((w'.toUInt64 >>> (((8 : Int32) * o') &&& 0x3f).toInt64.toUInt64).toInt64) &&& (255 : Int64)).toInt32))] [(.int ((0 : Int32) + k'.toInt64.toInt32))])) _
      refine XS.iload X74.here hx rfl (hb hby at_244) rfl ?_
      show Steps p.tables e below (T74.setTop (mkF m 246 #[.val (.long w'), .second, .val (.int s'), .val (.int x'), .val (.int n'), .val (.int k'), .val (.int o'), .val (.ref b10), .val (.ref b68), .val (.int (own_ub f61 n' o')), .val (.int ((((w'.toUInt64 >>> (((8 : Int32) * o') &&& 0x3f).toInt64.toUInt64).toInt64) &&& (255 : Int64)).toInt32))] [(.int k'), (.int ((0 : Int32) + k'.toInt64.toInt32))])) _
      refine XS.icmpNo X74.here hx rfl (hb hby at_246) rfl (teq (own_pos k')).2 ?_
      show Steps p.tables e below (T74.setTop (mkF m 249 #[.val (.long w'), .second, .val (.int s'), .val (.int x'), .val (.int n'), .val (.int k'), .val (.int o'), .val (.ref b10), .val (.ref b68), .val (.int (own_ub f61 n' o')), .val (.int ((((w'.toUInt64 >>> (((8 : Int32) * o') &&& 0x3f).toInt64.toUInt64).toInt64) &&& (255 : Int64)).toInt32))] [])) _
      refine XS.iconst X74.here hx rfl (hb hby at_249) ?_
      show Steps p.tables e below (T74.setTop (mkF m 250 #[.val (.long w'), .second, .val (.int s'), .val (.int x'), .val (.int n'), .val (.int k'), .val (.int o'), .val (.ref b10), .val (.ref b68), .val (.int (own_ub f61 n' o')), .val (.int ((((w'.toUInt64 >>> (((8 : Int32) * o') &&& 0x3f).toInt64.toUInt64).toInt64) &&& (255 : Int64)).toInt32))] [(.int (1 : Int32))])) _
      refine XS.goto X74.here hx rfl (pc0 := 250) (pc' := 254) rfl (hb hby at_250) (by decide) (by decide) ?_
      show Steps p.tables e below (T74.setTop (mkF m 254 #[.val (.long w'), .second, .val (.int s'), .val (.int x'), .val (.int n'), .val (.int k'), .val (.int o'), .val (.ref b10), .val (.ref b68), .val (.int (own_ub f61 n' o')), .val (.int ((((w'.toUInt64 >>> (((8 : Int32) * o') &&& 0x3f).toInt64.toUInt64).toInt64) &&& (255 : Int64)).toInt32))] [(.int (1 : Int32))])) _
      exact retN X74 hx (t := .boolean) Bd.returns (by simp) (hb hby at_254) hr
    · show Q0 Z w' s' x' h0 n0 _ T74.heap _
      rw [hh74]
      exact ⟨rfl, N74⟩
  · obtain ⟨cq75, kq75, q75a, q75b, q75c⟩ := isOf hZ hh71 E_b68
    obtain ⟨_, _, ⟨T75, L75, k75, n75⟩, -, X75, ⟨Lc75, hQ75, l75, y75, z75⟩, st75⟩ := X71.virtualBack hx (y := (⟨"com/example/bytelace/bytelace/core/ByteInput", "position", "()I"⟩ : MethodName)) (z := (⟨"com/example/bytelace/bytelace/core/ByteInput", "position", "()I"⟩ : MethodName)) hown (mvT hZ (hw _ (List.mem_of_getElem? (i := 36) rfl))) (mvT hZ (hw _ (List.mem_of_getElem? (i := 37) rfl))) (notFace_of_selects (args := #[]) (mvT hZ (hw _ (List.mem_of_getElem? (i := 39) rfl)))) (mvT hZ (hw _ (List.mem_of_getElem? (i := 39) rfl))) (mvT hZ (hw _ (List.mem_of_getElem? (i := 38) rfl))) (by decide) (backOf (W := 0) (rm7 l Z a0 hw [] b68 ((0 : Int32) + k'.toInt64.toInt32) T70.heap n0 Zs70 F_position_b68) hZ (hw _ (List.mem_of_getElem? (i := 40) rfl)) (hw _ (List.mem_of_getElem? (i := 4) rfl)) (by decide) (by decide)) q75a q75c (g := (mkF m 241 #[.val (.long w'), .second, .val (.int s'), .val (.int x'), .val (.int n'), .val (.int k'), .val (.int o'), .val (.ref b10), .val (.ref b68), .val (.int (own_ub f61 n' o')), .val (.int (-1 : Int32))] [(.ref b68)])) rfl (by rw [hml]; rfl) (Steps.refl _) (argsL := []) (rest := []) (lenOf pd0_3 rfl) rfl (by show 2 * 0 + _ ≤ _; exact Nat.le_of_eq rfl) (hb hby at_241) (fun _ _ => ⟨rfl, hh71, (by decide : 2 + 0 ≤ _), (by decide : 11 + 0 ≤ _)⟩)
    dsimp only [Pt.U, Pt.locs, Pt.cells, Pt.slots] at X75 l75 y75 z75 st75 hQ75
    subst l75 y75 z75
    obtain ⟨rfl, N75q, hh75⟩ := hQ75
    have N75 := Fr.app N71 N75q
    obtain ⟨fs, hr, hrun, hended, hW, hsame⟩ := X75.leave (v := some (.int (1 : Int32))) (fun h => by rw [Bd.returns] at h; cases h)
    refine ⟨_, _, pre72 _ ?_, hrun, hended, _, _, rfl, ?_, ⟨_, rfl⟩, hW, hsame.mono (by decide) (by decide)⟩
    · show Steps p.tables e below (T71.setTop (mkF m 211 #[.val (.long w'), .second, .val (.int s'), .val (.int x'), .val (.int n'), .val (.int k'), .val (.int o'), .val (.ref b10), .val (.ref b68), .val (.int (own_ub f61 n' o')), .unset] [(.int n'), (.int o')])) _
      refine XS.icmpNo X71.here hx rfl (hb hby at_211) rfl (flt hc211_73).1 ?_
      show Steps p.tables e below (T71.setTop (mkF m 214 #[.val (.long w'), .second, .val (.int s'), .val (.int x'), .val (.int n'), .val (.int k'), .val (.int o'), .val (.ref b10), .val (.ref b68), .val (.int (own_ub f61 n' o')), .unset] [])) _
      refine XS.iconst X71.here hx rfl (hb hby at_214) ?_
      show Steps p.tables e below (T71.setTop (mkF m 215 #[.val (.long w'), .second, .val (.int s'), .val (.int x'), .val (.int n'), .val (.int k'), .val (.int o'), .val (.ref b10), .val (.ref b68), .val (.int (own_ub f61 n' o')), .unset] [(.int (-1 : Int32))])) _
      refine XS.goto X71.here hx rfl (pc0 := 215) (pc' := 230) rfl (hb hby at_215) (by decide) (by decide) ?_
      show Steps p.tables e below (T71.setTop (mkF m 230 #[.val (.long w'), .second, .val (.int s'), .val (.int x'), .val (.int n'), .val (.int k'), .val (.int o'), .val (.ref b10), .val (.ref b68), .val (.int (own_ub f61 n' o')), .unset] [(.int (-1 : Int32))])) _
      refine XS.istore X71.here hx rfl (hb hby at_230) rfl (l' := #[.val (.long w'), .second, .val (.int s'), .val (.int x'), .val (.int n'), .val (.int k'), .val (.int o'), .val (.ref b10), .val (.ref b68), .val (.int (own_ub f61 n' o')), .val (.int (-1 : Int32))]) rfl ?_
      show Steps p.tables e below (T71.setTop (mkF m 232 #[.val (.long w'), .second, .val (.int s'), .val (.int x'), .val (.int n'), .val (.int k'), .val (.int o'), .val (.ref b10), .val (.ref b68), .val (.int (own_ub f61 n' o')), .val (.int (-1 : Int32))] [])) _
      refine XS.iload X71.here hx rfl (hb hby at_232) rfl ?_
      show Steps p.tables e below (T71.setTop (mkF m 234 #[.val (.long w'), .second, .val (.int s'), .val (.int x'), .val (.int n'), .val (.int k'), .val (.int o'), .val (.ref b10), .val (.ref b68), .val (.int (own_ub f61 n' o')), .val (.int (-1 : Int32))] [(.int (own_ub f61 n' o'))])) _
      refine XS.iload X71.here hx rfl (hb hby at_234) rfl ?_
      show Steps p.tables e below (T71.setTop (mkF m 236 #[.val (.long w'), .second, .val (.int s'), .val (.int x'), .val (.int n'), .val (.int k'), .val (.int o'), .val (.ref b10), .val (.ref b68), .val (.int (own_ub f61 n' o')), .val (.int (-1 : Int32))] [(.int (-1 : Int32)), (.int (own_ub f61 n' o'))])) _
      refine XS.icmpNo X71.here hx rfl (hb hby at_236) rfl (teq (by rw [own_ub, if_neg hc211_73])).2 ?_
      show Steps p.tables e below (T71.setTop (mkF m 239 #[.val (.long w'), .second, .val (.int s'), .val (.int x'), .val (.int n'), .val (.int k'), .val (.int o'), .val (.ref b10), .val (.ref b68), .val (.int (own_ub f61 n' o')), .val (.int (-1 : Int32))] [])) _
      refine XS.aload X71.here hx rfl (hb hby at_239) rfl rfl ?_
      show Steps p.tables e below (T71.setTop (mkF m 241 #[.val (.long w'), .second, .val (.int s'), .val (.int x'), .val (.int n'), .val (.int k'), .val (.int o'), .val (.ref b10), .val (.ref b68), .val (.int (own_ub f61 n' o')), .val (.int (-1 : Int32))] [(.ref b68)])) _
      refine st75.trans ?_
      show Steps p.tables e below (T75.setTop (mkF m 244 #[.val (.long w'), .second, .val (.int s'), .val (.int x'), .val (.int n'), .val (.int k'), .val (.int o'), .val (.ref b10), .val (.ref b68), .val (.int (own_ub f61 n' o')), .val (.int (-1 : Int32))] [(.int ((0 : Int32) + k'.toInt64.toInt32))])) _
      refine XS.iload X75.here hx rfl (hb hby at_244) rfl ?_
      show Steps p.tables e below (T75.setTop (mkF m 246 #[.val (.long w'), .second, .val (.int s'), .val (.int x'), .val (.int n'), .val (.int k'), .val (.int o'), .val (.ref b10), .val (.ref b68), .val (.int (own_ub f61 n' o')), .val (.int (-1 : Int32))] [(.int k'), (.int ((0 : Int32) + k'.toInt64.toInt32))])) _
      refine XS.icmpNo X75.here hx rfl (hb hby at_246) rfl (teq (own_pos k')).2 ?_
      show Steps p.tables e below (T75.setTop (mkF m 249 #[.val (.long w'), .second, .val (.int s'), .val (.int x'), .val (.int n'), .val (.int k'), .val (.int o'), .val (.ref b10), .val (.ref b68), .val (.int (own_ub f61 n' o')), .val (.int (-1 : Int32))] [])) _
      refine XS.iconst X75.here hx rfl (hb hby at_249) ?_
      show Steps p.tables e below (T75.setTop (mkF m 250 #[.val (.long w'), .second, .val (.int s'), .val (.int x'), .val (.int n'), .val (.int k'), .val (.int o'), .val (.ref b10), .val (.ref b68), .val (.int (own_ub f61 n' o')), .val (.int (-1 : Int32))] [(.int (1 : Int32))])) _
      refine XS.goto X75.here hx rfl (pc0 := 250) (pc' := 254) rfl (hb hby at_250) (by decide) (by decide) ?_
      show Steps p.tables e below (T75.setTop (mkF m 254 #[.val (.long w'), .second, .val (.int s'), .val (.int x'), .val (.int n'), .val (.int k'), .val (.int o'), .val (.ref b10), .val (.ref b68), .val (.int (own_ub f61 n' o')), .val (.int (-1 : Int32))] [(.int (1 : Int32))])) _
      exact retN X75 hx (t := .boolean) Bd.returns (by simp) (hb hby at_254) hr
    · show Q0 Z w' s' x' h0 n0 _ T75.heap _
      rw [hh75]
      exact ⟨rfl, N75⟩
set_option maxRecDepth 65536 in
set_option maxHeartbeats 40000000 in
theorem comes_1 {Post : Tables → Env → Array Value → State → Outcome → State → Prop} (hpost : ∀ tb e args s v u, (limb_1_1.after args s (.returned v) u = true ∧ limb_1_2.after args s (.returned v) u = true ∧ True) → FrameEnd s (.returned v) u (Jvm.fieldLocs frame_1_writes args s ++ Jvm.arrayLocs frame_1_arrays args s ++ Jvm.staticLocs frame_1_statics s) 16 128 → Post tb e args s (.returned v) u) :
    ArmFor flags0 classFile x code maxLocals ret World_1 tables_1 room_1 Calls_1 rest_1 Pre_1 Post := by
  intro l hfl _ _ p e ha hc hk s m args below hf hA hF happ hP
  obtain ⟨hcalls, hrest, hpre⟩ := hP
  obtain ⟨-, -, -, hnamed, -, -, -, hat⟩ := (Spec.applies_iff hf).mp happ
  obtain ⟨hg, hn⟩ := and_e (Cond.before_iff.mp (show (Jvm.Cond.and given_1 narrow_1).before args s = true from hpre))
  obtain ⟨hcount, gr0⟩ := and_e hg
  obtain ⟨ga0, gr1⟩ := and_e gr0
  obtain ⟨ga1, ga2⟩ := and_e gr1
  obtain ⟨w0, w1, w2, rfl⟩ : ∃ w0 w1 w2 : Value, args = #[w0, w1, w2] := by
    have hs : args.size = 3 := by simpa [Cond.value, given_1] using hcount
    obtain ⟨L⟩ := args
    match L, hs with
    | [w0, w1, w2], _ => exact ⟨w0, w1, w2, rfl⟩
  have hw := fun d (hd : d ∈ tables_1) => atoms_spec (ws := Jvm.Cond.code x code maxLocals ret :: tables_1) hat d (List.mem_cons_of_mem _ hd)
  have hfit : Fit s := fun {y c} hc i hi => by
    obtain ⟨ha, rfl⟩ := Array.getElem?_eq_some_iff.mp hc
    have q := List.all_eq_true.mp ((Array.all_eq_true_iff_forall_mem.mp hF) _ (Array.getElem_mem ha)) i (List.mem_range.mpr hi)
    simpa [Array.getElem?_eq_getElem hi] using q
  obtain ⟨i0, ei0⟩ := isL_v ga0
  obtain rfl : w0 = (.long i0) := Option.some.inj ei0
  obtain ⟨i1, ei1⟩ := is_v ga1
  obtain rfl : w1 = (.int i1) := Option.some.inj ei1
  obtain ⟨i2, ei2⟩ := is_v ga2
  obtain rfl : w2 = (.int i2) := Option.some.inj ei2
  obtain ⟨n, o, h1, h2, h3, _, L, rfl, ⟨rfl, N⟩, hq⟩ := rm0 l s _ hw tables_1 i0 i1 i2  s.heap s.heap.size (Nat.le_refl _)  p e ha hc hk s m _ below hf ((Spec.applies_iff_loose hf).mp happ).1 ⟨rfl, State.Warmed39.refl s, rfl⟩ trivial
  refine ⟨n, _, h1, h2, h3, hpost _ _ _ _ _ _ ⟨Cond.after_iff.mpr rfl, Cond.after_iff.mpr (eq_i res_at (Term.int_eval (1)) rfl), trivial⟩ ⟨hq.1, hq.2.1, (hq.2.2.sift fun y hy => Or.inr (N y hy)).mono (by decide) (by decide)⟩⟩
theorem main_1_1 : Claimed_1_1 := comes_1 fun _ _ _ _ _ _ h hF => ⟨h.1, hF⟩
theorem main_1_2 : Claimed_1_2 := comes_1 fun _ _ _ _ _ _ h hF => ⟨h.2.1, hF⟩
end Jvm.Pilot.@@N@@
namespace Jvm.Pilot.@@N@@
open Jvm Jvm.ClassFile Sem Op Lib Jvm.Free Jvm.Stand Jvm.Pilot.@@N@@.Jvm.D
/-! MADE BY PROGRAM (witnessworld.py) out of the Statement's table words and the real class files: 9 classes; the members and pool entries that the words name. The judged class is class 1, her method 1. -/
namespace start1
open Jvm.ClassFile
def u (s : String) : CpInfo := .utf8 (stringToUtf16 s)
/-- a pool by its gaps: so many unusable entries, then the entry; so many at the end -/
def gap : Nat → List CpInfo → List CpInfo
  | 0, r => r
  | n + 1, r => .unusable :: gap n r
def poolList (es : List (Nat × CpInfo)) (last : Nat) : List CpInfo := es.foldr (fun e r => gap e.1 (e.2 :: r)) (gap last [])
def pool (es : List (Nat × CpInfo)) (last : Nat) : Array CpInfo := ⟨poolList es last⟩
def fileOf (pool : Array CpInfo) (this : Nat) (attrs : Array Attribute := #[]) (ms : Array MethodInfo := #[]) (fl : Nat := 33) (sup : Nat := 0) (ifs : Array Nat := #[]) (fds : Array FieldInfo := #[]) : ClassFile where
  minorVersion := 0
  majorVersion := 65
  constantPool := pool
  accessFlags := fl
  thisClass := this
  superClass := sup
  interfaces := ifs
  fields := fds
  methods := ms
  attributes := attrs
def plain (name : String) (sup : Option ClassId) : Class where
  name := name
  kind := .ordinary
  loader := none
  accessFlags := 33
  super := sup
  interfaces := #[]
  cf := none
  fields := #[]
  methods := #[]
  instanceTypes := #[]
  staticTypes := #[]
  resolved := #[]
  callSites := []
  init := .initialized
  statics := none
  mirror := none

def pool0 : Array CpInfo := pool [(5, u "<init>"), (0, u "()V"), (1, .class_ 10), (1, u "java/lang/Object")] 113

def k0c0 : Code := { maxStack := 0, maxLocals := 1, code := object_method_1_code, exceptionTable := #[], attributes := #[] }
def k0m0 : Method := { name := "<init>", desc := "()V", sig := { parameters := [], returnType := none }, accessFlags := 1, code := some k0c0 }
/-- java/lang/Object -/
def k0 : Class := { plain "java/lang/Object" none with
  accessFlags := 33
  interfaces := #[]
  cf := some (fileOf pool0 8 #[] #[{ accessFlags := 1, nameIndex := 5, descriptorIndex := 6, attributes := #[] }] 33 0 #[] #[])
  fields := #[]
  methods := #[k0m0]
  instanceTypes := #[]
  staticTypes := #[]
  resolved := Array.replicate 124 none
  statics := none }

def pool1 : Array CpInfo := pool [(2, .class_ 4), (1, u "java/lang/Object"), (0, u "<init>"), (0, u "()V"), (0, .integer 2147483647), (0, .class_ 9), (0, u "com/example/bytelace/bytelace/core/ByteInput"), (0, .methodref 8 11), (0, .nameAndType 5 12), (0, u "([B)V"), (0, .methodref 8 14), (0, .nameAndType 15 16), (0, u "skip"), (0, u "(JI)V"), (0, .methodref 8 18), (0, .nameAndType 19 20), (0, u "unsignedByteAt"), (0, u "(I)I"), (0, .long 255), (1, .methodref 8 24), (0, .nameAndType 25 26), (0, u "position"), (0, u "()I"), (0, .class_ 28), (0, u "com/example/bytelace/bytelace/core/ByteInputUnsignedByteAtPinLaw"), (2, u "law"), (0, u "(JII)Z")] 8

def k1m0 : Method := { name := "<init>", desc := "()V", sig := { parameters := [], returnType := none }, accessFlags := 1, code := none }
def k1c1 : Code := { maxStack := 5, maxLocals := 11, code := code, exceptionTable := #[], attributes := #[] }
def k1m1 : Method := { name := "law", desc := "(JII)Z", sig := { parameters := [.long, .int, .int], returnType := some .boolean }, accessFlags := 9, code := some k1c1 }
/-- com/example/bytelace/bytelace/core/ByteInputUnsignedByteAtPinLaw -/
def k1 : Class := { plain "com/example/bytelace/bytelace/core/ByteInputUnsignedByteAtPinLaw" (some 0) with
  accessFlags := 49
  interfaces := #[]
  cf := some (fileOf pool1 27 #[] #[{ accessFlags := 1, nameIndex := 5, descriptorIndex := 6, attributes := #[] }, { accessFlags := 9, nameIndex := 31, descriptorIndex := 32, attributes := #[] }] 49 2 #[] #[])
  fields := #[]
  methods := #[k1m0, k1m1]
  instanceTypes := #[]
  staticTypes := #[]
  resolved := Array.replicate 41 none
  statics := none }

def pool2 : Array CpInfo := pool [(1, .methodref 2 3), (0, .class_ 4), (0, .nameAndType 5 6), (0, u "java/lang/Object"), (0, u "<init>"), (0, u "()V"), (0, .fieldref 8 9), (0, .class_ 10), (0, .nameAndType 11 12), (0, u "com/example/bytelace/bytelace/core/ByteInput"), (0, u "bytes"), (0, u "[B"), (0, .fieldref 8 14), (0, .nameAndType 15 16), (0, u "position"), (0, u "I"), (0, .methodref 8 18), (0, .nameAndType 19 20), (0, u "remaining"), (0, u "()I"), (6, .methodref 8 28), (0, .nameAndType 29 30), (0, u "require"), (0, u "(JI)V"), (3, u "(I)I"), (32, u "skip"), (14, u "copy"), (31, u "([B)V"), (4, u "unsignedByteAt")] 31

def k2c0 : Code := { maxStack := 2, maxLocals := 2, code := prog_5_method_1_code, exceptionTable := #[], attributes := #[] }
def k2m0 : Method := { name := "<init>", desc := "([B)V", sig := { parameters := [(.array .byte)], returnType := none }, accessFlags := 1, code := some k2c0 }
def k2c1 : Code := { maxStack := 1, maxLocals := 1, code := prog_5_method_2_code, exceptionTable := #[], attributes := #[] }
def k2m1 : Method := { name := "position", desc := "()I", sig := { parameters := [], returnType := some .int }, accessFlags := 1, code := some k2c1 }
def k2c2 : Code := { maxStack := 2, maxLocals := 1, code := prog_5_method_3_code, exceptionTable := #[], attributes := #[] }
def k2m2 : Method := { name := "remaining", desc := "()I", sig := { parameters := [], returnType := some .int }, accessFlags := 1, code := some k2c2 }
def k2c3 : Code := { maxStack := 6, maxLocals := 4, code := prog_5_method_4_code, exceptionTable := #[], attributes := #[] }
def k2m3 : Method := { name := "require", desc := "(JI)V", sig := { parameters := [.long, .int], returnType := none }, accessFlags := 1, code := some k2c3 }
def k2c4 : Code := { maxStack := 2, maxLocals := 2, code := prog_5_method_6_code, exceptionTable := #[], attributes := #[] }
def k2m4 : Method := { name := "unsignedByteAt", desc := "(I)I", sig := { parameters := [.int], returnType := some .int }, accessFlags := 1, code := some k2c4 }
def k2c5 : Code := { maxStack := 4, maxLocals := 4, code := prog_5_method_12_code, exceptionTable := #[], attributes := #[] }
def k2m5 : Method := { name := "skip", desc := "(JI)V", sig := { parameters := [.long, .int], returnType := none }, accessFlags := 1, code := some k2c5 }
/-- com/example/bytelace/bytelace/core/ByteInput -/
def k2 : Class := { plain "com/example/bytelace/bytelace/core/ByteInput" (some 0) with
  accessFlags := 49
  interfaces := #[]
  cf := some (fileOf pool2 8 #[] #[{ accessFlags := 1, nameIndex := 5, descriptorIndex := 114, attributes := #[] }, { accessFlags := 1, nameIndex := 15, descriptorIndex := 20, attributes := #[] }, { accessFlags := 1, nameIndex := 19, descriptorIndex := 20, attributes := #[] }, { accessFlags := 1, nameIndex := 29, descriptorIndex := 30, attributes := #[] }, { accessFlags := 1, nameIndex := 119, descriptorIndex := 34, attributes := #[] }, { accessFlags := 1, nameIndex := 67, descriptorIndex := 30, attributes := #[] }] 49 2 #[] #[{ accessFlags := 18, nameIndex := 11, descriptorIndex := 12, attributes := #[] }, { accessFlags := 2, nameIndex := 82, descriptorIndex := 12, attributes := #[] }, { accessFlags := 2, nameIndex := 15, descriptorIndex := 16, attributes := #[] }])
  fields := #[{ name := "bytes", type := (.array .byte), accessFlags := 18, slot := 0, constantValue := 0 }, { name := "copy", type := (.array .byte), accessFlags := 2, slot := 1, constantValue := 0 }, { name := "position", type := .int, accessFlags := 2, slot := 2, constantValue := 0 }]
  methods := #[k2m0, k2m1, k2m2, k2m3, k2m4, k2m5]
  instanceTypes := #[(.array .byte), (.array .byte), .int]
  staticTypes := #[]
  resolved := Array.replicate 151 none
  statics := none }

def pool3 : Array CpInfo := pool [(1, u "java/lang/Cloneable"), (0, .class_ 1), (0, u "java/lang/Object"), (0, .class_ 3)] 3

/-- java/lang/Cloneable -/
def k3 : Class := { plain "java/lang/Cloneable" (some 0) with
  accessFlags := 1537
  interfaces := #[]
  cf := some (fileOf pool3 2 #[] #[] 1537 4 #[] #[])
  fields := #[]
  methods := #[]
  instanceTypes := #[]
  staticTypes := #[]
  resolved := Array.replicate 8 none
  statics := none }

def pool4 : Array CpInfo := pool [(1, u "java/io/Serializable"), (0, .class_ 1), (0, u "java/lang/Object"), (0, .class_ 3)] 3

/-- java/io/Serializable -/
def k4 : Class := { plain "java/io/Serializable" (some 0) with
  accessFlags := 1537
  interfaces := #[]
  cf := some (fileOf pool4 2 #[] #[] 1537 4 #[] #[])
  fields := #[]
  methods := #[]
  instanceTypes := #[]
  staticTypes := #[]
  resolved := Array.replicate 8 none
  statics := none }

/-- the primitive byte -/
def k5 : Class := { plain "byte" none with kind := .primitive 'B', accessFlags := 0x411 }
/-- [B -/
def k6 : Class := { plain "[B" (some 0) with kind := .array 5 .byte, interfaces := #[3, 4], accessFlags := 1041 }

/-- the primitive int -/
def k7 : Class := { plain "int" none with kind := .primitive 'I', accessFlags := 0x411 }
/-- [I -/
def k8 : Class := { plain "[I" (some 0) with kind := .array 7 .int, interfaces := #[3, 4], accessFlags := 1041 }

def heap : Heap := #[]
def classes : Array Class := #[k0, k1, k2, k3, k4, k5, k6, k7, k8]
def interned : List (Array UInt16 × Addr) := []
def slotsUsed : Nat := 0
def theMethod : MethodId := ⟨1, 1⟩
def args0 : Array Value := #[.long 5, .int 7, .int 1]
def aboutOver (below : List Frame) : State where
  vm := { classes := classes, interned := interned.toArray }
  heap := heap
  slotsUsed := slotsUsed
  threads := #[{ frames := .invoking theMethod args0 :: below }]
def below0 : List Frame := [.native { method := ⟨0, 0⟩, args := #[] }]
def about1 : State := aboutOver below0
def p0 : Program := .bare "" "" ""
def e0 : Env := launch0.env 0 0 0
theorem w_frames : about1.frames = Frame.invoking theMethod args0 :: below0 := rfl
set_option maxRecDepth 65536 in
theorem w_args : argsFit about1.vm theMethod args0 = true := by decide +kernel
set_option maxRecDepth 65536 in
theorem w_heap : heapFits about1 = true := by decide +kernel
set_option maxRecDepth 65536 in
theorem w_runnable : about1.curStatus? = some .runnable := by decide +kernel
set_option maxRecDepth 65536 in
theorem w_alone : about1.alone = true := by decide +kernel
set_option maxRecDepth 65536 in
theorem w_named : about1.methodNamed? x = some theMethod := by decide +kernel
set_option maxRecDepth 65536 in
theorem w_hears : about1.hears theMethod below0 = true := by decide +kernel
set_option maxRecDepth 65536 in
theorem w_ripe : about1.ripe theMethod args0 below0 = true := by decide +kernel
theorem w_running : about1.status = .running := rfl
set_option maxRecDepth 65536 in
theorem w_room : about1.hasRoom e0.platform room_1 = true :=
  launch0.hasRoom_least _ room_1 (by decide +kernel) (by decide +kernel) (by decide +kernel) (by decide +kernel) (by decide +kernel) (by decide +kernel)
theorem allAtoms_all (ts : List Jvm.Cond) (a : Array Jvm.Value) (st : Jvm.State) : (allAtoms ts).before a st = ts.all (fun c => c.before a st) := by
  induction ts with
  | nil => rfl
  | cons c t ih =>
    show (Jvm.Cond.and c (allAtoms t)).before a st = _
    rw [Jvm.Cond.before_and, ih, List.all_cons]
def words1 : List Jvm.Cond := Jvm.Cond.code x code maxLocals ret :: tables_1
/-- a 'code' word, met by the world's own term for the bytes: nothing is compared byte by byte -/
theorem code_word {y : MethodName} {bytes : ByteArray} {mx : Nat} {rt : Option FieldType} {a : Array Value} {s : State} {m : MethodId} {meth : Method} {c : Code} (h1 : s.methodNamed? y = some m) (h2 : s.vm.method? m = some meth) (h3 : meth.code = some c) (h4 : c.code = bytes)
    (h5 : (c.maxLocals == mx && c.exceptionTable.isEmpty && decide (c.maxStack ≤ mostOperands) && decide (meth.sig.returnType = rt) && !meth.locks && decide (parseMethodDescriptor y.desc = some meth.sig)) = true) : (Jvm.Cond.code y bytes mx rt).before a s = true := by
  simp only [Bool.and_eq_true, beq_iff_eq, Bool.not_eq_true', decide_eq_true_eq] at h5
  obtain ⟨⟨⟨⟨⟨g1, g2⟩, g3⟩, g4⟩, g5⟩, g6⟩ := h5
  simp [Cond.before, Cond.holds, Cond.value, h1, h2, h3, h4, g1, g2, g3, g4, g5, g6]
def isCode : Jvm.Cond → Bool
  | .code _ _ _ _ => true
  | _ => false
theorem all_split {L : List Jvm.Cond} {P : Jvm.Cond → Bool} (h1 : L.all (fun c => isCode c || P c) = true) (h2 : ∀ c ∈ L.filter isCode, P c = true) : L.all P = true := by
  refine List.all_eq_true.mpr fun c hc => ?_
  have h := List.all_eq_true.mp h1 c hc
  rcases Bool.eq_false_or_eq_true (isCode c) with hi | hi
  · exact h2 c (List.mem_filter.mpr ⟨hc, hi⟩)
  · simpa [hi] using h
set_option maxRecDepth 65536 in
theorem w_c0 : (Jvm.Cond.code x code maxLocals ret).before args0 about1 = true := code_word (m := ⟨1, 1⟩) (meth := k1m1) (c := k1c1) (by decide +kernel) rfl rfl rfl (by decide +kernel)
set_option maxRecDepth 65536 in
theorem w_c1 : (Jvm.Cond.code ({ cls := "com/example/bytelace/bytelace/core/ByteInput", name := "<init>", desc := "([B)V" } : Jvm.MethodName) prog_5_method_1_code (2 : Nat) (Option.none : Option Jvm.ClassFile.FieldType)).before args0 about1 = true := code_word (m := ⟨2, 0⟩) (meth := k2m0) (c := k2c0) (by decide +kernel) rfl rfl rfl (by decide +kernel)
set_option maxRecDepth 65536 in
theorem w_c2 : (Jvm.Cond.code ({ cls := "java/lang/Object", name := "<init>", desc := "()V" } : Jvm.MethodName) object_method_1_code (1 : Nat) (Option.none : Option Jvm.ClassFile.FieldType)).before args0 about1 = true := code_word (m := ⟨0, 0⟩) (meth := k0m0) (c := k0c0) (by decide +kernel) rfl rfl rfl (by decide +kernel)
set_option maxRecDepth 65536 in
theorem w_c3 : (Jvm.Cond.code ({ cls := "com/example/bytelace/bytelace/core/ByteInput", name := "skip", desc := "(JI)V" } : Jvm.MethodName) prog_5_method_12_code (4 : Nat) (Option.none : Option Jvm.ClassFile.FieldType)).before args0 about1 = true := code_word (m := ⟨2, 5⟩) (meth := k2m5) (c := k2c5) (by decide +kernel) rfl rfl rfl (by decide +kernel)
set_option maxRecDepth 65536 in
theorem w_c4 : (Jvm.Cond.code ({ cls := "com/example/bytelace/bytelace/core/ByteInput", name := "require", desc := "(JI)V" } : Jvm.MethodName) prog_5_method_4_code (4 : Nat) (Option.none : Option Jvm.ClassFile.FieldType)).before args0 about1 = true := code_word (m := ⟨2, 3⟩) (meth := k2m3) (c := k2c3) (by decide +kernel) rfl rfl rfl (by decide +kernel)
set_option maxRecDepth 65536 in
theorem w_c5 : (Jvm.Cond.code ({ cls := "com/example/bytelace/bytelace/core/ByteInput", name := "remaining", desc := "()I" } : Jvm.MethodName) prog_5_method_3_code (1 : Nat) (Option.some Jvm.ClassFile.FieldType.int)).before args0 about1 = true := code_word (m := ⟨2, 2⟩) (meth := k2m2) (c := k2c2) (by decide +kernel) rfl rfl rfl (by decide +kernel)
set_option maxRecDepth 65536 in
theorem w_c6 : (Jvm.Cond.code ({ cls := "com/example/bytelace/bytelace/core/ByteInput", name := "unsignedByteAt", desc := "(I)I" } : Jvm.MethodName) prog_5_method_6_code (2 : Nat) (Option.some Jvm.ClassFile.FieldType.int)).before args0 about1 = true := code_word (m := ⟨2, 4⟩) (meth := k2m4) (c := k2c4) (by decide +kernel) rfl rfl rfl (by decide +kernel)
set_option maxRecDepth 65536 in
theorem w_c7 : (Jvm.Cond.code ({ cls := "com/example/bytelace/bytelace/core/ByteInput", name := "position", desc := "()I" } : Jvm.MethodName) prog_5_method_2_code (1 : Nat) (Option.some Jvm.ClassFile.FieldType.int)).before args0 about1 = true := code_word (m := ⟨2, 1⟩) (meth := k2m1) (c := k2c1) (by decide +kernel) rfl rfl rfl (by decide +kernel)
def codes1 : List Jvm.Cond := [Jvm.Cond.code x code maxLocals ret, Jvm.Cond.code ({ cls := "com/example/bytelace/bytelace/core/ByteInput", name := "<init>", desc := "([B)V" } : Jvm.MethodName) prog_5_method_1_code (2 : Nat) (Option.none : Option Jvm.ClassFile.FieldType), Jvm.Cond.code ({ cls := "java/lang/Object", name := "<init>", desc := "()V" } : Jvm.MethodName) object_method_1_code (1 : Nat) (Option.none : Option Jvm.ClassFile.FieldType), Jvm.Cond.code ({ cls := "com/example/bytelace/bytelace/core/ByteInput", name := "skip", desc := "(JI)V" } : Jvm.MethodName) prog_5_method_12_code (4 : Nat) (Option.none : Option Jvm.ClassFile.FieldType), Jvm.Cond.code ({ cls := "com/example/bytelace/bytelace/core/ByteInput", name := "require", desc := "(JI)V" } : Jvm.MethodName) prog_5_method_4_code (4 : Nat) (Option.none : Option Jvm.ClassFile.FieldType), Jvm.Cond.code ({ cls := "com/example/bytelace/bytelace/core/ByteInput", name := "remaining", desc := "()I" } : Jvm.MethodName) prog_5_method_3_code (1 : Nat) (Option.some Jvm.ClassFile.FieldType.int), Jvm.Cond.code ({ cls := "com/example/bytelace/bytelace/core/ByteInput", name := "unsignedByteAt", desc := "(I)I" } : Jvm.MethodName) prog_5_method_6_code (2 : Nat) (Option.some Jvm.ClassFile.FieldType.int), Jvm.Cond.code ({ cls := "com/example/bytelace/bytelace/core/ByteInput", name := "position", desc := "()I" } : Jvm.MethodName) prog_5_method_2_code (1 : Nat) (Option.some Jvm.ClassFile.FieldType.int)]
set_option maxRecDepth 65536 in
theorem codes_eq : words1.filter isCode = codes1 := rfl
theorem w_codes : ∀ c ∈ words1.filter isCode, c.before args0 about1 = true := by
  rw [codes_eq]
  intro c hc
  simp only [codes1, List.mem_cons, List.not_mem_nil, or_false] at hc
  rcases hc with rfl | rfl | rfl | rfl | rfl | rfl | rfl | rfl
  · exact w_c0
  · exact w_c1
  · exact w_c2
  · exact w_c3
  · exact w_c4
  · exact w_c5
  · exact w_c6
  · exact w_c7
set_option maxRecDepth 65536 in
theorem w_t1 : (words1.take 24).all (fun c => isCode c || c.before args0 about1) = true := by decide +kernel
set_option maxRecDepth 65536 in
theorem w_t2 : (words1.drop 24).all (fun c => isCode c || c.before args0 about1) = true := by decide +kernel
theorem w_tables : (allAtoms (Jvm.Cond.code x code maxLocals ret :: tables_1)).before args0 about1 = true := by
  rw [allAtoms_all]
  show words1.all (fun c => c.before args0 about1) = true
  refine all_split ?_ w_codes
  rw [← List.take_append_drop 24 words1, List.all_append, w_t1, w_t2]
  rfl
set_option maxRecDepth 65536 in
theorem w_case : (Jvm.Cond.and given_1 narrow_1).before args0 about1 = true := by decide +kernel
theorem w_applies : (headSpec (Jvm.Cond.code x code maxLocals ret :: tables_1) room_1).applies x e0.platform about1 = true :=
  (Spec.applies_iff w_frames).mpr ⟨w_running, w_runnable, w_alone, w_named, w_hears, w_ripe, w_room, w_tables⟩
theorem atStart : AtStart classFile x code maxLocals ret World_1 tables_1 room_1 Calls_1 rest_1 Pre_1 launch0 p0 e0 about1 theMethod args0 below0 :=
  ⟨lists_1, trivial, launch0.admits_env _ _ _, launch0.least_env, fairChoices_fair.cas, fairChoices_fair.clock, w_frames, w_args, w_heap, w_applies, trivial, trivial, w_case⟩
end start1
theorem witness_1 : WitnessClaimed_1 := ⟨start1.p0, start1.e0, start1.about1, start1.theMethod, start1.args0, start1.below0, start1.atStart⟩
end Jvm.Pilot.@@N@@
