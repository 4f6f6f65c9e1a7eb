import JvmDerived
import JvmDerived.Pilot.@@N@@Statement
import JvmDerived.Pilot.@@N@@Code
set_option linter.unusedVariables false
set_option linter.unusedSimpArgs false
namespace Jvm.Pilot.@@N@@
open Jvm Jvm.ClassFile Sem Op Lib Jvm.Free Jvm.Stand Jvm.LawKit Jvm.RoadKit Bundle Jvm.Pilot.@@N@@.Jvm.D
def own_A (Z : State) (h : Heap) (a : Addr) (ty : FieldType) (n : Int32) (f : Nat → Int32) : Prop := ∃ c : Cell, Arr Z h a c ty ∧ c.slots.size = n.toNatClampNeg ∧ ¬ n < 0 ∧ ∀ j, j < n.toNatClampNeg → c.slots[j]? = some (.int (f j))
def own_upd (f : Nat → Int32) (i : Nat) (x : Int32) : Nat → Int32 := fun j => if j = i then x else f j
theorem own_A.ext {Z : State} {h h' : Heap} {a : Addr} {ty : FieldType} {n : Int32} {f : Nat → Int32} (V : own_A Z h a ty n f) (E : Ext h h') : own_A Z h' a ty n f := by obtain ⟨c, A, r⟩ := V; exact ⟨c, A.ext E, r⟩
theorem own_A.other {Z : State} {h h' : Heap} {a b : Addr} {sl : Nat} {v : Value} {ty : FieldType} {n : Int32} {f : Nat → Int32} (V : own_A Z h b ty n f) (W : Wr h h' a sl v) (q : b ≠ a) : own_A Z h' b ty n f := by obtain ⟨c, A, r⟩ := V; exact ⟨c, A.other W q, r⟩
theorem own_A.keep {Z : State} {h h' : Heap} {a : Addr} {ws : List Addr} {ty : FieldType} {n : Int32} {f : Nat → Int32} (V : own_A Z h a ty n f) (K : Keep h h' ws) (q : a ∉ ws) : own_A Z h' a ty n f := by obtain ⟨c, A, r⟩ := V; exact ⟨c, ⟨K.2.1 a c A.1 q, A.2⟩, r⟩
theorem own_A.lt {Z : State} {h : Heap} {a : Addr} {ty : FieldType} {n : Int32} {f : Nat → Int32} (V : own_A Z h a ty n f) : a < h.size := by obtain ⟨c, A, -⟩ := V; exact A.lt
theorem own_A.new {Z : State} {h : Heap} {a : Addr} {k : ClassId} {ty : FieldType} {n : Int32} (A : Arr Z h a (newA k ty n) ty) (q : ¬ n < 0) (hd : defaultValue ty = .int 0) : own_A Z h a ty n (fun _ => 0) := by
  obtain ⟨c, A1, -, S, M, H, -⟩ := Arv.new A q
  refine ⟨c, A1, S, M, fun j hj => ?_⟩
  have w := H j (by rw [S]; exact hj)
  rw [hd] at w; simpa using w
theorem own_A.set {Z : State} {h h' : Heap} {a : Addr} {c : Cell} {ty : FieldType} {n : Int32} {f : Nat → Int32} {i : Nat} {x : Int32} (A : Arr Z h a c ty) (S : c.slots.size = n.toNatClampNeg) (M : ¬ n < 0) (H : ∀ j, j < n.toNatClampNeg → c.slots[j]? = some (.int (f j))) (W : Wr h h' a i (.int x)) : own_A Z h' a ty n (own_upd f i x) := by
  refine ⟨c.setSlot i (.int x), A.same W, by rw [sz_set]; exact S, M, fun j hj => ?_⟩
  show (c.slots.setIfInBounds i (.int x))[j]? = _
  rw [Array.getElem?_setIfInBounds]
  by_cases e : i = j
  · subst e; simp [own_upd, S, hj]
  · rw [if_neg e, H j hj, own_upd, if_neg (Ne.symm e)]
theorem own_A.at {c : Cell} {n j : Int32} {f : Nat → Int32} (S : c.slots.size = n.toNatClampNeg) (H : ∀ j, j < n.toNatClampNeg → c.slots[j]? = some (.int (f j))) (q : ¬ (j < 0 ∨ c.slots.size ≤ j.toNatClampNeg)) : c.slots[j.toNatClampNeg]? = some (.int (f j.toNatClampNeg)) := H _ (by rw [← S]; exact Nat.lt_of_not_le fun y => q (Or.inr y))
def own_text (c' : Int32) : Int32 := (if c' = (9 : Int32) then (1 : Int32) else (if c' = (10 : Int32) then (1 : Int32) else (if c' = (13 : Int32) then (1 : Int32) else (if c' < (32 : Int32) then (if c' < (57344 : Int32) then (if c' < (65536 : Int32) then (0 : Int32) else (if (1114111 : Int32) < c' then (0 : Int32) else (1 : Int32))) else (if (65533 : Int32) < c' then (if c' < (65536 : Int32) then (0 : Int32) else (if (1114111 : Int32) < c' then (0 : Int32) else (1 : Int32))) else (1 : Int32))) else (if (55295 : Int32) < c' then (if c' < (57344 : Int32) then (if c' < (65536 : Int32) then (0 : Int32) else (if (1114111 : Int32) < c' then (0 : Int32) else (1 : Int32))) else (if (65533 : Int32) < c' then (if c' < (65536 : Int32) then (0 : Int32) else (if (1114111 : Int32) < c' then (0 : Int32) else (1 : Int32))) else (1 : Int32))) else (1 : Int32))))))
def own_exp (c' : Int32) : Int32 := (if c' < (0 : Int32) then (0 : Int32) else (if (1114111 : Int32) < c' then (0 : Int32) else (if c' < (32 : Int32) then (if c' = (9 : Int32) then (if c' < (55296 : Int32) then (if c' = (65534 : Int32) then (0 : Int32) else (if c' = (65535 : Int32) then (0 : Int32) else (1 : Int32))) else (if (57343 : Int32) < c' then (if c' = (65534 : Int32) then (0 : Int32) else (if c' = (65535 : Int32) then (0 : Int32) else (1 : Int32))) else (0 : Int32))) else (if c' = (10 : Int32) then (if c' < (55296 : Int32) then (if c' = (65534 : Int32) then (0 : Int32) else (if c' = (65535 : Int32) then (0 : Int32) else (1 : Int32))) else (if (57343 : Int32) < c' then (if c' = (65534 : Int32) then (0 : Int32) else (if c' = (65535 : Int32) then (0 : Int32) else (1 : Int32))) else (0 : Int32))) else (if c' = (13 : Int32) then (if c' < (55296 : Int32) then (if c' = (65534 : Int32) then (0 : Int32) else (if c' = (65535 : Int32) then (0 : Int32) else (1 : Int32))) else (if (57343 : Int32) < c' then (if c' = (65534 : Int32) then (0 : Int32) else (if c' = (65535 : Int32) then (0 : Int32) else (1 : Int32))) else (0 : Int32))) else (0 : Int32)))) else (if c' < (55296 : Int32) then (if c' = (65534 : Int32) then (0 : Int32) else (if c' = (65535 : Int32) then (0 : Int32) else (1 : Int32))) else (if (57343 : Int32) < c' then (if c' = (65534 : Int32) then (0 : Int32) else (if c' = (65535 : Int32) then (0 : Int32) else (1 : Int32))) else (0 : Int32))))))
theorem own_h (c : Int32) : own_text c = own_exp c := by
  unfold own_text own_exp
  repeat' split
  all_goals first | rfl | (exfalso; simp only [Int32.lt_iff_toInt_lt, ← Int32.toInt_inj, Int32.reduceToInt] at *; omega)
theorem own_i (x : Int32) : ¬ ((x &&& (2147483647 : Int32)) % (18 : Int32)) < 0 ∧ ((x &&& (2147483647 : Int32)) % (18 : Int32)) < 18 := by
  have a := c_mask x 2147483647 31 (by decide) (by decide)
  have b := (c_irem (x &&& 2147483647) 18 18 rfl).1 (by rw [a]; omega)
  rw [Int32.lt_iff_toInt_lt, Int32.lt_iff_toInt_lt, show (0 : Int32).toInt = 0 from rfl, show (18 : Int32).toInt = 18 from rfl]; omega
theorem d1_0 : decode prog_74_method_6_code 0 = .ok (.iload_n 0, 1) := by decide +kernel
theorem d1_1 : decode prog_74_method_6_code 1 = .ok (.bipush 9, 2) := by decide +kernel
theorem d1_3 : decode prog_74_method_6_code 3 = .ok (.if_icmp .eq 51, 3) := by decide +kernel
theorem d1_6 : decode prog_74_method_6_code 6 = .ok (.iload_n 0, 1) := by decide +kernel
theorem d1_7 : decode prog_74_method_6_code 7 = .ok (.bipush 10, 2) := by decide +kernel
theorem d1_9 : decode prog_74_method_6_code 9 = .ok (.if_icmp .eq 45, 3) := by decide +kernel
theorem d1_12 : decode prog_74_method_6_code 12 = .ok (.iload_n 0, 1) := by decide +kernel
theorem d1_13 : decode prog_74_method_6_code 13 = .ok (.bipush 13, 2) := by decide +kernel
theorem d1_15 : decode prog_74_method_6_code 15 = .ok (.if_icmp .eq 39, 3) := by decide +kernel
theorem d1_18 : decode prog_74_method_6_code 18 = .ok (.iload_n 0, 1) := by decide +kernel
theorem d1_19 : decode prog_74_method_6_code 19 = .ok (.bipush 32, 2) := by decide +kernel
theorem d1_21 : decode prog_74_method_6_code 21 = .ok (.if_icmp .lt 9, 3) := by decide +kernel
theorem d1_24 : decode prog_74_method_6_code 24 = .ok (.iload_n 0, 1) := by decide +kernel
theorem d1_25 : decode prog_74_method_6_code 25 = .ok (.ldc 62, 2) := by decide +kernel
theorem d1_27 : decode prog_74_method_6_code 27 = .ok (.if_icmp .le 27, 3) := by decide +kernel
theorem d1_30 : decode prog_74_method_6_code 30 = .ok (.iload_n 0, 1) := by decide +kernel
theorem d1_31 : decode prog_74_method_6_code 31 = .ok (.ldc 63, 2) := by decide +kernel
theorem d1_33 : decode prog_74_method_6_code 33 = .ok (.if_icmp .lt 9, 3) := by decide +kernel
theorem d1_36 : decode prog_74_method_6_code 36 = .ok (.iload_n 0, 1) := by decide +kernel
theorem d1_37 : decode prog_74_method_6_code 37 = .ok (.ldc 64, 2) := by decide +kernel
theorem d1_39 : decode prog_74_method_6_code 39 = .ok (.if_icmp .le 15, 3) := by decide +kernel
theorem d1_42 : decode prog_74_method_6_code 42 = .ok (.iload_n 0, 1) := by decide +kernel
theorem d1_43 : decode prog_74_method_6_code 43 = .ok (.ldc 65, 2) := by decide +kernel
theorem d1_45 : decode prog_74_method_6_code 45 = .ok (.if_icmp .lt 13, 3) := by decide +kernel
theorem d1_48 : decode prog_74_method_6_code 48 = .ok (.iload_n 0, 1) := by decide +kernel
theorem d1_49 : decode prog_74_method_6_code 49 = .ok (.ldc 68, 2) := by decide +kernel
theorem d1_51 : decode prog_74_method_6_code 51 = .ok (.if_icmp .gt 7, 3) := by decide +kernel
theorem d1_54 : decode prog_74_method_6_code 54 = .ok (.iconst 1, 1) := by decide +kernel
theorem d1_55 : decode prog_74_method_6_code 55 = .ok (.goto 4, 3) := by decide +kernel
theorem d1_58 : decode prog_74_method_6_code 58 = .ok (.iconst 0, 1) := by decide +kernel
theorem d1_59 : decode prog_74_method_6_code 59 = .ok (.ireturn, 1) := by decide +kernel
theorem pn_1 : plainName "com/example/ledgermatch/ledgermatch/model/Identifiers" = true := by first | (simp [plainName, overriddenIn]; done) | decide +kernel
theorem ef_1 (m : MethodId) (x0 : Int32) : entryFrame m #[(.int x0)] 1 = mkF m 0 #[.val (.int x0)] [] := by first | (simp [entryFrame, mkF, argsToLocals, Value.category]; done) | rfl
def Q1 (Z : State) (c' : Int32) (h0 : Heap) (n0 : Nat) (v : Option Value) (h : Heap) (L : List Loc) : Prop := v = some (.int (own_text c')) ∧ Fr n0 L ∧ h = h0
set_option maxRecDepth 65536 in
set_option maxHeartbeats 40000000 in
theorem rm1 (l : Launch) (Z : State) (a0 : Array Value) (hw : ∀ d ∈ tables_1, d.before a0 Z = true) (ws : List Jvm.Cond) (c' : Int32) (h0 : Heap) (n0 : Nat) (Z0 : n0 ≤ h0.size)  :
    MetFree l (⟨"com/example/ledgermatch/ledgermatch/model/Identifiers", "isTextCharacter", "(I)Z"⟩ : MethodName) (head1 (Jvm.Cond.code (⟨"com/example/ledgermatch/ledgermatch/model/Identifiers", "isTextCharacter", "(I)Z"⟩ : MethodName) prog_74_method_6_code 1 (some .boolean) :: ws) ({ frames := 0, cells := 0, slots := 0, locals := 0 } : Room)) (fun ar U => ar = #[(.int c')] ∧ Z.Warmed39 U.vm ∧ U.heap = h0) (fun _ _ _ _ _ => True) (fun _ U o U' => ∃ v L, o = .returned v ∧ Q1 Z c' h0 n0 v U'.heap L ∧ FrameEnd U o U' L ({ frames := 0, cells := 0, slots := 0, locals := 0 } : Room).cells ({ frames := 0, cells := 0, slots := 0, locals := 0 } : Room).slots) := by
  refine MetFree.of_bodySF (plainFor_of_name pn_1) hisR ?_
  intro p e s m args below meth c s₁ Bd hml0 hP hK
  obtain ⟨rfl, hZ, hh⟩ := hP
  have hx := Bd.exec
  have hby := Bd.bytes
  have hml : c.maxLocals = 1 := hml0
  have hown : s.vm.findClass "com/example/ledgermatch/ledgermatch/model/Identifiers" = some m.cls := findClass_of_methodNamed Bd.named
  have hnm := (name_of_methodNamed Bd.named Bd.method).1
  have X0 : Stand p l e ({ frames := 0, cells := 0, slots := 0, locals := 0 } : Room) s m #[(.int c')] below meth c s₁ [] 0 0 := Stand.of_body Bd
  have e0 : s₁.heap = h0 := by rw [← hh, Bd.state]; rfl
  have N0 := Fr.nil n0
  have K0 : Keep h0 h0 [] := Keep.refl h0 _
  have pre0 : ∀ t, Steps p.tables e below (s₁.setTop (mkF m 0 #[.val (.int c')] [])) t → Steps p.tables e below (s₁.setTop (entryFrame m #[(.int c')] 1)) t := fun t k => castTop (ef_1 m c') k
  have pre1 : ∀ t, Steps p.tables e below (s₁.setTop (mkF m 3 #[.val (.int c')] [(.int (9 : Int32)), (.int c')])) t → Steps p.tables e below (s₁.setTop (entryFrame m #[(.int c')] 1)) t := by
    intro t kt
    refine pre0 t ?_
    show Steps p.tables e below (s₁.setTop (mkF m 0 #[.val (.int c')] [])) _
    refine XS.iloadN X0.here hx rfl (hb hby d1_0) rfl ?_
    show Steps p.tables e below (s₁.setTop (mkF m 1 #[.val (.int c')] [(.int c')])) _
    refine XS.bipush X0.here hx rfl (hb hby d1_1) ?_
    exact kt
  by_cases hc3_2 : c' = (9 : Int32)
  · obtain ⟨fs, hr, hrun, hended, hW, hsame⟩ := X0.leave (v := some (.int (1 : Int32))) (fun h => by rw [Bd.returns] at h; cases h)
    refine ⟨_, _, pre1 _ ?_, hrun, hended, _, _, rfl, ?_, ⟨_, rfl⟩, hW, hsame.mono (by decide) (by decide)⟩
    · show Steps p.tables e below (s₁.setTop (mkF m 3 #[.val (.int c')] [(.int (9 : Int32)), (.int c')])) _
      refine XS.icmpYes X0.here hx rfl (pc0 := 3) (pc' := 54) rfl (hb hby d1_3) rfl (teq hc3_2).1 (by decide) (by decide) ?_
      show Steps p.tables e below (s₁.setTop (mkF m 54 #[.val (.int c')] [])) _
      refine XS.iconst X0.here hx rfl (hb hby d1_54) ?_
      show Steps p.tables e below (s₁.setTop (mkF m 55 #[.val (.int c')] [(.int (1 : Int32))])) _
      refine XS.goto X0.here hx rfl (pc0 := 55) (pc' := 59) rfl (hb hby d1_55) (by decide) (by decide) ?_
      show Steps p.tables e below (s₁.setTop (mkF m 59 #[.val (.int c')] [(.int (1 : Int32))])) _
      exact retN X0 hx (t := .boolean) Bd.returns (by simp) (hb hby d1_59) hr
    · show Q1 Z c' h0 n0 _ s₁.heap _
      rw [e0]
      exact ⟨by rw [own_text, if_pos hc3_2], N0, rfl⟩
  · have pre3 : ∀ t, Steps p.tables e below (s₁.setTop (mkF m 9 #[.val (.int c')] [(.int (10 : Int32)), (.int c')])) t → Steps p.tables e below (s₁.setTop (entryFrame m #[(.int c')] 1)) t := by
      intro t kt
      refine pre1 t ?_
      show Steps p.tables e below (s₁.setTop (mkF m 3 #[.val (.int c')] [(.int (9 : Int32)), (.int c')])) _
      refine XS.icmpNo X0.here hx rfl (hb hby d1_3) rfl (feq hc3_2).1 ?_
      show Steps p.tables e below (s₁.setTop (mkF m 6 #[.val (.int c')] [])) _
      refine XS.iloadN X0.here hx rfl (hb hby d1_6) rfl ?_
      show Steps p.tables e below (s₁.setTop (mkF m 7 #[.val (.int c')] [(.int c')])) _
      refine XS.bipush X0.here hx rfl (hb hby d1_7) ?_
      exact kt
    by_cases hc9_4 : c' = (10 : Int32)
    · obtain ⟨fs, hr, hrun, hended, hW, hsame⟩ := X0.leave (v := some (.int (1 : Int32))) (fun h => by rw [Bd.returns] at h; cases h)
      refine ⟨_, _, pre3 _ ?_, hrun, hended, _, _, rfl, ?_, ⟨_, rfl⟩, hW, hsame.mono (by decide) (by decide)⟩
      · show Steps p.tables e below (s₁.setTop (mkF m 9 #[.val (.int c')] [(.int (10 : Int32)), (.int c')])) _
        refine XS.icmpYes X0.here hx rfl (pc0 := 9) (pc' := 54) rfl (hb hby d1_9) rfl (teq hc9_4).1 (by decide) (by decide) ?_
        show Steps p.tables e below (s₁.setTop (mkF m 54 #[.val (.int c')] [])) _
        refine XS.iconst X0.here hx rfl (hb hby d1_54) ?_
        show Steps p.tables e below (s₁.setTop (mkF m 55 #[.val (.int c')] [(.int (1 : Int32))])) _
        refine XS.goto X0.here hx rfl (pc0 := 55) (pc' := 59) rfl (hb hby d1_55) (by decide) (by decide) ?_
        show Steps p.tables e below (s₁.setTop (mkF m 59 #[.val (.int c')] [(.int (1 : Int32))])) _
        exact retN X0 hx (t := .boolean) Bd.returns (by simp) (hb hby d1_59) hr
      · show Q1 Z c' h0 n0 _ s₁.heap _
        rw [e0]
        exact ⟨by rw [own_text, if_neg hc3_2, if_pos hc9_4], N0, rfl⟩
    · have pre5 : ∀ t, Steps p.tables e below (s₁.setTop (mkF m 15 #[.val (.int c')] [(.int (13 : Int32)), (.int c')])) t → Steps p.tables e below (s₁.setTop (entryFrame m #[(.int c')] 1)) t := by
        intro t kt
        refine pre3 t ?_
        show Steps p.tables e below (s₁.setTop (mkF m 9 #[.val (.int c')] [(.int (10 : Int32)), (.int c')])) _
        refine XS.icmpNo X0.here hx rfl (hb hby d1_9) rfl (feq hc9_4).1 ?_
        show Steps p.tables e below (s₁.setTop (mkF m 12 #[.val (.int c')] [])) _
        refine XS.iloadN X0.here hx rfl (hb hby d1_12) rfl ?_
        show Steps p.tables e below (s₁.setTop (mkF m 13 #[.val (.int c')] [(.int c')])) _
        refine XS.bipush X0.here hx rfl (hb hby d1_13) ?_
        exact kt
      by_cases hc15_6 : c' = (13 : Int32)
      · obtain ⟨fs, hr, hrun, hended, hW, hsame⟩ := X0.leave (v := some (.int (1 : Int32))) (fun h => by rw [Bd.returns] at h; cases h)
        refine ⟨_, _, pre5 _ ?_, hrun, hended, _, _, rfl, ?_, ⟨_, rfl⟩, hW, hsame.mono (by decide) (by decide)⟩
        · show Steps p.tables e below (s₁.setTop (mkF m 15 #[.val (.int c')] [(.int (13 : Int32)), (.int c')])) _
          refine XS.icmpYes X0.here hx rfl (pc0 := 15) (pc' := 54) rfl (hb hby d1_15) rfl (teq hc15_6).1 (by decide) (by decide) ?_
          show Steps p.tables e below (s₁.setTop (mkF m 54 #[.val (.int c')] [])) _
          refine XS.iconst X0.here hx rfl (hb hby d1_54) ?_
          show Steps p.tables e below (s₁.setTop (mkF m 55 #[.val (.int c')] [(.int (1 : Int32))])) _
          refine XS.goto X0.here hx rfl (pc0 := 55) (pc' := 59) rfl (hb hby d1_55) (by decide) (by decide) ?_
          show Steps p.tables e below (s₁.setTop (mkF m 59 #[.val (.int c')] [(.int (1 : Int32))])) _
          exact retN X0 hx (t := .boolean) Bd.returns (by simp) (hb hby d1_59) hr
        · show Q1 Z c' h0 n0 _ s₁.heap _
          rw [e0]
          exact ⟨by rw [own_text, if_neg hc3_2, if_neg hc9_4, if_pos hc15_6], N0, rfl⟩
      · have pre7 : ∀ t, Steps p.tables e below (s₁.setTop (mkF m 21 #[.val (.int c')] [(.int (32 : Int32)), (.int c')])) t → Steps p.tables e below (s₁.setTop (entryFrame m #[(.int c')] 1)) t := by
          intro t kt
          refine pre5 t ?_
          show Steps p.tables e below (s₁.setTop (mkF m 15 #[.val (.int c')] [(.int (13 : Int32)), (.int c')])) _
          refine XS.icmpNo X0.here hx rfl (hb hby d1_15) rfl (feq hc15_6).1 ?_
          show Steps p.tables e below (s₁.setTop (mkF m 18 #[.val (.int c')] [])) _
          refine XS.iloadN X0.here hx rfl (hb hby d1_18) rfl ?_
          show Steps p.tables e below (s₁.setTop (mkF m 19 #[.val (.int c')] [(.int c')])) _
          refine XS.bipush X0.here hx rfl (hb hby d1_19) ?_
          exact kt
        by_cases hc21_8 : c' < (32 : Int32)
        · have pre9 : ∀ t, Steps p.tables e below (s₁.setTop (mkF m 33 #[.val (.int c')] [(.int (57344 : Int32)), (.int c')])) t → Steps p.tables e below (s₁.setTop (entryFrame m #[(.int c')] 1)) t := by
            intro t kt
            refine pre7 t ?_
            show Steps p.tables e below (s₁.setTop (mkF m 21 #[.val (.int c')] [(.int (32 : Int32)), (.int c')])) _
            refine XS.icmpYes X0.here hx rfl (pc0 := 21) (pc' := 30) rfl (hb hby d1_21) rfl (tlt hc21_8).1 (by decide) (by decide) ?_
            show Steps p.tables e below (s₁.setTop (mkF m 30 #[.val (.int c')] [])) _
            refine XS.iloadN X0.here hx rfl (hb hby d1_30) rfl ?_
            show Steps p.tables e below (s₁.setTop (mkF m 31 #[.val (.int c')] [(.int c')])) _
            refine X0.ldcInt hx hown (mvT hZ (hw _ (List.mem_of_getElem? (i := 17) rfl))) (g := (mkF m 31 #[.val (.int c')] [(.int c')])) rfl (hb hby d1_31) _ ?_
            exact kt
          by_cases hc33_10 : c' < (57344 : Int32)
          · have pre11 : ∀ t, Steps p.tables e below (s₁.setTop (mkF m 45 #[.val (.int c')] [(.int (65536 : Int32)), (.int c')])) t → Steps p.tables e below (s₁.setTop (entryFrame m #[(.int c')] 1)) t := by
              intro t kt
              refine pre9 t ?_
              show Steps p.tables e below (s₁.setTop (mkF m 33 #[.val (.int c')] [(.int (57344 : Int32)), (.int c')])) _
              refine XS.icmpYes X0.here hx rfl (pc0 := 33) (pc' := 42) rfl (hb hby d1_33) rfl (tlt hc33_10).1 (by decide) (by decide) ?_
              show Steps p.tables e below (s₁.setTop (mkF m 42 #[.val (.int c')] [])) _
              refine XS.iloadN X0.here hx rfl (hb hby d1_42) rfl ?_
              show Steps p.tables e below (s₁.setTop (mkF m 43 #[.val (.int c')] [(.int c')])) _
              refine X0.ldcInt hx hown (mvT hZ (hw _ (List.mem_of_getElem? (i := 18) rfl))) (g := (mkF m 43 #[.val (.int c')] [(.int c')])) rfl (hb hby d1_43) _ ?_
              exact kt
            by_cases hc45_12 : c' < (65536 : Int32)
            · obtain ⟨fs, hr, hrun, hended, hW, hsame⟩ := X0.leave (v := some (.int (0 : Int32))) (fun h => by rw [Bd.returns] at h; cases h)
              refine ⟨_, _, pre11 _ ?_, hrun, hended, _, _, rfl, ?_, ⟨_, rfl⟩, hW, hsame.mono (by decide) (by decide)⟩
              · show Steps p.tables e below (s₁.setTop (mkF m 45 #[.val (.int c')] [(.int (65536 : Int32)), (.int c')])) _
                refine XS.icmpYes X0.here hx rfl (pc0 := 45) (pc' := 58) rfl (hb hby d1_45) rfl (tlt hc45_12).1 (by decide) (by decide) ?_
                show Steps p.tables e below (s₁.setTop (mkF m 58 #[.val (.int c')] [])) _
                refine XS.iconst X0.here hx rfl (hb hby d1_58) ?_
                show Steps p.tables e below (s₁.setTop (mkF m 59 #[.val (.int c')] [(.int (0 : Int32))])) _
                exact retN X0 hx (t := .boolean) Bd.returns (by simp) (hb hby d1_59) hr
              · show Q1 Z c' h0 n0 _ s₁.heap _
                rw [e0]
                exact ⟨by rw [own_text, if_neg hc3_2, if_neg hc9_4, if_neg hc15_6, if_pos hc21_8, if_pos hc33_10, if_pos hc45_12], N0, rfl⟩
            · have pre13 : ∀ t, Steps p.tables e below (s₁.setTop (mkF m 51 #[.val (.int c')] [(.int (1114111 : Int32)), (.int c')])) t → Steps p.tables e below (s₁.setTop (entryFrame m #[(.int c')] 1)) t := by
                intro t kt
                refine pre11 t ?_
                show Steps p.tables e below (s₁.setTop (mkF m 45 #[.val (.int c')] [(.int (65536 : Int32)), (.int c')])) _
                refine XS.icmpNo X0.here hx rfl (hb hby d1_45) rfl (flt hc45_12).1 ?_
                show Steps p.tables e below (s₁.setTop (mkF m 48 #[.val (.int c')] [])) _
                refine XS.iloadN X0.here hx rfl (hb hby d1_48) rfl ?_
                show Steps p.tables e below (s₁.setTop (mkF m 49 #[.val (.int c')] [(.int c')])) _
                refine X0.ldcInt hx hown (mvT hZ (hw _ (List.mem_of_getElem? (i := 25) rfl))) (g := (mkF m 49 #[.val (.int c')] [(.int c')])) rfl (hb hby d1_49) _ ?_
                exact kt
              by_cases hc51_14 : (1114111 : Int32) < c'
              · obtain ⟨fs, hr, hrun, hended, hW, hsame⟩ := X0.leave (v := some (.int (0 : Int32))) (fun h => by rw [Bd.returns] at h; cases h)
                refine ⟨_, _, pre13 _ ?_, hrun, hended, _, _, rfl, ?_, ⟨_, rfl⟩, hW, hsame.mono (by decide) (by decide)⟩
                · show Steps p.tables e below (s₁.setTop (mkF m 51 #[.val (.int c')] [(.int (1114111 : Int32)), (.int c')])) _
                  refine XS.icmpYes X0.here hx rfl (pc0 := 51) (pc' := 58) rfl (hb hby d1_51) rfl (tlt hc51_14).2.2.1 (by decide) (by decide) ?_
                  show Steps p.tables e below (s₁.setTop (mkF m 58 #[.val (.int c')] [])) _
                  refine XS.iconst X0.here hx rfl (hb hby d1_58) ?_
                  show Steps p.tables e below (s₁.setTop (mkF m 59 #[.val (.int c')] [(.int (0 : Int32))])) _
                  exact retN X0 hx (t := .boolean) Bd.returns (by simp) (hb hby d1_59) hr
                · show Q1 Z c' h0 n0 _ s₁.heap _
                  rw [e0]
                  exact ⟨by rw [own_text, if_neg hc3_2, if_neg hc9_4, if_neg hc15_6, if_pos hc21_8, if_pos hc33_10, if_neg hc45_12, if_pos hc51_14], N0, rfl⟩
              · obtain ⟨fs, hr, hrun, hended, hW, hsame⟩ := X0.leave (v := some (.int (1 : Int32))) (fun h => by rw [Bd.returns] at h; cases h)
                refine ⟨_, _, pre13 _ ?_, hrun, hended, _, _, rfl, ?_, ⟨_, rfl⟩, hW, hsame.mono (by decide) (by decide)⟩
                · show Steps p.tables e below (s₁.setTop (mkF m 51 #[.val (.int c')] [(.int (1114111 : Int32)), (.int c')])) _
                  refine XS.icmpNo X0.here hx rfl (hb hby d1_51) rfl (flt hc51_14).2.2.1 ?_
                  show Steps p.tables e below (s₁.setTop (mkF m 54 #[.val (.int c')] [])) _
                  refine XS.iconst X0.here hx rfl (hb hby d1_54) ?_
                  show Steps p.tables e below (s₁.setTop (mkF m 55 #[.val (.int c')] [(.int (1 : Int32))])) _
                  refine XS.goto X0.here hx rfl (pc0 := 55) (pc' := 59) rfl (hb hby d1_55) (by decide) (by decide) ?_
                  show Steps p.tables e below (s₁.setTop (mkF m 59 #[.val (.int c')] [(.int (1 : Int32))])) _
                  exact retN X0 hx (t := .boolean) Bd.returns (by simp) (hb hby d1_59) hr
                · show Q1 Z c' h0 n0 _ s₁.heap _
                  rw [e0]
                  exact ⟨by rw [own_text, if_neg hc3_2, if_neg hc9_4, if_neg hc15_6, if_pos hc21_8, if_pos hc33_10, if_neg hc45_12, if_neg hc51_14], N0, rfl⟩
          · have pre15 : ∀ t, Steps p.tables e below (s₁.setTop (mkF m 39 #[.val (.int c')] [(.int (65533 : Int32)), (.int c')])) t → Steps p.tables e below (s₁.setTop (entryFrame m #[(.int c')] 1)) t := by
              intro t kt
              refine pre9 t ?_
              show Steps p.tables e below (s₁.setTop (mkF m 33 #[.val (.int c')] [(.int (57344 : Int32)), (.int c')])) _
              refine XS.icmpNo X0.here hx rfl (hb hby d1_33) rfl (flt hc33_10).1 ?_
              show Steps p.tables e below (s₁.setTop (mkF m 36 #[.val (.int c')] [])) _
              refine XS.iloadN X0.here hx rfl (hb hby d1_36) rfl ?_
              show Steps p.tables e below (s₁.setTop (mkF m 37 #[.val (.int c')] [(.int c')])) _
              refine X0.ldcInt hx hown (mvT hZ (hw _ (List.mem_of_getElem? (i := 24) rfl))) (g := (mkF m 37 #[.val (.int c')] [(.int c')])) rfl (hb hby d1_37) _ ?_
              exact kt
            by_cases hc39_16 : (65533 : Int32) < c'
            · have pre17 : ∀ t, Steps p.tables e below (s₁.setTop (mkF m 45 #[.val (.int c')] [(.int (65536 : Int32)), (.int c')])) t → Steps p.tables e below (s₁.setTop (entryFrame m #[(.int c')] 1)) t := by
                intro t kt
                refine pre15 t ?_
                show Steps p.tables e below (s₁.setTop (mkF m 39 #[.val (.int c')] [(.int (65533 : Int32)), (.int c')])) _
                refine XS.icmpNo X0.here hx rfl (hb hby d1_39) rfl (tlt hc39_16).2.2.2 ?_
                show Steps p.tables e below (s₁.setTop (mkF m 42 #[.val (.int c')] [])) _
                refine XS.iloadN X0.here hx rfl (hb hby d1_42) rfl ?_
                show Steps p.tables e below (s₁.setTop (mkF m 43 #[.val (.int c')] [(.int c')])) _
                refine X0.ldcInt hx hown (mvT hZ (hw _ (List.mem_of_getElem? (i := 18) rfl))) (g := (mkF m 43 #[.val (.int c')] [(.int c')])) rfl (hb hby d1_43) _ ?_
                exact kt
              by_cases hc45_18 : c' < (65536 : Int32)
              · obtain ⟨fs, hr, hrun, hended, hW, hsame⟩ := X0.leave (v := some (.int (0 : Int32))) (fun h => by rw [Bd.returns] at h; cases h)
                refine ⟨_, _, pre17 _ ?_, hrun, hended, _, _, rfl, ?_, ⟨_, rfl⟩, hW, hsame.mono (by decide) (by decide)⟩
                · show Steps p.tables e below (s₁.setTop (mkF m 45 #[.val (.int c')] [(.int (65536 : Int32)), (.int c')])) _
                  refine XS.icmpYes X0.here hx rfl (pc0 := 45) (pc' := 58) rfl (hb hby d1_45) rfl (tlt hc45_18).1 (by decide) (by decide) ?_
                  show Steps p.tables e below (s₁.setTop (mkF m 58 #[.val (.int c')] [])) _
                  refine XS.iconst X0.here hx rfl (hb hby d1_58) ?_
                  show Steps p.tables e below (s₁.setTop (mkF m 59 #[.val (.int c')] [(.int (0 : Int32))])) _
                  exact retN X0 hx (t := .boolean) Bd.returns (by simp) (hb hby d1_59) hr
                · show Q1 Z c' h0 n0 _ s₁.heap _
                  rw [e0]
                  exact ⟨by rw [own_text, if_neg hc3_2, if_neg hc9_4, if_neg hc15_6, if_pos hc21_8, if_neg hc33_10, if_pos hc39_16, if_pos hc45_18], N0, rfl⟩
              · have pre19 : ∀ t, Steps p.tables e below (s₁.setTop (mkF m 51 #[.val (.int c')] [(.int (1114111 : Int32)), (.int c')])) t → Steps p.tables e below (s₁.setTop (entryFrame m #[(.int c')] 1)) t := by
                  intro t kt
                  refine pre17 t ?_
                  show Steps p.tables e below (s₁.setTop (mkF m 45 #[.val (.int c')] [(.int (65536 : Int32)), (.int c')])) _
                  refine XS.icmpNo X0.here hx rfl (hb hby d1_45) rfl (flt hc45_18).1 ?_
                  show Steps p.tables e below (s₁.setTop (mkF m 48 #[.val (.int c')] [])) _
                  refine XS.iloadN X0.here hx rfl (hb hby d1_48) rfl ?_
                  show Steps p.tables e below (s₁.setTop (mkF m 49 #[.val (.int c')] [(.int c')])) _
                  refine X0.ldcInt hx hown (mvT hZ (hw _ (List.mem_of_getElem? (i := 25) rfl))) (g := (mkF m 49 #[.val (.int c')] [(.int c')])) rfl (hb hby d1_49) _ ?_
                  exact kt
                by_cases hc51_20 : (1114111 : Int32) < c'
                · obtain ⟨fs, hr, hrun, hended, hW, hsame⟩ := X0.leave (v := some (.int (0 : Int32))) (fun h => by rw [Bd.returns] at h; cases h)
                  refine ⟨_, _, pre19 _ ?_, hrun, hended, _, _, rfl, ?_, ⟨_, rfl⟩, hW, hsame.mono (by decide) (by decide)⟩
                  · show Steps p.tables e below (s₁.setTop (mkF m 51 #[.val (.int c')] [(.int (1114111 : Int32)), (.int c')])) _
                    refine XS.icmpYes X0.here hx rfl (pc0 := 51) (pc' := 58) rfl (hb hby d1_51) rfl (tlt hc51_20).2.2.1 (by decide) (by decide) ?_
                    show Steps p.tables e below (s₁.setTop (mkF m 58 #[.val (.int c')] [])) _
                    refine XS.iconst X0.here hx rfl (hb hby d1_58) ?_
                    show Steps p.tables e below (s₁.setTop (mkF m 59 #[.val (.int c')] [(.int (0 : Int32))])) _
                    exact retN X0 hx (t := .boolean) Bd.returns (by simp) (hb hby d1_59) hr
                  · show Q1 Z c' h0 n0 _ s₁.heap _
                    rw [e0]
                    exact ⟨by rw [own_text, if_neg hc3_2, if_neg hc9_4, if_neg hc15_6, if_pos hc21_8, if_neg hc33_10, if_pos hc39_16, if_neg hc45_18, if_pos hc51_20], N0, rfl⟩
                · obtain ⟨fs, hr, hrun, hended, hW, hsame⟩ := X0.leave (v := some (.int (1 : Int32))) (fun h => by rw [Bd.returns] at h; cases h)
                  refine ⟨_, _, pre19 _ ?_, hrun, hended, _, _, rfl, ?_, ⟨_, rfl⟩, hW, hsame.mono (by decide) (by decide)⟩
                  · show Steps p.tables e below (s₁.setTop (mkF m 51 #[.val (.int c')] [(.int (1114111 : Int32)), (.int c')])) _
                    refine XS.icmpNo X0.here hx rfl (hb hby d1_51) rfl (flt hc51_20).2.2.1 ?_
                    show Steps p.tables e below (s₁.setTop (mkF m 54 #[.val (.int c')] [])) _
                    refine XS.iconst X0.here hx rfl (hb hby d1_54) ?_
                    show Steps p.tables e below (s₁.setTop (mkF m 55 #[.val (.int c')] [(.int (1 : Int32))])) _
                    refine XS.goto X0.here hx rfl (pc0 := 55) (pc' := 59) rfl (hb hby d1_55) (by decide) (by decide) ?_
                    show Steps p.tables e below (s₁.setTop (mkF m 59 #[.val (.int c')] [(.int (1 : Int32))])) _
                    exact retN X0 hx (t := .boolean) Bd.returns (by simp) (hb hby d1_59) hr
                  · show Q1 Z c' h0 n0 _ s₁.heap _
                    rw [e0]
                    exact ⟨by rw [own_text, if_neg hc3_2, if_neg hc9_4, if_neg hc15_6, if_pos hc21_8, if_neg hc33_10, if_pos hc39_16, if_neg hc45_18, if_neg hc51_20], N0, rfl⟩
            · obtain ⟨fs, hr, hrun, hended, hW, hsame⟩ := X0.leave (v := some (.int (1 : Int32))) (fun h => by rw [Bd.returns] at h; cases h)
              refine ⟨_, _, pre15 _ ?_, hrun, hended, _, _, rfl, ?_, ⟨_, rfl⟩, hW, hsame.mono (by decide) (by decide)⟩
              · show Steps p.tables e below (s₁.setTop (mkF m 39 #[.val (.int c')] [(.int (65533 : Int32)), (.int c')])) _
                refine XS.icmpYes X0.here hx rfl (pc0 := 39) (pc' := 54) rfl (hb hby d1_39) rfl (flt hc39_16).2.2.2 (by decide) (by decide) ?_
                show Steps p.tables e below (s₁.setTop (mkF m 54 #[.val (.int c')] [])) _
                refine XS.iconst X0.here hx rfl (hb hby d1_54) ?_
                show Steps p.tables e below (s₁.setTop (mkF m 55 #[.val (.int c')] [(.int (1 : Int32))])) _
                refine XS.goto X0.here hx rfl (pc0 := 55) (pc' := 59) rfl (hb hby d1_55) (by decide) (by decide) ?_
                show Steps p.tables e below (s₁.setTop (mkF m 59 #[.val (.int c')] [(.int (1 : Int32))])) _
                exact retN X0 hx (t := .boolean) Bd.returns (by simp) (hb hby d1_59) hr
              · show Q1 Z c' h0 n0 _ s₁.heap _
                rw [e0]
                exact ⟨by rw [own_text, if_neg hc3_2, if_neg hc9_4, if_neg hc15_6, if_pos hc21_8, if_neg hc33_10, if_neg hc39_16], N0, rfl⟩
        · have pre21 : ∀ t, Steps p.tables e below (s₁.setTop (mkF m 27 #[.val (.int c')] [(.int (55295 : Int32)), (.int c')])) t → Steps p.tables e below (s₁.setTop (entryFrame m #[(.int c')] 1)) t := by
            intro t kt
            refine pre7 t ?_
            show Steps p.tables e below (s₁.setTop (mkF m 21 #[.val (.int c')] [(.int (32 : Int32)), (.int c')])) _
            refine XS.icmpNo X0.here hx rfl (hb hby d1_21) rfl (flt hc21_8).1 ?_
            show Steps p.tables e below (s₁.setTop (mkF m 24 #[.val (.int c')] [])) _
            refine XS.iloadN X0.here hx rfl (hb hby d1_24) rfl ?_
            show Steps p.tables e below (s₁.setTop (mkF m 25 #[.val (.int c')] [(.int c')])) _
            refine X0.ldcInt hx hown (mvT hZ (hw _ (List.mem_of_getElem? (i := 23) rfl))) (g := (mkF m 25 #[.val (.int c')] [(.int c')])) rfl (hb hby d1_25) _ ?_
            exact kt
          by_cases hc27_22 : (55295 : Int32) < c'
          · have pre23 : ∀ t, Steps p.tables e below (s₁.setTop (mkF m 33 #[.val (.int c')] [(.int (57344 : Int32)), (.int c')])) t → Steps p.tables e below (s₁.setTop (entryFrame m #[(.int c')] 1)) t := by
              intro t kt
              refine pre21 t ?_
              show Steps p.tables e below (s₁.setTop (mkF m 27 #[.val (.int c')] [(.int (55295 : Int32)), (.int c')])) _
              refine XS.icmpNo X0.here hx rfl (hb hby d1_27) rfl (tlt hc27_22).2.2.2 ?_
              show Steps p.tables e below (s₁.setTop (mkF m 30 #[.val (.int c')] [])) _
              refine XS.iloadN X0.here hx rfl (hb hby d1_30) rfl ?_
              show Steps p.tables e below (s₁.setTop (mkF m 31 #[.val (.int c')] [(.int c')])) _
              refine X0.ldcInt hx hown (mvT hZ (hw _ (List.mem_of_getElem? (i := 17) rfl))) (g := (mkF m 31 #[.val (.int c')] [(.int c')])) rfl (hb hby d1_31) _ ?_
              exact kt
            by_cases hc33_24 : c' < (57344 : Int32)
            · have pre25 : ∀ t, Steps p.tables e below (s₁.setTop (mkF m 45 #[.val (.int c')] [(.int (65536 : Int32)), (.int c')])) t → Steps p.tables e below (s₁.setTop (entryFrame m #[(.int c')] 1)) t := by
                intro t kt
                refine pre23 t ?_
                show Steps p.tables e below (s₁.setTop (mkF m 33 #[.val (.int c')] [(.int (57344 : Int32)), (.int c')])) _
                refine XS.icmpYes X0.here hx rfl (pc0 := 33) (pc' := 42) rfl (hb hby d1_33) rfl (tlt hc33_24).1 (by decide) (by decide) ?_
                show Steps p.tables e below (s₁.setTop (mkF m 42 #[.val (.int c')] [])) _
                refine XS.iloadN X0.here hx rfl (hb hby d1_42) rfl ?_
                show Steps p.tables e below (s₁.setTop (mkF m 43 #[.val (.int c')] [(.int c')])) _
                refine X0.ldcInt hx hown (mvT hZ (hw _ (List.mem_of_getElem? (i := 18) rfl))) (g := (mkF m 43 #[.val (.int c')] [(.int c')])) rfl (hb hby d1_43) _ ?_
                exact kt
              by_cases hc45_26 : c' < (65536 : Int32)
              · obtain ⟨fs, hr, hrun, hended, hW, hsame⟩ := X0.leave (v := some (.int (0 : Int32))) (fun h => by rw [Bd.returns] at h; cases h)
                refine ⟨_, _, pre25 _ ?_, hrun, hended, _, _, rfl, ?_, ⟨_, rfl⟩, hW, hsame.mono (by decide) (by decide)⟩
                · show Steps p.tables e below (s₁.setTop (mkF m 45 #[.val (.int c')] [(.int (65536 : Int32)), (.int c')])) _
                  refine XS.icmpYes X0.here hx rfl (pc0 := 45) (pc' := 58) rfl (hb hby d1_45) rfl (tlt hc45_26).1 (by decide) (by decide) ?_
                  show Steps p.tables e below (s₁.setTop (mkF m 58 #[.val (.int c')] [])) _
                  refine XS.iconst X0.here hx rfl (hb hby d1_58) ?_
                  show Steps p.tables e below (s₁.setTop (mkF m 59 #[.val (.int c')] [(.int (0 : Int32))])) _
                  exact retN X0 hx (t := .boolean) Bd.returns (by simp) (hb hby d1_59) hr
                · show Q1 Z c' h0 n0 _ s₁.heap _
                  rw [e0]
                  exact ⟨by rw [own_text, if_neg hc3_2, if_neg hc9_4, if_neg hc15_6, if_neg hc21_8, if_pos hc27_22, if_pos hc33_24, if_pos hc45_26], N0, rfl⟩
              · have pre27 : ∀ t, Steps p.tables e below (s₁.setTop (mkF m 51 #[.val (.int c')] [(.int (1114111 : Int32)), (.int c')])) t → Steps p.tables e below (s₁.setTop (entryFrame m #[(.int c')] 1)) t := by
                  intro t kt
                  refine pre25 t ?_
                  show Steps p.tables e below (s₁.setTop (mkF m 45 #[.val (.int c')] [(.int (65536 : Int32)), (.int c')])) _
                  refine XS.icmpNo X0.here hx rfl (hb hby d1_45) rfl (flt hc45_26).1 ?_
                  show Steps p.tables e below (s₁.setTop (mkF m 48 #[.val (.int c')] [])) _
                  refine XS.iloadN X0.here hx rfl (hb hby d1_48) rfl ?_
                  show Steps p.tables e below (s₁.setTop (mkF m 49 #[.val (.int c')] [(.int c')])) _
                  refine X0.ldcInt hx hown (mvT hZ (hw _ (List.mem_of_getElem? (i := 25) rfl))) (g := (mkF m 49 #[.val (.int c')] [(.int c')])) rfl (hb hby d1_49) _ ?_
                  exact kt
                by_cases hc51_28 : (1114111 : Int32) < c'
                · obtain ⟨fs, hr, hrun, hended, hW, hsame⟩ := X0.leave (v := some (.int (0 : Int32))) (fun h => by rw [Bd.returns] at h; cases h)
                  refine ⟨_, _, pre27 _ ?_, hrun, hended, _, _, rfl, ?_, ⟨_, rfl⟩, hW, hsame.mono (by decide) (by decide)⟩
                  · show Steps p.tables e below (s₁.setTop (mkF m 51 #[.val (.int c')] [(.int (1114111 : Int32)), (.int c')])) _
                    refine XS.icmpYes X0.here hx rfl (pc0 := 51) (pc' := 58) rfl (hb hby d1_51) rfl (tlt hc51_28).2.2.1 (by decide) (by decide) ?_
                    show Steps p.tables e below (s₁.setTop (mkF m 58 #[.val (.int c')] [])) _
                    refine XS.iconst X0.here hx rfl (hb hby d1_58) ?_
                    show Steps p.tables e below (s₁.setTop (mkF m 59 #[.val (.int c')] [(.int (0 : Int32))])) _
                    exact retN X0 hx (t := .boolean) Bd.returns (by simp) (hb hby d1_59) hr
                  · show Q1 Z c' h0 n0 _ s₁.heap _
                    rw [e0]
                    exact ⟨by rw [own_text, if_neg hc3_2, if_neg hc9_4, if_neg hc15_6, if_neg hc21_8, if_pos hc27_22, if_pos hc33_24, if_neg hc45_26, if_pos hc51_28], N0, rfl⟩
                · obtain ⟨fs, hr, hrun, hended, hW, hsame⟩ := X0.leave (v := some (.int (1 : Int32))) (fun h => by rw [Bd.returns] at h; cases h)
                  refine ⟨_, _, pre27 _ ?_, hrun, hended, _, _, rfl, ?_, ⟨_, rfl⟩, hW, hsame.mono (by decide) (by decide)⟩
                  · show Steps p.tables e below (s₁.setTop (mkF m 51 #[.val (.int c')] [(.int (1114111 : Int32)), (.int c')])) _
                    refine XS.icmpNo X0.here hx rfl (hb hby d1_51) rfl (flt hc51_28).2.2.1 ?_
                    show Steps p.tables e below (s₁.setTop (mkF m 54 #[.val (.int c')] [])) _
                    refine XS.iconst X0.here hx rfl (hb hby d1_54) ?_
                    show Steps p.tables e below (s₁.setTop (mkF m 55 #[.val (.int c')] [(.int (1 : Int32))])) _
                    refine XS.goto X0.here hx rfl (pc0 := 55) (pc' := 59) rfl (hb hby d1_55) (by decide) (by decide) ?_
                    show Steps p.tables e below (s₁.setTop (mkF m 59 #[.val (.int c')] [(.int (1 : Int32))])) _
                    exact retN X0 hx (t := .boolean) Bd.returns (by simp) (hb hby d1_59) hr
                  · show Q1 Z c' h0 n0 _ s₁.heap _
                    rw [e0]
                    exact ⟨by rw [own_text, if_neg hc3_2, if_neg hc9_4, if_neg hc15_6, if_neg hc21_8, if_pos hc27_22, if_pos hc33_24, if_neg hc45_26, if_neg hc51_28], N0, rfl⟩
            · have pre29 : ∀ t, Steps p.tables e below (s₁.setTop (mkF m 39 #[.val (.int c')] [(.int (65533 : Int32)), (.int c')])) t → Steps p.tables e below (s₁.setTop (entryFrame m #[(.int c')] 1)) t := by
                intro t kt
                refine pre23 t ?_
                show Steps p.tables e below (s₁.setTop (mkF m 33 #[.val (.int c')] [(.int (57344 : Int32)), (.int c')])) _
                refine XS.icmpNo X0.here hx rfl (hb hby d1_33) rfl (flt hc33_24).1 ?_
                show Steps p.tables e below (s₁.setTop (mkF m 36 #[.val (.int c')] [])) _
                refine XS.iloadN X0.here hx rfl (hb hby d1_36) rfl ?_
                show Steps p.tables e below (s₁.setTop (mkF m 37 #[.val (.int c')] [(.int c')])) _
                refine X0.ldcInt hx hown (mvT hZ (hw _ (List.mem_of_getElem? (i := 24) rfl))) (g := (mkF m 37 #[.val (.int c')] [(.int c')])) rfl (hb hby d1_37) _ ?_
                exact kt
              by_cases hc39_30 : (65533 : Int32) < c'
              · have pre31 : ∀ t, Steps p.tables e below (s₁.setTop (mkF m 45 #[.val (.int c')] [(.int (65536 : Int32)), (.int c')])) t → Steps p.tables e below (s₁.setTop (entryFrame m #[(.int c')] 1)) t := by
                  intro t kt
                  refine pre29 t ?_
                  show Steps p.tables e below (s₁.setTop (mkF m 39 #[.val (.int c')] [(.int (65533 : Int32)), (.int c')])) _
                  refine XS.icmpNo X0.here hx rfl (hb hby d1_39) rfl (tlt hc39_30).2.2.2 ?_
                  show Steps p.tables e below (s₁.setTop (mkF m 42 #[.val (.int c')] [])) _
                  refine XS.iloadN X0.here hx rfl (hb hby d1_42) rfl ?_
                  show Steps p.tables e below (s₁.setTop (mkF m 43 #[.val (.int c')] [(.int c')])) _
                  refine X0.ldcInt hx hown (mvT hZ (hw _ (List.mem_of_getElem? (i := 18) rfl))) (g := (mkF m 43 #[.val (.int c')] [(.int c')])) rfl (hb hby d1_43) _ ?_
                  exact kt
                by_cases hc45_32 : c' < (65536 : Int32)
                · obtain ⟨fs, hr, hrun, hended, hW, hsame⟩ := X0.leave (v := some (.int (0 : Int32))) (fun h => by rw [Bd.returns] at h; cases h)
                  refine ⟨_, _, pre31 _ ?_, hrun, hended, _, _, rfl, ?_, ⟨_, rfl⟩, hW, hsame.mono (by decide) (by decide)⟩
                  · show Steps p.tables e below (s₁.setTop (mkF m 45 #[.val (.int c')] [(.int (65536 : Int32)), (.int c')])) _
                    refine XS.icmpYes X0.here hx rfl (pc0 := 45) (pc' := 58) rfl (hb hby d1_45) rfl (tlt hc45_32).1 (by decide) (by decide) ?_
                    show Steps p.tables e below (s₁.setTop (mkF m 58 #[.val (.int c')] [])) _
                    refine XS.iconst X0.here hx rfl (hb hby d1_58) ?_
                    show Steps p.tables e below (s₁.setTop (mkF m 59 #[.val (.int c')] [(.int (0 : Int32))])) _
                    exact retN X0 hx (t := .boolean) Bd.returns (by simp) (hb hby d1_59) hr
                  · show Q1 Z c' h0 n0 _ s₁.heap _
                    rw [e0]
                    exact ⟨by rw [own_text, if_neg hc3_2, if_neg hc9_4, if_neg hc15_6, if_neg hc21_8, if_pos hc27_22, if_neg hc33_24, if_pos hc39_30, if_pos hc45_32], N0, rfl⟩
                · have pre33 : ∀ t, Steps p.tables e below (s₁.setTop (mkF m 51 #[.val (.int c')] [(.int (1114111 : Int32)), (.int c')])) t → Steps p.tables e below (s₁.setTop (entryFrame m #[(.int c')] 1)) t := by
                    intro t kt
                    refine pre31 t ?_
                    show Steps p.tables e below (s₁.setTop (mkF m 45 #[.val (.int c')] [(.int (65536 : Int32)), (.int c')])) _
                    refine XS.icmpNo X0.here hx rfl (hb hby d1_45) rfl (flt hc45_32).1 ?_
                    show Steps p.tables e below (s₁.setTop (mkF m 48 #[.val (.int c')] [])) _
                    refine XS.iloadN X0.here hx rfl (hb hby d1_48) rfl ?_
                    show Steps p.tables e below (s₁.setTop (mkF m 49 #[.val (.int c')] [(.int c')])) _
                    refine X0.ldcInt hx hown (mvT hZ (hw _ (List.mem_of_getElem? (i := 25) rfl))) (g := (mkF m 49 #[.val (.int c')] [(.int c')])) rfl (hb hby d1_49) _ ?_
                    exact kt
                  by_cases hc51_34 : (1114111 : Int32) < c'
                  · obtain ⟨fs, hr, hrun, hended, hW, hsame⟩ := X0.leave (v := some (.int (0 : Int32))) (fun h => by rw [Bd.returns] at h; cases h)
                    refine ⟨_, _, pre33 _ ?_, hrun, hended, _, _, rfl, ?_, ⟨_, rfl⟩, hW, hsame.mono (by decide) (by decide)⟩
                    · show Steps p.tables e below (s₁.setTop (mkF m 51 #[.val (.int c')] [(.int (1114111 : Int32)), (.int c')])) _
                      refine XS.icmpYes X0.here hx rfl (pc0 := 51) (pc' := 58) rfl (hb hby d1_51) rfl (tlt hc51_34).2.2.1 (by decide) (by decide) ?_
                      show Steps p.tables e below (s₁.setTop (mkF m 58 #[.val (.int c')] [])) _
                      refine XS.iconst X0.here hx rfl (hb hby d1_58) ?_
                      show Steps p.tables e below (s₁.setTop (mkF m 59 #[.val (.int c')] [(.int (0 : Int32))])) _
                      exact retN X0 hx (t := .boolean) Bd.returns (by simp) (hb hby d1_59) hr
                    · show Q1 Z c' h0 n0 _ s₁.heap _
                      rw [e0]
                      exact ⟨by rw [own_text, if_neg hc3_2, if_neg hc9_4, if_neg hc15_6, if_neg hc21_8, if_pos hc27_22, if_neg hc33_24, if_pos hc39_30, if_neg hc45_32, if_pos hc51_34], N0, rfl⟩
                  · obtain ⟨fs, hr, hrun, hended, hW, hsame⟩ := X0.leave (v := some (.int (1 : Int32))) (fun h => by rw [Bd.returns] at h; cases h)
                    refine ⟨_, _, pre33 _ ?_, hrun, hended, _, _, rfl, ?_, ⟨_, rfl⟩, hW, hsame.mono (by decide) (by decide)⟩
                    · show Steps p.tables e below (s₁.setTop (mkF m 51 #[.val (.int c')] [(.int (1114111 : Int32)), (.int c')])) _
                      refine XS.icmpNo X0.here hx rfl (hb hby d1_51) rfl (flt hc51_34).2.2.1 ?_
                      show Steps p.tables e below (s₁.setTop (mkF m 54 #[.val (.int c')] [])) _
                      refine XS.iconst X0.here hx rfl (hb hby d1_54) ?_
                      show Steps p.tables e below (s₁.setTop (mkF m 55 #[.val (.int c')] [(.int (1 : Int32))])) _
                      refine XS.goto X0.here hx rfl (pc0 := 55) (pc' := 59) rfl (hb hby d1_55) (by decide) (by decide) ?_
                      show Steps p.tables e below (s₁.setTop (mkF m 59 #[.val (.int c')] [(.int (1 : Int32))])) _
                      exact retN X0 hx (t := .boolean) Bd.returns (by simp) (hb hby d1_59) hr
                    · show Q1 Z c' h0 n0 _ s₁.heap _
                      rw [e0]
                      exact ⟨by rw [own_text, if_neg hc3_2, if_neg hc9_4, if_neg hc15_6, if_neg hc21_8, if_pos hc27_22, if_neg hc33_24, if_pos hc39_30, if_neg hc45_32, if_neg hc51_34], N0, rfl⟩
              · obtain ⟨fs, hr, hrun, hended, hW, hsame⟩ := X0.leave (v := some (.int (1 : Int32))) (fun h => by rw [Bd.returns] at h; cases h)
                refine ⟨_, _, pre29 _ ?_, hrun, hended, _, _, rfl, ?_, ⟨_, rfl⟩, hW, hsame.mono (by decide) (by decide)⟩
                · show Steps p.tables e below (s₁.setTop (mkF m 39 #[.val (.int c')] [(.int (65533 : Int32)), (.int c')])) _
                  refine XS.icmpYes X0.here hx rfl (pc0 := 39) (pc' := 54) rfl (hb hby d1_39) rfl (flt hc39_30).2.2.2 (by decide) (by decide) ?_
                  show Steps p.tables e below (s₁.setTop (mkF m 54 #[.val (.int c')] [])) _
                  refine XS.iconst X0.here hx rfl (hb hby d1_54) ?_
                  show Steps p.tables e below (s₁.setTop (mkF m 55 #[.val (.int c')] [(.int (1 : Int32))])) _
                  refine XS.goto X0.here hx rfl (pc0 := 55) (pc' := 59) rfl (hb hby d1_55) (by decide) (by decide) ?_
                  show Steps p.tables e below (s₁.setTop (mkF m 59 #[.val (.int c')] [(.int (1 : Int32))])) _
                  exact retN X0 hx (t := .boolean) Bd.returns (by simp) (hb hby d1_59) hr
                · show Q1 Z c' h0 n0 _ s₁.heap _
                  rw [e0]
                  exact ⟨by rw [own_text, if_neg hc3_2, if_neg hc9_4, if_neg hc15_6, if_neg hc21_8, if_pos hc27_22, if_neg hc33_24, if_neg hc39_30], N0, rfl⟩
          · obtain ⟨fs, hr, hrun, hended, hW, hsame⟩ := X0.leave (v := some (.int (1 : Int32))) (fun h => by rw [Bd.returns] at h; cases h)
            refine ⟨_, _, pre21 _ ?_, hrun, hended, _, _, rfl, ?_, ⟨_, rfl⟩, hW, hsame.mono (by decide) (by decide)⟩
            · show Steps p.tables e below (s₁.setTop (mkF m 27 #[.val (.int c')] [(.int (55295 : Int32)), (.int c')])) _
              refine XS.icmpYes X0.here hx rfl (pc0 := 27) (pc' := 54) rfl (hb hby d1_27) rfl (flt hc27_22).2.2.2 (by decide) (by decide) ?_
              show Steps p.tables e below (s₁.setTop (mkF m 54 #[.val (.int c')] [])) _
              refine XS.iconst X0.here hx rfl (hb hby d1_54) ?_
              show Steps p.tables e below (s₁.setTop (mkF m 55 #[.val (.int c')] [(.int (1 : Int32))])) _
              refine XS.goto X0.here hx rfl (pc0 := 55) (pc' := 59) rfl (hb hby d1_55) (by decide) (by decide) ?_
              show Steps p.tables e below (s₁.setTop (mkF m 59 #[.val (.int c')] [(.int (1 : Int32))])) _
              exact retN X0 hx (t := .boolean) Bd.returns (by simp) (hb hby d1_59) hr
            · show Q1 Z c' h0 n0 _ s₁.heap _
              rw [e0]
              exact ⟨by rw [own_text, if_neg hc3_2, if_neg hc9_4, if_neg hc15_6, if_neg hc21_8, if_neg hc27_22], N0, rfl⟩
theorem d2_0 : decode method_2_code 0 = .ok (.iload_n 0, 1) := by decide +kernel
theorem d2_1 : decode method_2_code 1 = .ok (.ifCond .lt 57, 3) := by decide +kernel
theorem d2_4 : decode method_2_code 4 = .ok (.iload_n 0, 1) := by decide +kernel
theorem d2_5 : decode method_2_code 5 = .ok (.ldc 7, 2) := by decide +kernel
theorem d2_7 : decode method_2_code 7 = .ok (.if_icmp .gt 51, 3) := by decide +kernel
theorem d2_10 : decode method_2_code 10 = .ok (.iload_n 0, 1) := by decide +kernel
theorem d2_11 : decode method_2_code 11 = .ok (.bipush 32, 2) := by decide +kernel
theorem d2_13 : decode method_2_code 13 = .ok (.if_icmp .ge 21, 3) := by decide +kernel
theorem d2_16 : decode method_2_code 16 = .ok (.iload_n 0, 1) := by decide +kernel
theorem d2_17 : decode method_2_code 17 = .ok (.bipush 9, 2) := by decide +kernel
theorem d2_19 : decode method_2_code 19 = .ok (.if_icmp .eq 15, 3) := by decide +kernel
theorem d2_22 : decode method_2_code 22 = .ok (.iload_n 0, 1) := by decide +kernel
theorem d2_23 : decode method_2_code 23 = .ok (.bipush 10, 2) := by decide +kernel
theorem d2_25 : decode method_2_code 25 = .ok (.if_icmp .eq 9, 3) := by decide +kernel
theorem d2_28 : decode method_2_code 28 = .ok (.iload_n 0, 1) := by decide +kernel
theorem d2_29 : decode method_2_code 29 = .ok (.bipush 13, 2) := by decide +kernel
theorem d2_31 : decode method_2_code 31 = .ok (.if_icmp .ne 27, 3) := by decide +kernel
theorem d2_34 : decode method_2_code 34 = .ok (.iload_n 0, 1) := by decide +kernel
theorem d2_35 : decode method_2_code 35 = .ok (.ldc 8, 2) := by decide +kernel
theorem d2_37 : decode method_2_code 37 = .ok (.if_icmp .lt 9, 3) := by decide +kernel
theorem d2_40 : decode method_2_code 40 = .ok (.iload_n 0, 1) := by decide +kernel
theorem d2_41 : decode method_2_code 41 = .ok (.ldc 9, 2) := by decide +kernel
theorem d2_43 : decode method_2_code 43 = .ok (.if_icmp .le 15, 3) := by decide +kernel
theorem d2_46 : decode method_2_code 46 = .ok (.iload_n 0, 1) := by decide +kernel
theorem d2_47 : decode method_2_code 47 = .ok (.ldc 10, 2) := by decide +kernel
theorem d2_49 : decode method_2_code 49 = .ok (.if_icmp .eq 9, 3) := by decide +kernel
theorem d2_52 : decode method_2_code 52 = .ok (.iload_n 0, 1) := by decide +kernel
theorem d2_53 : decode method_2_code 53 = .ok (.ldc 11, 2) := by decide +kernel
theorem d2_55 : decode method_2_code 55 = .ok (.if_icmp .ne 7, 3) := by decide +kernel
theorem d2_58 : decode method_2_code 58 = .ok (.iconst 1, 1) := by decide +kernel
theorem d2_59 : decode method_2_code 59 = .ok (.goto 4, 3) := by decide +kernel
theorem d2_62 : decode method_2_code 62 = .ok (.iconst 0, 1) := by decide +kernel
theorem d2_63 : decode method_2_code 63 = .ok (.istore_n 1, 1) := by decide +kernel
theorem d2_64 : decode method_2_code 64 = .ok (.iload_n 1, 1) := by decide +kernel
theorem d2_65 : decode method_2_code 65 = .ok (.ifCond .ne 7, 3) := by decide +kernel
theorem d2_68 : decode method_2_code 68 = .ok (.iconst 1, 1) := by decide +kernel
theorem d2_69 : decode method_2_code 69 = .ok (.goto 4, 3) := by decide +kernel
theorem d2_72 : decode method_2_code 72 = .ok (.iconst 0, 1) := by decide +kernel
theorem d2_73 : decode method_2_code 73 = .ok (.ireturn, 1) := by decide +kernel
theorem pn_2 : plainName "com/example/ledgermatch/ledgermatch/model/IdentifiersIsTextCharacterPinLaw" = true := by first | (simp [plainName, overriddenIn]; done) | decide +kernel
theorem ef_2 (m : MethodId) (x0 : Int32) : entryFrame m #[(.int x0)] 2 = mkF m 0 #[.val (.int x0), .unset] [] := by first | (simp [entryFrame, mkF, argsToLocals, Value.category]; done) | rfl
def Q2 (Z : State) (c' : Int32) (h0 : Heap) (n0 : Nat) (v : Option Value) (h : Heap) (L : List Loc) : Prop := v = some (.int (own_exp c')) ∧ Fr n0 L ∧ h = h0
set_option maxRecDepth 65536 in
set_option maxHeartbeats 40000000 in
theorem rm2 (l : Launch) (Z : State) (a0 : Array Value) (hw : ∀ d ∈ tables_1, d.before a0 Z = true) (ws : List Jvm.Cond) (c' : Int32) (h0 : Heap) (n0 : Nat) (Z0 : n0 ≤ h0.size)  :
    MetFree l (⟨"com/example/ledgermatch/ledgermatch/model/IdentifiersIsTextCharacterPinLaw", "expected", "(I)Z"⟩ : MethodName) (head1 (Jvm.Cond.code (⟨"com/example/ledgermatch/ledgermatch/model/IdentifiersIsTextCharacterPinLaw", "expected", "(I)Z"⟩ : MethodName) method_2_code 2 (some .boolean) :: ws) ({ frames := 0, cells := 0, slots := 0, locals := 0 } : Room)) (fun ar U => ar = #[(.int c')] ∧ Z.Warmed39 U.vm ∧ U.heap = h0) (fun _ _ _ _ _ => True) (fun _ U o U' => ∃ v L, o = .returned v ∧ Q2 Z c' h0 n0 v U'.heap L ∧ FrameEnd U o U' L ({ frames := 0, cells := 0, slots := 0, locals := 0 } : Room).cells ({ frames := 0, cells := 0, slots := 0, locals := 0 } : Room).slots) := by
  refine MetFree.of_bodySF (plainFor_of_name pn_2) hisR ?_
  intro p e s m args below meth c s₁ Bd hml0 hP hK
  obtain ⟨rfl, hZ, hh⟩ := hP
  have hx := Bd.exec
  have hby := Bd.bytes
  have hml : c.maxLocals = 2 := hml0
  have hown : s.vm.findClass "com/example/ledgermatch/ledgermatch/model/IdentifiersIsTextCharacterPinLaw" = some m.cls := findClass_of_methodNamed Bd.named
  have hnm := (name_of_methodNamed Bd.named Bd.method).1
  have X0 : Stand p l e ({ frames := 0, cells := 0, slots := 0, locals := 0 } : Room) s m #[(.int c')] below meth c s₁ [] 0 0 := Stand.of_body Bd
  have e0 : s₁.heap = h0 := by rw [← hh, Bd.state]; rfl
  have N0 := Fr.nil n0
  have K0 : Keep h0 h0 [] := Keep.refl h0 _
  have pre0 : ∀ t, Steps p.tables e below (s₁.setTop (mkF m 0 #[.val (.int c'), .unset] [])) t → Steps p.tables e below (s₁.setTop (entryFrame m #[(.int c')] 2)) t := fun t k => castTop (ef_2 m c') k
  have pre1 : ∀ t, Steps p.tables e below (s₁.setTop (mkF m 1 #[.val (.int c'), .unset] [(.int c')])) t → Steps p.tables e below (s₁.setTop (entryFrame m #[(.int c')] 2)) t := by
    intro t kt
    refine pre0 t ?_
    show Steps p.tables e below (s₁.setTop (mkF m 0 #[.val (.int c'), .unset] [])) _
    refine XS.iloadN X0.here hx rfl (hb hby d2_0) rfl ?_
    exact kt
  by_cases hc1_2 : c' < (0 : Int32)
  · obtain ⟨fs, hr, hrun, hended, hW, hsame⟩ := X0.leave (v := some (.int (0 : Int32))) (fun h => by rw [Bd.returns] at h; cases h)
    refine ⟨_, _, pre1 _ ?_, hrun, hended, _, _, rfl, ?_, ⟨_, rfl⟩, hW, hsame.mono (by decide) (by decide)⟩
    · show Steps p.tables e below (s₁.setTop (mkF m 1 #[.val (.int c'), .unset] [(.int c')])) _
      refine XS.ifYes X0.here hx rfl (pc0 := 1) (pc' := 58) rfl (hb hby d2_1) rfl ((if0 _ _).trans (tlt hc1_2).1) (by decide) (by decide) ?_
      show Steps p.tables e below (s₁.setTop (mkF m 58 #[.val (.int c'), .unset] [])) _
      refine XS.iconst X0.here hx rfl (hb hby d2_58) ?_
      show Steps p.tables e below (s₁.setTop (mkF m 59 #[.val (.int c'), .unset] [(.int (1 : Int32))])) _
      refine XS.goto X0.here hx rfl (pc0 := 59) (pc' := 63) rfl (hb hby d2_59) (by decide) (by decide) ?_
      show Steps p.tables e below (s₁.setTop (mkF m 63 #[.val (.int c'), .unset] [(.int (1 : Int32))])) _
      refine XS.istoreN X0.here hx rfl (hb hby d2_63) rfl (l' := #[.val (.int c'), .val (.int (1 : Int32))]) rfl ?_
      show Steps p.tables e below (s₁.setTop (mkF m 64 #[.val (.int c'), .val (.int (1 : Int32))] [])) _
      refine XS.iloadN X0.here hx rfl (hb hby d2_64) rfl ?_
      show Steps p.tables e below (s₁.setTop (mkF m 65 #[.val (.int c'), .val (.int (1 : Int32))] [(.int (1 : Int32))])) _
      refine XS.ifYes X0.here hx rfl (pc0 := 65) (pc' := 72) rfl (hb hby d2_65) rfl ((if0 _ _).trans (feq (by decide : ¬ ((1 : Int32) = (0 : Int32)))).2) (by decide) (by decide) ?_
      show Steps p.tables e below (s₁.setTop (mkF m 72 #[.val (.int c'), .val (.int (1 : Int32))] [])) _
      refine XS.iconst X0.here hx rfl (hb hby d2_72) ?_
      show Steps p.tables e below (s₁.setTop (mkF m 73 #[.val (.int c'), .val (.int (1 : Int32))] [(.int (0 : Int32))])) _
      exact retN X0 hx (t := .boolean) Bd.returns (by simp) (hb hby d2_73) hr
    · show Q2 Z c' h0 n0 _ s₁.heap _
      rw [e0]
      exact ⟨by rw [own_exp, if_pos hc1_2], N0, rfl⟩
  · have pre3 : ∀ t, Steps p.tables e below (s₁.setTop (mkF m 7 #[.val (.int c'), .unset] [(.int (1114111 : Int32)), (.int c')])) t → Steps p.tables e below (s₁.setTop (entryFrame m #[(.int c')] 2)) t := by
      intro t kt
      refine pre1 t ?_
      show Steps p.tables e below (s₁.setTop (mkF m 1 #[.val (.int c'), .unset] [(.int c')])) _
      refine XS.ifNo X0.here hx rfl (hb hby d2_1) rfl ((if0 _ _).trans (flt hc1_2).1) ?_
      show Steps p.tables e below (s₁.setTop (mkF m 4 #[.val (.int c'), .unset] [])) _
      refine XS.iloadN X0.here hx rfl (hb hby d2_4) rfl ?_
      show Steps p.tables e below (s₁.setTop (mkF m 5 #[.val (.int c'), .unset] [(.int c')])) _
      refine X0.ldcInt hx hown (mvT hZ (hw _ (List.mem_of_getElem? (i := 9) rfl))) (g := (mkF m 5 #[.val (.int c'), .unset] [(.int c')])) rfl (hb hby d2_5) _ ?_
      exact kt
    by_cases hc7_4 : (1114111 : Int32) < c'
    · obtain ⟨fs, hr, hrun, hended, hW, hsame⟩ := X0.leave (v := some (.int (0 : Int32))) (fun h => by rw [Bd.returns] at h; cases h)
      refine ⟨_, _, pre3 _ ?_, hrun, hended, _, _, rfl, ?_, ⟨_, rfl⟩, hW, hsame.mono (by decide) (by decide)⟩
      · show Steps p.tables e below (s₁.setTop (mkF m 7 #[.val (.int c'), .unset] [(.int (1114111 : Int32)), (.int c')])) _
        refine XS.icmpYes X0.here hx rfl (pc0 := 7) (pc' := 58) rfl (hb hby d2_7) rfl (tlt hc7_4).2.2.1 (by decide) (by decide) ?_
        show Steps p.tables e below (s₁.setTop (mkF m 58 #[.val (.int c'), .unset] [])) _
        refine XS.iconst X0.here hx rfl (hb hby d2_58) ?_
        show Steps p.tables e below (s₁.setTop (mkF m 59 #[.val (.int c'), .unset] [(.int (1 : Int32))])) _
        refine XS.goto X0.here hx rfl (pc0 := 59) (pc' := 63) rfl (hb hby d2_59) (by decide) (by decide) ?_
        show Steps p.tables e below (s₁.setTop (mkF m 63 #[.val (.int c'), .unset] [(.int (1 : Int32))])) _
        refine XS.istoreN X0.here hx rfl (hb hby d2_63) rfl (l' := #[.val (.int c'), .val (.int (1 : Int32))]) rfl ?_
        show Steps p.tables e below (s₁.setTop (mkF m 64 #[.val (.int c'), .val (.int (1 : Int32))] [])) _
        refine XS.iloadN X0.here hx rfl (hb hby d2_64) rfl ?_
        show Steps p.tables e below (s₁.setTop (mkF m 65 #[.val (.int c'), .val (.int (1 : Int32))] [(.int (1 : Int32))])) _
        refine XS.ifYes X0.here hx rfl (pc0 := 65) (pc' := 72) rfl (hb hby d2_65) rfl ((if0 _ _).trans (feq (by decide : ¬ ((1 : Int32) = (0 : Int32)))).2) (by decide) (by decide) ?_
        show Steps p.tables e below (s₁.setTop (mkF m 72 #[.val (.int c'), .val (.int (1 : Int32))] [])) _
        refine XS.iconst X0.here hx rfl (hb hby d2_72) ?_
        show Steps p.tables e below (s₁.setTop (mkF m 73 #[.val (.int c'), .val (.int (1 : Int32))] [(.int (0 : Int32))])) _
        exact retN X0 hx (t := .boolean) Bd.returns (by simp) (hb hby d2_73) hr
      · show Q2 Z c' h0 n0 _ s₁.heap _
        rw [e0]
        exact ⟨by rw [own_exp, if_neg hc1_2, if_pos hc7_4], N0, rfl⟩
    · have pre5 : ∀ t, Steps p.tables e below (s₁.setTop (mkF m 13 #[.val (.int c'), .unset] [(.int (32 : Int32)), (.int c')])) t → Steps p.tables e below (s₁.setTop (entryFrame m #[(.int c')] 2)) t := by
        intro t kt
        refine pre3 t ?_
        show Steps p.tables e below (s₁.setTop (mkF m 7 #[.val (.int c'), .unset] [(.int (1114111 : Int32)), (.int c')])) _
        refine XS.icmpNo X0.here hx rfl (hb hby d2_7) rfl (flt hc7_4).2.2.1 ?_
        show Steps p.tables e below (s₁.setTop (mkF m 10 #[.val (.int c'), .unset] [])) _
        refine XS.iloadN X0.here hx rfl (hb hby d2_10) rfl ?_
        show Steps p.tables e below (s₁.setTop (mkF m 11 #[.val (.int c'), .unset] [(.int c')])) _
        refine XS.bipush X0.here hx rfl (hb hby d2_11) ?_
        exact kt
      by_cases hc13_6 : c' < (32 : Int32)
      · have pre7 : ∀ t, Steps p.tables e below (s₁.setTop (mkF m 19 #[.val (.int c'), .unset] [(.int (9 : Int32)), (.int c')])) t → Steps p.tables e below (s₁.setTop (entryFrame m #[(.int c')] 2)) t := by
          intro t kt
          refine pre5 t ?_
          show Steps p.tables e below (s₁.setTop (mkF m 13 #[.val (.int c'), .unset] [(.int (32 : Int32)), (.int c')])) _
          refine XS.icmpNo X0.here hx rfl (hb hby d2_13) rfl (tlt hc13_6).2.1 ?_
          show Steps p.tables e below (s₁.setTop (mkF m 16 #[.val (.int c'), .unset] [])) _
          refine XS.iloadN X0.here hx rfl (hb hby d2_16) rfl ?_
          show Steps p.tables e below (s₁.setTop (mkF m 17 #[.val (.int c'), .unset] [(.int c')])) _
          refine XS.bipush X0.here hx rfl (hb hby d2_17) ?_
          exact kt
        by_cases hc19_8 : c' = (9 : Int32)
        · have pre9 : ∀ t, Steps p.tables e below (s₁.setTop (mkF m 37 #[.val (.int c'), .unset] [(.int (55296 : Int32)), (.int c')])) t → Steps p.tables e below (s₁.setTop (entryFrame m #[(.int c')] 2)) t := by
            intro t kt
            refine pre7 t ?_
            show Steps p.tables e below (s₁.setTop (mkF m 19 #[.val (.int c'), .unset] [(.int (9 : Int32)), (.int c')])) _
            refine XS.icmpYes X0.here hx rfl (pc0 := 19) (pc' := 34) rfl (hb hby d2_19) rfl (teq hc19_8).1 (by decide) (by decide) ?_
            show Steps p.tables e below (s₁.setTop (mkF m 34 #[.val (.int c'), .unset] [])) _
            refine XS.iloadN X0.here hx rfl (hb hby d2_34) rfl ?_
            show Steps p.tables e below (s₁.setTop (mkF m 35 #[.val (.int c'), .unset] [(.int c')])) _
            refine X0.ldcInt hx hown (mvT hZ (hw _ (List.mem_of_getElem? (i := 2) rfl))) (g := (mkF m 35 #[.val (.int c'), .unset] [(.int c')])) rfl (hb hby d2_35) _ ?_
            exact kt
          by_cases hc37_10 : c' < (55296 : Int32)
          · have pre11 : ∀ t, Steps p.tables e below (s₁.setTop (mkF m 49 #[.val (.int c'), .unset] [(.int (65534 : Int32)), (.int c')])) t → Steps p.tables e below (s₁.setTop (entryFrame m #[(.int c')] 2)) t := by
              intro t kt
              refine pre9 t ?_
              show Steps p.tables e below (s₁.setTop (mkF m 37 #[.val (.int c'), .unset] [(.int (55296 : Int32)), (.int c')])) _
              refine XS.icmpYes X0.here hx rfl (pc0 := 37) (pc' := 46) rfl (hb hby d2_37) rfl (tlt hc37_10).1 (by decide) (by decide) ?_
              show Steps p.tables e below (s₁.setTop (mkF m 46 #[.val (.int c'), .unset] [])) _
              refine XS.iloadN X0.here hx rfl (hb hby d2_46) rfl ?_
              show Steps p.tables e below (s₁.setTop (mkF m 47 #[.val (.int c'), .unset] [(.int c')])) _
              refine X0.ldcInt hx hown (mvT hZ (hw _ (List.mem_of_getElem? (i := 6) rfl))) (g := (mkF m 47 #[.val (.int c'), .unset] [(.int c')])) rfl (hb hby d2_47) _ ?_
              exact kt
            by_cases hc49_12 : c' = (65534 : Int32)
            · obtain ⟨fs, hr, hrun, hended, hW, hsame⟩ := X0.leave (v := some (.int (0 : Int32))) (fun h => by rw [Bd.returns] at h; cases h)
              refine ⟨_, _, pre11 _ ?_, hrun, hended, _, _, rfl, ?_, ⟨_, rfl⟩, hW, hsame.mono (by decide) (by decide)⟩
              · show Steps p.tables e below (s₁.setTop (mkF m 49 #[.val (.int c'), .unset] [(.int (65534 : Int32)), (.int c')])) _
                refine XS.icmpYes X0.here hx rfl (pc0 := 49) (pc' := 58) rfl (hb hby d2_49) rfl (teq hc49_12).1 (by decide) (by decide) ?_
                show Steps p.tables e below (s₁.setTop (mkF m 58 #[.val (.int c'), .unset] [])) _
                refine XS.iconst X0.here hx rfl (hb hby d2_58) ?_
                show Steps p.tables e below (s₁.setTop (mkF m 59 #[.val (.int c'), .unset] [(.int (1 : Int32))])) _
                refine XS.goto X0.here hx rfl (pc0 := 59) (pc' := 63) rfl (hb hby d2_59) (by decide) (by decide) ?_
                show Steps p.tables e below (s₁.setTop (mkF m 63 #[.val (.int c'), .unset] [(.int (1 : Int32))])) _
                refine XS.istoreN X0.here hx rfl (hb hby d2_63) rfl (l' := #[.val (.int c'), .val (.int (1 : Int32))]) rfl ?_
                show Steps p.tables e below (s₁.setTop (mkF m 64 #[.val (.int c'), .val (.int (1 : Int32))] [])) _
                refine XS.iloadN X0.here hx rfl (hb hby d2_64) rfl ?_
                show Steps p.tables e below (s₁.setTop (mkF m 65 #[.val (.int c'), .val (.int (1 : Int32))] [(.int (1 : Int32))])) _
                refine XS.ifYes X0.here hx rfl (pc0 := 65) (pc' := 72) rfl (hb hby d2_65) rfl ((if0 _ _).trans (feq (by decide : ¬ ((1 : Int32) = (0 : Int32)))).2) (by decide) (by decide) ?_
                show Steps p.tables e below (s₁.setTop (mkF m 72 #[.val (.int c'), .val (.int (1 : Int32))] [])) _
                refine XS.iconst X0.here hx rfl (hb hby d2_72) ?_
                show Steps p.tables e below (s₁.setTop (mkF m 73 #[.val (.int c'), .val (.int (1 : Int32))] [(.int (0 : Int32))])) _
                exact retN X0 hx (t := .boolean) Bd.returns (by simp) (hb hby d2_73) hr
              · show Q2 Z c' h0 n0 _ s₁.heap _
                rw [e0]
                exact ⟨by rw [own_exp, if_neg hc1_2, if_neg hc7_4, if_pos hc13_6, if_pos hc19_8, if_pos hc37_10, if_pos hc49_12], N0, rfl⟩
            · have pre13 : ∀ t, Steps p.tables e below (s₁.setTop (mkF m 55 #[.val (.int c'), .unset] [(.int (65535 : Int32)), (.int c')])) t → Steps p.tables e below (s₁.setTop (entryFrame m #[(.int c')] 2)) t := by
                intro t kt
                refine pre11 t ?_
                show Steps p.tables e below (s₁.setTop (mkF m 49 #[.val (.int c'), .unset] [(.int (65534 : Int32)), (.int c')])) _
                refine XS.icmpNo X0.here hx rfl (hb hby d2_49) rfl (feq hc49_12).1 ?_
                show Steps p.tables e below (s₁.setTop (mkF m 52 #[.val (.int c'), .unset] [])) _
                refine XS.iloadN X0.here hx rfl (hb hby d2_52) rfl ?_
                show Steps p.tables e below (s₁.setTop (mkF m 53 #[.val (.int c'), .unset] [(.int c')])) _
                refine X0.ldcInt hx hown (mvT hZ (hw _ (List.mem_of_getElem? (i := 7) rfl))) (g := (mkF m 53 #[.val (.int c'), .unset] [(.int c')])) rfl (hb hby d2_53) _ ?_
                exact kt
              by_cases hc55_14 : c' = (65535 : Int32)
              · obtain ⟨fs, hr, hrun, hended, hW, hsame⟩ := X0.leave (v := some (.int (0 : Int32))) (fun h => by rw [Bd.returns] at h; cases h)
                refine ⟨_, _, pre13 _ ?_, hrun, hended, _, _, rfl, ?_, ⟨_, rfl⟩, hW, hsame.mono (by decide) (by decide)⟩
                · show Steps p.tables e below (s₁.setTop (mkF m 55 #[.val (.int c'), .unset] [(.int (65535 : Int32)), (.int c')])) _
                  refine XS.icmpNo X0.here hx rfl (hb hby d2_55) rfl (teq hc55_14).2 ?_
                  show Steps p.tables e below (s₁.setTop (mkF m 58 #[.val (.int c'), .unset] [])) _
                  refine XS.iconst X0.here hx rfl (hb hby d2_58) ?_
                  show Steps p.tables e below (s₁.setTop (mkF m 59 #[.val (.int c'), .unset] [(.int (1 : Int32))])) _
                  refine XS.goto X0.here hx rfl (pc0 := 59) (pc' := 63) rfl (hb hby d2_59) (by decide) (by decide) ?_
                  show Steps p.tables e below (s₁.setTop (mkF m 63 #[.val (.int c'), .unset] [(.int (1 : Int32))])) _
                  refine XS.istoreN X0.here hx rfl (hb hby d2_63) rfl (l' := #[.val (.int c'), .val (.int (1 : Int32))]) rfl ?_
                  show Steps p.tables e below (s₁.setTop (mkF m 64 #[.val (.int c'), .val (.int (1 : Int32))] [])) _
                  refine XS.iloadN X0.here hx rfl (hb hby d2_64) rfl ?_
                  show Steps p.tables e below (s₁.setTop (mkF m 65 #[.val (.int c'), .val (.int (1 : Int32))] [(.int (1 : Int32))])) _
                  refine XS.ifYes X0.here hx rfl (pc0 := 65) (pc' := 72) rfl (hb hby d2_65) rfl ((if0 _ _).trans (feq (by decide : ¬ ((1 : Int32) = (0 : Int32)))).2) (by decide) (by decide) ?_
                  show Steps p.tables e below (s₁.setTop (mkF m 72 #[.val (.int c'), .val (.int (1 : Int32))] [])) _
                  refine XS.iconst X0.here hx rfl (hb hby d2_72) ?_
                  show Steps p.tables e below (s₁.setTop (mkF m 73 #[.val (.int c'), .val (.int (1 : Int32))] [(.int (0 : Int32))])) _
                  exact retN X0 hx (t := .boolean) Bd.returns (by simp) (hb hby d2_73) hr
                · show Q2 Z c' h0 n0 _ s₁.heap _
                  rw [e0]
                  exact ⟨by rw [own_exp, if_neg hc1_2, if_neg hc7_4, if_pos hc13_6, if_pos hc19_8, if_pos hc37_10, if_neg hc49_12, if_pos hc55_14], N0, rfl⟩
              · obtain ⟨fs, hr, hrun, hended, hW, hsame⟩ := X0.leave (v := some (.int (1 : Int32))) (fun h => by rw [Bd.returns] at h; cases h)
                refine ⟨_, _, pre13 _ ?_, hrun, hended, _, _, rfl, ?_, ⟨_, rfl⟩, hW, hsame.mono (by decide) (by decide)⟩
                · show Steps p.tables e below (s₁.setTop (mkF m 55 #[.val (.int c'), .unset] [(.int (65535 : Int32)), (.int c')])) _
                  refine XS.icmpYes X0.here hx rfl (pc0 := 55) (pc' := 62) rfl (hb hby d2_55) rfl (feq hc55_14).2 (by decide) (by decide) ?_
                  show Steps p.tables e below (s₁.setTop (mkF m 62 #[.val (.int c'), .unset] [])) _
                  refine XS.iconst X0.here hx rfl (hb hby d2_62) ?_
                  show Steps p.tables e below (s₁.setTop (mkF m 63 #[.val (.int c'), .unset] [(.int (0 : Int32))])) _
                  refine XS.istoreN X0.here hx rfl (hb hby d2_63) rfl (l' := #[.val (.int c'), .val (.int (0 : Int32))]) rfl ?_
                  show Steps p.tables e below (s₁.setTop (mkF m 64 #[.val (.int c'), .val (.int (0 : Int32))] [])) _
                  refine XS.iloadN X0.here hx rfl (hb hby d2_64) rfl ?_
                  show Steps p.tables e below (s₁.setTop (mkF m 65 #[.val (.int c'), .val (.int (0 : Int32))] [(.int (0 : Int32))])) _
                  refine XS.ifNo X0.here hx rfl (hb hby d2_65) rfl ((if0 _ _).trans (teq (by decide : (0 : Int32) = (0 : Int32))).2) ?_
                  show Steps p.tables e below (s₁.setTop (mkF m 68 #[.val (.int c'), .val (.int (0 : Int32))] [])) _
                  refine XS.iconst X0.here hx rfl (hb hby d2_68) ?_
                  show Steps p.tables e below (s₁.setTop (mkF m 69 #[.val (.int c'), .val (.int (0 : Int32))] [(.int (1 : Int32))])) _
                  refine XS.goto X0.here hx rfl (pc0 := 69) (pc' := 73) rfl (hb hby d2_69) (by decide) (by decide) ?_
                  show Steps p.tables e below (s₁.setTop (mkF m 73 #[.val (.int c'), .val (.int (0 : Int32))] [(.int (1 : Int32))])) _
                  exact retN X0 hx (t := .boolean) Bd.returns (by simp) (hb hby d2_73) hr
                · show Q2 Z c' h0 n0 _ s₁.heap _
                  rw [e0]
                  exact ⟨by rw [own_exp, if_neg hc1_2, if_neg hc7_4, if_pos hc13_6, if_pos hc19_8, if_pos hc37_10, if_neg hc49_12, if_neg hc55_14], N0, rfl⟩
          · have pre15 : ∀ t, Steps p.tables e below (s₁.setTop (mkF m 43 #[.val (.int c'), .unset] [(.int (57343 : Int32)), (.int c')])) t → Steps p.tables e below (s₁.setTop (entryFrame m #[(.int c')] 2)) t := by
              intro t kt
              refine pre9 t ?_
              show Steps p.tables e below (s₁.setTop (mkF m 37 #[.val (.int c'), .unset] [(.int (55296 : Int32)), (.int c')])) _
              refine XS.icmpNo X0.here hx rfl (hb hby d2_37) rfl (flt hc37_10).1 ?_
              show Steps p.tables e below (s₁.setTop (mkF m 40 #[.val (.int c'), .unset] [])) _
              refine XS.iloadN X0.here hx rfl (hb hby d2_40) rfl ?_
              show Steps p.tables e below (s₁.setTop (mkF m 41 #[.val (.int c'), .unset] [(.int c')])) _
              refine X0.ldcInt hx hown (mvT hZ (hw _ (List.mem_of_getElem? (i := 3) rfl))) (g := (mkF m 41 #[.val (.int c'), .unset] [(.int c')])) rfl (hb hby d2_41) _ ?_
              exact kt
            by_cases hc43_16 : (57343 : Int32) < c'
            · have pre17 : ∀ t, Steps p.tables e below (s₁.setTop (mkF m 49 #[.val (.int c'), .unset] [(.int (65534 : Int32)), (.int c')])) t → Steps p.tables e below (s₁.setTop (entryFrame m #[(.int c')] 2)) t := by
                intro t kt
                refine pre15 t ?_
                show Steps p.tables e below (s₁.setTop (mkF m 43 #[.val (.int c'), .unset] [(.int (57343 : Int32)), (.int c')])) _
                refine XS.icmpNo X0.here hx rfl (hb hby d2_43) rfl (tlt hc43_16).2.2.2 ?_
                show Steps p.tables e below (s₁.setTop (mkF m 46 #[.val (.int c'), .unset] [])) _
                refine XS.iloadN X0.here hx rfl (hb hby d2_46) rfl ?_
                show Steps p.tables e below (s₁.setTop (mkF m 47 #[.val (.int c'), .unset] [(.int c')])) _
                refine X0.ldcInt hx hown (mvT hZ (hw _ (List.mem_of_getElem? (i := 6) rfl))) (g := (mkF m 47 #[.val (.int c'), .unset] [(.int c')])) rfl (hb hby d2_47) _ ?_
                exact kt
              by_cases hc49_18 : c' = (65534 : Int32)
              · obtain ⟨fs, hr, hrun, hended, hW, hsame⟩ := X0.leave (v := some (.int (0 : Int32))) (fun h => by rw [Bd.returns] at h; cases h)
                refine ⟨_, _, pre17 _ ?_, hrun, hended, _, _, rfl, ?_, ⟨_, rfl⟩, hW, hsame.mono (by decide) (by decide)⟩
                · show Steps p.tables e below (s₁.setTop (mkF m 49 #[.val (.int c'), .unset] [(.int (65534 : Int32)), (.int c')])) _
                  refine XS.icmpYes X0.here hx rfl (pc0 := 49) (pc' := 58) rfl (hb hby d2_49) rfl (teq hc49_18).1 (by decide) (by decide) ?_
                  show Steps p.tables e below (s₁.setTop (mkF m 58 #[.val (.int c'), .unset] [])) _
                  refine XS.iconst X0.here hx rfl (hb hby d2_58) ?_
                  show Steps p.tables e below (s₁.setTop (mkF m 59 #[.val (.int c'), .unset] [(.int (1 : Int32))])) _
                  refine XS.goto X0.here hx rfl (pc0 := 59) (pc' := 63) rfl (hb hby d2_59) (by decide) (by decide) ?_
                  show Steps p.tables e below (s₁.setTop (mkF m 63 #[.val (.int c'), .unset] [(.int (1 : Int32))])) _
                  refine XS.istoreN X0.here hx rfl (hb hby d2_63) rfl (l' := #[.val (.int c'), .val (.int (1 : Int32))]) rfl ?_
                  show Steps p.tables e below (s₁.setTop (mkF m 64 #[.val (.int c'), .val (.int (1 : Int32))] [])) _
                  refine XS.iloadN X0.here hx rfl (hb hby d2_64) rfl ?_
                  show Steps p.tables e below (s₁.setTop (mkF m 65 #[.val (.int c'), .val (.int (1 : Int32))] [(.int (1 : Int32))])) _
                  refine XS.ifYes X0.here hx rfl (pc0 := 65) (pc' := 72) rfl (hb hby d2_65) rfl ((if0 _ _).trans (feq (by decide : ¬ ((1 : Int32) = (0 : Int32)))).2) (by decide) (by decide) ?_
                  show Steps p.tables e below (s₁.setTop (mkF m 72 #[.val (.int c'), .val (.int (1 : Int32))] [])) _
                  refine XS.iconst X0.here hx rfl (hb hby d2_72) ?_
                  show Steps p.tables e below (s₁.setTop (mkF m 73 #[.val (.int c'), .val (.int (1 : Int32))] [(.int (0 : Int32))])) _
                  exact retN X0 hx (t := .boolean) Bd.returns (by simp) (hb hby d2_73) hr
                · show Q2 Z c' h0 n0 _ s₁.heap _
                  rw [e0]
                  exact ⟨by rw [own_exp, if_neg hc1_2, if_neg hc7_4, if_pos hc13_6, if_pos hc19_8, if_neg hc37_10, if_pos hc43_16, if_pos hc49_18], N0, rfl⟩
              · have pre19 : ∀ t, Steps p.tables e below (s₁.setTop (mkF m 55 #[.val (.int c'), .unset] [(.int (65535 : Int32)), (.int c')])) t → Steps p.tables e below (s₁.setTop (entryFrame m #[(.int c')] 2)) t := by
                  intro t kt
                  refine pre17 t ?_
                  show Steps p.tables e below (s₁.setTop (mkF m 49 #[.val (.int c'), .unset] [(.int (65534 : Int32)), (.int c')])) _
                  refine XS.icmpNo X0.here hx rfl (hb hby d2_49) rfl (feq hc49_18).1 ?_
                  show Steps p.tables e below (s₁.setTop (mkF m 52 #[.val (.int c'), .unset] [])) _
                  refine XS.iloadN X0.here hx rfl (hb hby d2_52) rfl ?_
                  show Steps p.tables e below (s₁.setTop (mkF m 53 #[.val (.int c'), .unset] [(.int c')])) _
                  refine X0.ldcInt hx hown (mvT hZ (hw _ (List.mem_of_getElem? (i := 7) rfl))) (g := (mkF m 53 #[.val (.int c'), .unset] [(.int c')])) rfl (hb hby d2_53) _ ?_
                  exact kt
                by_cases hc55_20 : c' = (65535 : Int32)
                · obtain ⟨fs, hr, hrun, hended, hW, hsame⟩ := X0.leave (v := some (.int (0 : Int32))) (fun h => by rw [Bd.returns] at h; cases h)
                  refine ⟨_, _, pre19 _ ?_, hrun, hended, _, _, rfl, ?_, ⟨_, rfl⟩, hW, hsame.mono (by decide) (by decide)⟩
                  · show Steps p.tables e below (s₁.setTop (mkF m 55 #[.val (.int c'), .unset] [(.int (65535 : Int32)), (.int c')])) _
                    refine XS.icmpNo X0.here hx rfl (hb hby d2_55) rfl (teq hc55_20).2 ?_
                    show Steps p.tables e below (s₁.setTop (mkF m 58 #[.val (.int c'), .unset] [])) _
                    refine XS.iconst X0.here hx rfl (hb hby d2_58) ?_
                    show Steps p.tables e below (s₁.setTop (mkF m 59 #[.val (.int c'), .unset] [(.int (1 : Int32))])) _
                    refine XS.goto X0.here hx rfl (pc0 := 59) (pc' := 63) rfl (hb hby d2_59) (by decide) (by decide) ?_
                    show Steps p.tables e below (s₁.setTop (mkF m 63 #[.val (.int c'), .unset] [(.int (1 : Int32))])) _
                    refine XS.istoreN X0.here hx rfl (hb hby d2_63) rfl (l' := #[.val (.int c'), .val (.int (1 : Int32))]) rfl ?_
                    show Steps p.tables e below (s₁.setTop (mkF m 64 #[.val (.int c'), .val (.int (1 : Int32))] [])) _
                    refine XS.iloadN X0.here hx rfl (hb hby d2_64) rfl ?_
                    show Steps p.tables e below (s₁.setTop (mkF m 65 #[.val (.int c'), .val (.int (1 : Int32))] [(.int (1 : Int32))])) _
                    refine XS.ifYes X0.here hx rfl (pc0 := 65) (pc' := 72) rfl (hb hby d2_65) rfl ((if0 _ _).trans (feq (by decide : ¬ ((1 : Int32) = (0 : Int32)))).2) (by decide) (by decide) ?_
                    show Steps p.tables e below (s₁.setTop (mkF m 72 #[.val (.int c'), .val (.int (1 : Int32))] [])) _
                    refine XS.iconst X0.here hx rfl (hb hby d2_72) ?_
                    show Steps p.tables e below (s₁.setTop (mkF m 73 #[.val (.int c'), .val (.int (1 : Int32))] [(.int (0 : Int32))])) _
                    exact retN X0 hx (t := .boolean) Bd.returns (by simp) (hb hby d2_73) hr
                  · show Q2 Z c' h0 n0 _ s₁.heap _
                    rw [e0]
                    exact ⟨by rw [own_exp, if_neg hc1_2, if_neg hc7_4, if_pos hc13_6, if_pos hc19_8, if_neg hc37_10, if_pos hc43_16, if_neg hc49_18, if_pos hc55_20], N0, rfl⟩
                · obtain ⟨fs, hr, hrun, hended, hW, hsame⟩ := X0.leave (v := some (.int (1 : Int32))) (fun h => by rw [Bd.returns] at h; cases h)
                  refine ⟨_, _, pre19 _ ?_, hrun, hended, _, _, rfl, ?_, ⟨_, rfl⟩, hW, hsame.mono (by decide) (by decide)⟩
                  · show Steps p.tables e below (s₁.setTop (mkF m 55 #[.val (.int c'), .unset] [(.int (65535 : Int32)), (.int c')])) _
                    refine XS.icmpYes X0.here hx rfl (pc0 := 55) (pc' := 62) rfl (hb hby d2_55) rfl (feq hc55_20).2 (by decide) (by decide) ?_
                    show Steps p.tables e below (s₁.setTop (mkF m 62 #[.val (.int c'), .unset] [])) _
                    refine XS.iconst X0.here hx rfl (hb hby d2_62) ?_
                    show Steps p.tables e below (s₁.setTop (mkF m 63 #[.val (.int c'), .unset] [(.int (0 : Int32))])) _
                    refine XS.istoreN X0.here hx rfl (hb hby d2_63) rfl (l' := #[.val (.int c'), .val (.int (0 : Int32))]) rfl ?_
                    show Steps p.tables e below (s₁.setTop (mkF m 64 #[.val (.int c'), .val (.int (0 : Int32))] [])) _
                    refine XS.iloadN X0.here hx rfl (hb hby d2_64) rfl ?_
                    show Steps p.tables e below (s₁.setTop (mkF m 65 #[.val (.int c'), .val (.int (0 : Int32))] [(.int (0 : Int32))])) _
                    refine XS.ifNo X0.here hx rfl (hb hby d2_65) rfl ((if0 _ _).trans (teq (by decide : (0 : Int32) = (0 : Int32))).2) ?_
                    show Steps p.tables e below (s₁.setTop (mkF m 68 #[.val (.int c'), .val (.int (0 : Int32))] [])) _
                    refine XS.iconst X0.here hx rfl (hb hby d2_68) ?_
                    show Steps p.tables e below (s₁.setTop (mkF m 69 #[.val (.int c'), .val (.int (0 : Int32))] [(.int (1 : Int32))])) _
                    refine XS.goto X0.here hx rfl (pc0 := 69) (pc' := 73) rfl (hb hby d2_69) (by decide) (by decide) ?_
                    show Steps p.tables e below (s₁.setTop (mkF m 73 #[.val (.int c'), .val (.int (0 : Int32))] [(.int (1 : Int32))])) _
                    exact retN X0 hx (t := .boolean) Bd.returns (by simp) (hb hby d2_73) hr
                  · show Q2 Z c' h0 n0 _ s₁.heap _
                    rw [e0]
                    exact ⟨by rw [own_exp, if_neg hc1_2, if_neg hc7_4, if_pos hc13_6, if_pos hc19_8, if_neg hc37_10, if_pos hc43_16, if_neg hc49_18, if_neg hc55_20], N0, rfl⟩
            · obtain ⟨fs, hr, hrun, hended, hW, hsame⟩ := X0.leave (v := some (.int (0 : Int32))) (fun h => by rw [Bd.returns] at h; cases h)
              refine ⟨_, _, pre15 _ ?_, hrun, hended, _, _, rfl, ?_, ⟨_, rfl⟩, hW, hsame.mono (by decide) (by decide)⟩
              · show Steps p.tables e below (s₁.setTop (mkF m 43 #[.val (.int c'), .unset] [(.int (57343 : Int32)), (.int c')])) _
                refine XS.icmpYes X0.here hx rfl (pc0 := 43) (pc' := 58) rfl (hb hby d2_43) rfl (flt hc43_16).2.2.2 (by decide) (by decide) ?_
                show Steps p.tables e below (s₁.setTop (mkF m 58 #[.val (.int c'), .unset] [])) _
                refine XS.iconst X0.here hx rfl (hb hby d2_58) ?_
                show Steps p.tables e below (s₁.setTop (mkF m 59 #[.val (.int c'), .unset] [(.int (1 : Int32))])) _
                refine XS.goto X0.here hx rfl (pc0 := 59) (pc' := 63) rfl (hb hby d2_59) (by decide) (by decide) ?_
                show Steps p.tables e below (s₁.setTop (mkF m 63 #[.val (.int c'), .unset] [(.int (1 : Int32))])) _
                refine XS.istoreN X0.here hx rfl (hb hby d2_63) rfl (l' := #[.val (.int c'), .val (.int (1 : Int32))]) rfl ?_
                show Steps p.tables e below (s₁.setTop (mkF m 64 #[.val (.int c'), .val (.int (1 : Int32))] [])) _
                refine XS.iloadN X0.here hx rfl (hb hby d2_64) rfl ?_
                show Steps p.tables e below (s₁.setTop (mkF m 65 #[.val (.int c'), .val (.int (1 : Int32))] [(.int (1 : Int32))])) _
                refine XS.ifYes X0.here hx rfl (pc0 := 65) (pc' := 72) rfl (hb hby d2_65) rfl ((if0 _ _).trans (feq (by decide : ¬ ((1 : Int32) = (0 : Int32)))).2) (by decide) (by decide) ?_
                show Steps p.tables e below (s₁.setTop (mkF m 72 #[.val (.int c'), .val (.int (1 : Int32))] [])) _
                refine XS.iconst X0.here hx rfl (hb hby d2_72) ?_
                show Steps p.tables e below (s₁.setTop (mkF m 73 #[.val (.int c'), .val (.int (1 : Int32))] [(.int (0 : Int32))])) _
                exact retN X0 hx (t := .boolean) Bd.returns (by simp) (hb hby d2_73) hr
              · show Q2 Z c' h0 n0 _ s₁.heap _
                rw [e0]
                exact ⟨by rw [own_exp, if_neg hc1_2, if_neg hc7_4, if_pos hc13_6, if_pos hc19_8, if_neg hc37_10, if_neg hc43_16], N0, rfl⟩
        · have pre21 : ∀ t, Steps p.tables e below (s₁.setTop (mkF m 25 #[.val (.int c'), .unset] [(.int (10 : Int32)), (.int c')])) t → Steps p.tables e below (s₁.setTop (entryFrame m #[(.int c')] 2)) t := by
            intro t kt
            refine pre7 t ?_
            show Steps p.tables e below (s₁.setTop (mkF m 19 #[.val (.int c'), .unset] [(.int (9 : Int32)), (.int c')])) _
            refine XS.icmpNo X0.here hx rfl (hb hby d2_19) rfl (feq hc19_8).1 ?_
            show Steps p.tables e below (s₁.setTop (mkF m 22 #[.val (.int c'), .unset] [])) _
            refine XS.iloadN X0.here hx rfl (hb hby d2_22) rfl ?_
            show Steps p.tables e below (s₁.setTop (mkF m 23 #[.val (.int c'), .unset] [(.int c')])) _
            refine XS.bipush X0.here hx rfl (hb hby d2_23) ?_
            exact kt
          by_cases hc25_22 : c' = (10 : Int32)
          · have pre23 : ∀ t, Steps p.tables e below (s₁.setTop (mkF m 37 #[.val (.int c'), .unset] [(.int (55296 : Int32)), (.int c')])) t → Steps p.tables e below (s₁.setTop (entryFrame m #[(.int c')] 2)) t := by
              intro t kt
              refine pre21 t ?_
              show Steps p.tables e below (s₁.setTop (mkF m 25 #[.val (.int c'), .unset] [(.int (10 : Int32)), (.int c')])) _
              refine XS.icmpYes X0.here hx rfl (pc0 := 25) (pc' := 34) rfl (hb hby d2_25) rfl (teq hc25_22).1 (by decide) (by decide) ?_
              show Steps p.tables e below (s₁.setTop (mkF m 34 #[.val (.int c'), .unset] [])) _
              refine XS.iloadN X0.here hx rfl (hb hby d2_34) rfl ?_
              show Steps p.tables e below (s₁.setTop (mkF m 35 #[.val (.int c'), .unset] [(.int c')])) _
              refine X0.ldcInt hx hown (mvT hZ (hw _ (List.mem_of_getElem? (i := 2) rfl))) (g := (mkF m 35 #[.val (.int c'), .unset] [(.int c')])) rfl (hb hby d2_35) _ ?_
              exact kt
            by_cases hc37_24 : c' < (55296 : Int32)
            · have pre25 : ∀ t, Steps p.tables e below (s₁.setTop (mkF m 49 #[.val (.int c'), .unset] [(.int (65534 : Int32)), (.int c')])) t → Steps p.tables e below (s₁.setTop (entryFrame m #[(.int c')] 2)) t := by
                intro t kt
                refine pre23 t ?_
                show Steps p.tables e below (s₁.setTop (mkF m 37 #[.val (.int c'), .unset] [(.int (55296 : Int32)), (.int c')])) _
                refine XS.icmpYes X0.here hx rfl (pc0 := 37) (pc' := 46) rfl (hb hby d2_37) rfl (tlt hc37_24).1 (by decide) (by decide) ?_
                show Steps p.tables e below (s₁.setTop (mkF m 46 #[.val (.int c'), .unset] [])) _
                refine XS.iloadN X0.here hx rfl (hb hby d2_46) rfl ?_
                show Steps p.tables e below (s₁.setTop (mkF m 47 #[.val (.int c'), .unset] [(.int c')])) _
                refine X0.ldcInt hx hown (mvT hZ (hw _ (List.mem_of_getElem? (i := 6) rfl))) (g := (mkF m 47 #[.val (.int c'), .unset] [(.int c')])) rfl (hb hby d2_47) _ ?_
                exact kt
              by_cases hc49_26 : c' = (65534 : Int32)
              · obtain ⟨fs, hr, hrun, hended, hW, hsame⟩ := X0.leave (v := some (.int (0 : Int32))) (fun h => by rw [Bd.returns] at h; cases h)
                refine ⟨_, _, pre25 _ ?_, hrun, hended, _, _, rfl, ?_, ⟨_, rfl⟩, hW, hsame.mono (by decide) (by decide)⟩
                · show Steps p.tables e below (s₁.setTop (mkF m 49 #[.val (.int c'), .unset] [(.int (65534 : Int32)), (.int c')])) _
                  refine XS.icmpYes X0.here hx rfl (pc0 := 49) (pc' := 58) rfl (hb hby d2_49) rfl (teq hc49_26).1 (by decide) (by decide) ?_
                  show Steps p.tables e below (s₁.setTop (mkF m 58 #[.val (.int c'), .unset] [])) _
                  refine XS.iconst X0.here hx rfl (hb hby d2_58) ?_
                  show Steps p.tables e below (s₁.setTop (mkF m 59 #[.val (.int c'), .unset] [(.int (1 : Int32))])) _
                  refine XS.goto X0.here hx rfl (pc0 := 59) (pc' := 63) rfl (hb hby d2_59) (by decide) (by decide) ?_
                  show Steps p.tables e below (s₁.setTop (mkF m 63 #[.val (.int c'), .unset] [(.int (1 : Int32))])) _
                  refine XS.istoreN X0.here hx rfl (hb hby d2_63) rfl (l' := #[.val (.int c'), .val (.int (1 : Int32))]) rfl ?_
                  show Steps p.tables e below (s₁.setTop (mkF m 64 #[.val (.int c'), .val (.int (1 : Int32))] [])) _
                  refine XS.iloadN X0.here hx rfl (hb hby d2_64) rfl ?_
                  show Steps p.tables e below (s₁.setTop (mkF m 65 #[.val (.int c'), .val (.int (1 : Int32))] [(.int (1 : Int32))])) _
                  refine XS.ifYes X0.here hx rfl (pc0 := 65) (pc' := 72) rfl (hb hby d2_65) rfl ((if0 _ _).trans (feq (by decide : ¬ ((1 : Int32) = (0 : Int32)))).2) (by decide) (by decide) ?_
                  show Steps p.tables e below (s₁.setTop (mkF m 72 #[.val (.int c'), .val (.int (1 : Int32))] [])) _
                  refine XS.iconst X0.here hx rfl (hb hby d2_72) ?_
                  show Steps p.tables e below (s₁.setTop (mkF m 73 #[.val (.int c'), .val (.int (1 : Int32))] [(.int (0 : Int32))])) _
                  exact retN X0 hx (t := .boolean) Bd.returns (by simp) (hb hby d2_73) hr
                · show Q2 Z c' h0 n0 _ s₁.heap _
                  rw [e0]
                  exact ⟨by rw [own_exp, if_neg hc1_2, if_neg hc7_4, if_pos hc13_6, if_neg hc19_8, if_pos hc25_22, if_pos hc37_24, if_pos hc49_26], N0, rfl⟩
              · have pre27 : ∀ t, Steps p.tables e below (s₁.setTop (mkF m 55 #[.val (.int c'), .unset] [(.int (65535 : Int32)), (.int c')])) t → Steps p.tables e below (s₁.setTop (entryFrame m #[(.int c')] 2)) t := by
                  intro t kt
                  refine pre25 t ?_
                  show Steps p.tables e below (s₁.setTop (mkF m 49 #[.val (.int c'), .unset] [(.int (65534 : Int32)), (.int c')])) _
                  refine XS.icmpNo X0.here hx rfl (hb hby d2_49) rfl (feq hc49_26).1 ?_
                  show Steps p.tables e below (s₁.setTop (mkF m 52 #[.val (.int c'), .unset] [])) _
                  refine XS.iloadN X0.here hx rfl (hb hby d2_52) rfl ?_
                  show Steps p.tables e below (s₁.setTop (mkF m 53 #[.val (.int c'), .unset] [(.int c')])) _
                  refine X0.ldcInt hx hown (mvT hZ (hw _ (List.mem_of_getElem? (i := 7) rfl))) (g := (mkF m 53 #[.val (.int c'), .unset] [(.int c')])) rfl (hb hby d2_53) _ ?_
                  exact kt
                by_cases hc55_28 : c' = (65535 : Int32)
                · obtain ⟨fs, hr, hrun, hended, hW, hsame⟩ := X0.leave (v := some (.int (0 : Int32))) (fun h => by rw [Bd.returns] at h; cases h)
                  refine ⟨_, _, pre27 _ ?_, hrun, hended, _, _, rfl, ?_, ⟨_, rfl⟩, hW, hsame.mono (by decide) (by decide)⟩
                  · show Steps p.tables e below (s₁.setTop (mkF m 55 #[.val (.int c'), .unset] [(.int (65535 : Int32)), (.int c')])) _
                    refine XS.icmpNo X0.here hx rfl (hb hby d2_55) rfl (teq hc55_28).2 ?_
                    show Steps p.tables e below (s₁.setTop (mkF m 58 #[.val (.int c'), .unset] [])) _
                    refine XS.iconst X0.here hx rfl (hb hby d2_58) ?_
                    show Steps p.tables e below (s₁.setTop (mkF m 59 #[.val (.int c'), .unset] [(.int (1 : Int32))])) _
                    refine XS.goto X0.here hx rfl (pc0 := 59) (pc' := 63) rfl (hb hby d2_59) (by decide) (by decide) ?_
                    show Steps p.tables e below (s₁.setTop (mkF m 63 #[.val (.int c'), .unset] [(.int (1 : Int32))])) _
                    refine XS.istoreN X0.here hx rfl (hb hby d2_63) rfl (l' := #[.val (.int c'), .val (.int (1 : Int32))]) rfl ?_
                    show Steps p.tables e below (s₁.setTop (mkF m 64 #[.val (.int c'), .val (.int (1 : Int32))] [])) _
                    refine XS.iloadN X0.here hx rfl (hb hby d2_64) rfl ?_
                    show Steps p.tables e below (s₁.setTop (mkF m 65 #[.val (.int c'), .val (.int (1 : Int32))] [(.int (1 : Int32))])) _
                    refine XS.ifYes X0.here hx rfl (pc0 := 65) (pc' := 72) rfl (hb hby d2_65) rfl ((if0 _ _).trans (feq (by decide : ¬ ((1 : Int32) = (0 : Int32)))).2) (by decide) (by decide) ?_
                    show Steps p.tables e below (s₁.setTop (mkF m 72 #[.val (.int c'), .val (.int (1 : Int32))] [])) _
                    refine XS.iconst X0.here hx rfl (hb hby d2_72) ?_
                    show Steps p.tables e below (s₁.setTop (mkF m 73 #[.val (.int c'), .val (.int (1 : Int32))] [(.int (0 : Int32))])) _
                    exact retN X0 hx (t := .boolean) Bd.returns (by simp) (hb hby d2_73) hr
                  · show Q2 Z c' h0 n0 _ s₁.heap _
                    rw [e0]
                    exact ⟨by rw [own_exp, if_neg hc1_2, if_neg hc7_4, if_pos hc13_6, if_neg hc19_8, if_pos hc25_22, if_pos hc37_24, if_neg hc49_26, if_pos hc55_28], N0, rfl⟩
                · obtain ⟨fs, hr, hrun, hended, hW, hsame⟩ := X0.leave (v := some (.int (1 : Int32))) (fun h => by rw [Bd.returns] at h; cases h)
                  refine ⟨_, _, pre27 _ ?_, hrun, hended, _, _, rfl, ?_, ⟨_, rfl⟩, hW, hsame.mono (by decide) (by decide)⟩
                  · show Steps p.tables e below (s₁.setTop (mkF m 55 #[.val (.int c'), .unset] [(.int (65535 : Int32)), (.int c')])) _
                    refine XS.icmpYes X0.here hx rfl (pc0 := 55) (pc' := 62) rfl (hb hby d2_55) rfl (feq hc55_28).2 (by decide) (by decide) ?_
                    show Steps p.tables e below (s₁.setTop (mkF m 62 #[.val (.int c'), .unset] [])) _
                    refine XS.iconst X0.here hx rfl (hb hby d2_62) ?_
                    show Steps p.tables e below (s₁.setTop (mkF m 63 #[.val (.int c'), .unset] [(.int (0 : Int32))])) _
                    refine XS.istoreN X0.here hx rfl (hb hby d2_63) rfl (l' := #[.val (.int c'), .val (.int (0 : Int32))]) rfl ?_
                    show Steps p.tables e below (s₁.setTop (mkF m 64 #[.val (.int c'), .val (.int (0 : Int32))] [])) _
                    refine XS.iloadN X0.here hx rfl (hb hby d2_64) rfl ?_
                    show Steps p.tables e below (s₁.setTop (mkF m 65 #[.val (.int c'), .val (.int (0 : Int32))] [(.int (0 : Int32))])) _
                    refine XS.ifNo X0.here hx rfl (hb hby d2_65) rfl ((if0 _ _).trans (teq (by decide : (0 : Int32) = (0 : Int32))).2) ?_
                    show Steps p.tables e below (s₁.setTop (mkF m 68 #[.val (.int c'), .val (.int (0 : Int32))] [])) _
                    refine XS.iconst X0.here hx rfl (hb hby d2_68) ?_
                    show Steps p.tables e below (s₁.setTop (mkF m 69 #[.val (.int c'), .val (.int (0 : Int32))] [(.int (1 : Int32))])) _
                    refine XS.goto X0.here hx rfl (pc0 := 69) (pc' := 73) rfl (hb hby d2_69) (by decide) (by decide) ?_
                    show Steps p.tables e below (s₁.setTop (mkF m 73 #[.val (.int c'), .val (.int (0 : Int32))] [(.int (1 : Int32))])) _
                    exact retN X0 hx (t := .boolean) Bd.returns (by simp) (hb hby d2_73) hr
                  · show Q2 Z c' h0 n0 _ s₁.heap _
                    rw [e0]
                    exact ⟨by rw [own_exp, if_neg hc1_2, if_neg hc7_4, if_pos hc13_6, if_neg hc19_8, if_pos hc25_22, if_pos hc37_24, if_neg hc49_26, if_neg hc55_28], N0, rfl⟩
            · have pre29 : ∀ t, Steps p.tables e below (s₁.setTop (mkF m 43 #[.val (.int c'), .unset] [(.int (57343 : Int32)), (.int c')])) t → Steps p.tables e below (s₁.setTop (entryFrame m #[(.int c')] 2)) t := by
                intro t kt
                refine pre23 t ?_
                show Steps p.tables e below (s₁.setTop (mkF m 37 #[.val (.int c'), .unset] [(.int (55296 : Int32)), (.int c')])) _
                refine XS.icmpNo X0.here hx rfl (hb hby d2_37) rfl (flt hc37_24).1 ?_
                show Steps p.tables e below (s₁.setTop (mkF m 40 #[.val (.int c'), .unset] [])) _
                refine XS.iloadN X0.here hx rfl (hb hby d2_40) rfl ?_
                show Steps p.tables e below (s₁.setTop (mkF m 41 #[.val (.int c'), .unset] [(.int c')])) _
                refine X0.ldcInt hx hown (mvT hZ (hw _ (List.mem_of_getElem? (i := 3) rfl))) (g := (mkF m 41 #[.val (.int c'), .unset] [(.int c')])) rfl (hb hby d2_41) _ ?_
                exact kt
              by_cases hc43_30 : (57343 : Int32) < c'
              · have pre31 : ∀ t, Steps p.tables e below (s₁.setTop (mkF m 49 #[.val (.int c'), .unset] [(.int (65534 : Int32)), (.int c')])) t → Steps p.tables e below (s₁.setTop (entryFrame m #[(.int c')] 2)) t := by
                  intro t kt
                  refine pre29 t ?_
                  show Steps p.tables e below (s₁.setTop (mkF m 43 #[.val (.int c'), .unset] [(.int (57343 : Int32)), (.int c')])) _
                  refine XS.icmpNo X0.here hx rfl (hb hby d2_43) rfl (tlt hc43_30).2.2.2 ?_
                  show Steps p.tables e below (s₁.setTop (mkF m 46 #[.val (.int c'), .unset] [])) _
                  refine XS.iloadN X0.here hx rfl (hb hby d2_46) rfl ?_
                  show Steps p.tables e below (s₁.setTop (mkF m 47 #[.val (.int c'), .unset] [(.int c')])) _
                  refine X0.ldcInt hx hown (mvT hZ (hw _ (List.mem_of_getElem? (i := 6) rfl))) (g := (mkF m 47 #[.val (.int c'), .unset] [(.int c')])) rfl (hb hby d2_47) _ ?_
                  exact kt
                by_cases hc49_32 : c' = (65534 : Int32)
                · obtain ⟨fs, hr, hrun, hended, hW, hsame⟩ := X0.leave (v := some (.int (0 : Int32))) (fun h => by rw [Bd.returns] at h; cases h)
                  refine ⟨_, _, pre31 _ ?_, hrun, hended, _, _, rfl, ?_, ⟨_, rfl⟩, hW, hsame.mono (by decide) (by decide)⟩
                  · show Steps p.tables e below (s₁.setTop (mkF m 49 #[.val (.int c'), .unset] [(.int (65534 : Int32)), (.int c')])) _
                    refine XS.icmpYes X0.here hx rfl (pc0 := 49) (pc' := 58) rfl (hb hby d2_49) rfl (teq hc49_32).1 (by decide) (by decide) ?_
                    show Steps p.tables e below (s₁.setTop (mkF m 58 #[.val (.int c'), .unset] [])) _
                    refine XS.iconst X0.here hx rfl (hb hby d2_58) ?_
                    show Steps p.tables e below (s₁.setTop (mkF m 59 #[.val (.int c'), .unset] [(.int (1 : Int32))])) _
                    refine XS.goto X0.here hx rfl (pc0 := 59) (pc' := 63) rfl (hb hby d2_59) (by decide) (by decide) ?_
                    show Steps p.tables e below (s₁.setTop (mkF m 63 #[.val (.int c'), .unset] [(.int (1 : Int32))])) _
                    refine XS.istoreN X0.here hx rfl (hb hby d2_63) rfl (l' := #[.val (.int c'), .val (.int (1 : Int32))]) rfl ?_
                    show Steps p.tables e below (s₁.setTop (mkF m 64 #[.val (.int c'), .val (.int (1 : Int32))] [])) _
                    refine XS.iloadN X0.here hx rfl (hb hby d2_64) rfl ?_
                    show Steps p.tables e below (s₁.setTop (mkF m 65 #[.val (.int c'), .val (.int (1 : Int32))] [(.int (1 : Int32))])) _
                    refine XS.ifYes X0.here hx rfl (pc0 := 65) (pc' := 72) rfl (hb hby d2_65) rfl ((if0 _ _).trans (feq (by decide : ¬ ((1 : Int32) = (0 : Int32)))).2) (by decide) (by decide) ?_
                    show Steps p.tables e below (s₁.setTop (mkF m 72 #[.val (.int c'), .val (.int (1 : Int32))] [])) _
                    refine XS.iconst X0.here hx rfl (hb hby d2_72) ?_
                    show Steps p.tables e below (s₁.setTop (mkF m 73 #[.val (.int c'), .val (.int (1 : Int32))] [(.int (0 : Int32))])) _
                    exact retN X0 hx (t := .boolean) Bd.returns (by simp) (hb hby d2_73) hr
                  · show Q2 Z c' h0 n0 _ s₁.heap _
                    rw [e0]
                    exact ⟨by rw [own_exp, if_neg hc1_2, if_neg hc7_4, if_pos hc13_6, if_neg hc19_8, if_pos hc25_22, if_neg hc37_24, if_pos hc43_30, if_pos hc49_32], N0, rfl⟩
                · have pre33 : ∀ t, Steps p.tables e below (s₁.setTop (mkF m 55 #[.val (.int c'), .unset] [(.int (65535 : Int32)), (.int c')])) t → Steps p.tables e below (s₁.setTop (entryFrame m #[(.int c')] 2)) t := by
                    intro t kt
                    refine pre31 t ?_
                    show Steps p.tables e below (s₁.setTop (mkF m 49 #[.val (.int c'), .unset] [(.int (65534 : Int32)), (.int c')])) _
                    refine XS.icmpNo X0.here hx rfl (hb hby d2_49) rfl (feq hc49_32).1 ?_
                    show Steps p.tables e below (s₁.setTop (mkF m 52 #[.val (.int c'), .unset] [])) _
                    refine XS.iloadN X0.here hx rfl (hb hby d2_52) rfl ?_
                    show Steps p.tables e below (s₁.setTop (mkF m 53 #[.val (.int c'), .unset] [(.int c')])) _
                    refine X0.ldcInt hx hown (mvT hZ (hw _ (List.mem_of_getElem? (i := 7) rfl))) (g := (mkF m 53 #[.val (.int c'), .unset] [(.int c')])) rfl (hb hby d2_53) _ ?_
                    exact kt
                  by_cases hc55_34 : c' = (65535 : Int32)
                  · obtain ⟨fs, hr, hrun, hended, hW, hsame⟩ := X0.leave (v := some (.int (0 : Int32))) (fun h => by rw [Bd.returns] at h; cases h)
                    refine ⟨_, _, pre33 _ ?_, hrun, hended, _, _, rfl, ?_, ⟨_, rfl⟩, hW, hsame.mono (by decide) (by decide)⟩
                    · show Steps p.tables e below (s₁.setTop (mkF m 55 #[.val (.int c'), .unset] [(.int (65535 : Int32)), (.int c')])) _
                      refine XS.icmpNo X0.here hx rfl (hb hby d2_55) rfl (teq hc55_34).2 ?_
                      show Steps p.tables e below (s₁.setTop (mkF m 58 #[.val (.int c'), .unset] [])) _
                      refine XS.iconst X0.here hx rfl (hb hby d2_58) ?_
                      show Steps p.tables e below (s₁.setTop (mkF m 59 #[.val (.int c'), .unset] [(.int (1 : Int32))])) _
                      refine XS.goto X0.here hx rfl (pc0 := 59) (pc' := 63) rfl (hb hby d2_59) (by decide) (by decide) ?_
                      show Steps p.tables e below (s₁.setTop (mkF m 63 #[.val (.int c'), .unset] [(.int (1 : Int32))])) _
                      refine XS.istoreN X0.here hx rfl (hb hby d2_63) rfl (l' := #[.val (.int c'), .val (.int (1 : Int32))]) rfl ?_
                      show Steps p.tables e below (s₁.setTop (mkF m 64 #[.val (.int c'), .val (.int (1 : Int32))] [])) _
                      refine XS.iloadN X0.here hx rfl (hb hby d2_64) rfl ?_
                      show Steps p.tables e below (s₁.setTop (mkF m 65 #[.val (.int c'), .val (.int (1 : Int32))] [(.int (1 : Int32))])) _
                      refine XS.ifYes X0.here hx rfl (pc0 := 65) (pc' := 72) rfl (hb hby d2_65) rfl ((if0 _ _).trans (feq (by decide : ¬ ((1 : Int32) = (0 : Int32)))).2) (by decide) (by decide) ?_
                      show Steps p.tables e below (s₁.setTop (mkF m 72 #[.val (.int c'), .val (.int (1 : Int32))] [])) _
                      refine XS.iconst X0.here hx rfl (hb hby d2_72) ?_
                      show Steps p.tables e below (s₁.setTop (mkF m 73 #[.val (.int c'), .val (.int (1 : Int32))] [(.int (0 : Int32))])) _
                      exact retN X0 hx (t := .boolean) Bd.returns (by simp) (hb hby d2_73) hr
                    · show Q2 Z c' h0 n0 _ s₁.heap _
                      rw [e0]
                      exact ⟨by rw [own_exp, if_neg hc1_2, if_neg hc7_4, if_pos hc13_6, if_neg hc19_8, if_pos hc25_22, if_neg hc37_24, if_pos hc43_30, if_neg hc49_32, if_pos hc55_34], N0, rfl⟩
                  · obtain ⟨fs, hr, hrun, hended, hW, hsame⟩ := X0.leave (v := some (.int (1 : Int32))) (fun h => by rw [Bd.returns] at h; cases h)
                    refine ⟨_, _, pre33 _ ?_, hrun, hended, _, _, rfl, ?_, ⟨_, rfl⟩, hW, hsame.mono (by decide) (by decide)⟩
                    · show Steps p.tables e below (s₁.setTop (mkF m 55 #[.val (.int c'), .unset] [(.int (65535 : Int32)), (.int c')])) _
                      refine XS.icmpYes X0.here hx rfl (pc0 := 55) (pc' := 62) rfl (hb hby d2_55) rfl (feq hc55_34).2 (by decide) (by decide) ?_
                      show Steps p.tables e below (s₁.setTop (mkF m 62 #[.val (.int c'), .unset] [])) _
                      refine XS.iconst X0.here hx rfl (hb hby d2_62) ?_
                      show Steps p.tables e below (s₁.setTop (mkF m 63 #[.val (.int c'), .unset] [(.int (0 : Int32))])) _
                      refine XS.istoreN X0.here hx rfl (hb hby d2_63) rfl (l' := #[.val (.int c'), .val (.int (0 : Int32))]) rfl ?_
                      show Steps p.tables e below (s₁.setTop (mkF m 64 #[.val (.int c'), .val (.int (0 : Int32))] [])) _
                      refine XS.iloadN X0.here hx rfl (hb hby d2_64) rfl ?_
                      show Steps p.tables e below (s₁.setTop (mkF m 65 #[.val (.int c'), .val (.int (0 : Int32))] [(.int (0 : Int32))])) _
                      refine XS.ifNo X0.here hx rfl (hb hby d2_65) rfl ((if0 _ _).trans (teq (by decide : (0 : Int32) = (0 : Int32))).2) ?_
                      show Steps p.tables e below (s₁.setTop (mkF m 68 #[.val (.int c'), .val (.int (0 : Int32))] [])) _
                      refine XS.iconst X0.here hx rfl (hb hby d2_68) ?_
                      show Steps p.tables e below (s₁.setTop (mkF m 69 #[.val (.int c'), .val (.int (0 : Int32))] [(.int (1 : Int32))])) _
                      refine XS.goto X0.here hx rfl (pc0 := 69) (pc' := 73) rfl (hb hby d2_69) (by decide) (by decide) ?_
                      show Steps p.tables e below (s₁.setTop (mkF m 73 #[.val (.int c'), .val (.int (0 : Int32))] [(.int (1 : Int32))])) _
                      exact retN X0 hx (t := .boolean) Bd.returns (by simp) (hb hby d2_73) hr
                    · show Q2 Z c' h0 n0 _ s₁.heap _
                      rw [e0]
                      exact ⟨by rw [own_exp, if_neg hc1_2, if_neg hc7_4, if_pos hc13_6, if_neg hc19_8, if_pos hc25_22, if_neg hc37_24, if_pos hc43_30, if_neg hc49_32, if_neg hc55_34], N0, rfl⟩
              · obtain ⟨fs, hr, hrun, hended, hW, hsame⟩ := X0.leave (v := some (.int (0 : Int32))) (fun h => by rw [Bd.returns] at h; cases h)
                refine ⟨_, _, pre29 _ ?_, hrun, hended, _, _, rfl, ?_, ⟨_, rfl⟩, hW, hsame.mono (by decide) (by decide)⟩
                · show Steps p.tables e below (s₁.setTop (mkF m 43 #[.val (.int c'), .unset] [(.int (57343 : Int32)), (.int c')])) _
                  refine XS.icmpYes X0.here hx rfl (pc0 := 43) (pc' := 58) rfl (hb hby d2_43) rfl (flt hc43_30).2.2.2 (by decide) (by decide) ?_
                  show Steps p.tables e below (s₁.setTop (mkF m 58 #[.val (.int c'), .unset] [])) _
                  refine XS.iconst X0.here hx rfl (hb hby d2_58) ?_
                  show Steps p.tables e below (s₁.setTop (mkF m 59 #[.val (.int c'), .unset] [(.int (1 : Int32))])) _
                  refine XS.goto X0.here hx rfl (pc0 := 59) (pc' := 63) rfl (hb hby d2_59) (by decide) (by decide) ?_
                  show Steps p.tables e below (s₁.setTop (mkF m 63 #[.val (.int c'), .unset] [(.int (1 : Int32))])) _
                  refine XS.istoreN X0.here hx rfl (hb hby d2_63) rfl (l' := #[.val (.int c'), .val (.int (1 : Int32))]) rfl ?_
                  show Steps p.tables e below (s₁.setTop (mkF m 64 #[.val (.int c'), .val (.int (1 : Int32))] [])) _
                  refine XS.iloadN X0.here hx rfl (hb hby d2_64) rfl ?_
                  show Steps p.tables e below (s₁.setTop (mkF m 65 #[.val (.int c'), .val (.int (1 : Int32))] [(.int (1 : Int32))])) _
                  refine XS.ifYes X0.here hx rfl (pc0 := 65) (pc' := 72) rfl (hb hby d2_65) rfl ((if0 _ _).trans (feq (by decide : ¬ ((1 : Int32) = (0 : Int32)))).2) (by decide) (by decide) ?_
                  show Steps p.tables e below (s₁.setTop (mkF m 72 #[.val (.int c'), .val (.int (1 : Int32))] [])) _
                  refine XS.iconst X0.here hx rfl (hb hby d2_72) ?_
                  show Steps p.tables e below (s₁.setTop (mkF m 73 #[.val (.int c'), .val (.int (1 : Int32))] [(.int (0 : Int32))])) _
                  exact retN X0 hx (t := .boolean) Bd.returns (by simp) (hb hby d2_73) hr
                · show Q2 Z c' h0 n0 _ s₁.heap _
                  rw [e0]
                  exact ⟨by rw [own_exp, if_neg hc1_2, if_neg hc7_4, if_pos hc13_6, if_neg hc19_8, if_pos hc25_22, if_neg hc37_24, if_neg hc43_30], N0, rfl⟩
          · have pre35 : ∀ t, Steps p.tables e below (s₁.setTop (mkF m 31 #[.val (.int c'), .unset] [(.int (13 : Int32)), (.int c')])) t → Steps p.tables e below (s₁.setTop (entryFrame m #[(.int c')] 2)) t := by
              intro t kt
              refine pre21 t ?_
              show Steps p.tables e below (s₁.setTop (mkF m 25 #[.val (.int c'), .unset] [(.int (10 : Int32)), (.int c')])) _
              refine XS.icmpNo X0.here hx rfl (hb hby d2_25) rfl (feq hc25_22).1 ?_
              show Steps p.tables e below (s₁.setTop (mkF m 28 #[.val (.int c'), .unset] [])) _
              refine XS.iloadN X0.here hx rfl (hb hby d2_28) rfl ?_
              show Steps p.tables e below (s₁.setTop (mkF m 29 #[.val (.int c'), .unset] [(.int c')])) _
              refine XS.bipush X0.here hx rfl (hb hby d2_29) ?_
              exact kt
            by_cases hc31_36 : c' = (13 : Int32)
            · have pre37 : ∀ t, Steps p.tables e below (s₁.setTop (mkF m 37 #[.val (.int c'), .unset] [(.int (55296 : Int32)), (.int c')])) t → Steps p.tables e below (s₁.setTop (entryFrame m #[(.int c')] 2)) t := by
                intro t kt
                refine pre35 t ?_
                show Steps p.tables e below (s₁.setTop (mkF m 31 #[.val (.int c'), .unset] [(.int (13 : Int32)), (.int c')])) _
                refine XS.icmpNo X0.here hx rfl (hb hby d2_31) rfl (teq hc31_36).2 ?_
                show Steps p.tables e below (s₁.setTop (mkF m 34 #[.val (.int c'), .unset] [])) _
                refine XS.iloadN X0.here hx rfl (hb hby d2_34) rfl ?_
                show Steps p.tables e below (s₁.setTop (mkF m 35 #[.val (.int c'), .unset] [(.int c')])) _
                refine X0.ldcInt hx hown (mvT hZ (hw _ (List.mem_of_getElem? (i := 2) rfl))) (g := (mkF m 35 #[.val (.int c'), .unset] [(.int c')])) rfl (hb hby d2_35) _ ?_
                exact kt
              by_cases hc37_38 : c' < (55296 : Int32)
              · have pre39 : ∀ t, Steps p.tables e below (s₁.setTop (mkF m 49 #[.val (.int c'), .unset] [(.int (65534 : Int32)), (.int c')])) t → Steps p.tables e below (s₁.setTop (entryFrame m #[(.int c')] 2)) t := by
                  intro t kt
                  refine pre37 t ?_
                  show Steps p.tables e below (s₁.setTop (mkF m 37 #[.val (.int c'), .unset] [(.int (55296 : Int32)), (.int c')])) _
                  refine XS.icmpYes X0.here hx rfl (pc0 := 37) (pc' := 46) rfl (hb hby d2_37) rfl (tlt hc37_38).1 (by decide) (by decide) ?_
                  show Steps p.tables e below (s₁.setTop (mkF m 46 #[.val (.int c'), .unset] [])) _
                  refine XS.iloadN X0.here hx rfl (hb hby d2_46) rfl ?_
                  show Steps p.tables e below (s₁.setTop (mkF m 47 #[.val (.int c'), .unset] [(.int c')])) _
                  refine X0.ldcInt hx hown (mvT hZ (hw _ (List.mem_of_getElem? (i := 6) rfl))) (g := (mkF m 47 #[.val (.int c'), .unset] [(.int c')])) rfl (hb hby d2_47) _ ?_
                  exact kt
                by_cases hc49_40 : c' = (65534 : Int32)
                · obtain ⟨fs, hr, hrun, hended, hW, hsame⟩ := X0.leave (v := some (.int (0 : Int32))) (fun h => by rw [Bd.returns] at h; cases h)
                  refine ⟨_, _, pre39 _ ?_, hrun, hended, _, _, rfl, ?_, ⟨_, rfl⟩, hW, hsame.mono (by decide) (by decide)⟩
                  · show Steps p.tables e below (s₁.setTop (mkF m 49 #[.val (.int c'), .unset] [(.int (65534 : Int32)), (.int c')])) _
                    refine XS.icmpYes X0.here hx rfl (pc0 := 49) (pc' := 58) rfl (hb hby d2_49) rfl (teq hc49_40).1 (by decide) (by decide) ?_
                    show Steps p.tables e below (s₁.setTop (mkF m 58 #[.val (.int c'), .unset] [])) _
                    refine XS.iconst X0.here hx rfl (hb hby d2_58) ?_
                    show Steps p.tables e below (s₁.setTop (mkF m 59 #[.val (.int c'), .unset] [(.int (1 : Int32))])) _
                    refine XS.goto X0.here hx rfl (pc0 := 59) (pc' := 63) rfl (hb hby d2_59) (by decide) (by decide) ?_
                    show Steps p.tables e below (s₁.setTop (mkF m 63 #[.val (.int c'), .unset] [(.int (1 : Int32))])) _
                    refine XS.istoreN X0.here hx rfl (hb hby d2_63) rfl (l' := #[.val (.int c'), .val (.int (1 : Int32))]) rfl ?_
                    show Steps p.tables e below (s₁.setTop (mkF m 64 #[.val (.int c'), .val (.int (1 : Int32))] [])) _
                    refine XS.iloadN X0.here hx rfl (hb hby d2_64) rfl ?_
                    show Steps p.tables e below (s₁.setTop (mkF m 65 #[.val (.int c'), .val (.int (1 : Int32))] [(.int (1 : Int32))])) _
                    refine XS.ifYes X0.here hx rfl (pc0 := 65) (pc' := 72) rfl (hb hby d2_65) rfl ((if0 _ _).trans (feq (by decide : ¬ ((1 : Int32) = (0 : Int32)))).2) (by decide) (by decide) ?_
                    show Steps p.tables e below (s₁.setTop (mkF m 72 #[.val (.int c'), .val (.int (1 : Int32))] [])) _
                    refine XS.iconst X0.here hx rfl (hb hby d2_72) ?_
                    show Steps p.tables e below (s₁.setTop (mkF m 73 #[.val (.int c'), .val (.int (1 : Int32))] [(.int (0 : Int32))])) _
                    exact retN X0 hx (t := .boolean) Bd.returns (by simp) (hb hby d2_73) hr
                  · show Q2 Z c' h0 n0 _ s₁.heap _
                    rw [e0]
                    exact ⟨by rw [own_exp, if_neg hc1_2, if_neg hc7_4, if_pos hc13_6, if_neg hc19_8, if_neg hc25_22, if_pos hc31_36, if_pos hc37_38, if_pos hc49_40], N0, rfl⟩
                · have pre41 : ∀ t, Steps p.tables e below (s₁.setTop (mkF m 55 #[.val (.int c'), .unset] [(.int (65535 : Int32)), (.int c')])) t → Steps p.tables e below (s₁.setTop (entryFrame m #[(.int c')] 2)) t := by
                    intro t kt
                    refine pre39 t ?_
                    show Steps p.tables e below (s₁.setTop (mkF m 49 #[.val (.int c'), .unset] [(.int (65534 : Int32)), (.int c')])) _
                    refine XS.icmpNo X0.here hx rfl (hb hby d2_49) rfl (feq hc49_40).1 ?_
                    show Steps p.tables e below (s₁.setTop (mkF m 52 #[.val (.int c'), .unset] [])) _
                    refine XS.iloadN X0.here hx rfl (hb hby d2_52) rfl ?_
                    show Steps p.tables e below (s₁.setTop (mkF m 53 #[.val (.int c'), .unset] [(.int c')])) _
                    refine X0.ldcInt hx hown (mvT hZ (hw _ (List.mem_of_getElem? (i := 7) rfl))) (g := (mkF m 53 #[.val (.int c'), .unset] [(.int c')])) rfl (hb hby d2_53) _ ?_
                    exact kt
                  by_cases hc55_42 : c' = (65535 : Int32)
                  · obtain ⟨fs, hr, hrun, hended, hW, hsame⟩ := X0.leave (v := some (.int (0 : Int32))) (fun h => by rw [Bd.returns] at h; cases h)
                    refine ⟨_, _, pre41 _ ?_, hrun, hended, _, _, rfl, ?_, ⟨_, rfl⟩, hW, hsame.mono (by decide) (by decide)⟩
                    · show Steps p.tables e below (s₁.setTop (mkF m 55 #[.val (.int c'), .unset] [(.int (65535 : Int32)), (.int c')])) _
                      refine XS.icmpNo X0.here hx rfl (hb hby d2_55) rfl (teq hc55_42).2 ?_
                      show Steps p.tables e below (s₁.setTop (mkF m 58 #[.val (.int c'), .unset] [])) _
                      refine XS.iconst X0.here hx rfl (hb hby d2_58) ?_
                      show Steps p.tables e below (s₁.setTop (mkF m 59 #[.val (.int c'), .unset] [(.int (1 : Int32))])) _
                      refine XS.goto X0.here hx rfl (pc0 := 59) (pc' := 63) rfl (hb hby d2_59) (by decide) (by decide) ?_
                      show Steps p.tables e below (s₁.setTop (mkF m 63 #[.val (.int c'), .unset] [(.int (1 : Int32))])) _
                      refine XS.istoreN X0.here hx rfl (hb hby d2_63) rfl (l' := #[.val (.int c'), .val (.int (1 : Int32))]) rfl ?_
                      show Steps p.tables e below (s₁.setTop (mkF m 64 #[.val (.int c'), .val (.int (1 : Int32))] [])) _
                      refine XS.iloadN X0.here hx rfl (hb hby d2_64) rfl ?_
                      show Steps p.tables e below (s₁.setTop (mkF m 65 #[.val (.int c'), .val (.int (1 : Int32))] [(.int (1 : Int32))])) _
                      refine XS.ifYes X0.here hx rfl (pc0 := 65) (pc' := 72) rfl (hb hby d2_65) rfl ((if0 _ _).trans (feq (by decide : ¬ ((1 : Int32) = (0 : Int32)))).2) (by decide) (by decide) ?_
                      show Steps p.tables e below (s₁.setTop (mkF m 72 #[.val (.int c'), .val (.int (1 : Int32))] [])) _
                      refine XS.iconst X0.here hx rfl (hb hby d2_72) ?_
                      show Steps p.tables e below (s₁.setTop (mkF m 73 #[.val (.int c'), .val (.int (1 : Int32))] [(.int (0 : Int32))])) _
                      exact retN X0 hx (t := .boolean) Bd.returns (by simp) (hb hby d2_73) hr
                    · show Q2 Z c' h0 n0 _ s₁.heap _
                      rw [e0]
                      exact ⟨by rw [own_exp, if_neg hc1_2, if_neg hc7_4, if_pos hc13_6, if_neg hc19_8, if_neg hc25_22, if_pos hc31_36, if_pos hc37_38, if_neg hc49_40, if_pos hc55_42], N0, rfl⟩
                  · obtain ⟨fs, hr, hrun, hended, hW, hsame⟩ := X0.leave (v := some (.int (1 : Int32))) (fun h => by rw [Bd.returns] at h; cases h)
                    refine ⟨_, _, pre41 _ ?_, hrun, hended, _, _, rfl, ?_, ⟨_, rfl⟩, hW, hsame.mono (by decide) (by decide)⟩
                    · show Steps p.tables e below (s₁.setTop (mkF m 55 #[.val (.int c'), .unset] [(.int (65535 : Int32)), (.int c')])) _
                      refine XS.icmpYes X0.here hx rfl (pc0 := 55) (pc' := 62) rfl (hb hby d2_55) rfl (feq hc55_42).2 (by decide) (by decide) ?_
                      show Steps p.tables e below (s₁.setTop (mkF m 62 #[.val (.int c'), .unset] [])) _
                      refine XS.iconst X0.here hx rfl (hb hby d2_62) ?_
                      show Steps p.tables e below (s₁.setTop (mkF m 63 #[.val (.int c'), .unset] [(.int (0 : Int32))])) _
                      refine XS.istoreN X0.here hx rfl (hb hby d2_63) rfl (l' := #[.val (.int c'), .val (.int (0 : Int32))]) rfl ?_
                      show Steps p.tables e below (s₁.setTop (mkF m 64 #[.val (.int c'), .val (.int (0 : Int32))] [])) _
                      refine XS.iloadN X0.here hx rfl (hb hby d2_64) rfl ?_
                      show Steps p.tables e below (s₁.setTop (mkF m 65 #[.val (.int c'), .val (.int (0 : Int32))] [(.int (0 : Int32))])) _
                      refine XS.ifNo X0.here hx rfl (hb hby d2_65) rfl ((if0 _ _).trans (teq (by decide : (0 : Int32) = (0 : Int32))).2) ?_
                      show Steps p.tables e below (s₁.setTop (mkF m 68 #[.val (.int c'), .val (.int (0 : Int32))] [])) _
                      refine XS.iconst X0.here hx rfl (hb hby d2_68) ?_
                      show Steps p.tables e below (s₁.setTop (mkF m 69 #[.val (.int c'), .val (.int (0 : Int32))] [(.int (1 : Int32))])) _
                      refine XS.goto X0.here hx rfl (pc0 := 69) (pc' := 73) rfl (hb hby d2_69) (by decide) (by decide) ?_
                      show Steps p.tables e below (s₁.setTop (mkF m 73 #[.val (.int c'), .val (.int (0 : Int32))] [(.int (1 : Int32))])) _
                      exact retN X0 hx (t := .boolean) Bd.returns (by simp) (hb hby d2_73) hr
                    · show Q2 Z c' h0 n0 _ s₁.heap _
                      rw [e0]
                      exact ⟨by rw [own_exp, if_neg hc1_2, if_neg hc7_4, if_pos hc13_6, if_neg hc19_8, if_neg hc25_22, if_pos hc31_36, if_pos hc37_38, if_neg hc49_40, if_neg hc55_42], N0, rfl⟩
              · have pre43 : ∀ t, Steps p.tables e below (s₁.setTop (mkF m 43 #[.val (.int c'), .unset] [(.int (57343 : Int32)), (.int c')])) t → Steps p.tables e below (s₁.setTop (entryFrame m #[(.int c')] 2)) t := by
                  intro t kt
                  refine pre37 t ?_
                  show Steps p.tables e below (s₁.setTop (mkF m 37 #[.val (.int c'), .unset] [(.int (55296 : Int32)), (.int c')])) _
                  refine XS.icmpNo X0.here hx rfl (hb hby d2_37) rfl (flt hc37_38).1 ?_
                  show Steps p.tables e below (s₁.setTop (mkF m 40 #[.val (.int c'), .unset] [])) _
                  refine XS.iloadN X0.here hx rfl (hb hby d2_40) rfl ?_
                  show Steps p.tables e below (s₁.setTop (mkF m 41 #[.val (.int c'), .unset] [(.int c')])) _
                  refine X0.ldcInt hx hown (mvT hZ (hw _ (List.mem_of_getElem? (i := 3) rfl))) (g := (mkF m 41 #[.val (.int c'), .unset] [(.int c')])) rfl (hb hby d2_41) _ ?_
                  exact kt
                by_cases hc43_44 : (57343 : Int32) < c'
                · have pre45 : ∀ t, Steps p.tables e below (s₁.setTop (mkF m 49 #[.val (.int c'), .unset] [(.int (65534 : Int32)), (.int c')])) t → Steps p.tables e below (s₁.setTop (entryFrame m #[(.int c')] 2)) t := by
                    intro t kt
                    refine pre43 t ?_
                    show Steps p.tables e below (s₁.setTop (mkF m 43 #[.val (.int c'), .unset] [(.int (57343 : Int32)), (.int c')])) _
                    refine XS.icmpNo X0.here hx rfl (hb hby d2_43) rfl (tlt hc43_44).2.2.2 ?_
                    show Steps p.tables e below (s₁.setTop (mkF m 46 #[.val (.int c'), .unset] [])) _
                    refine XS.iloadN X0.here hx rfl (hb hby d2_46) rfl ?_
                    show Steps p.tables e below (s₁.setTop (mkF m 47 #[.val (.int c'), .unset] [(.int c')])) _
                    refine X0.ldcInt hx hown (mvT hZ (hw _ (List.mem_of_getElem? (i := 6) rfl))) (g := (mkF m 47 #[.val (.int c'), .unset] [(.int c')])) rfl (hb hby d2_47) _ ?_
                    exact kt
                  by_cases hc49_46 : c' = (65534 : Int32)
                  · obtain ⟨fs, hr, hrun, hended, hW, hsame⟩ := X0.leave (v := some (.int (0 : Int32))) (fun h => by rw [Bd.returns] at h; cases h)
                    refine ⟨_, _, pre45 _ ?_, hrun, hended, _, _, rfl, ?_, ⟨_, rfl⟩, hW, hsame.mono (by decide) (by decide)⟩
                    · show Steps p.tables e below (s₁.setTop (mkF m 49 #[.val (.int c'), .unset] [(.int (65534 : Int32)), (.int c')])) _
                      refine XS.icmpYes X0.here hx rfl (pc0 := 49) (pc' := 58) rfl (hb hby d2_49) rfl (teq hc49_46).1 (by decide) (by decide) ?_
                      show Steps p.tables e below (s₁.setTop (mkF m 58 #[.val (.int c'), .unset] [])) _
                      refine XS.iconst X0.here hx rfl (hb hby d2_58) ?_
                      show Steps p.tables e below (s₁.setTop (mkF m 59 #[.val (.int c'), .unset] [(.int (1 : Int32))])) _
                      refine XS.goto X0.here hx rfl (pc0 := 59) (pc' := 63) rfl (hb hby d2_59) (by decide) (by decide) ?_
                      show Steps p.tables e below (s₁.setTop (mkF m 63 #[.val (.int c'), .unset] [(.int (1 : Int32))])) _
                      refine XS.istoreN X0.here hx rfl (hb hby d2_63) rfl (l' := #[.val (.int c'), .val (.int (1 : Int32))]) rfl ?_
                      show Steps p.tables e below (s₁.setTop (mkF m 64 #[.val (.int c'), .val (.int (1 : Int32))] [])) _
                      refine XS.iloadN X0.here hx rfl (hb hby d2_64) rfl ?_
                      show Steps p.tables e below (s₁.setTop (mkF m 65 #[.val (.int c'), .val (.int (1 : Int32))] [(.int (1 : Int32))])) _
                      refine XS.ifYes X0.here hx rfl (pc0 := 65) (pc' := 72) rfl (hb hby d2_65) rfl ((if0 _ _).trans (feq (by decide : ¬ ((1 : Int32) = (0 : Int32)))).2) (by decide) (by decide) ?_
                      show Steps p.tables e below (s₁.setTop (mkF m 72 #[.val (.int c'), .val (.int (1 : Int32))] [])) _
                      refine XS.iconst X0.here hx rfl (hb hby d2_72) ?_
                      show Steps p.tables e below (s₁.setTop (mkF m 73 #[.val (.int c'), .val (.int (1 : Int32))] [(.int (0 : Int32))])) _
                      exact retN X0 hx (t := .boolean) Bd.returns (by simp) (hb hby d2_73) hr
                    · show Q2 Z c' h0 n0 _ s₁.heap _
                      rw [e0]
                      exact ⟨by rw [own_exp, if_neg hc1_2, if_neg hc7_4, if_pos hc13_6, if_neg hc19_8, if_neg hc25_22, if_pos hc31_36, if_neg hc37_38, if_pos hc43_44, if_pos hc49_46], N0, rfl⟩
                  · have pre47 : ∀ t, Steps p.tables e below (s₁.setTop (mkF m 55 #[.val (.int c'), .unset] [(.int (65535 : Int32)), (.int c')])) t → Steps p.tables e below (s₁.setTop (entryFrame m #[(.int c')] 2)) t := by
                      intro t kt
                      refine pre45 t ?_
                      show Steps p.tables e below (s₁.setTop (mkF m 49 #[.val (.int c'), .unset] [(.int (65534 : Int32)), (.int c')])) _
                      refine XS.icmpNo X0.here hx rfl (hb hby d2_49) rfl (feq hc49_46).1 ?_
                      show Steps p.tables e below (s₁.setTop (mkF m 52 #[.val (.int c'), .unset] [])) _
                      refine XS.iloadN X0.here hx rfl (hb hby d2_52) rfl ?_
                      show Steps p.tables e below (s₁.setTop (mkF m 53 #[.val (.int c'), .unset] [(.int c')])) _
                      refine X0.ldcInt hx hown (mvT hZ (hw _ (List.mem_of_getElem? (i := 7) rfl))) (g := (mkF m 53 #[.val (.int c'), .unset] [(.int c')])) rfl (hb hby d2_53) _ ?_
                      exact kt
                    by_cases hc55_48 : c' = (65535 : Int32)
                    · obtain ⟨fs, hr, hrun, hended, hW, hsame⟩ := X0.leave (v := some (.int (0 : Int32))) (fun h => by rw [Bd.returns] at h; cases h)
                      refine ⟨_, _, pre47 _ ?_, hrun, hended, _, _, rfl, ?_, ⟨_, rfl⟩, hW, hsame.mono (by decide) (by decide)⟩
                      · show Steps p.tables e below (s₁.setTop (mkF m 55 #[.val (.int c'), .unset] [(.int (65535 : Int32)), (.int c')])) _
                        refine XS.icmpNo X0.here hx rfl (hb hby d2_55) rfl (teq hc55_48).2 ?_
                        show Steps p.tables e below (s₁.setTop (mkF m 58 #[.val (.int c'), .unset] [])) _
                        refine XS.iconst X0.here hx rfl (hb hby d2_58) ?_
                        show Steps p.tables e below (s₁.setTop (mkF m 59 #[.val (.int c'), .unset] [(.int (1 : Int32))])) _
                        refine XS.goto X0.here hx rfl (pc0 := 59) (pc' := 63) rfl (hb hby d2_59) (by decide) (by decide) ?_
                        show Steps p.tables e below (s₁.setTop (mkF m 63 #[.val (.int c'), .unset] [(.int (1 : Int32))])) _
                        refine XS.istoreN X0.here hx rfl (hb hby d2_63) rfl (l' := #[.val (.int c'), .val (.int (1 : Int32))]) rfl ?_
                        show Steps p.tables e below (s₁.setTop (mkF m 64 #[.val (.int c'), .val (.int (1 : Int32))] [])) _
                        refine XS.iloadN X0.here hx rfl (hb hby d2_64) rfl ?_
                        show Steps p.tables e below (s₁.setTop (mkF m 65 #[.val (.int c'), .val (.int (1 : Int32))] [(.int (1 : Int32))])) _
                        refine XS.ifYes X0.here hx rfl (pc0 := 65) (pc' := 72) rfl (hb hby d2_65) rfl ((if0 _ _).trans (feq (by decide : ¬ ((1 : Int32) = (0 : Int32)))).2) (by decide) (by decide) ?_
                        show Steps p.tables e below (s₁.setTop (mkF m 72 #[.val (.int c'), .val (.int (1 : Int32))] [])) _
                        refine XS.iconst X0.here hx rfl (hb hby d2_72) ?_
                        show Steps p.tables e below (s₁.setTop (mkF m 73 #[.val (.int c'), .val (.int (1 : Int32))] [(.int (0 : Int32))])) _
                        exact retN X0 hx (t := .boolean) Bd.returns (by simp) (hb hby d2_73) hr
                      · show Q2 Z c' h0 n0 _ s₁.heap _
                        rw [e0]
                        exact ⟨by rw [own_exp, if_neg hc1_2, if_neg hc7_4, if_pos hc13_6, if_neg hc19_8, if_neg hc25_22, if_pos hc31_36, if_neg hc37_38, if_pos hc43_44, if_neg hc49_46, if_pos hc55_48], N0, rfl⟩
                    · obtain ⟨fs, hr, hrun, hended, hW, hsame⟩ := X0.leave (v := some (.int (1 : Int32))) (fun h => by rw [Bd.returns] at h; cases h)
                      refine ⟨_, _, pre47 _ ?_, hrun, hended, _, _, rfl, ?_, ⟨_, rfl⟩, hW, hsame.mono (by decide) (by decide)⟩
                      · show Steps p.tables e below (s₁.setTop (mkF m 55 #[.val (.int c'), .unset] [(.int (65535 : Int32)), (.int c')])) _
                        refine XS.icmpYes X0.here hx rfl (pc0 := 55) (pc' := 62) rfl (hb hby d2_55) rfl (feq hc55_48).2 (by decide) (by decide) ?_
                        show Steps p.tables e below (s₁.setTop (mkF m 62 #[.val (.int c'), .unset] [])) _
                        refine XS.iconst X0.here hx rfl (hb hby d2_62) ?_
                        show Steps p.tables e below (s₁.setTop (mkF m 63 #[.val (.int c'), .unset] [(.int (0 : Int32))])) _
                        refine XS.istoreN X0.here hx rfl (hb hby d2_63) rfl (l' := #[.val (.int c'), .val (.int (0 : Int32))]) rfl ?_
                        show Steps p.tables e below (s₁.setTop (mkF m 64 #[.val (.int c'), .val (.int (0 : Int32))] [])) _
                        refine XS.iloadN X0.here hx rfl (hb hby d2_64) rfl ?_
                        show Steps p.tables e below (s₁.setTop (mkF m 65 #[.val (.int c'), .val (.int (0 : Int32))] [(.int (0 : Int32))])) _
                        refine XS.ifNo X0.here hx rfl (hb hby d2_65) rfl ((if0 _ _).trans (teq (by decide : (0 : Int32) = (0 : Int32))).2) ?_
                        show Steps p.tables e below (s₁.setTop (mkF m 68 #[.val (.int c'), .val (.int (0 : Int32))] [])) _
                        refine XS.iconst X0.here hx rfl (hb hby d2_68) ?_
                        show Steps p.tables e below (s₁.setTop (mkF m 69 #[.val (.int c'), .val (.int (0 : Int32))] [(.int (1 : Int32))])) _
                        refine XS.goto X0.here hx rfl (pc0 := 69) (pc' := 73) rfl (hb hby d2_69) (by decide) (by decide) ?_
                        show Steps p.tables e below (s₁.setTop (mkF m 73 #[.val (.int c'), .val (.int (0 : Int32))] [(.int (1 : Int32))])) _
                        exact retN X0 hx (t := .boolean) Bd.returns (by simp) (hb hby d2_73) hr
                      · show Q2 Z c' h0 n0 _ s₁.heap _
                        rw [e0]
                        exact ⟨by rw [own_exp, if_neg hc1_2, if_neg hc7_4, if_pos hc13_6, if_neg hc19_8, if_neg hc25_22, if_pos hc31_36, if_neg hc37_38, if_pos hc43_44, if_neg hc49_46, if_neg hc55_48], N0, rfl⟩
                · obtain ⟨fs, hr, hrun, hended, hW, hsame⟩ := X0.leave (v := some (.int (0 : Int32))) (fun h => by rw [Bd.returns] at h; cases h)
                  refine ⟨_, _, pre43 _ ?_, hrun, hended, _, _, rfl, ?_, ⟨_, rfl⟩, hW, hsame.mono (by decide) (by decide)⟩
                  · show Steps p.tables e below (s₁.setTop (mkF m 43 #[.val (.int c'), .unset] [(.int (57343 : Int32)), (.int c')])) _
                    refine XS.icmpYes X0.here hx rfl (pc0 := 43) (pc' := 58) rfl (hb hby d2_43) rfl (flt hc43_44).2.2.2 (by decide) (by decide) ?_
                    show Steps p.tables e below (s₁.setTop (mkF m 58 #[.val (.int c'), .unset] [])) _
                    refine XS.iconst X0.here hx rfl (hb hby d2_58) ?_
                    show Steps p.tables e below (s₁.setTop (mkF m 59 #[.val (.int c'), .unset] [(.int (1 : Int32))])) _
                    refine XS.goto X0.here hx rfl (pc0 := 59) (pc' := 63) rfl (hb hby d2_59) (by decide) (by decide) ?_
                    show Steps p.tables e below (s₁.setTop (mkF m 63 #[.val (.int c'), .unset] [(.int (1 : Int32))])) _
                    refine XS.istoreN X0.here hx rfl (hb hby d2_63) rfl (l' := #[.val (.int c'), .val (.int (1 : Int32))]) rfl ?_
                    show Steps p.tables e below (s₁.setTop (mkF m 64 #[.val (.int c'), .val (.int (1 : Int32))] [])) _
                    refine XS.iloadN X0.here hx rfl (hb hby d2_64) rfl ?_
                    show Steps p.tables e below (s₁.setTop (mkF m 65 #[.val (.int c'), .val (.int (1 : Int32))] [(.int (1 : Int32))])) _
                    refine XS.ifYes X0.here hx rfl (pc0 := 65) (pc' := 72) rfl (hb hby d2_65) rfl ((if0 _ _).trans (feq (by decide : ¬ ((1 : Int32) = (0 : Int32)))).2) (by decide) (by decide) ?_
                    show Steps p.tables e below (s₁.setTop (mkF m 72 #[.val (.int c'), .val (.int (1 : Int32))] [])) _
                    refine XS.iconst X0.here hx rfl (hb hby d2_72) ?_
                    show Steps p.tables e below (s₁.setTop (mkF m 73 #[.val (.int c'), .val (.int (1 : Int32))] [(.int (0 : Int32))])) _
                    exact retN X0 hx (t := .boolean) Bd.returns (by simp) (hb hby d2_73) hr
                  · show Q2 Z c' h0 n0 _ s₁.heap _
                    rw [e0]
                    exact ⟨by rw [own_exp, if_neg hc1_2, if_neg hc7_4, if_pos hc13_6, if_neg hc19_8, if_neg hc25_22, if_pos hc31_36, if_neg hc37_38, if_neg hc43_44], N0, rfl⟩
            · obtain ⟨fs, hr, hrun, hended, hW, hsame⟩ := X0.leave (v := some (.int (0 : Int32))) (fun h => by rw [Bd.returns] at h; cases h)
              refine ⟨_, _, pre35 _ ?_, hrun, hended, _, _, rfl, ?_, ⟨_, rfl⟩, hW, hsame.mono (by decide) (by decide)⟩
              · show Steps p.tables e below (s₁.setTop (mkF m 31 #[.val (.int c'), .unset] [(.int (13 : Int32)), (.int c')])) _
                refine XS.icmpYes X0.here hx rfl (pc0 := 31) (pc' := 58) rfl (hb hby d2_31) rfl (feq hc31_36).2 (by decide) (by decide) ?_
                show Steps p.tables e below (s₁.setTop (mkF m 58 #[.val (.int c'), .unset] [])) _
                refine XS.iconst X0.here hx rfl (hb hby d2_58) ?_
                show Steps p.tables e below (s₁.setTop (mkF m 59 #[.val (.int c'), .unset] [(.int (1 : Int32))])) _
                refine XS.goto X0.here hx rfl (pc0 := 59) (pc' := 63) rfl (hb hby d2_59) (by decide) (by decide) ?_
                show Steps p.tables e below (s₁.setTop (mkF m 63 #[.val (.int c'), .unset] [(.int (1 : Int32))])) _
                refine XS.istoreN X0.here hx rfl (hb hby d2_63) rfl (l' := #[.val (.int c'), .val (.int (1 : Int32))]) rfl ?_
                show Steps p.tables e below (s₁.setTop (mkF m 64 #[.val (.int c'), .val (.int (1 : Int32))] [])) _
                refine XS.iloadN X0.here hx rfl (hb hby d2_64) rfl ?_
                show Steps p.tables e below (s₁.setTop (mkF m 65 #[.val (.int c'), .val (.int (1 : Int32))] [(.int (1 : Int32))])) _
                refine XS.ifYes X0.here hx rfl (pc0 := 65) (pc' := 72) rfl (hb hby d2_65) rfl ((if0 _ _).trans (feq (by decide : ¬ ((1 : Int32) = (0 : Int32)))).2) (by decide) (by decide) ?_
                show Steps p.tables e below (s₁.setTop (mkF m 72 #[.val (.int c'), .val (.int (1 : Int32))] [])) _
                refine XS.iconst X0.here hx rfl (hb hby d2_72) ?_
                show Steps p.tables e below (s₁.setTop (mkF m 73 #[.val (.int c'), .val (.int (1 : Int32))] [(.int (0 : Int32))])) _
                exact retN X0 hx (t := .boolean) Bd.returns (by simp) (hb hby d2_73) hr
              · show Q2 Z c' h0 n0 _ s₁.heap _
                rw [e0]
                exact ⟨by rw [own_exp, if_neg hc1_2, if_neg hc7_4, if_pos hc13_6, if_neg hc19_8, if_neg hc25_22, if_neg hc31_36], N0, rfl⟩
      · have pre49 : ∀ t, Steps p.tables e below (s₁.setTop (mkF m 37 #[.val (.int c'), .unset] [(.int (55296 : Int32)), (.int c')])) t → Steps p.tables e below (s₁.setTop (entryFrame m #[(.int c')] 2)) t := by
          intro t kt
          refine pre5 t ?_
          show Steps p.tables e below (s₁.setTop (mkF m 13 #[.val (.int c'), .unset] [(.int (32 : Int32)), (.int c')])) _
          refine XS.icmpYes X0.here hx rfl (pc0 := 13) (pc' := 34) rfl (hb hby d2_13) rfl (flt hc13_6).2.1 (by decide) (by decide) ?_
          show Steps p.tables e below (s₁.setTop (mkF m 34 #[.val (.int c'), .unset] [])) _
          refine XS.iloadN X0.here hx rfl (hb hby d2_34) rfl ?_
          show Steps p.tables e below (s₁.setTop (mkF m 35 #[.val (.int c'), .unset] [(.int c')])) _
          refine X0.ldcInt hx hown (mvT hZ (hw _ (List.mem_of_getElem? (i := 2) rfl))) (g := (mkF m 35 #[.val (.int c'), .unset] [(.int c')])) rfl (hb hby d2_35) _ ?_
          exact kt
        by_cases hc37_50 : c' < (55296 : Int32)
        · have pre51 : ∀ t, Steps p.tables e below (s₁.setTop (mkF m 49 #[.val (.int c'), .unset] [(.int (65534 : Int32)), (.int c')])) t → Steps p.tables e below (s₁.setTop (entryFrame m #[(.int c')] 2)) t := by
            intro t kt
            refine pre49 t ?_
            show Steps p.tables e below (s₁.setTop (mkF m 37 #[.val (.int c'), .unset] [(.int (55296 : Int32)), (.int c')])) _
            refine XS.icmpYes X0.here hx rfl (pc0 := 37) (pc' := 46) rfl (hb hby d2_37) rfl (tlt hc37_50).1 (by decide) (by decide) ?_
            show Steps p.tables e below (s₁.setTop (mkF m 46 #[.val (.int c'), .unset] [])) _
            refine XS.iloadN X0.here hx rfl (hb hby d2_46) rfl ?_
            show Steps p.tables e below (s₁.setTop (mkF m 47 #[.val (.int c'), .unset] [(.int c')])) _
            refine X0.ldcInt hx hown (mvT hZ (hw _ (List.mem_of_getElem? (i := 6) rfl))) (g := (mkF m 47 #[.val (.int c'), .unset] [(.int c')])) rfl (hb hby d2_47) _ ?_
            exact kt
          by_cases hc49_52 : c' = (65534 : Int32)
          · obtain ⟨fs, hr, hrun, hended, hW, hsame⟩ := X0.leave (v := some (.int (0 : Int32))) (fun h => by rw [Bd.returns] at h; cases h)
            refine ⟨_, _, pre51 _ ?_, hrun, hended, _, _, rfl, ?_, ⟨_, rfl⟩, hW, hsame.mono (by decide) (by decide)⟩
            · show Steps p.tables e below (s₁.setTop (mkF m 49 #[.val (.int c'), .unset] [(.int (65534 : Int32)), (.int c')])) _
              refine XS.icmpYes X0.here hx rfl (pc0 := 49) (pc' := 58) rfl (hb hby d2_49) rfl (teq hc49_52).1 (by decide) (by decide) ?_
              show Steps p.tables e below (s₁.setTop (mkF m 58 #[.val (.int c'), .unset] [])) _
              refine XS.iconst X0.here hx rfl (hb hby d2_58) ?_
              show Steps p.tables e below (s₁.setTop (mkF m 59 #[.val (.int c'), .unset] [(.int (1 : Int32))])) _
              refine XS.goto X0.here hx rfl (pc0 := 59) (pc' := 63) rfl (hb hby d2_59) (by decide) (by decide) ?_
              show Steps p.tables e below (s₁.setTop (mkF m 63 #[.val (.int c'), .unset] [(.int (1 : Int32))])) _
              refine XS.istoreN X0.here hx rfl (hb hby d2_63) rfl (l' := #[.val (.int c'), .val (.int (1 : Int32))]) rfl ?_
              show Steps p.tables e below (s₁.setTop (mkF m 64 #[.val (.int c'), .val (.int (1 : Int32))] [])) _
              refine XS.iloadN X0.here hx rfl (hb hby d2_64) rfl ?_
              show Steps p.tables e below (s₁.setTop (mkF m 65 #[.val (.int c'), .val (.int (1 : Int32))] [(.int (1 : Int32))])) _
              refine XS.ifYes X0.here hx rfl (pc0 := 65) (pc' := 72) rfl (hb hby d2_65) rfl ((if0 _ _).trans (feq (by decide : ¬ ((1 : Int32) = (0 : Int32)))).2) (by decide) (by decide) ?_
              show Steps p.tables e below (s₁.setTop (mkF m 72 #[.val (.int c'), .val (.int (1 : Int32))] [])) _
              refine XS.iconst X0.here hx rfl (hb hby d2_72) ?_
              show Steps p.tables e below (s₁.setTop (mkF m 73 #[.val (.int c'), .val (.int (1 : Int32))] [(.int (0 : Int32))])) _
              exact retN X0 hx (t := .boolean) Bd.returns (by simp) (hb hby d2_73) hr
            · show Q2 Z c' h0 n0 _ s₁.heap _
              rw [e0]
              exact ⟨by rw [own_exp, if_neg hc1_2, if_neg hc7_4, if_neg hc13_6, if_pos hc37_50, if_pos hc49_52], N0, rfl⟩
          · have pre53 : ∀ t, Steps p.tables e below (s₁.setTop (mkF m 55 #[.val (.int c'), .unset] [(.int (65535 : Int32)), (.int c')])) t → Steps p.tables e below (s₁.setTop (entryFrame m #[(.int c')] 2)) t := by
              intro t kt
              refine pre51 t ?_
              show Steps p.tables e below (s₁.setTop (mkF m 49 #[.val (.int c'), .unset] [(.int (65534 : Int32)), (.int c')])) _
              refine XS.icmpNo X0.here hx rfl (hb hby d2_49) rfl (feq hc49_52).1 ?_
              show Steps p.tables e below (s₁.setTop (mkF m 52 #[.val (.int c'), .unset] [])) _
              refine XS.iloadN X0.here hx rfl (hb hby d2_52) rfl ?_
              show Steps p.tables e below (s₁.setTop (mkF m 53 #[.val (.int c'), .unset] [(.int c')])) _
              refine X0.ldcInt hx hown (mvT hZ (hw _ (List.mem_of_getElem? (i := 7) rfl))) (g := (mkF m 53 #[.val (.int c'), .unset] [(.int c')])) rfl (hb hby d2_53) _ ?_
              exact kt
            by_cases hc55_54 : c' = (65535 : Int32)
            · obtain ⟨fs, hr, hrun, hended, hW, hsame⟩ := X0.leave (v := some (.int (0 : Int32))) (fun h => by rw [Bd.returns] at h; cases h)
              refine ⟨_, _, pre53 _ ?_, hrun, hended, _, _, rfl, ?_, ⟨_, rfl⟩, hW, hsame.mono (by decide) (by decide)⟩
              · show Steps p.tables e below (s₁.setTop (mkF m 55 #[.val (.int c'), .unset] [(.int (65535 : Int32)), (.int c')])) _
                refine XS.icmpNo X0.here hx rfl (hb hby d2_55) rfl (teq hc55_54).2 ?_
                show Steps p.tables e below (s₁.setTop (mkF m 58 #[.val (.int c'), .unset] [])) _
                refine XS.iconst X0.here hx rfl (hb hby d2_58) ?_
                show Steps p.tables e below (s₁.setTop (mkF m 59 #[.val (.int c'), .unset] [(.int (1 : Int32))])) _
                refine XS.goto X0.here hx rfl (pc0 := 59) (pc' := 63) rfl (hb hby d2_59) (by decide) (by decide) ?_
                show Steps p.tables e below (s₁.setTop (mkF m 63 #[.val (.int c'), .unset] [(.int (1 : Int32))])) _
                refine XS.istoreN X0.here hx rfl (hb hby d2_63) rfl (l' := #[.val (.int c'), .val (.int (1 : Int32))]) rfl ?_
                show Steps p.tables e below (s₁.setTop (mkF m 64 #[.val (.int c'), .val (.int (1 : Int32))] [])) _
                refine XS.iloadN X0.here hx rfl (hb hby d2_64) rfl ?_
                show Steps p.tables e below (s₁.setTop (mkF m 65 #[.val (.int c'), .val (.int (1 : Int32))] [(.int (1 : Int32))])) _
                refine XS.ifYes X0.here hx rfl (pc0 := 65) (pc' := 72) rfl (hb hby d2_65) rfl ((if0 _ _).trans (feq (by decide : ¬ ((1 : Int32) = (0 : Int32)))).2) (by decide) (by decide) ?_
                show Steps p.tables e below (s₁.setTop (mkF m 72 #[.val (.int c'), .val (.int (1 : Int32))] [])) _
                refine XS.iconst X0.here hx rfl (hb hby d2_72) ?_
                show Steps p.tables e below (s₁.setTop (mkF m 73 #[.val (.int c'), .val (.int (1 : Int32))] [(.int (0 : Int32))])) _
                exact retN X0 hx (t := .boolean) Bd.returns (by simp) (hb hby d2_73) hr
              · show Q2 Z c' h0 n0 _ s₁.heap _
                rw [e0]
                exact ⟨by rw [own_exp, if_neg hc1_2, if_neg hc7_4, if_neg hc13_6, if_pos hc37_50, if_neg hc49_52, if_pos hc55_54], N0, rfl⟩
            · obtain ⟨fs, hr, hrun, hended, hW, hsame⟩ := X0.leave (v := some (.int (1 : Int32))) (fun h => by rw [Bd.returns] at h; cases h)
              refine ⟨_, _, pre53 _ ?_, hrun, hended, _, _, rfl, ?_, ⟨_, rfl⟩, hW, hsame.mono (by decide) (by decide)⟩
              · show Steps p.tables e below (s₁.setTop (mkF m 55 #[.val (.int c'), .unset] [(.int (65535 : Int32)), (.int c')])) _
                refine XS.icmpYes X0.here hx rfl (pc0 := 55) (pc' := 62) rfl (hb hby d2_55) rfl (feq hc55_54).2 (by decide) (by decide) ?_
                show Steps p.tables e below (s₁.setTop (mkF m 62 #[.val (.int c'), .unset] [])) _
                refine XS.iconst X0.here hx rfl (hb hby d2_62) ?_
                show Steps p.tables e below (s₁.setTop (mkF m 63 #[.val (.int c'), .unset] [(.int (0 : Int32))])) _
                refine XS.istoreN X0.here hx rfl (hb hby d2_63) rfl (l' := #[.val (.int c'), .val (.int (0 : Int32))]) rfl ?_
                show Steps p.tables e below (s₁.setTop (mkF m 64 #[.val (.int c'), .val (.int (0 : Int32))] [])) _
                refine XS.iloadN X0.here hx rfl (hb hby d2_64) rfl ?_
                show Steps p.tables e below (s₁.setTop (mkF m 65 #[.val (.int c'), .val (.int (0 : Int32))] [(.int (0 : Int32))])) _
                refine XS.ifNo X0.here hx rfl (hb hby d2_65) rfl ((if0 _ _).trans (teq (by decide : (0 : Int32) = (0 : Int32))).2) ?_
                show Steps p.tables e below (s₁.setTop (mkF m 68 #[.val (.int c'), .val (.int (0 : Int32))] [])) _
                refine XS.iconst X0.here hx rfl (hb hby d2_68) ?_
                show Steps p.tables e below (s₁.setTop (mkF m 69 #[.val (.int c'), .val (.int (0 : Int32))] [(.int (1 : Int32))])) _
                refine XS.goto X0.here hx rfl (pc0 := 69) (pc' := 73) rfl (hb hby d2_69) (by decide) (by decide) ?_
                show Steps p.tables e below (s₁.setTop (mkF m 73 #[.val (.int c'), .val (.int (0 : Int32))] [(.int (1 : Int32))])) _
                exact retN X0 hx (t := .boolean) Bd.returns (by simp) (hb hby d2_73) hr
              · show Q2 Z c' h0 n0 _ s₁.heap _
                rw [e0]
                exact ⟨by rw [own_exp, if_neg hc1_2, if_neg hc7_4, if_neg hc13_6, if_pos hc37_50, if_neg hc49_52, if_neg hc55_54], N0, rfl⟩
        · have pre55 : ∀ t, Steps p.tables e below (s₁.setTop (mkF m 43 #[.val (.int c'), .unset] [(.int (57343 : Int32)), (.int c')])) t → Steps p.tables e below (s₁.setTop (entryFrame m #[(.int c')] 2)) t := by
            intro t kt
            refine pre49 t ?_
            show Steps p.tables e below (s₁.setTop (mkF m 37 #[.val (.int c'), .unset] [(.int (55296 : Int32)), (.int c')])) _
            refine XS.icmpNo X0.here hx rfl (hb hby d2_37) rfl (flt hc37_50).1 ?_
            show Steps p.tables e below (s₁.setTop (mkF m 40 #[.val (.int c'), .unset] [])) _
            refine XS.iloadN X0.here hx rfl (hb hby d2_40) rfl ?_
            show Steps p.tables e below (s₁.setTop (mkF m 41 #[.val (.int c'), .unset] [(.int c')])) _
            refine X0.ldcInt hx hown (mvT hZ (hw _ (List.mem_of_getElem? (i := 3) rfl))) (g := (mkF m 41 #[.val (.int c'), .unset] [(.int c')])) rfl (hb hby d2_41) _ ?_
            exact kt
          by_cases hc43_56 : (57343 : Int32) < c'
          · have pre57 : ∀ t, Steps p.tables e below (s₁.setTop (mkF m 49 #[.val (.int c'), .unset] [(.int (65534 : Int32)), (.int c')])) t → Steps p.tables e below (s₁.setTop (entryFrame m #[(.int c')] 2)) t := by
              intro t kt
              refine pre55 t ?_
              show Steps p.tables e below (s₁.setTop (mkF m 43 #[.val (.int c'), .unset] [(.int (57343 : Int32)), (.int c')])) _
              refine XS.icmpNo X0.here hx rfl (hb hby d2_43) rfl (tlt hc43_56).2.2.2 ?_
              show Steps p.tables e below (s₁.setTop (mkF m 46 #[.val (.int c'), .unset] [])) _
              refine XS.iloadN X0.here hx rfl (hb hby d2_46) rfl ?_
              show Steps p.tables e below (s₁.setTop (mkF m 47 #[.val (.int c'), .unset] [(.int c')])) _
              refine X0.ldcInt hx hown (mvT hZ (hw _ (List.mem_of_getElem? (i := 6) rfl))) (g := (mkF m 47 #[.val (.int c'), .unset] [(.int c')])) rfl (hb hby d2_47) _ ?_
              exact kt
            by_cases hc49_58 : c' = (65534 : Int32)
            · obtain ⟨fs, hr, hrun, hended, hW, hsame⟩ := X0.leave (v := some (.int (0 : Int32))) (fun h => by rw [Bd.returns] at h; cases h)
              refine ⟨_, _, pre57 _ ?_, hrun, hended, _, _, rfl, ?_, ⟨_, rfl⟩, hW, hsame.mono (by decide) (by decide)⟩
              · show Steps p.tables e below (s₁.setTop (mkF m 49 #[.val (.int c'), .unset] [(.int (65534 : Int32)), (.int c')])) _
                refine XS.icmpYes X0.here hx rfl (pc0 := 49) (pc' := 58) rfl (hb hby d2_49) rfl (teq hc49_58).1 (by decide) (by decide) ?_
                show Steps p.tables e below (s₁.setTop (mkF m 58 #[.val (.int c'), .unset] [])) _
                refine XS.iconst X0.here hx rfl (hb hby d2_58) ?_
                show Steps p.tables e below (s₁.setTop (mkF m 59 #[.val (.int c'), .unset] [(.int (1 : Int32))])) _
                refine XS.goto X0.here hx rfl (pc0 := 59) (pc' := 63) rfl (hb hby d2_59) (by decide) (by decide) ?_
                show Steps p.tables e below (s₁.setTop (mkF m 63 #[.val (.int c'), .unset] [(.int (1 : Int32))])) _
                refine XS.istoreN X0.here hx rfl (hb hby d2_63) rfl (l' := #[.val (.int c'), .val (.int (1 : Int32))]) rfl ?_
                show Steps p.tables e below (s₁.setTop (mkF m 64 #[.val (.int c'), .val (.int (1 : Int32))] [])) _
                refine XS.iloadN X0.here hx rfl (hb hby d2_64) rfl ?_
                show Steps p.tables e below (s₁.setTop (mkF m 65 #[.val (.int c'), .val (.int (1 : Int32))] [(.int (1 : Int32))])) _
                refine XS.ifYes X0.here hx rfl (pc0 := 65) (pc' := 72) rfl (hb hby d2_65) rfl ((if0 _ _).trans (feq (by decide : ¬ ((1 : Int32) = (0 : Int32)))).2) (by decide) (by decide) ?_
                show Steps p.tables e below (s₁.setTop (mkF m 72 #[.val (.int c'), .val (.int (1 : Int32))] [])) _
                refine XS.iconst X0.here hx rfl (hb hby d2_72) ?_
                show Steps p.tables e below (s₁.setTop (mkF m 73 #[.val (.int c'), .val (.int (1 : Int32))] [(.int (0 : Int32))])) _
                exact retN X0 hx (t := .boolean) Bd.returns (by simp) (hb hby d2_73) hr
              · show Q2 Z c' h0 n0 _ s₁.heap _
                rw [e0]
                exact ⟨by rw [own_exp, if_neg hc1_2, if_neg hc7_4, if_neg hc13_6, if_neg hc37_50, if_pos hc43_56, if_pos hc49_58], N0, rfl⟩
            · have pre59 : ∀ t, Steps p.tables e below (s₁.setTop (mkF m 55 #[.val (.int c'), .unset] [(.int (65535 : Int32)), (.int c')])) t → Steps p.tables e below (s₁.setTop (entryFrame m #[(.int c')] 2)) t := by
                intro t kt
                refine pre57 t ?_
                show Steps p.tables e below (s₁.setTop (mkF m 49 #[.val (.int c'), .unset] [(.int (65534 : Int32)), (.int c')])) _
                refine XS.icmpNo X0.here hx rfl (hb hby d2_49) rfl (feq hc49_58).1 ?_
                show Steps p.tables e below (s₁.setTop (mkF m 52 #[.val (.int c'), .unset] [])) _
                refine XS.iloadN X0.here hx rfl (hb hby d2_52) rfl ?_
                show Steps p.tables e below (s₁.setTop (mkF m 53 #[.val (.int c'), .unset] [(.int c')])) _
                refine X0.ldcInt hx hown (mvT hZ (hw _ (List.mem_of_getElem? (i := 7) rfl))) (g := (mkF m 53 #[.val (.int c'), .unset] [(.int c')])) rfl (hb hby d2_53) _ ?_
                exact kt
              by_cases hc55_60 : c' = (65535 : Int32)
              · obtain ⟨fs, hr, hrun, hended, hW, hsame⟩ := X0.leave (v := some (.int (0 : Int32))) (fun h => by rw [Bd.returns] at h; cases h)
                refine ⟨_, _, pre59 _ ?_, hrun, hended, _, _, rfl, ?_, ⟨_, rfl⟩, hW, hsame.mono (by decide) (by decide)⟩
                · show Steps p.tables e below (s₁.setTop (mkF m 55 #[.val (.int c'), .unset] [(.int (65535 : Int32)), (.int c')])) _
                  refine XS.icmpNo X0.here hx rfl (hb hby d2_55) rfl (teq hc55_60).2 ?_
                  show Steps p.tables e below (s₁.setTop (mkF m 58 #[.val (.int c'), .unset] [])) _
                  refine XS.iconst X0.here hx rfl (hb hby d2_58) ?_
                  show Steps p.tables e below (s₁.setTop (mkF m 59 #[.val (.int c'), .unset] [(.int (1 : Int32))])) _
                  refine XS.goto X0.here hx rfl (pc0 := 59) (pc' := 63) rfl (hb hby d2_59) (by decide) (by decide) ?_
                  show Steps p.tables e below (s₁.setTop (mkF m 63 #[.val (.int c'), .unset] [(.int (1 : Int32))])) _
                  refine XS.istoreN X0.here hx rfl (hb hby d2_63) rfl (l' := #[.val (.int c'), .val (.int (1 : Int32))]) rfl ?_
                  show Steps p.tables e below (s₁.setTop (mkF m 64 #[.val (.int c'), .val (.int (1 : Int32))] [])) _
                  refine XS.iloadN X0.here hx rfl (hb hby d2_64) rfl ?_
                  show Steps p.tables e below (s₁.setTop (mkF m 65 #[.val (.int c'), .val (.int (1 : Int32))] [(.int (1 : Int32))])) _
                  refine XS.ifYes X0.here hx rfl (pc0 := 65) (pc' := 72) rfl (hb hby d2_65) rfl ((if0 _ _).trans (feq (by decide : ¬ ((1 : Int32) = (0 : Int32)))).2) (by decide) (by decide) ?_
                  show Steps p.tables e below (s₁.setTop (mkF m 72 #[.val (.int c'), .val (.int (1 : Int32))] [])) _
                  refine XS.iconst X0.here hx rfl (hb hby d2_72) ?_
                  show Steps p.tables e below (s₁.setTop (mkF m 73 #[.val (.int c'), .val (.int (1 : Int32))] [(.int (0 : Int32))])) _
                  exact retN X0 hx (t := .boolean) Bd.returns (by simp) (hb hby d2_73) hr
                · show Q2 Z c' h0 n0 _ s₁.heap _
                  rw [e0]
                  exact ⟨by rw [own_exp, if_neg hc1_2, if_neg hc7_4, if_neg hc13_6, if_neg hc37_50, if_pos hc43_56, if_neg hc49_58, if_pos hc55_60], N0, rfl⟩
              · obtain ⟨fs, hr, hrun, hended, hW, hsame⟩ := X0.leave (v := some (.int (1 : Int32))) (fun h => by rw [Bd.returns] at h; cases h)
                refine ⟨_, _, pre59 _ ?_, hrun, hended, _, _, rfl, ?_, ⟨_, rfl⟩, hW, hsame.mono (by decide) (by decide)⟩
                · show Steps p.tables e below (s₁.setTop (mkF m 55 #[.val (.int c'), .unset] [(.int (65535 : Int32)), (.int c')])) _
                  refine XS.icmpYes X0.here hx rfl (pc0 := 55) (pc' := 62) rfl (hb hby d2_55) rfl (feq hc55_60).2 (by decide) (by decide) ?_
                  show Steps p.tables e below (s₁.setTop (mkF m 62 #[.val (.int c'), .unset] [])) _
                  refine XS.iconst X0.here hx rfl (hb hby d2_62) ?_
                  show Steps p.tables e below (s₁.setTop (mkF m 63 #[.val (.int c'), .unset] [(.int (0 : Int32))])) _
                  refine XS.istoreN X0.here hx rfl (hb hby d2_63) rfl (l' := #[.val (.int c'), .val (.int (0 : Int32))]) rfl ?_
                  show Steps p.tables e below (s₁.setTop (mkF m 64 #[.val (.int c'), .val (.int (0 : Int32))] [])) _
                  refine XS.iloadN X0.here hx rfl (hb hby d2_64) rfl ?_
                  show Steps p.tables e below (s₁.setTop (mkF m 65 #[.val (.int c'), .val (.int (0 : Int32))] [(.int (0 : Int32))])) _
                  refine XS.ifNo X0.here hx rfl (hb hby d2_65) rfl ((if0 _ _).trans (teq (by decide : (0 : Int32) = (0 : Int32))).2) ?_
                  show Steps p.tables e below (s₁.setTop (mkF m 68 #[.val (.int c'), .val (.int (0 : Int32))] [])) _
                  refine XS.iconst X0.here hx rfl (hb hby d2_68) ?_
                  show Steps p.tables e below (s₁.setTop (mkF m 69 #[.val (.int c'), .val (.int (0 : Int32))] [(.int (1 : Int32))])) _
                  refine XS.goto X0.here hx rfl (pc0 := 69) (pc' := 73) rfl (hb hby d2_69) (by decide) (by decide) ?_
                  show Steps p.tables e below (s₁.setTop (mkF m 73 #[.val (.int c'), .val (.int (0 : Int32))] [(.int (1 : Int32))])) _
                  exact retN X0 hx (t := .boolean) Bd.returns (by simp) (hb hby d2_73) hr
                · show Q2 Z c' h0 n0 _ s₁.heap _
                  rw [e0]
                  exact ⟨by rw [own_exp, if_neg hc1_2, if_neg hc7_4, if_neg hc13_6, if_neg hc37_50, if_pos hc43_56, if_neg hc49_58, if_neg hc55_60], N0, rfl⟩
          · obtain ⟨fs, hr, hrun, hended, hW, hsame⟩ := X0.leave (v := some (.int (0 : Int32))) (fun h => by rw [Bd.returns] at h; cases h)
            refine ⟨_, _, pre55 _ ?_, hrun, hended, _, _, rfl, ?_, ⟨_, rfl⟩, hW, hsame.mono (by decide) (by decide)⟩
            · show Steps p.tables e below (s₁.setTop (mkF m 43 #[.val (.int c'), .unset] [(.int (57343 : Int32)), (.int c')])) _
              refine XS.icmpYes X0.here hx rfl (pc0 := 43) (pc' := 58) rfl (hb hby d2_43) rfl (flt hc43_56).2.2.2 (by decide) (by decide) ?_
              show Steps p.tables e below (s₁.setTop (mkF m 58 #[.val (.int c'), .unset] [])) _
              refine XS.iconst X0.here hx rfl (hb hby d2_58) ?_
              show Steps p.tables e below (s₁.setTop (mkF m 59 #[.val (.int c'), .unset] [(.int (1 : Int32))])) _
              refine XS.goto X0.here hx rfl (pc0 := 59) (pc' := 63) rfl (hb hby d2_59) (by decide) (by decide) ?_
              show Steps p.tables e below (s₁.setTop (mkF m 63 #[.val (.int c'), .unset] [(.int (1 : Int32))])) _
              refine XS.istoreN X0.here hx rfl (hb hby d2_63) rfl (l' := #[.val (.int c'), .val (.int (1 : Int32))]) rfl ?_
              show Steps p.tables e below (s₁.setTop (mkF m 64 #[.val (.int c'), .val (.int (1 : Int32))] [])) _
              refine XS.iloadN X0.here hx rfl (hb hby d2_64) rfl ?_
              show Steps p.tables e below (s₁.setTop (mkF m 65 #[.val (.int c'), .val (.int (1 : Int32))] [(.int (1 : Int32))])) _
              refine XS.ifYes X0.here hx rfl (pc0 := 65) (pc' := 72) rfl (hb hby d2_65) rfl ((if0 _ _).trans (feq (by decide : ¬ ((1 : Int32) = (0 : Int32)))).2) (by decide) (by decide) ?_
              show Steps p.tables e below (s₁.setTop (mkF m 72 #[.val (.int c'), .val (.int (1 : Int32))] [])) _
              refine XS.iconst X0.here hx rfl (hb hby d2_72) ?_
              show Steps p.tables e below (s₁.setTop (mkF m 73 #[.val (.int c'), .val (.int (1 : Int32))] [(.int (0 : Int32))])) _
              exact retN X0 hx (t := .boolean) Bd.returns (by simp) (hb hby d2_73) hr
            · show Q2 Z c' h0 n0 _ s₁.heap _
              rw [e0]
              exact ⟨by rw [own_exp, if_neg hc1_2, if_neg hc7_4, if_neg hc13_6, if_neg hc37_50, if_neg hc43_56], N0, rfl⟩
theorem pn_0 : plainName "com/example/ledgermatch/ledgermatch/model/IdentifiersIsTextCharacterPinLaw" = true := by first | (simp [plainName, overriddenIn]; done) | decide +kernel
theorem pd0_0 : parseMethodDescriptor "(I)Z" = some ⟨[.int], some .boolean⟩ := by decide +kernel
theorem ef_0 (m : MethodId) (x0 : Int32) (x1 : Int32) (x2 : Int32) : entryFrame m #[(.int x0), (.int x1), (.int x2)] maxLocals = mkF m 0 #[.val (.int x0), .val (.int x1), .val (.int x2), .unset, .unset, .unset, .unset, .unset, .unset] [] := by first | (simp [entryFrame, mkF, argsToLocals, Value.category, maxLocals]; done) | rfl
def Q0 (Z : State) (x' : Int32) (y' : Int32) (z' : Int32) (h0 : Heap) (n0 : Nat) (v : Option Value) (h : Heap) (L : List Loc) : Prop := v = some (.int (1 : Int32)) ∧ Fr n0 L
set_option maxRecDepth 65536 in
set_option maxHeartbeats 40000000 in
theorem rm0 (l : Launch) (Z : State) (a0 : Array Value) (hw : ∀ d ∈ tables_1, d.before a0 Z = true) (ws : List Jvm.Cond) (x' : Int32) (y' : Int32) (z' : Int32) (h0 : Heap) (n0 : Nat) (Z0 : n0 ≤ h0.size)  :
    MetFree l x (head1 (Jvm.Cond.code x code maxLocals ret :: ws) room_1) (fun ar U => ar = #[(.int x'), (.int y'), (.int z')] ∧ Z.Warmed39 U.vm ∧ U.heap = h0) (fun _ _ _ _ _ => True) (fun _ U o U' => ∃ v L, o = .returned v ∧ Q0 Z x' y' z' h0 n0 v U'.heap L ∧ FrameEnd U o U' L room_1.cells room_1.slots) := by
  refine MetFree.of_bodySF (plainFor_of_name pn_0) hisR ?_
  intro p e s m args below meth c s₁ Bd hml0 hP hK
  obtain ⟨rfl, hZ, hh⟩ := hP
  have hx := Bd.exec
  have hby := Bd.bytes
  have hml : c.maxLocals = 9 := hml0
  have hown : s.vm.findClass "com/example/ledgermatch/ledgermatch/model/IdentifiersIsTextCharacterPinLaw" = some m.cls := findClass_of_methodNamed Bd.named
  have hnm := (name_of_methodNamed Bd.named Bd.method).1
  have X0 : Stand p l e room_1 s m #[(.int x'), (.int y'), (.int z')] below meth c s₁ [] 0 0 := Stand.of_body Bd
  have e0 : s₁.heap = h0 := by rw [← hh, Bd.state]; rfl
  have N0 := Fr.nil n0
  have K0 : Keep h0 h0 [] := Keep.refl h0 _
  have pre0 : ∀ t, Steps p.tables e below (s₁.setTop (mkF m 0 #[.val (.int x'), .val (.int y'), .val (.int z'), .unset, .unset, .unset, .unset, .unset, .unset] [])) t → Steps p.tables e below (s₁.setTop (entryFrame m #[(.int x'), (.int y'), (.int z')] maxLocals)) t := fun t k => castTop (ef_0 m x' y' z') k
  obtain ⟨T1, h1, k1, X1, e1, E1, A1, st1⟩ := newP X0 hx hZ (hw _ (List.mem_of_getElem? (i := 0) rfl)) e0 (g := (mkF m 2 #[.val (.int x'), .val (.int y'), .val (.int z'), .unset, .unset, .unset, .unset, .unset, .unset] [(.int (18 : Int32))])) rfl (hb hby at_2) rfl (by decide) (cap := 18) (by decide) (by decide) (by decide) (by decide)
  obtain ⟨b1, g1⟩ : ∃ z, z = h0.size := ⟨_, rfl⟩
  rw [← g1] at A1 st1
  have g_b1 : n0 ≤ b1 := Nat.le_trans Z0 (Nat.le_of_eq g1.symm)
  have sz_b1 : h0.size ≤ b1 := Nat.le_trans K0.1 (Nat.le_of_eq g1.symm)
  have Zs1 : n0 ≤ h1.size := Nat.le_trans Z0 E1.1
  have K1 : Keep h0 h1 [] := K0.ext E1
  have V_b1 : own_A Z h1 b1 .int (18 : Int32) (fun _ => 0) := own_A.new A1 (by decide) rfl
  obtain ⟨cl72, Ar72, S72, M72, H72⟩ := V_b1
  have hin72 : ¬ ((0 : Int32) < 0 ∨ cl72.slots.size ≤ ((0 : Int32)).toNatClampNeg) := inb_of S72 ⟨by decide, by decide⟩
  obtain ⟨T3, h3, X3, e3, W3, st3⟩ := stI X1 hx hZ e1 Ar72 (j := (0 : Int32)) hin72 (g := (mkF m 7 #[.val (.int x'), .val (.int y'), .val (.int z'), .unset, .unset, .unset, .unset, .unset, .unset] [(.int (0 : Int32)), (.int (0 : Int32)), (.ref b1), (.ref b1)])) rfl rfl (hb hby at_7)
  have Zs3 : n0 ≤ h3.size := Nat.le_trans Zs1 (Keep.of_wr W3).1
  have K3 : Keep h0 h3 [] := K1.wr W3 (Or.inr sz_b1)
  have N3 := Fr.snoc X3 N0 g_b1
  obtain ⟨f3, V_b1⟩ : ∃ f, own_A Z h3 b1 .int (18 : Int32) f := ⟨_, own_A.set Ar72 S72 M72 H72 W3⟩
  obtain ⟨cl124, Ar124, S124, M124, H124⟩ := V_b1
  have hin124 : ¬ ((1 : Int32) < 0 ∨ cl124.slots.size ≤ ((1 : Int32)).toNatClampNeg) := inb_of S124 ⟨by decide, by decide⟩
  obtain ⟨T5, h5, X5, e5, W5, st5⟩ := stI X3 hx hZ e3 Ar124 (j := (1 : Int32)) hin124 (g := (mkF m 12 #[.val (.int x'), .val (.int y'), .val (.int z'), .unset, .unset, .unset, .unset, .unset, .unset] [(.int (9 : Int32)), (.int (1 : Int32)), (.ref b1), (.ref b1)])) rfl rfl (hb hby at_12)
  have Zs5 : n0 ≤ h5.size := Nat.le_trans Zs3 (Keep.of_wr W5).1
  have K5 : Keep h0 h5 [] := K3.wr W5 (Or.inr sz_b1)
  have N5 := Fr.snoc X5 N3 g_b1
  obtain ⟨f5, V_b1⟩ : ∃ f, own_A Z h5 b1 .int (18 : Int32) f := ⟨_, own_A.set Ar124 S124 M124 H124 W5⟩
  obtain ⟨cl176, Ar176, S176, M176, H176⟩ := V_b1
  have hin176 : ¬ ((2 : Int32) < 0 ∨ cl176.slots.size ≤ ((2 : Int32)).toNatClampNeg) := inb_of S176 ⟨by decide, by decide⟩
  obtain ⟨T7, h7, X7, e7, W7, st7⟩ := stI X5 hx hZ e5 Ar176 (j := (2 : Int32)) hin176 (g := (mkF m 17 #[.val (.int x'), .val (.int y'), .val (.int z'), .unset, .unset, .unset, .unset, .unset, .unset] [(.int (10 : Int32)), (.int (2 : Int32)), (.ref b1), (.ref b1)])) rfl rfl (hb hby at_17)
  have Zs7 : n0 ≤ h7.size := Nat.le_trans Zs5 (Keep.of_wr W7).1
  have K7 : Keep h0 h7 [] := K5.wr W7 (Or.inr sz_b1)
  have N7 := Fr.snoc X7 N5 g_b1
  obtain ⟨f7, V_b1⟩ : ∃ f, own_A Z h7 b1 .int (18 : Int32) f := ⟨_, own_A.set Ar176 S176 M176 H176 W7⟩
  obtain ⟨cl228, Ar228, S228, M228, H228⟩ := V_b1
  have hin228 : ¬ ((3 : Int32) < 0 ∨ cl228.slots.size ≤ ((3 : Int32)).toNatClampNeg) := inb_of S228 ⟨by decide, by decide⟩
  obtain ⟨T9, h9, X9, e9, W9, st9⟩ := stI X7 hx hZ e7 Ar228 (j := (3 : Int32)) hin228 (g := (mkF m 22 #[.val (.int x'), .val (.int y'), .val (.int z'), .unset, .unset, .unset, .unset, .unset, .unset] [(.int (13 : Int32)), (.int (3 : Int32)), (.ref b1), (.ref b1)])) rfl rfl (hb hby at_22)
  have Zs9 : n0 ≤ h9.size := Nat.le_trans Zs7 (Keep.of_wr W9).1
  have K9 : Keep h0 h9 [] := K7.wr W9 (Or.inr sz_b1)
  have N9 := Fr.snoc X9 N7 g_b1
  obtain ⟨f9, V_b1⟩ : ∃ f, own_A Z h9 b1 .int (18 : Int32) f := ⟨_, own_A.set Ar228 S228 M228 H228 W9⟩
  obtain ⟨cl2710, Ar2710, S2710, M2710, H2710⟩ := V_b1
  have hin2710 : ¬ ((4 : Int32) < 0 ∨ cl2710.slots.size ≤ ((4 : Int32)).toNatClampNeg) := inb_of S2710 ⟨by decide, by decide⟩
  obtain ⟨T11, h11, X11, e11, W11, st11⟩ := stI X9 hx hZ e9 Ar2710 (j := (4 : Int32)) hin2710 (g := (mkF m 27 #[.val (.int x'), .val (.int y'), .val (.int z'), .unset, .unset, .unset, .unset, .unset, .unset] [(.int (32 : Int32)), (.int (4 : Int32)), (.ref b1), (.ref b1)])) rfl rfl (hb hby at_27)
  have Zs11 : n0 ≤ h11.size := Nat.le_trans Zs9 (Keep.of_wr W11).1
  have K11 : Keep h0 h11 [] := K9.wr W11 (Or.inr sz_b1)
  have N11 := Fr.snoc X11 N9 g_b1
  obtain ⟨f11, V_b1⟩ : ∃ f, own_A Z h11 b1 .int (18 : Int32) f := ⟨_, own_A.set Ar2710 S2710 M2710 H2710 W11⟩
  obtain ⟨cl3212, Ar3212, S3212, M3212, H3212⟩ := V_b1
  have hin3212 : ¬ ((5 : Int32) < 0 ∨ cl3212.slots.size ≤ ((5 : Int32)).toNatClampNeg) := inb_of S3212 ⟨by decide, by decide⟩
  obtain ⟨T13, h13, X13, e13, W13, st13⟩ := stI X11 hx hZ e11 Ar3212 (j := (5 : Int32)) hin3212 (g := (mkF m 32 #[.val (.int x'), .val (.int y'), .val (.int z'), .unset, .unset, .unset, .unset, .unset, .unset] [(.int (127 : Int32)), (.int (5 : Int32)), (.ref b1), (.ref b1)])) rfl rfl (hb hby at_32)
  have Zs13 : n0 ≤ h13.size := Nat.le_trans Zs11 (Keep.of_wr W13).1
  have K13 : Keep h0 h13 [] := K11.wr W13 (Or.inr sz_b1)
  have N13 := Fr.snoc X13 N11 g_b1
  obtain ⟨f13, V_b1⟩ : ∃ f, own_A Z h13 b1 .int (18 : Int32) f := ⟨_, own_A.set Ar3212 S3212 M3212 H3212 W13⟩
  obtain ⟨cl3814, Ar3814, S3814, M3814, H3814⟩ := V_b1
  have hin3814 : ¬ ((6 : Int32) < 0 ∨ cl3814.slots.size ≤ ((6 : Int32)).toNatClampNeg) := inb_of S3814 ⟨by decide, by decide⟩
  obtain ⟨T15, h15, X15, e15, W15, st15⟩ := stI X13 hx hZ e13 Ar3814 (j := (6 : Int32)) hin3814 (g := (mkF m 38 #[.val (.int x'), .val (.int y'), .val (.int z'), .unset, .unset, .unset, .unset, .unset, .unset] [(.int (55295 : Int32)), (.int (6 : Int32)), (.ref b1), (.ref b1)])) rfl rfl (hb hby at_38)
  have Zs15 : n0 ≤ h15.size := Nat.le_trans Zs13 (Keep.of_wr W15).1
  have K15 : Keep h0 h15 [] := K13.wr W15 (Or.inr sz_b1)
  have N15 := Fr.snoc X15 N13 g_b1
  obtain ⟨f15, V_b1⟩ : ∃ f, own_A Z h15 b1 .int (18 : Int32) f := ⟨_, own_A.set Ar3814 S3814 M3814 H3814 W15⟩
  obtain ⟨cl4416, Ar4416, S4416, M4416, H4416⟩ := V_b1
  have hin4416 : ¬ ((7 : Int32) < 0 ∨ cl4416.slots.size ≤ ((7 : Int32)).toNatClampNeg) := inb_of S4416 ⟨by decide, by decide⟩
  obtain ⟨T17, h17, X17, e17, W17, st17⟩ := stI X15 hx hZ e15 Ar4416 (j := (7 : Int32)) hin4416 (g := (mkF m 44 #[.val (.int x'), .val (.int y'), .val (.int z'), .unset, .unset, .unset, .unset, .unset, .unset] [(.int (55296 : Int32)), (.int (7 : Int32)), (.ref b1), (.ref b1)])) rfl rfl (hb hby at_44)
  have Zs17 : n0 ≤ h17.size := Nat.le_trans Zs15 (Keep.of_wr W17).1
  have K17 : Keep h0 h17 [] := K15.wr W17 (Or.inr sz_b1)
  have N17 := Fr.snoc X17 N15 g_b1
  obtain ⟨f17, V_b1⟩ : ∃ f, own_A Z h17 b1 .int (18 : Int32) f := ⟨_, own_A.set Ar4416 S4416 M4416 H4416 W17⟩
  obtain ⟨cl5018, Ar5018, S5018, M5018, H5018⟩ := V_b1
  have hin5018 : ¬ ((8 : Int32) < 0 ∨ cl5018.slots.size ≤ ((8 : Int32)).toNatClampNeg) := inb_of S5018 ⟨by decide, by decide⟩
  obtain ⟨T19, h19, X19, e19, W19, st19⟩ := stI X17 hx hZ e17 Ar5018 (j := (8 : Int32)) hin5018 (g := (mkF m 50 #[.val (.int x'), .val (.int y'), .val (.int z'), .unset, .unset, .unset, .unset, .unset, .unset] [(.int (57343 : Int32)), (.int (8 : Int32)), (.ref b1), (.ref b1)])) rfl rfl (hb hby at_50)
  have Zs19 : n0 ≤ h19.size := Nat.le_trans Zs17 (Keep.of_wr W19).1
  have K19 : Keep h0 h19 [] := K17.wr W19 (Or.inr sz_b1)
  have N19 := Fr.snoc X19 N17 g_b1
  obtain ⟨f19, V_b1⟩ : ∃ f, own_A Z h19 b1 .int (18 : Int32) f := ⟨_, own_A.set Ar5018 S5018 M5018 H5018 W19⟩
  obtain ⟨cl5620, Ar5620, S5620, M5620, H5620⟩ := V_b1
  have hin5620 : ¬ ((9 : Int32) < 0 ∨ cl5620.slots.size ≤ ((9 : Int32)).toNatClampNeg) := inb_of S5620 ⟨by decide, by decide⟩
  obtain ⟨T21, h21, X21, e21, W21, st21⟩ := stI X19 hx hZ e19 Ar5620 (j := (9 : Int32)) hin5620 (g := (mkF m 56 #[.val (.int x'), .val (.int y'), .val (.int z'), .unset, .unset, .unset, .unset, .unset, .unset] [(.int (57344 : Int32)), (.int (9 : Int32)), (.ref b1), (.ref b1)])) rfl rfl (hb hby at_56)
  have Zs21 : n0 ≤ h21.size := Nat.le_trans Zs19 (Keep.of_wr W21).1
  have K21 : Keep h0 h21 [] := K19.wr W21 (Or.inr sz_b1)
  have N21 := Fr.snoc X21 N19 g_b1
  obtain ⟨f21, V_b1⟩ : ∃ f, own_A Z h21 b1 .int (18 : Int32) f := ⟨_, own_A.set Ar5620 S5620 M5620 H5620 W21⟩
  obtain ⟨cl6222, Ar6222, S6222, M6222, H6222⟩ := V_b1
  have hin6222 : ¬ ((10 : Int32) < 0 ∨ cl6222.slots.size ≤ ((10 : Int32)).toNatClampNeg) := inb_of S6222 ⟨by decide, by decide⟩
  obtain ⟨T23, h23, X23, e23, W23, st23⟩ := stI X21 hx hZ e21 Ar6222 (j := (10 : Int32)) hin6222 (g := (mkF m 62 #[.val (.int x'), .val (.int y'), .val (.int z'), .unset, .unset, .unset, .unset, .unset, .unset] [(.int (65533 : Int32)), (.int (10 : Int32)), (.ref b1), (.ref b1)])) rfl rfl (hb hby at_62)
  have Zs23 : n0 ≤ h23.size := Nat.le_trans Zs21 (Keep.of_wr W23).1
  have K23 : Keep h0 h23 [] := K21.wr W23 (Or.inr sz_b1)
  have N23 := Fr.snoc X23 N21 g_b1
  obtain ⟨f23, V_b1⟩ : ∃ f, own_A Z h23 b1 .int (18 : Int32) f := ⟨_, own_A.set Ar6222 S6222 M6222 H6222 W23⟩
  obtain ⟨cl6824, Ar6824, S6824, M6824, H6824⟩ := V_b1
  have hin6824 : ¬ ((11 : Int32) < 0 ∨ cl6824.slots.size ≤ ((11 : Int32)).toNatClampNeg) := inb_of S6824 ⟨by decide, by decide⟩
  obtain ⟨T25, h25, X25, e25, W25, st25⟩ := stI X23 hx hZ e23 Ar6824 (j := (11 : Int32)) hin6824 (g := (mkF m 68 #[.val (.int x'), .val (.int y'), .val (.int z'), .unset, .unset, .unset, .unset, .unset, .unset] [(.int (65534 : Int32)), (.int (11 : Int32)), (.ref b1), (.ref b1)])) rfl rfl (hb hby at_68)
  have Zs25 : n0 ≤ h25.size := Nat.le_trans Zs23 (Keep.of_wr W25).1
  have K25 : Keep h0 h25 [] := K23.wr W25 (Or.inr sz_b1)
  have N25 := Fr.snoc X25 N23 g_b1
  obtain ⟨f25, V_b1⟩ : ∃ f, own_A Z h25 b1 .int (18 : Int32) f := ⟨_, own_A.set Ar6824 S6824 M6824 H6824 W25⟩
  obtain ⟨cl7426, Ar7426, S7426, M7426, H7426⟩ := V_b1
  have hin7426 : ¬ ((12 : Int32) < 0 ∨ cl7426.slots.size ≤ ((12 : Int32)).toNatClampNeg) := inb_of S7426 ⟨by decide, by decide⟩
  obtain ⟨T27, h27, X27, e27, W27, st27⟩ := stI X25 hx hZ e25 Ar7426 (j := (12 : Int32)) hin7426 (g := (mkF m 74 #[.val (.int x'), .val (.int y'), .val (.int z'), .unset, .unset, .unset, .unset, .unset, .unset] [(.int (65535 : Int32)), (.int (12 : Int32)), (.ref b1), (.ref b1)])) rfl rfl (hb hby at_74)
  have Zs27 : n0 ≤ h27.size := Nat.le_trans Zs25 (Keep.of_wr W27).1
  have K27 : Keep h0 h27 [] := K25.wr W27 (Or.inr sz_b1)
  have N27 := Fr.snoc X27 N25 g_b1
  obtain ⟨f27, V_b1⟩ : ∃ f, own_A Z h27 b1 .int (18 : Int32) f := ⟨_, own_A.set Ar7426 S7426 M7426 H7426 W27⟩
  obtain ⟨cl8028, Ar8028, S8028, M8028, H8028⟩ := V_b1
  have hin8028 : ¬ ((13 : Int32) < 0 ∨ cl8028.slots.size ≤ ((13 : Int32)).toNatClampNeg) := inb_of S8028 ⟨by decide, by decide⟩
  obtain ⟨T29, h29, X29, e29, W29, st29⟩ := stI X27 hx hZ e27 Ar8028 (j := (13 : Int32)) hin8028 (g := (mkF m 80 #[.val (.int x'), .val (.int y'), .val (.int z'), .unset, .unset, .unset, .unset, .unset, .unset] [(.int (65536 : Int32)), (.int (13 : Int32)), (.ref b1), (.ref b1)])) rfl rfl (hb hby at_80)
  have Zs29 : n0 ≤ h29.size := Nat.le_trans Zs27 (Keep.of_wr W29).1
  have K29 : Keep h0 h29 [] := K27.wr W29 (Or.inr sz_b1)
  have N29 := Fr.snoc X29 N27 g_b1
  obtain ⟨f29, V_b1⟩ : ∃ f, own_A Z h29 b1 .int (18 : Int32) f := ⟨_, own_A.set Ar8028 S8028 M8028 H8028 W29⟩
  obtain ⟨cl8630, Ar8630, S8630, M8630, H8630⟩ := V_b1
  have hin8630 : ¬ ((14 : Int32) < 0 ∨ cl8630.slots.size ≤ ((14 : Int32)).toNatClampNeg) := inb_of S8630 ⟨by decide, by decide⟩
  obtain ⟨T31, h31, X31, e31, W31, st31⟩ := stI X29 hx hZ e29 Ar8630 (j := (14 : Int32)) hin8630 (g := (mkF m 86 #[.val (.int x'), .val (.int y'), .val (.int z'), .unset, .unset, .unset, .unset, .unset, .unset] [(.int (1114111 : Int32)), (.int (14 : Int32)), (.ref b1), (.ref b1)])) rfl rfl (hb hby at_86)
  have Zs31 : n0 ≤ h31.size := Nat.le_trans Zs29 (Keep.of_wr W31).1
  have K31 : Keep h0 h31 [] := K29.wr W31 (Or.inr sz_b1)
  have N31 := Fr.snoc X31 N29 g_b1
  obtain ⟨f31, V_b1⟩ : ∃ f, own_A Z h31 b1 .int (18 : Int32) f := ⟨_, own_A.set Ar8630 S8630 M8630 H8630 W31⟩
  obtain ⟨cl9232, Ar9232, S9232, M9232, H9232⟩ := V_b1
  have hin9232 : ¬ ((15 : Int32) < 0 ∨ cl9232.slots.size ≤ ((15 : Int32)).toNatClampNeg) := inb_of S9232 ⟨by decide, by decide⟩
  obtain ⟨T33, h33, X33, e33, W33, st33⟩ := stI X31 hx hZ e31 Ar9232 (j := (15 : Int32)) hin9232 (g := (mkF m 92 #[.val (.int x'), .val (.int y'), .val (.int z'), .unset, .unset, .unset, .unset, .unset, .unset] [(.int (1114112 : Int32)), (.int (15 : Int32)), (.ref b1), (.ref b1)])) rfl rfl (hb hby at_92)
  have Zs33 : n0 ≤ h33.size := Nat.le_trans Zs31 (Keep.of_wr W33).1
  have K33 : Keep h0 h33 [] := K31.wr W33 (Or.inr sz_b1)
  have N33 := Fr.snoc X33 N31 g_b1
  obtain ⟨f33, V_b1⟩ : ∃ f, own_A Z h33 b1 .int (18 : Int32) f := ⟨_, own_A.set Ar9232 S9232 M9232 H9232 W33⟩
  obtain ⟨cl9834, Ar9834, S9834, M9834, H9834⟩ := V_b1
  have hin9834 : ¬ ((16 : Int32) < 0 ∨ cl9834.slots.size ≤ ((16 : Int32)).toNatClampNeg) := inb_of S9834 ⟨by decide, by decide⟩
  obtain ⟨T35, h35, X35, e35, W35, st35⟩ := stI X33 hx hZ e33 Ar9834 (j := (16 : Int32)) hin9834 (g := (mkF m 98 #[.val (.int x'), .val (.int y'), .val (.int z'), .unset, .unset, .unset, .unset, .unset, .unset] [(.int (-2147483648 : Int32)), (.int (16 : Int32)), (.ref b1), (.ref b1)])) rfl rfl (hb hby at_98)
  have Zs35 : n0 ≤ h35.size := Nat.le_trans Zs33 (Keep.of_wr W35).1
  have K35 : Keep h0 h35 [] := K33.wr W35 (Or.inr sz_b1)
  have N35 := Fr.snoc X35 N33 g_b1
  obtain ⟨f35, V_b1⟩ : ∃ f, own_A Z h35 b1 .int (18 : Int32) f := ⟨_, own_A.set Ar9834 S9834 M9834 H9834 W35⟩
  obtain ⟨cl10436, Ar10436, S10436, M10436, H10436⟩ := V_b1
  have hin10436 : ¬ ((17 : Int32) < 0 ∨ cl10436.slots.size ≤ ((17 : Int32)).toNatClampNeg) := inb_of S10436 ⟨by decide, by decide⟩
  obtain ⟨T37, h37, X37, e37, W37, st37⟩ := stI X35 hx hZ e35 Ar10436 (j := (17 : Int32)) hin10436 (g := (mkF m 104 #[.val (.int x'), .val (.int y'), .val (.int z'), .unset, .unset, .unset, .unset, .unset, .unset] [(.int (2147483647 : Int32)), (.int (17 : Int32)), (.ref b1), (.ref b1)])) rfl rfl (hb hby at_104)
  have Zs37 : n0 ≤ h37.size := Nat.le_trans Zs35 (Keep.of_wr W37).1
  have K37 : Keep h0 h37 [] := K35.wr W37 (Or.inr sz_b1)
  have N37 := Fr.snoc X37 N35 g_b1
  obtain ⟨f37, V_b1⟩ : ∃ f, own_A Z h37 b1 .int (18 : Int32) f := ⟨_, own_A.set Ar10436 S10436 M10436 H10436 W37⟩
  obtain ⟨cl11138, Ar11138, S11138, M11138, H11138⟩ := id V_b1
  obtain ⟨cl12839, Ar12839, S12839, M12839, H12839⟩ := id V_b1
  have hin12839 : ¬ (((y' &&& (2147483647 : Int32)) % (18 : Int32)) < 0 ∨ cl12839.slots.size ≤ (((y' &&& (2147483647 : Int32)) % (18 : Int32))).toNatClampNeg) := inb_of S12839 (own_i y')
  have hat12839 := own_A.at S12839 H12839 hin12839
  have pre40 : ∀ t, Steps p.tables e below (T37.setTop (mkF m 134 #[.val (.int x'), .val (.int y'), .val (.int z'), .val (.ref b1), .val (.int ((y' &&& (2147483647 : Int32)) % (18 : Int32))), .val (.int (((z' &&& (2147483647 : Int32)) % (5 : Int32)) - (2 : Int32))), .val (.int ((f37 (((y' &&& (2147483647 : Int32)) % (18 : Int32))).toNatClampNeg) + (((z' &&& (2147483647 : Int32)) % (5 : Int32)) - (2 : Int32)))), .unset, .unset] [])) t → Steps p.tables e below (s₁.setTop (entryFrame m #[(.int x'), (.int y'), (.int z')] maxLocals)) t := by
    intro t kt
    refine pre0 t ?_
    show Steps p.tables e below (s₁.setTop (mkF m 0 #[.val (.int x'), .val (.int y'), .val (.int z'), .unset, .unset, .unset, .unset, .unset, .unset] [])) _
    refine XS.bipush X0.here hx rfl (hb hby at_0) ?_
    show Steps p.tables e below (s₁.setTop (mkF m 2 #[.val (.int x'), .val (.int y'), .val (.int z'), .unset, .unset, .unset, .unset, .unset, .unset] [(.int (18 : Int32))])) _
    refine st1 _ ?_
    show Steps p.tables e below (T1.setTop (mkF m 4 #[.val (.int x'), .val (.int y'), .val (.int z'), .unset, .unset, .unset, .unset, .unset, .unset] [(.ref b1)])) _
    refine XS.dup X1.here hx rfl (hb hby at_4) rfl rfl ?_
    show Steps p.tables e below (T1.setTop (mkF m 5 #[.val (.int x'), .val (.int y'), .val (.int z'), .unset, .unset, .unset, .unset, .unset, .unset] [(.ref b1), (.ref b1)])) _
    refine XS.iconst X1.here hx rfl (hb hby at_5) ?_
    show Steps p.tables e below (T1.setTop (mkF m 6 #[.val (.int x'), .val (.int y'), .val (.int z'), .unset, .unset, .unset, .unset, .unset, .unset] [(.int (0 : Int32)), (.ref b1), (.ref b1)])) _
    refine XS.iconst X1.here hx rfl (hb hby at_6) ?_
    show Steps p.tables e below (T1.setTop (mkF m 7 #[.val (.int x'), .val (.int y'), .val (.int z'), .unset, .unset, .unset, .unset, .unset, .unset] [(.int (0 : Int32)), (.int (0 : Int32)), (.ref b1), (.ref b1)])) _
    refine st3 _ ?_
    show Steps p.tables e below (T3.setTop (mkF m 8 #[.val (.int x'), .val (.int y'), .val (.int z'), .unset, .unset, .unset, .unset, .unset, .unset] [(.ref b1)])) _
    refine XS.dup X3.here hx rfl (hb hby at_8) rfl rfl ?_
    show Steps p.tables e below (T3.setTop (mkF m 9 #[.val (.int x'), .val (.int y'), .val (.int z'), .unset, .unset, .unset, .unset, .unset, .unset] [(.ref b1), (.ref b1)])) _
    refine XS.iconst X3.here hx rfl (hb hby at_9) ?_
    show Steps p.tables e below (T3.setTop (mkF m 10 #[.val (.int x'), .val (.int y'), .val (.int z'), .unset, .unset, .unset, .unset, .unset, .unset] [(.int (1 : Int32)), (.ref b1), (.ref b1)])) _
    refine XS.bipush X3.here hx rfl (hb hby at_10) ?_
    show Steps p.tables e below (T3.setTop (mkF m 12 #[.val (.int x'), .val (.int y'), .val (.int z'), .unset, .unset, .unset, .unset, .unset, .unset] [(.int (9 : Int32)), (.int (1 : Int32)), (.ref b1), (.ref b1)])) _
    refine st5 _ ?_
    show Steps p.tables e below (T5.setTop (mkF m 13 #[.val (.int x'), .val (.int y'), .val (.int z'), .unset, .unset, .unset, .unset, .unset, .unset] [(.ref b1)])) _
    refine XS.dup X5.here hx rfl (hb hby at_13) rfl rfl ?_
    show Steps p.tables e below (T5.setTop (mkF m 14 #[.val (.int x'), .val (.int y'), .val (.int z'), .unset, .unset, .unset, .unset, .unset, .unset] [(.ref b1), (.ref b1)])) _
    refine XS.iconst X5.here hx rfl (hb hby at_14) ?_
    show Steps p.tables e below (T5.setTop (mkF m 15 #[.val (.int x'), .val (.int y'), .val (.int z'), .unset, .unset, .unset, .unset, .unset, .unset] [(.int (2 : Int32)), (.ref b1), (.ref b1)])) _
    refine XS.bipush X5.here hx rfl (hb hby at_15) ?_
    show Steps p.tables e below (T5.setTop (mkF m 17 #[.val (.int x'), .val (.int y'), .val (.int z'), .unset, .unset, .unset, .unset, .unset, .unset] [(.int (10 : Int32)), (.int (2 : Int32)), (.ref b1), (.ref b1)])) _
    refine st7 _ ?_
    show Steps p.tables e below (T7.setTop (mkF m 18 #[.val (.int x'), .val (.int y'), .val (.int z'), .unset, .unset, .unset, .unset, .unset, .unset] [(.ref b1)])) _
    refine XS.dup X7.here hx rfl (hb hby at_18) rfl rfl ?_
    show Steps p.tables e below (T7.setTop (mkF m 19 #[.val (.int x'), .val (.int y'), .val (.int z'), .unset, .unset, .unset, .unset, .unset, .unset] [(.ref b1), (.ref b1)])) _
    refine XS.iconst X7.here hx rfl (hb hby at_19) ?_
    show Steps p.tables e below (T7.setTop (mkF m 20 #[.val (.int x'), .val (.int y'), .val (.int z'), .unset, .unset, .unset, .unset, .unset, .unset] [(.int (3 : Int32)), (.ref b1), (.ref b1)])) _
    refine XS.bipush X7.here hx rfl (hb hby at_20) ?_
    show Steps p.tables e below (T7.setTop (mkF m 22 #[.val (.int x'), .val (.int y'), .val (.int z'), .unset, .unset, .unset, .unset, .unset, .unset] [(.int (13 : Int32)), (.int (3 : Int32)), (.ref b1), (.ref b1)])) _
    refine st9 _ ?_
    show Steps p.tables e below (T9.setTop (mkF m 23 #[.val (.int x'), .val (.int y'), .val (.int z'), .unset, .unset, .unset, .unset, .unset, .unset] [(.ref b1)])) _
    refine XS.dup X9.here hx rfl (hb hby at_23) rfl rfl ?_
    show Steps p.tables e below (T9.setTop (mkF m 24 #[.val (.int x'), .val (.int y'), .val (.int z'), .unset, .unset, .unset, .unset, .unset, .unset] [(.ref b1), (.ref b1)])) _
    refine XS.iconst X9.here hx rfl (hb hby at_24) ?_
    show Steps p.tables e below (T9.setTop (mkF m 25 #[.val (.int x'), .val (.int y'), .val (.int z'), .unset, .unset, .unset, .unset, .unset, .unset] [(.int (4 : Int32)), (.ref b1), (.ref b1)])) _
    refine XS.bipush X9.here hx rfl (hb hby at_25) ?_
    show Steps p.tables e below (T9.setTop (mkF m 27 #[.val (.int x'), .val (.int y'), .val (.int z'), .unset, .unset, .unset, .unset, .unset, .unset] [(.int (32 : Int32)), (.int (4 : Int32)), (.ref b1), (.ref b1)])) _
    refine st11 _ ?_
    show Steps p.tables e below (T11.setTop (mkF m 28 #[.val (.int x'), .val (.int y'), .val (.int z'), .unset, .unset, .unset, .unset, .unset, .unset] [(.ref b1)])) _
    refine XS.dup X11.here hx rfl (hb hby at_28) rfl rfl ?_
    show Steps p.tables e below (T11.setTop (mkF m 29 #[.val (.int x'), .val (.int y'), .val (.int z'), .unset, .unset, .unset, .unset, .unset, .unset] [(.ref b1), (.ref b1)])) _
    refine XS.iconst X11.here hx rfl (hb hby at_29) ?_
    show Steps p.tables e below (T11.setTop (mkF m 30 #[.val (.int x'), .val (.int y'), .val (.int z'), .unset, .unset, .unset, .unset, .unset, .unset] [(.int (5 : Int32)), (.ref b1), (.ref b1)])) _
    refine XS.bipush X11.here hx rfl (hb hby at_30) ?_
    show Steps p.tables e below (T11.setTop (mkF m 32 #[.val (.int x'), .val (.int y'), .val (.int z'), .unset, .unset, .unset, .unset, .unset, .unset] [(.int (127 : Int32)), (.int (5 : Int32)), (.ref b1), (.ref b1)])) _
    refine st13 _ ?_
    show Steps p.tables e below (T13.setTop (mkF m 33 #[.val (.int x'), .val (.int y'), .val (.int z'), .unset, .unset, .unset, .unset, .unset, .unset] [(.ref b1)])) _
    refine XS.dup X13.here hx rfl (hb hby at_33) rfl rfl ?_
    show Steps p.tables e below (T13.setTop (mkF m 34 #[.val (.int x'), .val (.int y'), .val (.int z'), .unset, .unset, .unset, .unset, .unset, .unset] [(.ref b1), (.ref b1)])) _
    refine XS.bipush X13.here hx rfl (hb hby at_34) ?_
    show Steps p.tables e below (T13.setTop (mkF m 36 #[.val (.int x'), .val (.int y'), .val (.int z'), .unset, .unset, .unset, .unset, .unset, .unset] [(.int (6 : Int32)), (.ref b1), (.ref b1)])) _
    refine X13.ldcInt hx hown (mvT hZ (hw _ (List.mem_of_getElem? (i := 1) rfl))) (g := (mkF m 36 #[.val (.int x'), .val (.int y'), .val (.int z'), .unset, .unset, .unset, .unset, .unset, .unset] [(.int (6 : Int32)), (.ref b1), (.ref b1)])) rfl (hb hby at_36) _ ?_
    show Steps p.tables e below (T13.setTop (mkF m 38 #[.val (.int x'), .val (.int y'), .val (.int z'), .unset, .unset, .unset, .unset, .unset, .unset] [(.int (55295 : Int32)), (.int (6 : Int32)), (.ref b1), (.ref b1)])) _
    refine st15 _ ?_
    show Steps p.tables e below (T15.setTop (mkF m 39 #[.val (.int x'), .val (.int y'), .val (.int z'), .unset, .unset, .unset, .unset, .unset, .unset] [(.ref b1)])) _
    refine XS.dup X15.here hx rfl (hb hby at_39) rfl rfl ?_
    show Steps p.tables e below (T15.setTop (mkF m 40 #[.val (.int x'), .val (.int y'), .val (.int z'), .unset, .unset, .unset, .unset, .unset, .unset] [(.ref b1), (.ref b1)])) _
    refine XS.bipush X15.here hx rfl (hb hby at_40) ?_
    show Steps p.tables e below (T15.setTop (mkF m 42 #[.val (.int x'), .val (.int y'), .val (.int z'), .unset, .unset, .unset, .unset, .unset, .unset] [(.int (7 : Int32)), (.ref b1), (.ref b1)])) _
    refine X15.ldcInt hx hown (mvT hZ (hw _ (List.mem_of_getElem? (i := 2) rfl))) (g := (mkF m 42 #[.val (.int x'), .val (.int y'), .val (.int z'), .unset, .unset, .unset, .unset, .unset, .unset] [(.int (7 : Int32)), (.ref b1), (.ref b1)])) rfl (hb hby at_42) _ ?_
    show Steps p.tables e below (T15.setTop (mkF m 44 #[.val (.int x'), .val (.int y'), .val (.int z'), .unset, .unset, .unset, .unset, .unset, .unset] [(.int (55296 : Int32)), (.int (7 : Int32)), (.ref b1), (.ref b1)])) _
    refine st17 _ ?_
    show Steps p.tables e below (T17.setTop (mkF m 45 #[.val (.int x'), .val (.int y'), .val (.int z'), .unset, .unset, .unset, .unset, .unset, .unset] [(.ref b1)])) _
    refine XS.dup X17.here hx rfl (hb hby at_45) rfl rfl ?_
    show Steps p.tables e below (T17.setTop (mkF m 46 #[.val (.int x'), .val (.int y'), .val (.int z'), .unset, .unset, .unset, .unset, .unset, .unset] [(.ref b1), (.ref b1)])) _
    refine XS.bipush X17.here hx rfl (hb hby at_46) ?_
    show Steps p.tables e below (T17.setTop (mkF m 48 #[.val (.int x'), .val (.int y'), .val (.int z'), .unset, .unset, .unset, .unset, .unset, .unset] [(.int (8 : Int32)), (.ref b1), (.ref b1)])) _
    refine X17.ldcInt hx hown (mvT hZ (hw _ (List.mem_of_getElem? (i := 3) rfl))) (g := (mkF m 48 #[.val (.int x'), .val (.int y'), .val (.int z'), .unset, .unset, .unset, .unset, .unset, .unset] [(.int (8 : Int32)), (.ref b1), (.ref b1)])) rfl (hb hby at_48) _ ?_
    show Steps p.tables e below (T17.setTop (mkF m 50 #[.val (.int x'), .val (.int y'), .val (.int z'), .unset, .unset, .unset, .unset, .unset, .unset] [(.int (57343 : Int32)), (.int (8 : Int32)), (.ref b1), (.ref b1)])) _
    refine st19 _ ?_
    show Steps p.tables e below (T19.setTop (mkF m 51 #[.val (.int x'), .val (.int y'), .val (.int z'), .unset, .unset, .unset, .unset, .unset, .unset] [(.ref b1)])) _
    refine XS.dup X19.here hx rfl (hb hby at_51) rfl rfl ?_
    show Steps p.tables e below (T19.setTop (mkF m 52 #[.val (.int x'), .val (.int y'), .val (.int z'), .unset, .unset, .unset, .unset, .unset, .unset] [(.ref b1), (.ref b1)])) _
    refine XS.bipush X19.here hx rfl (hb hby at_52) ?_
    show Steps p.tables e below (T19.setTop (mkF m 54 #[.val (.int x'), .val (.int y'), .val (.int z'), .unset, .unset, .unset, .unset, .unset, .unset] [(.int (9 : Int32)), (.ref b1), (.ref b1)])) _
    refine X19.ldcInt hx hown (mvT hZ (hw _ (List.mem_of_getElem? (i := 4) rfl))) (g := (mkF m 54 #[.val (.int x'), .val (.int y'), .val (.int z'), .unset, .unset, .unset, .unset, .unset, .unset] [(.int (9 : Int32)), (.ref b1), (.ref b1)])) rfl (hb hby at_54) _ ?_
    show Steps p.tables e below (T19.setTop (mkF m 56 #[.val (.int x'), .val (.int y'), .val (.int z'), .unset, .unset, .unset, .unset, .unset, .unset] [(.int (57344 : Int32)), (.int (9 : Int32)), (.ref b1), (.ref b1)])) _
    refine st21 _ ?_
    show Steps p.tables e below (T21.setTop (mkF m 57 #[.val (.int x'), .val (.int y'), .val (.int z'), .unset, .unset, .unset, .unset, .unset, .unset] [(.ref b1)])) _
    refine XS.dup X21.here hx rfl (hb hby at_57) rfl rfl ?_
    show Steps p.tables e below (T21.setTop (mkF m 58 #[.val (.int x'), .val (.int y'), .val (.int z'), .unset, .unset, .unset, .unset, .unset, .unset] [(.ref b1), (.ref b1)])) _
    refine XS.bipush X21.here hx rfl (hb hby at_58) ?_
    show Steps p.tables e below (T21.setTop (mkF m 60 #[.val (.int x'), .val (.int y'), .val (.int z'), .unset, .unset, .unset, .unset, .unset, .unset] [(.int (10 : Int32)), (.ref b1), (.ref b1)])) _
    refine X21.ldcInt hx hown (mvT hZ (hw _ (List.mem_of_getElem? (i := 5) rfl))) (g := (mkF m 60 #[.val (.int x'), .val (.int y'), .val (.int z'), .unset, .unset, .unset, .unset, .unset, .unset] [(.int (10 : Int32)), (.ref b1), (.ref b1)])) rfl (hb hby at_60) _ ?_
    show Steps p.tables e below (T21.setTop (mkF m 62 #[.val (.int x'), .val (.int y'), .val (.int z'), .unset, .unset, .unset, .unset, .unset, .unset] [(.int (65533 : Int32)), (.int (10 : Int32)), (.ref b1), (.ref b1)])) _
    refine st23 _ ?_
    show Steps p.tables e below (T23.setTop (mkF m 63 #[.val (.int x'), .val (.int y'), .val (.int z'), .unset, .unset, .unset, .unset, .unset, .unset] [(.ref b1)])) _
    refine XS.dup X23.here hx rfl (hb hby at_63) rfl rfl ?_
    show Steps p.tables e below (T23.setTop (mkF m 64 #[.val (.int x'), .val (.int y'), .val (.int z'), .unset, .unset, .unset, .unset, .unset, .unset] [(.ref b1), (.ref b1)])) _
    refine XS.bipush X23.here hx rfl (hb hby at_64) ?_
    show Steps p.tables e below (T23.setTop (mkF m 66 #[.val (.int x'), .val (.int y'), .val (.int z'), .unset, .unset, .unset, .unset, .unset, .unset] [(.int (11 : Int32)), (.ref b1), (.ref b1)])) _
    refine X23.ldcInt hx hown (mvT hZ (hw _ (List.mem_of_getElem? (i := 6) rfl))) (g := (mkF m 66 #[.val (.int x'), .val (.int y'), .val (.int z'), .unset, .unset, .unset, .unset, .unset, .unset] [(.int (11 : Int32)), (.ref b1), (.ref b1)])) rfl (hb hby at_66) _ ?_
    show Steps p.tables e below (T23.setTop (mkF m 68 #[.val (.int x'), .val (.int y'), .val (.int z'), .unset, .unset, .unset, .unset, .unset, .unset] [(.int (65534 : Int32)), (.int (11 : Int32)), (.ref b1), (.ref b1)])) _
    refine st25 _ ?_
    show Steps p.tables e below (T25.setTop (mkF m 69 #[.val (.int x'), .val (.int y'), .val (.int z'), .unset, .unset, .unset, .unset, .unset, .unset] [(.ref b1)])) _
    refine XS.dup X25.here hx rfl (hb hby at_69) rfl rfl ?_
    show Steps p.tables e below (T25.setTop (mkF m 70 #[.val (.int x'), .val (.int y'), .val (.int z'), .unset, .unset, .unset, .unset, .unset, .unset] [(.ref b1), (.ref b1)])) _
    refine XS.bipush X25.here hx rfl (hb hby at_70) ?_
    show Steps p.tables e below (T25.setTop (mkF m 72 #[.val (.int x'), .val (.int y'), .val (.int z'), .unset, .unset, .unset, .unset, .unset, .unset] [(.int (12 : Int32)), (.ref b1), (.ref b1)])) _
    refine X25.ldcInt hx hown (mvT hZ (hw _ (List.mem_of_getElem? (i := 7) rfl))) (g := (mkF m 72 #[.val (.int x'), .val (.int y'), .val (.int z'), .unset, .unset, .unset, .unset, .unset, .unset] [(.int (12 : Int32)), (.ref b1), (.ref b1)])) rfl (hb hby at_72) _ ?_
    show Steps p.tables e below (T25.setTop (mkF m 74 #[.val (.int x'), .val (.int y'), .val (.int z'), .unset, .unset, .unset, .unset, .unset, .unset] [(.int (65535 : Int32)), (.int (12 : Int32)), (.ref b1), (.ref b1)])) _
    refine st27 _ ?_
    show Steps p.tables e below (T27.setTop (mkF m 75 #[.val (.int x'), .val (.int y'), .val (.int z'), .unset, .unset, .unset, .unset, .unset, .unset] [(.ref b1)])) _
    refine XS.dup X27.here hx rfl (hb hby at_75) rfl rfl ?_
    show Steps p.tables e below (T27.setTop (mkF m 76 #[.val (.int x'), .val (.int y'), .val (.int z'), .unset, .unset, .unset, .unset, .unset, .unset] [(.ref b1), (.ref b1)])) _
    refine XS.bipush X27.here hx rfl (hb hby at_76) ?_
    show Steps p.tables e below (T27.setTop (mkF m 78 #[.val (.int x'), .val (.int y'), .val (.int z'), .unset, .unset, .unset, .unset, .unset, .unset] [(.int (13 : Int32)), (.ref b1), (.ref b1)])) _
    refine X27.ldcInt hx hown (mvT hZ (hw _ (List.mem_of_getElem? (i := 8) rfl))) (g := (mkF m 78 #[.val (.int x'), .val (.int y'), .val (.int z'), .unset, .unset, .unset, .unset, .unset, .unset] [(.int (13 : Int32)), (.ref b1), (.ref b1)])) rfl (hb hby at_78) _ ?_
    show Steps p.tables e below (T27.setTop (mkF m 80 #[.val (.int x'), .val (.int y'), .val (.int z'), .unset, .unset, .unset, .unset, .unset, .unset] [(.int (65536 : Int32)), (.int (13 : Int32)), (.ref b1), (.ref b1)])) _
    refine st29 _ ?_
    show Steps p.tables e below (T29.setTop (mkF m 81 #[.val (.int x'), .val (.int y'), .val (.int z'), .unset, .unset, .unset, .unset, .unset, .unset] [(.ref b1)])) _
    refine XS.dup X29.here hx rfl (hb hby at_81) rfl rfl ?_
    show Steps p.tables e below (T29.setTop (mkF m 82 #[.val (.int x'), .val (.int y'), .val (.int z'), .unset, .unset, .unset, .unset, .unset, .unset] [(.ref b1), (.ref b1)])) _
    refine XS.bipush X29.here hx rfl (hb hby at_82) ?_
    show Steps p.tables e below (T29.setTop (mkF m 84 #[.val (.int x'), .val (.int y'), .val (.int z'), .unset, .unset, .unset, .unset, .unset, .unset] [(.int (14 : Int32)), (.ref b1), (.ref b1)])) _
    refine X29.ldcInt hx hown (mvT hZ (hw _ (List.mem_of_getElem? (i := 9) rfl))) (g := (mkF m 84 #[.val (.int x'), .val (.int y'), .val (.int z'), .unset, .unset, .unset, .unset, .unset, .unset] [(.int (14 : Int32)), (.ref b1), (.ref b1)])) rfl (hb hby at_84) _ ?_
    show Steps p.tables e below (T29.setTop (mkF m 86 #[.val (.int x'), .val (.int y'), .val (.int z'), .unset, .unset, .unset, .unset, .unset, .unset] [(.int (1114111 : Int32)), (.int (14 : Int32)), (.ref b1), (.ref b1)])) _
    refine st31 _ ?_
    show Steps p.tables e below (T31.setTop (mkF m 87 #[.val (.int x'), .val (.int y'), .val (.int z'), .unset, .unset, .unset, .unset, .unset, .unset] [(.ref b1)])) _
    refine XS.dup X31.here hx rfl (hb hby at_87) rfl rfl ?_
    show Steps p.tables e below (T31.setTop (mkF m 88 #[.val (.int x'), .val (.int y'), .val (.int z'), .unset, .unset, .unset, .unset, .unset, .unset] [(.ref b1), (.ref b1)])) _
    refine XS.bipush X31.here hx rfl (hb hby at_88) ?_
    show Steps p.tables e below (T31.setTop (mkF m 90 #[.val (.int x'), .val (.int y'), .val (.int z'), .unset, .unset, .unset, .unset, .unset, .unset] [(.int (15 : Int32)), (.ref b1), (.ref b1)])) _
    refine X31.ldcInt hx hown (mvT hZ (hw _ (List.mem_of_getElem? (i := 10) rfl))) (g := (mkF m 90 #[.val (.int x'), .val (.int y'), .val (.int z'), .unset, .unset, .unset, .unset, .unset, .unset] [(.int (15 : Int32)), (.ref b1), (.ref b1)])) rfl (hb hby at_90) _ ?_
    show Steps p.tables e below (T31.setTop (mkF m 92 #[.val (.int x'), .val (.int y'), .val (.int z'), .unset, .unset, .unset, .unset, .unset, .unset] [(.int (1114112 : Int32)), (.int (15 : Int32)), (.ref b1), (.ref b1)])) _
    refine st33 _ ?_
    show Steps p.tables e below (T33.setTop (mkF m 93 #[.val (.int x'), .val (.int y'), .val (.int z'), .unset, .unset, .unset, .unset, .unset, .unset] [(.ref b1)])) _
    refine XS.dup X33.here hx rfl (hb hby at_93) rfl rfl ?_
    show Steps p.tables e below (T33.setTop (mkF m 94 #[.val (.int x'), .val (.int y'), .val (.int z'), .unset, .unset, .unset, .unset, .unset, .unset] [(.ref b1), (.ref b1)])) _
    refine XS.bipush X33.here hx rfl (hb hby at_94) ?_
    show Steps p.tables e below (T33.setTop (mkF m 96 #[.val (.int x'), .val (.int y'), .val (.int z'), .unset, .unset, .unset, .unset, .unset, .unset] [(.int (16 : Int32)), (.ref b1), (.ref b1)])) _
    refine X33.ldcInt hx hown (mvT hZ (hw _ (List.mem_of_getElem? (i := 11) rfl))) (g := (mkF m 96 #[.val (.int x'), .val (.int y'), .val (.int z'), .unset, .unset, .unset, .unset, .unset, .unset] [(.int (16 : Int32)), (.ref b1), (.ref b1)])) rfl (hb hby at_96) _ ?_
    show Steps p.tables e below (T33.setTop (mkF m 98 #[.val (.int x'), .val (.int y'), .val (.int z'), .unset, .unset, .unset, .unset, .unset, .unset] [(.int (-2147483648 : Int32)), (.int (16 : Int32)), (.ref b1), (.ref b1)])) _
    refine st35 _ ?_
    show Steps p.tables e below (T35.setTop (mkF m 99 #[.val (.int x'), .val (.int y'), .val (.int z'), .unset, .unset, .unset, .unset, .unset, .unset] [(.ref b1)])) _
    refine XS.dup X35.here hx rfl (hb hby at_99) rfl rfl ?_
    show Steps p.tables e below (T35.setTop (mkF m 100 #[.val (.int x'), .val (.int y'), .val (.int z'), .unset, .unset, .unset, .unset, .unset, .unset] [(.ref b1), (.ref b1)])) _
    refine XS.bipush X35.here hx rfl (hb hby at_100) ?_
    show Steps p.tables e below (T35.setTop (mkF m 102 #[.val (.int x'), .val (.int y'), .val (.int z'), .unset, .unset, .unset, .unset, .unset, .unset] [(.int (17 : Int32)), (.ref b1), (.ref b1)])) _
    refine X35.ldcInt hx hown (mvT hZ (hw _ (List.mem_of_getElem? (i := 12) rfl))) (g := (mkF m 102 #[.val (.int x'), .val (.int y'), .val (.int z'), .unset, .unset, .unset, .unset, .unset, .unset] [(.int (17 : Int32)), (.ref b1), (.ref b1)])) rfl (hb hby at_102) _ ?_
    show Steps p.tables e below (T35.setTop (mkF m 104 #[.val (.int x'), .val (.int y'), .val (.int z'), .unset, .unset, .unset, .unset, .unset, .unset] [(.int (2147483647 : Int32)), (.int (17 : Int32)), (.ref b1), (.ref b1)])) _
    refine st37 _ ?_
    show Steps p.tables e below (T37.setTop (mkF m 105 #[.val (.int x'), .val (.int y'), .val (.int z'), .unset, .unset, .unset, .unset, .unset, .unset] [(.ref b1)])) _
    refine XS.astoreN X37.here hx rfl (hb hby at_105) rfl rfl (l' := #[.val (.int x'), .val (.int y'), .val (.int z'), .val (.ref b1), .unset, .unset, .unset, .unset, .unset]) rfl ?_
    show Steps p.tables e below (T37.setTop (mkF m 106 #[.val (.int x'), .val (.int y'), .val (.int z'), .val (.ref b1), .unset, .unset, .unset, .unset, .unset] [])) _
    refine XS.iloadN X37.here hx rfl (hb hby at_106) rfl ?_
    show Steps p.tables e below (T37.setTop (mkF m 107 #[.val (.int x'), .val (.int y'), .val (.int z'), .val (.ref b1), .unset, .unset, .unset, .unset, .unset] [(.int y')])) _
    refine X37.ldcInt hx hown (mvT hZ (hw _ (List.mem_of_getElem? (i := 12) rfl))) (g := (mkF m 107 #[.val (.int x'), .val (.int y'), .val (.int z'), .val (.ref b1), .unset, .unset, .unset, .unset, .unset] [(.int y')])) rfl (hb hby at_107) _ ?_
    show Steps p.tables e below (T37.setTop (mkF m 109 #[.val (.int x'), .val (.int y'), .val (.int z'), .val (.ref b1), .unset, .unset, .unset, .unset, .unset] [(.int (2147483647 : Int32)), (.int y')])) _
    refine XS.iand X37.here hx rfl (hb hby at_109) rfl ?_
    show Steps p.tables e below (T37.setTop (mkF m 110 #[.val (.int x'), .val (.int y'), .val (.int z'), .val (.ref b1), .unset, .unset, .unset, .unset, .unset] [(.int (y' &&& (2147483647 : Int32)))])) _
    refine XS.aloadN X37.here hx rfl (hb hby at_110) rfl rfl ?_
    show Steps p.tables e below (T37.setTop (mkF m 111 #[.val (.int x'), .val (.int y'), .val (.int z'), .val (.ref b1), .unset, .unset, .unset, .unset, .unset] [(.ref b1), (.int (y' &&& (2147483647 : Int32)))])) _
    refine X37.arraylength hx (cell := cl11138) (by rw [e37]; exact Ar11138.1) (State.isArrayOf_alike hZ.alike Ar11138.2.1) (g := (mkF m 111 #[.val (.int x'), .val (.int y'), .val (.int z'), .val (.ref b1), .unset, .unset, .unset, .unset, .unset] [(.ref b1), (.int (y' &&& (2147483647 : Int32)))])) rfl (rest := [(.int (y' &&& (2147483647 : Int32)))]) rfl (hb hby at_111) _ ?_
    rw [len_of S11138 M11138]
    show Steps p.tables e below (T37.setTop (mkF m 112 #[.val (.int x'), .val (.int y'), .val (.int z'), .val (.ref b1), .unset, .unset, .unset, .unset, .unset] [(.int (18 : Int32)), (.int (y' &&& (2147483647 : Int32)))])) _
    refine iremM X37 hx rfl (hb hby at_112) rfl (by decide) ?_
    show Steps p.tables e below (T37.setTop (mkF m 113 #[.val (.int x'), .val (.int y'), .val (.int z'), .val (.ref b1), .unset, .unset, .unset, .unset, .unset] [(.int ((y' &&& (2147483647 : Int32)) % (18 : Int32)))])) _
    refine XS.istore X37.here hx rfl (hb hby at_113) rfl (l' := #[.val (.int x'), .val (.int y'), .val (.int z'), .val (.ref b1), .val (.int ((y' &&& (2147483647 : Int32)) % (18 : Int32))), .unset, .unset, .unset, .unset]) rfl ?_
    show Steps p.tables e below (T37.setTop (mkF m 115 #[.val (.int x'), .val (.int y'), .val (.int z'), .val (.ref b1), .val (.int ((y' &&& (2147483647 : Int32)) % (18 : Int32))), .unset, .unset, .unset, .unset] [])) _
    refine XS.iloadN X37.here hx rfl (hb hby at_115) rfl ?_
    show Steps p.tables e below (T37.setTop (mkF m 116 #[.val (.int x'), .val (.int y'), .val (.int z'), .val (.ref b1), .val (.int ((y' &&& (2147483647 : Int32)) % (18 : Int32))), .unset, .unset, .unset, .unset] [(.int z')])) _
    refine X37.ldcInt hx hown (mvT hZ (hw _ (List.mem_of_getElem? (i := 12) rfl))) (g := (mkF m 116 #[.val (.int x'), .val (.int y'), .val (.int z'), .val (.ref b1), .val (.int ((y' &&& (2147483647 : Int32)) % (18 : Int32))), .unset, .unset, .unset, .unset] [(.int z')])) rfl (hb hby at_116) _ ?_
    show Steps p.tables e below (T37.setTop (mkF m 118 #[.val (.int x'), .val (.int y'), .val (.int z'), .val (.ref b1), .val (.int ((y' &&& (2147483647 : Int32)) % (18 : Int32))), .unset, .unset, .unset, .unset] [(.int (2147483647 : Int32)), (.int z')])) _
    refine XS.iand X37.here hx rfl (hb hby at_118) rfl ?_
    show Steps p.tables e below (T37.setTop (mkF m 119 #[.val (.int x'), .val (.int y'), .val (.int z'), .val (.ref b1), .val (.int ((y' &&& (2147483647 : Int32)) % (18 : Int32))), .unset, .unset, .unset, .unset] [(.int (z' &&& (2147483647 : Int32)))])) _
    refine XS.iconst X37.here hx rfl (hb hby at_119) ?_
    show Steps p.tables e below (T37.setTop (mkF m 120 #[.val (.int x'), .val (.int y'), .val (.int z'), .val (.ref b1), .val (.int ((y' &&& (2147483647 : Int32)) % (18 : Int32))), .unset, .unset, .unset, .unset] [(.int (5 : Int32)), (.int (z' &&& (2147483647 : Int32)))])) _
    refine iremM X37 hx rfl (hb hby at_120) rfl (by decide) ?_
    show Steps p.tables e below (T37.setTop (mkF m 121 #[.val (.int x'), .val (.int y'), .val (.int z'), .val (.ref b1), .val (.int ((y' &&& (2147483647 : Int32)) % (18 : Int32))), .unset, .unset, .unset, .unset] [(.int ((z' &&& (2147483647 : Int32)) % (5 : Int32)))])) _
    refine XS.iconst X37.here hx rfl (hb hby at_121) ?_
    show Steps p.tables e below (T37.setTop (mkF m 122 #[.val (.int x'), .val (.int y'), .val (.int z'), .val (.ref b1), .val (.int ((y' &&& (2147483647 : Int32)) % (18 : Int32))), .unset, .unset, .unset, .unset] [(.int (2 : Int32)), (.int ((z' &&& (2147483647 : Int32)) % (5 : Int32)))])) _
    refine XS.isub X37.here hx rfl (hb hby at_122) rfl ?_
    show Steps p.tables e below (T37.setTop (mkF m 123 #[.val (.int x'), .val (.int y'), .val (.int z'), .val (.ref b1), .val (.int ((y' &&& (2147483647 : Int32)) % (18 : Int32))), .unset, .unset, .unset, .unset] [(.int (((z' &&& (2147483647 : Int32)) % (5 : Int32)) - (2 : Int32)))])) _
    refine XS.istore X37.here hx rfl (hb hby at_123) rfl (l' := #[.val (.int x'), .val (.int y'), .val (.int z'), .val (.ref b1), .val (.int ((y' &&& (2147483647 : Int32)) % (18 : Int32))), .val (.int (((z' &&& (2147483647 : Int32)) % (5 : Int32)) - (2 : Int32))), .unset, .unset, .unset]) rfl ?_
    show Steps p.tables e below (T37.setTop (mkF m 125 #[.val (.int x'), .val (.int y'), .val (.int z'), .val (.ref b1), .val (.int ((y' &&& (2147483647 : Int32)) % (18 : Int32))), .val (.int (((z' &&& (2147483647 : Int32)) % (5 : Int32)) - (2 : Int32))), .unset, .unset, .unset] [])) _
    refine XS.aloadN X37.here hx rfl (hb hby at_125) rfl rfl ?_
    show Steps p.tables e below (T37.setTop (mkF m 126 #[.val (.int x'), .val (.int y'), .val (.int z'), .val (.ref b1), .val (.int ((y' &&& (2147483647 : Int32)) % (18 : Int32))), .val (.int (((z' &&& (2147483647 : Int32)) % (5 : Int32)) - (2 : Int32))), .unset, .unset, .unset] [(.ref b1)])) _
    refine XS.iload X37.here hx rfl (hb hby at_126) rfl ?_
    show Steps p.tables e below (T37.setTop (mkF m 128 #[.val (.int x'), .val (.int y'), .val (.int z'), .val (.ref b1), .val (.int ((y' &&& (2147483647 : Int32)) % (18 : Int32))), .val (.int (((z' &&& (2147483647 : Int32)) % (5 : Int32)) - (2 : Int32))), .unset, .unset, .unset] [(.int ((y' &&& (2147483647 : Int32)) % (18 : Int32))), (.ref b1)])) _
    refine X37.iaload hx (j := ((y' &&& (2147483647 : Int32)) % (18 : Int32))) (v := (.int (f37 (((y' &&& (2147483647 : Int32)) % (18 : Int32))).toNatClampNeg))) (by rw [e37]; exact Ar12839.1) (State.isArrayOf_alike hZ.alike Ar12839.2.1) Ar12839.2.2 hin12839 hat12839 (g := (mkF m 128 #[.val (.int x'), .val (.int y'), .val (.int z'), .val (.ref b1), .val (.int ((y' &&& (2147483647 : Int32)) % (18 : Int32))), .val (.int (((z' &&& (2147483647 : Int32)) % (5 : Int32)) - (2 : Int32))), .unset, .unset, .unset] [(.int ((y' &&& (2147483647 : Int32)) % (18 : Int32))), (.ref b1)])) rfl rfl (hb hby at_128) _ ?_
    show Steps p.tables e below (T37.setTop (mkF m 129 #[.val (.int x'), .val (.int y'), .val (.int z'), .val (.ref b1), .val (.int ((y' &&& (2147483647 : Int32)) % (18 : Int32))), .val (.int (((z' &&& (2147483647 : Int32)) % (5 : Int32)) - (2 : Int32))), .unset, .unset, .unset] [(.int (f37 (((y' &&& (2147483647 : Int32)) % (18 : Int32))).toNatClampNeg))])) _
    refine XS.iload X37.here hx rfl (hb hby at_129) rfl ?_
    show Steps p.tables e below (T37.setTop (mkF m 131 #[.val (.int x'), .val (.int y'), .val (.int z'), .val (.ref b1), .val (.int ((y' &&& (2147483647 : Int32)) % (18 : Int32))), .val (.int (((z' &&& (2147483647 : Int32)) % (5 : Int32)) - (2 : Int32))), .unset, .unset, .unset] [(.int (((z' &&& (2147483647 : Int32)) % (5 : Int32)) - (2 : Int32))), (.int (f37 (((y' &&& (2147483647 : Int32)) % (18 : Int32))).toNatClampNeg))])) _
    refine XS.iadd X37.here hx rfl (hb hby at_131) rfl ?_
    show Steps p.tables e below (T37.setTop (mkF m 132 #[.val (.int x'), .val (.int y'), .val (.int z'), .val (.ref b1), .val (.int ((y' &&& (2147483647 : Int32)) % (18 : Int32))), .val (.int (((z' &&& (2147483647 : Int32)) % (5 : Int32)) - (2 : Int32))), .unset, .unset, .unset] [(.int ((f37 (((y' &&& (2147483647 : Int32)) % (18 : Int32))).toNatClampNeg) + (((z' &&& (2147483647 : Int32)) % (5 : Int32)) - (2 : Int32))))])) _
    refine XS.istore X37.here hx rfl (hb hby at_132) rfl (l' := #[.val (.int x'), .val (.int y'), .val (.int z'), .val (.ref b1), .val (.int ((y' &&& (2147483647 : Int32)) % (18 : Int32))), .val (.int (((z' &&& (2147483647 : Int32)) % (5 : Int32)) - (2 : Int32))), .val (.int ((f37 (((y' &&& (2147483647 : Int32)) % (18 : Int32))).toNatClampNeg) + (((z' &&& (2147483647 : Int32)) % (5 : Int32)) - (2 : Int32)))), .unset, .unset]) rfl ?_
    exact kt
  obtain ⟨pr, h_pr⟩ : ∃ z : Int32, z = ((f37 (((y' &&& (2147483647 : Int32)) % (18 : Int32))).toNatClampNeg) + (((z' &&& (2147483647 : Int32)) % (5 : Int32)) - (2 : Int32))) := ⟨_, rfl⟩
  have pre41 : ∀ t, Steps p.tables e below (T37.setTop (mkF m 134 #[.val (.int x'), .val (.int y'), .val (.int z'), .val (.ref b1), .val (.int ((y' &&& (2147483647 : Int32)) % (18 : Int32))), .val (.int (((z' &&& (2147483647 : Int32)) % (5 : Int32)) - (2 : Int32))), .val (.int pr), .unset, .unset] [])) t → Steps p.tables e below (s₁.setTop (entryFrame m #[(.int x'), (.int y'), (.int z')] maxLocals)) t := by rw [h_pr]; exact pre40
  obtain ⟨_, _, ⟨T42, L42, k42, n42⟩, -, X42, ⟨Lc42, hQ42, l42, y42, z42⟩, st42⟩ := Jvm.LawKit.callS X37 hx (y := (⟨"com/example/ledgermatch/ledgermatch/model/Identifiers", "isTextCharacter", "(I)Z"⟩ : MethodName)) hown (mvT hZ (hw _ (List.mem_of_getElem? (i := 13) rfl))) (mvT hZ (hw _ (List.mem_of_getElem? (i := 14) rfl))) (mvT hZ (hw _ (List.mem_of_getElem? (i := 15) rfl))) (mvT hZ (hw _ (List.mem_of_getElem? (i := 16) rfl))) (by decide) (backOf (W := 0) (rm1 l Z a0 hw [] x' h37 n0 Zs37 ) hZ (hw _ (List.mem_of_getElem? (i := 16) rfl)) (hw _ (List.mem_of_getElem? (i := 15) rfl)) (by decide) (by decide)) (g := (mkF m 135 #[.val (.int x'), .val (.int y'), .val (.int z'), .val (.ref b1), .val (.int ((y' &&& (2147483647 : Int32)) % (18 : Int32))), .val (.int (((z' &&& (2147483647 : Int32)) % (5 : Int32)) - (2 : Int32))), .val (.int pr), .unset, .unset] [(.int x')])) rfl (by rw [hml]; rfl) (argsL := [(.int x')]) (rest := []) (lenOf pd0_0 rfl) rfl (by show 2 * 0 + _ ≤ _; exact Nat.le_of_eq rfl) (hb hby at_135) (fun _ _ => ⟨rfl, e37, (by decide : 1 + 0 ≤ _), (by decide : 18 + 0 ≤ _)⟩)
  dsimp only [Pt.U, Pt.locs, Pt.cells, Pt.slots] at X42 l42 y42 z42 st42 hQ42
  subst l42 y42 z42
  obtain ⟨rfl, N42q, hh42⟩ := hQ42
  have N42 := Fr.app N37 N42q
  obtain ⟨_, _, ⟨T43, L43, k43, n43⟩, -, X43, ⟨Lc43, hQ43, l43, y43, z43⟩, st43⟩ := Jvm.LawKit.callS X42 hx (y := (⟨"com/example/ledgermatch/ledgermatch/model/IdentifiersIsTextCharacterPinLaw", "expected", "(I)Z"⟩ : MethodName)) hown (mvT hZ (hw _ (List.mem_of_getElem? (i := 19) rfl))) (mvT hZ (hw _ (List.mem_of_getElem? (i := 20) rfl))) (mvT hZ (hw _ (List.mem_of_getElem? (i := 21) rfl))) (mvT hZ (hw _ (List.mem_of_getElem? (i := 22) rfl))) (by decide) (backOf (W := 1) (rm2 l Z a0 hw [] x' h37 n0 Zs37 ) hZ (hw _ (List.mem_of_getElem? (i := 22) rfl)) (hw _ (List.mem_of_getElem? (i := 21) rfl)) (by decide) (by decide)) (g := (mkF m 139 #[.val (.int x'), .val (.int y'), .val (.int z'), .val (.ref b1), .val (.int ((y' &&& (2147483647 : Int32)) % (18 : Int32))), .val (.int (((z' &&& (2147483647 : Int32)) % (5 : Int32)) - (2 : Int32))), .val (.int pr), .unset, .unset] [(.int x'), (.int (own_text x'))])) rfl (by rw [hml]; rfl) (argsL := [(.int x')]) (rest := [(.int (own_text x'))]) (lenOf pd0_0 rfl) rfl (by show 2 * 0 + _ ≤ _; exact Nat.le_of_eq rfl) (hb hby at_139) (fun _ _ => ⟨rfl, hh42, (by decide : 1 + 0 ≤ _), (by decide : 18 + 0 ≤ _)⟩)
  dsimp only [Pt.U, Pt.locs, Pt.cells, Pt.slots] at X43 l43 y43 z43 st43 hQ43
  subst l43 y43 z43
  obtain ⟨rfl, N43q, hh43⟩ := hQ43
  have N43 := Fr.app N42 N43q
  obtain ⟨_, _, ⟨T44, L44, k44, n44⟩, -, X44, ⟨Lc44, hQ44, l44, y44, z44⟩, st44⟩ := Jvm.LawKit.callS X43 hx (y := (⟨"com/example/ledgermatch/ledgermatch/model/Identifiers", "isTextCharacter", "(I)Z"⟩ : MethodName)) hown (mvT hZ (hw _ (List.mem_of_getElem? (i := 13) rfl))) (mvT hZ (hw _ (List.mem_of_getElem? (i := 14) rfl))) (mvT hZ (hw _ (List.mem_of_getElem? (i := 15) rfl))) (mvT hZ (hw _ (List.mem_of_getElem? (i := 16) rfl))) (by decide) (backOf (W := 0) (rm1 l Z a0 hw [] pr h37 n0 Zs37 ) hZ (hw _ (List.mem_of_getElem? (i := 16) rfl)) (hw _ (List.mem_of_getElem? (i := 15) rfl)) (by decide) (by decide)) (g := (mkF m 154 #[.val (.int x'), .val (.int y'), .val (.int z'), .val (.ref b1), .val (.int ((y' &&& (2147483647 : Int32)) % (18 : Int32))), .val (.int (((z' &&& (2147483647 : Int32)) % (5 : Int32)) - (2 : Int32))), .val (.int pr), .val (.int (1 : Int32)), .unset] [(.int pr)])) rfl (by rw [hml]; rfl) (argsL := [(.int pr)]) (rest := []) (lenOf pd0_0 rfl) rfl (by show 2 * 0 + _ ≤ _; exact Nat.le_of_eq rfl) (hb hby at_154) (fun _ _ => ⟨rfl, hh43, (by decide : 1 + 0 ≤ _), (by decide : 18 + 0 ≤ _)⟩)
  dsimp only [Pt.U, Pt.locs, Pt.cells, Pt.slots] at X44 l44 y44 z44 st44 hQ44
  subst l44 y44 z44
  obtain ⟨rfl, N44q, hh44⟩ := hQ44
  have N44 := Fr.app N43 N44q
  obtain ⟨_, _, ⟨T45, L45, k45, n45⟩, -, X45, ⟨Lc45, hQ45, l45, y45, z45⟩, st45⟩ := Jvm.LawKit.callS X44 hx (y := (⟨"com/example/ledgermatch/ledgermatch/model/IdentifiersIsTextCharacterPinLaw", "expected", "(I)Z"⟩ : MethodName)) hown (mvT hZ (hw _ (List.mem_of_getElem? (i := 19) rfl))) (mvT hZ (hw _ (List.mem_of_getElem? (i := 20) rfl))) (mvT hZ (hw _ (List.mem_of_getElem? (i := 21) rfl))) (mvT hZ (hw _ (List.mem_of_getElem? (i := 22) rfl))) (by decide) (backOf (W := 1) (rm2 l Z a0 hw [] pr h37 n0 Zs37 ) hZ (hw _ (List.mem_of_getElem? (i := 22) rfl)) (hw _ (List.mem_of_getElem? (i := 21) rfl)) (by decide) (by decide)) (g := (mkF m 159 #[.val (.int x'), .val (.int y'), .val (.int z'), .val (.ref b1), .val (.int ((y' &&& (2147483647 : Int32)) % (18 : Int32))), .val (.int (((z' &&& (2147483647 : Int32)) % (5 : Int32)) - (2 : Int32))), .val (.int pr), .val (.int (1 : Int32)), .unset] [(.int pr), (.int (own_text pr))])) rfl (by rw [hml]; rfl) (argsL := [(.int pr)]) (rest := [(.int (own_text pr))]) (lenOf pd0_0 rfl) rfl (by show 2 * 0 + _ ≤ _; exact Nat.le_of_eq rfl) (hb hby at_159) (fun _ _ => ⟨rfl, hh44, (by decide : 1 + 0 ≤ _), (by decide : 18 + 0 ≤ _)⟩)
  dsimp only [Pt.U, Pt.locs, Pt.cells, Pt.slots] at X45 l45 y45 z45 st45 hQ45
  subst l45 y45 z45
  obtain ⟨rfl, N45q, hh45⟩ := hQ45
  have N45 := Fr.app N44 N45q
  obtain ⟨fs, hr, hrun, hended, hW, hsame⟩ := X45.leave (v := some (.int (1 : Int32))) (fun h => by rw [Bd.returns] at h; cases h)
  refine ⟨_, _, pre41 _ ?_, hrun, hended, _, _, rfl, ?_, ⟨_, rfl⟩, hW, hsame.mono (by decide) (by decide)⟩
  · show Steps p.tables e below (T37.setTop (mkF m 134 #[.val (.int x'), .val (.int y'), .val (.int z'), .val (.ref b1), .val (.int ((y' &&& (2147483647 : Int32)) % (18 : Int32))), .val (.int (((z' &&& (2147483647 : Int32)) % (5 : Int32)) - (2 : Int32))), .val (.int pr), .unset, .unset] [])) _
    refine XS.iloadN X37.here hx rfl (hb hby at_134) rfl ?_
    show Steps p.tables e below (T37.setTop (mkF m 135 #[.val (.int x'), .val (.int y'), .val (.int z'), .val (.ref b1), .val (.int ((y' &&& (2147483647 : Int32)) % (18 : Int32))), .val (.int (((z' &&& (2147483647 : Int32)) % (5 : Int32)) - (2 : Int32))), .val (.int pr), .unset, .unset] [(.int x')])) _
    refine st42 _ ?_
    show Steps p.tables e below (T42.setTop (mkF m 138 #[.val (.int x'), .val (.int y'), .val (.int z'), .val (.ref b1), .val (.int ((y' &&& (2147483647 : Int32)) % (18 : Int32))), .val (.int (((z' &&& (2147483647 : Int32)) % (5 : Int32)) - (2 : Int32))), .val (.int pr), .unset, .unset] [(.int (own_text x'))])) _
    refine XS.iloadN X42.here hx rfl (hb hby at_138) rfl ?_
    show Steps p.tables e below (T42.setTop (mkF m 139 #[.val (.int x'), .val (.int y'), .val (.int z'), .val (.ref b1), .val (.int ((y' &&& (2147483647 : Int32)) % (18 : Int32))), .val (.int (((z' &&& (2147483647 : Int32)) % (5 : Int32)) - (2 : Int32))), .val (.int pr), .unset, .unset] [(.int x'), (.int (own_text x'))])) _
    refine st43 _ ?_
    show Steps p.tables e below (T43.setTop (mkF m 142 #[.val (.int x'), .val (.int y'), .val (.int z'), .val (.ref b1), .val (.int ((y' &&& (2147483647 : Int32)) % (18 : Int32))), .val (.int (((z' &&& (2147483647 : Int32)) % (5 : Int32)) - (2 : Int32))), .val (.int pr), .unset, .unset] [(.int (own_exp x')), (.int (own_text x'))])) _
    refine XS.icmpNo X43.here hx rfl (hb hby at_142) rfl (teq (own_h _)).2 ?_
    show Steps p.tables e below (T43.setTop (mkF m 145 #[.val (.int x'), .val (.int y'), .val (.int z'), .val (.ref b1), .val (.int ((y' &&& (2147483647 : Int32)) % (18 : Int32))), .val (.int (((z' &&& (2147483647 : Int32)) % (5 : Int32)) - (2 : Int32))), .val (.int pr), .unset, .unset] [])) _
    refine XS.iconst X43.here hx rfl (hb hby at_145) ?_
    show Steps p.tables e below (T43.setTop (mkF m 146 #[.val (.int x'), .val (.int y'), .val (.int z'), .val (.ref b1), .val (.int ((y' &&& (2147483647 : Int32)) % (18 : Int32))), .val (.int (((z' &&& (2147483647 : Int32)) % (5 : Int32)) - (2 : Int32))), .val (.int pr), .unset, .unset] [(.int (1 : Int32))])) _
    refine XS.goto X43.here hx rfl (pc0 := 146) (pc' := 150) rfl (hb hby at_146) (by decide) (by decide) ?_
    show Steps p.tables e below (T43.setTop (mkF m 150 #[.val (.int x'), .val (.int y'), .val (.int z'), .val (.ref b1), .val (.int ((y' &&& (2147483647 : Int32)) % (18 : Int32))), .val (.int (((z' &&& (2147483647 : Int32)) % (5 : Int32)) - (2 : Int32))), .val (.int pr), .unset, .unset] [(.int (1 : Int32))])) _
    refine XS.istore X43.here hx rfl (hb hby at_150) rfl (l' := #[.val (.int x'), .val (.int y'), .val (.int z'), .val (.ref b1), .val (.int ((y' &&& (2147483647 : Int32)) % (18 : Int32))), .val (.int (((z' &&& (2147483647 : Int32)) % (5 : Int32)) - (2 : Int32))), .val (.int pr), .val (.int (1 : Int32)), .unset]) rfl ?_
    show Steps p.tables e below (T43.setTop (mkF m 152 #[.val (.int x'), .val (.int y'), .val (.int z'), .val (.ref b1), .val (.int ((y' &&& (2147483647 : Int32)) % (18 : Int32))), .val (.int (((z' &&& (2147483647 : Int32)) % (5 : Int32)) - (2 : Int32))), .val (.int pr), .val (.int (1 : Int32)), .unset] [])) _
    refine XS.iload X43.here hx rfl (hb hby at_152) rfl ?_
    show Steps p.tables e below (T43.setTop (mkF m 154 #[.val (.int x'), .val (.int y'), .val (.int z'), .val (.ref b1), .val (.int ((y' &&& (2147483647 : Int32)) % (18 : Int32))), .val (.int (((z' &&& (2147483647 : Int32)) % (5 : Int32)) - (2 : Int32))), .val (.int pr), .val (.int (1 : Int32)), .unset] [(.int pr)])) _
    refine st44 _ ?_
    show Steps p.tables e below (T44.setTop (mkF m 157 #[.val (.int x'), .val (.int y'), .val (.int z'), .val (.ref b1), .val (.int ((y' &&& (2147483647 : Int32)) % (18 : Int32))), .val (.int (((z' &&& (2147483647 : Int32)) % (5 : Int32)) - (2 : Int32))), .val (.int pr), .val (.int (1 : Int32)), .unset] [(.int (own_text pr))])) _
    refine XS.iload X44.here hx rfl (hb hby at_157) rfl ?_
    show Steps p.tables e below (T44.setTop (mkF m 159 #[.val (.int x'), .val (.int y'), .val (.int z'), .val (.ref b1), .val (.int ((y' &&& (2147483647 : Int32)) % (18 : Int32))), .val (.int (((z' &&& (2147483647 : Int32)) % (5 : Int32)) - (2 : Int32))), .val (.int pr), .val (.int (1 : Int32)), .unset] [(.int pr), (.int (own_text pr))])) _
    refine st45 _ ?_
    show Steps p.tables e below (T45.setTop (mkF m 162 #[.val (.int x'), .val (.int y'), .val (.int z'), .val (.ref b1), .val (.int ((y' &&& (2147483647 : Int32)) % (18 : Int32))), .val (.int (((z' &&& (2147483647 : Int32)) % (5 : Int32)) - (2 : Int32))), .val (.int pr), .val (.int (1 : Int32)), .unset] [(.int (own_exp pr)), (.int (own_text pr))])) _
    refine XS.icmpNo X45.here hx rfl (hb hby at_162) rfl (teq (own_h _)).2 ?_
    show Steps p.tables e below (T45.setTop (mkF m 165 #[.val (.int x'), .val (.int y'), .val (.int z'), .val (.ref b1), .val (.int ((y' &&& (2147483647 : Int32)) % (18 : Int32))), .val (.int (((z' &&& (2147483647 : Int32)) % (5 : Int32)) - (2 : Int32))), .val (.int pr), .val (.int (1 : Int32)), .unset] [])) _
    refine XS.iconst X45.here hx rfl (hb hby at_165) ?_
    show Steps p.tables e below (T45.setTop (mkF m 166 #[.val (.int x'), .val (.int y'), .val (.int z'), .val (.ref b1), .val (.int ((y' &&& (2147483647 : Int32)) % (18 : Int32))), .val (.int (((z' &&& (2147483647 : Int32)) % (5 : Int32)) - (2 : Int32))), .val (.int pr), .val (.int (1 : Int32)), .unset] [(.int (1 : Int32))])) _
    refine XS.goto X45.here hx rfl (pc0 := 166) (pc' := 170) rfl (hb hby at_166) (by decide) (by decide) ?_
    show Steps p.tables e below (T45.setTop (mkF m 170 #[.val (.int x'), .val (.int y'), .val (.int z'), .val (.ref b1), .val (.int ((y' &&& (2147483647 : Int32)) % (18 : Int32))), .val (.int (((z' &&& (2147483647 : Int32)) % (5 : Int32)) - (2 : Int32))), .val (.int pr), .val (.int (1 : Int32)), .unset] [(.int (1 : Int32))])) _
    refine XS.istore X45.here hx rfl (hb hby at_170) rfl (l' := #[.val (.int x'), .val (.int y'), .val (.int z'), .val (.ref b1), .val (.int ((y' &&& (2147483647 : Int32)) % (18 : Int32))), .val (.int (((z' &&& (2147483647 : Int32)) % (5 : Int32)) - (2 : Int32))), .val (.int pr), .val (.int (1 : Int32)), .val (.int (1 : Int32))]) rfl ?_
    show Steps p.tables e below (T45.setTop (mkF m 172 #[.val (.int x'), .val (.int y'), .val (.int z'), .val (.ref b1), .val (.int ((y' &&& (2147483647 : Int32)) % (18 : Int32))), .val (.int (((z' &&& (2147483647 : Int32)) % (5 : Int32)) - (2 : Int32))), .val (.int pr), .val (.int (1 : Int32)), .val (.int (1 : Int32))] [])) _
    refine XS.iload X45.here hx rfl (hb hby at_172) rfl ?_
    show Steps p.tables e below (T45.setTop (mkF m 174 #[.val (.int x'), .val (.int y'), .val (.int z'), .val (.ref b1), .val (.int ((y' &&& (2147483647 : Int32)) % (18 : Int32))), .val (.int (((z' &&& (2147483647 : Int32)) % (5 : Int32)) - (2 : Int32))), .val (.int pr), .val (.int (1 : Int32)), .val (.int (1 : Int32))] [(.int (1 : Int32))])) _
    refine XS.ifNo X45.here hx rfl (hb hby at_174) rfl ((if0 _ _).trans (feq (by decide : ¬ ((1 : Int32) = (0 : Int32)))).1) ?_
    show Steps p.tables e below (T45.setTop (mkF m 177 #[.val (.int x'), .val (.int y'), .val (.int z'), .val (.ref b1), .val (.int ((y' &&& (2147483647 : Int32)) % (18 : Int32))), .val (.int (((z' &&& (2147483647 : Int32)) % (5 : Int32)) - (2 : Int32))), .val (.int pr), .val (.int (1 : Int32)), .val (.int (1 : Int32))] [])) _
    refine XS.iload X45.here hx rfl (hb hby at_177) rfl ?_
    show Steps p.tables e below (T45.setTop (mkF m 179 #[.val (.int x'), .val (.int y'), .val (.int z'), .val (.ref b1), .val (.int ((y' &&& (2147483647 : Int32)) % (18 : Int32))), .val (.int (((z' &&& (2147483647 : Int32)) % (5 : Int32)) - (2 : Int32))), .val (.int pr), .val (.int (1 : Int32)), .val (.int (1 : Int32))] [(.int (1 : Int32))])) _
    refine XS.ifNo X45.here hx rfl (hb hby at_179) rfl ((if0 _ _).trans (feq (by decide : ¬ ((1 : Int32) = (0 : Int32)))).1) ?_
    show Steps p.tables e below (T45.setTop (mkF m 182 #[.val (.int x'), .val (.int y'), .val (.int z'), .val (.ref b1), .val (.int ((y' &&& (2147483647 : Int32)) % (18 : Int32))), .val (.int (((z' &&& (2147483647 : Int32)) % (5 : Int32)) - (2 : Int32))), .val (.int pr), .val (.int (1 : Int32)), .val (.int (1 : Int32))] [])) _
    refine XS.iconst X45.here hx rfl (hb hby at_182) ?_
    show Steps p.tables e below (T45.setTop (mkF m 183 #[.val (.int x'), .val (.int y'), .val (.int z'), .val (.ref b1), .val (.int ((y' &&& (2147483647 : Int32)) % (18 : Int32))), .val (.int (((z' &&& (2147483647 : Int32)) % (5 : Int32)) - (2 : Int32))), .val (.int pr), .val (.int (1 : Int32)), .val (.int (1 : Int32))] [(.int (1 : Int32))])) _
    refine XS.goto X45.here hx rfl (pc0 := 183) (pc' := 187) rfl (hb hby at_183) (by decide) (by decide) ?_
    show Steps p.tables e below (T45.setTop (mkF m 187 #[.val (.int x'), .val (.int y'), .val (.int z'), .val (.ref b1), .val (.int ((y' &&& (2147483647 : Int32)) % (18 : Int32))), .val (.int (((z' &&& (2147483647 : Int32)) % (5 : Int32)) - (2 : Int32))), .val (.int pr), .val (.int (1 : Int32)), .val (.int (1 : Int32))] [(.int (1 : Int32))])) _
    exact retN X45 hx (t := .boolean) Bd.returns (by simp) (hb hby at_187) hr
  · show Q0 Z x' y' z' h0 n0 _ T45.heap _
    rw [hh45]
    exact ⟨rfl, N45⟩
set_option maxRecDepth 65536 in
set_option maxHeartbeats 40000000 in
theorem comes_1 {Post : Tables → Env → Array Value → State → Outcome → State → Prop} (hpost : ∀ tb e args s v u, (limb_1_1.after args s (.returned v) u = true ∧ limb_1_2.after args s (.returned v) u = true ∧ True) → FrameEnd s (.returned v) u (Jvm.fieldLocs frame_1_writes args s ++ Jvm.arrayLocs frame_1_arrays args s ++ Jvm.staticLocs frame_1_statics s) 16 128 → Post tb e args s (.returned v) u) :
    ArmFor flags0 classFile x code maxLocals ret World_1 tables_1 room_1 Calls_1 rest_1 Pre_1 Post := by
  intro l hfl _ _ p e ha hc hk s m args below hf hA hF happ hP
  obtain ⟨hcalls, hrest, hpre⟩ := hP
  obtain ⟨-, -, -, hnamed, -, -, -, hat⟩ := (Spec.applies_iff hf).mp happ
  obtain ⟨hg, hn⟩ := and_e (Cond.before_iff.mp (show (Jvm.Cond.and given_1 narrow_1).before args s = true from hpre))
  obtain ⟨hcount, gr0⟩ := and_e hg
  obtain ⟨ga0, gr1⟩ := and_e gr0
  obtain ⟨ga1, ga2⟩ := and_e gr1
  obtain ⟨w0, w1, w2, rfl⟩ : ∃ w0 w1 w2 : Value, args = #[w0, w1, w2] := by
    have hs : args.size = 3 := by simpa [Cond.value, given_1] using hcount
    obtain ⟨L⟩ := args
    match L, hs with
    | [w0, w1, w2], _ => exact ⟨w0, w1, w2, rfl⟩
  have hw := fun d (hd : d ∈ tables_1) => atoms_spec (ws := Jvm.Cond.code x code maxLocals ret :: tables_1) hat d (List.mem_cons_of_mem _ hd)
  have hfit : Fit s := fun {y c} hc i hi => by
    obtain ⟨ha, rfl⟩ := Array.getElem?_eq_some_iff.mp hc
    have q := List.all_eq_true.mp ((Array.all_eq_true_iff_forall_mem.mp hF) _ (Array.getElem_mem ha)) i (List.mem_range.mpr hi)
    simpa [Array.getElem?_eq_getElem hi] using q
  obtain ⟨i0, ei0⟩ := is_v ga0
  obtain rfl : w0 = (.int i0) := Option.some.inj ei0
  obtain ⟨i1, ei1⟩ := is_v ga1
  obtain rfl : w1 = (.int i1) := Option.some.inj ei1
  obtain ⟨i2, ei2⟩ := is_v ga2
  obtain rfl : w2 = (.int i2) := Option.some.inj ei2
  obtain ⟨n, o, h1, h2, h3, _, L, rfl, ⟨rfl, N⟩, hq⟩ := rm0 l s _ hw tables_1 i0 i1 i2  s.heap s.heap.size (Nat.le_refl _)  p e ha hc hk s m _ below hf ((Spec.applies_iff_loose hf).mp happ).1 ⟨rfl, State.Warmed39.refl s, rfl⟩ trivial
  refine ⟨n, _, h1, h2, h3, hpost _ _ _ _ _ _ ⟨Cond.after_iff.mpr rfl, Cond.after_iff.mpr (eq_i res_at (Term.int_eval (1)) rfl), trivial⟩ ⟨hq.1, hq.2.1, (hq.2.2.sift fun y hy => Or.inr (N y hy)).mono (by decide) (by decide)⟩⟩
theorem main_1_1 : Claimed_1_1 := comes_1 fun _ _ _ _ _ _ h hF => ⟨h.1, hF⟩
theorem main_1_2 : Claimed_1_2 := comes_1 fun _ _ _ _ _ _ h hF => ⟨h.2.1, hF⟩
end Jvm.Pilot.@@N@@
namespace Jvm.Pilot.@@N@@
open Jvm Jvm.ClassFile Sem Op Lib Jvm.Free Jvm.Stand Jvm.Pilot.@@N@@.Jvm.D
/-! MADE BY PROGRAM (witnessworld.py) out of the Statement's table words and the real class files: 9 classes; the members and pool entries that the words name. The judged class is class 1, her method 2. -/
namespace start1
open Jvm.ClassFile
def u (s : String) : CpInfo := .utf8 (stringToUtf16 s)
/-- a pool by its gaps: so many unusable entries, then the entry; so many at the end -/
def gap : Nat → List CpInfo → List CpInfo
  | 0, r => r
  | n + 1, r => .unusable :: gap n r
def poolList (es : List (Nat × CpInfo)) (last : Nat) : List CpInfo := es.foldr (fun e r => gap e.1 (e.2 :: r)) (gap last [])
def pool (es : List (Nat × CpInfo)) (last : Nat) : Array CpInfo := ⟨poolList es last⟩
def fileOf (pool : Array CpInfo) (this : Nat) (attrs : Array Attribute := #[]) (ms : Array MethodInfo := #[]) (fl : Nat := 33) (sup : Nat := 0) (ifs : Array Nat := #[]) (fds : Array FieldInfo := #[]) : ClassFile where
  minorVersion := 0
  majorVersion := 65
  constantPool := pool
  accessFlags := fl
  thisClass := this
  superClass := sup
  interfaces := ifs
  fields := fds
  methods := ms
  attributes := attrs
def plain (name : String) (sup : Option ClassId) : Class where
  name := name
  kind := .ordinary
  loader := none
  accessFlags := 33
  super := sup
  interfaces := #[]
  cf := none
  fields := #[]
  methods := #[]
  instanceTypes := #[]
  staticTypes := #[]
  resolved := #[]
  callSites := []
  init := .initialized
  statics := none
  mirror := none

def pool0 : Array CpInfo := pool [(5, u "<init>"), (0, u "()V"), (1, .class_ 10), (1, u "java/lang/Object")] 113

def k0m0 : Method := { name := "<init>", desc := "()V", sig := { parameters := [], returnType := none }, accessFlags := 1, code := none }
/-- java/lang/Object -/
def k0 : Class := { plain "java/lang/Object" none with
  accessFlags := 33
  interfaces := #[]
  cf := some (fileOf pool0 8 #[] #[{ accessFlags := 1, nameIndex := 5, descriptorIndex := 6, attributes := #[] }] 33 0 #[] #[])
  fields := #[]
  methods := #[k0m0]
  instanceTypes := #[]
  staticTypes := #[]
  resolved := Array.replicate 124 none
  statics := none }

def pool1 : Array CpInfo := pool [(2, .class_ 4), (1, u "java/lang/Object"), (0, u "<init>"), (0, u "()V"), (0, .integer 1114111), (0, .integer 55296), (0, .integer 57343), (0, .integer 65534), (0, .integer 65535), (0, .integer 55295), (0, .integer 57344), (0, .integer 65533), (0, .integer 65536), (0, .integer 1114112), (2, .integer 2147483648), (0, .integer 2147483647), (0, .methodref 22 23), (0, .class_ 24), (0, .nameAndType 25 26), (0, u "com/example/ledgermatch/ledgermatch/model/Identifiers"), (0, u "isTextCharacter"), (0, u "(I)Z"), (0, .methodref 28 29), (0, .class_ 30), (0, .nameAndType 31 26), (0, u "com/example/ledgermatch/ledgermatch/model/IdentifiersIsTextCharacterPinLaw"), (0, u "expected"), (3, u "law"), (0, u "(III)Z")] 4

def k1m0 : Method := { name := "<init>", desc := "()V", sig := { parameters := [], returnType := none }, accessFlags := 2, code := none }
def k1c1 : Code := { maxStack := 2, maxLocals := 2, code := method_2_code, exceptionTable := #[], attributes := #[] }
def k1m1 : Method := { name := "expected", desc := "(I)Z", sig := { parameters := [.int], returnType := some .boolean }, accessFlags := 10, code := some k1c1 }
def k1c2 : Code := { maxStack := 4, maxLocals := 9, code := code, exceptionTable := #[], attributes := #[] }
def k1m2 : Method := { name := "law", desc := "(III)Z", sig := { parameters := [.int, .int, .int], returnType := some .boolean }, accessFlags := 9, code := some k1c2 }
/-- com/example/ledgermatch/ledgermatch/model/IdentifiersIsTextCharacterPinLaw -/
def k1 : Class := { plain "com/example/ledgermatch/ledgermatch/model/IdentifiersIsTextCharacterPinLaw" (some 0) with
  accessFlags := 49
  interfaces := #[]
  cf := some (fileOf pool1 28 #[] #[{ accessFlags := 2, nameIndex := 5, descriptorIndex := 6, attributes := #[] }, { accessFlags := 10, nameIndex := 31, descriptorIndex := 26, attributes := #[] }, { accessFlags := 9, nameIndex := 35, descriptorIndex := 36, attributes := #[] }] 49 2 #[] #[])
  fields := #[]
  methods := #[k1m0, k1m1, k1m2]
  instanceTypes := #[]
  staticTypes := #[]
  resolved := Array.replicate 41 none
  statics := none }

def pool2 : Array CpInfo := pool [(2, .class_ 4), (1, u "java/lang/Object"), (0, u "<init>"), (0, u "()V"), (1, .class_ 10), (1, u "com/example/ledgermatch/ledgermatch/model/Identifiers"), (0, u "BIC11"), (0, u "Ljava/util/regex/Pattern;"), (14, u "ISIN"), (6, u "SECURITIES_ACCOUNT"), (27, .integer 55295), (0, .integer 57344), (0, .integer 65533), (0, .integer 65536), (2, .integer 1114111), (57, u "MAX_REFERENCE"), (0, u "I"), (6, u "isTextCharacter"), (0, u "(I)Z")] 39

def k2m0 : Method := { name := "<init>", desc := "()V", sig := { parameters := [], returnType := none }, accessFlags := 2, code := none }
def k2c1 : Code := { maxStack := 2, maxLocals := 1, code := prog_74_method_6_code, exceptionTable := #[], attributes := #[] }
def k2m1 : Method := { name := "isTextCharacter", desc := "(I)Z", sig := { parameters := [.int], returnType := some .boolean }, accessFlags := 9, code := some k2c1 }
/-- com/example/ledgermatch/ledgermatch/model/Identifiers -/
def k2 : Class := { plain "com/example/ledgermatch/ledgermatch/model/Identifiers" (some 0) with
  accessFlags := 49
  interfaces := #[]
  cf := some (fileOf pool2 8 #[] #[{ accessFlags := 2, nameIndex := 5, descriptorIndex := 6, attributes := #[] }, { accessFlags := 9, nameIndex := 134, descriptorIndex := 135, attributes := #[] }] 49 2 #[] #[{ accessFlags := 26, nameIndex := 11, descriptorIndex := 12, attributes := #[] }, { accessFlags := 26, nameIndex := 27, descriptorIndex := 12, attributes := #[] }, { accessFlags := 26, nameIndex := 34, descriptorIndex := 12, attributes := #[] }, { accessFlags := 26, nameIndex := 126, descriptorIndex := 127, attributes := #[] }])
  fields := #[{ name := "BIC11", type := (.object "java/util/regex/Pattern"), accessFlags := 26, slot := 0, constantValue := 0 }, { name := "ISIN", type := (.object "java/util/regex/Pattern"), accessFlags := 26, slot := 1, constantValue := 0 }, { name := "SECURITIES_ACCOUNT", type := (.object "java/util/regex/Pattern"), accessFlags := 26, slot := 2, constantValue := 0 }, { name := "MAX_REFERENCE", type := .int, accessFlags := 26, slot := 3, constantValue := 0 }]
  methods := #[k2m0, k2m1]
  instanceTypes := #[]
  staticTypes := #[(.object "java/util/regex/Pattern"), (.object "java/util/regex/Pattern"), (.object "java/util/regex/Pattern"), .int]
  resolved := Array.replicate 175 none
  statics := none }

def pool3 : Array CpInfo := pool [(1, u "java/lang/Cloneable"), (0, .class_ 1), (0, u "java/lang/Object"), (0, .class_ 3)] 3

/-- java/lang/Cloneable -/
def k3 : Class := { plain "java/lang/Cloneable" (some 0) with
  accessFlags := 1537
  interfaces := #[]
  cf := some (fileOf pool3 2 #[] #[] 1537 4 #[] #[])
  fields := #[]
  methods := #[]
  instanceTypes := #[]
  staticTypes := #[]
  resolved := Array.replicate 8 none
  statics := none }

def pool4 : Array CpInfo := pool [(1, u "java/io/Serializable"), (0, .class_ 1), (0, u "java/lang/Object"), (0, .class_ 3)] 3

/-- java/io/Serializable -/
def k4 : Class := { plain "java/io/Serializable" (some 0) with
  accessFlags := 1537
  interfaces := #[]
  cf := some (fileOf pool4 2 #[] #[] 1537 4 #[] #[])
  fields := #[]
  methods := #[]
  instanceTypes := #[]
  staticTypes := #[]
  resolved := Array.replicate 8 none
  statics := none }

/-- the primitive byte -/
def k5 : Class := { plain "byte" none with kind := .primitive 'B', accessFlags := 0x411 }
/-- [B -/
def k6 : Class := { plain "[B" (some 0) with kind := .array 5 .byte, interfaces := #[3, 4], accessFlags := 1041 }

/-- the primitive int -/
def k7 : Class := { plain "int" none with kind := .primitive 'I', accessFlags := 0x411 }
/-- [I -/
def k8 : Class := { plain "[I" (some 0) with kind := .array 7 .int, interfaces := #[3, 4], accessFlags := 1041 }

def heap : Heap := #[]
def classes : Array Class := #[k0, k1, k2, k3, k4, k5, k6, k7, k8]
def interned : List (Array UInt16 × Addr) := []
def slotsUsed : Nat := 0
def theMethod : MethodId := ⟨1, 2⟩
def args0 : Array Value := #[.int 5, .int 7, .int 3]
def aboutOver (below : List Frame) : State where
  vm := { classes := classes, interned := interned.toArray }
  heap := heap
  slotsUsed := slotsUsed
  threads := #[{ frames := .invoking theMethod args0 :: below }]
def below0 : List Frame := [.native { method := ⟨0, 0⟩, args := #[] }]
def about1 : State := aboutOver below0
def p0 : Program := .bare "" "" ""
def e0 : Env := launch0.env 0 0 0
theorem w_frames : about1.frames = Frame.invoking theMethod args0 :: below0 := rfl
set_option maxRecDepth 65536 in
theorem w_args : argsFit about1.vm theMethod args0 = true := by decide +kernel
set_option maxRecDepth 65536 in
theorem w_heap : heapFits about1 = true := by decide +kernel
set_option maxRecDepth 65536 in
theorem w_runnable : about1.curStatus? = some .runnable := by decide +kernel
set_option maxRecDepth 65536 in
theorem w_alone : about1.alone = true := by decide +kernel
set_option maxRecDepth 65536 in
theorem w_named : about1.methodNamed? x = some theMethod := by decide +kernel
set_option maxRecDepth 65536 in
theorem w_hears : about1.hears theMethod below0 = true := by decide +kernel
set_option maxRecDepth 65536 in
theorem w_ripe : about1.ripe theMethod args0 below0 = true := by decide +kernel
theorem w_running : about1.status = .running := rfl
set_option maxRecDepth 65536 in
theorem w_room : about1.hasRoom e0.platform room_1 = true :=
  launch0.hasRoom_least _ room_1 (by decide +kernel) (by decide +kernel) (by decide +kernel) (by decide +kernel) (by decide +kernel) (by decide +kernel)
theorem allAtoms_all (ts : List Jvm.Cond) (a : Array Jvm.Value) (st : Jvm.State) : (allAtoms ts).before a st = ts.all (fun c => c.before a st) := by
  induction ts with
  | nil => rfl
  | cons c t ih =>
    show (Jvm.Cond.and c (allAtoms t)).before a st = _
    rw [Jvm.Cond.before_and, ih, List.all_cons]
def words1 : List Jvm.Cond := Jvm.Cond.code x code maxLocals ret :: tables_1
/-- a 'code' word, met by the world's own term for the bytes: nothing is compared byte by byte -/
theorem code_word {y : MethodName} {bytes : ByteArray} {mx : Nat} {rt : Option FieldType} {a : Array Value} {s : State} {m : MethodId} {meth : Method} {c : Code} (h1 : s.methodNamed? y = some m) (h2 : s.vm.method? m = some meth) (h3 : meth.code = some c) (h4 : c.code = bytes)
    (h5 : (c.maxLocals == mx && c.exceptionTable.isEmpty && decide (c.maxStack ≤ mostOperands) && decide (meth.sig.returnType = rt) && !meth.locks && decide (parseMethodDescriptor y.desc = some meth.sig)) = true) : (Jvm.Cond.code y bytes mx rt).before a s = true := by
  simp only [Bool.and_eq_true, beq_iff_eq, Bool.not_eq_true', decide_eq_true_eq] at h5
  obtain ⟨⟨⟨⟨⟨g1, g2⟩, g3⟩, g4⟩, g5⟩, g6⟩ := h5
  simp [Cond.before, Cond.holds, Cond.value, h1, h2, h3, h4, g1, g2, g3, g4, g5, g6]
def isCode : Jvm.Cond → Bool
  | .code _ _ _ _ => true
  | _ => false
theorem all_split {L : List Jvm.Cond} {P : Jvm.Cond → Bool} (h1 : L.all (fun c => isCode c || P c) = true) (h2 : ∀ c ∈ L.filter isCode, P c = true) : L.all P = true := by
  refine List.all_eq_true.mpr fun c hc => ?_
  have h := List.all_eq_true.mp h1 c hc
  rcases Bool.eq_false_or_eq_true (isCode c) with hi | hi
  · exact h2 c (List.mem_filter.mpr ⟨hc, hi⟩)
  · simpa [hi] using h
set_option maxRecDepth 65536 in
theorem w_c0 : (Jvm.Cond.code x code maxLocals ret).before args0 about1 = true := code_word (m := ⟨1, 2⟩) (meth := k1m2) (c := k1c2) (by decide +kernel) rfl rfl rfl (by decide +kernel)
set_option maxRecDepth 65536 in
theorem w_c1 : (Jvm.Cond.code ({ cls := "com/example/ledgermatch/ledgermatch/model/Identifiers", name := "isTextCharacter", desc := "(I)Z" } : Jvm.MethodName) prog_74_method_6_code (1 : Nat) (Option.some Jvm.ClassFile.FieldType.boolean)).before args0 about1 = true := code_word (m := ⟨2, 1⟩) (meth := k2m1) (c := k2c1) (by decide +kernel) rfl rfl rfl (by decide +kernel)
set_option maxRecDepth 65536 in
theorem w_c2 : (Jvm.Cond.code ({ cls := "com/example/ledgermatch/ledgermatch/model/IdentifiersIsTextCharacterPinLaw", name := "expected", desc := "(I)Z" } : Jvm.MethodName) method_2_code (2 : Nat) (Option.some Jvm.ClassFile.FieldType.boolean)).before args0 about1 = true := code_word (m := ⟨1, 1⟩) (meth := k1m1) (c := k1c1) (by decide +kernel) rfl rfl rfl (by decide +kernel)
def codes1 : List Jvm.Cond := [Jvm.Cond.code x code maxLocals ret, Jvm.Cond.code ({ cls := "com/example/ledgermatch/ledgermatch/model/Identifiers", name := "isTextCharacter", desc := "(I)Z" } : Jvm.MethodName) prog_74_method_6_code (1 : Nat) (Option.some Jvm.ClassFile.FieldType.boolean), Jvm.Cond.code ({ cls := "com/example/ledgermatch/ledgermatch/model/IdentifiersIsTextCharacterPinLaw", name := "expected", desc := "(I)Z" } : Jvm.MethodName) method_2_code (2 : Nat) (Option.some Jvm.ClassFile.FieldType.boolean)]
set_option maxRecDepth 65536 in
theorem codes_eq : words1.filter isCode = codes1 := rfl
theorem w_codes : ∀ c ∈ words1.filter isCode, c.before args0 about1 = true := by
  rw [codes_eq]
  intro c hc
  simp only [codes1, List.mem_cons, List.not_mem_nil, or_false] at hc
  rcases hc with rfl | rfl | rfl
  · exact w_c0
  · exact w_c1
  · exact w_c2
set_option maxRecDepth 65536 in
theorem w_t1 : (words1.take 24).all (fun c => isCode c || c.before args0 about1) = true := by decide +kernel
set_option maxRecDepth 65536 in
theorem w_t2 : (words1.drop 24).all (fun c => isCode c || c.before args0 about1) = true := by decide +kernel
theorem w_tables : (allAtoms (Jvm.Cond.code x code maxLocals ret :: tables_1)).before args0 about1 = true := by
  rw [allAtoms_all]
  show words1.all (fun c => c.before args0 about1) = true
  refine all_split ?_ w_codes
  rw [← List.take_append_drop 24 words1, List.all_append, w_t1, w_t2]
  rfl
set_option maxRecDepth 65536 in
theorem w_case : (Jvm.Cond.and given_1 narrow_1).before args0 about1 = true := by decide +kernel
theorem w_applies : (headSpec (Jvm.Cond.code x code maxLocals ret :: tables_1) room_1).applies x e0.platform about1 = true :=
  (Spec.applies_iff w_frames).mpr ⟨w_running, w_runnable, w_alone, w_named, w_hears, w_ripe, w_room, w_tables⟩
theorem atStart : AtStart classFile x code maxLocals ret World_1 tables_1 room_1 Calls_1 rest_1 Pre_1 launch0 p0 e0 about1 theMethod args0 below0 :=
  ⟨lists_1, trivial, launch0.admits_env _ _ _, launch0.least_env, fairChoices_fair.cas, fairChoices_fair.clock, w_frames, w_args, w_heap, w_applies, trivial, trivial, w_case⟩
end start1
theorem witness_1 : WitnessClaimed_1 := ⟨start1.p0, start1.e0, start1.about1, start1.theMethod, start1.args0, start1.below0, start1.atStart⟩
end Jvm.Pilot.@@N@@
