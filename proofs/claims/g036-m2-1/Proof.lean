import JvmDerived
import JvmDerived.Pilot.@@N@@Statement
import JvmDerived.Pilot.@@N@@Code
set_option linter.unusedVariables false
set_option linter.unusedSimpArgs false
namespace Jvm.Pilot.@@N@@
open Jvm Jvm.ClassFile Sem Op Lib Jvm.Free Jvm.Stand Jvm.LawKit Jvm.RoadKit Bundle Jvm.Pilot.@@N@@.Jvm.D
theorem own_eq {t : Term} {k : Int32} {args : Array Value} {s : State} (h : (Jvm.Cond.eq t (.int k)).value args s none s [] = some true) : t.eval args s none [] s = some (.int k) := by
  simp only [Cond.value, Term.eval] at h
  cases ht : t.eval args s none [] s with
  | none => simp [ht] at h
  | some x => cases x <;> simp [ht] at h ⊢; exact h
theorem d1a_0 : decode prog_72_method_4_code 0 = .ok (.aload_n 0, 1) := by decide +kernel
theorem d1a_1 : decode prog_72_method_4_code 1 = .ok (.getstatic 3, 3) := by decide +kernel
theorem d1a_4 : decode prog_72_method_4_code 4 = .ok (.if_acmp .ne 9, 3) := by decide +kernel
theorem d1a_7 : decode prog_72_method_4_code 7 = .ok (.getstatic 7, 3) := by decide +kernel
theorem d1a_10 : decode prog_72_method_4_code 10 = .ok (.goto 6, 3) := by decide +kernel
theorem d1a_16 : decode prog_72_method_4_code 16 = .ok (.areturn, 1) := by decide +kernel
theorem pn_1a : plainName "com/example/ledgermatch/ledgermatch/model/Direction" = true := by first | (simp [plainName, overriddenIn]; done) | decide +kernel
theorem ef_1a (m : MethodId) (x0 : Addr) : entryFrame m #[(.ref x0)] 1 = mkF m 0 #[.val (.ref x0)] [] := by first | (simp [entryFrame, mkF, argsToLocals, Value.category]; done) | rfl
def Q1a (Z : State) (a : Addr) (dl rc : Addr) (h0 : Heap) (n0 : Nat) (v : Option Value) (h : Heap) (L : List Loc) : Prop := v = some (.ref rc) ∧ Fr n0 L ∧ h = h0
set_option maxRecDepth 65536 in
set_option maxHeartbeats 40000000 in
theorem rm1a (l : Launch) (Z : State) (a0 : Array Value) (hw : ∀ d ∈ tables_1, d.before a0 Z = true) (ws : List Jvm.Cond) (a : Addr) (dl rc : Addr) (h0 : Heap) (n0 : Nat) (Z0 : n0 ≤ h0.size) (S_DELI : Sta Z h0 "com/example/ledgermatch/ledgermatch/model/Direction" "DELI" "Lcom/example/ledgermatch/ledgermatch/model/Direction;" (.ref dl)) (S_RECE : Sta Z h0 "com/example/ledgermatch/ledgermatch/model/Direction" "RECE" "Lcom/example/ledgermatch/ledgermatch/model/Direction;" (.ref rc)) (hs : a = dl) :
    MetFree l (⟨"com/example/ledgermatch/ledgermatch/model/Direction", "opposite", "()Lcom/example/ledgermatch/ledgermatch/model/Direction;"⟩ : MethodName) (head1 (Jvm.Cond.code (⟨"com/example/ledgermatch/ledgermatch/model/Direction", "opposite", "()Lcom/example/ledgermatch/ledgermatch/model/Direction;"⟩ : MethodName) prog_72_method_4_code 1 (some (.object "com/example/ledgermatch/ledgermatch/model/Direction")) :: ws) ({ frames := 0, cells := 0, slots := 0, locals := 0 } : Room)) (fun ar U => ar = #[(.ref a)] ∧ Z.Warmed39 U.vm ∧ U.heap = h0) (fun _ _ _ _ _ => True) (fun _ U o U' => ∃ v L, o = .returned v ∧ Q1a Z a dl rc h0 n0 v U'.heap L ∧ FrameEnd U o U' L ({ frames := 0, cells := 0, slots := 0, locals := 0 } : Room).cells ({ frames := 0, cells := 0, slots := 0, locals := 0 } : Room).slots) := by
  refine MetFree.of_bodySF (plainFor_of_name pn_1a) hisR ?_
  intro p e s m args below meth c s₁ Bd hml0 hP hK
  obtain ⟨rfl, hZ, hh⟩ := hP
  have hx := Bd.exec
  have hby := Bd.bytes
  have hml : c.maxLocals = 1 := hml0
  have hown : s.vm.findClass "com/example/ledgermatch/ledgermatch/model/Direction" = some m.cls := findClass_of_methodNamed Bd.named
  have hnm := (name_of_methodNamed Bd.named Bd.method).1
  have X0 : Stand p l e ({ frames := 0, cells := 0, slots := 0, locals := 0 } : Room) s m #[(.ref a)] below meth c s₁ [] 0 0 := Stand.of_body Bd
  have e0 : s₁.heap = h0 := by rw [← hh, Bd.state]; rfl
  have N0 := Fr.nil n0
  have K0 : Keep h0 h0 [] := Keep.refl h0 _
  have pre0 : ∀ t, Steps p.tables e below (s₁.setTop (mkF m 0 #[.val (.ref a)] [])) t → Steps p.tables e below (s₁.setTop (entryFrame m #[(.ref a)] 1)) t := fun t k => castTop (ef_1a m a) k
  obtain ⟨T1, X1, e1, st1⟩ := getS2 X0 hx hZ hown (host := "") (Or.inl (hw _ (List.mem_of_getElem? (i := 8) rfl))) Via.refl e0 S_DELI (g := (mkF m 1 #[.val (.ref a)] [(.ref a)])) rfl (hb hby d1a_1)
  obtain ⟨T2, X2, e2, st2⟩ := getS2 X1 hx hZ hown (host := "") (Or.inl (hw _ (List.mem_of_getElem? (i := 11) rfl))) Via.refl e1 S_RECE (g := (mkF m 7 #[.val (.ref a)] [])) rfl (hb hby d1a_7)
  obtain ⟨fs, hr, hrun, hended, hW, hsame⟩ := X2.leave (v := some (.ref rc)) (fun h => by rw [Bd.returns] at h; cases h)
  refine ⟨_, _, pre0 _ ?_, hrun, hended, _, _, rfl, ?_, ⟨_, rfl⟩, hW, hsame.mono (by decide) (by decide)⟩
  · show Steps p.tables e below (s₁.setTop (mkF m 0 #[.val (.ref a)] [])) _
    refine XS.aloadN X0.here hx rfl (hb hby d1a_0) rfl rfl ?_
    show Steps p.tables e below (s₁.setTop (mkF m 1 #[.val (.ref a)] [(.ref a)])) _
    refine st1 _ ?_
    show Steps p.tables e below (T1.setTop (mkF m 4 #[.val (.ref a)] [(.ref dl), (.ref a)])) _
    refine Jvm.RoadKit.acmp (g := (mkF m 4 #[.val (.ref a)] [(.ref dl), (.ref a)])) X1 hx rfl rfl rfl (pc0 := 4) (pc' := 7) (same := true) rfl (hb hby d1a_4) rfl (decide_eq_true (congrArg Value.ref hs)) (by decide) (by decide) ?_
    show Steps p.tables e below (T1.setTop (mkF m 7 #[.val (.ref a)] [])) _
    refine st2 _ ?_
    show Steps p.tables e below (T2.setTop (mkF m 10 #[.val (.ref a)] [(.ref rc)])) _
    refine XS.goto X2.here hx rfl (pc0 := 10) (pc' := 16) rfl (hb hby d1a_10) (by decide) (by decide) ?_
    show Steps p.tables e below (T2.setTop (mkF m 16 #[.val (.ref a)] [(.ref rc)])) _
    exact retOut X2 hx Bd.returns rfl (Or.inr (Or.inr (Or.inr (Or.inr ⟨rfl, rfl, rfl⟩)))) (hb hby d1a_16) hr
  · show Q1a Z a dl rc h0 n0 _ T2.heap _
    rw [e2]
    exact ⟨rfl, N0, rfl⟩
theorem d1b_0 : decode prog_72_method_4_code 0 = .ok (.aload_n 0, 1) := by decide +kernel
theorem d1b_1 : decode prog_72_method_4_code 1 = .ok (.getstatic 3, 3) := by decide +kernel
theorem d1b_4 : decode prog_72_method_4_code 4 = .ok (.if_acmp .ne 9, 3) := by decide +kernel
theorem d1b_13 : decode prog_72_method_4_code 13 = .ok (.getstatic 3, 3) := by decide +kernel
theorem d1b_16 : decode prog_72_method_4_code 16 = .ok (.areturn, 1) := by decide +kernel
theorem pn_1b : plainName "com/example/ledgermatch/ledgermatch/model/Direction" = true := by first | (simp [plainName, overriddenIn]; done) | decide +kernel
theorem ef_1b (m : MethodId) (x0 : Addr) : entryFrame m #[(.ref x0)] 1 = mkF m 0 #[.val (.ref x0)] [] := by first | (simp [entryFrame, mkF, argsToLocals, Value.category]; done) | rfl
def Q1b (Z : State) (a : Addr) (dl rc : Addr) (h0 : Heap) (n0 : Nat) (v : Option Value) (h : Heap) (L : List Loc) : Prop := v = some (.ref dl) ∧ Fr n0 L ∧ h = h0
set_option maxRecDepth 65536 in
set_option maxHeartbeats 40000000 in
theorem rm1b (l : Launch) (Z : State) (a0 : Array Value) (hw : ∀ d ∈ tables_1, d.before a0 Z = true) (ws : List Jvm.Cond) (a : Addr) (dl rc : Addr) (h0 : Heap) (n0 : Nat) (Z0 : n0 ≤ h0.size) (S_DELI : Sta Z h0 "com/example/ledgermatch/ledgermatch/model/Direction" "DELI" "Lcom/example/ledgermatch/ledgermatch/model/Direction;" (.ref dl)) (S_RECE : Sta Z h0 "com/example/ledgermatch/ledgermatch/model/Direction" "RECE" "Lcom/example/ledgermatch/ledgermatch/model/Direction;" (.ref rc)) (hs : a ≠ dl) :
    MetFree l (⟨"com/example/ledgermatch/ledgermatch/model/Direction", "opposite", "()Lcom/example/ledgermatch/ledgermatch/model/Direction;"⟩ : MethodName) (head1 (Jvm.Cond.code (⟨"com/example/ledgermatch/ledgermatch/model/Direction", "opposite", "()Lcom/example/ledgermatch/ledgermatch/model/Direction;"⟩ : MethodName) prog_72_method_4_code 1 (some (.object "com/example/ledgermatch/ledgermatch/model/Direction")) :: ws) ({ frames := 0, cells := 0, slots := 0, locals := 0 } : Room)) (fun ar U => ar = #[(.ref a)] ∧ Z.Warmed39 U.vm ∧ U.heap = h0) (fun _ _ _ _ _ => True) (fun _ U o U' => ∃ v L, o = .returned v ∧ Q1b Z a dl rc h0 n0 v U'.heap L ∧ FrameEnd U o U' L ({ frames := 0, cells := 0, slots := 0, locals := 0 } : Room).cells ({ frames := 0, cells := 0, slots := 0, locals := 0 } : Room).slots) := by
  refine MetFree.of_bodySF (plainFor_of_name pn_1b) hisR ?_
  intro p e s m args below meth c s₁ Bd hml0 hP hK
  obtain ⟨rfl, hZ, hh⟩ := hP
  have hx := Bd.exec
  have hby := Bd.bytes
  have hml : c.maxLocals = 1 := hml0
  have hown : s.vm.findClass "com/example/ledgermatch/ledgermatch/model/Direction" = some m.cls := findClass_of_methodNamed Bd.named
  have hnm := (name_of_methodNamed Bd.named Bd.method).1
  have X0 : Stand p l e ({ frames := 0, cells := 0, slots := 0, locals := 0 } : Room) s m #[(.ref a)] below meth c s₁ [] 0 0 := Stand.of_body Bd
  have e0 : s₁.heap = h0 := by rw [← hh, Bd.state]; rfl
  have N0 := Fr.nil n0
  have K0 : Keep h0 h0 [] := Keep.refl h0 _
  have pre0 : ∀ t, Steps p.tables e below (s₁.setTop (mkF m 0 #[.val (.ref a)] [])) t → Steps p.tables e below (s₁.setTop (entryFrame m #[(.ref a)] 1)) t := fun t k => castTop (ef_1b m a) k
  obtain ⟨T1, X1, e1, st1⟩ := getS2 X0 hx hZ hown (host := "") (Or.inl (hw _ (List.mem_of_getElem? (i := 8) rfl))) Via.refl e0 S_DELI (g := (mkF m 1 #[.val (.ref a)] [(.ref a)])) rfl (hb hby d1b_1)
  obtain ⟨T2, X2, e2, st2⟩ := getS2 X1 hx hZ hown (host := "") (Or.inl (hw _ (List.mem_of_getElem? (i := 8) rfl))) Via.refl e1 S_DELI (g := (mkF m 13 #[.val (.ref a)] [])) rfl (hb hby d1b_13)
  obtain ⟨fs, hr, hrun, hended, hW, hsame⟩ := X2.leave (v := some (.ref dl)) (fun h => by rw [Bd.returns] at h; cases h)
  refine ⟨_, _, pre0 _ ?_, hrun, hended, _, _, rfl, ?_, ⟨_, rfl⟩, hW, hsame.mono (by decide) (by decide)⟩
  · show Steps p.tables e below (s₁.setTop (mkF m 0 #[.val (.ref a)] [])) _
    refine XS.aloadN X0.here hx rfl (hb hby d1b_0) rfl rfl ?_
    show Steps p.tables e below (s₁.setTop (mkF m 1 #[.val (.ref a)] [(.ref a)])) _
    refine st1 _ ?_
    show Steps p.tables e below (T1.setTop (mkF m 4 #[.val (.ref a)] [(.ref dl), (.ref a)])) _
    refine Jvm.RoadKit.acmp (g := (mkF m 4 #[.val (.ref a)] [(.ref dl), (.ref a)])) X1 hx rfl rfl rfl (pc0 := 4) (pc' := 13) (same := false) rfl (hb hby d1b_4) rfl (decide_eq_false fun q => hs (Value.ref.inj q)) (by decide) (by decide) ?_
    show Steps p.tables e below (T1.setTop (mkF m 13 #[.val (.ref a)] [])) _
    refine st2 _ ?_
    show Steps p.tables e below (T2.setTop (mkF m 16 #[.val (.ref a)] [(.ref dl)])) _
    exact retOut X2 hx Bd.returns rfl (Or.inr (Or.inr (Or.inr (Or.inr ⟨rfl, rfl, rfl⟩)))) (hb hby d1b_16) hr
  · show Q1b Z a dl rc h0 n0 _ T2.heap _
    rw [e2]
    exact ⟨rfl, N0, rfl⟩
theorem pn_0 : plainName "com/example/ledgermatch/ledgermatch/model/DirectionOppositePinLaw" = true := by first | (simp [plainName, overriddenIn]; done) | decide +kernel
theorem pd0_0 : parseMethodDescriptor "()Lcom/example/ledgermatch/ledgermatch/model/Direction;" = some ⟨[], some (.object "com/example/ledgermatch/ledgermatch/model/Direction")⟩ := by decide +kernel
theorem ef_0 (m : MethodId) (x0 : Int32) : entryFrame m #[(.int x0)] maxLocals = mkF m 0 #[.val (.int x0), .unset, .unset, .unset] [] := by first | (simp [entryFrame, mkF, argsToLocals, Value.category, maxLocals]; done) | rfl
def Q0 (Z : State) (x' : Int32) (dl rc : Addr) (h0 : Heap) (n0 : Nat) (v : Option Value) (h : Heap) (L : List Loc) : Prop := v = some (.int (1 : Int32)) ∧ Fr n0 L
set_option maxRecDepth 65536 in
set_option maxHeartbeats 40000000 in
theorem rm0 (l : Launch) (Z : State) (a0 : Array Value) (hw : ∀ d ∈ tables_1, d.before a0 Z = true) (ws : List Jvm.Cond) (x' : Int32) (dl rc : Addr) (h0 : Heap) (n0 : Nat) (Z0 : n0 ≤ h0.size) (S_DELI : Sta Z h0 "com/example/ledgermatch/ledgermatch/model/Direction" "DELI" "Lcom/example/ledgermatch/ledgermatch/model/Direction;" (.ref dl)) (S_RECE : Sta Z h0 "com/example/ledgermatch/ledgermatch/model/Direction" "RECE" "Lcom/example/ledgermatch/ledgermatch/model/Direction;" (.ref rc)) (E_dl : Exa Z h0 dl "com/example/ledgermatch/ledgermatch/model/Direction") (E_rc : Exa Z h0 rc "com/example/ledgermatch/ledgermatch/model/Direction") (ne_dl_rc : dl ≠ rc) :
    MetFree l x (head1 (Jvm.Cond.code x code maxLocals ret :: ws) room_1) (fun ar U => ar = #[(.int x')] ∧ Z.Warmed39 U.vm ∧ U.heap = h0) (fun _ _ _ _ _ => True) (fun _ U o U' => ∃ v L, o = .returned v ∧ Q0 Z x' dl rc h0 n0 v U'.heap L ∧ FrameEnd U o U' L room_1.cells room_1.slots) := by
  refine MetFree.of_bodySF (plainFor_of_name pn_0) hisR ?_
  intro p e s m args below meth c s₁ Bd hml0 hP hK
  obtain ⟨rfl, hZ, hh⟩ := hP
  have hx := Bd.exec
  have hby := Bd.bytes
  have hml : c.maxLocals = 4 := hml0
  have hown : s.vm.findClass "com/example/ledgermatch/ledgermatch/model/DirectionOppositePinLaw" = some m.cls := findClass_of_methodNamed Bd.named
  have hnm := (name_of_methodNamed Bd.named Bd.method).1
  have X0 : Stand p l e room_1 s m #[(.int x')] below meth c s₁ [] 0 0 := Stand.of_body Bd
  have e0 : s₁.heap = h0 := by rw [← hh, Bd.state]; rfl
  have N0 := Fr.nil n0
  have K0 : Keep h0 h0 [] := Keep.refl h0 _
  have pre0 : ∀ t, Steps p.tables e below (s₁.setTop (mkF m 0 #[.val (.int x'), .unset, .unset, .unset] [])) t → Steps p.tables e below (s₁.setTop (entryFrame m #[(.int x')] maxLocals)) t := fun t k => castTop (ef_0 m x') k
  have pre1 : ∀ t, Steps p.tables e below (s₁.setTop (mkF m 3 #[.val (.int x'), .unset, .unset, .unset] [(.int (x' &&& (1 : Int32)))])) t → Steps p.tables e below (s₁.setTop (entryFrame m #[(.int x')] maxLocals)) t := by
    intro t kt
    refine pre0 t ?_
    show Steps p.tables e below (s₁.setTop (mkF m 0 #[.val (.int x'), .unset, .unset, .unset] [])) _
    refine XS.iloadN X0.here hx rfl (hb hby at_0) rfl ?_
    show Steps p.tables e below (s₁.setTop (mkF m 1 #[.val (.int x'), .unset, .unset, .unset] [(.int x')])) _
    refine XS.iconst X0.here hx rfl (hb hby at_1) ?_
    show Steps p.tables e below (s₁.setTop (mkF m 2 #[.val (.int x'), .unset, .unset, .unset] [(.int (1 : Int32)), (.int x')])) _
    refine XS.iand X0.here hx rfl (hb hby at_2) rfl ?_
    exact kt
  by_cases hc3_2 : (x' &&& (1 : Int32)) = (0 : Int32)
  · obtain ⟨T3, X3, e3, st3⟩ := getS2 X0 hx hZ hown (host := "") (Or.inl (hw _ (List.mem_of_getElem? (i := 0) rfl))) Via.refl e0 S_RECE (g := (mkF m 12 #[.val (.int x'), .unset, .unset, .unset] [])) rfl (hb hby at_12)
    obtain ⟨cq4, kq4, q4a, q4b, q4c⟩ := isOf hZ e3 E_rc
    obtain ⟨_, _, ⟨T4, L4, k4, n4⟩, -, X4, ⟨Lc4, hQ4, l4, y4, z4⟩, st4⟩ := X3.virtualBack hx (y := (⟨"com/example/ledgermatch/ledgermatch/model/Direction", "opposite", "()Lcom/example/ledgermatch/ledgermatch/model/Direction;"⟩ : MethodName)) (z := (⟨"com/example/ledgermatch/ledgermatch/model/Direction", "opposite", "()Lcom/example/ledgermatch/ledgermatch/model/Direction;"⟩ : MethodName)) hown (mvT hZ (hw _ (List.mem_of_getElem? (i := 3) rfl))) (mvT hZ (hw _ (List.mem_of_getElem? (i := 4) rfl))) (notFace_of_selects (args := #[]) (mvT hZ (hw _ (List.mem_of_getElem? (i := 6) rfl)))) (mvT hZ (hw _ (List.mem_of_getElem? (i := 6) rfl))) (mvT hZ (hw _ (List.mem_of_getElem? (i := 5) rfl))) (by decide) (backOf (W := 0) (rm1b l Z a0 hw [] rc dl rc h0 n0 Z0 S_DELI S_RECE (Ne.symm ne_dl_rc)) hZ (hw _ (List.mem_of_getElem? (i := 7) rfl)) (hw _ (List.mem_of_getElem? (i := 1) rfl)) (by decide) (by decide)) q4a q4c (g := (mkF m 17 #[.val (.int x'), .val (.ref rc), .unset, .unset] [(.ref rc)])) rfl (by rw [hml]; rfl) (Steps.refl _) (argsL := []) (rest := []) (lenOf pd0_0 rfl) rfl (by show 2 * 0 + _ ≤ _; exact Nat.le_of_eq rfl) (hb hby at_17) (fun _ _ => ⟨rfl, e3, (by decide : 0 + 0 ≤ _), (by decide : 0 + 0 ≤ _)⟩)
    dsimp only [Pt.U, Pt.locs, Pt.cells, Pt.slots] at X4 l4 y4 z4 st4 hQ4
    subst l4 y4 z4
    obtain ⟨rfl, N4q, hh4⟩ := hQ4
    have N4 := Fr.app N0 N4q
    obtain ⟨T5, X5, e5, st5⟩ := getS2 X4 hx hZ hown (host := "") (Or.inl (hw _ (List.mem_of_getElem? (i := 10) rfl))) Via.refl hh4 S_DELI (g := (mkF m 22 #[.val (.int x'), .val (.ref rc), .val (.ref dl), .unset] [(.ref rc)])) rfl (hb hby at_22)
    obtain ⟨T6, X6, e6, st6⟩ := getS2 X5 hx hZ hown (host := "") (Or.inl (hw _ (List.mem_of_getElem? (i := 10) rfl))) Via.refl e5 S_DELI (g := (mkF m 45 #[.val (.int x'), .val (.ref rc), .val (.ref dl), .unset] [(.ref dl)])) rfl (hb hby at_45)
    obtain ⟨cq7, kq7, q7a, q7b, q7c⟩ := isOf hZ e6 E_dl
    obtain ⟨_, _, ⟨T7, L7, k7, n7⟩, -, X7, ⟨Lc7, hQ7, l7, y7, z7⟩, st7⟩ := X6.virtualBack hx (y := (⟨"com/example/ledgermatch/ledgermatch/model/Direction", "opposite", "()Lcom/example/ledgermatch/ledgermatch/model/Direction;"⟩ : MethodName)) (z := (⟨"com/example/ledgermatch/ledgermatch/model/Direction", "opposite", "()Lcom/example/ledgermatch/ledgermatch/model/Direction;"⟩ : MethodName)) hown (mvT hZ (hw _ (List.mem_of_getElem? (i := 3) rfl))) (mvT hZ (hw _ (List.mem_of_getElem? (i := 4) rfl))) (notFace_of_selects (args := #[]) (mvT hZ (hw _ (List.mem_of_getElem? (i := 6) rfl)))) (mvT hZ (hw _ (List.mem_of_getElem? (i := 6) rfl))) (mvT hZ (hw _ (List.mem_of_getElem? (i := 5) rfl))) (by decide) (backOf (W := 0) (rm1a l Z a0 hw [] dl dl rc h0 n0 Z0 S_DELI S_RECE rfl) hZ (hw _ (List.mem_of_getElem? (i := 7) rfl)) (hw _ (List.mem_of_getElem? (i := 1) rfl)) (by decide) (by decide)) q7a q7c (g := (mkF m 67 #[.val (.int x'), .val (.ref rc), .val (.ref dl), .val (.int (1 : Int32))] [(.ref dl)])) rfl (by rw [hml]; rfl) (Steps.refl _) (argsL := []) (rest := []) (lenOf pd0_0 rfl) rfl (by show 2 * 0 + _ ≤ _; exact Nat.le_of_eq rfl) (hb hby at_67) (fun _ _ => ⟨rfl, e6, (by decide : 0 + 0 ≤ _), (by decide : 0 + 0 ≤ _)⟩)
    dsimp only [Pt.U, Pt.locs, Pt.cells, Pt.slots] at X7 l7 y7 z7 st7 hQ7
    subst l7 y7 z7
    obtain ⟨rfl, N7q, hh7⟩ := hQ7
    have N7 := Fr.app N4 N7q
    obtain ⟨fs, hr, hrun, hended, hW, hsame⟩ := X7.leave (v := some (.int (1 : Int32))) (fun h => by rw [Bd.returns] at h; cases h)
    refine ⟨_, _, pre1 _ ?_, hrun, hended, _, _, rfl, ?_, ⟨_, rfl⟩, hW, hsame.mono (by decide) (by decide)⟩
    · show Steps p.tables e below (s₁.setTop (mkF m 3 #[.val (.int x'), .unset, .unset, .unset] [(.int (x' &&& (1 : Int32)))])) _
      refine XS.ifYes X0.here hx rfl (pc0 := 3) (pc' := 12) rfl (hb hby at_3) rfl ((if0 _ _).trans (teq hc3_2).1) (by decide) (by decide) ?_
      show Steps p.tables e below (s₁.setTop (mkF m 12 #[.val (.int x'), .unset, .unset, .unset] [])) _
      refine st3 _ ?_
      show Steps p.tables e below (T3.setTop (mkF m 15 #[.val (.int x'), .unset, .unset, .unset] [(.ref rc)])) _
      refine XS.astoreN X3.here hx rfl (hb hby at_15) rfl rfl (l' := #[.val (.int x'), .val (.ref rc), .unset, .unset]) rfl ?_
      show Steps p.tables e below (T3.setTop (mkF m 16 #[.val (.int x'), .val (.ref rc), .unset, .unset] [])) _
      refine XS.aloadN X3.here hx rfl (hb hby at_16) rfl rfl ?_
      show Steps p.tables e below (T3.setTop (mkF m 17 #[.val (.int x'), .val (.ref rc), .unset, .unset] [(.ref rc)])) _
      refine st4.trans ?_
      show Steps p.tables e below (T4.setTop (mkF m 20 #[.val (.int x'), .val (.ref rc), .unset, .unset] [(.ref dl)])) _
      refine XS.astoreN X4.here hx rfl (hb hby at_20) rfl rfl (l' := #[.val (.int x'), .val (.ref rc), .val (.ref dl), .unset]) rfl ?_
      show Steps p.tables e below (T4.setTop (mkF m 21 #[.val (.int x'), .val (.ref rc), .val (.ref dl), .unset] [])) _
      refine XS.aloadN X4.here hx rfl (hb hby at_21) rfl rfl ?_
      show Steps p.tables e below (T4.setTop (mkF m 22 #[.val (.int x'), .val (.ref rc), .val (.ref dl), .unset] [(.ref rc)])) _
      refine st5 _ ?_
      show Steps p.tables e below (T5.setTop (mkF m 25 #[.val (.int x'), .val (.ref rc), .val (.ref dl), .unset] [(.ref dl), (.ref rc)])) _
      refine Jvm.RoadKit.acmp (g := (mkF m 25 #[.val (.int x'), .val (.ref rc), .val (.ref dl), .unset] [(.ref dl), (.ref rc)])) X5 hx rfl rfl rfl (pc0 := 25) (pc' := 44) (same := false) rfl (hb hby at_25) rfl (decide_eq_false fun q => (Ne.symm ne_dl_rc) (Value.ref.inj q)) (by decide) (by decide) ?_
      show Steps p.tables e below (T5.setTop (mkF m 44 #[.val (.int x'), .val (.ref rc), .val (.ref dl), .unset] [])) _
      refine XS.aloadN X5.here hx rfl (hb hby at_44) rfl rfl ?_
      show Steps p.tables e below (T5.setTop (mkF m 45 #[.val (.int x'), .val (.ref rc), .val (.ref dl), .unset] [(.ref dl)])) _
      refine st6 _ ?_
      show Steps p.tables e below (T6.setTop (mkF m 48 #[.val (.int x'), .val (.ref rc), .val (.ref dl), .unset] [(.ref dl), (.ref dl)])) _
      refine Jvm.RoadKit.acmp (g := (mkF m 48 #[.val (.int x'), .val (.ref rc), .val (.ref dl), .unset] [(.ref dl), (.ref dl)])) X6 hx rfl rfl rfl (pc0 := 48) (pc' := 51) (same := true) rfl (hb hby at_48) rfl (decide_eq_true rfl) (by decide) (by decide) ?_
      show Steps p.tables e below (T6.setTop (mkF m 51 #[.val (.int x'), .val (.ref rc), .val (.ref dl), .unset] [])) _
      refine XS.iconst X6.here hx rfl (hb hby at_51) ?_
      show Steps p.tables e below (T6.setTop (mkF m 52 #[.val (.int x'), .val (.ref rc), .val (.ref dl), .unset] [(.int (1 : Int32))])) _
      refine XS.goto X6.here hx rfl (pc0 := 52) (pc' := 56) rfl (hb hby at_52) (by decide) (by decide) ?_
      show Steps p.tables e below (T6.setTop (mkF m 56 #[.val (.int x'), .val (.ref rc), .val (.ref dl), .unset] [(.int (1 : Int32))])) _
      refine XS.istoreN X6.here hx rfl (hb hby at_56) rfl (l' := #[.val (.int x'), .val (.ref rc), .val (.ref dl), .val (.int (1 : Int32))]) rfl ?_
      show Steps p.tables e below (T6.setTop (mkF m 57 #[.val (.int x'), .val (.ref rc), .val (.ref dl), .val (.int (1 : Int32))] [])) _
      refine XS.iloadN X6.here hx rfl (hb hby at_57) rfl ?_
      show Steps p.tables e below (T6.setTop (mkF m 58 #[.val (.int x'), .val (.ref rc), .val (.ref dl), .val (.int (1 : Int32))] [(.int (1 : Int32))])) _
      refine XS.ifNo X6.here hx rfl (hb hby at_58) rfl ((if0 _ _).trans (feq (by decide : ¬ ((1 : Int32) = (0 : Int32)))).1) ?_
      show Steps p.tables e below (T6.setTop (mkF m 61 #[.val (.int x'), .val (.ref rc), .val (.ref dl), .val (.int (1 : Int32))] [])) _
      refine XS.aloadN X6.here hx rfl (hb hby at_61) rfl rfl ?_
      show Steps p.tables e below (T6.setTop (mkF m 62 #[.val (.int x'), .val (.ref rc), .val (.ref dl), .val (.int (1 : Int32))] [(.ref dl)])) _
      refine XS.aloadN X6.here hx rfl (hb hby at_62) rfl rfl ?_
      show Steps p.tables e below (T6.setTop (mkF m 63 #[.val (.int x'), .val (.ref rc), .val (.ref dl), .val (.int (1 : Int32))] [(.ref rc), (.ref dl)])) _
      refine Jvm.RoadKit.acmp (g := (mkF m 63 #[.val (.int x'), .val (.ref rc), .val (.ref dl), .val (.int (1 : Int32))] [(.ref rc), (.ref dl)])) X6 hx rfl rfl rfl (pc0 := 63) (pc' := 66) (same := false) rfl (hb hby at_63) rfl (decide_eq_false fun q => ne_dl_rc (Value.ref.inj q)) (by decide) (by decide) ?_
      show Steps p.tables e below (T6.setTop (mkF m 66 #[.val (.int x'), .val (.ref rc), .val (.ref dl), .val (.int (1 : Int32))] [])) _
      refine XS.aloadN X6.here hx rfl (hb hby at_66) rfl rfl ?_
      show Steps p.tables e below (T6.setTop (mkF m 67 #[.val (.int x'), .val (.ref rc), .val (.ref dl), .val (.int (1 : Int32))] [(.ref dl)])) _
      refine st7.trans ?_
      show Steps p.tables e below (T7.setTop (mkF m 70 #[.val (.int x'), .val (.ref rc), .val (.ref dl), .val (.int (1 : Int32))] [(.ref rc)])) _
      refine XS.aloadN X7.here hx rfl (hb hby at_70) rfl rfl ?_
      show Steps p.tables e below (T7.setTop (mkF m 71 #[.val (.int x'), .val (.ref rc), .val (.ref dl), .val (.int (1 : Int32))] [(.ref rc), (.ref rc)])) _
      refine Jvm.RoadKit.acmp (g := (mkF m 71 #[.val (.int x'), .val (.ref rc), .val (.ref dl), .val (.int (1 : Int32))] [(.ref rc), (.ref rc)])) X7 hx rfl rfl rfl (pc0 := 71) (pc' := 74) (same := true) rfl (hb hby at_71) rfl (decide_eq_true rfl) (by decide) (by decide) ?_
      show Steps p.tables e below (T7.setTop (mkF m 74 #[.val (.int x'), .val (.ref rc), .val (.ref dl), .val (.int (1 : Int32))] [])) _
      refine XS.iconst X7.here hx rfl (hb hby at_74) ?_
      show Steps p.tables e below (T7.setTop (mkF m 75 #[.val (.int x'), .val (.ref rc), .val (.ref dl), .val (.int (1 : Int32))] [(.int (1 : Int32))])) _
      refine XS.goto X7.here hx rfl (pc0 := 75) (pc' := 79) rfl (hb hby at_75) (by decide) (by decide) ?_
      show Steps p.tables e below (T7.setTop (mkF m 79 #[.val (.int x'), .val (.ref rc), .val (.ref dl), .val (.int (1 : Int32))] [(.int (1 : Int32))])) _
      exact retN X7 hx (t := .boolean) Bd.returns (by simp) (hb hby at_79) hr
    · show Q0 Z x' dl rc h0 n0 _ T7.heap _
      rw [hh7]
      exact ⟨rfl, N7⟩
  · obtain ⟨T8, X8, e8, st8⟩ := getS2 X0 hx hZ hown (host := "") (Or.inl (hw _ (List.mem_of_getElem? (i := 10) rfl))) Via.refl e0 S_DELI (g := (mkF m 6 #[.val (.int x'), .unset, .unset, .unset] [])) rfl (hb hby at_6)
    obtain ⟨cq9, kq9, q9a, q9b, q9c⟩ := isOf hZ e8 E_dl
    obtain ⟨_, _, ⟨T9, L9, k9, n9⟩, -, X9, ⟨Lc9, hQ9, l9, y9, z9⟩, st9⟩ := X8.virtualBack hx (y := (⟨"com/example/ledgermatch/ledgermatch/model/Direction", "opposite", "()Lcom/example/ledgermatch/ledgermatch/model/Direction;"⟩ : MethodName)) (z := (⟨"com/example/ledgermatch/ledgermatch/model/Direction", "opposite", "()Lcom/example/ledgermatch/ledgermatch/model/Direction;"⟩ : MethodName)) hown (mvT hZ (hw _ (List.mem_of_getElem? (i := 3) rfl))) (mvT hZ (hw _ (List.mem_of_getElem? (i := 4) rfl))) (notFace_of_selects (args := #[]) (mvT hZ (hw _ (List.mem_of_getElem? (i := 6) rfl)))) (mvT hZ (hw _ (List.mem_of_getElem? (i := 6) rfl))) (mvT hZ (hw _ (List.mem_of_getElem? (i := 5) rfl))) (by decide) (backOf (W := 0) (rm1a l Z a0 hw [] dl dl rc h0 n0 Z0 S_DELI S_RECE rfl) hZ (hw _ (List.mem_of_getElem? (i := 7) rfl)) (hw _ (List.mem_of_getElem? (i := 1) rfl)) (by decide) (by decide)) q9a q9c (g := (mkF m 17 #[.val (.int x'), .val (.ref dl), .unset, .unset] [(.ref dl)])) rfl (by rw [hml]; rfl) (Steps.refl _) (argsL := []) (rest := []) (lenOf pd0_0 rfl) rfl (by show 2 * 0 + _ ≤ _; exact Nat.le_of_eq rfl) (hb hby at_17) (fun _ _ => ⟨rfl, e8, (by decide : 0 + 0 ≤ _), (by decide : 0 + 0 ≤ _)⟩)
    dsimp only [Pt.U, Pt.locs, Pt.cells, Pt.slots] at X9 l9 y9 z9 st9 hQ9
    subst l9 y9 z9
    obtain ⟨rfl, N9q, hh9⟩ := hQ9
    have N9 := Fr.app N0 N9q
    obtain ⟨T10, X10, e10, st10⟩ := getS2 X9 hx hZ hown (host := "") (Or.inl (hw _ (List.mem_of_getElem? (i := 10) rfl))) Via.refl hh9 S_DELI (g := (mkF m 22 #[.val (.int x'), .val (.ref dl), .val (.ref rc), .unset] [(.ref dl)])) rfl (hb hby at_22)
    obtain ⟨T11, X11, e11, st11⟩ := getS2 X10 hx hZ hown (host := "") (Or.inl (hw _ (List.mem_of_getElem? (i := 0) rfl))) Via.refl e10 S_RECE (g := (mkF m 29 #[.val (.int x'), .val (.ref dl), .val (.ref rc), .unset] [(.ref rc)])) rfl (hb hby at_29)
    obtain ⟨cq12, kq12, q12a, q12b, q12c⟩ := isOf hZ e11 E_rc
    obtain ⟨_, _, ⟨T12, L12, k12, n12⟩, -, X12, ⟨Lc12, hQ12, l12, y12, z12⟩, st12⟩ := X11.virtualBack hx (y := (⟨"com/example/ledgermatch/ledgermatch/model/Direction", "opposite", "()Lcom/example/ledgermatch/ledgermatch/model/Direction;"⟩ : MethodName)) (z := (⟨"com/example/ledgermatch/ledgermatch/model/Direction", "opposite", "()Lcom/example/ledgermatch/ledgermatch/model/Direction;"⟩ : MethodName)) hown (mvT hZ (hw _ (List.mem_of_getElem? (i := 3) rfl))) (mvT hZ (hw _ (List.mem_of_getElem? (i := 4) rfl))) (notFace_of_selects (args := #[]) (mvT hZ (hw _ (List.mem_of_getElem? (i := 6) rfl)))) (mvT hZ (hw _ (List.mem_of_getElem? (i := 6) rfl))) (mvT hZ (hw _ (List.mem_of_getElem? (i := 5) rfl))) (by decide) (backOf (W := 0) (rm1b l Z a0 hw [] rc dl rc h0 n0 Z0 S_DELI S_RECE (Ne.symm ne_dl_rc)) hZ (hw _ (List.mem_of_getElem? (i := 7) rfl)) (hw _ (List.mem_of_getElem? (i := 1) rfl)) (by decide) (by decide)) q12a q12c (g := (mkF m 67 #[.val (.int x'), .val (.ref dl), .val (.ref rc), .val (.int (1 : Int32))] [(.ref rc)])) rfl (by rw [hml]; rfl) (Steps.refl _) (argsL := []) (rest := []) (lenOf pd0_0 rfl) rfl (by show 2 * 0 + _ ≤ _; exact Nat.le_of_eq rfl) (hb hby at_67) (fun _ _ => ⟨rfl, e11, (by decide : 0 + 0 ≤ _), (by decide : 0 + 0 ≤ _)⟩)
    dsimp only [Pt.U, Pt.locs, Pt.cells, Pt.slots] at X12 l12 y12 z12 st12 hQ12
    subst l12 y12 z12
    obtain ⟨rfl, N12q, hh12⟩ := hQ12
    have N12 := Fr.app N9 N12q
    obtain ⟨fs, hr, hrun, hended, hW, hsame⟩ := X12.leave (v := some (.int (1 : Int32))) (fun h => by rw [Bd.returns] at h; cases h)
    refine ⟨_, _, pre1 _ ?_, hrun, hended, _, _, rfl, ?_, ⟨_, rfl⟩, hW, hsame.mono (by decide) (by decide)⟩
    · show Steps p.tables e below (s₁.setTop (mkF m 3 #[.val (.int x'), .unset, .unset, .unset] [(.int (x' &&& (1 : Int32)))])) _
      refine XS.ifNo X0.here hx rfl (hb hby at_3) rfl ((if0 _ _).trans (feq hc3_2).1) ?_
      show Steps p.tables e below (s₁.setTop (mkF m 6 #[.val (.int x'), .unset, .unset, .unset] [])) _
      refine st8 _ ?_
      show Steps p.tables e below (T8.setTop (mkF m 9 #[.val (.int x'), .unset, .unset, .unset] [(.ref dl)])) _
      refine XS.goto X8.here hx rfl (pc0 := 9) (pc' := 15) rfl (hb hby at_9) (by decide) (by decide) ?_
      show Steps p.tables e below (T8.setTop (mkF m 15 #[.val (.int x'), .unset, .unset, .unset] [(.ref dl)])) _
      refine XS.astoreN X8.here hx rfl (hb hby at_15) rfl rfl (l' := #[.val (.int x'), .val (.ref dl), .unset, .unset]) rfl ?_
      show Steps p.tables e below (T8.setTop (mkF m 16 #[.val (.int x'), .val (.ref dl), .unset, .unset] [])) _
      refine XS.aloadN X8.here hx rfl (hb hby at_16) rfl rfl ?_
      show Steps p.tables e below (T8.setTop (mkF m 17 #[.val (.int x'), .val (.ref dl), .unset, .unset] [(.ref dl)])) _
      refine st9.trans ?_
      show Steps p.tables e below (T9.setTop (mkF m 20 #[.val (.int x'), .val (.ref dl), .unset, .unset] [(.ref rc)])) _
      refine XS.astoreN X9.here hx rfl (hb hby at_20) rfl rfl (l' := #[.val (.int x'), .val (.ref dl), .val (.ref rc), .unset]) rfl ?_
      show Steps p.tables e below (T9.setTop (mkF m 21 #[.val (.int x'), .val (.ref dl), .val (.ref rc), .unset] [])) _
      refine XS.aloadN X9.here hx rfl (hb hby at_21) rfl rfl ?_
      show Steps p.tables e below (T9.setTop (mkF m 22 #[.val (.int x'), .val (.ref dl), .val (.ref rc), .unset] [(.ref dl)])) _
      refine st10 _ ?_
      show Steps p.tables e below (T10.setTop (mkF m 25 #[.val (.int x'), .val (.ref dl), .val (.ref rc), .unset] [(.ref dl), (.ref dl)])) _
      refine Jvm.RoadKit.acmp (g := (mkF m 25 #[.val (.int x'), .val (.ref dl), .val (.ref rc), .unset] [(.ref dl), (.ref dl)])) X10 hx rfl rfl rfl (pc0 := 25) (pc' := 28) (same := true) rfl (hb hby at_25) rfl (decide_eq_true rfl) (by decide) (by decide) ?_
      show Steps p.tables e below (T10.setTop (mkF m 28 #[.val (.int x'), .val (.ref dl), .val (.ref rc), .unset] [])) _
      refine XS.aloadN X10.here hx rfl (hb hby at_28) rfl rfl ?_
      show Steps p.tables e below (T10.setTop (mkF m 29 #[.val (.int x'), .val (.ref dl), .val (.ref rc), .unset] [(.ref rc)])) _
      refine st11 _ ?_
      show Steps p.tables e below (T11.setTop (mkF m 32 #[.val (.int x'), .val (.ref dl), .val (.ref rc), .unset] [(.ref rc), (.ref rc)])) _
      refine Jvm.RoadKit.acmp (g := (mkF m 32 #[.val (.int x'), .val (.ref dl), .val (.ref rc), .unset] [(.ref rc), (.ref rc)])) X11 hx rfl rfl rfl (pc0 := 32) (pc' := 35) (same := true) rfl (hb hby at_32) rfl (decide_eq_true rfl) (by decide) (by decide) ?_
      show Steps p.tables e below (T11.setTop (mkF m 35 #[.val (.int x'), .val (.ref dl), .val (.ref rc), .unset] [])) _
      refine XS.iconst X11.here hx rfl (hb hby at_35) ?_
      show Steps p.tables e below (T11.setTop (mkF m 36 #[.val (.int x'), .val (.ref dl), .val (.ref rc), .unset] [(.int (1 : Int32))])) _
      refine XS.goto X11.here hx rfl (pc0 := 36) (pc' := 40) rfl (hb hby at_36) (by decide) (by decide) ?_
      show Steps p.tables e below (T11.setTop (mkF m 40 #[.val (.int x'), .val (.ref dl), .val (.ref rc), .unset] [(.int (1 : Int32))])) _
      refine XS.istoreN X11.here hx rfl (hb hby at_40) rfl (l' := #[.val (.int x'), .val (.ref dl), .val (.ref rc), .val (.int (1 : Int32))]) rfl ?_
      show Steps p.tables e below (T11.setTop (mkF m 41 #[.val (.int x'), .val (.ref dl), .val (.ref rc), .val (.int (1 : Int32))] [])) _
      refine XS.goto X11.here hx rfl (pc0 := 41) (pc' := 57) rfl (hb hby at_41) (by decide) (by decide) ?_
      show Steps p.tables e below (T11.setTop (mkF m 57 #[.val (.int x'), .val (.ref dl), .val (.ref rc), .val (.int (1 : Int32))] [])) _
      refine XS.iloadN X11.here hx rfl (hb hby at_57) rfl ?_
      show Steps p.tables e below (T11.setTop (mkF m 58 #[.val (.int x'), .val (.ref dl), .val (.ref rc), .val (.int (1 : Int32))] [(.int (1 : Int32))])) _
      refine XS.ifNo X11.here hx rfl (hb hby at_58) rfl ((if0 _ _).trans (feq (by decide : ¬ ((1 : Int32) = (0 : Int32)))).1) ?_
      show Steps p.tables e below (T11.setTop (mkF m 61 #[.val (.int x'), .val (.ref dl), .val (.ref rc), .val (.int (1 : Int32))] [])) _
      refine XS.aloadN X11.here hx rfl (hb hby at_61) rfl rfl ?_
      show Steps p.tables e below (T11.setTop (mkF m 62 #[.val (.int x'), .val (.ref dl), .val (.ref rc), .val (.int (1 : Int32))] [(.ref rc)])) _
      refine XS.aloadN X11.here hx rfl (hb hby at_62) rfl rfl ?_
      show Steps p.tables e below (T11.setTop (mkF m 63 #[.val (.int x'), .val (.ref dl), .val (.ref rc), .val (.int (1 : Int32))] [(.ref dl), (.ref rc)])) _
      refine Jvm.RoadKit.acmp (g := (mkF m 63 #[.val (.int x'), .val (.ref dl), .val (.ref rc), .val (.int (1 : Int32))] [(.ref dl), (.ref rc)])) X11 hx rfl rfl rfl (pc0 := 63) (pc' := 66) (same := false) rfl (hb hby at_63) rfl (decide_eq_false fun q => (Ne.symm ne_dl_rc) (Value.ref.inj q)) (by decide) (by decide) ?_
      show Steps p.tables e below (T11.setTop (mkF m 66 #[.val (.int x'), .val (.ref dl), .val (.ref rc), .val (.int (1 : Int32))] [])) _
      refine XS.aloadN X11.here hx rfl (hb hby at_66) rfl rfl ?_
      show Steps p.tables e below (T11.setTop (mkF m 67 #[.val (.int x'), .val (.ref dl), .val (.ref rc), .val (.int (1 : Int32))] [(.ref rc)])) _
      refine st12.trans ?_
      show Steps p.tables e below (T12.setTop (mkF m 70 #[.val (.int x'), .val (.ref dl), .val (.ref rc), .val (.int (1 : Int32))] [(.ref dl)])) _
      refine XS.aloadN X12.here hx rfl (hb hby at_70) rfl rfl ?_
      show Steps p.tables e below (T12.setTop (mkF m 71 #[.val (.int x'), .val (.ref dl), .val (.ref rc), .val (.int (1 : Int32))] [(.ref dl), (.ref dl)])) _
      refine Jvm.RoadKit.acmp (g := (mkF m 71 #[.val (.int x'), .val (.ref dl), .val (.ref rc), .val (.int (1 : Int32))] [(.ref dl), (.ref dl)])) X12 hx rfl rfl rfl (pc0 := 71) (pc' := 74) (same := true) rfl (hb hby at_71) rfl (decide_eq_true rfl) (by decide) (by decide) ?_
      show Steps p.tables e below (T12.setTop (mkF m 74 #[.val (.int x'), .val (.ref dl), .val (.ref rc), .val (.int (1 : Int32))] [])) _
      refine XS.iconst X12.here hx rfl (hb hby at_74) ?_
      show Steps p.tables e below (T12.setTop (mkF m 75 #[.val (.int x'), .val (.ref dl), .val (.ref rc), .val (.int (1 : Int32))] [(.int (1 : Int32))])) _
      refine XS.goto X12.here hx rfl (pc0 := 75) (pc' := 79) rfl (hb hby at_75) (by decide) (by decide) ?_
      show Steps p.tables e below (T12.setTop (mkF m 79 #[.val (.int x'), .val (.ref dl), .val (.ref rc), .val (.int (1 : Int32))] [(.int (1 : Int32))])) _
      exact retN X12 hx (t := .boolean) Bd.returns (by simp) (hb hby at_79) hr
    · show Q0 Z x' dl rc h0 n0 _ T12.heap _
      rw [hh12]
      exact ⟨rfl, N12⟩
set_option maxRecDepth 65536 in
set_option maxHeartbeats 40000000 in
theorem comes_1 {Post : Tables → Env → Array Value → State → Outcome → State → Prop} (hpost : ∀ tb e args s v u, (limb_1_1.after args s (.returned v) u = true ∧ limb_1_2.after args s (.returned v) u = true ∧ True) → FrameEnd s (.returned v) u (Jvm.fieldLocs frame_1_writes args s ++ Jvm.arrayLocs frame_1_arrays args s ++ Jvm.staticLocs frame_1_statics s) 0 0 → Post tb e args s (.returned v) u) :
    ArmFor flags0 classFile x code maxLocals ret World_1 tables_1 room_1 Calls_1 rest_1 Pre_1 Post := by
  intro l hfl _ _ p e ha hc hk s m args below hf hA hF happ hP
  obtain ⟨hcalls, hrest, hpre⟩ := hP
  obtain ⟨-, -, -, hnamed, -, -, -, hat⟩ := (Spec.applies_iff hf).mp happ
  obtain ⟨hg, hn⟩ := and_e (Cond.before_iff.mp (show (Jvm.Cond.and given_1 narrow_1).before args s = true from hpre))
  obtain ⟨hcount, ga0⟩ := and_e hg
  obtain ⟨w0, rfl⟩ : ∃ w0 : Value, args = #[w0] := by
    have hs : args.size = 1 := by simpa [Cond.value, given_1] using hcount
    obtain ⟨L⟩ := args
    match L, hs with
    | [w0], _ => exact ⟨w0, rfl⟩
  have hw := fun d (hd : d ∈ tables_1) => atoms_spec (ws := Jvm.Cond.code x code maxLocals ret :: tables_1) hat d (List.mem_cons_of_mem _ hd)
  have hfit : Fit s := fun {y c} hc i hi => by
    obtain ⟨ha, rfl⟩ := Array.getElem?_eq_some_iff.mp hc
    have q := List.all_eq_true.mp ((Array.all_eq_true_iff_forall_mem.mp hF) _ (Array.getElem_mem ha)) i (List.mem_range.mpr hi)
    simpa [Array.getElem?_eq_getElem hi] using q
  obtain ⟨i0, ei0⟩ := is_v ga0
  obtain rfl : w0 = (.int i0) := Option.some.inj ei0
  obtain ⟨n1, m1⟩ := and_e hn
  obtain ⟨n2, m2⟩ := and_e m1
  obtain ⟨n3, n4⟩ := and_e m2
  obtain ⟨rc, er⟩ := exa_v n1
  obtain ⟨dl, ed⟩ := exa_v n2
  have S_DELI := Sta.start ed (Or.inr ⟨(hw _ (List.mem_of_getElem? (i := 1) rfl)), (hw _ (List.mem_of_getElem? (i := 9) rfl))⟩)
  have S_RECE := Sta.start er (Or.inr ⟨(hw _ (List.mem_of_getElem? (i := 1) rfl)), (hw _ (List.mem_of_getElem? (i := 2) rfl))⟩)
  have f1 := Fld.start ((fld_at er).symm.trans (own_eq n3))
  have f2 := Fld.start ((fld_at ed).symm.trans (own_eq n4))
  obtain ⟨n, o, h1, h2, h3, _, L, rfl, ⟨rfl, N⟩, hq⟩ := rm0 l s _ hw tables_1 i0 dl rc s.heap s.heap.size (Nat.le_refl _) S_DELI S_RECE (Exa.start ed n2) (Exa.start er n1) (f2.ne f1 (by decide)) p e ha hc hk s m _ below hf ((Spec.applies_iff_loose hf).mp happ).1 ⟨rfl, State.Warmed39.refl s, rfl⟩ trivial
  refine ⟨n, _, h1, h2, h3, hpost _ _ _ _ _ _ ⟨Cond.after_iff.mpr rfl, Cond.after_iff.mpr (eq_i res_at (Term.int_eval (1)) rfl), trivial⟩ ⟨hq.1, hq.2.1, (hq.2.2.sift fun y hy => Or.inr (N y hy)).mono (by decide) (by decide)⟩⟩
theorem main_1_1 : Claimed_1_1 := comes_1 fun _ _ _ _ _ _ h hF => ⟨h.1, hF⟩
theorem main_1_2 : Claimed_1_2 := comes_1 fun _ _ _ _ _ _ h hF => ⟨h.2.1, hF⟩
end Jvm.Pilot.@@N@@
namespace Jvm.Pilot.@@N@@
open Jvm Jvm.ClassFile Sem Op Lib Jvm.Free Jvm.Stand Jvm.Pilot.@@N@@.Jvm.D
/-! MADE BY PROGRAM (witnessworld.py) out of the Statement's table words and the real class files: 12 classes; the members and pool entries that the words name. The judged class is class 1, her method 1. -/
namespace start1
open Jvm.ClassFile
def u (s : String) : CpInfo := .utf8 (stringToUtf16 s)
/-- a pool by its gaps: so many unusable entries, then the entry; so many at the end -/
def gap : Nat → List CpInfo → List CpInfo
  | 0, r => r
  | n + 1, r => .unusable :: gap n r
def poolList (es : List (Nat × CpInfo)) (last : Nat) : List CpInfo := es.foldr (fun e r => gap e.1 (e.2 :: r)) (gap last [])
def pool (es : List (Nat × CpInfo)) (last : Nat) : Array CpInfo := ⟨poolList es last⟩
def fileOf (pool : Array CpInfo) (this : Nat) (attrs : Array Attribute := #[]) (ms : Array MethodInfo := #[]) (fl : Nat := 33) (sup : Nat := 0) (ifs : Array Nat := #[]) (fds : Array FieldInfo := #[]) : ClassFile where
  minorVersion := 0
  majorVersion := 65
  constantPool := pool
  accessFlags := fl
  thisClass := this
  superClass := sup
  interfaces := ifs
  fields := fds
  methods := ms
  attributes := attrs
def plain (name : String) (sup : Option ClassId) : Class where
  name := name
  kind := .ordinary
  loader := none
  accessFlags := 33
  super := sup
  interfaces := #[]
  cf := none
  fields := #[]
  methods := #[]
  instanceTypes := #[]
  staticTypes := #[]
  resolved := #[]
  callSites := []
  init := .initialized
  statics := none
  mirror := none

def pool0 : Array CpInfo := pool [(5, u "<init>"), (0, u "()V"), (1, .class_ 10), (1, u "java/lang/Object")] 113

def k0m0 : Method := { name := "<init>", desc := "()V", sig := { parameters := [], returnType := none }, accessFlags := 1, code := none }
/-- java/lang/Object -/
def k0 : Class := { plain "java/lang/Object" none with
  accessFlags := 33
  interfaces := #[]
  cf := some (fileOf pool0 8 #[] #[{ accessFlags := 1, nameIndex := 5, descriptorIndex := 6, attributes := #[] }] 33 0 #[] #[])
  fields := #[]
  methods := #[k0m0]
  instanceTypes := #[]
  staticTypes := #[]
  resolved := Array.replicate 124 none
  statics := none }

def pool1 : Array CpInfo := pool [(2, .class_ 4), (1, u "java/lang/Object"), (0, u "<init>"), (0, u "()V"), (0, .fieldref 8 9), (0, .class_ 10), (0, .nameAndType 11 12), (0, u "com/example/ledgermatch/ledgermatch/model/Direction"), (0, u "DELI"), (0, u "Lcom/example/ledgermatch/ledgermatch/model/Direction;"), (0, .fieldref 8 14), (0, .nameAndType 15 12), (0, u "RECE"), (0, .methodref 8 17), (0, .nameAndType 18 19), (0, u "opposite"), (0, u "()Lcom/example/ledgermatch/ledgermatch/model/Direction;"), (0, .class_ 21), (0, u "com/example/ledgermatch/ledgermatch/model/DirectionOppositePinLaw"), (2, u "law"), (0, u "(I)Z")] 3

def k1m0 : Method := { name := "<init>", desc := "()V", sig := { parameters := [], returnType := none }, accessFlags := 1, code := none }
def k1c1 : Code := { maxStack := 2, maxLocals := 4, code := code, exceptionTable := #[], attributes := #[] }
def k1m1 : Method := { name := "law", desc := "(I)Z", sig := { parameters := [.int], returnType := some .boolean }, accessFlags := 9, code := some k1c1 }
/-- com/example/ledgermatch/ledgermatch/model/DirectionOppositePinLaw -/
def k1 : Class := { plain "com/example/ledgermatch/ledgermatch/model/DirectionOppositePinLaw" (some 0) with
  accessFlags := 49
  interfaces := #[]
  cf := some (fileOf pool1 20 #[] #[{ accessFlags := 1, nameIndex := 5, descriptorIndex := 6, attributes := #[] }, { accessFlags := 9, nameIndex := 24, descriptorIndex := 25, attributes := #[] }] 49 2 #[] #[])
  fields := #[]
  methods := #[k1m0, k1m1]
  instanceTypes := #[]
  staticTypes := #[]
  resolved := Array.replicate 29 none
  statics := none }

def pool2 : Array CpInfo := pool [(1, .class_ 2), (0, u "java/lang/constant/Constable"), (0, .class_ 4), (0, u "java/lang/Object")] 6

/-- java/lang/constant/Constable -/
def k2 : Class := { plain "java/lang/constant/Constable" (some 0) with
  accessFlags := 1537
  interfaces := #[]
  cf := some (fileOf pool2 1 #[] #[] 1537 3 #[] #[])
  fields := #[]
  methods := #[]
  instanceTypes := #[]
  staticTypes := #[]
  resolved := Array.replicate 11 none
  statics := none }

def pool3 : Array CpInfo := pool [(1, .class_ 2), (0, u "java/lang/Comparable"), (0, .class_ 4), (0, u "java/lang/Object")] 7

/-- java/lang/Comparable -/
def k3 : Class := { plain "java/lang/Comparable" (some 0) with
  accessFlags := 1537
  interfaces := #[]
  cf := some (fileOf pool3 1 #[] #[] 1537 3 #[] #[])
  fields := #[]
  methods := #[]
  instanceTypes := #[]
  staticTypes := #[]
  resolved := Array.replicate 12 none
  statics := none }

def pool4 : Array CpInfo := pool [(1, .class_ 2), (0, u "java/io/Serializable"), (0, .class_ 4), (0, u "java/lang/Object")] 2

/-- java/io/Serializable -/
def k4 : Class := { plain "java/io/Serializable" (some 0) with
  accessFlags := 1537
  interfaces := #[]
  cf := some (fileOf pool4 1 #[] #[] 1537 3 #[] #[])
  fields := #[]
  methods := #[]
  instanceTypes := #[]
  staticTypes := #[]
  resolved := Array.replicate 7 none
  statics := none }

def pool5 : Array CpInfo := pool [(2, .class_ 4), (1, u "java/lang/Enum"), (0, u "name"), (0, u "Ljava/lang/String;"), (2, u "ordinal"), (0, u "I"), (1, .class_ 14), (1, u "java/lang/Object"), (4, u "hash"), (86, .class_ 108), (1, u "java/lang/Enum$EnumDesc"), (2, .class_ 112), (0, u "java/lang/constant/Constable"), (0, .class_ 114), (0, u "java/lang/Comparable"), (0, .class_ 116), (0, u "java/io/Serializable")] 87

/-- java/lang/Enum -/
def k5 : Class := { plain "java/lang/Enum" (some 0) with
  accessFlags := 1057
  interfaces := #[2, 3, 4]
  cf := some (fileOf pool5 2 #[.nestMembers #[106]] #[] 1057 12 #[111, 113, 115] #[{ accessFlags := 18, nameIndex := 5, descriptorIndex := 6, attributes := #[] }, { accessFlags := 18, nameIndex := 9, descriptorIndex := 10, attributes := #[] }, { accessFlags := 2, nameIndex := 19, descriptorIndex := 10, attributes := #[] }])
  fields := #[{ name := "name", type := (.object "java/lang/String"), accessFlags := 18, slot := 0, constantValue := 0 }, { name := "ordinal", type := .int, accessFlags := 18, slot := 1, constantValue := 0 }, { name := "hash", type := .int, accessFlags := 2, slot := 2, constantValue := 0 }]
  methods := #[]
  instanceTypes := #[(.object "java/lang/String"), .int, .int]
  staticTypes := #[]
  resolved := Array.replicate 204 none
  statics := none }

def pool6 : Array CpInfo := pool [(1, .class_ 2), (0, u "com/example/ledgermatch/ledgermatch/model/Direction"), (0, .fieldref 1 4), (0, .nameAndType 5 6), (0, u "DELI"), (0, u "Lcom/example/ledgermatch/ledgermatch/model/Direction;"), (0, .fieldref 1 8), (0, .nameAndType 9 6), (0, u "RECE"), (2, u "$VALUES"), (0, u "[Lcom/example/ledgermatch/ledgermatch/model/Direction;"), (6, .class_ 22), (1, u "java/lang/Enum"), (20, u "opposite"), (0, u "()Lcom/example/ledgermatch/ledgermatch/model/Direction;")] 5

def k6c0 : Code := { maxStack := 2, maxLocals := 1, code := prog_72_method_4_code, exceptionTable := #[], attributes := #[] }
def k6m0 : Method := { name := "opposite", desc := "()Lcom/example/ledgermatch/ledgermatch/model/Direction;", sig := { parameters := [], returnType := some (.object "com/example/ledgermatch/ledgermatch/model/Direction") }, accessFlags := 1, code := some k6c0 }
/-- com/example/ledgermatch/ledgermatch/model/Direction -/
def k6 : Class := { plain "com/example/ledgermatch/ledgermatch/model/Direction" (some 5) with
  accessFlags := 16433
  interfaces := #[]
  cf := some (fileOf pool6 1 #[] #[{ accessFlags := 1, nameIndex := 43, descriptorIndex := 44, attributes := #[] }] 16433 20 #[] #[{ accessFlags := 16409, nameIndex := 5, descriptorIndex := 6, attributes := #[] }, { accessFlags := 16409, nameIndex := 9, descriptorIndex := 6, attributes := #[] }, { accessFlags := 4122, nameIndex := 12, descriptorIndex := 13, attributes := #[] }])
  fields := #[{ name := "DELI", type := (.object "com/example/ledgermatch/ledgermatch/model/Direction"), accessFlags := 16409, slot := 0, constantValue := 0 }, { name := "RECE", type := (.object "com/example/ledgermatch/ledgermatch/model/Direction"), accessFlags := 16409, slot := 1, constantValue := 0 }, { name := "$VALUES", type := (.array (.object "com/example/ledgermatch/ledgermatch/model/Direction")), accessFlags := 4122, slot := 2, constantValue := 0 }]
  methods := #[k6m0]
  instanceTypes := #[(.object "java/lang/String"), .int, .int]
  staticTypes := #[(.object "com/example/ledgermatch/ledgermatch/model/Direction"), (.object "com/example/ledgermatch/ledgermatch/model/Direction"), (.array (.object "com/example/ledgermatch/ledgermatch/model/Direction"))]
  resolved := Array.replicate 50 none
  statics := some 0 }

def pool7 : Array CpInfo := pool [(1, u "java/lang/Cloneable"), (0, .class_ 1), (0, u "java/lang/Object"), (0, .class_ 3)] 3

/-- java/lang/Cloneable -/
def k7 : Class := { plain "java/lang/Cloneable" (some 0) with
  accessFlags := 1537
  interfaces := #[]
  cf := some (fileOf pool7 2 #[] #[] 1537 4 #[] #[])
  fields := #[]
  methods := #[]
  instanceTypes := #[]
  staticTypes := #[]
  resolved := Array.replicate 8 none
  statics := none }

/-- the primitive byte -/
def k8 : Class := { plain "byte" none with kind := .primitive 'B', accessFlags := 0x411 }
/-- [B -/
def k9 : Class := { plain "[B" (some 0) with kind := .array 8 .byte, interfaces := #[7, 4], accessFlags := 1041 }

/-- the primitive int -/
def k10 : Class := { plain "int" none with kind := .primitive 'I', accessFlags := 0x411 }
/-- [I -/
def k11 : Class := { plain "[I" (some 0) with kind := .array 10 .int, interfaces := #[7, 4], accessFlags := 1041 }

def heap : Heap := #[{ cls := 6, slots := #[.ref 1, .ref 2, .null], vm := .statics 6 },
  { cls := 6, slots := #[.null, .int 0, .int 0], vm := .none },
  { cls := 6, slots := #[.null, .int 1, .int 0], vm := .none }]
def classes : Array Class := #[k0, k1, k2, k3, k4, k5, k6, k7, k8, k9, k10, k11]
def interned : List (Array UInt16 × Addr) := []
def slotsUsed : Nat := 9
def theMethod : MethodId := ⟨1, 1⟩
def args0 : Array Value := #[.int 5]
def aboutOver (below : List Frame) : State where
  vm := { classes := classes, interned := interned.toArray }
  heap := heap
  slotsUsed := slotsUsed
  threads := #[{ frames := .invoking theMethod args0 :: below }]
def below0 : List Frame := [.native { method := ⟨0, 0⟩, args := #[] }]
def about1 : State := aboutOver below0
def p0 : Program := .bare "" "" ""
def e0 : Env := launch0.env 0 0 0
theorem w_frames : about1.frames = Frame.invoking theMethod args0 :: below0 := rfl
set_option maxRecDepth 65536 in
theorem w_args : argsFit about1.vm theMethod args0 = true := by decide +kernel
set_option maxRecDepth 65536 in
theorem w_heap : heapFits about1 = true := by decide +kernel
set_option maxRecDepth 65536 in
theorem w_runnable : about1.curStatus? = some .runnable := by decide +kernel
set_option maxRecDepth 65536 in
theorem w_alone : about1.alone = true := by decide +kernel
set_option maxRecDepth 65536 in
theorem w_named : about1.methodNamed? x = some theMethod := by decide +kernel
set_option maxRecDepth 65536 in
theorem w_hears : about1.hears theMethod below0 = true := by decide +kernel
set_option maxRecDepth 65536 in
theorem w_ripe : about1.ripe theMethod args0 below0 = true := by decide +kernel
theorem w_running : about1.status = .running := rfl
set_option maxRecDepth 65536 in
theorem w_room : about1.hasRoom e0.platform room_1 = true :=
  launch0.hasRoom_least _ room_1 (by decide +kernel) (by decide +kernel) (by decide +kernel) (by decide +kernel) (by decide +kernel) (by decide +kernel)
theorem allAtoms_all (ts : List Jvm.Cond) (a : Array Jvm.Value) (st : Jvm.State) : (allAtoms ts).before a st = ts.all (fun c => c.before a st) := by
  induction ts with
  | nil => rfl
  | cons c t ih =>
    show (Jvm.Cond.and c (allAtoms t)).before a st = _
    rw [Jvm.Cond.before_and, ih, List.all_cons]
def words1 : List Jvm.Cond := Jvm.Cond.code x code maxLocals ret :: tables_1
/-- a 'code' word, met by the world's own term for the bytes: nothing is compared byte by byte -/
theorem code_word {y : MethodName} {bytes : ByteArray} {mx : Nat} {rt : Option FieldType} {a : Array Value} {s : State} {m : MethodId} {meth : Method} {c : Code} (h1 : s.methodNamed? y = some m) (h2 : s.vm.method? m = some meth) (h3 : meth.code = some c) (h4 : c.code = bytes)
    (h5 : (c.maxLocals == mx && c.exceptionTable.isEmpty && decide (c.maxStack ≤ mostOperands) && decide (meth.sig.returnType = rt) && !meth.locks && decide (parseMethodDescriptor y.desc = some meth.sig)) = true) : (Jvm.Cond.code y bytes mx rt).before a s = true := by
  simp only [Bool.and_eq_true, beq_iff_eq, Bool.not_eq_true', decide_eq_true_eq] at h5
  obtain ⟨⟨⟨⟨⟨g1, g2⟩, g3⟩, g4⟩, g5⟩, g6⟩ := h5
  simp [Cond.before, Cond.holds, Cond.value, h1, h2, h3, h4, g1, g2, g3, g4, g5, g6]
def isCode : Jvm.Cond → Bool
  | .code _ _ _ _ => true
  | _ => false
theorem all_split {L : List Jvm.Cond} {P : Jvm.Cond → Bool} (h1 : L.all (fun c => isCode c || P c) = true) (h2 : ∀ c ∈ L.filter isCode, P c = true) : L.all P = true := by
  refine List.all_eq_true.mpr fun c hc => ?_
  have h := List.all_eq_true.mp h1 c hc
  rcases Bool.eq_false_or_eq_true (isCode c) with hi | hi
  · exact h2 c (List.mem_filter.mpr ⟨hc, hi⟩)
  · simpa [hi] using h
set_option maxRecDepth 65536 in
theorem w_c0 : (Jvm.Cond.code x code maxLocals ret).before args0 about1 = true := code_word (m := ⟨1, 1⟩) (meth := k1m1) (c := k1c1) (by decide +kernel) rfl rfl rfl (by decide +kernel)
set_option maxRecDepth 65536 in
theorem w_c1 : (Jvm.Cond.code ({ cls := "com/example/ledgermatch/ledgermatch/model/Direction", name := "opposite", desc := "()Lcom/example/ledgermatch/ledgermatch/model/Direction;" } : Jvm.MethodName) prog_72_method_4_code (1 : Nat) (Option.some (Jvm.ClassFile.FieldType.object "com/example/ledgermatch/ledgermatch/model/Direction"))).before args0 about1 = true := code_word (m := ⟨6, 0⟩) (meth := k6m0) (c := k6c0) (by decide +kernel) rfl rfl rfl (by decide +kernel)
def codes1 : List Jvm.Cond := [Jvm.Cond.code x code maxLocals ret, Jvm.Cond.code ({ cls := "com/example/ledgermatch/ledgermatch/model/Direction", name := "opposite", desc := "()Lcom/example/ledgermatch/ledgermatch/model/Direction;" } : Jvm.MethodName) prog_72_method_4_code (1 : Nat) (Option.some (Jvm.ClassFile.FieldType.object "com/example/ledgermatch/ledgermatch/model/Direction"))]
set_option maxRecDepth 65536 in
theorem codes_eq : words1.filter isCode = codes1 := rfl
theorem w_codes : ∀ c ∈ words1.filter isCode, c.before args0 about1 = true := by
  rw [codes_eq]
  intro c hc
  simp only [codes1, List.mem_cons, List.not_mem_nil, or_false] at hc
  rcases hc with rfl | rfl
  · exact w_c0
  · exact w_c1
set_option maxRecDepth 65536 in
theorem w_t1 : words1.all (fun c => isCode c || c.before args0 about1) = true := by decide +kernel
theorem w_tables : (allAtoms (Jvm.Cond.code x code maxLocals ret :: tables_1)).before args0 about1 = true := by
  rw [allAtoms_all]
  show words1.all (fun c => c.before args0 about1) = true
  refine all_split ?_ w_codes
  rw [w_t1]
set_option maxRecDepth 65536 in
theorem w_case : (Jvm.Cond.and given_1 narrow_1).before args0 about1 = true := by decide +kernel
theorem w_applies : (headSpec (Jvm.Cond.code x code maxLocals ret :: tables_1) room_1).applies x e0.platform about1 = true :=
  (Spec.applies_iff w_frames).mpr ⟨w_running, w_runnable, w_alone, w_named, w_hears, w_ripe, w_room, w_tables⟩
theorem atStart : AtStart classFile x code maxLocals ret World_1 tables_1 room_1 Calls_1 rest_1 Pre_1 launch0 p0 e0 about1 theMethod args0 below0 :=
  ⟨lists_1, trivial, launch0.admits_env _ _ _, launch0.least_env, fairChoices_fair.cas, fairChoices_fair.clock, w_frames, w_args, w_heap, w_applies, trivial, trivial, w_case⟩
end start1
theorem witness_1 : WitnessClaimed_1 := ⟨start1.p0, start1.e0, start1.about1, start1.theMethod, start1.args0, start1.below0, start1.atStart⟩
end Jvm.Pilot.@@N@@
