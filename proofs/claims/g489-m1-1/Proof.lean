import JvmDerived
import JvmDerived.Pilot.@@N@@Statement
import JvmDerived.Pilot.@@N@@Code
set_option linter.unusedVariables false
set_option linter.unusedSimpArgs false
namespace Jvm.Pilot.@@N@@
open Jvm Jvm.ClassFile Sem Op Lib Jvm.Free Jvm.Stand Jvm.LawKit Jvm.RoadKit Bundle Jvm.Pilot.@@N@@.Jvm.D
theorem own_eq {t : Term} {k : Int32} {args : Array Value} {s : State} (h : (Jvm.Cond.eq t (.int k)).value args s none s [] = some true) : t.eval args s none [] s = some (.int k) := by
  simp only [Cond.value, Term.eval] at h
  cases ht : t.eval args s none [] s with
  | none => simp [ht] at h
  | some x => cases x <;> simp [ht] at h ⊢; exact h
def own_pe (k : Int32) : Int32 := if k / (1000 : Int32) = (3 : Int32) then (1 : Int32) else (0 : Int32)
theorem d1_0 : decode prog_99_method_4_code 0 = .ok (.aload_n 0, 1) := by decide +kernel
theorem d1_1 : decode prog_99_method_4_code 1 = .ok (.getfield 47, 3) := by decide +kernel
theorem d1_4 : decode prog_99_method_4_code 4 = .ok (.ireturn, 1) := by decide +kernel
theorem pn_1 : plainName "com/example/overage/overage/diameter/ResultCode" = true := by first | (simp [plainName, overriddenIn]; done) | decide +kernel
theorem ef_1 (m : MethodId) (x0 : Addr) : entryFrame m #[(.ref x0)] 1 = mkF m 0 #[.val (.ref x0)] [] := by first | (simp [entryFrame, mkF, argsToLocals, Value.category]; done) | rfl
def Q1 (Z : State) (a : Addr) (k' : Int32) (h0 : Heap) (n0 : Nat) (v : Option Value) (h : Heap) (L : List Loc) : Prop := v = some (.int k') ∧ Fr n0 L ∧ h = h0
set_option maxRecDepth 65536 in
set_option maxHeartbeats 40000000 in
theorem rm1 (l : Launch) (Z : State) (a0 : Array Value) (hw : ∀ d ∈ tables_1, d.before a0 Z = true) (ws : List Jvm.Cond) (a : Addr) (k' : Int32) (h0 : Heap) (n0 : Nat) (Z0 : n0 ≤ h0.size) (F_code_a : Fld Z h0 a "com/example/overage/overage/diameter/ResultCode" "code" "I" (.int k')) :
    MetFree l (⟨"com/example/overage/overage/diameter/ResultCode", "code", "()I"⟩ : MethodName) (head1 (Jvm.Cond.code (⟨"com/example/overage/overage/diameter/ResultCode", "code", "()I"⟩ : MethodName) prog_99_method_4_code 1 (some .int) :: ws) ({ frames := 0, cells := 0, slots := 0, locals := 0 } : Room)) (fun ar U => ar = #[(.ref a)] ∧ Z.Warmed39 U.vm ∧ U.heap = h0) (fun _ _ _ _ _ => True) (fun _ U o U' => ∃ v L, o = .returned v ∧ Q1 Z a k' h0 n0 v U'.heap L ∧ FrameEnd U o U' L ({ frames := 0, cells := 0, slots := 0, locals := 0 } : Room).cells ({ frames := 0, cells := 0, slots := 0, locals := 0 } : Room).slots) := by
  refine MetFree.of_bodySF (plainFor_of_name pn_1) hisR ?_
  intro p e s m args below meth c s₁ Bd hml0 hP hK
  obtain ⟨rfl, hZ, hh⟩ := hP
  have hx := Bd.exec
  have hby := Bd.bytes
  have hml : c.maxLocals = 1 := hml0
  have hown : s.vm.findClass "com/example/overage/overage/diameter/ResultCode" = some m.cls := findClass_of_methodNamed Bd.named
  have hnm := (name_of_methodNamed Bd.named Bd.method).1
  have X0 : Stand p l e ({ frames := 0, cells := 0, slots := 0, locals := 0 } : Room) s m #[(.ref a)] below meth c s₁ [] 0 0 := Stand.of_body Bd
  have e0 : s₁.heap = h0 := by rw [← hh, Bd.state]; rfl
  have N0 := Fr.nil n0
  have K0 : Keep h0 h0 [] := Keep.refl h0 _
  have pre0 : ∀ t, Steps p.tables e below (s₁.setTop (mkF m 0 #[.val (.ref a)] [])) t → Steps p.tables e below (s₁.setTop (entryFrame m #[(.ref a)] 1)) t := fun t k => castTop (ef_1 m a) k
  obtain ⟨T1, X1, e1, st1⟩ := getF X0 hx hZ hown (host := "") (Or.inl (hw _ (List.mem_of_getElem? (i := 8) rfl))) Via.refl e0 F_code_a (g := (mkF m 1 #[.val (.ref a)] [(.ref a)])) rfl rfl (hb hby d1_1)
  obtain ⟨fs, hr, hrun, hended, hW, hsame⟩ := X1.leave (v := some (.int k')) (fun h => by rw [Bd.returns] at h; cases h)
  refine ⟨_, _, pre0 _ ?_, hrun, hended, _, _, rfl, ?_, ⟨_, rfl⟩, hW, hsame.mono (by decide) (by decide)⟩
  · show Steps p.tables e below (s₁.setTop (mkF m 0 #[.val (.ref a)] [])) _
    refine XS.aloadN X0.here hx rfl (hb hby d1_0) rfl rfl ?_
    show Steps p.tables e below (s₁.setTop (mkF m 1 #[.val (.ref a)] [(.ref a)])) _
    refine st1 _ ?_
    show Steps p.tables e below (T1.setTop (mkF m 4 #[.val (.ref a)] [(.int k')])) _
    exact retOut X1 hx Bd.returns rfl (Or.inl ⟨rfl, Or.inl rfl, _, rfl⟩) (hb hby d1_4) hr
  · show Q1 Z a k' h0 n0 _ T1.heap _
    rw [e1]
    exact ⟨rfl, N0, rfl⟩
theorem d2_0 : decode prog_99_method_5_code 0 = .ok (.aload_n 0, 1) := by decide +kernel
theorem d2_1 : decode prog_99_method_5_code 1 = .ok (.getfield 47, 3) := by decide +kernel
theorem d2_4 : decode prog_99_method_5_code 4 = .ok (.sipush 1000, 3) := by decide +kernel
theorem d2_7 : decode prog_99_method_5_code 7 = .ok (.idiv, 1) := by decide +kernel
theorem d2_8 : decode prog_99_method_5_code 8 = .ok (.iconst 3, 1) := by decide +kernel
theorem d2_9 : decode prog_99_method_5_code 9 = .ok (.if_icmp .ne 7, 3) := by decide +kernel
theorem d2_12 : decode prog_99_method_5_code 12 = .ok (.iconst 1, 1) := by decide +kernel
theorem d2_13 : decode prog_99_method_5_code 13 = .ok (.goto 4, 3) := by decide +kernel
theorem d2_16 : decode prog_99_method_5_code 16 = .ok (.iconst 0, 1) := by decide +kernel
theorem d2_17 : decode prog_99_method_5_code 17 = .ok (.ireturn, 1) := by decide +kernel
theorem pn_2 : plainName "com/example/overage/overage/diameter/ResultCode" = true := by first | (simp [plainName, overriddenIn]; done) | decide +kernel
theorem ef_2 (m : MethodId) (x0 : Addr) : entryFrame m #[(.ref x0)] 1 = mkF m 0 #[.val (.ref x0)] [] := by first | (simp [entryFrame, mkF, argsToLocals, Value.category]; done) | rfl
def Q2 (Z : State) (a : Addr) (k' : Int32) (h0 : Heap) (n0 : Nat) (v : Option Value) (h : Heap) (L : List Loc) : Prop := v = some (.int (own_pe k')) ∧ Fr n0 L ∧ h = h0
set_option maxRecDepth 65536 in
set_option maxHeartbeats 40000000 in
theorem rm2 (l : Launch) (Z : State) (a0 : Array Value) (hw : ∀ d ∈ tables_1, d.before a0 Z = true) (ws : List Jvm.Cond) (a : Addr) (k' : Int32) (h0 : Heap) (n0 : Nat) (Z0 : n0 ≤ h0.size) (F_code_a : Fld Z h0 a "com/example/overage/overage/diameter/ResultCode" "code" "I" (.int k')) :
    MetFree l (⟨"com/example/overage/overage/diameter/ResultCode", "isProtocolError", "()Z"⟩ : MethodName) (head1 (Jvm.Cond.code (⟨"com/example/overage/overage/diameter/ResultCode", "isProtocolError", "()Z"⟩ : MethodName) prog_99_method_5_code 1 (some .boolean) :: ws) ({ frames := 0, cells := 0, slots := 0, locals := 0 } : Room)) (fun ar U => ar = #[(.ref a)] ∧ Z.Warmed39 U.vm ∧ U.heap = h0) (fun _ _ _ _ _ => True) (fun _ U o U' => ∃ v L, o = .returned v ∧ Q2 Z a k' h0 n0 v U'.heap L ∧ FrameEnd U o U' L ({ frames := 0, cells := 0, slots := 0, locals := 0 } : Room).cells ({ frames := 0, cells := 0, slots := 0, locals := 0 } : Room).slots) := by
  refine MetFree.of_bodySF (plainFor_of_name pn_2) hisR ?_
  intro p e s m args below meth c s₁ Bd hml0 hP hK
  obtain ⟨rfl, hZ, hh⟩ := hP
  have hx := Bd.exec
  have hby := Bd.bytes
  have hml : c.maxLocals = 1 := hml0
  have hown : s.vm.findClass "com/example/overage/overage/diameter/ResultCode" = some m.cls := findClass_of_methodNamed Bd.named
  have hnm := (name_of_methodNamed Bd.named Bd.method).1
  have X0 : Stand p l e ({ frames := 0, cells := 0, slots := 0, locals := 0 } : Room) s m #[(.ref a)] below meth c s₁ [] 0 0 := Stand.of_body Bd
  have e0 : s₁.heap = h0 := by rw [← hh, Bd.state]; rfl
  have N0 := Fr.nil n0
  have K0 : Keep h0 h0 [] := Keep.refl h0 _
  have pre0 : ∀ t, Steps p.tables e below (s₁.setTop (mkF m 0 #[.val (.ref a)] [])) t → Steps p.tables e below (s₁.setTop (entryFrame m #[(.ref a)] 1)) t := fun t k => castTop (ef_2 m a) k
  obtain ⟨T1, X1, e1, st1⟩ := getF X0 hx hZ hown (host := "") (Or.inl (hw _ (List.mem_of_getElem? (i := 8) rfl))) Via.refl e0 F_code_a (g := (mkF m 1 #[.val (.ref a)] [(.ref a)])) rfl rfl (hb hby d2_1)
  have pre2 : ∀ t, Steps p.tables e below (T1.setTop (mkF m 9 #[.val (.ref a)] [(.int (3 : Int32)), (.int (k' / (1000 : Int32)))])) t → Steps p.tables e below (s₁.setTop (entryFrame m #[(.ref a)] 1)) t := by
    intro t kt
    refine pre0 t ?_
    show Steps p.tables e below (s₁.setTop (mkF m 0 #[.val (.ref a)] [])) _
    refine XS.aloadN X0.here hx rfl (hb hby d2_0) rfl rfl ?_
    show Steps p.tables e below (s₁.setTop (mkF m 1 #[.val (.ref a)] [(.ref a)])) _
    refine st1 _ ?_
    show Steps p.tables e below (T1.setTop (mkF m 4 #[.val (.ref a)] [(.int k')])) _
    refine XS.sipush X1.here hx rfl (hb hby d2_4) ?_
    show Steps p.tables e below (T1.setTop (mkF m 7 #[.val (.ref a)] [(.int (1000 : Int32)), (.int k')])) _
    refine XS.idiv X1.here hx rfl (hb hby d2_7) rfl (by decide) ?_
    show Steps p.tables e below (T1.setTop (mkF m 8 #[.val (.ref a)] [(.int (k' / (1000 : Int32)))])) _
    refine XS.iconst X1.here hx rfl (hb hby d2_8) ?_
    exact kt
  by_cases hc9_3 : (k' / (1000 : Int32)) = (3 : Int32)
  · obtain ⟨fs, hr, hrun, hended, hW, hsame⟩ := X1.leave (v := some (.int (1 : Int32))) (fun h => by rw [Bd.returns] at h; cases h)
    refine ⟨_, _, pre2 _ ?_, hrun, hended, _, _, rfl, ?_, ⟨_, rfl⟩, hW, hsame.mono (by decide) (by decide)⟩
    · show Steps p.tables e below (T1.setTop (mkF m 9 #[.val (.ref a)] [(.int (3 : Int32)), (.int (k' / (1000 : Int32)))])) _
      refine XS.icmpNo X1.here hx rfl (hb hby d2_9) rfl (teq hc9_3).2 ?_
      show Steps p.tables e below (T1.setTop (mkF m 12 #[.val (.ref a)] [])) _
      refine XS.iconst X1.here hx rfl (hb hby d2_12) ?_
      show Steps p.tables e below (T1.setTop (mkF m 13 #[.val (.ref a)] [(.int (1 : Int32))])) _
      refine XS.goto X1.here hx rfl (pc0 := 13) (pc' := 17) rfl (hb hby d2_13) (by decide) (by decide) ?_
      show Steps p.tables e below (T1.setTop (mkF m 17 #[.val (.ref a)] [(.int (1 : Int32))])) _
      exact retN X1 hx (t := .boolean) Bd.returns (by simp) (hb hby d2_17) hr
    · show Q2 Z a k' h0 n0 _ T1.heap _
      rw [e1]
      exact ⟨by rw [own_pe, if_pos hc9_3], N0, rfl⟩
  · obtain ⟨fs, hr, hrun, hended, hW, hsame⟩ := X1.leave (v := some (.int (0 : Int32))) (fun h => by rw [Bd.returns] at h; cases h)
    refine ⟨_, _, pre2 _ ?_, hrun, hended, _, _, rfl, ?_, ⟨_, rfl⟩, hW, hsame.mono (by decide) (by decide)⟩
    · show Steps p.tables e below (T1.setTop (mkF m 9 #[.val (.ref a)] [(.int (3 : Int32)), (.int (k' / (1000 : Int32)))])) _
      refine XS.icmpYes X1.here hx rfl (pc0 := 9) (pc' := 16) rfl (hb hby d2_9) rfl (feq hc9_3).2 (by decide) (by decide) ?_
      show Steps p.tables e below (T1.setTop (mkF m 16 #[.val (.ref a)] [])) _
      refine XS.iconst X1.here hx rfl (hb hby d2_16) ?_
      show Steps p.tables e below (T1.setTop (mkF m 17 #[.val (.ref a)] [(.int (0 : Int32))])) _
      exact retN X1 hx (t := .boolean) Bd.returns (by simp) (hb hby d2_17) hr
    · show Q2 Z a k' h0 n0 _ T1.heap _
      rw [e1]
      exact ⟨by rw [own_pe, if_neg hc9_3], N0, rfl⟩
theorem pn_0 : plainName "com/example/overage/overage/diameter/ResultCodeIsProtocolErrorPinLaw" = true := by first | (simp [plainName, overriddenIn]; done) | decide +kernel
theorem pd0_0 : parseMethodDescriptor "()I" = some ⟨[], some .int⟩ := by decide +kernel
theorem pd0_1 : parseMethodDescriptor "()Z" = some ⟨[], some .boolean⟩ := by decide +kernel
theorem ef_0 (m : MethodId) (x0 : Int32) : entryFrame m #[(.int x0)] maxLocals = mkF m 0 #[.val (.int x0), .unset, .unset, .unset, .unset, .unset] [] := by first | (simp [entryFrame, mkF, argsToLocals, Value.category, maxLocals]; done) | rfl
def Q0 (Z : State) (x' : Int32) (o0 o1 o2 o3 o4 o5 o6 o7 : Addr) (h0 : Heap) (n0 : Nat) (v : Option Value) (h : Heap) (L : List Loc) : Prop := v = some (.int (1 : Int32)) ∧ Fr n0 L
set_option maxRecDepth 65536 in
set_option maxHeartbeats 40000000 in
theorem rm0 (l : Launch) (Z : State) (a0 : Array Value) (hw : ∀ d ∈ tables_1, d.before a0 Z = true) (ws : List Jvm.Cond) (x' : Int32) (o0 o1 o2 o3 o4 o5 o6 o7 : Addr) (h0 : Heap) (n0 : Nat) (Z0 : n0 ≤ h0.size) (S_SUCCESS : Sta Z h0 "com/example/overage/overage/diameter/ResultCode" "SUCCESS" "Lcom/example/overage/overage/diameter/ResultCode;" (.ref o0)) (E_o0 : Exa Z h0 o0 "com/example/overage/overage/diameter/ResultCode") (F_code_o0 : Fld Z h0 o0 "com/example/overage/overage/diameter/ResultCode" "code" "I" (.int (2001 : Int32))) (S_INVALID_AVP_VALUE : Sta Z h0 "com/example/overage/overage/diameter/ResultCode" "INVALID_AVP_VALUE" "Lcom/example/overage/overage/diameter/ResultCode;" (.ref o1)) (E_o1 : Exa Z h0 o1 "com/example/overage/overage/diameter/ResultCode") (F_code_o1 : Fld Z h0 o1 "com/example/overage/overage/diameter/ResultCode" "code" "I" (.int (5004 : Int32))) (S_UNABLE_TO_COMPLY : Sta Z h0 "com/example/overage/overage/diameter/ResultCode" "UNABLE_TO_COMPLY" "Lcom/example/overage/overage/diameter/ResultCode;" (.ref o2)) (E_o2 : Exa Z h0 o2 "com/example/overage/overage/diameter/ResultCode") (F_code_o2 : Fld Z h0 o2 "com/example/overage/overage/diameter/ResultCode" "code" "I" (.int (5012 : Int32))) (S_INVALID_AVP_LENGTH : Sta Z h0 "com/example/overage/overage/diameter/ResultCode" "INVALID_AVP_LENGTH" "Lcom/example/overage/overage/diameter/ResultCode;" (.ref o3)) (E_o3 : Exa Z h0 o3 "com/example/overage/overage/diameter/ResultCode") (F_code_o3 : Fld Z h0 o3 "com/example/overage/overage/diameter/ResultCode" "code" "I" (.int (5014 : Int32))) (S_APPLICATION_UNSUPPORTED : Sta Z h0 "com/example/overage/overage/diameter/ResultCode" "APPLICATION_UNSUPPORTED" "Lcom/example/overage/overage/diameter/ResultCode;" (.ref o4)) (E_o4 : Exa Z h0 o4 "com/example/overage/overage/diameter/ResultCode") (F_code_o4 : Fld Z h0 o4 "com/example/overage/overage/diameter/ResultCode" "code" "I" (.int (3007 : Int32))) (S_COMMAND_UNSUPPORTED : Sta Z h0 "com/example/overage/overage/diameter/ResultCode" "COMMAND_UNSUPPORTED" "Lcom/example/overage/overage/diameter/ResultCode;" (.ref o5)) (E_o5 : Exa Z h0 o5 "com/example/overage/overage/diameter/ResultCode") (F_code_o5 : Fld Z h0 o5 "com/example/overage/overage/diameter/ResultCode" "code" "I" (.int (3001 : Int32))) (S_MISSING_AVP : Sta Z h0 "com/example/overage/overage/diameter/ResultCode" "MISSING_AVP" "Lcom/example/overage/overage/diameter/ResultCode;" (.ref o6)) (E_o6 : Exa Z h0 o6 "com/example/overage/overage/diameter/ResultCode") (F_code_o6 : Fld Z h0 o6 "com/example/overage/overage/diameter/ResultCode" "code" "I" (.int (5005 : Int32))) (S_NO_COMMON_APPLICATION : Sta Z h0 "com/example/overage/overage/diameter/ResultCode" "NO_COMMON_APPLICATION" "Lcom/example/overage/overage/diameter/ResultCode;" (.ref o7)) (E_o7 : Exa Z h0 o7 "com/example/overage/overage/diameter/ResultCode") (F_code_o7 : Fld Z h0 o7 "com/example/overage/overage/diameter/ResultCode" "code" "I" (.int (5010 : Int32))) :
    MetFree l x (head1 (Jvm.Cond.code x code maxLocals ret :: ws) room_1) (fun ar U => ar = #[(.int x')] ∧ Z.Warmed39 U.vm ∧ U.heap = h0) (fun _ _ _ _ _ => True) (fun _ U o U' => ∃ v L, o = .returned v ∧ Q0 Z x' o0 o1 o2 o3 o4 o5 o6 o7 h0 n0 v U'.heap L ∧ FrameEnd U o U' L room_1.cells room_1.slots) := by
  refine MetFree.of_bodySF (plainFor_of_name pn_0) hisR ?_
  intro p e s m args below meth c s₁ Bd hml0 hP hK
  obtain ⟨rfl, hZ, hh⟩ := hP
  have hx := Bd.exec
  have hby := Bd.bytes
  have hml : c.maxLocals = 6 := hml0
  have hown : s.vm.findClass "com/example/overage/overage/diameter/ResultCodeIsProtocolErrorPinLaw" = some m.cls := findClass_of_methodNamed Bd.named
  have hnm := (name_of_methodNamed Bd.named Bd.method).1
  have X0 : Stand p l e room_1 s m #[(.int x')] below meth c s₁ [] 0 0 := Stand.of_body Bd
  have e0 : s₁.heap = h0 := by rw [← hh, Bd.state]; rfl
  have N0 := Fr.nil n0
  have K0 : Keep h0 h0 [] := Keep.refl h0 _
  have pre0 : ∀ t, Steps p.tables e below (s₁.setTop (mkF m 0 #[.val (.int x'), .unset, .unset, .unset, .unset, .unset] [])) t → Steps p.tables e below (s₁.setTop (entryFrame m #[(.int x')] maxLocals)) t := fun t k => castTop (ef_0 m x') k
  have pre1 : ∀ t, Steps p.tables e below (s₁.setTop (mkF m 6 #[.val (.int x'), .val (.int (x' &&& (7 : Int32))), .unset, .unset, .unset, .unset] [(.int (x' &&& (7 : Int32)))])) t → Steps p.tables e below (s₁.setTop (entryFrame m #[(.int x')] maxLocals)) t := by
    intro t kt
    refine pre0 t ?_
    show Steps p.tables e below (s₁.setTop (mkF m 0 #[.val (.int x'), .unset, .unset, .unset, .unset, .unset] [])) _
    refine XS.iloadN X0.here hx rfl (hb hby at_0) rfl ?_
    show Steps p.tables e below (s₁.setTop (mkF m 1 #[.val (.int x'), .unset, .unset, .unset, .unset, .unset] [(.int x')])) _
    refine XS.bipush X0.here hx rfl (hb hby at_1) ?_
    show Steps p.tables e below (s₁.setTop (mkF m 3 #[.val (.int x'), .unset, .unset, .unset, .unset, .unset] [(.int (7 : Int32)), (.int x')])) _
    refine XS.iand X0.here hx rfl (hb hby at_3) rfl ?_
    show Steps p.tables e below (s₁.setTop (mkF m 4 #[.val (.int x'), .unset, .unset, .unset, .unset, .unset] [(.int (x' &&& (7 : Int32)))])) _
    refine XS.istoreN X0.here hx rfl (hb hby at_4) rfl (l' := #[.val (.int x'), .val (.int (x' &&& (7 : Int32))), .unset, .unset, .unset, .unset]) rfl ?_
    show Steps p.tables e below (s₁.setTop (mkF m 5 #[.val (.int x'), .val (.int (x' &&& (7 : Int32))), .unset, .unset, .unset, .unset] [])) _
    refine XS.iloadN X0.here hx rfl (hb hby at_5) rfl ?_
    exact kt
  by_cases hc6_2 : (x' &&& (7 : Int32)) = (0 : Int32)
  · obtain ⟨T3, X3, e3, st3⟩ := getS2 X0 hx hZ hown (host := "") (Or.inl (hw _ (List.mem_of_getElem? (i := 0) rfl))) Via.refl e0 S_SUCCESS (g := (mkF m 9 #[.val (.int x'), .val (.int (x' &&& (7 : Int32))), .unset, .unset, .unset, .unset] [])) rfl (hb hby at_9)
    obtain ⟨cq4, kq4, q4a, q4b, q4c⟩ := isOf hZ e3 E_o0
    obtain ⟨_, _, ⟨T4, L4, k4, n4⟩, -, X4, ⟨Lc4, hQ4, l4, y4, z4⟩, st4⟩ := X3.virtualBack hx (y := (⟨"com/example/overage/overage/diameter/ResultCode", "code", "()I"⟩ : MethodName)) (z := (⟨"com/example/overage/overage/diameter/ResultCode", "code", "()I"⟩ : MethodName)) hown (mvT hZ (hw _ (List.mem_of_getElem? (i := 3) rfl))) (mvT hZ (hw _ (List.mem_of_getElem? (i := 4) rfl))) (notFace_of_selects (args := #[]) (mvT hZ (hw _ (List.mem_of_getElem? (i := 6) rfl)))) (mvT hZ (hw _ (List.mem_of_getElem? (i := 6) rfl))) (mvT hZ (hw _ (List.mem_of_getElem? (i := 5) rfl))) (by decide) (backOf (W := 0) (rm1 l Z a0 hw [] o0 (2001 : Int32) h0 n0 Z0 F_code_o0) hZ (hw _ (List.mem_of_getElem? (i := 7) rfl)) (hw _ (List.mem_of_getElem? (i := 1) rfl)) (by decide) (by decide)) q4a q4c (g := (mkF m 110 #[.val (.int x'), .val (.int (x' &&& (7 : Int32))), .val (.ref o0), .val (.int (0 : Int32)), .unset, .unset] [(.ref o0)])) rfl (by rw [hml]; rfl) (Steps.refl _) (argsL := []) (rest := []) (lenOf pd0_0 rfl) rfl (by show 2 * 0 + _ ≤ _; exact Nat.le_of_eq rfl) (hb hby at_110) (fun _ _ => ⟨rfl, e3, (by decide : 0 + 0 ≤ _), (by decide : 0 + 0 ≤ _)⟩)
    dsimp only [Pt.U, Pt.locs, Pt.cells, Pt.slots] at X4 l4 y4 z4 st4 hQ4
    subst l4 y4 z4
    obtain ⟨rfl, N4q, hh4⟩ := hQ4
    have N4 := Fr.app N0 N4q
    obtain ⟨cq5, kq5, q5a, q5b, q5c⟩ := isOf hZ hh4 E_o0
    obtain ⟨_, _, ⟨T5, L5, k5, n5⟩, -, X5, ⟨Lc5, hQ5, l5, y5, z5⟩, st5⟩ := X4.virtualBack hx (y := (⟨"com/example/overage/overage/diameter/ResultCode", "isProtocolError", "()Z"⟩ : MethodName)) (z := (⟨"com/example/overage/overage/diameter/ResultCode", "isProtocolError", "()Z"⟩ : MethodName)) hown (mvT hZ (hw _ (List.mem_of_getElem? (i := 10) rfl))) (mvT hZ (hw _ (List.mem_of_getElem? (i := 11) rfl))) (notFace_of_selects (args := #[]) (mvT hZ (hw _ (List.mem_of_getElem? (i := 13) rfl)))) (mvT hZ (hw _ (List.mem_of_getElem? (i := 13) rfl))) (mvT hZ (hw _ (List.mem_of_getElem? (i := 12) rfl))) (by decide) (backOf (W := 0) (rm2 l Z a0 hw [] o0 (2001 : Int32) h0 n0 Z0 F_code_o0) hZ (hw _ (List.mem_of_getElem? (i := 14) rfl)) (hw _ (List.mem_of_getElem? (i := 1) rfl)) (by decide) (by decide)) q5a q5c (g := (mkF m 139 #[.val (.int x'), .val (.int (x' &&& (7 : Int32))), .val (.ref o0), .val (.int (0 : Int32)), .val (.int (2001 : Int32)), .val (.int (0 : Int32))] [(.ref o0)])) rfl (by rw [hml]; rfl) (Steps.refl _) (argsL := []) (rest := []) (lenOf pd0_1 rfl) rfl (by show 2 * 0 + _ ≤ _; exact Nat.le_of_eq rfl) (hb hby at_139) (fun _ _ => ⟨rfl, hh4, (by decide : 0 + 0 ≤ _), (by decide : 0 + 0 ≤ _)⟩)
    dsimp only [Pt.U, Pt.locs, Pt.cells, Pt.slots] at X5 l5 y5 z5 st5 hQ5
    subst l5 y5 z5
    obtain ⟨rfl, N5q, hh5⟩ := hQ5
    have N5 := Fr.app N4 N5q
    obtain ⟨fs, hr, hrun, hended, hW, hsame⟩ := X5.leave (v := some (.int (1 : Int32))) (fun h => by rw [Bd.returns] at h; cases h)
    refine ⟨_, _, pre1 _ ?_, hrun, hended, _, _, rfl, ?_, ⟨_, rfl⟩, hW, hsame.mono (by decide) (by decide)⟩
    · show Steps p.tables e below (s₁.setTop (mkF m 6 #[.val (.int x'), .val (.int (x' &&& (7 : Int32))), .unset, .unset, .unset, .unset] [(.int (x' &&& (7 : Int32)))])) _
      refine XS.ifNo X0.here hx rfl (hb hby at_6) rfl ((if0 _ _).trans (teq hc6_2).2) ?_
      show Steps p.tables e below (s₁.setTop (mkF m 9 #[.val (.int x'), .val (.int (x' &&& (7 : Int32))), .unset, .unset, .unset, .unset] [])) _
      refine st3 _ ?_
      show Steps p.tables e below (T3.setTop (mkF m 12 #[.val (.int x'), .val (.int (x' &&& (7 : Int32))), .unset, .unset, .unset, .unset] [(.ref o0)])) _
      refine XS.astoreN X3.here hx rfl (hb hby at_12) rfl rfl (l' := #[.val (.int x'), .val (.int (x' &&& (7 : Int32))), .val (.ref o0), .unset, .unset, .unset]) rfl ?_
      show Steps p.tables e below (T3.setTop (mkF m 13 #[.val (.int x'), .val (.int (x' &&& (7 : Int32))), .val (.ref o0), .unset, .unset, .unset] [])) _
      refine XS.iconst X3.here hx rfl (hb hby at_13) ?_
      show Steps p.tables e below (T3.setTop (mkF m 14 #[.val (.int x'), .val (.int (x' &&& (7 : Int32))), .val (.ref o0), .unset, .unset, .unset] [(.int (0 : Int32))])) _
      refine XS.istoreN X3.here hx rfl (hb hby at_14) rfl (l' := #[.val (.int x'), .val (.int (x' &&& (7 : Int32))), .val (.ref o0), .val (.int (0 : Int32)), .unset, .unset]) rfl ?_
      show Steps p.tables e below (T3.setTop (mkF m 15 #[.val (.int x'), .val (.int (x' &&& (7 : Int32))), .val (.ref o0), .val (.int (0 : Int32)), .unset, .unset] [])) _
      refine XS.goto X3.here hx rfl (pc0 := 15) (pc' := 109) rfl (hb hby at_15) (by decide) (by decide) ?_
      show Steps p.tables e below (T3.setTop (mkF m 109 #[.val (.int x'), .val (.int (x' &&& (7 : Int32))), .val (.ref o0), .val (.int (0 : Int32)), .unset, .unset] [])) _
      refine XS.aloadN X3.here hx rfl (hb hby at_109) rfl rfl ?_
      show Steps p.tables e below (T3.setTop (mkF m 110 #[.val (.int x'), .val (.int (x' &&& (7 : Int32))), .val (.ref o0), .val (.int (0 : Int32)), .unset, .unset] [(.ref o0)])) _
      refine st4.trans ?_
      show Steps p.tables e below (T4.setTop (mkF m 113 #[.val (.int x'), .val (.int (x' &&& (7 : Int32))), .val (.ref o0), .val (.int (0 : Int32)), .unset, .unset] [(.int (2001 : Int32))])) _
      refine XS.istore X4.here hx rfl (hb hby at_113) rfl (l' := #[.val (.int x'), .val (.int (x' &&& (7 : Int32))), .val (.ref o0), .val (.int (0 : Int32)), .val (.int (2001 : Int32)), .unset]) rfl ?_
      show Steps p.tables e below (T4.setTop (mkF m 115 #[.val (.int x'), .val (.int (x' &&& (7 : Int32))), .val (.ref o0), .val (.int (0 : Int32)), .val (.int (2001 : Int32)), .unset] [])) _
      refine XS.iload X4.here hx rfl (hb hby at_115) rfl ?_
      show Steps p.tables e below (T4.setTop (mkF m 117 #[.val (.int x'), .val (.int (x' &&& (7 : Int32))), .val (.ref o0), .val (.int (0 : Int32)), .val (.int (2001 : Int32)), .unset] [(.int (2001 : Int32))])) _
      refine XS.sipush X4.here hx rfl (hb hby at_117) ?_
      show Steps p.tables e below (T4.setTop (mkF m 120 #[.val (.int x'), .val (.int (x' &&& (7 : Int32))), .val (.ref o0), .val (.int (0 : Int32)), .val (.int (2001 : Int32)), .unset] [(.int (3000 : Int32)), (.int (2001 : Int32))])) _
      refine XS.icmpYes X4.here hx rfl (pc0 := 120) (pc' := 135) rfl (hb hby at_120) rfl (tlt (by decide : (2001 : Int32) < (3000 : Int32))).1 (by decide) (by decide) ?_
      show Steps p.tables e below (T4.setTop (mkF m 135 #[.val (.int x'), .val (.int (x' &&& (7 : Int32))), .val (.ref o0), .val (.int (0 : Int32)), .val (.int (2001 : Int32)), .unset] [])) _
      refine XS.iconst X4.here hx rfl (hb hby at_135) ?_
      show Steps p.tables e below (T4.setTop (mkF m 136 #[.val (.int x'), .val (.int (x' &&& (7 : Int32))), .val (.ref o0), .val (.int (0 : Int32)), .val (.int (2001 : Int32)), .unset] [(.int (0 : Int32))])) _
      refine XS.istore X4.here hx rfl (hb hby at_136) rfl (l' := #[.val (.int x'), .val (.int (x' &&& (7 : Int32))), .val (.ref o0), .val (.int (0 : Int32)), .val (.int (2001 : Int32)), .val (.int (0 : Int32))]) rfl ?_
      show Steps p.tables e below (T4.setTop (mkF m 138 #[.val (.int x'), .val (.int (x' &&& (7 : Int32))), .val (.ref o0), .val (.int (0 : Int32)), .val (.int (2001 : Int32)), .val (.int (0 : Int32))] [])) _
      refine XS.aloadN X4.here hx rfl (hb hby at_138) rfl rfl ?_
      show Steps p.tables e below (T4.setTop (mkF m 139 #[.val (.int x'), .val (.int (x' &&& (7 : Int32))), .val (.ref o0), .val (.int (0 : Int32)), .val (.int (2001 : Int32)), .val (.int (0 : Int32))] [(.ref o0)])) _
      refine st5.trans ?_
      show Steps p.tables e below (T5.setTop (mkF m 142 #[.val (.int x'), .val (.int (x' &&& (7 : Int32))), .val (.ref o0), .val (.int (0 : Int32)), .val (.int (2001 : Int32)), .val (.int (0 : Int32))] [(.int (own_pe (2001 : Int32)))])) _
      refine XS.iloadN X5.here hx rfl (hb hby at_142) rfl ?_
      show Steps p.tables e below (T5.setTop (mkF m 143 #[.val (.int x'), .val (.int (x' &&& (7 : Int32))), .val (.ref o0), .val (.int (0 : Int32)), .val (.int (2001 : Int32)), .val (.int (0 : Int32))] [(.int (0 : Int32)), (.int (own_pe (2001 : Int32)))])) _
      refine XS.icmpNo X5.here hx rfl (hb hby at_143) rfl (teq (by decide : (own_pe (2001 : Int32)) = (0 : Int32))).2 ?_
      show Steps p.tables e below (T5.setTop (mkF m 146 #[.val (.int x'), .val (.int (x' &&& (7 : Int32))), .val (.ref o0), .val (.int (0 : Int32)), .val (.int (2001 : Int32)), .val (.int (0 : Int32))] [])) _
      refine XS.iloadN X5.here hx rfl (hb hby at_146) rfl ?_
      show Steps p.tables e below (T5.setTop (mkF m 147 #[.val (.int x'), .val (.int (x' &&& (7 : Int32))), .val (.ref o0), .val (.int (0 : Int32)), .val (.int (2001 : Int32)), .val (.int (0 : Int32))] [(.int (0 : Int32))])) _
      refine XS.iload X5.here hx rfl (hb hby at_147) rfl ?_
      show Steps p.tables e below (T5.setTop (mkF m 149 #[.val (.int x'), .val (.int (x' &&& (7 : Int32))), .val (.ref o0), .val (.int (0 : Int32)), .val (.int (2001 : Int32)), .val (.int (0 : Int32))] [(.int (0 : Int32)), (.int (0 : Int32))])) _
      refine XS.icmpNo X5.here hx rfl (hb hby at_149) rfl (teq (by decide : (0 : Int32) = (0 : Int32))).2 ?_
      show Steps p.tables e below (T5.setTop (mkF m 152 #[.val (.int x'), .val (.int (x' &&& (7 : Int32))), .val (.ref o0), .val (.int (0 : Int32)), .val (.int (2001 : Int32)), .val (.int (0 : Int32))] [])) _
      refine XS.iconst X5.here hx rfl (hb hby at_152) ?_
      show Steps p.tables e below (T5.setTop (mkF m 153 #[.val (.int x'), .val (.int (x' &&& (7 : Int32))), .val (.ref o0), .val (.int (0 : Int32)), .val (.int (2001 : Int32)), .val (.int (0 : Int32))] [(.int (1 : Int32))])) _
      refine XS.goto X5.here hx rfl (pc0 := 153) (pc' := 157) rfl (hb hby at_153) (by decide) (by decide) ?_
      show Steps p.tables e below (T5.setTop (mkF m 157 #[.val (.int x'), .val (.int (x' &&& (7 : Int32))), .val (.ref o0), .val (.int (0 : Int32)), .val (.int (2001 : Int32)), .val (.int (0 : Int32))] [(.int (1 : Int32))])) _
      exact retN X5 hx (t := .boolean) Bd.returns (by simp) (hb hby at_157) hr
    · show Q0 Z x' o0 o1 o2 o3 o4 o5 o6 o7 h0 n0 _ T5.heap _
      rw [hh5]
      exact ⟨rfl, N5⟩
  · have pre6 : ∀ t, Steps p.tables e below (s₁.setTop (mkF m 20 #[.val (.int x'), .val (.int (x' &&& (7 : Int32))), .unset, .unset, .unset, .unset] [(.int (1 : Int32)), (.int (x' &&& (7 : Int32)))])) t → Steps p.tables e below (s₁.setTop (entryFrame m #[(.int x')] maxLocals)) t := by
      intro t kt
      refine pre1 t ?_
      show Steps p.tables e below (s₁.setTop (mkF m 6 #[.val (.int x'), .val (.int (x' &&& (7 : Int32))), .unset, .unset, .unset, .unset] [(.int (x' &&& (7 : Int32)))])) _
      refine XS.ifYes X0.here hx rfl (pc0 := 6) (pc' := 18) rfl (hb hby at_6) rfl ((if0 _ _).trans (feq hc6_2).2) (by decide) (by decide) ?_
      show Steps p.tables e below (s₁.setTop (mkF m 18 #[.val (.int x'), .val (.int (x' &&& (7 : Int32))), .unset, .unset, .unset, .unset] [])) _
      refine XS.iloadN X0.here hx rfl (hb hby at_18) rfl ?_
      show Steps p.tables e below (s₁.setTop (mkF m 19 #[.val (.int x'), .val (.int (x' &&& (7 : Int32))), .unset, .unset, .unset, .unset] [(.int (x' &&& (7 : Int32)))])) _
      refine XS.iconst X0.here hx rfl (hb hby at_19) ?_
      exact kt
    by_cases hc20_7 : (x' &&& (7 : Int32)) = (1 : Int32)
    · obtain ⟨T8, X8, e8, st8⟩ := getS2 X0 hx hZ hown (host := "") (Or.inl (hw _ (List.mem_of_getElem? (i := 23) rfl))) Via.refl e0 S_COMMAND_UNSUPPORTED (g := (mkF m 23 #[.val (.int x'), .val (.int (x' &&& (7 : Int32))), .unset, .unset, .unset, .unset] [])) rfl (hb hby at_23)
      obtain ⟨cq9, kq9, q9a, q9b, q9c⟩ := isOf hZ e8 E_o5
      obtain ⟨_, _, ⟨T9, L9, k9, n9⟩, -, X9, ⟨Lc9, hQ9, l9, y9, z9⟩, st9⟩ := X8.virtualBack hx (y := (⟨"com/example/overage/overage/diameter/ResultCode", "code", "()I"⟩ : MethodName)) (z := (⟨"com/example/overage/overage/diameter/ResultCode", "code", "()I"⟩ : MethodName)) hown (mvT hZ (hw _ (List.mem_of_getElem? (i := 3) rfl))) (mvT hZ (hw _ (List.mem_of_getElem? (i := 4) rfl))) (notFace_of_selects (args := #[]) (mvT hZ (hw _ (List.mem_of_getElem? (i := 6) rfl)))) (mvT hZ (hw _ (List.mem_of_getElem? (i := 6) rfl))) (mvT hZ (hw _ (List.mem_of_getElem? (i := 5) rfl))) (by decide) (backOf (W := 0) (rm1 l Z a0 hw [] o5 (3001 : Int32) h0 n0 Z0 F_code_o5) hZ (hw _ (List.mem_of_getElem? (i := 7) rfl)) (hw _ (List.mem_of_getElem? (i := 1) rfl)) (by decide) (by decide)) q9a q9c (g := (mkF m 110 #[.val (.int x'), .val (.int (x' &&& (7 : Int32))), .val (.ref o5), .val (.int (1 : Int32)), .unset, .unset] [(.ref o5)])) rfl (by rw [hml]; rfl) (Steps.refl _) (argsL := []) (rest := []) (lenOf pd0_0 rfl) rfl (by show 2 * 0 + _ ≤ _; exact Nat.le_of_eq rfl) (hb hby at_110) (fun _ _ => ⟨rfl, e8, (by decide : 0 + 0 ≤ _), (by decide : 0 + 0 ≤ _)⟩)
      dsimp only [Pt.U, Pt.locs, Pt.cells, Pt.slots] at X9 l9 y9 z9 st9 hQ9
      subst l9 y9 z9
      obtain ⟨rfl, N9q, hh9⟩ := hQ9
      have N9 := Fr.app N0 N9q
      obtain ⟨cq10, kq10, q10a, q10b, q10c⟩ := isOf hZ hh9 E_o5
      obtain ⟨_, _, ⟨T10, L10, k10, n10⟩, -, X10, ⟨Lc10, hQ10, l10, y10, z10⟩, st10⟩ := X9.virtualBack hx (y := (⟨"com/example/overage/overage/diameter/ResultCode", "isProtocolError", "()Z"⟩ : MethodName)) (z := (⟨"com/example/overage/overage/diameter/ResultCode", "isProtocolError", "()Z"⟩ : MethodName)) hown (mvT hZ (hw _ (List.mem_of_getElem? (i := 10) rfl))) (mvT hZ (hw _ (List.mem_of_getElem? (i := 11) rfl))) (notFace_of_selects (args := #[]) (mvT hZ (hw _ (List.mem_of_getElem? (i := 13) rfl)))) (mvT hZ (hw _ (List.mem_of_getElem? (i := 13) rfl))) (mvT hZ (hw _ (List.mem_of_getElem? (i := 12) rfl))) (by decide) (backOf (W := 0) (rm2 l Z a0 hw [] o5 (3001 : Int32) h0 n0 Z0 F_code_o5) hZ (hw _ (List.mem_of_getElem? (i := 14) rfl)) (hw _ (List.mem_of_getElem? (i := 1) rfl)) (by decide) (by decide)) q10a q10c (g := (mkF m 139 #[.val (.int x'), .val (.int (x' &&& (7 : Int32))), .val (.ref o5), .val (.int (1 : Int32)), .val (.int (3001 : Int32)), .val (.int (1 : Int32))] [(.ref o5)])) rfl (by rw [hml]; rfl) (Steps.refl _) (argsL := []) (rest := []) (lenOf pd0_1 rfl) rfl (by show 2 * 0 + _ ≤ _; exact Nat.le_of_eq rfl) (hb hby at_139) (fun _ _ => ⟨rfl, hh9, (by decide : 0 + 0 ≤ _), (by decide : 0 + 0 ≤ _)⟩)
      dsimp only [Pt.U, Pt.locs, Pt.cells, Pt.slots] at X10 l10 y10 z10 st10 hQ10
      subst l10 y10 z10
      obtain ⟨rfl, N10q, hh10⟩ := hQ10
      have N10 := Fr.app N9 N10q
      obtain ⟨fs, hr, hrun, hended, hW, hsame⟩ := X10.leave (v := some (.int (1 : Int32))) (fun h => by rw [Bd.returns] at h; cases h)
      refine ⟨_, _, pre6 _ ?_, hrun, hended, _, _, rfl, ?_, ⟨_, rfl⟩, hW, hsame.mono (by decide) (by decide)⟩
      · show Steps p.tables e below (s₁.setTop (mkF m 20 #[.val (.int x'), .val (.int (x' &&& (7 : Int32))), .unset, .unset, .unset, .unset] [(.int (1 : Int32)), (.int (x' &&& (7 : Int32)))])) _
        refine XS.icmpNo X0.here hx rfl (hb hby at_20) rfl (teq hc20_7).2 ?_
        show Steps p.tables e below (s₁.setTop (mkF m 23 #[.val (.int x'), .val (.int (x' &&& (7 : Int32))), .unset, .unset, .unset, .unset] [])) _
        refine st8 _ ?_
        show Steps p.tables e below (T8.setTop (mkF m 26 #[.val (.int x'), .val (.int (x' &&& (7 : Int32))), .unset, .unset, .unset, .unset] [(.ref o5)])) _
        refine XS.astoreN X8.here hx rfl (hb hby at_26) rfl rfl (l' := #[.val (.int x'), .val (.int (x' &&& (7 : Int32))), .val (.ref o5), .unset, .unset, .unset]) rfl ?_
        show Steps p.tables e below (T8.setTop (mkF m 27 #[.val (.int x'), .val (.int (x' &&& (7 : Int32))), .val (.ref o5), .unset, .unset, .unset] [])) _
        refine XS.iconst X8.here hx rfl (hb hby at_27) ?_
        show Steps p.tables e below (T8.setTop (mkF m 28 #[.val (.int x'), .val (.int (x' &&& (7 : Int32))), .val (.ref o5), .unset, .unset, .unset] [(.int (1 : Int32))])) _
        refine XS.istoreN X8.here hx rfl (hb hby at_28) rfl (l' := #[.val (.int x'), .val (.int (x' &&& (7 : Int32))), .val (.ref o5), .val (.int (1 : Int32)), .unset, .unset]) rfl ?_
        show Steps p.tables e below (T8.setTop (mkF m 29 #[.val (.int x'), .val (.int (x' &&& (7 : Int32))), .val (.ref o5), .val (.int (1 : Int32)), .unset, .unset] [])) _
        refine XS.goto X8.here hx rfl (pc0 := 29) (pc' := 109) rfl (hb hby at_29) (by decide) (by decide) ?_
        show Steps p.tables e below (T8.setTop (mkF m 109 #[.val (.int x'), .val (.int (x' &&& (7 : Int32))), .val (.ref o5), .val (.int (1 : Int32)), .unset, .unset] [])) _
        refine XS.aloadN X8.here hx rfl (hb hby at_109) rfl rfl ?_
        show Steps p.tables e below (T8.setTop (mkF m 110 #[.val (.int x'), .val (.int (x' &&& (7 : Int32))), .val (.ref o5), .val (.int (1 : Int32)), .unset, .unset] [(.ref o5)])) _
        refine st9.trans ?_
        show Steps p.tables e below (T9.setTop (mkF m 113 #[.val (.int x'), .val (.int (x' &&& (7 : Int32))), .val (.ref o5), .val (.int (1 : Int32)), .unset, .unset] [(.int (3001 : Int32))])) _
        refine XS.istore X9.here hx rfl (hb hby at_113) rfl (l' := #[.val (.int x'), .val (.int (x' &&& (7 : Int32))), .val (.ref o5), .val (.int (1 : Int32)), .val (.int (3001 : Int32)), .unset]) rfl ?_
        show Steps p.tables e below (T9.setTop (mkF m 115 #[.val (.int x'), .val (.int (x' &&& (7 : Int32))), .val (.ref o5), .val (.int (1 : Int32)), .val (.int (3001 : Int32)), .unset] [])) _
        refine XS.iload X9.here hx rfl (hb hby at_115) rfl ?_
        show Steps p.tables e below (T9.setTop (mkF m 117 #[.val (.int x'), .val (.int (x' &&& (7 : Int32))), .val (.ref o5), .val (.int (1 : Int32)), .val (.int (3001 : Int32)), .unset] [(.int (3001 : Int32))])) _
        refine XS.sipush X9.here hx rfl (hb hby at_117) ?_
        show Steps p.tables e below (T9.setTop (mkF m 120 #[.val (.int x'), .val (.int (x' &&& (7 : Int32))), .val (.ref o5), .val (.int (1 : Int32)), .val (.int (3001 : Int32)), .unset] [(.int (3000 : Int32)), (.int (3001 : Int32))])) _
        refine XS.icmpNo X9.here hx rfl (hb hby at_120) rfl (flt (by decide : ¬ ((3001 : Int32) < (3000 : Int32)))).1 ?_
        show Steps p.tables e below (T9.setTop (mkF m 123 #[.val (.int x'), .val (.int (x' &&& (7 : Int32))), .val (.ref o5), .val (.int (1 : Int32)), .val (.int (3001 : Int32)), .unset] [])) _
        refine XS.iload X9.here hx rfl (hb hby at_123) rfl ?_
        show Steps p.tables e below (T9.setTop (mkF m 125 #[.val (.int x'), .val (.int (x' &&& (7 : Int32))), .val (.ref o5), .val (.int (1 : Int32)), .val (.int (3001 : Int32)), .unset] [(.int (3001 : Int32))])) _
        refine XS.sipush X9.here hx rfl (hb hby at_125) ?_
        show Steps p.tables e below (T9.setTop (mkF m 128 #[.val (.int x'), .val (.int (x' &&& (7 : Int32))), .val (.ref o5), .val (.int (1 : Int32)), .val (.int (3001 : Int32)), .unset] [(.int (3999 : Int32)), (.int (3001 : Int32))])) _
        refine XS.icmpNo X9.here hx rfl (hb hby at_128) rfl (flt (by decide : ¬ ((3999 : Int32) < (3001 : Int32)))).2.2.1 ?_
        show Steps p.tables e below (T9.setTop (mkF m 131 #[.val (.int x'), .val (.int (x' &&& (7 : Int32))), .val (.ref o5), .val (.int (1 : Int32)), .val (.int (3001 : Int32)), .unset] [])) _
        refine XS.iconst X9.here hx rfl (hb hby at_131) ?_
        show Steps p.tables e below (T9.setTop (mkF m 132 #[.val (.int x'), .val (.int (x' &&& (7 : Int32))), .val (.ref o5), .val (.int (1 : Int32)), .val (.int (3001 : Int32)), .unset] [(.int (1 : Int32))])) _
        refine XS.goto X9.here hx rfl (pc0 := 132) (pc' := 136) rfl (hb hby at_132) (by decide) (by decide) ?_
        show Steps p.tables e below (T9.setTop (mkF m 136 #[.val (.int x'), .val (.int (x' &&& (7 : Int32))), .val (.ref o5), .val (.int (1 : Int32)), .val (.int (3001 : Int32)), .unset] [(.int (1 : Int32))])) _
        refine XS.istore X9.here hx rfl (hb hby at_136) rfl (l' := #[.val (.int x'), .val (.int (x' &&& (7 : Int32))), .val (.ref o5), .val (.int (1 : Int32)), .val (.int (3001 : Int32)), .val (.int (1 : Int32))]) rfl ?_
        show Steps p.tables e below (T9.setTop (mkF m 138 #[.val (.int x'), .val (.int (x' &&& (7 : Int32))), .val (.ref o5), .val (.int (1 : Int32)), .val (.int (3001 : Int32)), .val (.int (1 : Int32))] [])) _
        refine XS.aloadN X9.here hx rfl (hb hby at_138) rfl rfl ?_
        show Steps p.tables e below (T9.setTop (mkF m 139 #[.val (.int x'), .val (.int (x' &&& (7 : Int32))), .val (.ref o5), .val (.int (1 : Int32)), .val (.int (3001 : Int32)), .val (.int (1 : Int32))] [(.ref o5)])) _
        refine st10.trans ?_
        show Steps p.tables e below (T10.setTop (mkF m 142 #[.val (.int x'), .val (.int (x' &&& (7 : Int32))), .val (.ref o5), .val (.int (1 : Int32)), .val (.int (3001 : Int32)), .val (.int (1 : Int32))] [(.int (own_pe (3001 : Int32)))])) _
        refine XS.iloadN X10.here hx rfl (hb hby at_142) rfl ?_
        show Steps p.tables e below (T10.setTop (mkF m 143 #[.val (.int x'), .val (.int (x' &&& (7 : Int32))), .val (.ref o5), .val (.int (1 : Int32)), .val (.int (3001 : Int32)), .val (.int (1 : Int32))] [(.int (1 : Int32)), (.int (own_pe (3001 : Int32)))])) _
        refine XS.icmpNo X10.here hx rfl (hb hby at_143) rfl (teq (by decide : (own_pe (3001 : Int32)) = (1 : Int32))).2 ?_
        show Steps p.tables e below (T10.setTop (mkF m 146 #[.val (.int x'), .val (.int (x' &&& (7 : Int32))), .val (.ref o5), .val (.int (1 : Int32)), .val (.int (3001 : Int32)), .val (.int (1 : Int32))] [])) _
        refine XS.iloadN X10.here hx rfl (hb hby at_146) rfl ?_
        show Steps p.tables e below (T10.setTop (mkF m 147 #[.val (.int x'), .val (.int (x' &&& (7 : Int32))), .val (.ref o5), .val (.int (1 : Int32)), .val (.int (3001 : Int32)), .val (.int (1 : Int32))] [(.int (1 : Int32))])) _
        refine XS.iload X10.here hx rfl (hb hby at_147) rfl ?_
        show Steps p.tables e below (T10.setTop (mkF m 149 #[.val (.int x'), .val (.int (x' &&& (7 : Int32))), .val (.ref o5), .val (.int (1 : Int32)), .val (.int (3001 : Int32)), .val (.int (1 : Int32))] [(.int (1 : Int32)), (.int (1 : Int32))])) _
        refine XS.icmpNo X10.here hx rfl (hb hby at_149) rfl (teq (by decide : (1 : Int32) = (1 : Int32))).2 ?_
        show Steps p.tables e below (T10.setTop (mkF m 152 #[.val (.int x'), .val (.int (x' &&& (7 : Int32))), .val (.ref o5), .val (.int (1 : Int32)), .val (.int (3001 : Int32)), .val (.int (1 : Int32))] [])) _
        refine XS.iconst X10.here hx rfl (hb hby at_152) ?_
        show Steps p.tables e below (T10.setTop (mkF m 153 #[.val (.int x'), .val (.int (x' &&& (7 : Int32))), .val (.ref o5), .val (.int (1 : Int32)), .val (.int (3001 : Int32)), .val (.int (1 : Int32))] [(.int (1 : Int32))])) _
        refine XS.goto X10.here hx rfl (pc0 := 153) (pc' := 157) rfl (hb hby at_153) (by decide) (by decide) ?_
        show Steps p.tables e below (T10.setTop (mkF m 157 #[.val (.int x'), .val (.int (x' &&& (7 : Int32))), .val (.ref o5), .val (.int (1 : Int32)), .val (.int (3001 : Int32)), .val (.int (1 : Int32))] [(.int (1 : Int32))])) _
        exact retN X10 hx (t := .boolean) Bd.returns (by simp) (hb hby at_157) hr
      · show Q0 Z x' o0 o1 o2 o3 o4 o5 o6 o7 h0 n0 _ T10.heap _
        rw [hh10]
        exact ⟨rfl, N10⟩
    · have pre11 : ∀ t, Steps p.tables e below (s₁.setTop (mkF m 34 #[.val (.int x'), .val (.int (x' &&& (7 : Int32))), .unset, .unset, .unset, .unset] [(.int (2 : Int32)), (.int (x' &&& (7 : Int32)))])) t → Steps p.tables e below (s₁.setTop (entryFrame m #[(.int x')] maxLocals)) t := by
        intro t kt
        refine pre6 t ?_
        show Steps p.tables e below (s₁.setTop (mkF m 20 #[.val (.int x'), .val (.int (x' &&& (7 : Int32))), .unset, .unset, .unset, .unset] [(.int (1 : Int32)), (.int (x' &&& (7 : Int32)))])) _
        refine XS.icmpYes X0.here hx rfl (pc0 := 20) (pc' := 32) rfl (hb hby at_20) rfl (feq hc20_7).2 (by decide) (by decide) ?_
        show Steps p.tables e below (s₁.setTop (mkF m 32 #[.val (.int x'), .val (.int (x' &&& (7 : Int32))), .unset, .unset, .unset, .unset] [])) _
        refine XS.iloadN X0.here hx rfl (hb hby at_32) rfl ?_
        show Steps p.tables e below (s₁.setTop (mkF m 33 #[.val (.int x'), .val (.int (x' &&& (7 : Int32))), .unset, .unset, .unset, .unset] [(.int (x' &&& (7 : Int32)))])) _
        refine XS.iconst X0.here hx rfl (hb hby at_33) ?_
        exact kt
      by_cases hc34_12 : (x' &&& (7 : Int32)) = (2 : Int32)
      · obtain ⟨T13, X13, e13, st13⟩ := getS2 X0 hx hZ hown (host := "") (Or.inl (hw _ (List.mem_of_getElem? (i := 21) rfl))) Via.refl e0 S_APPLICATION_UNSUPPORTED (g := (mkF m 37 #[.val (.int x'), .val (.int (x' &&& (7 : Int32))), .unset, .unset, .unset, .unset] [])) rfl (hb hby at_37)
        obtain ⟨cq14, kq14, q14a, q14b, q14c⟩ := isOf hZ e13 E_o4
        obtain ⟨_, _, ⟨T14, L14, k14, n14⟩, -, X14, ⟨Lc14, hQ14, l14, y14, z14⟩, st14⟩ := X13.virtualBack hx (y := (⟨"com/example/overage/overage/diameter/ResultCode", "code", "()I"⟩ : MethodName)) (z := (⟨"com/example/overage/overage/diameter/ResultCode", "code", "()I"⟩ : MethodName)) hown (mvT hZ (hw _ (List.mem_of_getElem? (i := 3) rfl))) (mvT hZ (hw _ (List.mem_of_getElem? (i := 4) rfl))) (notFace_of_selects (args := #[]) (mvT hZ (hw _ (List.mem_of_getElem? (i := 6) rfl)))) (mvT hZ (hw _ (List.mem_of_getElem? (i := 6) rfl))) (mvT hZ (hw _ (List.mem_of_getElem? (i := 5) rfl))) (by decide) (backOf (W := 0) (rm1 l Z a0 hw [] o4 (3007 : Int32) h0 n0 Z0 F_code_o4) hZ (hw _ (List.mem_of_getElem? (i := 7) rfl)) (hw _ (List.mem_of_getElem? (i := 1) rfl)) (by decide) (by decide)) q14a q14c (g := (mkF m 110 #[.val (.int x'), .val (.int (x' &&& (7 : Int32))), .val (.ref o4), .val (.int (1 : Int32)), .unset, .unset] [(.ref o4)])) rfl (by rw [hml]; rfl) (Steps.refl _) (argsL := []) (rest := []) (lenOf pd0_0 rfl) rfl (by show 2 * 0 + _ ≤ _; exact Nat.le_of_eq rfl) (hb hby at_110) (fun _ _ => ⟨rfl, e13, (by decide : 0 + 0 ≤ _), (by decide : 0 + 0 ≤ _)⟩)
        dsimp only [Pt.U, Pt.locs, Pt.cells, Pt.slots] at X14 l14 y14 z14 st14 hQ14
        subst l14 y14 z14
        obtain ⟨rfl, N14q, hh14⟩ := hQ14
        have N14 := Fr.app N0 N14q
        obtain ⟨cq15, kq15, q15a, q15b, q15c⟩ := isOf hZ hh14 E_o4
        obtain ⟨_, _, ⟨T15, L15, k15, n15⟩, -, X15, ⟨Lc15, hQ15, l15, y15, z15⟩, st15⟩ := X14.virtualBack hx (y := (⟨"com/example/overage/overage/diameter/ResultCode", "isProtocolError", "()Z"⟩ : MethodName)) (z := (⟨"com/example/overage/overage/diameter/ResultCode", "isProtocolError", "()Z"⟩ : MethodName)) hown (mvT hZ (hw _ (List.mem_of_getElem? (i := 10) rfl))) (mvT hZ (hw _ (List.mem_of_getElem? (i := 11) rfl))) (notFace_of_selects (args := #[]) (mvT hZ (hw _ (List.mem_of_getElem? (i := 13) rfl)))) (mvT hZ (hw _ (List.mem_of_getElem? (i := 13) rfl))) (mvT hZ (hw _ (List.mem_of_getElem? (i := 12) rfl))) (by decide) (backOf (W := 0) (rm2 l Z a0 hw [] o4 (3007 : Int32) h0 n0 Z0 F_code_o4) hZ (hw _ (List.mem_of_getElem? (i := 14) rfl)) (hw _ (List.mem_of_getElem? (i := 1) rfl)) (by decide) (by decide)) q15a q15c (g := (mkF m 139 #[.val (.int x'), .val (.int (x' &&& (7 : Int32))), .val (.ref o4), .val (.int (1 : Int32)), .val (.int (3007 : Int32)), .val (.int (1 : Int32))] [(.ref o4)])) rfl (by rw [hml]; rfl) (Steps.refl _) (argsL := []) (rest := []) (lenOf pd0_1 rfl) rfl (by show 2 * 0 + _ ≤ _; exact Nat.le_of_eq rfl) (hb hby at_139) (fun _ _ => ⟨rfl, hh14, (by decide : 0 + 0 ≤ _), (by decide : 0 + 0 ≤ _)⟩)
        dsimp only [Pt.U, Pt.locs, Pt.cells, Pt.slots] at X15 l15 y15 z15 st15 hQ15
        subst l15 y15 z15
        obtain ⟨rfl, N15q, hh15⟩ := hQ15
        have N15 := Fr.app N14 N15q
        obtain ⟨fs, hr, hrun, hended, hW, hsame⟩ := X15.leave (v := some (.int (1 : Int32))) (fun h => by rw [Bd.returns] at h; cases h)
        refine ⟨_, _, pre11 _ ?_, hrun, hended, _, _, rfl, ?_, ⟨_, rfl⟩, hW, hsame.mono (by decide) (by decide)⟩
        · show Steps p.tables e below (s₁.setTop (mkF m 34 #[.val (.int x'), .val (.int (x' &&& (7 : Int32))), .unset, .unset, .unset, .unset] [(.int (2 : Int32)), (.int (x' &&& (7 : Int32)))])) _
          refine XS.icmpNo X0.here hx rfl (hb hby at_34) rfl (teq hc34_12).2 ?_
          show Steps p.tables e below (s₁.setTop (mkF m 37 #[.val (.int x'), .val (.int (x' &&& (7 : Int32))), .unset, .unset, .unset, .unset] [])) _
          refine st13 _ ?_
          show Steps p.tables e below (T13.setTop (mkF m 40 #[.val (.int x'), .val (.int (x' &&& (7 : Int32))), .unset, .unset, .unset, .unset] [(.ref o4)])) _
          refine XS.astoreN X13.here hx rfl (hb hby at_40) rfl rfl (l' := #[.val (.int x'), .val (.int (x' &&& (7 : Int32))), .val (.ref o4), .unset, .unset, .unset]) rfl ?_
          show Steps p.tables e below (T13.setTop (mkF m 41 #[.val (.int x'), .val (.int (x' &&& (7 : Int32))), .val (.ref o4), .unset, .unset, .unset] [])) _
          refine XS.iconst X13.here hx rfl (hb hby at_41) ?_
          show Steps p.tables e below (T13.setTop (mkF m 42 #[.val (.int x'), .val (.int (x' &&& (7 : Int32))), .val (.ref o4), .unset, .unset, .unset] [(.int (1 : Int32))])) _
          refine XS.istoreN X13.here hx rfl (hb hby at_42) rfl (l' := #[.val (.int x'), .val (.int (x' &&& (7 : Int32))), .val (.ref o4), .val (.int (1 : Int32)), .unset, .unset]) rfl ?_
          show Steps p.tables e below (T13.setTop (mkF m 43 #[.val (.int x'), .val (.int (x' &&& (7 : Int32))), .val (.ref o4), .val (.int (1 : Int32)), .unset, .unset] [])) _
          refine XS.goto X13.here hx rfl (pc0 := 43) (pc' := 109) rfl (hb hby at_43) (by decide) (by decide) ?_
          show Steps p.tables e below (T13.setTop (mkF m 109 #[.val (.int x'), .val (.int (x' &&& (7 : Int32))), .val (.ref o4), .val (.int (1 : Int32)), .unset, .unset] [])) _
          refine XS.aloadN X13.here hx rfl (hb hby at_109) rfl rfl ?_
          show Steps p.tables e below (T13.setTop (mkF m 110 #[.val (.int x'), .val (.int (x' &&& (7 : Int32))), .val (.ref o4), .val (.int (1 : Int32)), .unset, .unset] [(.ref o4)])) _
          refine st14.trans ?_
          show Steps p.tables e below (T14.setTop (mkF m 113 #[.val (.int x'), .val (.int (x' &&& (7 : Int32))), .val (.ref o4), .val (.int (1 : Int32)), .unset, .unset] [(.int (3007 : Int32))])) _
          refine XS.istore X14.here hx rfl (hb hby at_113) rfl (l' := #[.val (.int x'), .val (.int (x' &&& (7 : Int32))), .val (.ref o4), .val (.int (1 : Int32)), .val (.int (3007 : Int32)), .unset]) rfl ?_
          show Steps p.tables e below (T14.setTop (mkF m 115 #[.val (.int x'), .val (.int (x' &&& (7 : Int32))), .val (.ref o4), .val (.int (1 : Int32)), .val (.int (3007 : Int32)), .unset] [])) _
          refine XS.iload X14.here hx rfl (hb hby at_115) rfl ?_
          show Steps p.tables e below (T14.setTop (mkF m 117 #[.val (.int x'), .val (.int (x' &&& (7 : Int32))), .val (.ref o4), .val (.int (1 : Int32)), .val (.int (3007 : Int32)), .unset] [(.int (3007 : Int32))])) _
          refine XS.sipush X14.here hx rfl (hb hby at_117) ?_
          show Steps p.tables e below (T14.setTop (mkF m 120 #[.val (.int x'), .val (.int (x' &&& (7 : Int32))), .val (.ref o4), .val (.int (1 : Int32)), .val (.int (3007 : Int32)), .unset] [(.int (3000 : Int32)), (.int (3007 : Int32))])) _
          refine XS.icmpNo X14.here hx rfl (hb hby at_120) rfl (flt (by decide : ¬ ((3007 : Int32) < (3000 : Int32)))).1 ?_
          show Steps p.tables e below (T14.setTop (mkF m 123 #[.val (.int x'), .val (.int (x' &&& (7 : Int32))), .val (.ref o4), .val (.int (1 : Int32)), .val (.int (3007 : Int32)), .unset] [])) _
          refine XS.iload X14.here hx rfl (hb hby at_123) rfl ?_
          show Steps p.tables e below (T14.setTop (mkF m 125 #[.val (.int x'), .val (.int (x' &&& (7 : Int32))), .val (.ref o4), .val (.int (1 : Int32)), .val (.int (3007 : Int32)), .unset] [(.int (3007 : Int32))])) _
          refine XS.sipush X14.here hx rfl (hb hby at_125) ?_
          show Steps p.tables e below (T14.setTop (mkF m 128 #[.val (.int x'), .val (.int (x' &&& (7 : Int32))), .val (.ref o4), .val (.int (1 : Int32)), .val (.int (3007 : Int32)), .unset] [(.int (3999 : Int32)), (.int (3007 : Int32))])) _
          refine XS.icmpNo X14.here hx rfl (hb hby at_128) rfl (flt (by decide : ¬ ((3999 : Int32) < (3007 : Int32)))).2.2.1 ?_
          show Steps p.tables e below (T14.setTop (mkF m 131 #[.val (.int x'), .val (.int (x' &&& (7 : Int32))), .val (.ref o4), .val (.int (1 : Int32)), .val (.int (3007 : Int32)), .unset] [])) _
          refine XS.iconst X14.here hx rfl (hb hby at_131) ?_
          show Steps p.tables e below (T14.setTop (mkF m 132 #[.val (.int x'), .val (.int (x' &&& (7 : Int32))), .val (.ref o4), .val (.int (1 : Int32)), .val (.int (3007 : Int32)), .unset] [(.int (1 : Int32))])) _
          refine XS.goto X14.here hx rfl (pc0 := 132) (pc' := 136) rfl (hb hby at_132) (by decide) (by decide) ?_
          show Steps p.tables e below (T14.setTop (mkF m 136 #[.val (.int x'), .val (.int (x' &&& (7 : Int32))), .val (.ref o4), .val (.int (1 : Int32)), .val (.int (3007 : Int32)), .unset] [(.int (1 : Int32))])) _
          refine XS.istore X14.here hx rfl (hb hby at_136) rfl (l' := #[.val (.int x'), .val (.int (x' &&& (7 : Int32))), .val (.ref o4), .val (.int (1 : Int32)), .val (.int (3007 : Int32)), .val (.int (1 : Int32))]) rfl ?_
          show Steps p.tables e below (T14.setTop (mkF m 138 #[.val (.int x'), .val (.int (x' &&& (7 : Int32))), .val (.ref o4), .val (.int (1 : Int32)), .val (.int (3007 : Int32)), .val (.int (1 : Int32))] [])) _
          refine XS.aloadN X14.here hx rfl (hb hby at_138) rfl rfl ?_
          show Steps p.tables e below (T14.setTop (mkF m 139 #[.val (.int x'), .val (.int (x' &&& (7 : Int32))), .val (.ref o4), .val (.int (1 : Int32)), .val (.int (3007 : Int32)), .val (.int (1 : Int32))] [(.ref o4)])) _
          refine st15.trans ?_
          show Steps p.tables e below (T15.setTop (mkF m 142 #[.val (.int x'), .val (.int (x' &&& (7 : Int32))), .val (.ref o4), .val (.int (1 : Int32)), .val (.int (3007 : Int32)), .val (.int (1 : Int32))] [(.int (own_pe (3007 : Int32)))])) _
          refine XS.iloadN X15.here hx rfl (hb hby at_142) rfl ?_
          show Steps p.tables e below (T15.setTop (mkF m 143 #[.val (.int x'), .val (.int (x' &&& (7 : Int32))), .val (.ref o4), .val (.int (1 : Int32)), .val (.int (3007 : Int32)), .val (.int (1 : Int32))] [(.int (1 : Int32)), (.int (own_pe (3007 : Int32)))])) _
          refine XS.icmpNo X15.here hx rfl (hb hby at_143) rfl (teq (by decide : (own_pe (3007 : Int32)) = (1 : Int32))).2 ?_
          show Steps p.tables e below (T15.setTop (mkF m 146 #[.val (.int x'), .val (.int (x' &&& (7 : Int32))), .val (.ref o4), .val (.int (1 : Int32)), .val (.int (3007 : Int32)), .val (.int (1 : Int32))] [])) _
          refine XS.iloadN X15.here hx rfl (hb hby at_146) rfl ?_
          show Steps p.tables e below (T15.setTop (mkF m 147 #[.val (.int x'), .val (.int (x' &&& (7 : Int32))), .val (.ref o4), .val (.int (1 : Int32)), .val (.int (3007 : Int32)), .val (.int (1 : Int32))] [(.int (1 : Int32))])) _
          refine XS.iload X15.here hx rfl (hb hby at_147) rfl ?_
          show Steps p.tables e below (T15.setTop (mkF m 149 #[.val (.int x'), .val (.int (x' &&& (7 : Int32))), .val (.ref o4), .val (.int (1 : Int32)), .val (.int (3007 : Int32)), .val (.int (1 : Int32))] [(.int (1 : Int32)), (.int (1 : Int32))])) _
          refine XS.icmpNo X15.here hx rfl (hb hby at_149) rfl (teq (by decide : (1 : Int32) = (1 : Int32))).2 ?_
          show Steps p.tables e below (T15.setTop (mkF m 152 #[.val (.int x'), .val (.int (x' &&& (7 : Int32))), .val (.ref o4), .val (.int (1 : Int32)), .val (.int (3007 : Int32)), .val (.int (1 : Int32))] [])) _
          refine XS.iconst X15.here hx rfl (hb hby at_152) ?_
          show Steps p.tables e below (T15.setTop (mkF m 153 #[.val (.int x'), .val (.int (x' &&& (7 : Int32))), .val (.ref o4), .val (.int (1 : Int32)), .val (.int (3007 : Int32)), .val (.int (1 : Int32))] [(.int (1 : Int32))])) _
          refine XS.goto X15.here hx rfl (pc0 := 153) (pc' := 157) rfl (hb hby at_153) (by decide) (by decide) ?_
          show Steps p.tables e below (T15.setTop (mkF m 157 #[.val (.int x'), .val (.int (x' &&& (7 : Int32))), .val (.ref o4), .val (.int (1 : Int32)), .val (.int (3007 : Int32)), .val (.int (1 : Int32))] [(.int (1 : Int32))])) _
          exact retN X15 hx (t := .boolean) Bd.returns (by simp) (hb hby at_157) hr
        · show Q0 Z x' o0 o1 o2 o3 o4 o5 o6 o7 h0 n0 _ T15.heap _
          rw [hh15]
          exact ⟨rfl, N15⟩
      · have pre16 : ∀ t, Steps p.tables e below (s₁.setTop (mkF m 48 #[.val (.int x'), .val (.int (x' &&& (7 : Int32))), .unset, .unset, .unset, .unset] [(.int (3 : Int32)), (.int (x' &&& (7 : Int32)))])) t → Steps p.tables e below (s₁.setTop (entryFrame m #[(.int x')] maxLocals)) t := by
          intro t kt
          refine pre11 t ?_
          show Steps p.tables e below (s₁.setTop (mkF m 34 #[.val (.int x'), .val (.int (x' &&& (7 : Int32))), .unset, .unset, .unset, .unset] [(.int (2 : Int32)), (.int (x' &&& (7 : Int32)))])) _
          refine XS.icmpYes X0.here hx rfl (pc0 := 34) (pc' := 46) rfl (hb hby at_34) rfl (feq hc34_12).2 (by decide) (by decide) ?_
          show Steps p.tables e below (s₁.setTop (mkF m 46 #[.val (.int x'), .val (.int (x' &&& (7 : Int32))), .unset, .unset, .unset, .unset] [])) _
          refine XS.iloadN X0.here hx rfl (hb hby at_46) rfl ?_
          show Steps p.tables e below (s₁.setTop (mkF m 47 #[.val (.int x'), .val (.int (x' &&& (7 : Int32))), .unset, .unset, .unset, .unset] [(.int (x' &&& (7 : Int32)))])) _
          refine XS.iconst X0.here hx rfl (hb hby at_47) ?_
          exact kt
        by_cases hc48_17 : (x' &&& (7 : Int32)) = (3 : Int32)
        · obtain ⟨T18, X18, e18, st18⟩ := getS2 X0 hx hZ hown (host := "") (Or.inl (hw _ (List.mem_of_getElem? (i := 15) rfl))) Via.refl e0 S_INVALID_AVP_VALUE (g := (mkF m 51 #[.val (.int x'), .val (.int (x' &&& (7 : Int32))), .unset, .unset, .unset, .unset] [])) rfl (hb hby at_51)
          obtain ⟨cq19, kq19, q19a, q19b, q19c⟩ := isOf hZ e18 E_o1
          obtain ⟨_, _, ⟨T19, L19, k19, n19⟩, -, X19, ⟨Lc19, hQ19, l19, y19, z19⟩, st19⟩ := X18.virtualBack hx (y := (⟨"com/example/overage/overage/diameter/ResultCode", "code", "()I"⟩ : MethodName)) (z := (⟨"com/example/overage/overage/diameter/ResultCode", "code", "()I"⟩ : MethodName)) hown (mvT hZ (hw _ (List.mem_of_getElem? (i := 3) rfl))) (mvT hZ (hw _ (List.mem_of_getElem? (i := 4) rfl))) (notFace_of_selects (args := #[]) (mvT hZ (hw _ (List.mem_of_getElem? (i := 6) rfl)))) (mvT hZ (hw _ (List.mem_of_getElem? (i := 6) rfl))) (mvT hZ (hw _ (List.mem_of_getElem? (i := 5) rfl))) (by decide) (backOf (W := 0) (rm1 l Z a0 hw [] o1 (5004 : Int32) h0 n0 Z0 F_code_o1) hZ (hw _ (List.mem_of_getElem? (i := 7) rfl)) (hw _ (List.mem_of_getElem? (i := 1) rfl)) (by decide) (by decide)) q19a q19c (g := (mkF m 110 #[.val (.int x'), .val (.int (x' &&& (7 : Int32))), .val (.ref o1), .val (.int (0 : Int32)), .unset, .unset] [(.ref o1)])) rfl (by rw [hml]; rfl) (Steps.refl _) (argsL := []) (rest := []) (lenOf pd0_0 rfl) rfl (by show 2 * 0 + _ ≤ _; exact Nat.le_of_eq rfl) (hb hby at_110) (fun _ _ => ⟨rfl, e18, (by decide : 0 + 0 ≤ _), (by decide : 0 + 0 ≤ _)⟩)
          dsimp only [Pt.U, Pt.locs, Pt.cells, Pt.slots] at X19 l19 y19 z19 st19 hQ19
          subst l19 y19 z19
          obtain ⟨rfl, N19q, hh19⟩ := hQ19
          have N19 := Fr.app N0 N19q
          obtain ⟨cq20, kq20, q20a, q20b, q20c⟩ := isOf hZ hh19 E_o1
          obtain ⟨_, _, ⟨T20, L20, k20, n20⟩, -, X20, ⟨Lc20, hQ20, l20, y20, z20⟩, st20⟩ := X19.virtualBack hx (y := (⟨"com/example/overage/overage/diameter/ResultCode", "isProtocolError", "()Z"⟩ : MethodName)) (z := (⟨"com/example/overage/overage/diameter/ResultCode", "isProtocolError", "()Z"⟩ : MethodName)) hown (mvT hZ (hw _ (List.mem_of_getElem? (i := 10) rfl))) (mvT hZ (hw _ (List.mem_of_getElem? (i := 11) rfl))) (notFace_of_selects (args := #[]) (mvT hZ (hw _ (List.mem_of_getElem? (i := 13) rfl)))) (mvT hZ (hw _ (List.mem_of_getElem? (i := 13) rfl))) (mvT hZ (hw _ (List.mem_of_getElem? (i := 12) rfl))) (by decide) (backOf (W := 0) (rm2 l Z a0 hw [] o1 (5004 : Int32) h0 n0 Z0 F_code_o1) hZ (hw _ (List.mem_of_getElem? (i := 14) rfl)) (hw _ (List.mem_of_getElem? (i := 1) rfl)) (by decide) (by decide)) q20a q20c (g := (mkF m 139 #[.val (.int x'), .val (.int (x' &&& (7 : Int32))), .val (.ref o1), .val (.int (0 : Int32)), .val (.int (5004 : Int32)), .val (.int (0 : Int32))] [(.ref o1)])) rfl (by rw [hml]; rfl) (Steps.refl _) (argsL := []) (rest := []) (lenOf pd0_1 rfl) rfl (by show 2 * 0 + _ ≤ _; exact Nat.le_of_eq rfl) (hb hby at_139) (fun _ _ => ⟨rfl, hh19, (by decide : 0 + 0 ≤ _), (by decide : 0 + 0 ≤ _)⟩)
          dsimp only [Pt.U, Pt.locs, Pt.cells, Pt.slots] at X20 l20 y20 z20 st20 hQ20
          subst l20 y20 z20
          obtain ⟨rfl, N20q, hh20⟩ := hQ20
          have N20 := Fr.app N19 N20q
          obtain ⟨fs, hr, hrun, hended, hW, hsame⟩ := X20.leave (v := some (.int (1 : Int32))) (fun h => by rw [Bd.returns] at h; cases h)
          refine ⟨_, _, pre16 _ ?_, hrun, hended, _, _, rfl, ?_, ⟨_, rfl⟩, hW, hsame.mono (by decide) (by decide)⟩
          · show Steps p.tables e below (s₁.setTop (mkF m 48 #[.val (.int x'), .val (.int (x' &&& (7 : Int32))), .unset, .unset, .unset, .unset] [(.int (3 : Int32)), (.int (x' &&& (7 : Int32)))])) _
            refine XS.icmpNo X0.here hx rfl (hb hby at_48) rfl (teq hc48_17).2 ?_
            show Steps p.tables e below (s₁.setTop (mkF m 51 #[.val (.int x'), .val (.int (x' &&& (7 : Int32))), .unset, .unset, .unset, .unset] [])) _
            refine st18 _ ?_
            show Steps p.tables e below (T18.setTop (mkF m 54 #[.val (.int x'), .val (.int (x' &&& (7 : Int32))), .unset, .unset, .unset, .unset] [(.ref o1)])) _
            refine XS.astoreN X18.here hx rfl (hb hby at_54) rfl rfl (l' := #[.val (.int x'), .val (.int (x' &&& (7 : Int32))), .val (.ref o1), .unset, .unset, .unset]) rfl ?_
            show Steps p.tables e below (T18.setTop (mkF m 55 #[.val (.int x'), .val (.int (x' &&& (7 : Int32))), .val (.ref o1), .unset, .unset, .unset] [])) _
            refine XS.iconst X18.here hx rfl (hb hby at_55) ?_
            show Steps p.tables e below (T18.setTop (mkF m 56 #[.val (.int x'), .val (.int (x' &&& (7 : Int32))), .val (.ref o1), .unset, .unset, .unset] [(.int (0 : Int32))])) _
            refine XS.istoreN X18.here hx rfl (hb hby at_56) rfl (l' := #[.val (.int x'), .val (.int (x' &&& (7 : Int32))), .val (.ref o1), .val (.int (0 : Int32)), .unset, .unset]) rfl ?_
            show Steps p.tables e below (T18.setTop (mkF m 57 #[.val (.int x'), .val (.int (x' &&& (7 : Int32))), .val (.ref o1), .val (.int (0 : Int32)), .unset, .unset] [])) _
            refine XS.goto X18.here hx rfl (pc0 := 57) (pc' := 109) rfl (hb hby at_57) (by decide) (by decide) ?_
            show Steps p.tables e below (T18.setTop (mkF m 109 #[.val (.int x'), .val (.int (x' &&& (7 : Int32))), .val (.ref o1), .val (.int (0 : Int32)), .unset, .unset] [])) _
            refine XS.aloadN X18.here hx rfl (hb hby at_109) rfl rfl ?_
            show Steps p.tables e below (T18.setTop (mkF m 110 #[.val (.int x'), .val (.int (x' &&& (7 : Int32))), .val (.ref o1), .val (.int (0 : Int32)), .unset, .unset] [(.ref o1)])) _
            refine st19.trans ?_
            show Steps p.tables e below (T19.setTop (mkF m 113 #[.val (.int x'), .val (.int (x' &&& (7 : Int32))), .val (.ref o1), .val (.int (0 : Int32)), .unset, .unset] [(.int (5004 : Int32))])) _
            refine XS.istore X19.here hx rfl (hb hby at_113) rfl (l' := #[.val (.int x'), .val (.int (x' &&& (7 : Int32))), .val (.ref o1), .val (.int (0 : Int32)), .val (.int (5004 : Int32)), .unset]) rfl ?_
            show Steps p.tables e below (T19.setTop (mkF m 115 #[.val (.int x'), .val (.int (x' &&& (7 : Int32))), .val (.ref o1), .val (.int (0 : Int32)), .val (.int (5004 : Int32)), .unset] [])) _
            refine XS.iload X19.here hx rfl (hb hby at_115) rfl ?_
            show Steps p.tables e below (T19.setTop (mkF m 117 #[.val (.int x'), .val (.int (x' &&& (7 : Int32))), .val (.ref o1), .val (.int (0 : Int32)), .val (.int (5004 : Int32)), .unset] [(.int (5004 : Int32))])) _
            refine XS.sipush X19.here hx rfl (hb hby at_117) ?_
            show Steps p.tables e below (T19.setTop (mkF m 120 #[.val (.int x'), .val (.int (x' &&& (7 : Int32))), .val (.ref o1), .val (.int (0 : Int32)), .val (.int (5004 : Int32)), .unset] [(.int (3000 : Int32)), (.int (5004 : Int32))])) _
            refine XS.icmpNo X19.here hx rfl (hb hby at_120) rfl (flt (by decide : ¬ ((5004 : Int32) < (3000 : Int32)))).1 ?_
            show Steps p.tables e below (T19.setTop (mkF m 123 #[.val (.int x'), .val (.int (x' &&& (7 : Int32))), .val (.ref o1), .val (.int (0 : Int32)), .val (.int (5004 : Int32)), .unset] [])) _
            refine XS.iload X19.here hx rfl (hb hby at_123) rfl ?_
            show Steps p.tables e below (T19.setTop (mkF m 125 #[.val (.int x'), .val (.int (x' &&& (7 : Int32))), .val (.ref o1), .val (.int (0 : Int32)), .val (.int (5004 : Int32)), .unset] [(.int (5004 : Int32))])) _
            refine XS.sipush X19.here hx rfl (hb hby at_125) ?_
            show Steps p.tables e below (T19.setTop (mkF m 128 #[.val (.int x'), .val (.int (x' &&& (7 : Int32))), .val (.ref o1), .val (.int (0 : Int32)), .val (.int (5004 : Int32)), .unset] [(.int (3999 : Int32)), (.int (5004 : Int32))])) _
            refine XS.icmpYes X19.here hx rfl (pc0 := 128) (pc' := 135) rfl (hb hby at_128) rfl (tlt (by decide : (3999 : Int32) < (5004 : Int32))).2.2.1 (by decide) (by decide) ?_
            show Steps p.tables e below (T19.setTop (mkF m 135 #[.val (.int x'), .val (.int (x' &&& (7 : Int32))), .val (.ref o1), .val (.int (0 : Int32)), .val (.int (5004 : Int32)), .unset] [])) _
            refine XS.iconst X19.here hx rfl (hb hby at_135) ?_
            show Steps p.tables e below (T19.setTop (mkF m 136 #[.val (.int x'), .val (.int (x' &&& (7 : Int32))), .val (.ref o1), .val (.int (0 : Int32)), .val (.int (5004 : Int32)), .unset] [(.int (0 : Int32))])) _
            refine XS.istore X19.here hx rfl (hb hby at_136) rfl (l' := #[.val (.int x'), .val (.int (x' &&& (7 : Int32))), .val (.ref o1), .val (.int (0 : Int32)), .val (.int (5004 : Int32)), .val (.int (0 : Int32))]) rfl ?_
            show Steps p.tables e below (T19.setTop (mkF m 138 #[.val (.int x'), .val (.int (x' &&& (7 : Int32))), .val (.ref o1), .val (.int (0 : Int32)), .val (.int (5004 : Int32)), .val (.int (0 : Int32))] [])) _
            refine XS.aloadN X19.here hx rfl (hb hby at_138) rfl rfl ?_
            show Steps p.tables e below (T19.setTop (mkF m 139 #[.val (.int x'), .val (.int (x' &&& (7 : Int32))), .val (.ref o1), .val (.int (0 : Int32)), .val (.int (5004 : Int32)), .val (.int (0 : Int32))] [(.ref o1)])) _
            refine st20.trans ?_
            show Steps p.tables e below (T20.setTop (mkF m 142 #[.val (.int x'), .val (.int (x' &&& (7 : Int32))), .val (.ref o1), .val (.int (0 : Int32)), .val (.int (5004 : Int32)), .val (.int (0 : Int32))] [(.int (own_pe (5004 : Int32)))])) _
            refine XS.iloadN X20.here hx rfl (hb hby at_142) rfl ?_
            show Steps p.tables e below (T20.setTop (mkF m 143 #[.val (.int x'), .val (.int (x' &&& (7 : Int32))), .val (.ref o1), .val (.int (0 : Int32)), .val (.int (5004 : Int32)), .val (.int (0 : Int32))] [(.int (0 : Int32)), (.int (own_pe (5004 : Int32)))])) _
            refine XS.icmpNo X20.here hx rfl (hb hby at_143) rfl (teq (by decide : (own_pe (5004 : Int32)) = (0 : Int32))).2 ?_
            show Steps p.tables e below (T20.setTop (mkF m 146 #[.val (.int x'), .val (.int (x' &&& (7 : Int32))), .val (.ref o1), .val (.int (0 : Int32)), .val (.int (5004 : Int32)), .val (.int (0 : Int32))] [])) _
            refine XS.iloadN X20.here hx rfl (hb hby at_146) rfl ?_
            show Steps p.tables e below (T20.setTop (mkF m 147 #[.val (.int x'), .val (.int (x' &&& (7 : Int32))), .val (.ref o1), .val (.int (0 : Int32)), .val (.int (5004 : Int32)), .val (.int (0 : Int32))] [(.int (0 : Int32))])) _
            refine XS.iload X20.here hx rfl (hb hby at_147) rfl ?_
            show Steps p.tables e below (T20.setTop (mkF m 149 #[.val (.int x'), .val (.int (x' &&& (7 : Int32))), .val (.ref o1), .val (.int (0 : Int32)), .val (.int (5004 : Int32)), .val (.int (0 : Int32))] [(.int (0 : Int32)), (.int (0 : Int32))])) _
            refine XS.icmpNo X20.here hx rfl (hb hby at_149) rfl (teq (by decide : (0 : Int32) = (0 : Int32))).2 ?_
            show Steps p.tables e below (T20.setTop (mkF m 152 #[.val (.int x'), .val (.int (x' &&& (7 : Int32))), .val (.ref o1), .val (.int (0 : Int32)), .val (.int (5004 : Int32)), .val (.int (0 : Int32))] [])) _
            refine XS.iconst X20.here hx rfl (hb hby at_152) ?_
            show Steps p.tables e below (T20.setTop (mkF m 153 #[.val (.int x'), .val (.int (x' &&& (7 : Int32))), .val (.ref o1), .val (.int (0 : Int32)), .val (.int (5004 : Int32)), .val (.int (0 : Int32))] [(.int (1 : Int32))])) _
            refine XS.goto X20.here hx rfl (pc0 := 153) (pc' := 157) rfl (hb hby at_153) (by decide) (by decide) ?_
            show Steps p.tables e below (T20.setTop (mkF m 157 #[.val (.int x'), .val (.int (x' &&& (7 : Int32))), .val (.ref o1), .val (.int (0 : Int32)), .val (.int (5004 : Int32)), .val (.int (0 : Int32))] [(.int (1 : Int32))])) _
            exact retN X20 hx (t := .boolean) Bd.returns (by simp) (hb hby at_157) hr
          · show Q0 Z x' o0 o1 o2 o3 o4 o5 o6 o7 h0 n0 _ T20.heap _
            rw [hh20]
            exact ⟨rfl, N20⟩
        · have pre21 : ∀ t, Steps p.tables e below (s₁.setTop (mkF m 62 #[.val (.int x'), .val (.int (x' &&& (7 : Int32))), .unset, .unset, .unset, .unset] [(.int (4 : Int32)), (.int (x' &&& (7 : Int32)))])) t → Steps p.tables e below (s₁.setTop (entryFrame m #[(.int x')] maxLocals)) t := by
            intro t kt
            refine pre16 t ?_
            show Steps p.tables e below (s₁.setTop (mkF m 48 #[.val (.int x'), .val (.int (x' &&& (7 : Int32))), .unset, .unset, .unset, .unset] [(.int (3 : Int32)), (.int (x' &&& (7 : Int32)))])) _
            refine XS.icmpYes X0.here hx rfl (pc0 := 48) (pc' := 60) rfl (hb hby at_48) rfl (feq hc48_17).2 (by decide) (by decide) ?_
            show Steps p.tables e below (s₁.setTop (mkF m 60 #[.val (.int x'), .val (.int (x' &&& (7 : Int32))), .unset, .unset, .unset, .unset] [])) _
            refine XS.iloadN X0.here hx rfl (hb hby at_60) rfl ?_
            show Steps p.tables e below (s₁.setTop (mkF m 61 #[.val (.int x'), .val (.int (x' &&& (7 : Int32))), .unset, .unset, .unset, .unset] [(.int (x' &&& (7 : Int32)))])) _
            refine XS.iconst X0.here hx rfl (hb hby at_61) ?_
            exact kt
          by_cases hc62_22 : (x' &&& (7 : Int32)) = (4 : Int32)
          · obtain ⟨T23, X23, e23, st23⟩ := getS2 X0 hx hZ hown (host := "") (Or.inl (hw _ (List.mem_of_getElem? (i := 25) rfl))) Via.refl e0 S_MISSING_AVP (g := (mkF m 65 #[.val (.int x'), .val (.int (x' &&& (7 : Int32))), .unset, .unset, .unset, .unset] [])) rfl (hb hby at_65)
            obtain ⟨cq24, kq24, q24a, q24b, q24c⟩ := isOf hZ e23 E_o6
            obtain ⟨_, _, ⟨T24, L24, k24, n24⟩, -, X24, ⟨Lc24, hQ24, l24, y24, z24⟩, st24⟩ := X23.virtualBack hx (y := (⟨"com/example/overage/overage/diameter/ResultCode", "code", "()I"⟩ : MethodName)) (z := (⟨"com/example/overage/overage/diameter/ResultCode", "code", "()I"⟩ : MethodName)) hown (mvT hZ (hw _ (List.mem_of_getElem? (i := 3) rfl))) (mvT hZ (hw _ (List.mem_of_getElem? (i := 4) rfl))) (notFace_of_selects (args := #[]) (mvT hZ (hw _ (List.mem_of_getElem? (i := 6) rfl)))) (mvT hZ (hw _ (List.mem_of_getElem? (i := 6) rfl))) (mvT hZ (hw _ (List.mem_of_getElem? (i := 5) rfl))) (by decide) (backOf (W := 0) (rm1 l Z a0 hw [] o6 (5005 : Int32) h0 n0 Z0 F_code_o6) hZ (hw _ (List.mem_of_getElem? (i := 7) rfl)) (hw _ (List.mem_of_getElem? (i := 1) rfl)) (by decide) (by decide)) q24a q24c (g := (mkF m 110 #[.val (.int x'), .val (.int (x' &&& (7 : Int32))), .val (.ref o6), .val (.int (0 : Int32)), .unset, .unset] [(.ref o6)])) rfl (by rw [hml]; rfl) (Steps.refl _) (argsL := []) (rest := []) (lenOf pd0_0 rfl) rfl (by show 2 * 0 + _ ≤ _; exact Nat.le_of_eq rfl) (hb hby at_110) (fun _ _ => ⟨rfl, e23, (by decide : 0 + 0 ≤ _), (by decide : 0 + 0 ≤ _)⟩)
            dsimp only [Pt.U, Pt.locs, Pt.cells, Pt.slots] at X24 l24 y24 z24 st24 hQ24
            subst l24 y24 z24
            obtain ⟨rfl, N24q, hh24⟩ := hQ24
            have N24 := Fr.app N0 N24q
            obtain ⟨cq25, kq25, q25a, q25b, q25c⟩ := isOf hZ hh24 E_o6
            obtain ⟨_, _, ⟨T25, L25, k25, n25⟩, -, X25, ⟨Lc25, hQ25, l25, y25, z25⟩, st25⟩ := X24.virtualBack hx (y := (⟨"com/example/overage/overage/diameter/ResultCode", "isProtocolError", "()Z"⟩ : MethodName)) (z := (⟨"com/example/overage/overage/diameter/ResultCode", "isProtocolError", "()Z"⟩ : MethodName)) hown (mvT hZ (hw _ (List.mem_of_getElem? (i := 10) rfl))) (mvT hZ (hw _ (List.mem_of_getElem? (i := 11) rfl))) (notFace_of_selects (args := #[]) (mvT hZ (hw _ (List.mem_of_getElem? (i := 13) rfl)))) (mvT hZ (hw _ (List.mem_of_getElem? (i := 13) rfl))) (mvT hZ (hw _ (List.mem_of_getElem? (i := 12) rfl))) (by decide) (backOf (W := 0) (rm2 l Z a0 hw [] o6 (5005 : Int32) h0 n0 Z0 F_code_o6) hZ (hw _ (List.mem_of_getElem? (i := 14) rfl)) (hw _ (List.mem_of_getElem? (i := 1) rfl)) (by decide) (by decide)) q25a q25c (g := (mkF m 139 #[.val (.int x'), .val (.int (x' &&& (7 : Int32))), .val (.ref o6), .val (.int (0 : Int32)), .val (.int (5005 : Int32)), .val (.int (0 : Int32))] [(.ref o6)])) rfl (by rw [hml]; rfl) (Steps.refl _) (argsL := []) (rest := []) (lenOf pd0_1 rfl) rfl (by show 2 * 0 + _ ≤ _; exact Nat.le_of_eq rfl) (hb hby at_139) (fun _ _ => ⟨rfl, hh24, (by decide : 0 + 0 ≤ _), (by decide : 0 + 0 ≤ _)⟩)
            dsimp only [Pt.U, Pt.locs, Pt.cells, Pt.slots] at X25 l25 y25 z25 st25 hQ25
            subst l25 y25 z25
            obtain ⟨rfl, N25q, hh25⟩ := hQ25
            have N25 := Fr.app N24 N25q
            obtain ⟨fs, hr, hrun, hended, hW, hsame⟩ := X25.leave (v := some (.int (1 : Int32))) (fun h => by rw [Bd.returns] at h; cases h)
            refine ⟨_, _, pre21 _ ?_, hrun, hended, _, _, rfl, ?_, ⟨_, rfl⟩, hW, hsame.mono (by decide) (by decide)⟩
            · show Steps p.tables e below (s₁.setTop (mkF m 62 #[.val (.int x'), .val (.int (x' &&& (7 : Int32))), .unset, .unset, .unset, .unset] [(.int (4 : Int32)), (.int (x' &&& (7 : Int32)))])) _
              refine XS.icmpNo X0.here hx rfl (hb hby at_62) rfl (teq hc62_22).2 ?_
              show Steps p.tables e below (s₁.setTop (mkF m 65 #[.val (.int x'), .val (.int (x' &&& (7 : Int32))), .unset, .unset, .unset, .unset] [])) _
              refine st23 _ ?_
              show Steps p.tables e below (T23.setTop (mkF m 68 #[.val (.int x'), .val (.int (x' &&& (7 : Int32))), .unset, .unset, .unset, .unset] [(.ref o6)])) _
              refine XS.astoreN X23.here hx rfl (hb hby at_68) rfl rfl (l' := #[.val (.int x'), .val (.int (x' &&& (7 : Int32))), .val (.ref o6), .unset, .unset, .unset]) rfl ?_
              show Steps p.tables e below (T23.setTop (mkF m 69 #[.val (.int x'), .val (.int (x' &&& (7 : Int32))), .val (.ref o6), .unset, .unset, .unset] [])) _
              refine XS.iconst X23.here hx rfl (hb hby at_69) ?_
              show Steps p.tables e below (T23.setTop (mkF m 70 #[.val (.int x'), .val (.int (x' &&& (7 : Int32))), .val (.ref o6), .unset, .unset, .unset] [(.int (0 : Int32))])) _
              refine XS.istoreN X23.here hx rfl (hb hby at_70) rfl (l' := #[.val (.int x'), .val (.int (x' &&& (7 : Int32))), .val (.ref o6), .val (.int (0 : Int32)), .unset, .unset]) rfl ?_
              show Steps p.tables e below (T23.setTop (mkF m 71 #[.val (.int x'), .val (.int (x' &&& (7 : Int32))), .val (.ref o6), .val (.int (0 : Int32)), .unset, .unset] [])) _
              refine XS.goto X23.here hx rfl (pc0 := 71) (pc' := 109) rfl (hb hby at_71) (by decide) (by decide) ?_
              show Steps p.tables e below (T23.setTop (mkF m 109 #[.val (.int x'), .val (.int (x' &&& (7 : Int32))), .val (.ref o6), .val (.int (0 : Int32)), .unset, .unset] [])) _
              refine XS.aloadN X23.here hx rfl (hb hby at_109) rfl rfl ?_
              show Steps p.tables e below (T23.setTop (mkF m 110 #[.val (.int x'), .val (.int (x' &&& (7 : Int32))), .val (.ref o6), .val (.int (0 : Int32)), .unset, .unset] [(.ref o6)])) _
              refine st24.trans ?_
              show Steps p.tables e below (T24.setTop (mkF m 113 #[.val (.int x'), .val (.int (x' &&& (7 : Int32))), .val (.ref o6), .val (.int (0 : Int32)), .unset, .unset] [(.int (5005 : Int32))])) _
              refine XS.istore X24.here hx rfl (hb hby at_113) rfl (l' := #[.val (.int x'), .val (.int (x' &&& (7 : Int32))), .val (.ref o6), .val (.int (0 : Int32)), .val (.int (5005 : Int32)), .unset]) rfl ?_
              show Steps p.tables e below (T24.setTop (mkF m 115 #[.val (.int x'), .val (.int (x' &&& (7 : Int32))), .val (.ref o6), .val (.int (0 : Int32)), .val (.int (5005 : Int32)), .unset] [])) _
              refine XS.iload X24.here hx rfl (hb hby at_115) rfl ?_
              show Steps p.tables e below (T24.setTop (mkF m 117 #[.val (.int x'), .val (.int (x' &&& (7 : Int32))), .val (.ref o6), .val (.int (0 : Int32)), .val (.int (5005 : Int32)), .unset] [(.int (5005 : Int32))])) _
              refine XS.sipush X24.here hx rfl (hb hby at_117) ?_
              show Steps p.tables e below (T24.setTop (mkF m 120 #[.val (.int x'), .val (.int (x' &&& (7 : Int32))), .val (.ref o6), .val (.int (0 : Int32)), .val (.int (5005 : Int32)), .unset] [(.int (3000 : Int32)), (.int (5005 : Int32))])) _
              refine XS.icmpNo X24.here hx rfl (hb hby at_120) rfl (flt (by decide : ¬ ((5005 : Int32) < (3000 : Int32)))).1 ?_
              show Steps p.tables e below (T24.setTop (mkF m 123 #[.val (.int x'), .val (.int (x' &&& (7 : Int32))), .val (.ref o6), .val (.int (0 : Int32)), .val (.int (5005 : Int32)), .unset] [])) _
              refine XS.iload X24.here hx rfl (hb hby at_123) rfl ?_
              show Steps p.tables e below (T24.setTop (mkF m 125 #[.val (.int x'), .val (.int (x' &&& (7 : Int32))), .val (.ref o6), .val (.int (0 : Int32)), .val (.int (5005 : Int32)), .unset] [(.int (5005 : Int32))])) _
              refine XS.sipush X24.here hx rfl (hb hby at_125) ?_
              show Steps p.tables e below (T24.setTop (mkF m 128 #[.val (.int x'), .val (.int (x' &&& (7 : Int32))), .val (.ref o6), .val (.int (0 : Int32)), .val (.int (5005 : Int32)), .unset] [(.int (3999 : Int32)), (.int (5005 : Int32))])) _
              refine XS.icmpYes X24.here hx rfl (pc0 := 128) (pc' := 135) rfl (hb hby at_128) rfl (tlt (by decide : (3999 : Int32) < (5005 : Int32))).2.2.1 (by decide) (by decide) ?_
              show Steps p.tables e below (T24.setTop (mkF m 135 #[.val (.int x'), .val (.int (x' &&& (7 : Int32))), .val (.ref o6), .val (.int (0 : Int32)), .val (.int (5005 : Int32)), .unset] [])) _
              refine XS.iconst X24.here hx rfl (hb hby at_135) ?_
              show Steps p.tables e below (T24.setTop (mkF m 136 #[.val (.int x'), .val (.int (x' &&& (7 : Int32))), .val (.ref o6), .val (.int (0 : Int32)), .val (.int (5005 : Int32)), .unset] [(.int (0 : Int32))])) _
              refine XS.istore X24.here hx rfl (hb hby at_136) rfl (l' := #[.val (.int x'), .val (.int (x' &&& (7 : Int32))), .val (.ref o6), .val (.int (0 : Int32)), .val (.int (5005 : Int32)), .val (.int (0 : Int32))]) rfl ?_
              show Steps p.tables e below (T24.setTop (mkF m 138 #[.val (.int x'), .val (.int (x' &&& (7 : Int32))), .val (.ref o6), .val (.int (0 : Int32)), .val (.int (5005 : Int32)), .val (.int (0 : Int32))] [])) _
              refine XS.aloadN X24.here hx rfl (hb hby at_138) rfl rfl ?_
              show Steps p.tables e below (T24.setTop (mkF m 139 #[.val (.int x'), .val (.int (x' &&& (7 : Int32))), .val (.ref o6), .val (.int (0 : Int32)), .val (.int (5005 : Int32)), .val (.int (0 : Int32))] [(.ref o6)])) _
              refine st25.trans ?_
              show Steps p.tables e below (T25.setTop (mkF m 142 #[.val (.int x'), .val (.int (x' &&& (7 : Int32))), .val (.ref o6), .val (.int (0 : Int32)), .val (.int (5005 : Int32)), .val (.int (0 : Int32))] [(.int (own_pe (5005 : Int32)))])) _
              refine XS.iloadN X25.here hx rfl (hb hby at_142) rfl ?_
              show Steps p.tables e below (T25.setTop (mkF m 143 #[.val (.int x'), .val (.int (x' &&& (7 : Int32))), .val (.ref o6), .val (.int (0 : Int32)), .val (.int (5005 : Int32)), .val (.int (0 : Int32))] [(.int (0 : Int32)), (.int (own_pe (5005 : Int32)))])) _
              refine XS.icmpNo X25.here hx rfl (hb hby at_143) rfl (teq (by decide : (own_pe (5005 : Int32)) = (0 : Int32))).2 ?_
              show Steps p.tables e below (T25.setTop (mkF m 146 #[.val (.int x'), .val (.int (x' &&& (7 : Int32))), .val (.ref o6), .val (.int (0 : Int32)), .val (.int (5005 : Int32)), .val (.int (0 : Int32))] [])) _
              refine XS.iloadN X25.here hx rfl (hb hby at_146) rfl ?_
              show Steps p.tables e below (T25.setTop (mkF m 147 #[.val (.int x'), .val (.int (x' &&& (7 : Int32))), .val (.ref o6), .val (.int (0 : Int32)), .val (.int (5005 : Int32)), .val (.int (0 : Int32))] [(.int (0 : Int32))])) _
              refine XS.iload X25.here hx rfl (hb hby at_147) rfl ?_
              show Steps p.tables e below (T25.setTop (mkF m 149 #[.val (.int x'), .val (.int (x' &&& (7 : Int32))), .val (.ref o6), .val (.int (0 : Int32)), .val (.int (5005 : Int32)), .val (.int (0 : Int32))] [(.int (0 : Int32)), (.int (0 : Int32))])) _
              refine XS.icmpNo X25.here hx rfl (hb hby at_149) rfl (teq (by decide : (0 : Int32) = (0 : Int32))).2 ?_
              show Steps p.tables e below (T25.setTop (mkF m 152 #[.val (.int x'), .val (.int (x' &&& (7 : Int32))), .val (.ref o6), .val (.int (0 : Int32)), .val (.int (5005 : Int32)), .val (.int (0 : Int32))] [])) _
              refine XS.iconst X25.here hx rfl (hb hby at_152) ?_
              show Steps p.tables e below (T25.setTop (mkF m 153 #[.val (.int x'), .val (.int (x' &&& (7 : Int32))), .val (.ref o6), .val (.int (0 : Int32)), .val (.int (5005 : Int32)), .val (.int (0 : Int32))] [(.int (1 : Int32))])) _
              refine XS.goto X25.here hx rfl (pc0 := 153) (pc' := 157) rfl (hb hby at_153) (by decide) (by decide) ?_
              show Steps p.tables e below (T25.setTop (mkF m 157 #[.val (.int x'), .val (.int (x' &&& (7 : Int32))), .val (.ref o6), .val (.int (0 : Int32)), .val (.int (5005 : Int32)), .val (.int (0 : Int32))] [(.int (1 : Int32))])) _
              exact retN X25 hx (t := .boolean) Bd.returns (by simp) (hb hby at_157) hr
            · show Q0 Z x' o0 o1 o2 o3 o4 o5 o6 o7 h0 n0 _ T25.heap _
              rw [hh25]
              exact ⟨rfl, N25⟩
          · have pre26 : ∀ t, Steps p.tables e below (s₁.setTop (mkF m 76 #[.val (.int x'), .val (.int (x' &&& (7 : Int32))), .unset, .unset, .unset, .unset] [(.int (5 : Int32)), (.int (x' &&& (7 : Int32)))])) t → Steps p.tables e below (s₁.setTop (entryFrame m #[(.int x')] maxLocals)) t := by
              intro t kt
              refine pre21 t ?_
              show Steps p.tables e below (s₁.setTop (mkF m 62 #[.val (.int x'), .val (.int (x' &&& (7 : Int32))), .unset, .unset, .unset, .unset] [(.int (4 : Int32)), (.int (x' &&& (7 : Int32)))])) _
              refine XS.icmpYes X0.here hx rfl (pc0 := 62) (pc' := 74) rfl (hb hby at_62) rfl (feq hc62_22).2 (by decide) (by decide) ?_
              show Steps p.tables e below (s₁.setTop (mkF m 74 #[.val (.int x'), .val (.int (x' &&& (7 : Int32))), .unset, .unset, .unset, .unset] [])) _
              refine XS.iloadN X0.here hx rfl (hb hby at_74) rfl ?_
              show Steps p.tables e below (s₁.setTop (mkF m 75 #[.val (.int x'), .val (.int (x' &&& (7 : Int32))), .unset, .unset, .unset, .unset] [(.int (x' &&& (7 : Int32)))])) _
              refine XS.iconst X0.here hx rfl (hb hby at_75) ?_
              exact kt
            by_cases hc76_27 : (x' &&& (7 : Int32)) = (5 : Int32)
            · obtain ⟨T28, X28, e28, st28⟩ := getS2 X0 hx hZ hown (host := "") (Or.inl (hw _ (List.mem_of_getElem? (i := 27) rfl))) Via.refl e0 S_NO_COMMON_APPLICATION (g := (mkF m 79 #[.val (.int x'), .val (.int (x' &&& (7 : Int32))), .unset, .unset, .unset, .unset] [])) rfl (hb hby at_79)
              obtain ⟨cq29, kq29, q29a, q29b, q29c⟩ := isOf hZ e28 E_o7
              obtain ⟨_, _, ⟨T29, L29, k29, n29⟩, -, X29, ⟨Lc29, hQ29, l29, y29, z29⟩, st29⟩ := X28.virtualBack hx (y := (⟨"com/example/overage/overage/diameter/ResultCode", "code", "()I"⟩ : MethodName)) (z := (⟨"com/example/overage/overage/diameter/ResultCode", "code", "()I"⟩ : MethodName)) hown (mvT hZ (hw _ (List.mem_of_getElem? (i := 3) rfl))) (mvT hZ (hw _ (List.mem_of_getElem? (i := 4) rfl))) (notFace_of_selects (args := #[]) (mvT hZ (hw _ (List.mem_of_getElem? (i := 6) rfl)))) (mvT hZ (hw _ (List.mem_of_getElem? (i := 6) rfl))) (mvT hZ (hw _ (List.mem_of_getElem? (i := 5) rfl))) (by decide) (backOf (W := 0) (rm1 l Z a0 hw [] o7 (5010 : Int32) h0 n0 Z0 F_code_o7) hZ (hw _ (List.mem_of_getElem? (i := 7) rfl)) (hw _ (List.mem_of_getElem? (i := 1) rfl)) (by decide) (by decide)) q29a q29c (g := (mkF m 110 #[.val (.int x'), .val (.int (x' &&& (7 : Int32))), .val (.ref o7), .val (.int (0 : Int32)), .unset, .unset] [(.ref o7)])) rfl (by rw [hml]; rfl) (Steps.refl _) (argsL := []) (rest := []) (lenOf pd0_0 rfl) rfl (by show 2 * 0 + _ ≤ _; exact Nat.le_of_eq rfl) (hb hby at_110) (fun _ _ => ⟨rfl, e28, (by decide : 0 + 0 ≤ _), (by decide : 0 + 0 ≤ _)⟩)
              dsimp only [Pt.U, Pt.locs, Pt.cells, Pt.slots] at X29 l29 y29 z29 st29 hQ29
              subst l29 y29 z29
              obtain ⟨rfl, N29q, hh29⟩ := hQ29
              have N29 := Fr.app N0 N29q
              obtain ⟨cq30, kq30, q30a, q30b, q30c⟩ := isOf hZ hh29 E_o7
              obtain ⟨_, _, ⟨T30, L30, k30, n30⟩, -, X30, ⟨Lc30, hQ30, l30, y30, z30⟩, st30⟩ := X29.virtualBack hx (y := (⟨"com/example/overage/overage/diameter/ResultCode", "isProtocolError", "()Z"⟩ : MethodName)) (z := (⟨"com/example/overage/overage/diameter/ResultCode", "isProtocolError", "()Z"⟩ : MethodName)) hown (mvT hZ (hw _ (List.mem_of_getElem? (i := 10) rfl))) (mvT hZ (hw _ (List.mem_of_getElem? (i := 11) rfl))) (notFace_of_selects (args := #[]) (mvT hZ (hw _ (List.mem_of_getElem? (i := 13) rfl)))) (mvT hZ (hw _ (List.mem_of_getElem? (i := 13) rfl))) (mvT hZ (hw _ (List.mem_of_getElem? (i := 12) rfl))) (by decide) (backOf (W := 0) (rm2 l Z a0 hw [] o7 (5010 : Int32) h0 n0 Z0 F_code_o7) hZ (hw _ (List.mem_of_getElem? (i := 14) rfl)) (hw _ (List.mem_of_getElem? (i := 1) rfl)) (by decide) (by decide)) q30a q30c (g := (mkF m 139 #[.val (.int x'), .val (.int (x' &&& (7 : Int32))), .val (.ref o7), .val (.int (0 : Int32)), .val (.int (5010 : Int32)), .val (.int (0 : Int32))] [(.ref o7)])) rfl (by rw [hml]; rfl) (Steps.refl _) (argsL := []) (rest := []) (lenOf pd0_1 rfl) rfl (by show 2 * 0 + _ ≤ _; exact Nat.le_of_eq rfl) (hb hby at_139) (fun _ _ => ⟨rfl, hh29, (by decide : 0 + 0 ≤ _), (by decide : 0 + 0 ≤ _)⟩)
              dsimp only [Pt.U, Pt.locs, Pt.cells, Pt.slots] at X30 l30 y30 z30 st30 hQ30
              subst l30 y30 z30
              obtain ⟨rfl, N30q, hh30⟩ := hQ30
              have N30 := Fr.app N29 N30q
              obtain ⟨fs, hr, hrun, hended, hW, hsame⟩ := X30.leave (v := some (.int (1 : Int32))) (fun h => by rw [Bd.returns] at h; cases h)
              refine ⟨_, _, pre26 _ ?_, hrun, hended, _, _, rfl, ?_, ⟨_, rfl⟩, hW, hsame.mono (by decide) (by decide)⟩
              · show Steps p.tables e below (s₁.setTop (mkF m 76 #[.val (.int x'), .val (.int (x' &&& (7 : Int32))), .unset, .unset, .unset, .unset] [(.int (5 : Int32)), (.int (x' &&& (7 : Int32)))])) _
                refine XS.icmpNo X0.here hx rfl (hb hby at_76) rfl (teq hc76_27).2 ?_
                show Steps p.tables e below (s₁.setTop (mkF m 79 #[.val (.int x'), .val (.int (x' &&& (7 : Int32))), .unset, .unset, .unset, .unset] [])) _
                refine st28 _ ?_
                show Steps p.tables e below (T28.setTop (mkF m 82 #[.val (.int x'), .val (.int (x' &&& (7 : Int32))), .unset, .unset, .unset, .unset] [(.ref o7)])) _
                refine XS.astoreN X28.here hx rfl (hb hby at_82) rfl rfl (l' := #[.val (.int x'), .val (.int (x' &&& (7 : Int32))), .val (.ref o7), .unset, .unset, .unset]) rfl ?_
                show Steps p.tables e below (T28.setTop (mkF m 83 #[.val (.int x'), .val (.int (x' &&& (7 : Int32))), .val (.ref o7), .unset, .unset, .unset] [])) _
                refine XS.iconst X28.here hx rfl (hb hby at_83) ?_
                show Steps p.tables e below (T28.setTop (mkF m 84 #[.val (.int x'), .val (.int (x' &&& (7 : Int32))), .val (.ref o7), .unset, .unset, .unset] [(.int (0 : Int32))])) _
                refine XS.istoreN X28.here hx rfl (hb hby at_84) rfl (l' := #[.val (.int x'), .val (.int (x' &&& (7 : Int32))), .val (.ref o7), .val (.int (0 : Int32)), .unset, .unset]) rfl ?_
                show Steps p.tables e below (T28.setTop (mkF m 85 #[.val (.int x'), .val (.int (x' &&& (7 : Int32))), .val (.ref o7), .val (.int (0 : Int32)), .unset, .unset] [])) _
                refine XS.goto X28.here hx rfl (pc0 := 85) (pc' := 109) rfl (hb hby at_85) (by decide) (by decide) ?_
                show Steps p.tables e below (T28.setTop (mkF m 109 #[.val (.int x'), .val (.int (x' &&& (7 : Int32))), .val (.ref o7), .val (.int (0 : Int32)), .unset, .unset] [])) _
                refine XS.aloadN X28.here hx rfl (hb hby at_109) rfl rfl ?_
                show Steps p.tables e below (T28.setTop (mkF m 110 #[.val (.int x'), .val (.int (x' &&& (7 : Int32))), .val (.ref o7), .val (.int (0 : Int32)), .unset, .unset] [(.ref o7)])) _
                refine st29.trans ?_
                show Steps p.tables e below (T29.setTop (mkF m 113 #[.val (.int x'), .val (.int (x' &&& (7 : Int32))), .val (.ref o7), .val (.int (0 : Int32)), .unset, .unset] [(.int (5010 : Int32))])) _
                refine XS.istore X29.here hx rfl (hb hby at_113) rfl (l' := #[.val (.int x'), .val (.int (x' &&& (7 : Int32))), .val (.ref o7), .val (.int (0 : Int32)), .val (.int (5010 : Int32)), .unset]) rfl ?_
                show Steps p.tables e below (T29.setTop (mkF m 115 #[.val (.int x'), .val (.int (x' &&& (7 : Int32))), .val (.ref o7), .val (.int (0 : Int32)), .val (.int (5010 : Int32)), .unset] [])) _
                refine XS.iload X29.here hx rfl (hb hby at_115) rfl ?_
                show Steps p.tables e below (T29.setTop (mkF m 117 #[.val (.int x'), .val (.int (x' &&& (7 : Int32))), .val (.ref o7), .val (.int (0 : Int32)), .val (.int (5010 : Int32)), .unset] [(.int (5010 : Int32))])) _
                refine XS.sipush X29.here hx rfl (hb hby at_117) ?_
                show Steps p.tables e below (T29.setTop (mkF m 120 #[.val (.int x'), .val (.int (x' &&& (7 : Int32))), .val (.ref o7), .val (.int (0 : Int32)), .val (.int (5010 : Int32)), .unset] [(.int (3000 : Int32)), (.int (5010 : Int32))])) _
                refine XS.icmpNo X29.here hx rfl (hb hby at_120) rfl (flt (by decide : ¬ ((5010 : Int32) < (3000 : Int32)))).1 ?_
                show Steps p.tables e below (T29.setTop (mkF m 123 #[.val (.int x'), .val (.int (x' &&& (7 : Int32))), .val (.ref o7), .val (.int (0 : Int32)), .val (.int (5010 : Int32)), .unset] [])) _
                refine XS.iload X29.here hx rfl (hb hby at_123) rfl ?_
                show Steps p.tables e below (T29.setTop (mkF m 125 #[.val (.int x'), .val (.int (x' &&& (7 : Int32))), .val (.ref o7), .val (.int (0 : Int32)), .val (.int (5010 : Int32)), .unset] [(.int (5010 : Int32))])) _
                refine XS.sipush X29.here hx rfl (hb hby at_125) ?_
                show Steps p.tables e below (T29.setTop (mkF m 128 #[.val (.int x'), .val (.int (x' &&& (7 : Int32))), .val (.ref o7), .val (.int (0 : Int32)), .val (.int (5010 : Int32)), .unset] [(.int (3999 : Int32)), (.int (5010 : Int32))])) _
                refine XS.icmpYes X29.here hx rfl (pc0 := 128) (pc' := 135) rfl (hb hby at_128) rfl (tlt (by decide : (3999 : Int32) < (5010 : Int32))).2.2.1 (by decide) (by decide) ?_
                show Steps p.tables e below (T29.setTop (mkF m 135 #[.val (.int x'), .val (.int (x' &&& (7 : Int32))), .val (.ref o7), .val (.int (0 : Int32)), .val (.int (5010 : Int32)), .unset] [])) _
                refine XS.iconst X29.here hx rfl (hb hby at_135) ?_
                show Steps p.tables e below (T29.setTop (mkF m 136 #[.val (.int x'), .val (.int (x' &&& (7 : Int32))), .val (.ref o7), .val (.int (0 : Int32)), .val (.int (5010 : Int32)), .unset] [(.int (0 : Int32))])) _
                refine XS.istore X29.here hx rfl (hb hby at_136) rfl (l' := #[.val (.int x'), .val (.int (x' &&& (7 : Int32))), .val (.ref o7), .val (.int (0 : Int32)), .val (.int (5010 : Int32)), .val (.int (0 : Int32))]) rfl ?_
                show Steps p.tables e below (T29.setTop (mkF m 138 #[.val (.int x'), .val (.int (x' &&& (7 : Int32))), .val (.ref o7), .val (.int (0 : Int32)), .val (.int (5010 : Int32)), .val (.int (0 : Int32))] [])) _
                refine XS.aloadN X29.here hx rfl (hb hby at_138) rfl rfl ?_
                show Steps p.tables e below (T29.setTop (mkF m 139 #[.val (.int x'), .val (.int (x' &&& (7 : Int32))), .val (.ref o7), .val (.int (0 : Int32)), .val (.int (5010 : Int32)), .val (.int (0 : Int32))] [(.ref o7)])) _
                refine st30.trans ?_
                show Steps p.tables e below (T30.setTop (mkF m 142 #[.val (.int x'), .val (.int (x' &&& (7 : Int32))), .val (.ref o7), .val (.int (0 : Int32)), .val (.int (5010 : Int32)), .val (.int (0 : Int32))] [(.int (own_pe (5010 : Int32)))])) _
                refine XS.iloadN X30.here hx rfl (hb hby at_142) rfl ?_
                show Steps p.tables e below (T30.setTop (mkF m 143 #[.val (.int x'), .val (.int (x' &&& (7 : Int32))), .val (.ref o7), .val (.int (0 : Int32)), .val (.int (5010 : Int32)), .val (.int (0 : Int32))] [(.int (0 : Int32)), (.int (own_pe (5010 : Int32)))])) _
                refine XS.icmpNo X30.here hx rfl (hb hby at_143) rfl (teq (by decide : (own_pe (5010 : Int32)) = (0 : Int32))).2 ?_
                show Steps p.tables e below (T30.setTop (mkF m 146 #[.val (.int x'), .val (.int (x' &&& (7 : Int32))), .val (.ref o7), .val (.int (0 : Int32)), .val (.int (5010 : Int32)), .val (.int (0 : Int32))] [])) _
                refine XS.iloadN X30.here hx rfl (hb hby at_146) rfl ?_
                show Steps p.tables e below (T30.setTop (mkF m 147 #[.val (.int x'), .val (.int (x' &&& (7 : Int32))), .val (.ref o7), .val (.int (0 : Int32)), .val (.int (5010 : Int32)), .val (.int (0 : Int32))] [(.int (0 : Int32))])) _
                refine XS.iload X30.here hx rfl (hb hby at_147) rfl ?_
                show Steps p.tables e below (T30.setTop (mkF m 149 #[.val (.int x'), .val (.int (x' &&& (7 : Int32))), .val (.ref o7), .val (.int (0 : Int32)), .val (.int (5010 : Int32)), .val (.int (0 : Int32))] [(.int (0 : Int32)), (.int (0 : Int32))])) _
                refine XS.icmpNo X30.here hx rfl (hb hby at_149) rfl (teq (by decide : (0 : Int32) = (0 : Int32))).2 ?_
                show Steps p.tables e below (T30.setTop (mkF m 152 #[.val (.int x'), .val (.int (x' &&& (7 : Int32))), .val (.ref o7), .val (.int (0 : Int32)), .val (.int (5010 : Int32)), .val (.int (0 : Int32))] [])) _
                refine XS.iconst X30.here hx rfl (hb hby at_152) ?_
                show Steps p.tables e below (T30.setTop (mkF m 153 #[.val (.int x'), .val (.int (x' &&& (7 : Int32))), .val (.ref o7), .val (.int (0 : Int32)), .val (.int (5010 : Int32)), .val (.int (0 : Int32))] [(.int (1 : Int32))])) _
                refine XS.goto X30.here hx rfl (pc0 := 153) (pc' := 157) rfl (hb hby at_153) (by decide) (by decide) ?_
                show Steps p.tables e below (T30.setTop (mkF m 157 #[.val (.int x'), .val (.int (x' &&& (7 : Int32))), .val (.ref o7), .val (.int (0 : Int32)), .val (.int (5010 : Int32)), .val (.int (0 : Int32))] [(.int (1 : Int32))])) _
                exact retN X30 hx (t := .boolean) Bd.returns (by simp) (hb hby at_157) hr
              · show Q0 Z x' o0 o1 o2 o3 o4 o5 o6 o7 h0 n0 _ T30.heap _
                rw [hh30]
                exact ⟨rfl, N30⟩
            · have pre31 : ∀ t, Steps p.tables e below (s₁.setTop (mkF m 91 #[.val (.int x'), .val (.int (x' &&& (7 : Int32))), .unset, .unset, .unset, .unset] [(.int (6 : Int32)), (.int (x' &&& (7 : Int32)))])) t → Steps p.tables e below (s₁.setTop (entryFrame m #[(.int x')] maxLocals)) t := by
                intro t kt
                refine pre26 t ?_
                show Steps p.tables e below (s₁.setTop (mkF m 76 #[.val (.int x'), .val (.int (x' &&& (7 : Int32))), .unset, .unset, .unset, .unset] [(.int (5 : Int32)), (.int (x' &&& (7 : Int32)))])) _
                refine XS.icmpYes X0.here hx rfl (pc0 := 76) (pc' := 88) rfl (hb hby at_76) rfl (feq hc76_27).2 (by decide) (by decide) ?_
                show Steps p.tables e below (s₁.setTop (mkF m 88 #[.val (.int x'), .val (.int (x' &&& (7 : Int32))), .unset, .unset, .unset, .unset] [])) _
                refine XS.iloadN X0.here hx rfl (hb hby at_88) rfl ?_
                show Steps p.tables e below (s₁.setTop (mkF m 89 #[.val (.int x'), .val (.int (x' &&& (7 : Int32))), .unset, .unset, .unset, .unset] [(.int (x' &&& (7 : Int32)))])) _
                refine XS.bipush X0.here hx rfl (hb hby at_89) ?_
                exact kt
              by_cases hc91_32 : (x' &&& (7 : Int32)) = (6 : Int32)
              · obtain ⟨T33, X33, e33, st33⟩ := getS2 X0 hx hZ hown (host := "") (Or.inl (hw _ (List.mem_of_getElem? (i := 17) rfl))) Via.refl e0 S_UNABLE_TO_COMPLY (g := (mkF m 94 #[.val (.int x'), .val (.int (x' &&& (7 : Int32))), .unset, .unset, .unset, .unset] [])) rfl (hb hby at_94)
                obtain ⟨cq34, kq34, q34a, q34b, q34c⟩ := isOf hZ e33 E_o2
                obtain ⟨_, _, ⟨T34, L34, k34, n34⟩, -, X34, ⟨Lc34, hQ34, l34, y34, z34⟩, st34⟩ := X33.virtualBack hx (y := (⟨"com/example/overage/overage/diameter/ResultCode", "code", "()I"⟩ : MethodName)) (z := (⟨"com/example/overage/overage/diameter/ResultCode", "code", "()I"⟩ : MethodName)) hown (mvT hZ (hw _ (List.mem_of_getElem? (i := 3) rfl))) (mvT hZ (hw _ (List.mem_of_getElem? (i := 4) rfl))) (notFace_of_selects (args := #[]) (mvT hZ (hw _ (List.mem_of_getElem? (i := 6) rfl)))) (mvT hZ (hw _ (List.mem_of_getElem? (i := 6) rfl))) (mvT hZ (hw _ (List.mem_of_getElem? (i := 5) rfl))) (by decide) (backOf (W := 0) (rm1 l Z a0 hw [] o2 (5012 : Int32) h0 n0 Z0 F_code_o2) hZ (hw _ (List.mem_of_getElem? (i := 7) rfl)) (hw _ (List.mem_of_getElem? (i := 1) rfl)) (by decide) (by decide)) q34a q34c (g := (mkF m 110 #[.val (.int x'), .val (.int (x' &&& (7 : Int32))), .val (.ref o2), .val (.int (0 : Int32)), .unset, .unset] [(.ref o2)])) rfl (by rw [hml]; rfl) (Steps.refl _) (argsL := []) (rest := []) (lenOf pd0_0 rfl) rfl (by show 2 * 0 + _ ≤ _; exact Nat.le_of_eq rfl) (hb hby at_110) (fun _ _ => ⟨rfl, e33, (by decide : 0 + 0 ≤ _), (by decide : 0 + 0 ≤ _)⟩)
                dsimp only [Pt.U, Pt.locs, Pt.cells, Pt.slots] at X34 l34 y34 z34 st34 hQ34
                subst l34 y34 z34
                obtain ⟨rfl, N34q, hh34⟩ := hQ34
                have N34 := Fr.app N0 N34q
                obtain ⟨cq35, kq35, q35a, q35b, q35c⟩ := isOf hZ hh34 E_o2
                obtain ⟨_, _, ⟨T35, L35, k35, n35⟩, -, X35, ⟨Lc35, hQ35, l35, y35, z35⟩, st35⟩ := X34.virtualBack hx (y := (⟨"com/example/overage/overage/diameter/ResultCode", "isProtocolError", "()Z"⟩ : MethodName)) (z := (⟨"com/example/overage/overage/diameter/ResultCode", "isProtocolError", "()Z"⟩ : MethodName)) hown (mvT hZ (hw _ (List.mem_of_getElem? (i := 10) rfl))) (mvT hZ (hw _ (List.mem_of_getElem? (i := 11) rfl))) (notFace_of_selects (args := #[]) (mvT hZ (hw _ (List.mem_of_getElem? (i := 13) rfl)))) (mvT hZ (hw _ (List.mem_of_getElem? (i := 13) rfl))) (mvT hZ (hw _ (List.mem_of_getElem? (i := 12) rfl))) (by decide) (backOf (W := 0) (rm2 l Z a0 hw [] o2 (5012 : Int32) h0 n0 Z0 F_code_o2) hZ (hw _ (List.mem_of_getElem? (i := 14) rfl)) (hw _ (List.mem_of_getElem? (i := 1) rfl)) (by decide) (by decide)) q35a q35c (g := (mkF m 139 #[.val (.int x'), .val (.int (x' &&& (7 : Int32))), .val (.ref o2), .val (.int (0 : Int32)), .val (.int (5012 : Int32)), .val (.int (0 : Int32))] [(.ref o2)])) rfl (by rw [hml]; rfl) (Steps.refl _) (argsL := []) (rest := []) (lenOf pd0_1 rfl) rfl (by show 2 * 0 + _ ≤ _; exact Nat.le_of_eq rfl) (hb hby at_139) (fun _ _ => ⟨rfl, hh34, (by decide : 0 + 0 ≤ _), (by decide : 0 + 0 ≤ _)⟩)
                dsimp only [Pt.U, Pt.locs, Pt.cells, Pt.slots] at X35 l35 y35 z35 st35 hQ35
                subst l35 y35 z35
                obtain ⟨rfl, N35q, hh35⟩ := hQ35
                have N35 := Fr.app N34 N35q
                obtain ⟨fs, hr, hrun, hended, hW, hsame⟩ := X35.leave (v := some (.int (1 : Int32))) (fun h => by rw [Bd.returns] at h; cases h)
                refine ⟨_, _, pre31 _ ?_, hrun, hended, _, _, rfl, ?_, ⟨_, rfl⟩, hW, hsame.mono (by decide) (by decide)⟩
                · show Steps p.tables e below (s₁.setTop (mkF m 91 #[.val (.int x'), .val (.int (x' &&& (7 : Int32))), .unset, .unset, .unset, .unset] [(.int (6 : Int32)), (.int (x' &&& (7 : Int32)))])) _
                  refine XS.icmpNo X0.here hx rfl (hb hby at_91) rfl (teq hc91_32).2 ?_
                  show Steps p.tables e below (s₁.setTop (mkF m 94 #[.val (.int x'), .val (.int (x' &&& (7 : Int32))), .unset, .unset, .unset, .unset] [])) _
                  refine st33 _ ?_
                  show Steps p.tables e below (T33.setTop (mkF m 97 #[.val (.int x'), .val (.int (x' &&& (7 : Int32))), .unset, .unset, .unset, .unset] [(.ref o2)])) _
                  refine XS.astoreN X33.here hx rfl (hb hby at_97) rfl rfl (l' := #[.val (.int x'), .val (.int (x' &&& (7 : Int32))), .val (.ref o2), .unset, .unset, .unset]) rfl ?_
                  show Steps p.tables e below (T33.setTop (mkF m 98 #[.val (.int x'), .val (.int (x' &&& (7 : Int32))), .val (.ref o2), .unset, .unset, .unset] [])) _
                  refine XS.iconst X33.here hx rfl (hb hby at_98) ?_
                  show Steps p.tables e below (T33.setTop (mkF m 99 #[.val (.int x'), .val (.int (x' &&& (7 : Int32))), .val (.ref o2), .unset, .unset, .unset] [(.int (0 : Int32))])) _
                  refine XS.istoreN X33.here hx rfl (hb hby at_99) rfl (l' := #[.val (.int x'), .val (.int (x' &&& (7 : Int32))), .val (.ref o2), .val (.int (0 : Int32)), .unset, .unset]) rfl ?_
                  show Steps p.tables e below (T33.setTop (mkF m 100 #[.val (.int x'), .val (.int (x' &&& (7 : Int32))), .val (.ref o2), .val (.int (0 : Int32)), .unset, .unset] [])) _
                  refine XS.goto X33.here hx rfl (pc0 := 100) (pc' := 109) rfl (hb hby at_100) (by decide) (by decide) ?_
                  show Steps p.tables e below (T33.setTop (mkF m 109 #[.val (.int x'), .val (.int (x' &&& (7 : Int32))), .val (.ref o2), .val (.int (0 : Int32)), .unset, .unset] [])) _
                  refine XS.aloadN X33.here hx rfl (hb hby at_109) rfl rfl ?_
                  show Steps p.tables e below (T33.setTop (mkF m 110 #[.val (.int x'), .val (.int (x' &&& (7 : Int32))), .val (.ref o2), .val (.int (0 : Int32)), .unset, .unset] [(.ref o2)])) _
                  refine st34.trans ?_
                  show Steps p.tables e below (T34.setTop (mkF m 113 #[.val (.int x'), .val (.int (x' &&& (7 : Int32))), .val (.ref o2), .val (.int (0 : Int32)), .unset, .unset] [(.int (5012 : Int32))])) _
                  refine XS.istore X34.here hx rfl (hb hby at_113) rfl (l' := #[.val (.int x'), .val (.int (x' &&& (7 : Int32))), .val (.ref o2), .val (.int (0 : Int32)), .val (.int (5012 : Int32)), .unset]) rfl ?_
                  show Steps p.tables e below (T34.setTop (mkF m 115 #[.val (.int x'), .val (.int (x' &&& (7 : Int32))), .val (.ref o2), .val (.int (0 : Int32)), .val (.int (5012 : Int32)), .unset] [])) _
                  refine XS.iload X34.here hx rfl (hb hby at_115) rfl ?_
                  show Steps p.tables e below (T34.setTop (mkF m 117 #[.val (.int x'), .val (.int (x' &&& (7 : Int32))), .val (.ref o2), .val (.int (0 : Int32)), .val (.int (5012 : Int32)), .unset] [(.int (5012 : Int32))])) _
                  refine XS.sipush X34.here hx rfl (hb hby at_117) ?_
                  show Steps p.tables e below (T34.setTop (mkF m 120 #[.val (.int x'), .val (.int (x' &&& (7 : Int32))), .val (.ref o2), .val (.int (0 : Int32)), .val (.int (5012 : Int32)), .unset] [(.int (3000 : Int32)), (.int (5012 : Int32))])) _
                  refine XS.icmpNo X34.here hx rfl (hb hby at_120) rfl (flt (by decide : ¬ ((5012 : Int32) < (3000 : Int32)))).1 ?_
                  show Steps p.tables e below (T34.setTop (mkF m 123 #[.val (.int x'), .val (.int (x' &&& (7 : Int32))), .val (.ref o2), .val (.int (0 : Int32)), .val (.int (5012 : Int32)), .unset] [])) _
                  refine XS.iload X34.here hx rfl (hb hby at_123) rfl ?_
                  show Steps p.tables e below (T34.setTop (mkF m 125 #[.val (.int x'), .val (.int (x' &&& (7 : Int32))), .val (.ref o2), .val (.int (0 : Int32)), .val (.int (5012 : Int32)), .unset] [(.int (5012 : Int32))])) _
                  refine XS.sipush X34.here hx rfl (hb hby at_125) ?_
                  show Steps p.tables e below (T34.setTop (mkF m 128 #[.val (.int x'), .val (.int (x' &&& (7 : Int32))), .val (.ref o2), .val (.int (0 : Int32)), .val (.int (5012 : Int32)), .unset] [(.int (3999 : Int32)), (.int (5012 : Int32))])) _
                  refine XS.icmpYes X34.here hx rfl (pc0 := 128) (pc' := 135) rfl (hb hby at_128) rfl (tlt (by decide : (3999 : Int32) < (5012 : Int32))).2.2.1 (by decide) (by decide) ?_
                  show Steps p.tables e below (T34.setTop (mkF m 135 #[.val (.int x'), .val (.int (x' &&& (7 : Int32))), .val (.ref o2), .val (.int (0 : Int32)), .val (.int (5012 : Int32)), .unset] [])) _
                  refine XS.iconst X34.here hx rfl (hb hby at_135) ?_
                  show Steps p.tables e below (T34.setTop (mkF m 136 #[.val (.int x'), .val (.int (x' &&& (7 : Int32))), .val (.ref o2), .val (.int (0 : Int32)), .val (.int (5012 : Int32)), .unset] [(.int (0 : Int32))])) _
                  refine XS.istore X34.here hx rfl (hb hby at_136) rfl (l' := #[.val (.int x'), .val (.int (x' &&& (7 : Int32))), .val (.ref o2), .val (.int (0 : Int32)), .val (.int (5012 : Int32)), .val (.int (0 : Int32))]) rfl ?_
                  show Steps p.tables e below (T34.setTop (mkF m 138 #[.val (.int x'), .val (.int (x' &&& (7 : Int32))), .val (.ref o2), .val (.int (0 : Int32)), .val (.int (5012 : Int32)), .val (.int (0 : Int32))] [])) _
                  refine XS.aloadN X34.here hx rfl (hb hby at_138) rfl rfl ?_
                  show Steps p.tables e below (T34.setTop (mkF m 139 #[.val (.int x'), .val (.int (x' &&& (7 : Int32))), .val (.ref o2), .val (.int (0 : Int32)), .val (.int (5012 : Int32)), .val (.int (0 : Int32))] [(.ref o2)])) _
                  refine st35.trans ?_
                  show Steps p.tables e below (T35.setTop (mkF m 142 #[.val (.int x'), .val (.int (x' &&& (7 : Int32))), .val (.ref o2), .val (.int (0 : Int32)), .val (.int (5012 : Int32)), .val (.int (0 : Int32))] [(.int (own_pe (5012 : Int32)))])) _
                  refine XS.iloadN X35.here hx rfl (hb hby at_142) rfl ?_
                  show Steps p.tables e below (T35.setTop (mkF m 143 #[.val (.int x'), .val (.int (x' &&& (7 : Int32))), .val (.ref o2), .val (.int (0 : Int32)), .val (.int (5012 : Int32)), .val (.int (0 : Int32))] [(.int (0 : Int32)), (.int (own_pe (5012 : Int32)))])) _
                  refine XS.icmpNo X35.here hx rfl (hb hby at_143) rfl (teq (by decide : (own_pe (5012 : Int32)) = (0 : Int32))).2 ?_
                  show Steps p.tables e below (T35.setTop (mkF m 146 #[.val (.int x'), .val (.int (x' &&& (7 : Int32))), .val (.ref o2), .val (.int (0 : Int32)), .val (.int (5012 : Int32)), .val (.int (0 : Int32))] [])) _
                  refine XS.iloadN X35.here hx rfl (hb hby at_146) rfl ?_
                  show Steps p.tables e below (T35.setTop (mkF m 147 #[.val (.int x'), .val (.int (x' &&& (7 : Int32))), .val (.ref o2), .val (.int (0 : Int32)), .val (.int (5012 : Int32)), .val (.int (0 : Int32))] [(.int (0 : Int32))])) _
                  refine XS.iload X35.here hx rfl (hb hby at_147) rfl ?_
                  show Steps p.tables e below (T35.setTop (mkF m 149 #[.val (.int x'), .val (.int (x' &&& (7 : Int32))), .val (.ref o2), .val (.int (0 : Int32)), .val (.int (5012 : Int32)), .val (.int (0 : Int32))] [(.int (0 : Int32)), (.int (0 : Int32))])) _
                  refine XS.icmpNo X35.here hx rfl (hb hby at_149) rfl (teq (by decide : (0 : Int32) = (0 : Int32))).2 ?_
                  show Steps p.tables e below (T35.setTop (mkF m 152 #[.val (.int x'), .val (.int (x' &&& (7 : Int32))), .val (.ref o2), .val (.int (0 : Int32)), .val (.int (5012 : Int32)), .val (.int (0 : Int32))] [])) _
                  refine XS.iconst X35.here hx rfl (hb hby at_152) ?_
                  show Steps p.tables e below (T35.setTop (mkF m 153 #[.val (.int x'), .val (.int (x' &&& (7 : Int32))), .val (.ref o2), .val (.int (0 : Int32)), .val (.int (5012 : Int32)), .val (.int (0 : Int32))] [(.int (1 : Int32))])) _
                  refine XS.goto X35.here hx rfl (pc0 := 153) (pc' := 157) rfl (hb hby at_153) (by decide) (by decide) ?_
                  show Steps p.tables e below (T35.setTop (mkF m 157 #[.val (.int x'), .val (.int (x' &&& (7 : Int32))), .val (.ref o2), .val (.int (0 : Int32)), .val (.int (5012 : Int32)), .val (.int (0 : Int32))] [(.int (1 : Int32))])) _
                  exact retN X35 hx (t := .boolean) Bd.returns (by simp) (hb hby at_157) hr
                · show Q0 Z x' o0 o1 o2 o3 o4 o5 o6 o7 h0 n0 _ T35.heap _
                  rw [hh35]
                  exact ⟨rfl, N35⟩
              · obtain ⟨T36, X36, e36, st36⟩ := getS2 X0 hx hZ hown (host := "") (Or.inl (hw _ (List.mem_of_getElem? (i := 19) rfl))) Via.refl e0 S_INVALID_AVP_LENGTH (g := (mkF m 103 #[.val (.int x'), .val (.int (x' &&& (7 : Int32))), .unset, .unset, .unset, .unset] [])) rfl (hb hby at_103)
                obtain ⟨cq37, kq37, q37a, q37b, q37c⟩ := isOf hZ e36 E_o3
                obtain ⟨_, _, ⟨T37, L37, k37, n37⟩, -, X37, ⟨Lc37, hQ37, l37, y37, z37⟩, st37⟩ := X36.virtualBack hx (y := (⟨"com/example/overage/overage/diameter/ResultCode", "code", "()I"⟩ : MethodName)) (z := (⟨"com/example/overage/overage/diameter/ResultCode", "code", "()I"⟩ : MethodName)) hown (mvT hZ (hw _ (List.mem_of_getElem? (i := 3) rfl))) (mvT hZ (hw _ (List.mem_of_getElem? (i := 4) rfl))) (notFace_of_selects (args := #[]) (mvT hZ (hw _ (List.mem_of_getElem? (i := 6) rfl)))) (mvT hZ (hw _ (List.mem_of_getElem? (i := 6) rfl))) (mvT hZ (hw _ (List.mem_of_getElem? (i := 5) rfl))) (by decide) (backOf (W := 0) (rm1 l Z a0 hw [] o3 (5014 : Int32) h0 n0 Z0 F_code_o3) hZ (hw _ (List.mem_of_getElem? (i := 7) rfl)) (hw _ (List.mem_of_getElem? (i := 1) rfl)) (by decide) (by decide)) q37a q37c (g := (mkF m 110 #[.val (.int x'), .val (.int (x' &&& (7 : Int32))), .val (.ref o3), .val (.int (0 : Int32)), .unset, .unset] [(.ref o3)])) rfl (by rw [hml]; rfl) (Steps.refl _) (argsL := []) (rest := []) (lenOf pd0_0 rfl) rfl (by show 2 * 0 + _ ≤ _; exact Nat.le_of_eq rfl) (hb hby at_110) (fun _ _ => ⟨rfl, e36, (by decide : 0 + 0 ≤ _), (by decide : 0 + 0 ≤ _)⟩)
                dsimp only [Pt.U, Pt.locs, Pt.cells, Pt.slots] at X37 l37 y37 z37 st37 hQ37
                subst l37 y37 z37
                obtain ⟨rfl, N37q, hh37⟩ := hQ37
                have N37 := Fr.app N0 N37q
                obtain ⟨cq38, kq38, q38a, q38b, q38c⟩ := isOf hZ hh37 E_o3
                obtain ⟨_, _, ⟨T38, L38, k38, n38⟩, -, X38, ⟨Lc38, hQ38, l38, y38, z38⟩, st38⟩ := X37.virtualBack hx (y := (⟨"com/example/overage/overage/diameter/ResultCode", "isProtocolError", "()Z"⟩ : MethodName)) (z := (⟨"com/example/overage/overage/diameter/ResultCode", "isProtocolError", "()Z"⟩ : MethodName)) hown (mvT hZ (hw _ (List.mem_of_getElem? (i := 10) rfl))) (mvT hZ (hw _ (List.mem_of_getElem? (i := 11) rfl))) (notFace_of_selects (args := #[]) (mvT hZ (hw _ (List.mem_of_getElem? (i := 13) rfl)))) (mvT hZ (hw _ (List.mem_of_getElem? (i := 13) rfl))) (mvT hZ (hw _ (List.mem_of_getElem? (i := 12) rfl))) (by decide) (backOf (W := 0) (rm2 l Z a0 hw [] o3 (5014 : Int32) h0 n0 Z0 F_code_o3) hZ (hw _ (List.mem_of_getElem? (i := 14) rfl)) (hw _ (List.mem_of_getElem? (i := 1) rfl)) (by decide) (by decide)) q38a q38c (g := (mkF m 139 #[.val (.int x'), .val (.int (x' &&& (7 : Int32))), .val (.ref o3), .val (.int (0 : Int32)), .val (.int (5014 : Int32)), .val (.int (0 : Int32))] [(.ref o3)])) rfl (by rw [hml]; rfl) (Steps.refl _) (argsL := []) (rest := []) (lenOf pd0_1 rfl) rfl (by show 2 * 0 + _ ≤ _; exact Nat.le_of_eq rfl) (hb hby at_139) (fun _ _ => ⟨rfl, hh37, (by decide : 0 + 0 ≤ _), (by decide : 0 + 0 ≤ _)⟩)
                dsimp only [Pt.U, Pt.locs, Pt.cells, Pt.slots] at X38 l38 y38 z38 st38 hQ38
                subst l38 y38 z38
                obtain ⟨rfl, N38q, hh38⟩ := hQ38
                have N38 := Fr.app N37 N38q
                obtain ⟨fs, hr, hrun, hended, hW, hsame⟩ := X38.leave (v := some (.int (1 : Int32))) (fun h => by rw [Bd.returns] at h; cases h)
                refine ⟨_, _, pre31 _ ?_, hrun, hended, _, _, rfl, ?_, ⟨_, rfl⟩, hW, hsame.mono (by decide) (by decide)⟩
                · show Steps p.tables e below (s₁.setTop (mkF m 91 #[.val (.int x'), .val (.int (x' &&& (7 : Int32))), .unset, .unset, .unset, .unset] [(.int (6 : Int32)), (.int (x' &&& (7 : Int32)))])) _
                  refine XS.icmpYes X0.here hx rfl (pc0 := 91) (pc' := 103) rfl (hb hby at_91) rfl (feq hc91_32).2 (by decide) (by decide) ?_
                  show Steps p.tables e below (s₁.setTop (mkF m 103 #[.val (.int x'), .val (.int (x' &&& (7 : Int32))), .unset, .unset, .unset, .unset] [])) _
                  refine st36 _ ?_
                  show Steps p.tables e below (T36.setTop (mkF m 106 #[.val (.int x'), .val (.int (x' &&& (7 : Int32))), .unset, .unset, .unset, .unset] [(.ref o3)])) _
                  refine XS.astoreN X36.here hx rfl (hb hby at_106) rfl rfl (l' := #[.val (.int x'), .val (.int (x' &&& (7 : Int32))), .val (.ref o3), .unset, .unset, .unset]) rfl ?_
                  show Steps p.tables e below (T36.setTop (mkF m 107 #[.val (.int x'), .val (.int (x' &&& (7 : Int32))), .val (.ref o3), .unset, .unset, .unset] [])) _
                  refine XS.iconst X36.here hx rfl (hb hby at_107) ?_
                  show Steps p.tables e below (T36.setTop (mkF m 108 #[.val (.int x'), .val (.int (x' &&& (7 : Int32))), .val (.ref o3), .unset, .unset, .unset] [(.int (0 : Int32))])) _
                  refine XS.istoreN X36.here hx rfl (hb hby at_108) rfl (l' := #[.val (.int x'), .val (.int (x' &&& (7 : Int32))), .val (.ref o3), .val (.int (0 : Int32)), .unset, .unset]) rfl ?_
                  show Steps p.tables e below (T36.setTop (mkF m 109 #[.val (.int x'), .val (.int (x' &&& (7 : Int32))), .val (.ref o3), .val (.int (0 : Int32)), .unset, .unset] [])) _
                  refine XS.aloadN X36.here hx rfl (hb hby at_109) rfl rfl ?_
                  show Steps p.tables e below (T36.setTop (mkF m 110 #[.val (.int x'), .val (.int (x' &&& (7 : Int32))), .val (.ref o3), .val (.int (0 : Int32)), .unset, .unset] [(.ref o3)])) _
                  refine st37.trans ?_
                  show Steps p.tables e below (T37.setTop (mkF m 113 #[.val (.int x'), .val (.int (x' &&& (7 : Int32))), .val (.ref o3), .val (.int (0 : Int32)), .unset, .unset] [(.int (5014 : Int32))])) _
                  refine XS.istore X37.here hx rfl (hb hby at_113) rfl (l' := #[.val (.int x'), .val (.int (x' &&& (7 : Int32))), .val (.ref o3), .val (.int (0 : Int32)), .val (.int (5014 : Int32)), .unset]) rfl ?_
                  show Steps p.tables e below (T37.setTop (mkF m 115 #[.val (.int x'), .val (.int (x' &&& (7 : Int32))), .val (.ref o3), .val (.int (0 : Int32)), .val (.int (5014 : Int32)), .unset] [])) _
                  refine XS.iload X37.here hx rfl (hb hby at_115) rfl ?_
                  show Steps p.tables e below (T37.setTop (mkF m 117 #[.val (.int x'), .val (.int (x' &&& (7 : Int32))), .val (.ref o3), .val (.int (0 : Int32)), .val (.int (5014 : Int32)), .unset] [(.int (5014 : Int32))])) _
                  refine XS.sipush X37.here hx rfl (hb hby at_117) ?_
                  show Steps p.tables e below (T37.setTop (mkF m 120 #[.val (.int x'), .val (.int (x' &&& (7 : Int32))), .val (.ref o3), .val (.int (0 : Int32)), .val (.int (5014 : Int32)), .unset] [(.int (3000 : Int32)), (.int (5014 : Int32))])) _
                  refine XS.icmpNo X37.here hx rfl (hb hby at_120) rfl (flt (by decide : ¬ ((5014 : Int32) < (3000 : Int32)))).1 ?_
                  show Steps p.tables e below (T37.setTop (mkF m 123 #[.val (.int x'), .val (.int (x' &&& (7 : Int32))), .val (.ref o3), .val (.int (0 : Int32)), .val (.int (5014 : Int32)), .unset] [])) _
                  refine XS.iload X37.here hx rfl (hb hby at_123) rfl ?_
                  show Steps p.tables e below (T37.setTop (mkF m 125 #[.val (.int x'), .val (.int (x' &&& (7 : Int32))), .val (.ref o3), .val (.int (0 : Int32)), .val (.int (5014 : Int32)), .unset] [(.int (5014 : Int32))])) _
                  refine XS.sipush X37.here hx rfl (hb hby at_125) ?_
                  show Steps p.tables e below (T37.setTop (mkF m 128 #[.val (.int x'), .val (.int (x' &&& (7 : Int32))), .val (.ref o3), .val (.int (0 : Int32)), .val (.int (5014 : Int32)), .unset] [(.int (3999 : Int32)), (.int (5014 : Int32))])) _
                  refine XS.icmpYes X37.here hx rfl (pc0 := 128) (pc' := 135) rfl (hb hby at_128) rfl (tlt (by decide : (3999 : Int32) < (5014 : Int32))).2.2.1 (by decide) (by decide) ?_
                  show Steps p.tables e below (T37.setTop (mkF m 135 #[.val (.int x'), .val (.int (x' &&& (7 : Int32))), .val (.ref o3), .val (.int (0 : Int32)), .val (.int (5014 : Int32)), .unset] [])) _
                  refine XS.iconst X37.here hx rfl (hb hby at_135) ?_
                  show Steps p.tables e below (T37.setTop (mkF m 136 #[.val (.int x'), .val (.int (x' &&& (7 : Int32))), .val (.ref o3), .val (.int (0 : Int32)), .val (.int (5014 : Int32)), .unset] [(.int (0 : Int32))])) _
                  refine XS.istore X37.here hx rfl (hb hby at_136) rfl (l' := #[.val (.int x'), .val (.int (x' &&& (7 : Int32))), .val (.ref o3), .val (.int (0 : Int32)), .val (.int (5014 : Int32)), .val (.int (0 : Int32))]) rfl ?_
                  show Steps p.tables e below (T37.setTop (mkF m 138 #[.val (.int x'), .val (.int (x' &&& (7 : Int32))), .val (.ref o3), .val (.int (0 : Int32)), .val (.int (5014 : Int32)), .val (.int (0 : Int32))] [])) _
                  refine XS.aloadN X37.here hx rfl (hb hby at_138) rfl rfl ?_
                  show Steps p.tables e below (T37.setTop (mkF m 139 #[.val (.int x'), .val (.int (x' &&& (7 : Int32))), .val (.ref o3), .val (.int (0 : Int32)), .val (.int (5014 : Int32)), .val (.int (0 : Int32))] [(.ref o3)])) _
                  refine st38.trans ?_
                  show Steps p.tables e below (T38.setTop (mkF m 142 #[.val (.int x'), .val (.int (x' &&& (7 : Int32))), .val (.ref o3), .val (.int (0 : Int32)), .val (.int (5014 : Int32)), .val (.int (0 : Int32))] [(.int (own_pe (5014 : Int32)))])) _
                  refine XS.iloadN X38.here hx rfl (hb hby at_142) rfl ?_
                  show Steps p.tables e below (T38.setTop (mkF m 143 #[.val (.int x'), .val (.int (x' &&& (7 : Int32))), .val (.ref o3), .val (.int (0 : Int32)), .val (.int (5014 : Int32)), .val (.int (0 : Int32))] [(.int (0 : Int32)), (.int (own_pe (5014 : Int32)))])) _
                  refine XS.icmpNo X38.here hx rfl (hb hby at_143) rfl (teq (by decide : (own_pe (5014 : Int32)) = (0 : Int32))).2 ?_
                  show Steps p.tables e below (T38.setTop (mkF m 146 #[.val (.int x'), .val (.int (x' &&& (7 : Int32))), .val (.ref o3), .val (.int (0 : Int32)), .val (.int (5014 : Int32)), .val (.int (0 : Int32))] [])) _
                  refine XS.iloadN X38.here hx rfl (hb hby at_146) rfl ?_
                  show Steps p.tables e below (T38.setTop (mkF m 147 #[.val (.int x'), .val (.int (x' &&& (7 : Int32))), .val (.ref o3), .val (.int (0 : Int32)), .val (.int (5014 : Int32)), .val (.int (0 : Int32))] [(.int (0 : Int32))])) _
                  refine XS.iload X38.here hx rfl (hb hby at_147) rfl ?_
                  show Steps p.tables e below (T38.setTop (mkF m 149 #[.val (.int x'), .val (.int (x' &&& (7 : Int32))), .val (.ref o3), .val (.int (0 : Int32)), .val (.int (5014 : Int32)), .val (.int (0 : Int32))] [(.int (0 : Int32)), (.int (0 : Int32))])) _
                  refine XS.icmpNo X38.here hx rfl (hb hby at_149) rfl (teq (by decide : (0 : Int32) = (0 : Int32))).2 ?_
                  show Steps p.tables e below (T38.setTop (mkF m 152 #[.val (.int x'), .val (.int (x' &&& (7 : Int32))), .val (.ref o3), .val (.int (0 : Int32)), .val (.int (5014 : Int32)), .val (.int (0 : Int32))] [])) _
                  refine XS.iconst X38.here hx rfl (hb hby at_152) ?_
                  show Steps p.tables e below (T38.setTop (mkF m 153 #[.val (.int x'), .val (.int (x' &&& (7 : Int32))), .val (.ref o3), .val (.int (0 : Int32)), .val (.int (5014 : Int32)), .val (.int (0 : Int32))] [(.int (1 : Int32))])) _
                  refine XS.goto X38.here hx rfl (pc0 := 153) (pc' := 157) rfl (hb hby at_153) (by decide) (by decide) ?_
                  show Steps p.tables e below (T38.setTop (mkF m 157 #[.val (.int x'), .val (.int (x' &&& (7 : Int32))), .val (.ref o3), .val (.int (0 : Int32)), .val (.int (5014 : Int32)), .val (.int (0 : Int32))] [(.int (1 : Int32))])) _
                  exact retN X38 hx (t := .boolean) Bd.returns (by simp) (hb hby at_157) hr
                · show Q0 Z x' o0 o1 o2 o3 o4 o5 o6 o7 h0 n0 _ T38.heap _
                  rw [hh38]
                  exact ⟨rfl, N38⟩
set_option maxRecDepth 65536 in
set_option maxHeartbeats 40000000 in
theorem comes_1 {Post : Tables → Env → Array Value → State → Outcome → State → Prop} (hpost : ∀ tb e args s v u, (limb_1_1.after args s (.returned v) u = true ∧ limb_1_2.after args s (.returned v) u = true ∧ True) → FrameEnd s (.returned v) u (Jvm.fieldLocs frame_1_writes args s ++ Jvm.arrayLocs frame_1_arrays args s ++ Jvm.staticLocs frame_1_statics s) 0 0 → Post tb e args s (.returned v) u) :
    ArmFor flags0 classFile x code maxLocals ret World_1 tables_1 room_1 Calls_1 rest_1 Pre_1 Post := by
  intro l hfl _ _ p e ha hc hk s m args below hf hA hF happ hP
  obtain ⟨hcalls, hrest, hpre⟩ := hP
  obtain ⟨-, -, -, hnamed, -, -, -, hat⟩ := (Spec.applies_iff hf).mp happ
  obtain ⟨hg, hn⟩ := and_e (Cond.before_iff.mp (show (Jvm.Cond.and given_1 narrow_1).before args s = true from hpre))
  obtain ⟨hcount, ga0⟩ := and_e hg
  obtain ⟨w0, rfl⟩ : ∃ w0 : Value, args = #[w0] := by
    have hs : args.size = 1 := by simpa [Cond.value, given_1] using hcount
    obtain ⟨L⟩ := args
    match L, hs with
    | [w0], _ => exact ⟨w0, rfl⟩
  have hw := fun d (hd : d ∈ tables_1) => atoms_spec (ws := Jvm.Cond.code x code maxLocals ret :: tables_1) hat d (List.mem_cons_of_mem _ hd)
  have hfit : Fit s := fun {y c} hc i hi => by
    obtain ⟨ha, rfl⟩ := Array.getElem?_eq_some_iff.mp hc
    have q := List.all_eq_true.mp ((Array.all_eq_true_iff_forall_mem.mp hF) _ (Array.getElem_mem ha)) i (List.mem_range.mpr hi)
    simpa [Array.getElem?_eq_getElem hi] using q
  obtain ⟨i0, ei0⟩ := is_v ga0
  obtain rfl : w0 = (.int i0) := Option.some.inj ei0
  obtain ⟨x0, y0⟩ := and_e hn
  obtain ⟨c0, r0⟩ := and_e y0
  obtain ⟨o0, e0⟩ := exa_v x0
  have S0 := Sta.start e0 (Or.inr ⟨(hw _ (List.mem_of_getElem? (i := 1) rfl)), (hw _ (List.mem_of_getElem? (i := 2) rfl))⟩)
  have f0 := Fld.start ((fld_at e0).symm.trans (own_eq c0))
  obtain ⟨x1, y1⟩ := and_e r0
  obtain ⟨c1, r1⟩ := and_e y1
  obtain ⟨o1, e1⟩ := exa_v x1
  have S1 := Sta.start e1 (Or.inr ⟨(hw _ (List.mem_of_getElem? (i := 1) rfl)), (hw _ (List.mem_of_getElem? (i := 16) rfl))⟩)
  have f1 := Fld.start ((fld_at e1).symm.trans (own_eq c1))
  obtain ⟨x2, y2⟩ := and_e r1
  obtain ⟨c2, r2⟩ := and_e y2
  obtain ⟨o2, e2⟩ := exa_v x2
  have S2 := Sta.start e2 (Or.inr ⟨(hw _ (List.mem_of_getElem? (i := 1) rfl)), (hw _ (List.mem_of_getElem? (i := 18) rfl))⟩)
  have f2 := Fld.start ((fld_at e2).symm.trans (own_eq c2))
  obtain ⟨x3, y3⟩ := and_e r2
  obtain ⟨c3, r3⟩ := and_e y3
  obtain ⟨o3, e3⟩ := exa_v x3
  have S3 := Sta.start e3 (Or.inr ⟨(hw _ (List.mem_of_getElem? (i := 1) rfl)), (hw _ (List.mem_of_getElem? (i := 20) rfl))⟩)
  have f3 := Fld.start ((fld_at e3).symm.trans (own_eq c3))
  obtain ⟨x4, y4⟩ := and_e r3
  obtain ⟨c4, r4⟩ := and_e y4
  obtain ⟨o4, e4⟩ := exa_v x4
  have S4 := Sta.start e4 (Or.inr ⟨(hw _ (List.mem_of_getElem? (i := 1) rfl)), (hw _ (List.mem_of_getElem? (i := 22) rfl))⟩)
  have f4 := Fld.start ((fld_at e4).symm.trans (own_eq c4))
  obtain ⟨x5, y5⟩ := and_e r4
  obtain ⟨c5, r5⟩ := and_e y5
  obtain ⟨o5, e5⟩ := exa_v x5
  have S5 := Sta.start e5 (Or.inr ⟨(hw _ (List.mem_of_getElem? (i := 1) rfl)), (hw _ (List.mem_of_getElem? (i := 24) rfl))⟩)
  have f5 := Fld.start ((fld_at e5).symm.trans (own_eq c5))
  obtain ⟨x6, y6⟩ := and_e r5
  obtain ⟨c6, r6⟩ := and_e y6
  obtain ⟨o6, e6⟩ := exa_v x6
  have S6 := Sta.start e6 (Or.inr ⟨(hw _ (List.mem_of_getElem? (i := 1) rfl)), (hw _ (List.mem_of_getElem? (i := 26) rfl))⟩)
  have f6 := Fld.start ((fld_at e6).symm.trans (own_eq c6))
  obtain ⟨x7, y7⟩ := and_e r6
  have c7 := y7
  obtain ⟨o7, e7⟩ := exa_v x7
  have S7 := Sta.start e7 (Or.inr ⟨(hw _ (List.mem_of_getElem? (i := 1) rfl)), (hw _ (List.mem_of_getElem? (i := 28) rfl))⟩)
  have f7 := Fld.start ((fld_at e7).symm.trans (own_eq c7))
  obtain ⟨n, o, h1, h2, h3, _, L, rfl, ⟨rfl, N⟩, hq⟩ := rm0 l s _ hw tables_1 i0 o0 o1 o2 o3 o4 o5 o6 o7 s.heap s.heap.size (Nat.le_refl _) S0 (Exa.start e0 x0) f0 S1 (Exa.start e1 x1) f1 S2 (Exa.start e2 x2) f2 S3 (Exa.start e3 x3) f3 S4 (Exa.start e4 x4) f4 S5 (Exa.start e5 x5) f5 S6 (Exa.start e6 x6) f6 S7 (Exa.start e7 x7) f7 p e ha hc hk s m _ below hf ((Spec.applies_iff_loose hf).mp happ).1 ⟨rfl, State.Warmed39.refl s, rfl⟩ trivial
  refine ⟨n, _, h1, h2, h3, hpost _ _ _ _ _ _ ⟨Cond.after_iff.mpr rfl, Cond.after_iff.mpr (eq_i res_at (Term.int_eval (1)) rfl), trivial⟩ ⟨hq.1, hq.2.1, (hq.2.2.sift fun y hy => Or.inr (N y hy)).mono (by decide) (by decide)⟩⟩
theorem main_1_1 : Claimed_1_1 := comes_1 fun _ _ _ _ _ _ h hF => ⟨h.1, hF⟩
theorem main_1_2 : Claimed_1_2 := comes_1 fun _ _ _ _ _ _ h hF => ⟨h.2.1, hF⟩
end Jvm.Pilot.@@N@@
namespace Jvm.Pilot.@@N@@
open Jvm Jvm.ClassFile Sem Op Lib Jvm.Free Jvm.Stand Jvm.Pilot.@@N@@.Jvm.D
/-! MADE BY PROGRAM (witnessworld.py) out of the Statement's table words and the real class files: 12 classes; the members and pool entries that the words name. The judged class is class 1, her method 1. -/
namespace start1
open Jvm.ClassFile
def u (s : String) : CpInfo := .utf8 (stringToUtf16 s)
/-- a pool by its gaps: so many unusable entries, then the entry; so many at the end -/
def gap : Nat → List CpInfo → List CpInfo
  | 0, r => r
  | n + 1, r => .unusable :: gap n r
def poolList (es : List (Nat × CpInfo)) (last : Nat) : List CpInfo := es.foldr (fun e r => gap e.1 (e.2 :: r)) (gap last [])
def pool (es : List (Nat × CpInfo)) (last : Nat) : Array CpInfo := ⟨poolList es last⟩
def fileOf (pool : Array CpInfo) (this : Nat) (attrs : Array Attribute := #[]) (ms : Array MethodInfo := #[]) (fl : Nat := 33) (sup : Nat := 0) (ifs : Array Nat := #[]) (fds : Array FieldInfo := #[]) : ClassFile where
  minorVersion := 0
  majorVersion := 65
  constantPool := pool
  accessFlags := fl
  thisClass := this
  superClass := sup
  interfaces := ifs
  fields := fds
  methods := ms
  attributes := attrs
def plain (name : String) (sup : Option ClassId) : Class where
  name := name
  kind := .ordinary
  loader := none
  accessFlags := 33
  super := sup
  interfaces := #[]
  cf := none
  fields := #[]
  methods := #[]
  instanceTypes := #[]
  staticTypes := #[]
  resolved := #[]
  callSites := []
  init := .initialized
  statics := none
  mirror := none

def pool0 : Array CpInfo := pool [(5, u "<init>"), (0, u "()V"), (1, .class_ 10), (1, u "java/lang/Object")] 113

def k0m0 : Method := { name := "<init>", desc := "()V", sig := { parameters := [], returnType := none }, accessFlags := 1, code := none }
/-- java/lang/Object -/
def k0 : Class := { plain "java/lang/Object" none with
  accessFlags := 33
  interfaces := #[]
  cf := some (fileOf pool0 8 #[] #[{ accessFlags := 1, nameIndex := 5, descriptorIndex := 6, attributes := #[] }] 33 0 #[] #[])
  fields := #[]
  methods := #[k0m0]
  instanceTypes := #[]
  staticTypes := #[]
  resolved := Array.replicate 124 none
  statics := none }

def pool1 : Array CpInfo := pool [(2, .class_ 4), (1, u "java/lang/Object"), (0, u "<init>"), (0, u "()V"), (0, .fieldref 8 9), (0, .class_ 10), (0, .nameAndType 11 12), (0, u "com/example/overage/overage/diameter/ResultCode"), (0, u "SUCCESS"), (0, u "Lcom/example/overage/overage/diameter/ResultCode;"), (0, .fieldref 8 14), (0, .nameAndType 15 12), (0, u "COMMAND_UNSUPPORTED"), (0, .fieldref 8 17), (0, .nameAndType 18 12), (0, u "APPLICATION_UNSUPPORTED"), (0, .fieldref 8 20), (0, .nameAndType 21 12), (0, u "INVALID_AVP_VALUE"), (0, .fieldref 8 23), (0, .nameAndType 24 12), (0, u "MISSING_AVP"), (0, .fieldref 8 26), (0, .nameAndType 27 12), (0, u "NO_COMMON_APPLICATION"), (0, .fieldref 8 29), (0, .nameAndType 30 12), (0, u "UNABLE_TO_COMPLY"), (0, .fieldref 8 32), (0, .nameAndType 33 12), (0, u "INVALID_AVP_LENGTH"), (0, .methodref 8 35), (0, .nameAndType 36 37), (0, u "code"), (0, u "()I"), (0, .methodref 8 39), (0, .nameAndType 40 41), (0, u "isProtocolError"), (0, u "()Z"), (0, .class_ 43), (0, u "com/example/overage/overage/diameter/ResultCodeIsProtocolErrorPinLaw"), (2, u "law"), (0, u "(I)Z")] 3

def k1m0 : Method := { name := "<init>", desc := "()V", sig := { parameters := [], returnType := none }, accessFlags := 2, code := none }
def k1c1 : Code := { maxStack := 2, maxLocals := 6, code := code, exceptionTable := #[], attributes := #[] }
def k1m1 : Method := { name := "law", desc := "(I)Z", sig := { parameters := [.int], returnType := some .boolean }, accessFlags := 9, code := some k1c1 }
/-- com/example/overage/overage/diameter/ResultCodeIsProtocolErrorPinLaw -/
def k1 : Class := { plain "com/example/overage/overage/diameter/ResultCodeIsProtocolErrorPinLaw" (some 0) with
  accessFlags := 49
  interfaces := #[]
  cf := some (fileOf pool1 42 #[] #[{ accessFlags := 2, nameIndex := 5, descriptorIndex := 6, attributes := #[] }, { accessFlags := 9, nameIndex := 46, descriptorIndex := 47, attributes := #[] }] 49 2 #[] #[])
  fields := #[]
  methods := #[k1m0, k1m1]
  instanceTypes := #[]
  staticTypes := #[]
  resolved := Array.replicate 51 none
  statics := none }

def pool2 : Array CpInfo := pool [(1, .class_ 2), (0, u "java/lang/constant/Constable"), (0, .class_ 4), (0, u "java/lang/Object")] 6

/-- java/lang/constant/Constable -/
def k2 : Class := { plain "java/lang/constant/Constable" (some 0) with
  accessFlags := 1537
  interfaces := #[]
  cf := some (fileOf pool2 1 #[] #[] 1537 3 #[] #[])
  fields := #[]
  methods := #[]
  instanceTypes := #[]
  staticTypes := #[]
  resolved := Array.replicate 11 none
  statics := none }

def pool3 : Array CpInfo := pool [(1, .class_ 2), (0, u "java/lang/Comparable"), (0, .class_ 4), (0, u "java/lang/Object")] 7

/-- java/lang/Comparable -/
def k3 : Class := { plain "java/lang/Comparable" (some 0) with
  accessFlags := 1537
  interfaces := #[]
  cf := some (fileOf pool3 1 #[] #[] 1537 3 #[] #[])
  fields := #[]
  methods := #[]
  instanceTypes := #[]
  staticTypes := #[]
  resolved := Array.replicate 12 none
  statics := none }

def pool4 : Array CpInfo := pool [(1, .class_ 2), (0, u "java/io/Serializable"), (0, .class_ 4), (0, u "java/lang/Object")] 2

/-- java/io/Serializable -/
def k4 : Class := { plain "java/io/Serializable" (some 0) with
  accessFlags := 1537
  interfaces := #[]
  cf := some (fileOf pool4 1 #[] #[] 1537 3 #[] #[])
  fields := #[]
  methods := #[]
  instanceTypes := #[]
  staticTypes := #[]
  resolved := Array.replicate 7 none
  statics := none }

def pool5 : Array CpInfo := pool [(2, .class_ 4), (1, u "java/lang/Enum"), (0, u "name"), (0, u "Ljava/lang/String;"), (2, u "ordinal"), (0, u "I"), (1, .class_ 14), (1, u "java/lang/Object"), (4, u "hash"), (86, .class_ 108), (1, u "java/lang/Enum$EnumDesc"), (2, .class_ 112), (0, u "java/lang/constant/Constable"), (0, .class_ 114), (0, u "java/lang/Comparable"), (0, .class_ 116), (0, u "java/io/Serializable")] 87

/-- java/lang/Enum -/
def k5 : Class := { plain "java/lang/Enum" (some 0) with
  accessFlags := 1057
  interfaces := #[2, 3, 4]
  cf := some (fileOf pool5 2 #[.nestMembers #[106]] #[] 1057 12 #[111, 113, 115] #[{ accessFlags := 18, nameIndex := 5, descriptorIndex := 6, attributes := #[] }, { accessFlags := 18, nameIndex := 9, descriptorIndex := 10, attributes := #[] }, { accessFlags := 2, nameIndex := 19, descriptorIndex := 10, attributes := #[] }])
  fields := #[{ name := "name", type := (.object "java/lang/String"), accessFlags := 18, slot := 0, constantValue := 0 }, { name := "ordinal", type := .int, accessFlags := 18, slot := 1, constantValue := 0 }, { name := "hash", type := .int, accessFlags := 2, slot := 2, constantValue := 0 }]
  methods := #[]
  instanceTypes := #[(.object "java/lang/String"), .int, .int]
  staticTypes := #[]
  resolved := Array.replicate 204 none
  statics := none }

def pool6 : Array CpInfo := pool [(1, .class_ 2), (0, u "com/example/overage/overage/diameter/ResultCode"), (2, u "SUCCESS"), (0, u "Lcom/example/overage/overage/diameter/ResultCode;"), (2, u "COMMAND_UNSUPPORTED"), (2, u "APPLICATION_UNSUPPORTED"), (2, u "INVALID_AVP_VALUE"), (2, u "MISSING_AVP"), (2, u "NO_COMMON_APPLICATION"), (2, u "UNABLE_TO_COMPLY"), (2, u "INVALID_AVP_LENGTH"), (2, u "$VALUES"), (0, u "[Lcom/example/overage/overage/diameter/ResultCode;"), (6, .class_ 40), (1, u "java/lang/Enum"), (6, .fieldref 1 48), (0, .nameAndType 49 50), (0, u "code"), (0, u "I"), (30, u "()I"), (0, u "isProtocolError"), (0, u "()Z")] 22

def k6c0 : Code := { maxStack := 1, maxLocals := 1, code := prog_99_method_4_code, exceptionTable := #[], attributes := #[] }
def k6m0 : Method := { name := "code", desc := "()I", sig := { parameters := [], returnType := some .int }, accessFlags := 0, code := some k6c0 }
def k6c1 : Code := { maxStack := 2, maxLocals := 1, code := prog_99_method_5_code, exceptionTable := #[], attributes := #[] }
def k6m1 : Method := { name := "isProtocolError", desc := "()Z", sig := { parameters := [], returnType := some .boolean }, accessFlags := 0, code := some k6c1 }
/-- com/example/overage/overage/diameter/ResultCode -/
def k6 : Class := { plain "com/example/overage/overage/diameter/ResultCode" (some 5) with
  accessFlags := 16432
  interfaces := #[]
  cf := some (fileOf pool6 1 #[] #[{ accessFlags := 0, nameIndex := 49, descriptorIndex := 81, attributes := #[] }, { accessFlags := 0, nameIndex := 82, descriptorIndex := 83, attributes := #[] }] 16432 38 #[] #[{ accessFlags := 16409, nameIndex := 5, descriptorIndex := 6, attributes := #[] }, { accessFlags := 16409, nameIndex := 9, descriptorIndex := 6, attributes := #[] }, { accessFlags := 16409, nameIndex := 12, descriptorIndex := 6, attributes := #[] }, { accessFlags := 16409, nameIndex := 15, descriptorIndex := 6, attributes := #[] }, { accessFlags := 16409, nameIndex := 18, descriptorIndex := 6, attributes := #[] }, { accessFlags := 16409, nameIndex := 21, descriptorIndex := 6, attributes := #[] }, { accessFlags := 16409, nameIndex := 24, descriptorIndex := 6, attributes := #[] }, { accessFlags := 16409, nameIndex := 27, descriptorIndex := 6, attributes := #[] }, { accessFlags := 18, nameIndex := 49, descriptorIndex := 50, attributes := #[] }, { accessFlags := 4122, nameIndex := 30, descriptorIndex := 31, attributes := #[] }])
  fields := #[{ name := "SUCCESS", type := (.object "com/example/overage/overage/diameter/ResultCode"), accessFlags := 16409, slot := 0, constantValue := 0 }, { name := "COMMAND_UNSUPPORTED", type := (.object "com/example/overage/overage/diameter/ResultCode"), accessFlags := 16409, slot := 1, constantValue := 0 }, { name := "APPLICATION_UNSUPPORTED", type := (.object "com/example/overage/overage/diameter/ResultCode"), accessFlags := 16409, slot := 2, constantValue := 0 }, { name := "INVALID_AVP_VALUE", type := (.object "com/example/overage/overage/diameter/ResultCode"), accessFlags := 16409, slot := 3, constantValue := 0 }, { name := "MISSING_AVP", type := (.object "com/example/overage/overage/diameter/ResultCode"), accessFlags := 16409, slot := 4, constantValue := 0 }, { name := "NO_COMMON_APPLICATION", type := (.object "com/example/overage/overage/diameter/ResultCode"), accessFlags := 16409, slot := 5, constantValue := 0 }, { name := "UNABLE_TO_COMPLY", type := (.object "com/example/overage/overage/diameter/ResultCode"), accessFlags := 16409, slot := 6, constantValue := 0 }, { name := "INVALID_AVP_LENGTH", type := (.object "com/example/overage/overage/diameter/ResultCode"), accessFlags := 16409, slot := 7, constantValue := 0 }, { name := "code", type := .int, accessFlags := 18, slot := 3, constantValue := 0 }, { name := "$VALUES", type := (.array (.object "com/example/overage/overage/diameter/ResultCode")), accessFlags := 4122, slot := 8, constantValue := 0 }]
  methods := #[k6m0, k6m1]
  instanceTypes := #[(.object "java/lang/String"), .int, .int, .int]
  staticTypes := #[(.object "com/example/overage/overage/diameter/ResultCode"), (.object "com/example/overage/overage/diameter/ResultCode"), (.object "com/example/overage/overage/diameter/ResultCode"), (.object "com/example/overage/overage/diameter/ResultCode"), (.object "com/example/overage/overage/diameter/ResultCode"), (.object "com/example/overage/overage/diameter/ResultCode"), (.object "com/example/overage/overage/diameter/ResultCode"), (.object "com/example/overage/overage/diameter/ResultCode"), (.array (.object "com/example/overage/overage/diameter/ResultCode"))]
  resolved := Array.replicate 106 none
  statics := some 0 }

def pool7 : Array CpInfo := pool [(1, u "java/lang/Cloneable"), (0, .class_ 1), (0, u "java/lang/Object"), (0, .class_ 3)] 3

/-- java/lang/Cloneable -/
def k7 : Class := { plain "java/lang/Cloneable" (some 0) with
  accessFlags := 1537
  interfaces := #[]
  cf := some (fileOf pool7 2 #[] #[] 1537 4 #[] #[])
  fields := #[]
  methods := #[]
  instanceTypes := #[]
  staticTypes := #[]
  resolved := Array.replicate 8 none
  statics := none }

/-- the primitive byte -/
def k8 : Class := { plain "byte" none with kind := .primitive 'B', accessFlags := 0x411 }
/-- [B -/
def k9 : Class := { plain "[B" (some 0) with kind := .array 8 .byte, interfaces := #[7, 4], accessFlags := 1041 }

/-- the primitive int -/
def k10 : Class := { plain "int" none with kind := .primitive 'I', accessFlags := 0x411 }
/-- [I -/
def k11 : Class := { plain "[I" (some 0) with kind := .array 10 .int, interfaces := #[7, 4], accessFlags := 1041 }

def heap : Heap := #[{ cls := 6, slots := #[.ref 1, .ref 6, .ref 5, .ref 2, .ref 7, .ref 8, .ref 3, .ref 4, .null], vm := .statics 6 },
  { cls := 6, slots := #[.null, .int 0, .int 0, .int 2001], vm := .none },
  { cls := 6, slots := #[.null, .int 1, .int 0, .int 5004], vm := .none },
  { cls := 6, slots := #[.null, .int 2, .int 0, .int 5012], vm := .none },
  { cls := 6, slots := #[.null, .int 3, .int 0, .int 5014], vm := .none },
  { cls := 6, slots := #[.null, .int 4, .int 0, .int 3007], vm := .none },
  { cls := 6, slots := #[.null, .int 5, .int 0, .int 3001], vm := .none },
  { cls := 6, slots := #[.null, .int 6, .int 0, .int 5005], vm := .none },
  { cls := 6, slots := #[.null, .int 7, .int 0, .int 5010], vm := .none }]
def classes : Array Class := #[k0, k1, k2, k3, k4, k5, k6, k7, k8, k9, k10, k11]
def interned : List (Array UInt16 × Addr) := []
def slotsUsed : Nat := 41
def theMethod : MethodId := ⟨1, 1⟩
def args0 : Array Value := #[.int 5]
def aboutOver (below : List Frame) : State where
  vm := { classes := classes, interned := interned.toArray }
  heap := heap
  slotsUsed := slotsUsed
  threads := #[{ frames := .invoking theMethod args0 :: below }]
def below0 : List Frame := [.native { method := ⟨0, 0⟩, args := #[] }]
def about1 : State := aboutOver below0
def p0 : Program := .bare "" "" ""
def e0 : Env := launch0.env 0 0 0
theorem w_frames : about1.frames = Frame.invoking theMethod args0 :: below0 := rfl
set_option maxRecDepth 65536 in
theorem w_args : argsFit about1.vm theMethod args0 = true := by decide +kernel
set_option maxRecDepth 65536 in
theorem w_heap : heapFits about1 = true := by decide +kernel
set_option maxRecDepth 65536 in
theorem w_runnable : about1.curStatus? = some .runnable := by decide +kernel
set_option maxRecDepth 65536 in
theorem w_alone : about1.alone = true := by decide +kernel
set_option maxRecDepth 65536 in
theorem w_named : about1.methodNamed? x = some theMethod := by decide +kernel
set_option maxRecDepth 65536 in
theorem w_hears : about1.hears theMethod below0 = true := by decide +kernel
set_option maxRecDepth 65536 in
theorem w_ripe : about1.ripe theMethod args0 below0 = true := by decide +kernel
theorem w_running : about1.status = .running := rfl
set_option maxRecDepth 65536 in
theorem w_room : about1.hasRoom e0.platform room_1 = true :=
  launch0.hasRoom_least _ room_1 (by decide +kernel) (by decide +kernel) (by decide +kernel) (by decide +kernel) (by decide +kernel) (by decide +kernel)
theorem allAtoms_all (ts : List Jvm.Cond) (a : Array Jvm.Value) (st : Jvm.State) : (allAtoms ts).before a st = ts.all (fun c => c.before a st) := by
  induction ts with
  | nil => rfl
  | cons c t ih =>
    show (Jvm.Cond.and c (allAtoms t)).before a st = _
    rw [Jvm.Cond.before_and, ih, List.all_cons]
def words1 : List Jvm.Cond := Jvm.Cond.code x code maxLocals ret :: tables_1
/-- a 'code' word, met by the world's own term for the bytes: nothing is compared byte by byte -/
theorem code_word {y : MethodName} {bytes : ByteArray} {mx : Nat} {rt : Option FieldType} {a : Array Value} {s : State} {m : MethodId} {meth : Method} {c : Code} (h1 : s.methodNamed? y = some m) (h2 : s.vm.method? m = some meth) (h3 : meth.code = some c) (h4 : c.code = bytes)
    (h5 : (c.maxLocals == mx && c.exceptionTable.isEmpty && decide (c.maxStack ≤ mostOperands) && decide (meth.sig.returnType = rt) && !meth.locks && decide (parseMethodDescriptor y.desc = some meth.sig)) = true) : (Jvm.Cond.code y bytes mx rt).before a s = true := by
  simp only [Bool.and_eq_true, beq_iff_eq, Bool.not_eq_true', decide_eq_true_eq] at h5
  obtain ⟨⟨⟨⟨⟨g1, g2⟩, g3⟩, g4⟩, g5⟩, g6⟩ := h5
  simp [Cond.before, Cond.holds, Cond.value, h1, h2, h3, h4, g1, g2, g3, g4, g5, g6]
def isCode : Jvm.Cond → Bool
  | .code _ _ _ _ => true
  | _ => false
theorem all_split {L : List Jvm.Cond} {P : Jvm.Cond → Bool} (h1 : L.all (fun c => isCode c || P c) = true) (h2 : ∀ c ∈ L.filter isCode, P c = true) : L.all P = true := by
  refine List.all_eq_true.mpr fun c hc => ?_
  have h := List.all_eq_true.mp h1 c hc
  rcases Bool.eq_false_or_eq_true (isCode c) with hi | hi
  · exact h2 c (List.mem_filter.mpr ⟨hc, hi⟩)
  · simpa [hi] using h
set_option maxRecDepth 65536 in
theorem w_c0 : (Jvm.Cond.code x code maxLocals ret).before args0 about1 = true := code_word (m := ⟨1, 1⟩) (meth := k1m1) (c := k1c1) (by decide +kernel) rfl rfl rfl (by decide +kernel)
set_option maxRecDepth 65536 in
theorem w_c1 : (Jvm.Cond.code ({ cls := "com/example/overage/overage/diameter/ResultCode", name := "code", desc := "()I" } : Jvm.MethodName) prog_99_method_4_code (1 : Nat) (Option.some Jvm.ClassFile.FieldType.int)).before args0 about1 = true := code_word (m := ⟨6, 0⟩) (meth := k6m0) (c := k6c0) (by decide +kernel) rfl rfl rfl (by decide +kernel)
set_option maxRecDepth 65536 in
theorem w_c2 : (Jvm.Cond.code ({ cls := "com/example/overage/overage/diameter/ResultCode", name := "isProtocolError", desc := "()Z" } : Jvm.MethodName) prog_99_method_5_code (1 : Nat) (Option.some Jvm.ClassFile.FieldType.boolean)).before args0 about1 = true := code_word (m := ⟨6, 1⟩) (meth := k6m1) (c := k6c1) (by decide +kernel) rfl rfl rfl (by decide +kernel)
def codes1 : List Jvm.Cond := [Jvm.Cond.code x code maxLocals ret, Jvm.Cond.code ({ cls := "com/example/overage/overage/diameter/ResultCode", name := "code", desc := "()I" } : Jvm.MethodName) prog_99_method_4_code (1 : Nat) (Option.some Jvm.ClassFile.FieldType.int), Jvm.Cond.code ({ cls := "com/example/overage/overage/diameter/ResultCode", name := "isProtocolError", desc := "()Z" } : Jvm.MethodName) prog_99_method_5_code (1 : Nat) (Option.some Jvm.ClassFile.FieldType.boolean)]
set_option maxRecDepth 65536 in
theorem codes_eq : words1.filter isCode = codes1 := rfl
theorem w_codes : ∀ c ∈ words1.filter isCode, c.before args0 about1 = true := by
  rw [codes_eq]
  intro c hc
  simp only [codes1, List.mem_cons, List.not_mem_nil, or_false] at hc
  rcases hc with rfl | rfl | rfl
  · exact w_c0
  · exact w_c1
  · exact w_c2
set_option maxRecDepth 65536 in
theorem w_t1 : (words1.take 24).all (fun c => isCode c || c.before args0 about1) = true := by decide +kernel
set_option maxRecDepth 65536 in
theorem w_t2 : (words1.drop 24).all (fun c => isCode c || c.before args0 about1) = true := by decide +kernel
theorem w_tables : (allAtoms (Jvm.Cond.code x code maxLocals ret :: tables_1)).before args0 about1 = true := by
  rw [allAtoms_all]
  show words1.all (fun c => c.before args0 about1) = true
  refine all_split ?_ w_codes
  rw [← List.take_append_drop 24 words1, List.all_append, w_t1, w_t2]
  rfl
set_option maxRecDepth 65536 in
theorem w_case : (Jvm.Cond.and given_1 narrow_1).before args0 about1 = true := by decide +kernel
theorem w_applies : (headSpec (Jvm.Cond.code x code maxLocals ret :: tables_1) room_1).applies x e0.platform about1 = true :=
  (Spec.applies_iff w_frames).mpr ⟨w_running, w_runnable, w_alone, w_named, w_hears, w_ripe, w_room, w_tables⟩
theorem atStart : AtStart classFile x code maxLocals ret World_1 tables_1 room_1 Calls_1 rest_1 Pre_1 launch0 p0 e0 about1 theMethod args0 below0 :=
  ⟨lists_1, trivial, launch0.admits_env _ _ _, launch0.least_env, fairChoices_fair.cas, fairChoices_fair.clock, w_frames, w_args, w_heap, w_applies, trivial, trivial, w_case⟩
end start1
theorem witness_1 : WitnessClaimed_1 := ⟨start1.p0, start1.e0, start1.about1, start1.theMethod, start1.args0, start1.below0, start1.atStart⟩
end Jvm.Pilot.@@N@@
