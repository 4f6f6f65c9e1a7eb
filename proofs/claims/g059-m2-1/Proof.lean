import JvmDerived
import JvmDerived.Pilot.@@N@@Statement
import JvmDerived.Pilot.@@N@@Code
set_option linter.unusedVariables false
set_option linter.unusedSimpArgs false
namespace Jvm.Pilot.@@N@@
open Jvm Jvm.ClassFile Sem Op Lib Jvm.Free Jvm.Stand Jvm.LawKit Jvm.RoadKit Bundle Jvm.Pilot.@@N@@.Jvm.D
theorem own_nn (a : Int64) : ¬ (a &&& (9223372036854775807 : Int64)) < (0 : Int64) := by
  have h := c_maskL a (9223372036854775807 : Int64) 63 (by decide) (by decide)
  rw [Int64.lt_iff_toInt_lt, show (0 : Int64).toInt = 0 from rfl]; omega
theorem d1_0 : decode prog_9_method_1_code 0 = .ok (.aload_n 0, 1) := by decide +kernel
theorem d1_1 : decode prog_9_method_1_code 1 = .ok (.invokespecial 1, 3) := by decide +kernel
theorem d1_4 : decode prog_9_method_1_code 4 = .ok (.aload_n 0, 1) := by decide +kernel
theorem d1_5 : decode prog_9_method_1_code 5 = .ok (.ldc2_w 9, 3) := by decide +kernel
theorem d1_8 : decode prog_9_method_1_code 8 = .ok (.putfield 11, 3) := by decide +kernel
theorem d1_11 : decode prog_9_method_1_code 11 = .ok (.return_, 1) := by decide +kernel
theorem pn_1 : plainName "com/example/inject2/inject2/DefaultLifecycleProcessor" = true := by first | (simp [plainName, overriddenIn]; done) | decide +kernel
theorem ef_1 (m : MethodId) (x0 : Addr) : entryFrame m #[(.ref x0)] 1 = mkF m 0 #[.val (.ref x0)] [] := by first | (simp [entryFrame, mkF, argsToLocals, Value.category]; done) | rfl
def Q1 (Z : State) (a : Addr) (h0 : Heap) (n0 : Nat) (v : Option Value) (h : Heap) (L : List Loc) : Prop := v = none ∧ Fr n0 L ∧ Keep h0 h [a] ∧ Fld Z h a "com/example/inject2/inject2/DefaultLifecycleProcessor" "timeoutPerShutdownPhase" "J" (.long (30000 : Int64))
set_option maxRecDepth 65536 in
set_option maxHeartbeats 40000000 in
theorem rm1 (l : Launch) (Z : State) (a0 : Array Value) (hw : ∀ d ∈ tables_1, d.before a0 Z = true) (ws : List Jvm.Cond) (a : Addr) (h0 : Heap) (n0 : Nat) (Z0 : n0 ≤ h0.size) (E_a : Exa Z h0 a "com/example/inject2/inject2/DefaultLifecycleProcessor") (F_timeoutPerShutdownPhase_a : Fld Z h0 a "com/example/inject2/inject2/DefaultLifecycleProcessor" "timeoutPerShutdownPhase" "J" (.long (0 : Int64))) (g_a : n0 ≤ a) :
    MetFree l (⟨"com/example/inject2/inject2/DefaultLifecycleProcessor", "<init>", "()V"⟩ : MethodName) (head1 (Jvm.Cond.code (⟨"com/example/inject2/inject2/DefaultLifecycleProcessor", "<init>", "()V"⟩ : MethodName) prog_9_method_1_code 1 none :: ws) ({ frames := 1, cells := 0, slots := 0, locals := 12 } : Room)) (fun ar U => ar = #[(.ref a)] ∧ Z.Warmed39 U.vm ∧ U.heap = h0) (fun _ _ _ _ _ => True) (fun _ U o U' => ∃ v L, o = .returned v ∧ Q1 Z a h0 n0 v U'.heap L ∧ FrameEnd U o U' L ({ frames := 1, cells := 0, slots := 0, locals := 12 } : Room).cells ({ frames := 1, cells := 0, slots := 0, locals := 12 } : Room).slots) := by
  refine MetFree.of_bodySF (plainFor_of_name pn_1) hisR ?_
  intro p e s m args below meth c s₁ Bd hml0 hP hK
  obtain ⟨rfl, hZ, hh⟩ := hP
  have hx := Bd.exec
  have hby := Bd.bytes
  have hml : c.maxLocals = 1 := hml0
  have hown : s.vm.findClass "com/example/inject2/inject2/DefaultLifecycleProcessor" = some m.cls := findClass_of_methodNamed Bd.named
  have hnm := (name_of_methodNamed Bd.named Bd.method).1
  have X0 : Stand p l e ({ frames := 1, cells := 0, slots := 0, locals := 12 } : Room) s m #[(.ref a)] below meth c s₁ [] 0 0 := Stand.of_body Bd
  have e0 : s₁.heap = h0 := by rw [← hh, Bd.state]; rfl
  have N0 := Fr.nil n0
  have K0 : Keep h0 h0 [a] := Keep.refl h0 _
  have pre0 : ∀ t, Steps p.tables e below (s₁.setTop (mkF m 0 #[.val (.ref a)] [])) t → Steps p.tables e below (s₁.setTop (entryFrame m #[(.ref a)] 1)) t := fun t k => castTop (ef_1 m a) k
  obtain ⟨T1, X1, e1, st1⟩ := initO X0 hx hZ hown (hw _ (List.mem_of_getElem? (i := 6) rfl)) (hw _ (List.mem_of_getElem? (i := 7) rfl)) (hw _ (List.mem_of_getElem? (i := 8) rfl)) e0 (g := (mkF m 1 #[.val (.ref a)] [(.ref a)])) rfl (by rw [hml]; rfl) rfl (hb hby d1_1) (by decide) (W := 0) (by show 2 * 0 + _ ≤ _; exact Nat.le_of_eq rfl) (by decide)
  obtain ⟨T2, h2, X2, e2, W2, st2⟩ := putF X1 hx hZ hown (host := "") (Or.inl (hw _ (List.mem_of_getElem? (i := 10) rfl))) Via.refl e1 F_timeoutPerShutdownPhase_a E_a (Or.inl (hw _ (List.mem_of_getElem? (i := 11) rfl))) (hw _ (List.mem_of_getElem? (i := 1) rfl)) (ty := .long) (by decide) rfl rfl (g := (mkF m 8 #[.val (.ref a)] [(.long (30000 : Int64)), (.ref a)])) rfl rfl (hb hby d1_8)
  have E_a := E_a.wr W2
  have F_timeoutPerShutdownPhase_a := F_timeoutPerShutdownPhase_a.same W2
  have Zs2 : n0 ≤ h2.size := Nat.le_trans Z0 (Keep.of_wr W2).1
  have K2 : Keep h0 h2 [a] := K0.wr W2 (Or.inl (List.mem_of_getElem? (i := 0) rfl))
  have N2 := Fr.snoc X2 N0 g_a
  obtain ⟨fs, hr, hrun, hended, hW, hsame⟩ := X2.leave (v := none) (fun _ => rfl)
  refine ⟨_, _, pre0 _ ?_, hrun, hended, _, _, rfl, ?_, ⟨_, rfl⟩, hW, hsame.mono (by decide) (by decide)⟩
  · show Steps p.tables e below (s₁.setTop (mkF m 0 #[.val (.ref a)] [])) _
    refine XS.aloadN X0.here hx rfl (hb hby d1_0) rfl rfl ?_
    show Steps p.tables e below (s₁.setTop (mkF m 1 #[.val (.ref a)] [(.ref a)])) _
    refine st1 _ ?_
    show Steps p.tables e below (T1.setTop (mkF m 4 #[.val (.ref a)] [])) _
    refine XS.aloadN X1.here hx rfl (hb hby d1_4) rfl rfl ?_
    show Steps p.tables e below (T1.setTop (mkF m 5 #[.val (.ref a)] [(.ref a)])) _
    refine X1.ldc2Long hx hown (mvT hZ (hw _ (List.mem_of_getElem? (i := 9) rfl))) (g := (mkF m 5 #[.val (.ref a)] [(.ref a)])) rfl (hb hby d1_5) _ ?_
    show Steps p.tables e below (T1.setTop (mkF m 8 #[.val (.ref a)] [(.long (30000 : Int64)), (.ref a)])) _
    refine st2 _ ?_
    show Steps p.tables e below (T2.setTop (mkF m 11 #[.val (.ref a)] [])) _
    exact X2.returnOut hx Bd.returns (hb hby d1_11) hr
  · show Q1 Z a h0 n0 _ T2.heap _
    rw [e2]
    exact ⟨rfl, N2, K2, F_timeoutPerShutdownPhase_a⟩
theorem d3_0 : decode prog_9_method_2_code 0 = .ok (.aload_n 0, 1) := by decide +kernel
theorem d3_1 : decode prog_9_method_2_code 1 = .ok (.getfield 11, 3) := by decide +kernel
theorem d3_4 : decode prog_9_method_2_code 4 = .ok (.lreturn, 1) := by decide +kernel
theorem pn_3 : plainName "com/example/inject2/inject2/DefaultLifecycleProcessor" = true := by first | (simp [plainName, overriddenIn]; done) | decide +kernel
theorem ef_3 (m : MethodId) (x0 : Addr) : entryFrame m #[(.ref x0)] 1 = mkF m 0 #[.val (.ref x0)] [] := by first | (simp [entryFrame, mkF, argsToLocals, Value.category]; done) | rfl
def Q3 (Z : State) (a : Addr) (t' : Int64) (h0 : Heap) (n0 : Nat) (v : Option Value) (h : Heap) (L : List Loc) : Prop := v = some (.long t') ∧ Fr n0 L ∧ h = h0
set_option maxRecDepth 65536 in
set_option maxHeartbeats 40000000 in
theorem rm3 (l : Launch) (Z : State) (a0 : Array Value) (hw : ∀ d ∈ tables_1, d.before a0 Z = true) (ws : List Jvm.Cond) (a : Addr) (t' : Int64) (h0 : Heap) (n0 : Nat) (Z0 : n0 ≤ h0.size) (F_timeoutPerShutdownPhase_a : Fld Z h0 a "com/example/inject2/inject2/DefaultLifecycleProcessor" "timeoutPerShutdownPhase" "J" (.long t')) :
    MetFree l (⟨"com/example/inject2/inject2/DefaultLifecycleProcessor", "getTimeoutPerShutdownPhase", "()J"⟩ : MethodName) (head1 (Jvm.Cond.code (⟨"com/example/inject2/inject2/DefaultLifecycleProcessor", "getTimeoutPerShutdownPhase", "()J"⟩ : MethodName) prog_9_method_2_code 1 (some .long) :: ws) ({ frames := 0, cells := 0, slots := 0, locals := 0 } : Room)) (fun ar U => ar = #[(.ref a)] ∧ Z.Warmed39 U.vm ∧ U.heap = h0) (fun _ _ _ _ _ => True) (fun _ U o U' => ∃ v L, o = .returned v ∧ Q3 Z a t' h0 n0 v U'.heap L ∧ FrameEnd U o U' L ({ frames := 0, cells := 0, slots := 0, locals := 0 } : Room).cells ({ frames := 0, cells := 0, slots := 0, locals := 0 } : Room).slots) := by
  refine MetFree.of_bodySF (plainFor_of_name pn_3) hisR ?_
  intro p e s m args below meth c s₁ Bd hml0 hP hK
  obtain ⟨rfl, hZ, hh⟩ := hP
  have hx := Bd.exec
  have hby := Bd.bytes
  have hml : c.maxLocals = 1 := hml0
  have hown : s.vm.findClass "com/example/inject2/inject2/DefaultLifecycleProcessor" = some m.cls := findClass_of_methodNamed Bd.named
  have hnm := (name_of_methodNamed Bd.named Bd.method).1
  have X0 : Stand p l e ({ frames := 0, cells := 0, slots := 0, locals := 0 } : Room) s m #[(.ref a)] below meth c s₁ [] 0 0 := Stand.of_body Bd
  have e0 : s₁.heap = h0 := by rw [← hh, Bd.state]; rfl
  have N0 := Fr.nil n0
  have K0 : Keep h0 h0 [] := Keep.refl h0 _
  have pre0 : ∀ t, Steps p.tables e below (s₁.setTop (mkF m 0 #[.val (.ref a)] [])) t → Steps p.tables e below (s₁.setTop (entryFrame m #[(.ref a)] 1)) t := fun t k => castTop (ef_3 m a) k
  obtain ⟨T1, X1, e1, st1⟩ := getF X0 hx hZ hown (host := "") (Or.inl (hw _ (List.mem_of_getElem? (i := 10) rfl))) Via.refl e0 F_timeoutPerShutdownPhase_a (g := (mkF m 1 #[.val (.ref a)] [(.ref a)])) rfl rfl (hb hby d3_1)
  obtain ⟨fs, hr, hrun, hended, hW, hsame⟩ := X1.leave (v := some (.long t')) (fun h => by rw [Bd.returns] at h; cases h)
  refine ⟨_, _, pre0 _ ?_, hrun, hended, _, _, rfl, ?_, ⟨_, rfl⟩, hW, hsame.mono (by decide) (by decide)⟩
  · show Steps p.tables e below (s₁.setTop (mkF m 0 #[.val (.ref a)] [])) _
    refine XS.aloadN X0.here hx rfl (hb hby d3_0) rfl rfl ?_
    show Steps p.tables e below (s₁.setTop (mkF m 1 #[.val (.ref a)] [(.ref a)])) _
    refine st1 _ ?_
    show Steps p.tables e below (T1.setTop (mkF m 4 #[.val (.ref a)] [(.long t')])) _
    exact retOut X1 hx Bd.returns rfl (Or.inr (Or.inl ⟨rfl, rfl, _, rfl⟩)) (hb hby d3_4) hr
  · show Q3 Z a t' h0 n0 _ T1.heap _
    rw [e1]
    exact ⟨rfl, N0, rfl⟩
theorem d4_0 : decode prog_9_method_3_code 0 = .ok (.lload_n 1, 1) := by decide +kernel
theorem d4_1 : decode prog_9_method_3_code 1 = .ok (.lconst 0, 1) := by decide +kernel
theorem d4_2 : decode prog_9_method_3_code 2 = .ok (.lcmp, 1) := by decide +kernel
theorem d4_3 : decode prog_9_method_3_code 3 = .ok (.ifCond .ge 17, 3) := by decide +kernel
theorem d4_20 : decode prog_9_method_3_code 20 = .ok (.aload_n 0, 1) := by decide +kernel
theorem d4_21 : decode prog_9_method_3_code 21 = .ok (.lload_n 1, 1) := by decide +kernel
theorem d4_22 : decode prog_9_method_3_code 22 = .ok (.putfield 11, 3) := by decide +kernel
theorem d4_25 : decode prog_9_method_3_code 25 = .ok (.return_, 1) := by decide +kernel
theorem pn_4 : plainName "com/example/inject2/inject2/DefaultLifecycleProcessor" = true := by first | (simp [plainName, overriddenIn]; done) | decide +kernel
theorem ef_4 (m : MethodId) (x0 : Addr) (x1 : Int64) : entryFrame m #[(.ref x0), (.long x1)] 3 = mkF m 0 #[.val (.ref x0), .val (.long x1), .second] [] := by first | (simp [entryFrame, mkF, argsToLocals, Value.category]; done) | rfl
def Q4 (Z : State) (a : Addr) (t' : Int64) (h0 : Heap) (n0 : Nat) (v : Option Value) (h : Heap) (L : List Loc) : Prop := v = none ∧ Fr n0 L ∧ Keep h0 h [a] ∧ Fld Z h a "com/example/inject2/inject2/DefaultLifecycleProcessor" "timeoutPerShutdownPhase" "J" (.long t')
set_option maxRecDepth 65536 in
set_option maxHeartbeats 40000000 in
theorem rm4 (l : Launch) (Z : State) (a0 : Array Value) (hw : ∀ d ∈ tables_1, d.before a0 Z = true) (ws : List Jvm.Cond) (a : Addr) (t' : Int64) (h0 : Heap) (n0 : Nat) (Z0 : n0 ≤ h0.size) (u' : Int64) (E_a : Exa Z h0 a "com/example/inject2/inject2/DefaultLifecycleProcessor") (F_timeoutPerShutdownPhase_a : Fld Z h0 a "com/example/inject2/inject2/DefaultLifecycleProcessor" "timeoutPerShutdownPhase" "J" (.long u')) (g_a : n0 ≤ a) (hn : ¬ t' < (0 : Int64)) :
    MetFree l (⟨"com/example/inject2/inject2/DefaultLifecycleProcessor", "setTimeoutPerShutdownPhase", "(J)V"⟩ : MethodName) (head1 (Jvm.Cond.code (⟨"com/example/inject2/inject2/DefaultLifecycleProcessor", "setTimeoutPerShutdownPhase", "(J)V"⟩ : MethodName) prog_9_method_3_code 3 none :: ws) ({ frames := 0, cells := 0, slots := 0, locals := 0 } : Room)) (fun ar U => ar = #[(.ref a), (.long t')] ∧ Z.Warmed39 U.vm ∧ U.heap = h0) (fun _ _ _ _ _ => True) (fun _ U o U' => ∃ v L, o = .returned v ∧ Q4 Z a t' h0 n0 v U'.heap L ∧ FrameEnd U o U' L ({ frames := 0, cells := 0, slots := 0, locals := 0 } : Room).cells ({ frames := 0, cells := 0, slots := 0, locals := 0 } : Room).slots) := by
  refine MetFree.of_bodySF (plainFor_of_name pn_4) hisR ?_
  intro p e s m args below meth c s₁ Bd hml0 hP hK
  obtain ⟨rfl, hZ, hh⟩ := hP
  have hx := Bd.exec
  have hby := Bd.bytes
  have hml : c.maxLocals = 3 := hml0
  have hown : s.vm.findClass "com/example/inject2/inject2/DefaultLifecycleProcessor" = some m.cls := findClass_of_methodNamed Bd.named
  have hnm := (name_of_methodNamed Bd.named Bd.method).1
  have X0 : Stand p l e ({ frames := 0, cells := 0, slots := 0, locals := 0 } : Room) s m #[(.ref a), (.long t')] below meth c s₁ [] 0 0 := Stand.of_body Bd
  have e0 : s₁.heap = h0 := by rw [← hh, Bd.state]; rfl
  have N0 := Fr.nil n0
  have K0 : Keep h0 h0 [a] := Keep.refl h0 _
  have pre0 : ∀ t, Steps p.tables e below (s₁.setTop (mkF m 0 #[.val (.ref a), .val (.long t'), .second] [])) t → Steps p.tables e below (s₁.setTop (entryFrame m #[(.ref a), (.long t')] 3)) t := fun t k => castTop (ef_4 m a t') k
  obtain ⟨T1, h1, X1, e1, W1, st1⟩ := putF X0 hx hZ hown (host := "") (Or.inl (hw _ (List.mem_of_getElem? (i := 10) rfl))) Via.refl e0 F_timeoutPerShutdownPhase_a E_a (Or.inl (hw _ (List.mem_of_getElem? (i := 11) rfl))) (hw _ (List.mem_of_getElem? (i := 1) rfl)) (ty := .long) (by decide) rfl rfl (g := (mkF m 22 #[.val (.ref a), .val (.long t'), .second] [(.long t'), (.ref a)])) rfl rfl (hb hby d4_22)
  have E_a := E_a.wr W1
  have F_timeoutPerShutdownPhase_a := F_timeoutPerShutdownPhase_a.same W1
  have Zs1 : n0 ≤ h1.size := Nat.le_trans Z0 (Keep.of_wr W1).1
  have K1 : Keep h0 h1 [a] := K0.wr W1 (Or.inl (List.mem_of_getElem? (i := 0) rfl))
  have N1 := Fr.snoc X1 N0 g_a
  obtain ⟨fs, hr, hrun, hended, hW, hsame⟩ := X1.leave (v := none) (fun _ => rfl)
  refine ⟨_, _, pre0 _ ?_, hrun, hended, _, _, rfl, ?_, ⟨_, rfl⟩, hW, hsame.mono (by decide) (by decide)⟩
  · show Steps p.tables e below (s₁.setTop (mkF m 0 #[.val (.ref a), .val (.long t'), .second] [])) _
    refine XS.lloadN X0.here hx rfl (hb hby d4_0) rfl ?_
    show Steps p.tables e below (s₁.setTop (mkF m 1 #[.val (.ref a), .val (.long t'), .second] [(.long t')])) _
    refine XS.lconst X0.here hx rfl (hb hby d4_1) ?_
    show Steps p.tables e below (s₁.setTop (mkF m 2 #[.val (.ref a), .val (.long t'), .second] [(.long (0 : Int64)), (.long t')])) _
    refine XS.lcmp X0.here hx rfl (hb hby d4_2) rfl ?_
    show Steps p.tables e below (s₁.setTop (mkF m 3 #[.val (.ref a), .val (.long t'), .second] [(.int (lcmpW t' (0 : Int64)))])) _
    refine XS.ifYes X0.here hx rfl (pc0 := 3) (pc' := 20) rfl (hb hby d4_3) rfl ((if0 _ _).trans (flt (fun q => hn ((lw_lt t' (0 : Int64)).mp q))).2.1) (by decide) (by decide) ?_
    show Steps p.tables e below (s₁.setTop (mkF m 20 #[.val (.ref a), .val (.long t'), .second] [])) _
    refine XS.aloadN X0.here hx rfl (hb hby d4_20) rfl rfl ?_
    show Steps p.tables e below (s₁.setTop (mkF m 21 #[.val (.ref a), .val (.long t'), .second] [(.ref a)])) _
    refine XS.lloadN X0.here hx rfl (hb hby d4_21) rfl ?_
    show Steps p.tables e below (s₁.setTop (mkF m 22 #[.val (.ref a), .val (.long t'), .second] [(.long t'), (.ref a)])) _
    refine st1 _ ?_
    show Steps p.tables e below (T1.setTop (mkF m 25 #[.val (.ref a), .val (.long t'), .second] [])) _
    exact X1.returnOut hx Bd.returns (hb hby d4_25) hr
  · show Q4 Z a t' h0 n0 _ T1.heap _
    rw [e1]
    exact ⟨rfl, N1, K1, F_timeoutPerShutdownPhase_a⟩
theorem pn_0 : plainName "com/example/inject2/inject2/DefaultLifecycleProcessorSetTimeoutPerShutdownPhasePinLaw" = true := by first | (simp [plainName, overriddenIn]; done) | decide +kernel
theorem pd0_0 : parseMethodDescriptor "()V" = some ⟨[], none⟩ := by decide +kernel
theorem pd0_1 : parseMethodDescriptor "()J" = some ⟨[], some .long⟩ := by decide +kernel
theorem pd0_2 : parseMethodDescriptor "(J)V" = some ⟨[.long], none⟩ := by decide +kernel
theorem ef_0 (m : MethodId) (x0 : Int64) (x1 : Int64) (x2 : Int32) : entryFrame m #[(.long x0), (.long x1), (.int x2)] maxLocals = mkF m 0 #[.val (.long x0), .second, .val (.long x1), .second, .val (.int x2), .unset, .unset, .unset, .unset, .unset, .unset] [] := by first | (simp [entryFrame, mkF, argsToLocals, Value.category, maxLocals]; done) | rfl
def Q0 (Z : State) (a' : Int64) (b' : Int64) (f' : Int32) (h0 : Heap) (n0 : Nat) (v : Option Value) (h : Heap) (L : List Loc) : Prop := v = some (.int (1 : Int32)) ∧ Fr n0 L
set_option maxRecDepth 65536 in
set_option maxHeartbeats 40000000 in
theorem rm0 (l : Launch) (Z : State) (a0 : Array Value) (hw : ∀ d ∈ tables_1, d.before a0 Z = true) (ws : List Jvm.Cond) (a' : Int64) (b' : Int64) (f' : Int32) (h0 : Heap) (n0 : Nat) (Z0 : n0 ≤ h0.size)  :
    MetFree l x (head1 (Jvm.Cond.code x code maxLocals ret :: ws) room_1) (fun ar U => ar = #[(.long a'), (.long b'), (.int f')] ∧ Z.Warmed39 U.vm ∧ U.heap = h0) (fun _ _ _ _ _ => True) (fun _ U o U' => ∃ v L, o = .returned v ∧ Q0 Z a' b' f' h0 n0 v U'.heap L ∧ FrameEnd U o U' L room_1.cells room_1.slots) := by
  refine MetFree.of_bodySF (plainFor_of_name pn_0) hisR ?_
  intro p e s m args below meth c s₁ Bd hml0 hP hK
  obtain ⟨rfl, hZ, hh⟩ := hP
  have hx := Bd.exec
  have hby := Bd.bytes
  have hml : c.maxLocals = 11 := hml0
  have hown : s.vm.findClass "com/example/inject2/inject2/DefaultLifecycleProcessorSetTimeoutPerShutdownPhasePinLaw" = some m.cls := findClass_of_methodNamed Bd.named
  have hnm := (name_of_methodNamed Bd.named Bd.method).1
  have X0 : Stand p l e room_1 s m #[(.long a'), (.long b'), (.int f')] below meth c s₁ [] 0 0 := Stand.of_body Bd
  have e0 : s₁.heap = h0 := by rw [← hh, Bd.state]; rfl
  have N0 := Fr.nil n0
  have K0 : Keep h0 h0 [] := Keep.refl h0 _
  have pre0 : ∀ t, Steps p.tables e below (s₁.setTop (mkF m 0 #[.val (.long a'), .second, .val (.long b'), .second, .val (.int f'), .unset, .unset, .unset, .unset, .unset, .unset] [])) t → Steps p.tables e below (s₁.setTop (entryFrame m #[(.long a'), (.long b'), (.int f')] maxLocals)) t := fun t k => castTop (ef_0 m a' b' f') k
  obtain ⟨T1, h1, X1, e1, E1, A1, D1, -, st1⟩ := newO X0 hx hZ hown (hw _ (List.mem_of_getElem? (i := 0) rfl)) (hw _ (List.mem_of_getElem? (i := 1) rfl)) (hw _ (List.mem_of_getElem? (i := 2) rfl)) e0 (g := (mkF m 0 #[.val (.long a'), .second, .val (.long b'), .second, .val (.int f'), .unset, .unset, .unset, .unset, .unset, .unset] [])) rfl (hb hby at_0) (by decide) (by decide)
  obtain ⟨b1, g1⟩ : ∃ z, z = h0.size := ⟨_, rfl⟩
  rw [← g1] at A1 D1 st1
  have g_b1 : n0 ≤ b1 := Nat.le_trans Z0 (Nat.le_of_eq g1.symm)
  have sz_b1 : h0.size ≤ b1 := Nat.le_trans K0.1 (Nat.le_of_eq g1.symm)
  have Zs1 : n0 ≤ h1.size := Nat.le_trans Z0 E1.1
  have K1 : Keep h0 h1 [] := K0.ext E1
  have E_b1 := A1
  have F_timeoutPerShutdownPhase_b1 : Fld Z h1 b1 "com/example/inject2/inject2/DefaultLifecycleProcessor" "timeoutPerShutdownPhase" "J" (.long (0 : Int64)) := D1 (Or.inl (hw _ (List.mem_of_getElem? (i := 11) rfl))) (ty := .long) (by decide)
  obtain ⟨_, _, ⟨T2, L2, k2, n2⟩, -, X2, ⟨Lc2, hQ2, l2, y2, z2⟩, st2⟩ := X1.specialBack hx (y := (⟨"com/example/inject2/inject2/DefaultLifecycleProcessor", "<init>", "()V"⟩ : MethodName)) rfl hown (mvT hZ (hw _ (List.mem_of_getElem? (i := 3) rfl))) (mvT hZ (hw _ (List.mem_of_getElem? (i := 4) rfl))) (mvT hZ (hw _ (List.mem_of_getElem? (i := 5) rfl))) (by decide) (backOf (W := 1) (rm1 l Z a0 hw [] b1 h1 n0 Zs1 E_b1 F_timeoutPerShutdownPhase_b1 g_b1) hZ (hw _ (List.mem_of_getElem? (i := 5) rfl)) (hw _ (List.mem_of_getElem? (i := 2) rfl)) (by decide) (by decide)) (g := (mkF m 4 #[.val (.long a'), .second, .val (.long b'), .second, .val (.int f'), .unset, .unset, .unset, .unset, .unset, .unset] [(.ref b1), (.ref b1)])) rfl (by rw [hml]; rfl) (Steps.refl _) (a := b1) (argsL := []) (rest := [(.ref b1)]) (lenOf pd0_0 rfl) rfl (by show 2 * 0 + _ ≤ _; exact Nat.le_of_eq rfl) (hb hby at_4) (fun _ _ => ⟨rfl, e1, (by decide : 1 + 0 ≤ _), (by decide : 2 + 0 ≤ _)⟩)
  dsimp only [Pt.U, Pt.locs, Pt.cells, Pt.slots] at X2 l2 y2 z2 st2 hQ2
  subst l2 y2 z2
  obtain ⟨rfl, N2q, Kq2, F_timeoutPerShutdownPhase_b1⟩ := hQ2
  have N2 := Fr.app N0 N2q
  have E_b1 := E_b1.keep Kq2
  have Zs2 : n0 ≤ T2.heap.size := Nat.le_trans Zs1 Kq2.1
  have K2 : Keep h0 T2.heap [] := K1.trans Kq2 (allS (Or.inr sz_b1) all0)
  obtain ⟨cq3, kq3, q3a, q3b, q3c⟩ := isOf hZ rfl E_b1
  obtain ⟨_, _, ⟨T3, L3, k3, n3⟩, -, X3, ⟨Lc3, hQ3, l3, y3, z3⟩, st3⟩ := X2.virtualBack hx (y := (⟨"com/example/inject2/inject2/DefaultLifecycleProcessor", "getTimeoutPerShutdownPhase", "()J"⟩ : MethodName)) (z := (⟨"com/example/inject2/inject2/DefaultLifecycleProcessor", "getTimeoutPerShutdownPhase", "()J"⟩ : MethodName)) hown (mvT hZ (hw _ (List.mem_of_getElem? (i := 12) rfl))) (mvT hZ (hw _ (List.mem_of_getElem? (i := 13) rfl))) (notFace_of_selects (args := #[]) (mvT hZ (hw _ (List.mem_of_getElem? (i := 15) rfl)))) (mvT hZ (hw _ (List.mem_of_getElem? (i := 15) rfl))) (mvT hZ (hw _ (List.mem_of_getElem? (i := 14) rfl))) (by decide) (backOf (W := 0) (rm3 l Z a0 hw [] b1 (30000 : Int64) T2.heap n0 Zs2 F_timeoutPerShutdownPhase_b1) hZ (hw _ (List.mem_of_getElem? (i := 16) rfl)) (hw _ (List.mem_of_getElem? (i := 2) rfl)) (by decide) (by decide)) q3a q3c (g := (mkF m 11 #[.val (.long a'), .second, .val (.long b'), .second, .val (.int f'), .val (.ref b1), .unset, .unset, .unset, .unset, .unset] [(.ref b1)])) rfl (by rw [hml]; rfl) (Steps.refl _) (argsL := []) (rest := []) (lenOf pd0_1 rfl) rfl (by show 2 * 0 + _ ≤ _; exact Nat.le_of_eq rfl) (hb hby at_11) (fun _ _ => ⟨rfl, rfl, (by decide : 1 + 0 ≤ _), (by decide : 2 + 0 ≤ _)⟩)
  dsimp only [Pt.U, Pt.locs, Pt.cells, Pt.slots] at X3 l3 y3 z3 st3 hQ3
  subst l3 y3 z3
  obtain ⟨rfl, N3q, hh3⟩ := hQ3
  have N3 := Fr.app N2 N3q
  obtain ⟨cq4, kq4, q4a, q4b, q4c⟩ := isOf hZ hh3 E_b1
  obtain ⟨_, _, ⟨T4, L4, k4, n4⟩, -, X4, ⟨Lc4, hQ4, l4, y4, z4⟩, st4⟩ := X3.virtualBack hx (y := (⟨"com/example/inject2/inject2/DefaultLifecycleProcessor", "setTimeoutPerShutdownPhase", "(J)V"⟩ : MethodName)) (z := (⟨"com/example/inject2/inject2/DefaultLifecycleProcessor", "setTimeoutPerShutdownPhase", "(J)V"⟩ : MethodName)) hown (mvT hZ (hw _ (List.mem_of_getElem? (i := 19) rfl))) (mvT hZ (hw _ (List.mem_of_getElem? (i := 20) rfl))) (notFace_of_selects (args := #[]) (mvT hZ (hw _ (List.mem_of_getElem? (i := 22) rfl)))) (mvT hZ (hw _ (List.mem_of_getElem? (i := 22) rfl))) (mvT hZ (hw _ (List.mem_of_getElem? (i := 21) rfl))) (by decide) (backOf (W := 0) (rm4 l Z a0 hw [] b1 (a' &&& (9223372036854775807 : Int64)) T2.heap n0 Zs2 _ E_b1 F_timeoutPerShutdownPhase_b1 g_b1 (own_nn _)) hZ (hw _ (List.mem_of_getElem? (i := 23) rfl)) (hw _ (List.mem_of_getElem? (i := 2) rfl)) (by decide) (by decide)) q4a q4c (g := (mkF m 39 #[.val (.long a'), .second, .val (.long b'), .second, .val (.int f'), .val (.ref b1), .val (.int (1 : Int32)), .val (.long (a' &&& (9223372036854775807 : Int64))), .second, .unset, .unset] [(.long (a' &&& (9223372036854775807 : Int64))), (.ref b1)])) rfl (by rw [hml]; rfl) (Steps.refl _) (argsL := [(.long (a' &&& (9223372036854775807 : Int64)))]) (rest := []) (lenOf pd0_2 rfl) rfl (by show 2 * 0 + _ ≤ _; exact Nat.le_of_eq rfl) (hb hby at_39) (fun _ _ => ⟨rfl, hh3, (by decide : 1 + 0 ≤ _), (by decide : 2 + 0 ≤ _)⟩)
  dsimp only [Pt.U, Pt.locs, Pt.cells, Pt.slots] at X4 l4 y4 z4 st4 hQ4
  subst l4 y4 z4
  obtain ⟨rfl, N4q, Kq4, F_timeoutPerShutdownPhase_b1⟩ := hQ4
  have N4 := Fr.app N3 N4q
  have E_b1 := E_b1.keep Kq4
  have Zs4 : n0 ≤ T4.heap.size := Nat.le_trans Zs2 Kq4.1
  have K4 : Keep h0 T4.heap [] := K2.trans Kq4 (allS (Or.inr sz_b1) all0)
  obtain ⟨cq5, kq5, q5a, q5b, q5c⟩ := isOf hZ rfl E_b1
  obtain ⟨_, _, ⟨T5, L5, k5, n5⟩, -, X5, ⟨Lc5, hQ5, l5, y5, z5⟩, st5⟩ := X4.virtualBack hx (y := (⟨"com/example/inject2/inject2/DefaultLifecycleProcessor", "getTimeoutPerShutdownPhase", "()J"⟩ : MethodName)) (z := (⟨"com/example/inject2/inject2/DefaultLifecycleProcessor", "getTimeoutPerShutdownPhase", "()J"⟩ : MethodName)) hown (mvT hZ (hw _ (List.mem_of_getElem? (i := 12) rfl))) (mvT hZ (hw _ (List.mem_of_getElem? (i := 13) rfl))) (notFace_of_selects (args := #[]) (mvT hZ (hw _ (List.mem_of_getElem? (i := 15) rfl)))) (mvT hZ (hw _ (List.mem_of_getElem? (i := 15) rfl))) (mvT hZ (hw _ (List.mem_of_getElem? (i := 14) rfl))) (by decide) (backOf (W := 0) (rm3 l Z a0 hw [] b1 (a' &&& (9223372036854775807 : Int64)) T4.heap n0 Zs4 F_timeoutPerShutdownPhase_b1) hZ (hw _ (List.mem_of_getElem? (i := 16) rfl)) (hw _ (List.mem_of_getElem? (i := 2) rfl)) (by decide) (by decide)) q5a q5c (g := (mkF m 49 #[.val (.long a'), .second, .val (.long b'), .second, .val (.int f'), .val (.ref b1), .val (.int (1 : Int32)), .val (.long (a' &&& (9223372036854775807 : Int64))), .second, .unset, .unset] [(.ref b1)])) rfl (by rw [hml]; rfl) (Steps.refl _) (argsL := []) (rest := []) (lenOf pd0_1 rfl) rfl (by show 2 * 0 + _ ≤ _; exact Nat.le_of_eq rfl) (hb hby at_49) (fun _ _ => ⟨rfl, rfl, (by decide : 1 + 0 ≤ _), (by decide : 2 + 0 ≤ _)⟩)
  dsimp only [Pt.U, Pt.locs, Pt.cells, Pt.slots] at X5 l5 y5 z5 st5 hQ5
  subst l5 y5 z5
  obtain ⟨rfl, N5q, hh5⟩ := hQ5
  have N5 := Fr.app N4 N5q
  have pre6 : ∀ t, Steps p.tables e below (T5.setTop (mkF m 69 #[.val (.long a'), .second, .val (.long b'), .second, .val (.int f'), .val (.ref b1), .val (.int (1 : Int32)), .val (.long (a' &&& (9223372036854775807 : Int64))), .second, .unset, .unset] [(.int (f' &&& (1 : Int32)))])) t → Steps p.tables e below (s₁.setTop (entryFrame m #[(.long a'), (.long b'), (.int f')] maxLocals)) t := by
    intro t kt
    refine pre0 t ?_
    show Steps p.tables e below (s₁.setTop (mkF m 0 #[.val (.long a'), .second, .val (.long b'), .second, .val (.int f'), .unset, .unset, .unset, .unset, .unset, .unset] [])) _
    refine st1 _ ?_
    show Steps p.tables e below (T1.setTop (mkF m 3 #[.val (.long a'), .second, .val (.long b'), .second, .val (.int f'), .unset, .unset, .unset, .unset, .unset, .unset] [(.ref b1)])) _
    refine XS.dup X1.here hx rfl (hb hby at_3) rfl rfl ?_
    show Steps p.tables e below (T1.setTop (mkF m 4 #[.val (.long a'), .second, .val (.long b'), .second, .val (.int f'), .unset, .unset, .unset, .unset, .unset, .unset] [(.ref b1), (.ref b1)])) _
    refine st2.trans ?_
    show Steps p.tables e below (T2.setTop (mkF m 7 #[.val (.long a'), .second, .val (.long b'), .second, .val (.int f'), .unset, .unset, .unset, .unset, .unset, .unset] [(.ref b1)])) _
    refine XS.astore X2.here hx rfl (hb hby at_7) rfl rfl (l' := #[.val (.long a'), .second, .val (.long b'), .second, .val (.int f'), .val (.ref b1), .unset, .unset, .unset, .unset, .unset]) rfl ?_
    show Steps p.tables e below (T2.setTop (mkF m 9 #[.val (.long a'), .second, .val (.long b'), .second, .val (.int f'), .val (.ref b1), .unset, .unset, .unset, .unset, .unset] [])) _
    refine XS.aload X2.here hx rfl (hb hby at_9) rfl rfl ?_
    show Steps p.tables e below (T2.setTop (mkF m 11 #[.val (.long a'), .second, .val (.long b'), .second, .val (.int f'), .val (.ref b1), .unset, .unset, .unset, .unset, .unset] [(.ref b1)])) _
    refine st3.trans ?_
    show Steps p.tables e below (T3.setTop (mkF m 14 #[.val (.long a'), .second, .val (.long b'), .second, .val (.int f'), .val (.ref b1), .unset, .unset, .unset, .unset, .unset] [(.long (30000 : Int64))])) _
    refine X3.ldc2Long hx hown (mvT hZ (hw _ (List.mem_of_getElem? (i := 17) rfl))) (g := (mkF m 14 #[.val (.long a'), .second, .val (.long b'), .second, .val (.int f'), .val (.ref b1), .unset, .unset, .unset, .unset, .unset] [(.long (30000 : Int64))])) rfl (hb hby at_14) _ ?_
    show Steps p.tables e below (T3.setTop (mkF m 17 #[.val (.long a'), .second, .val (.long b'), .second, .val (.int f'), .val (.ref b1), .unset, .unset, .unset, .unset, .unset] [(.long (30000 : Int64)), (.long (30000 : Int64))])) _
    refine XS.lcmp X3.here hx rfl (hb hby at_17) rfl ?_
    show Steps p.tables e below (T3.setTop (mkF m 18 #[.val (.long a'), .second, .val (.long b'), .second, .val (.int f'), .val (.ref b1), .unset, .unset, .unset, .unset, .unset] [(.int (lcmpW (30000 : Int64) (30000 : Int64)))])) _
    refine XS.ifNo X3.here hx rfl (hb hby at_18) rfl ((if0 _ _).trans (teq ((lw_eq (30000 : Int64) (30000 : Int64)).mpr (by decide : (30000 : Int64) = (30000 : Int64)))).2) ?_
    show Steps p.tables e below (T3.setTop (mkF m 21 #[.val (.long a'), .second, .val (.long b'), .second, .val (.int f'), .val (.ref b1), .unset, .unset, .unset, .unset, .unset] [])) _
    refine XS.iconst X3.here hx rfl (hb hby at_21) ?_
    show Steps p.tables e below (T3.setTop (mkF m 22 #[.val (.long a'), .second, .val (.long b'), .second, .val (.int f'), .val (.ref b1), .unset, .unset, .unset, .unset, .unset] [(.int (1 : Int32))])) _
    refine XS.goto X3.here hx rfl (pc0 := 22) (pc' := 26) rfl (hb hby at_22) (by decide) (by decide) ?_
    show Steps p.tables e below (T3.setTop (mkF m 26 #[.val (.long a'), .second, .val (.long b'), .second, .val (.int f'), .val (.ref b1), .unset, .unset, .unset, .unset, .unset] [(.int (1 : Int32))])) _
    refine XS.istore X3.here hx rfl (hb hby at_26) rfl (l' := #[.val (.long a'), .second, .val (.long b'), .second, .val (.int f'), .val (.ref b1), .val (.int (1 : Int32)), .unset, .unset, .unset, .unset]) rfl ?_
    show Steps p.tables e below (T3.setTop (mkF m 28 #[.val (.long a'), .second, .val (.long b'), .second, .val (.int f'), .val (.ref b1), .val (.int (1 : Int32)), .unset, .unset, .unset, .unset] [])) _
    refine XS.lloadN X3.here hx rfl (hb hby at_28) rfl ?_
    show Steps p.tables e below (T3.setTop (mkF m 29 #[.val (.long a'), .second, .val (.long b'), .second, .val (.int f'), .val (.ref b1), .val (.int (1 : Int32)), .unset, .unset, .unset, .unset] [(.long a')])) _
    refine X3.ldc2Long hx hown (mvT hZ (hw _ (List.mem_of_getElem? (i := 18) rfl))) (g := (mkF m 29 #[.val (.long a'), .second, .val (.long b'), .second, .val (.int f'), .val (.ref b1), .val (.int (1 : Int32)), .unset, .unset, .unset, .unset] [(.long a')])) rfl (hb hby at_29) _ ?_
    show Steps p.tables e below (T3.setTop (mkF m 32 #[.val (.long a'), .second, .val (.long b'), .second, .val (.int f'), .val (.ref b1), .val (.int (1 : Int32)), .unset, .unset, .unset, .unset] [(.long (9223372036854775807 : Int64)), (.long a')])) _
    refine XS.land X3.here hx rfl (hb hby at_32) rfl ?_
    show Steps p.tables e below (T3.setTop (mkF m 33 #[.val (.long a'), .second, .val (.long b'), .second, .val (.int f'), .val (.ref b1), .val (.int (1 : Int32)), .unset, .unset, .unset, .unset] [(.long (a' &&& (9223372036854775807 : Int64)))])) _
    refine XS.lstore X3.here hx rfl (hb hby at_33) rfl (l' := #[.val (.long a'), .second, .val (.long b'), .second, .val (.int f'), .val (.ref b1), .val (.int (1 : Int32)), .val (.long (a' &&& (9223372036854775807 : Int64))), .second, .unset, .unset]) rfl ?_
    show Steps p.tables e below (T3.setTop (mkF m 35 #[.val (.long a'), .second, .val (.long b'), .second, .val (.int f'), .val (.ref b1), .val (.int (1 : Int32)), .val (.long (a' &&& (9223372036854775807 : Int64))), .second, .unset, .unset] [])) _
    refine XS.aload X3.here hx rfl (hb hby at_35) rfl rfl ?_
    show Steps p.tables e below (T3.setTop (mkF m 37 #[.val (.long a'), .second, .val (.long b'), .second, .val (.int f'), .val (.ref b1), .val (.int (1 : Int32)), .val (.long (a' &&& (9223372036854775807 : Int64))), .second, .unset, .unset] [(.ref b1)])) _
    refine XS.lload X3.here hx rfl (hb hby at_37) rfl ?_
    show Steps p.tables e below (T3.setTop (mkF m 39 #[.val (.long a'), .second, .val (.long b'), .second, .val (.int f'), .val (.ref b1), .val (.int (1 : Int32)), .val (.long (a' &&& (9223372036854775807 : Int64))), .second, .unset, .unset] [(.long (a' &&& (9223372036854775807 : Int64))), (.ref b1)])) _
    refine st4.trans ?_
    show Steps p.tables e below (T4.setTop (mkF m 42 #[.val (.long a'), .second, .val (.long b'), .second, .val (.int f'), .val (.ref b1), .val (.int (1 : Int32)), .val (.long (a' &&& (9223372036854775807 : Int64))), .second, .unset, .unset] [])) _
    refine XS.iload X4.here hx rfl (hb hby at_42) rfl ?_
    show Steps p.tables e below (T4.setTop (mkF m 44 #[.val (.long a'), .second, .val (.long b'), .second, .val (.int f'), .val (.ref b1), .val (.int (1 : Int32)), .val (.long (a' &&& (9223372036854775807 : Int64))), .second, .unset, .unset] [(.int (1 : Int32))])) _
    refine XS.ifNo X4.here hx rfl (hb hby at_44) rfl ((if0 _ _).trans (feq (by decide : ¬ ((1 : Int32) = (0 : Int32)))).1) ?_
    show Steps p.tables e below (T4.setTop (mkF m 47 #[.val (.long a'), .second, .val (.long b'), .second, .val (.int f'), .val (.ref b1), .val (.int (1 : Int32)), .val (.long (a' &&& (9223372036854775807 : Int64))), .second, .unset, .unset] [])) _
    refine XS.aload X4.here hx rfl (hb hby at_47) rfl rfl ?_
    show Steps p.tables e below (T4.setTop (mkF m 49 #[.val (.long a'), .second, .val (.long b'), .second, .val (.int f'), .val (.ref b1), .val (.int (1 : Int32)), .val (.long (a' &&& (9223372036854775807 : Int64))), .second, .unset, .unset] [(.ref b1)])) _
    refine st5.trans ?_
    show Steps p.tables e below (T5.setTop (mkF m 52 #[.val (.long a'), .second, .val (.long b'), .second, .val (.int f'), .val (.ref b1), .val (.int (1 : Int32)), .val (.long (a' &&& (9223372036854775807 : Int64))), .second, .unset, .unset] [(.long (a' &&& (9223372036854775807 : Int64)))])) _
    refine XS.lload X5.here hx rfl (hb hby at_52) rfl ?_
    show Steps p.tables e below (T5.setTop (mkF m 54 #[.val (.long a'), .second, .val (.long b'), .second, .val (.int f'), .val (.ref b1), .val (.int (1 : Int32)), .val (.long (a' &&& (9223372036854775807 : Int64))), .second, .unset, .unset] [(.long (a' &&& (9223372036854775807 : Int64))), (.long (a' &&& (9223372036854775807 : Int64)))])) _
    refine XS.lcmp X5.here hx rfl (hb hby at_54) rfl ?_
    show Steps p.tables e below (T5.setTop (mkF m 55 #[.val (.long a'), .second, .val (.long b'), .second, .val (.int f'), .val (.ref b1), .val (.int (1 : Int32)), .val (.long (a' &&& (9223372036854775807 : Int64))), .second, .unset, .unset] [(.int (lcmpW (a' &&& (9223372036854775807 : Int64)) (a' &&& (9223372036854775807 : Int64))))])) _
    refine XS.ifNo X5.here hx rfl (hb hby at_55) rfl ((if0 _ _).trans (teq ((lw_eq (a' &&& (9223372036854775807 : Int64)) (a' &&& (9223372036854775807 : Int64))).mpr (rfl : (a' &&& (9223372036854775807 : Int64)) = (a' &&& (9223372036854775807 : Int64))))).2) ?_
    show Steps p.tables e below (T5.setTop (mkF m 58 #[.val (.long a'), .second, .val (.long b'), .second, .val (.int f'), .val (.ref b1), .val (.int (1 : Int32)), .val (.long (a' &&& (9223372036854775807 : Int64))), .second, .unset, .unset] [])) _
    refine XS.iconst X5.here hx rfl (hb hby at_58) ?_
    show Steps p.tables e below (T5.setTop (mkF m 59 #[.val (.long a'), .second, .val (.long b'), .second, .val (.int f'), .val (.ref b1), .val (.int (1 : Int32)), .val (.long (a' &&& (9223372036854775807 : Int64))), .second, .unset, .unset] [(.int (1 : Int32))])) _
    refine XS.goto X5.here hx rfl (pc0 := 59) (pc' := 63) rfl (hb hby at_59) (by decide) (by decide) ?_
    show Steps p.tables e below (T5.setTop (mkF m 63 #[.val (.long a'), .second, .val (.long b'), .second, .val (.int f'), .val (.ref b1), .val (.int (1 : Int32)), .val (.long (a' &&& (9223372036854775807 : Int64))), .second, .unset, .unset] [(.int (1 : Int32))])) _
    refine XS.istore X5.here hx rfl (hb hby at_63) rfl (l' := #[.val (.long a'), .second, .val (.long b'), .second, .val (.int f'), .val (.ref b1), .val (.int (1 : Int32)), .val (.long (a' &&& (9223372036854775807 : Int64))), .second, .unset, .unset]) rfl ?_
    show Steps p.tables e below (T5.setTop (mkF m 65 #[.val (.long a'), .second, .val (.long b'), .second, .val (.int f'), .val (.ref b1), .val (.int (1 : Int32)), .val (.long (a' &&& (9223372036854775807 : Int64))), .second, .unset, .unset] [])) _
    refine XS.iload X5.here hx rfl (hb hby at_65) rfl ?_
    show Steps p.tables e below (T5.setTop (mkF m 67 #[.val (.long a'), .second, .val (.long b'), .second, .val (.int f'), .val (.ref b1), .val (.int (1 : Int32)), .val (.long (a' &&& (9223372036854775807 : Int64))), .second, .unset, .unset] [(.int f')])) _
    refine XS.iconst X5.here hx rfl (hb hby at_67) ?_
    show Steps p.tables e below (T5.setTop (mkF m 68 #[.val (.long a'), .second, .val (.long b'), .second, .val (.int f'), .val (.ref b1), .val (.int (1 : Int32)), .val (.long (a' &&& (9223372036854775807 : Int64))), .second, .unset, .unset] [(.int (1 : Int32)), (.int f')])) _
    refine XS.iand X5.here hx rfl (hb hby at_68) rfl ?_
    exact kt
  by_cases hc69_7 : (f' &&& (1 : Int32)) = (0 : Int32)
  · obtain ⟨fs, hr, hrun, hended, hW, hsame⟩ := X5.leave (v := some (.int (1 : Int32))) (fun h => by rw [Bd.returns] at h; cases h)
    refine ⟨_, _, pre6 _ ?_, hrun, hended, _, _, rfl, ?_, ⟨_, rfl⟩, hW, hsame.mono (by decide) (by decide)⟩
    · show Steps p.tables e below (T5.setTop (mkF m 69 #[.val (.long a'), .second, .val (.long b'), .second, .val (.int f'), .val (.ref b1), .val (.int (1 : Int32)), .val (.long (a' &&& (9223372036854775807 : Int64))), .second, .unset, .unset] [(.int (f' &&& (1 : Int32)))])) _
      refine XS.ifYes X5.here hx rfl (pc0 := 69) (pc' := 109) rfl (hb hby at_69) rfl ((if0 _ _).trans (teq hc69_7).1) (by decide) (by decide) ?_
      show Steps p.tables e below (T5.setTop (mkF m 109 #[.val (.long a'), .second, .val (.long b'), .second, .val (.int f'), .val (.ref b1), .val (.int (1 : Int32)), .val (.long (a' &&& (9223372036854775807 : Int64))), .second, .unset, .unset] [])) _
      refine XS.iload X5.here hx rfl (hb hby at_109) rfl ?_
      show Steps p.tables e below (T5.setTop (mkF m 111 #[.val (.long a'), .second, .val (.long b'), .second, .val (.int f'), .val (.ref b1), .val (.int (1 : Int32)), .val (.long (a' &&& (9223372036854775807 : Int64))), .second, .unset, .unset] [(.int (1 : Int32))])) _
      exact retN X5 hx (t := .boolean) Bd.returns (by simp) (hb hby at_111) hr
    · show Q0 Z a' b' f' h0 n0 _ T5.heap _
      rw [hh5]
      exact ⟨rfl, N5⟩
  · obtain ⟨cq8, kq8, q8a, q8b, q8c⟩ := isOf hZ hh5 E_b1
    obtain ⟨_, _, ⟨T8, L8, k8, n8⟩, -, X8, ⟨Lc8, hQ8, l8, y8, z8⟩, st8⟩ := X5.virtualBack hx (y := (⟨"com/example/inject2/inject2/DefaultLifecycleProcessor", "setTimeoutPerShutdownPhase", "(J)V"⟩ : MethodName)) (z := (⟨"com/example/inject2/inject2/DefaultLifecycleProcessor", "setTimeoutPerShutdownPhase", "(J)V"⟩ : MethodName)) hown (mvT hZ (hw _ (List.mem_of_getElem? (i := 19) rfl))) (mvT hZ (hw _ (List.mem_of_getElem? (i := 20) rfl))) (notFace_of_selects (args := #[]) (mvT hZ (hw _ (List.mem_of_getElem? (i := 22) rfl)))) (mvT hZ (hw _ (List.mem_of_getElem? (i := 22) rfl))) (mvT hZ (hw _ (List.mem_of_getElem? (i := 21) rfl))) (by decide) (backOf (W := 0) (rm4 l Z a0 hw [] b1 (b' &&& (9223372036854775807 : Int64)) T4.heap n0 Zs4 _ E_b1 F_timeoutPerShutdownPhase_b1 g_b1 (own_nn _)) hZ (hw _ (List.mem_of_getElem? (i := 23) rfl)) (hw _ (List.mem_of_getElem? (i := 2) rfl)) (by decide) (by decide)) q8a q8c (g := (mkF m 83 #[.val (.long a'), .second, .val (.long b'), .second, .val (.int f'), .val (.ref b1), .val (.int (1 : Int32)), .val (.long (a' &&& (9223372036854775807 : Int64))), .second, .val (.long (b' &&& (9223372036854775807 : Int64))), .second] [(.long (b' &&& (9223372036854775807 : Int64))), (.ref b1)])) rfl (by rw [hml]; rfl) (Steps.refl _) (argsL := [(.long (b' &&& (9223372036854775807 : Int64)))]) (rest := []) (lenOf pd0_2 rfl) rfl (by show 2 * 0 + _ ≤ _; exact Nat.le_of_eq rfl) (hb hby at_83) (fun _ _ => ⟨rfl, hh5, (by decide : 1 + 0 ≤ _), (by decide : 2 + 0 ≤ _)⟩)
    dsimp only [Pt.U, Pt.locs, Pt.cells, Pt.slots] at X8 l8 y8 z8 st8 hQ8
    subst l8 y8 z8
    obtain ⟨rfl, N8q, Kq8, F_timeoutPerShutdownPhase_b1⟩ := hQ8
    have N8 := Fr.app N5 N8q
    have E_b1 := E_b1.keep Kq8
    have Zs8 : n0 ≤ T8.heap.size := Nat.le_trans Zs4 Kq8.1
    have K8 : Keep h0 T8.heap [] := K4.trans Kq8 (allS (Or.inr sz_b1) all0)
    obtain ⟨cq9, kq9, q9a, q9b, q9c⟩ := isOf hZ rfl E_b1
    obtain ⟨_, _, ⟨T9, L9, k9, n9⟩, -, X9, ⟨Lc9, hQ9, l9, y9, z9⟩, st9⟩ := X8.virtualBack hx (y := (⟨"com/example/inject2/inject2/DefaultLifecycleProcessor", "getTimeoutPerShutdownPhase", "()J"⟩ : MethodName)) (z := (⟨"com/example/inject2/inject2/DefaultLifecycleProcessor", "getTimeoutPerShutdownPhase", "()J"⟩ : MethodName)) hown (mvT hZ (hw _ (List.mem_of_getElem? (i := 12) rfl))) (mvT hZ (hw _ (List.mem_of_getElem? (i := 13) rfl))) (notFace_of_selects (args := #[]) (mvT hZ (hw _ (List.mem_of_getElem? (i := 15) rfl)))) (mvT hZ (hw _ (List.mem_of_getElem? (i := 15) rfl))) (mvT hZ (hw _ (List.mem_of_getElem? (i := 14) rfl))) (by decide) (backOf (W := 0) (rm3 l Z a0 hw [] b1 (b' &&& (9223372036854775807 : Int64)) T8.heap n0 Zs8 F_timeoutPerShutdownPhase_b1) hZ (hw _ (List.mem_of_getElem? (i := 16) rfl)) (hw _ (List.mem_of_getElem? (i := 2) rfl)) (by decide) (by decide)) q9a q9c (g := (mkF m 93 #[.val (.long a'), .second, .val (.long b'), .second, .val (.int f'), .val (.ref b1), .val (.int (1 : Int32)), .val (.long (a' &&& (9223372036854775807 : Int64))), .second, .val (.long (b' &&& (9223372036854775807 : Int64))), .second] [(.ref b1)])) rfl (by rw [hml]; rfl) (Steps.refl _) (argsL := []) (rest := []) (lenOf pd0_1 rfl) rfl (by show 2 * 0 + _ ≤ _; exact Nat.le_of_eq rfl) (hb hby at_93) (fun _ _ => ⟨rfl, rfl, (by decide : 1 + 0 ≤ _), (by decide : 2 + 0 ≤ _)⟩)
    dsimp only [Pt.U, Pt.locs, Pt.cells, Pt.slots] at X9 l9 y9 z9 st9 hQ9
    subst l9 y9 z9
    obtain ⟨rfl, N9q, hh9⟩ := hQ9
    have N9 := Fr.app N8 N9q
    obtain ⟨fs, hr, hrun, hended, hW, hsame⟩ := X9.leave (v := some (.int (1 : Int32))) (fun h => by rw [Bd.returns] at h; cases h)
    refine ⟨_, _, pre6 _ ?_, hrun, hended, _, _, rfl, ?_, ⟨_, rfl⟩, hW, hsame.mono (by decide) (by decide)⟩
    · show Steps p.tables e below (T5.setTop (mkF m 69 #[.val (.long a'), .second, .val (.long b'), .second, .val (.int f'), .val (.ref b1), .val (.int (1 : Int32)), .val (.long (a' &&& (9223372036854775807 : Int64))), .second, .unset, .unset] [(.int (f' &&& (1 : Int32)))])) _
      refine XS.ifNo X5.here hx rfl (hb hby at_69) rfl ((if0 _ _).trans (feq hc69_7).1) ?_
      show Steps p.tables e below (T5.setTop (mkF m 72 #[.val (.long a'), .second, .val (.long b'), .second, .val (.int f'), .val (.ref b1), .val (.int (1 : Int32)), .val (.long (a' &&& (9223372036854775807 : Int64))), .second, .unset, .unset] [])) _
      refine XS.lloadN X5.here hx rfl (hb hby at_72) rfl ?_
      show Steps p.tables e below (T5.setTop (mkF m 73 #[.val (.long a'), .second, .val (.long b'), .second, .val (.int f'), .val (.ref b1), .val (.int (1 : Int32)), .val (.long (a' &&& (9223372036854775807 : Int64))), .second, .unset, .unset] [(.long b')])) _
      refine X5.ldc2Long hx hown (mvT hZ (hw _ (List.mem_of_getElem? (i := 18) rfl))) (g := (mkF m 73 #[.val (.long a'), .second, .val (.long b'), .second, .val (.int f'), .val (.ref b1), .val (.int (1 : Int32)), .val (.long (a' &&& (9223372036854775807 : Int64))), .second, .unset, .unset] [(.long b')])) rfl (hb hby at_73) _ ?_
      show Steps p.tables e below (T5.setTop (mkF m 76 #[.val (.long a'), .second, .val (.long b'), .second, .val (.int f'), .val (.ref b1), .val (.int (1 : Int32)), .val (.long (a' &&& (9223372036854775807 : Int64))), .second, .unset, .unset] [(.long (9223372036854775807 : Int64)), (.long b')])) _
      refine XS.land X5.here hx rfl (hb hby at_76) rfl ?_
      show Steps p.tables e below (T5.setTop (mkF m 77 #[.val (.long a'), .second, .val (.long b'), .second, .val (.int f'), .val (.ref b1), .val (.int (1 : Int32)), .val (.long (a' &&& (9223372036854775807 : Int64))), .second, .unset, .unset] [(.long (b' &&& (9223372036854775807 : Int64)))])) _
      refine XS.lstore X5.here hx rfl (hb hby at_77) rfl (l' := #[.val (.long a'), .second, .val (.long b'), .second, .val (.int f'), .val (.ref b1), .val (.int (1 : Int32)), .val (.long (a' &&& (9223372036854775807 : Int64))), .second, .val (.long (b' &&& (9223372036854775807 : Int64))), .second]) rfl ?_
      show Steps p.tables e below (T5.setTop (mkF m 79 #[.val (.long a'), .second, .val (.long b'), .second, .val (.int f'), .val (.ref b1), .val (.int (1 : Int32)), .val (.long (a' &&& (9223372036854775807 : Int64))), .second, .val (.long (b' &&& (9223372036854775807 : Int64))), .second] [])) _
      refine XS.aload X5.here hx rfl (hb hby at_79) rfl rfl ?_
      show Steps p.tables e below (T5.setTop (mkF m 81 #[.val (.long a'), .second, .val (.long b'), .second, .val (.int f'), .val (.ref b1), .val (.int (1 : Int32)), .val (.long (a' &&& (9223372036854775807 : Int64))), .second, .val (.long (b' &&& (9223372036854775807 : Int64))), .second] [(.ref b1)])) _
      refine XS.lload X5.here hx rfl (hb hby at_81) rfl ?_
      show Steps p.tables e below (T5.setTop (mkF m 83 #[.val (.long a'), .second, .val (.long b'), .second, .val (.int f'), .val (.ref b1), .val (.int (1 : Int32)), .val (.long (a' &&& (9223372036854775807 : Int64))), .second, .val (.long (b' &&& (9223372036854775807 : Int64))), .second] [(.long (b' &&& (9223372036854775807 : Int64))), (.ref b1)])) _
      refine st8.trans ?_
      show Steps p.tables e below (T8.setTop (mkF m 86 #[.val (.long a'), .second, .val (.long b'), .second, .val (.int f'), .val (.ref b1), .val (.int (1 : Int32)), .val (.long (a' &&& (9223372036854775807 : Int64))), .second, .val (.long (b' &&& (9223372036854775807 : Int64))), .second] [])) _
      refine XS.iload X8.here hx rfl (hb hby at_86) rfl ?_
      show Steps p.tables e below (T8.setTop (mkF m 88 #[.val (.long a'), .second, .val (.long b'), .second, .val (.int f'), .val (.ref b1), .val (.int (1 : Int32)), .val (.long (a' &&& (9223372036854775807 : Int64))), .second, .val (.long (b' &&& (9223372036854775807 : Int64))), .second] [(.int (1 : Int32))])) _
      refine XS.ifNo X8.here hx rfl (hb hby at_88) rfl ((if0 _ _).trans (feq (by decide : ¬ ((1 : Int32) = (0 : Int32)))).1) ?_
      show Steps p.tables e below (T8.setTop (mkF m 91 #[.val (.long a'), .second, .val (.long b'), .second, .val (.int f'), .val (.ref b1), .val (.int (1 : Int32)), .val (.long (a' &&& (9223372036854775807 : Int64))), .second, .val (.long (b' &&& (9223372036854775807 : Int64))), .second] [])) _
      refine XS.aload X8.here hx rfl (hb hby at_91) rfl rfl ?_
      show Steps p.tables e below (T8.setTop (mkF m 93 #[.val (.long a'), .second, .val (.long b'), .second, .val (.int f'), .val (.ref b1), .val (.int (1 : Int32)), .val (.long (a' &&& (9223372036854775807 : Int64))), .second, .val (.long (b' &&& (9223372036854775807 : Int64))), .second] [(.ref b1)])) _
      refine st9.trans ?_
      show Steps p.tables e below (T9.setTop (mkF m 96 #[.val (.long a'), .second, .val (.long b'), .second, .val (.int f'), .val (.ref b1), .val (.int (1 : Int32)), .val (.long (a' &&& (9223372036854775807 : Int64))), .second, .val (.long (b' &&& (9223372036854775807 : Int64))), .second] [(.long (b' &&& (9223372036854775807 : Int64)))])) _
      refine XS.lload X9.here hx rfl (hb hby at_96) rfl ?_
      show Steps p.tables e below (T9.setTop (mkF m 98 #[.val (.long a'), .second, .val (.long b'), .second, .val (.int f'), .val (.ref b1), .val (.int (1 : Int32)), .val (.long (a' &&& (9223372036854775807 : Int64))), .second, .val (.long (b' &&& (9223372036854775807 : Int64))), .second] [(.long (b' &&& (9223372036854775807 : Int64))), (.long (b' &&& (9223372036854775807 : Int64)))])) _
      refine XS.lcmp X9.here hx rfl (hb hby at_98) rfl ?_
      show Steps p.tables e below (T9.setTop (mkF m 99 #[.val (.long a'), .second, .val (.long b'), .second, .val (.int f'), .val (.ref b1), .val (.int (1 : Int32)), .val (.long (a' &&& (9223372036854775807 : Int64))), .second, .val (.long (b' &&& (9223372036854775807 : Int64))), .second] [(.int (lcmpW (b' &&& (9223372036854775807 : Int64)) (b' &&& (9223372036854775807 : Int64))))])) _
      refine XS.ifNo X9.here hx rfl (hb hby at_99) rfl ((if0 _ _).trans (teq ((lw_eq (b' &&& (9223372036854775807 : Int64)) (b' &&& (9223372036854775807 : Int64))).mpr (rfl : (b' &&& (9223372036854775807 : Int64)) = (b' &&& (9223372036854775807 : Int64))))).2) ?_
      show Steps p.tables e below (T9.setTop (mkF m 102 #[.val (.long a'), .second, .val (.long b'), .second, .val (.int f'), .val (.ref b1), .val (.int (1 : Int32)), .val (.long (a' &&& (9223372036854775807 : Int64))), .second, .val (.long (b' &&& (9223372036854775807 : Int64))), .second] [])) _
      refine XS.iconst X9.here hx rfl (hb hby at_102) ?_
      show Steps p.tables e below (T9.setTop (mkF m 103 #[.val (.long a'), .second, .val (.long b'), .second, .val (.int f'), .val (.ref b1), .val (.int (1 : Int32)), .val (.long (a' &&& (9223372036854775807 : Int64))), .second, .val (.long (b' &&& (9223372036854775807 : Int64))), .second] [(.int (1 : Int32))])) _
      refine XS.goto X9.here hx rfl (pc0 := 103) (pc' := 107) rfl (hb hby at_103) (by decide) (by decide) ?_
      show Steps p.tables e below (T9.setTop (mkF m 107 #[.val (.long a'), .second, .val (.long b'), .second, .val (.int f'), .val (.ref b1), .val (.int (1 : Int32)), .val (.long (a' &&& (9223372036854775807 : Int64))), .second, .val (.long (b' &&& (9223372036854775807 : Int64))), .second] [(.int (1 : Int32))])) _
      refine XS.istore X9.here hx rfl (hb hby at_107) rfl (l' := #[.val (.long a'), .second, .val (.long b'), .second, .val (.int f'), .val (.ref b1), .val (.int (1 : Int32)), .val (.long (a' &&& (9223372036854775807 : Int64))), .second, .val (.long (b' &&& (9223372036854775807 : Int64))), .second]) rfl ?_
      show Steps p.tables e below (T9.setTop (mkF m 109 #[.val (.long a'), .second, .val (.long b'), .second, .val (.int f'), .val (.ref b1), .val (.int (1 : Int32)), .val (.long (a' &&& (9223372036854775807 : Int64))), .second, .val (.long (b' &&& (9223372036854775807 : Int64))), .second] [])) _
      refine XS.iload X9.here hx rfl (hb hby at_109) rfl ?_
      show Steps p.tables e below (T9.setTop (mkF m 111 #[.val (.long a'), .second, .val (.long b'), .second, .val (.int f'), .val (.ref b1), .val (.int (1 : Int32)), .val (.long (a' &&& (9223372036854775807 : Int64))), .second, .val (.long (b' &&& (9223372036854775807 : Int64))), .second] [(.int (1 : Int32))])) _
      exact retN X9 hx (t := .boolean) Bd.returns (by simp) (hb hby at_111) hr
    · show Q0 Z a' b' f' h0 n0 _ T9.heap _
      rw [hh9]
      exact ⟨rfl, N9⟩
set_option maxRecDepth 65536 in
set_option maxHeartbeats 40000000 in
theorem comes_1 {Post : Tables → Env → Array Value → State → Outcome → State → Prop} (hpost : ∀ tb e args s v u, (limb_1_1.after args s (.returned v) u = true ∧ limb_1_2.after args s (.returned v) u = true ∧ True) → FrameEnd s (.returned v) u (Jvm.fieldLocs frame_1_writes args s ++ Jvm.arrayLocs frame_1_arrays args s ++ Jvm.staticLocs frame_1_statics s) 16 128 → Post tb e args s (.returned v) u) :
    ArmFor flags0 classFile x code maxLocals ret World_1 tables_1 room_1 Calls_1 rest_1 Pre_1 Post := by
  intro l hfl _ _ p e ha hc hk s m args below hf hA hF happ hP
  obtain ⟨hcalls, hrest, hpre⟩ := hP
  obtain ⟨-, -, -, hnamed, -, -, -, hat⟩ := (Spec.applies_iff hf).mp happ
  obtain ⟨hg, hn⟩ := and_e (Cond.before_iff.mp (show (Jvm.Cond.and given_1 narrow_1).before args s = true from hpre))
  obtain ⟨hcount, gr0⟩ := and_e hg
  obtain ⟨ga0, gr1⟩ := and_e gr0
  obtain ⟨ga1, ga2⟩ := and_e gr1
  obtain ⟨w0, w1, w2, rfl⟩ : ∃ w0 w1 w2 : Value, args = #[w0, w1, w2] := by
    have hs : args.size = 3 := by simpa [Cond.value, given_1] using hcount
    obtain ⟨L⟩ := args
    match L, hs with
    | [w0, w1, w2], _ => exact ⟨w0, w1, w2, rfl⟩
  have hw := fun d (hd : d ∈ tables_1) => atoms_spec (ws := Jvm.Cond.code x code maxLocals ret :: tables_1) hat d (List.mem_cons_of_mem _ hd)
  have hfit : Fit s := fun {y c} hc i hi => by
    obtain ⟨ha, rfl⟩ := Array.getElem?_eq_some_iff.mp hc
    have q := List.all_eq_true.mp ((Array.all_eq_true_iff_forall_mem.mp hF) _ (Array.getElem_mem ha)) i (List.mem_range.mpr hi)
    simpa [Array.getElem?_eq_getElem hi] using q
  obtain ⟨i0, ei0⟩ := isL_v ga0
  obtain rfl : w0 = (.long i0) := Option.some.inj ei0
  obtain ⟨i1, ei1⟩ := isL_v ga1
  obtain rfl : w1 = (.long i1) := Option.some.inj ei1
  obtain ⟨i2, ei2⟩ := is_v ga2
  obtain rfl : w2 = (.int i2) := Option.some.inj ei2
  obtain ⟨n, o, h1, h2, h3, _, L, rfl, ⟨rfl, N⟩, hq⟩ := rm0 l s _ hw tables_1 i0 i1 i2  s.heap s.heap.size (Nat.le_refl _)  p e ha hc hk s m _ below hf ((Spec.applies_iff_loose hf).mp happ).1 ⟨rfl, State.Warmed39.refl s, rfl⟩ trivial
  refine ⟨n, _, h1, h2, h3, hpost _ _ _ _ _ _ ⟨Cond.after_iff.mpr rfl, Cond.after_iff.mpr (eq_i res_at (Term.int_eval (1)) rfl), trivial⟩ ⟨hq.1, hq.2.1, (hq.2.2.sift fun y hy => Or.inr (N y hy)).mono (by decide) (by decide)⟩⟩
theorem main_1_1 : Claimed_1_1 := comes_1 fun _ _ _ _ _ _ h hF => ⟨h.1, hF⟩
theorem main_1_2 : Claimed_1_2 := comes_1 fun _ _ _ _ _ _ h hF => ⟨h.2.1, hF⟩
end Jvm.Pilot.@@N@@
namespace Jvm.Pilot.@@N@@
open Jvm Jvm.ClassFile Sem Op Lib Jvm.Free Jvm.Stand Jvm.Pilot.@@N@@.Jvm.D
/-! MADE BY PROGRAM (witnessworld.py) out of the Statement's table words and the real class files: 9 classes; the members and pool entries that the words name. The judged class is class 1, her method 1. -/
namespace start1
open Jvm.ClassFile
def u (s : String) : CpInfo := .utf8 (stringToUtf16 s)
/-- a pool by its gaps: so many unusable entries, then the entry; so many at the end -/
def gap : Nat → List CpInfo → List CpInfo
  | 0, r => r
  | n + 1, r => .unusable :: gap n r
def poolList (es : List (Nat × CpInfo)) (last : Nat) : List CpInfo := es.foldr (fun e r => gap e.1 (e.2 :: r)) (gap last [])
def pool (es : List (Nat × CpInfo)) (last : Nat) : Array CpInfo := ⟨poolList es last⟩
def fileOf (pool : Array CpInfo) (this : Nat) (attrs : Array Attribute := #[]) (ms : Array MethodInfo := #[]) (fl : Nat := 33) (sup : Nat := 0) (ifs : Array Nat := #[]) (fds : Array FieldInfo := #[]) : ClassFile where
  minorVersion := 0
  majorVersion := 65
  constantPool := pool
  accessFlags := fl
  thisClass := this
  superClass := sup
  interfaces := ifs
  fields := fds
  methods := ms
  attributes := attrs
def plain (name : String) (sup : Option ClassId) : Class where
  name := name
  kind := .ordinary
  loader := none
  accessFlags := 33
  super := sup
  interfaces := #[]
  cf := none
  fields := #[]
  methods := #[]
  instanceTypes := #[]
  staticTypes := #[]
  resolved := #[]
  callSites := []
  init := .initialized
  statics := none
  mirror := none

def pool0 : Array CpInfo := pool [(5, u "<init>"), (0, u "()V"), (1, .class_ 10), (1, u "java/lang/Object")] 113

def k0c0 : Code := { maxStack := 0, maxLocals := 1, code := object_method_1_code, exceptionTable := #[], attributes := #[] }
def k0m0 : Method := { name := "<init>", desc := "()V", sig := { parameters := [], returnType := none }, accessFlags := 1, code := some k0c0 }
/-- java/lang/Object -/
def k0 : Class := { plain "java/lang/Object" none with
  accessFlags := 33
  interfaces := #[]
  cf := some (fileOf pool0 8 #[] #[{ accessFlags := 1, nameIndex := 5, descriptorIndex := 6, attributes := #[] }] 33 0 #[] #[])
  fields := #[]
  methods := #[k0m0]
  instanceTypes := #[]
  staticTypes := #[]
  resolved := Array.replicate 124 none
  statics := none }

def pool1 : Array CpInfo := pool [(2, .class_ 4), (0, .nameAndType 5 6), (0, u "java/lang/Object"), (0, u "<init>"), (0, u "()V"), (0, .class_ 8), (0, u "com/example/inject2/inject2/DefaultLifecycleProcessor"), (0, .methodref 7 3), (0, .methodref 7 11), (0, .nameAndType 12 13), (0, u "getTimeoutPerShutdownPhase"), (0, u "()J"), (0, .long 30000), (3, .long 9223372036854775807), (1, .methodref 7 21), (0, .nameAndType 22 23), (0, u "setTimeoutPerShutdownPhase"), (0, u "(J)V"), (0, .class_ 25), (0, u "com/example/inject2/inject2/DefaultLifecycleProcessorSetTimeoutPerShutdownPhasePinLaw"), (2, u "law"), (0, u "(JJI)Z")] 3

def k1m0 : Method := { name := "<init>", desc := "()V", sig := { parameters := [], returnType := none }, accessFlags := 1, code := none }
def k1c1 : Code := { maxStack := 4, maxLocals := 11, code := code, exceptionTable := #[], attributes := #[] }
def k1m1 : Method := { name := "law", desc := "(JJI)Z", sig := { parameters := [.long, .long, .int], returnType := some .boolean }, accessFlags := 9, code := some k1c1 }
/-- com/example/inject2/inject2/DefaultLifecycleProcessorSetTimeoutPerShutdownPhasePinLaw -/
def k1 : Class := { plain "com/example/inject2/inject2/DefaultLifecycleProcessorSetTimeoutPerShutdownPhasePinLaw" (some 0) with
  accessFlags := 49
  interfaces := #[]
  cf := some (fileOf pool1 24 #[] #[{ accessFlags := 1, nameIndex := 5, descriptorIndex := 6, attributes := #[] }, { accessFlags := 9, nameIndex := 28, descriptorIndex := 29, attributes := #[] }] 49 2 #[] #[])
  fields := #[]
  methods := #[k1m0, k1m1]
  instanceTypes := #[]
  staticTypes := #[]
  resolved := Array.replicate 33 none
  statics := none }

def pool2 : Array CpInfo := pool [(1, .methodref 2 3), (0, .class_ 4), (0, .nameAndType 5 6), (0, u "java/lang/Object"), (0, u "<init>"), (0, u "()V"), (0, .class_ 8), (0, u "com/example/inject2/inject2/DefaultLifecycleProcessor"), (0, .long 30000), (1, .fieldref 7 12), (0, .nameAndType 13 14), (0, u "timeoutPerShutdownPhase"), (0, u "J"), (11, u "clock"), (0, u "Lcom/example/inject2/inject2/DefaultLifecycleProcessor$Clock;"), (6, .class_ 35), (0, u "com/example/inject2/inject2/DefaultLifecycleProcessor$Starting"), (39, .class_ 76), (0, u "com/example/inject2/inject2/DefaultLifecycleProcessor$Stopping"), (100, .class_ 179), (1, u "com/example/inject2/inject2/DefaultLifecycleProcessor$Clock"), (14, u "()J"), (3, .class_ 199), (0, u "com/example/inject2/inject2/DefaultLifecycleProcessor$Awaited"), (95, u "DEFAULT_TIMEOUT"), (3, u "getTimeoutPerShutdownPhase"), (0, u "setTimeoutPerShutdownPhase"), (0, u "(J)V"), (21, .class_ 324), (0, u "com/example/inject2/inject2/DefaultLifecycleProcessor$SystemClock"), (0, .class_ 326), (0, u "com/example/inject2/inject2/DefaultLifecycleProcessor$Step"), (0, .class_ 328), (0, u "com/example/inject2/inject2/DefaultLifecycleProcessor$Walk")] 52

def k2c0 : Code := { maxStack := 3, maxLocals := 1, code := prog_9_method_1_code, exceptionTable := #[], attributes := #[] }
def k2m0 : Method := { name := "<init>", desc := "()V", sig := { parameters := [], returnType := none }, accessFlags := 1, code := some k2c0 }
def k2c1 : Code := { maxStack := 2, maxLocals := 1, code := prog_9_method_2_code, exceptionTable := #[], attributes := #[] }
def k2m1 : Method := { name := "getTimeoutPerShutdownPhase", desc := "()J", sig := { parameters := [], returnType := some .long }, accessFlags := 1, code := some k2c1 }
def k2c2 : Code := { maxStack := 4, maxLocals := 3, code := prog_9_method_3_code, exceptionTable := #[], attributes := #[] }
def k2m2 : Method := { name := "setTimeoutPerShutdownPhase", desc := "(J)V", sig := { parameters := [.long], returnType := none }, accessFlags := 1, code := some k2c2 }
/-- com/example/inject2/inject2/DefaultLifecycleProcessor -/
def k2 : Class := { plain "com/example/inject2/inject2/DefaultLifecycleProcessor" (some 0) with
  accessFlags := 49
  interfaces := #[]
  cf := some (fileOf pool2 7 #[.nestMembers #[323, 177, 198, 325, 75, 34, 327]] #[{ accessFlags := 1, nameIndex := 5, descriptorIndex := 6, attributes := #[] }, { accessFlags := 1, nameIndex := 299, descriptorIndex := 194, attributes := #[] }, { accessFlags := 1, nameIndex := 300, descriptorIndex := 301, attributes := #[] }] 49 2 #[] #[{ accessFlags := 26, nameIndex := 295, descriptorIndex := 14, attributes := #[] }, { accessFlags := 66, nameIndex := 13, descriptorIndex := 14, attributes := #[] }, { accessFlags := 66, nameIndex := 26, descriptorIndex := 27, attributes := #[] }])
  fields := #[{ name := "DEFAULT_TIMEOUT", type := .long, accessFlags := 26, slot := 0, constantValue := 0 }, { name := "timeoutPerShutdownPhase", type := .long, accessFlags := 66, slot := 0, constantValue := 0 }, { name := "clock", type := (.object "com/example/inject2/inject2/DefaultLifecycleProcessor$Clock"), accessFlags := 66, slot := 1, constantValue := 0 }]
  methods := #[k2m0, k2m1, k2m2]
  instanceTypes := #[.long, (.object "com/example/inject2/inject2/DefaultLifecycleProcessor$Clock")]
  staticTypes := #[.long]
  resolved := Array.replicate 381 none
  statics := none }

def pool3 : Array CpInfo := pool [(1, u "java/lang/Cloneable"), (0, .class_ 1), (0, u "java/lang/Object"), (0, .class_ 3)] 3

/-- java/lang/Cloneable -/
def k3 : Class := { plain "java/lang/Cloneable" (some 0) with
  accessFlags := 1537
  interfaces := #[]
  cf := some (fileOf pool3 2 #[] #[] 1537 4 #[] #[])
  fields := #[]
  methods := #[]
  instanceTypes := #[]
  staticTypes := #[]
  resolved := Array.replicate 8 none
  statics := none }

def pool4 : Array CpInfo := pool [(1, u "java/io/Serializable"), (0, .class_ 1), (0, u "java/lang/Object"), (0, .class_ 3)] 3

/-- java/io/Serializable -/
def k4 : Class := { plain "java/io/Serializable" (some 0) with
  accessFlags := 1537
  interfaces := #[]
  cf := some (fileOf pool4 2 #[] #[] 1537 4 #[] #[])
  fields := #[]
  methods := #[]
  instanceTypes := #[]
  staticTypes := #[]
  resolved := Array.replicate 8 none
  statics := none }

/-- the primitive byte -/
def k5 : Class := { plain "byte" none with kind := .primitive 'B', accessFlags := 0x411 }
/-- [B -/
def k6 : Class := { plain "[B" (some 0) with kind := .array 5 .byte, interfaces := #[3, 4], accessFlags := 1041 }

/-- the primitive int -/
def k7 : Class := { plain "int" none with kind := .primitive 'I', accessFlags := 0x411 }
/-- [I -/
def k8 : Class := { plain "[I" (some 0) with kind := .array 7 .int, interfaces := #[3, 4], accessFlags := 1041 }

def heap : Heap := #[]
def classes : Array Class := #[k0, k1, k2, k3, k4, k5, k6, k7, k8]
def interned : List (Array UInt16 × Addr) := []
def slotsUsed : Nat := 0
def theMethod : MethodId := ⟨1, 1⟩
def args0 : Array Value := #[.long 5, .long 7, .int 1]
def aboutOver (below : List Frame) : State where
  vm := { classes := classes, interned := interned.toArray }
  heap := heap
  slotsUsed := slotsUsed
  threads := #[{ frames := .invoking theMethod args0 :: below }]
def below0 : List Frame := [.native { method := ⟨0, 0⟩, args := #[] }]
def about1 : State := aboutOver below0
def p0 : Program := .bare "" "" ""
def e0 : Env := launch0.env 0 0 0
theorem w_frames : about1.frames = Frame.invoking theMethod args0 :: below0 := rfl
set_option maxRecDepth 65536 in
theorem w_args : argsFit about1.vm theMethod args0 = true := by decide +kernel
set_option maxRecDepth 65536 in
theorem w_heap : heapFits about1 = true := by decide +kernel
set_option maxRecDepth 65536 in
theorem w_runnable : about1.curStatus? = some .runnable := by decide +kernel
set_option maxRecDepth 65536 in
theorem w_alone : about1.alone = true := by decide +kernel
set_option maxRecDepth 65536 in
theorem w_named : about1.methodNamed? x = some theMethod := by decide +kernel
set_option maxRecDepth 65536 in
theorem w_hears : about1.hears theMethod below0 = true := by decide +kernel
set_option maxRecDepth 65536 in
theorem w_ripe : about1.ripe theMethod args0 below0 = true := by decide +kernel
theorem w_running : about1.status = .running := rfl
set_option maxRecDepth 65536 in
theorem w_room : about1.hasRoom e0.platform room_1 = true :=
  launch0.hasRoom_least _ room_1 (by decide +kernel) (by decide +kernel) (by decide +kernel) (by decide +kernel) (by decide +kernel) (by decide +kernel)
theorem allAtoms_all (ts : List Jvm.Cond) (a : Array Jvm.Value) (st : Jvm.State) : (allAtoms ts).before a st = ts.all (fun c => c.before a st) := by
  induction ts with
  | nil => rfl
  | cons c t ih =>
    show (Jvm.Cond.and c (allAtoms t)).before a st = _
    rw [Jvm.Cond.before_and, ih, List.all_cons]
def words1 : List Jvm.Cond := Jvm.Cond.code x code maxLocals ret :: tables_1
/-- a 'code' word, met by the world's own term for the bytes: nothing is compared byte by byte -/
theorem code_word {y : MethodName} {bytes : ByteArray} {mx : Nat} {rt : Option FieldType} {a : Array Value} {s : State} {m : MethodId} {meth : Method} {c : Code} (h1 : s.methodNamed? y = some m) (h2 : s.vm.method? m = some meth) (h3 : meth.code = some c) (h4 : c.code = bytes)
    (h5 : (c.maxLocals == mx && c.exceptionTable.isEmpty && decide (c.maxStack ≤ mostOperands) && decide (meth.sig.returnType = rt) && !meth.locks && decide (parseMethodDescriptor y.desc = some meth.sig)) = true) : (Jvm.Cond.code y bytes mx rt).before a s = true := by
  simp only [Bool.and_eq_true, beq_iff_eq, Bool.not_eq_true', decide_eq_true_eq] at h5
  obtain ⟨⟨⟨⟨⟨g1, g2⟩, g3⟩, g4⟩, g5⟩, g6⟩ := h5
  simp [Cond.before, Cond.holds, Cond.value, h1, h2, h3, h4, g1, g2, g3, g4, g5, g6]
def isCode : Jvm.Cond → Bool
  | .code _ _ _ _ => true
  | _ => false
theorem all_split {L : List Jvm.Cond} {P : Jvm.Cond → Bool} (h1 : L.all (fun c => isCode c || P c) = true) (h2 : ∀ c ∈ L.filter isCode, P c = true) : L.all P = true := by
  refine List.all_eq_true.mpr fun c hc => ?_
  have h := List.all_eq_true.mp h1 c hc
  rcases Bool.eq_false_or_eq_true (isCode c) with hi | hi
  · exact h2 c (List.mem_filter.mpr ⟨hc, hi⟩)
  · simpa [hi] using h
set_option maxRecDepth 65536 in
theorem w_c0 : (Jvm.Cond.code x code maxLocals ret).before args0 about1 = true := code_word (m := ⟨1, 1⟩) (meth := k1m1) (c := k1c1) (by decide +kernel) rfl rfl rfl (by decide +kernel)
set_option maxRecDepth 65536 in
theorem w_c1 : (Jvm.Cond.code ({ cls := "com/example/inject2/inject2/DefaultLifecycleProcessor", name := "<init>", desc := "()V" } : Jvm.MethodName) prog_9_method_1_code (1 : Nat) (Option.none : Option Jvm.ClassFile.FieldType)).before args0 about1 = true := code_word (m := ⟨2, 0⟩) (meth := k2m0) (c := k2c0) (by decide +kernel) rfl rfl rfl (by decide +kernel)
set_option maxRecDepth 65536 in
theorem w_c2 : (Jvm.Cond.code ({ cls := "java/lang/Object", name := "<init>", desc := "()V" } : Jvm.MethodName) object_method_1_code (1 : Nat) (Option.none : Option Jvm.ClassFile.FieldType)).before args0 about1 = true := code_word (m := ⟨0, 0⟩) (meth := k0m0) (c := k0c0) (by decide +kernel) rfl rfl rfl (by decide +kernel)
set_option maxRecDepth 65536 in
theorem w_c3 : (Jvm.Cond.code ({ cls := "com/example/inject2/inject2/DefaultLifecycleProcessor", name := "getTimeoutPerShutdownPhase", desc := "()J" } : Jvm.MethodName) prog_9_method_2_code (1 : Nat) (Option.some Jvm.ClassFile.FieldType.long)).before args0 about1 = true := code_word (m := ⟨2, 1⟩) (meth := k2m1) (c := k2c1) (by decide +kernel) rfl rfl rfl (by decide +kernel)
set_option maxRecDepth 65536 in
theorem w_c4 : (Jvm.Cond.code ({ cls := "com/example/inject2/inject2/DefaultLifecycleProcessor", name := "setTimeoutPerShutdownPhase", desc := "(J)V" } : Jvm.MethodName) prog_9_method_3_code (3 : Nat) (Option.none : Option Jvm.ClassFile.FieldType)).before args0 about1 = true := code_word (m := ⟨2, 2⟩) (meth := k2m2) (c := k2c2) (by decide +kernel) rfl rfl rfl (by decide +kernel)
def codes1 : List Jvm.Cond := [Jvm.Cond.code x code maxLocals ret, Jvm.Cond.code ({ cls := "com/example/inject2/inject2/DefaultLifecycleProcessor", name := "<init>", desc := "()V" } : Jvm.MethodName) prog_9_method_1_code (1 : Nat) (Option.none : Option Jvm.ClassFile.FieldType), Jvm.Cond.code ({ cls := "java/lang/Object", name := "<init>", desc := "()V" } : Jvm.MethodName) object_method_1_code (1 : Nat) (Option.none : Option Jvm.ClassFile.FieldType), Jvm.Cond.code ({ cls := "com/example/inject2/inject2/DefaultLifecycleProcessor", name := "getTimeoutPerShutdownPhase", desc := "()J" } : Jvm.MethodName) prog_9_method_2_code (1 : Nat) (Option.some Jvm.ClassFile.FieldType.long), Jvm.Cond.code ({ cls := "com/example/inject2/inject2/DefaultLifecycleProcessor", name := "setTimeoutPerShutdownPhase", desc := "(J)V" } : Jvm.MethodName) prog_9_method_3_code (3 : Nat) (Option.none : Option Jvm.ClassFile.FieldType)]
set_option maxRecDepth 65536 in
theorem codes_eq : words1.filter isCode = codes1 := rfl
theorem w_codes : ∀ c ∈ words1.filter isCode, c.before args0 about1 = true := by
  rw [codes_eq]
  intro c hc
  simp only [codes1, List.mem_cons, List.not_mem_nil, or_false] at hc
  rcases hc with rfl | rfl | rfl | rfl | rfl
  · exact w_c0
  · exact w_c1
  · exact w_c2
  · exact w_c3
  · exact w_c4
set_option maxRecDepth 65536 in
theorem w_t1 : (words1.take 24).all (fun c => isCode c || c.before args0 about1) = true := by decide +kernel
set_option maxRecDepth 65536 in
theorem w_t2 : (words1.drop 24).all (fun c => isCode c || c.before args0 about1) = true := by decide +kernel
theorem w_tables : (allAtoms (Jvm.Cond.code x code maxLocals ret :: tables_1)).before args0 about1 = true := by
  rw [allAtoms_all]
  show words1.all (fun c => c.before args0 about1) = true
  refine all_split ?_ w_codes
  rw [← List.take_append_drop 24 words1, List.all_append, w_t1, w_t2]
  rfl
set_option maxRecDepth 65536 in
theorem w_case : (Jvm.Cond.and given_1 narrow_1).before args0 about1 = true := by decide +kernel
theorem w_applies : (headSpec (Jvm.Cond.code x code maxLocals ret :: tables_1) room_1).applies x e0.platform about1 = true :=
  (Spec.applies_iff w_frames).mpr ⟨w_running, w_runnable, w_alone, w_named, w_hears, w_ripe, w_room, w_tables⟩
theorem atStart : AtStart classFile x code maxLocals ret World_1 tables_1 room_1 Calls_1 rest_1 Pre_1 launch0 p0 e0 about1 theMethod args0 below0 :=
  ⟨lists_1, trivial, launch0.admits_env _ _ _, launch0.least_env, fairChoices_fair.cas, fairChoices_fair.clock, w_frames, w_args, w_heap, w_applies, trivial, trivial, w_case⟩
end start1
theorem witness_1 : WitnessClaimed_1 := ⟨start1.p0, start1.e0, start1.about1, start1.theMethod, start1.args0, start1.below0, start1.atStart⟩
end Jvm.Pilot.@@N@@
