import JvmDerived
import JvmDerived.Pilot.@@N@@Statement
import JvmDerived.Pilot.@@N@@Code
set_option linter.unusedVariables false
set_option linter.unusedSimpArgs false
namespace Jvm.Pilot.@@N@@
open Jvm Jvm.ClassFile Sem Op Lib Jvm.Free Jvm.Stand Jvm.LawKit Jvm.RoadKit Bundle Jvm.Pilot.@@N@@.Jvm.D
theorem own_eq {t : Term} {k : Int32} {args : Array Value} {s : State} (h : (Jvm.Cond.eq t (.int k)).value args s none s [] = some true) : t.eval args s none [] s = some (.int k) := by
  simp only [Cond.value, Term.eval] at h
  cases ht : t.eval args s none [] s with
  | none => simp [ht] at h
  | some x => cases x <;> simp [ht] at h ⊢; exact h
theorem own_eqL {t : Term} {k : Int64} {args : Array Value} {s : State} (h : (Jvm.Cond.eq t (.long k)).value args s none s [] = some true) : t.eval args s none [] s = some (.long k) := by
  simp only [Cond.value, Term.eval] at h
  cases ht : t.eval args s none [] s with
  | none => simp [ht] at h
  | some x => cases x <;> simp [ht] at h ⊢; exact h
def own_sat (a : Int64) (b : Int64) : Int64 := (if ((9223372036854775807 : Int64) - a) < b then (9223372036854775807 : Int64) else (a + b))
def own_max (a : Int64) (b : Int64) : Int64 := (if a < b then b else a)
theorem own_nn (a : Int64) : 0 ≤ (a &&& (9223372036854775807 : Int64)).toInt := by
  have h := c_maskL a (9223372036854775807 : Int64) 63 (by decide) (by decide)
  omega
theorem own_sat0 (n : Int64) : own_sat (0 : Int64) n = n := by
  have q : ¬ ((9223372036854775807 : Int64) - (0 : Int64)) < n := by
    rw [Int64.lt_iff_toInt_lt, show ((9223372036854775807 : Int64) - (0 : Int64)).toInt = 9223372036854775807 from rfl]; have r := rng64 n; omega
  rw [own_sat, if_neg q]
  apply Int64.toInt_inj.mp
  have a := c_ladd 0 n; rw [show (0 : Int64).toInt = 0 from rfl] at a; have r := rng64 n; have r2 := rng64 (0 + n); omega
theorem own_max0 (n : Int64) (h : 0 ≤ n.toInt) : own_max (0 : Int64) n = n := by
  rw [own_max]; split
  · rfl
  · rename_i q
    apply Int64.toInt_inj.mp
    rw [Int64.lt_iff_toInt_lt, show (0 : Int64).toInt = 0 from rfl] at q; rw [show (0 : Int64).toInt = 0 from rfl]; omega
theorem own_div1 (n : Int64) (h : 0 ≤ n.toInt) : n / ((0 : Int64) + (1 : Int64)) = n := by
  apply Int64.toInt_inj.mp
  rw [(c_ldiv n ((0 : Int64) + (1 : Int64)) 1 rfl (by decide)).1 h]; omega
theorem own_dnn (n : Int64) (h : 0 ≤ n.toInt) : 0 ≤ (n / (1000000 : Int64)).toInt := by
  rw [(c_ldiv n (1000000 : Int64) 1000000 rfl (by decide)).1 h]; omega
theorem own_w (z1 z2 : Int32) : (if z1 = (0 : Int32) then (if z2 = (0 : Int32) then (0 : Int64) else ((0 : Int64) + (1 : Int64))) else ((if z2 = (0 : Int32) then (0 : Int64) else ((0 : Int64) + (1 : Int64))) + (1 : Int64))) = ((if z2 = (0 : Int32) then (0 : Int64) else (1 : Int64)) + (if z1 = (0 : Int32) then (0 : Int64) else (1 : Int64))) := by
  by_cases p : z1 = 0 <;> by_cases q : z2 = 0 <;> simp only [p, q, if_true, if_false] <;> rfl
theorem own_e (z3 : Int32) : (if z3 = (0 : Int32) then (0 : Int64) else ((0 : Int64) + (1 : Int64))) = (if z3 = (0 : Int32) then (0 : Int64) else (1 : Int64)) := by
  by_cases p : z3 = 0 <;> simp only [p, if_true, if_false] <;> rfl
theorem own_t (z3 : Int32) (n : Int64) : ((if z3 = (0 : Int32) then (0 : Int64) else own_sat (0 : Int64) n) / (1000000 : Int64)) = (if z3 = (0 : Int32) then (0 : Int64) else n / (1000000 : Int64)) := by
  by_cases p : z3 = 0
  · rw [if_pos p, if_pos p]; rfl
  · rw [if_neg p, if_neg p, own_sat0]
theorem own_l (z3 : Int32) (n : Int64) (h : 0 ≤ n.toInt) : ((if z3 = (0 : Int32) then (0 : Int64) else own_max (0 : Int64) n) / (1000000 : Int64)) = (if z3 = (0 : Int32) then (0 : Int64) else n / (1000000 : Int64)) := by
  by_cases p : z3 = 0
  · rw [if_pos p, if_pos p]; rfl
  · rw [if_neg p, if_neg p, own_max0 n h]
theorem own_a (z3 : Int32) (n : Int64) (h : 0 ≤ n.toInt) : (if (if z3 = (0 : Int32) then (0 : Int64) else ((0 : Int64) + (1 : Int64))) = (0 : Int64) then (0 : Int64) else (((if z3 = (0 : Int32) then (0 : Int64) else own_sat (0 : Int64) n) / (1000000 : Int64)) / (if z3 = (0 : Int32) then (0 : Int64) else ((0 : Int64) + (1 : Int64))))) = (if z3 = (0 : Int32) then (0 : Int64) else n / (1000000 : Int64)) := by
  by_cases p : z3 = 0
  · rw [if_pos p, if_pos p, if_pos p, if_pos rfl]
  · rw [if_neg p, if_neg p, if_neg p, if_neg (by decide), own_sat0, own_div1 _ (own_dnn n h)]
theorem d1_0 : decode prog_14_method_1_code 0 = .ok (.aload_n 0, 1) := by decide +kernel
theorem d1_1 : decode prog_14_method_1_code 1 = .ok (.invokespecial 1, 3) := by decide +kernel
theorem d1_4 : decode prog_14_method_1_code 4 = .ok (.return_, 1) := by decide +kernel
theorem pn_1 : plainName "com/example/diligent_locks/diligentlocks/LockCounts" = true := by first | (simp [plainName, overriddenIn]; done) | decide +kernel
theorem ef_1 (m : MethodId) (x0 : Addr) : entryFrame m #[(.ref x0)] 1 = mkF m 0 #[.val (.ref x0)] [] := by first | (simp [entryFrame, mkF, argsToLocals, Value.category]; done) | rfl
def Q1 (Z : State) (a : Addr) (h0 : Heap) (n0 : Nat) (v : Option Value) (h : Heap) (L : List Loc) : Prop := v = none ∧ Fr n0 L ∧ h = h0
set_option maxRecDepth 65536 in
set_option maxHeartbeats 40000000 in
theorem rm1 (l : Launch) (Z : State) (a0 : Array Value) (hw : ∀ d ∈ tables_1, d.before a0 Z = true) (ws : List Jvm.Cond) (a : Addr) (h0 : Heap) (n0 : Nat) (Z0 : n0 ≤ h0.size)  :
    MetFree l (⟨"com/example/diligent_locks/diligentlocks/LockCounts", "<init>", "()V"⟩ : MethodName) (head1 (Jvm.Cond.code (⟨"com/example/diligent_locks/diligentlocks/LockCounts", "<init>", "()V"⟩ : MethodName) prog_14_method_1_code 1 none :: ws) ({ frames := 1, cells := 0, slots := 0, locals := 12 } : Room)) (fun ar U => ar = #[(.ref a)] ∧ Z.Warmed39 U.vm ∧ U.heap = h0) (fun _ _ _ _ _ => True) (fun _ U o U' => ∃ v L, o = .returned v ∧ Q1 Z a h0 n0 v U'.heap L ∧ FrameEnd U o U' L ({ frames := 1, cells := 0, slots := 0, locals := 12 } : Room).cells ({ frames := 1, cells := 0, slots := 0, locals := 12 } : Room).slots) := by
  refine MetFree.of_bodySF (plainFor_of_name pn_1) hisR ?_
  intro p e s m args below meth c s₁ Bd hml0 hP hK
  obtain ⟨rfl, hZ, hh⟩ := hP
  have hx := Bd.exec
  have hby := Bd.bytes
  have hml : c.maxLocals = 1 := hml0
  have hown : s.vm.findClass "com/example/diligent_locks/diligentlocks/LockCounts" = some m.cls := findClass_of_methodNamed Bd.named
  have hnm := (name_of_methodNamed Bd.named Bd.method).1
  have X0 : Stand p l e ({ frames := 1, cells := 0, slots := 0, locals := 12 } : Room) s m #[(.ref a)] below meth c s₁ [] 0 0 := Stand.of_body Bd
  have e0 : s₁.heap = h0 := by rw [← hh, Bd.state]; rfl
  have N0 := Fr.nil n0
  have K0 : Keep h0 h0 [] := Keep.refl h0 _
  have pre0 : ∀ t, Steps p.tables e below (s₁.setTop (mkF m 0 #[.val (.ref a)] [])) t → Steps p.tables e below (s₁.setTop (entryFrame m #[(.ref a)] 1)) t := fun t k => castTop (ef_1 m a) k
  obtain ⟨T1, X1, e1, st1⟩ := initO X0 hx hZ hown (hw _ (List.mem_of_getElem? (i := 7) rfl)) (hw _ (List.mem_of_getElem? (i := 8) rfl)) (hw _ (List.mem_of_getElem? (i := 9) rfl)) e0 (g := (mkF m 1 #[.val (.ref a)] [(.ref a)])) rfl (by rw [hml]; rfl) rfl (hb hby d1_1) (by decide) (W := 0) (by show 2 * 0 + _ ≤ _; exact Nat.le_of_eq rfl) (by decide)
  obtain ⟨fs, hr, hrun, hended, hW, hsame⟩ := X1.leave (v := none) (fun _ => rfl)
  refine ⟨_, _, pre0 _ ?_, hrun, hended, _, _, rfl, ?_, ⟨_, rfl⟩, hW, hsame.mono (by decide) (by decide)⟩
  · show Steps p.tables e below (s₁.setTop (mkF m 0 #[.val (.ref a)] [])) _
    refine XS.aloadN X0.here hx rfl (hb hby d1_0) rfl rfl ?_
    show Steps p.tables e below (s₁.setTop (mkF m 1 #[.val (.ref a)] [(.ref a)])) _
    refine st1 _ ?_
    show Steps p.tables e below (T1.setTop (mkF m 4 #[.val (.ref a)] [])) _
    exact X1.returnOut hx Bd.returns (hb hby d1_4) hr
  · show Q1 Z a h0 n0 _ T1.heap _
    rw [e1]
    exact ⟨rfl, N0, rfl⟩
theorem d7_0 : decode jdk_30_method_1_code 0 = .ok (.aload_n 0, 1) := by decide +kernel
theorem d7_1 : decode jdk_30_method_1_code 1 = .ok (.invokespecial 1, 3) := by decide +kernel
theorem d7_4 : decode jdk_30_method_1_code 4 = .ok (.return_, 1) := by decide +kernel
theorem pn_7 : plainName "java/lang/Record" = true := by first | (simp [plainName, overriddenIn]; done) | decide +kernel
theorem ef_7 (m : MethodId) (x0 : Addr) : entryFrame m #[(.ref x0)] 1 = mkF m 0 #[.val (.ref x0)] [] := by first | (simp [entryFrame, mkF, argsToLocals, Value.category]; done) | rfl
def Q7 (Z : State) (a : Addr) (h0 : Heap) (n0 : Nat) (v : Option Value) (h : Heap) (L : List Loc) : Prop := v = none ∧ Fr n0 L ∧ h = h0
set_option maxRecDepth 65536 in
set_option maxHeartbeats 40000000 in
theorem rm7 (l : Launch) (Z : State) (a0 : Array Value) (hw : ∀ d ∈ tables_1, d.before a0 Z = true) (ws : List Jvm.Cond) (a : Addr) (h0 : Heap) (n0 : Nat) (Z0 : n0 ≤ h0.size)  :
    MetFree l (⟨"java/lang/Record", "<init>", "()V"⟩ : MethodName) (head1 (Jvm.Cond.code (⟨"java/lang/Record", "<init>", "()V"⟩ : MethodName) jdk_30_method_1_code 1 none :: ws) ({ frames := 1, cells := 0, slots := 0, locals := 12 } : Room)) (fun ar U => ar = #[(.ref a)] ∧ Z.Warmed39 U.vm ∧ U.heap = h0) (fun _ _ _ _ _ => True) (fun _ U o U' => ∃ v L, o = .returned v ∧ Q7 Z a h0 n0 v U'.heap L ∧ FrameEnd U o U' L ({ frames := 1, cells := 0, slots := 0, locals := 12 } : Room).cells ({ frames := 1, cells := 0, slots := 0, locals := 12 } : Room).slots) := by
  refine MetFree.of_bodySF (plainFor_of_name pn_7) hisR ?_
  intro p e s m args below meth c s₁ Bd hml0 hP hK
  obtain ⟨rfl, hZ, hh⟩ := hP
  have hx := Bd.exec
  have hby := Bd.bytes
  have hml : c.maxLocals = 1 := hml0
  have hown : s.vm.findClass "java/lang/Record" = some m.cls := findClass_of_methodNamed Bd.named
  have hnm := (name_of_methodNamed Bd.named Bd.method).1
  have X0 : Stand p l e ({ frames := 1, cells := 0, slots := 0, locals := 12 } : Room) s m #[(.ref a)] below meth c s₁ [] 0 0 := Stand.of_body Bd
  have e0 : s₁.heap = h0 := by rw [← hh, Bd.state]; rfl
  have N0 := Fr.nil n0
  have K0 : Keep h0 h0 [] := Keep.refl h0 _
  have pre0 : ∀ t, Steps p.tables e below (s₁.setTop (mkF m 0 #[.val (.ref a)] [])) t → Steps p.tables e below (s₁.setTop (entryFrame m #[(.ref a)] 1)) t := fun t k => castTop (ef_7 m a) k
  obtain ⟨T1, X1, e1, st1⟩ := initO X0 hx hZ hown (hw _ (List.mem_of_getElem? (i := 56) rfl)) (hw _ (List.mem_of_getElem? (i := 8) rfl)) (hw _ (List.mem_of_getElem? (i := 9) rfl)) e0 (g := (mkF m 1 #[.val (.ref a)] [(.ref a)])) rfl (by rw [hml]; rfl) rfl (hb hby d7_1) (by decide) (W := 0) (by show 2 * 0 + _ ≤ _; exact Nat.le_of_eq rfl) (by decide)
  obtain ⟨fs, hr, hrun, hended, hW, hsame⟩ := X1.leave (v := none) (fun _ => rfl)
  refine ⟨_, _, pre0 _ ?_, hrun, hended, _, _, rfl, ?_, ⟨_, rfl⟩, hW, hsame.mono (by decide) (by decide)⟩
  · show Steps p.tables e below (s₁.setTop (mkF m 0 #[.val (.ref a)] [])) _
    refine XS.aloadN X0.here hx rfl (hb hby d7_0) rfl rfl ?_
    show Steps p.tables e below (s₁.setTop (mkF m 1 #[.val (.ref a)] [(.ref a)])) _
    refine st1 _ ?_
    show Steps p.tables e below (T1.setTop (mkF m 4 #[.val (.ref a)] [])) _
    exact X1.returnOut hx Bd.returns (hb hby d7_4) hr
  · show Q7 Z a h0 n0 _ T1.heap _
    rw [e1]
    exact ⟨rfl, N0, rfl⟩
theorem d14_0 : decode prog_14_method_4_code 0 = .ok (.lload_n 2, 1) := by decide +kernel
theorem d14_1 : decode prog_14_method_4_code 1 = .ok (.ldc2_w 37, 3) := by decide +kernel
theorem d14_4 : decode prog_14_method_4_code 4 = .ok (.lload_n 0, 1) := by decide +kernel
theorem d14_5 : decode prog_14_method_4_code 5 = .ok (.lsub, 1) := by decide +kernel
theorem d14_6 : decode prog_14_method_4_code 6 = .ok (.lcmp, 1) := by decide +kernel
theorem d14_7 : decode prog_14_method_4_code 7 = .ok (.ifCond .le 9, 3) := by decide +kernel
theorem d14_10 : decode prog_14_method_4_code 10 = .ok (.ldc2_w 37, 3) := by decide +kernel
theorem d14_13 : decode prog_14_method_4_code 13 = .ok (.goto 6, 3) := by decide +kernel
theorem d14_16 : decode prog_14_method_4_code 16 = .ok (.lload_n 0, 1) := by decide +kernel
theorem d14_17 : decode prog_14_method_4_code 17 = .ok (.lload_n 2, 1) := by decide +kernel
theorem d14_18 : decode prog_14_method_4_code 18 = .ok (.ladd, 1) := by decide +kernel
theorem d14_19 : decode prog_14_method_4_code 19 = .ok (.lreturn, 1) := by decide +kernel
theorem pn_14 : plainName "com/example/diligent_locks/diligentlocks/LockCounts" = true := by first | (simp [plainName, overriddenIn]; done) | decide +kernel
theorem ef_14 (m : MethodId) (x0 : Int64) (x1 : Int64) : entryFrame m #[(.long x0), (.long x1)] 4 = mkF m 0 #[.val (.long x0), .second, .val (.long x1), .second] [] := by first | (simp [entryFrame, mkF, argsToLocals, Value.category]; done) | rfl
def Q14 (Z : State) (a : Int64) (b : Int64) (h0 : Heap) (n0 : Nat) (v : Option Value) (h : Heap) (L : List Loc) : Prop := v = some (.long (own_sat a b)) ∧ Fr n0 L ∧ h = h0
set_option maxRecDepth 65536 in
set_option maxHeartbeats 40000000 in
theorem rm14 (l : Launch) (Z : State) (a0 : Array Value) (hw : ∀ d ∈ tables_1, d.before a0 Z = true) (ws : List Jvm.Cond) (a : Int64) (b : Int64) (h0 : Heap) (n0 : Nat) (Z0 : n0 ≤ h0.size)  :
    MetFree l (⟨"com/example/diligent_locks/diligentlocks/LockCounts", "saturatedSum", "(JJ)J"⟩ : MethodName) (head1 (Jvm.Cond.code (⟨"com/example/diligent_locks/diligentlocks/LockCounts", "saturatedSum", "(JJ)J"⟩ : MethodName) prog_14_method_4_code 4 (some .long) :: ws) ({ frames := 0, cells := 0, slots := 0, locals := 0 } : Room)) (fun ar U => ar = #[(.long a), (.long b)] ∧ Z.Warmed39 U.vm ∧ U.heap = h0) (fun _ _ _ _ _ => True) (fun _ U o U' => ∃ v L, o = .returned v ∧ Q14 Z a b h0 n0 v U'.heap L ∧ FrameEnd U o U' L ({ frames := 0, cells := 0, slots := 0, locals := 0 } : Room).cells ({ frames := 0, cells := 0, slots := 0, locals := 0 } : Room).slots) := by
  refine MetFree.of_bodySF (plainFor_of_name pn_14) hisR ?_
  intro p e s m args below meth c s₁ Bd hml0 hP hK
  obtain ⟨rfl, hZ, hh⟩ := hP
  have hx := Bd.exec
  have hby := Bd.bytes
  have hml : c.maxLocals = 4 := hml0
  have hown : s.vm.findClass "com/example/diligent_locks/diligentlocks/LockCounts" = some m.cls := findClass_of_methodNamed Bd.named
  have hnm := (name_of_methodNamed Bd.named Bd.method).1
  have X0 : Stand p l e ({ frames := 0, cells := 0, slots := 0, locals := 0 } : Room) s m #[(.long a), (.long b)] below meth c s₁ [] 0 0 := Stand.of_body Bd
  have e0 : s₁.heap = h0 := by rw [← hh, Bd.state]; rfl
  have N0 := Fr.nil n0
  have K0 : Keep h0 h0 [] := Keep.refl h0 _
  have pre0 : ∀ t, Steps p.tables e below (s₁.setTop (mkF m 0 #[.val (.long a), .second, .val (.long b), .second] [])) t → Steps p.tables e below (s₁.setTop (entryFrame m #[(.long a), (.long b)] 4)) t := fun t k => castTop (ef_14 m a b) k
  have pre1 : ∀ t, Steps p.tables e below (s₁.setTop (mkF m 7 #[.val (.long a), .second, .val (.long b), .second] [(.int (lcmpW b ((9223372036854775807 : Int64) - a)))])) t → Steps p.tables e below (s₁.setTop (entryFrame m #[(.long a), (.long b)] 4)) t := by
    intro t kt
    refine pre0 t ?_
    show Steps p.tables e below (s₁.setTop (mkF m 0 #[.val (.long a), .second, .val (.long b), .second] [])) _
    refine XS.lloadN X0.here hx rfl (hb hby d14_0) rfl ?_
    show Steps p.tables e below (s₁.setTop (mkF m 1 #[.val (.long a), .second, .val (.long b), .second] [(.long b)])) _
    refine X0.ldc2Long hx hown (mvT hZ (hw _ (List.mem_of_getElem? (i := 100) rfl))) (g := (mkF m 1 #[.val (.long a), .second, .val (.long b), .second] [(.long b)])) rfl (hb hby d14_1) _ ?_
    show Steps p.tables e below (s₁.setTop (mkF m 4 #[.val (.long a), .second, .val (.long b), .second] [(.long (9223372036854775807 : Int64)), (.long b)])) _
    refine XS.lloadN X0.here hx rfl (hb hby d14_4) rfl ?_
    show Steps p.tables e below (s₁.setTop (mkF m 5 #[.val (.long a), .second, .val (.long b), .second] [(.long a), (.long (9223372036854775807 : Int64)), (.long b)])) _
    refine XS.lsub X0.here hx rfl (hb hby d14_5) rfl ?_
    show Steps p.tables e below (s₁.setTop (mkF m 6 #[.val (.long a), .second, .val (.long b), .second] [(.long ((9223372036854775807 : Int64) - a)), (.long b)])) _
    refine XS.lcmp X0.here hx rfl (hb hby d14_6) rfl ?_
    exact kt
  by_cases hc7_2 : ((9223372036854775807 : Int64) - a) < b
  · obtain ⟨fs, hr, hrun, hended, hW, hsame⟩ := X0.leave (v := some (.long (9223372036854775807 : Int64))) (fun h => by rw [Bd.returns] at h; cases h)
    refine ⟨_, _, pre1 _ ?_, hrun, hended, _, _, rfl, ?_, ⟨_, rfl⟩, hW, hsame.mono (by decide) (by decide)⟩
    · show Steps p.tables e below (s₁.setTop (mkF m 7 #[.val (.long a), .second, .val (.long b), .second] [(.int (lcmpW b ((9223372036854775807 : Int64) - a)))])) _
      refine XS.ifNo X0.here hx rfl (hb hby d14_7) rfl ((if0 _ _).trans (tlt ((lw_gt b ((9223372036854775807 : Int64) - a)).mpr hc7_2)).2.2.2) ?_
      show Steps p.tables e below (s₁.setTop (mkF m 10 #[.val (.long a), .second, .val (.long b), .second] [])) _
      refine X0.ldc2Long hx hown (mvT hZ (hw _ (List.mem_of_getElem? (i := 100) rfl))) (g := (mkF m 10 #[.val (.long a), .second, .val (.long b), .second] [])) rfl (hb hby d14_10) _ ?_
      show Steps p.tables e below (s₁.setTop (mkF m 13 #[.val (.long a), .second, .val (.long b), .second] [(.long (9223372036854775807 : Int64))])) _
      refine XS.goto X0.here hx rfl (pc0 := 13) (pc' := 19) rfl (hb hby d14_13) (by decide) (by decide) ?_
      show Steps p.tables e below (s₁.setTop (mkF m 19 #[.val (.long a), .second, .val (.long b), .second] [(.long (9223372036854775807 : Int64))])) _
      exact retOut X0 hx Bd.returns rfl (Or.inr (Or.inl ⟨rfl, rfl, _, rfl⟩)) (hb hby d14_19) hr
    · show Q14 Z a b h0 n0 _ s₁.heap _
      rw [e0]
      exact ⟨by rw [own_sat, if_pos hc7_2], N0, rfl⟩
  · obtain ⟨fs, hr, hrun, hended, hW, hsame⟩ := X0.leave (v := some (.long (a + b))) (fun h => by rw [Bd.returns] at h; cases h)
    refine ⟨_, _, pre1 _ ?_, hrun, hended, _, _, rfl, ?_, ⟨_, rfl⟩, hW, hsame.mono (by decide) (by decide)⟩
    · show Steps p.tables e below (s₁.setTop (mkF m 7 #[.val (.long a), .second, .val (.long b), .second] [(.int (lcmpW b ((9223372036854775807 : Int64) - a)))])) _
      refine XS.ifYes X0.here hx rfl (pc0 := 7) (pc' := 16) rfl (hb hby d14_7) rfl ((if0 _ _).trans (flt (fun q => hc7_2 ((lw_gt b ((9223372036854775807 : Int64) - a)).mp q))).2.2.2) (by decide) (by decide) ?_
      show Steps p.tables e below (s₁.setTop (mkF m 16 #[.val (.long a), .second, .val (.long b), .second] [])) _
      refine XS.lloadN X0.here hx rfl (hb hby d14_16) rfl ?_
      show Steps p.tables e below (s₁.setTop (mkF m 17 #[.val (.long a), .second, .val (.long b), .second] [(.long a)])) _
      refine XS.lloadN X0.here hx rfl (hb hby d14_17) rfl ?_
      show Steps p.tables e below (s₁.setTop (mkF m 18 #[.val (.long a), .second, .val (.long b), .second] [(.long b), (.long a)])) _
      refine XS.ladd X0.here hx rfl (hb hby d14_18) rfl ?_
      show Steps p.tables e below (s₁.setTop (mkF m 19 #[.val (.long a), .second, .val (.long b), .second] [(.long (a + b))])) _
      exact retOut X0 hx Bd.returns rfl (Or.inr (Or.inl ⟨rfl, rfl, _, rfl⟩)) (hb hby d14_19) hr
    · show Q14 Z a b h0 n0 _ s₁.heap _
      rw [e0]
      exact ⟨by rw [own_sat, if_neg hc7_2], N0, rfl⟩
theorem d15_0 : decode jdk_29_method_66_code 0 = .ok (.lload_n 0, 1) := by decide +kernel
theorem d15_1 : decode jdk_29_method_66_code 1 = .ok (.lload_n 2, 1) := by decide +kernel
theorem d15_2 : decode jdk_29_method_66_code 2 = .ok (.lcmp, 1) := by decide +kernel
theorem d15_3 : decode jdk_29_method_66_code 3 = .ok (.ifCond .lt 7, 3) := by decide +kernel
theorem d15_6 : decode jdk_29_method_66_code 6 = .ok (.lload_n 0, 1) := by decide +kernel
theorem d15_7 : decode jdk_29_method_66_code 7 = .ok (.goto 4, 3) := by decide +kernel
theorem d15_10 : decode jdk_29_method_66_code 10 = .ok (.lload_n 2, 1) := by decide +kernel
theorem d15_11 : decode jdk_29_method_66_code 11 = .ok (.lreturn, 1) := by decide +kernel
theorem ef_15 (m : MethodId) (x0 : Int64) (x1 : Int64) : entryFrame m #[(.long x0), (.long x1)] 4 = mkF m 0 #[.val (.long x0), .second, .val (.long x1), .second] [] := by first | (simp [entryFrame, mkF, argsToLocals, Value.category]; done) | rfl
def Q15 (Z : State) (a : Int64) (b : Int64) (h0 : Heap) (n0 : Nat) (v : Option Value) (h : Heap) (L : List Loc) : Prop := v = some (.long (own_max a b)) ∧ Fr n0 L ∧ h = h0
set_option maxRecDepth 65536 in
set_option maxHeartbeats 40000000 in
theorem rm15 (l : Launch) (Z : State) (a0 : Array Value) (hw : ∀ d ∈ tables_1, d.before a0 Z = true) (ws : List Jvm.Cond) (a : Int64) (b : Int64) (h0 : Heap) (n0 : Nat) (Z0 : n0 ≤ h0.size)  :
    MetFree l (⟨"java/lang/Math", "max", "(JJ)J"⟩ : MethodName) (head1 (Jvm.Cond.code (⟨"java/lang/Math", "max", "(JJ)J"⟩ : MethodName) jdk_29_method_66_code 4 (some .long) :: ws) ({ frames := 0, cells := 0, slots := 0, locals := 0 } : Room)) (fun ar U => ar = #[(.long a), (.long b)] ∧ Z.Warmed39 U.vm ∧ U.heap = h0) (fun _ _ _ _ _ => True) (fun _ U o U' => ∃ v L, o = .returned v ∧ Q15 Z a b h0 n0 v U'.heap L ∧ FrameEnd U o U' L ({ frames := 0, cells := 0, slots := 0, locals := 0 } : Room).cells ({ frames := 0, cells := 0, slots := 0, locals := 0 } : Room).slots) := by
  refine MetFree.of_bodySF (Jvm.Free.JP.mathPlain rfl (by decide +kernel)) hisR ?_
  intro p e s m args below meth c s₁ Bd hml0 hP hK
  obtain ⟨rfl, hZ, hh⟩ := hP
  have hx := Bd.exec
  have hby := Bd.bytes
  have hml : c.maxLocals = 4 := hml0
  have hown : s.vm.findClass "java/lang/Math" = some m.cls := findClass_of_methodNamed Bd.named
  have hnm := (name_of_methodNamed Bd.named Bd.method).1
  have X0 : Stand p l e ({ frames := 0, cells := 0, slots := 0, locals := 0 } : Room) s m #[(.long a), (.long b)] below meth c s₁ [] 0 0 := Stand.of_body Bd
  have e0 : s₁.heap = h0 := by rw [← hh, Bd.state]; rfl
  have N0 := Fr.nil n0
  have K0 : Keep h0 h0 [] := Keep.refl h0 _
  have pre0 : ∀ t, Steps p.tables e below (s₁.setTop (mkF m 0 #[.val (.long a), .second, .val (.long b), .second] [])) t → Steps p.tables e below (s₁.setTop (entryFrame m #[(.long a), (.long b)] 4)) t := fun t k => castTop (ef_15 m a b) k
  have pre1 : ∀ t, Steps p.tables e below (s₁.setTop (mkF m 3 #[.val (.long a), .second, .val (.long b), .second] [(.int (lcmpW a b))])) t → Steps p.tables e below (s₁.setTop (entryFrame m #[(.long a), (.long b)] 4)) t := by
    intro t kt
    refine pre0 t ?_
    show Steps p.tables e below (s₁.setTop (mkF m 0 #[.val (.long a), .second, .val (.long b), .second] [])) _
    refine XS.lloadN X0.here hx rfl (hb hby d15_0) rfl ?_
    show Steps p.tables e below (s₁.setTop (mkF m 1 #[.val (.long a), .second, .val (.long b), .second] [(.long a)])) _
    refine XS.lloadN X0.here hx rfl (hb hby d15_1) rfl ?_
    show Steps p.tables e below (s₁.setTop (mkF m 2 #[.val (.long a), .second, .val (.long b), .second] [(.long b), (.long a)])) _
    refine XS.lcmp X0.here hx rfl (hb hby d15_2) rfl ?_
    exact kt
  by_cases hc3_2 : a < b
  · obtain ⟨fs, hr, hrun, hended, hW, hsame⟩ := X0.leave (v := some (.long b)) (fun h => by rw [Bd.returns] at h; cases h)
    refine ⟨_, _, pre1 _ ?_, hrun, hended, _, _, rfl, ?_, ⟨_, rfl⟩, hW, hsame.mono (by decide) (by decide)⟩
    · show Steps p.tables e below (s₁.setTop (mkF m 3 #[.val (.long a), .second, .val (.long b), .second] [(.int (lcmpW a b))])) _
      refine XS.ifYes X0.here hx rfl (pc0 := 3) (pc' := 10) rfl (hb hby d15_3) rfl ((if0 _ _).trans (tlt ((lw_lt a b).mpr hc3_2)).1) (by decide) (by decide) ?_
      show Steps p.tables e below (s₁.setTop (mkF m 10 #[.val (.long a), .second, .val (.long b), .second] [])) _
      refine XS.lloadN X0.here hx rfl (hb hby d15_10) rfl ?_
      show Steps p.tables e below (s₁.setTop (mkF m 11 #[.val (.long a), .second, .val (.long b), .second] [(.long b)])) _
      exact retOut X0 hx Bd.returns rfl (Or.inr (Or.inl ⟨rfl, rfl, _, rfl⟩)) (hb hby d15_11) hr
    · show Q15 Z a b h0 n0 _ s₁.heap _
      rw [e0]
      exact ⟨by rw [own_max, if_pos hc3_2], N0, rfl⟩
  · obtain ⟨fs, hr, hrun, hended, hW, hsame⟩ := X0.leave (v := some (.long a)) (fun h => by rw [Bd.returns] at h; cases h)
    refine ⟨_, _, pre1 _ ?_, hrun, hended, _, _, rfl, ?_, ⟨_, rfl⟩, hW, hsame.mono (by decide) (by decide)⟩
    · show Steps p.tables e below (s₁.setTop (mkF m 3 #[.val (.long a), .second, .val (.long b), .second] [(.int (lcmpW a b))])) _
      refine XS.ifNo X0.here hx rfl (hb hby d15_3) rfl ((if0 _ _).trans (flt (fun q => hc3_2 ((lw_lt a b).mp q))).1) ?_
      show Steps p.tables e below (s₁.setTop (mkF m 6 #[.val (.long a), .second, .val (.long b), .second] [])) _
      refine XS.lloadN X0.here hx rfl (hb hby d15_6) rfl ?_
      show Steps p.tables e below (s₁.setTop (mkF m 7 #[.val (.long a), .second, .val (.long b), .second] [(.long a)])) _
      refine XS.goto X0.here hx rfl (pc0 := 7) (pc' := 11) rfl (hb hby d15_7) (by decide) (by decide) ?_
      show Steps p.tables e below (s₁.setTop (mkF m 11 #[.val (.long a), .second, .val (.long b), .second] [(.long a)])) _
      exact retOut X0 hx Bd.returns rfl (Or.inr (Or.inl ⟨rfl, rfl, _, rfl⟩)) (hb hby d15_11) hr
    · show Q15 Z a b h0 n0 _ s₁.heap _
      rw [e0]
      exact ⟨by rw [own_max, if_neg hc3_2], N0, rfl⟩
theorem d3_0 : decode prog_14_method_2_code 0 = .ok (.aload_n 0, 1) := by decide +kernel
theorem d3_1 : decode prog_14_method_2_code 1 = .ok (.dup, 1) := by decide +kernel
theorem d3_2 : decode prog_14_method_2_code 2 = .ok (.getfield 7, 3) := by decide +kernel
theorem d3_5 : decode prog_14_method_2_code 5 = .ok (.iconst 1, 1) := by decide +kernel
theorem d3_6 : decode prog_14_method_2_code 6 = .ok (.iadd, 1) := by decide +kernel
theorem d3_7 : decode prog_14_method_2_code 7 = .ok (.putfield 7, 3) := by decide +kernel
theorem d3_10 : decode prog_14_method_2_code 10 = .ok (.iload_n 1, 1) := by decide +kernel
theorem d3_11 : decode prog_14_method_2_code 11 = .ok (.ifCond .eq 13, 3) := by decide +kernel
theorem d3_14 : decode prog_14_method_2_code 14 = .ok (.aload_n 0, 1) := by decide +kernel
theorem d3_15 : decode prog_14_method_2_code 15 = .ok (.dup, 1) := by decide +kernel
theorem d3_16 : decode prog_14_method_2_code 16 = .ok (.getfield 13, 3) := by decide +kernel
theorem d3_19 : decode prog_14_method_2_code 19 = .ok (.lconst 1, 1) := by decide +kernel
theorem d3_20 : decode prog_14_method_2_code 20 = .ok (.ladd, 1) := by decide +kernel
theorem d3_21 : decode prog_14_method_2_code 21 = .ok (.putfield 13, 3) := by decide +kernel
theorem d3_24 : decode prog_14_method_2_code 24 = .ok (.return_, 1) := by decide +kernel
theorem pn_3 : plainName "com/example/diligent_locks/diligentlocks/LockCounts" = true := by first | (simp [plainName, overriddenIn]; done) | decide +kernel
theorem ef_3 (m : MethodId) (x0 : Addr) (x1 : Int32) : entryFrame m #[(.ref x0), (.int x1)] 2 = mkF m 0 #[.val (.ref x0), .val (.int x1)] [] := by first | (simp [entryFrame, mkF, argsToLocals, Value.category]; done) | rfl
def Q3 (Z : State) (a : Addr) (z' : Int32) (hl' : Int64) (wt' : Int32) (rw' er' rn' lr' : Int64) (h0 : Heap) (n0 : Nat) (v : Option Value) (h : Heap) (L : List Loc) : Prop := v = none ∧ Fr n0 L ∧ Keep h0 h [a] ∧ Fld Z h a "com/example/diligent_locks/diligentlocks/LockCounts" "held" "J" (.long hl') ∧ Fld Z h a "com/example/diligent_locks/diligentlocks/LockCounts" "waiting" "I" (.int (wt' + (1 : Int32))) ∧ Fld Z h a "com/example/diligent_locks/diligentlocks/LockCounts" "recordWaits" "J" (.long (if z' = (0 : Int32) then rw' else (rw' + (1 : Int64)))) ∧ Fld Z h a "com/example/diligent_locks/diligentlocks/LockCounts" "endedRecordWaits" "J" (.long er') ∧ Fld Z h a "com/example/diligent_locks/diligentlocks/LockCounts" "recordWaitNanos" "J" (.long rn') ∧ Fld Z h a "com/example/diligent_locks/diligentlocks/LockCounts" "longestRecordWaitNanos" "J" (.long lr')
set_option maxRecDepth 65536 in
set_option maxHeartbeats 40000000 in
theorem rm3 (l : Launch) (Z : State) (a0 : Array Value) (hw : ∀ d ∈ tables_1, d.before a0 Z = true) (ws : List Jvm.Cond) (a : Addr) (z' : Int32) (hl' : Int64) (wt' : Int32) (rw' er' rn' lr' : Int64) (h0 : Heap) (n0 : Nat) (Z0 : n0 ≤ h0.size) (E_a : Exa Z h0 a "com/example/diligent_locks/diligentlocks/LockCounts") (F_held_a : Fld Z h0 a "com/example/diligent_locks/diligentlocks/LockCounts" "held" "J" (.long hl')) (F_waiting_a : Fld Z h0 a "com/example/diligent_locks/diligentlocks/LockCounts" "waiting" "I" (.int wt')) (F_recordWaits_a : Fld Z h0 a "com/example/diligent_locks/diligentlocks/LockCounts" "recordWaits" "J" (.long rw')) (F_endedRecordWaits_a : Fld Z h0 a "com/example/diligent_locks/diligentlocks/LockCounts" "endedRecordWaits" "J" (.long er')) (F_recordWaitNanos_a : Fld Z h0 a "com/example/diligent_locks/diligentlocks/LockCounts" "recordWaitNanos" "J" (.long rn')) (F_longestRecordWaitNanos_a : Fld Z h0 a "com/example/diligent_locks/diligentlocks/LockCounts" "longestRecordWaitNanos" "J" (.long lr')) (g_a : n0 ≤ a) :
    MetFree l (⟨"com/example/diligent_locks/diligentlocks/LockCounts", "waitStarted", "(Z)V"⟩ : MethodName) (head1 (Jvm.Cond.code (⟨"com/example/diligent_locks/diligentlocks/LockCounts", "waitStarted", "(Z)V"⟩ : MethodName) prog_14_method_2_code 2 none :: ws) ({ frames := 0, cells := 0, slots := 0, locals := 0 } : Room)) (fun ar U => ar = #[(.ref a), (.int z')] ∧ Z.Warmed39 U.vm ∧ U.heap = h0) (fun _ _ _ _ _ => True) (fun _ U o U' => ∃ v L, o = .returned v ∧ Q3 Z a z' hl' wt' rw' er' rn' lr' h0 n0 v U'.heap L ∧ FrameEnd U o U' L ({ frames := 0, cells := 0, slots := 0, locals := 0 } : Room).cells ({ frames := 0, cells := 0, slots := 0, locals := 0 } : Room).slots) := by
  refine MetFree.of_bodySF (plainFor_of_name pn_3) hisR ?_
  intro p e s m args below meth c s₁ Bd hml0 hP hK
  obtain ⟨rfl, hZ, hh⟩ := hP
  have hx := Bd.exec
  have hby := Bd.bytes
  have hml : c.maxLocals = 2 := hml0
  have hown : s.vm.findClass "com/example/diligent_locks/diligentlocks/LockCounts" = some m.cls := findClass_of_methodNamed Bd.named
  have hnm := (name_of_methodNamed Bd.named Bd.method).1
  have X0 : Stand p l e ({ frames := 0, cells := 0, slots := 0, locals := 0 } : Room) s m #[(.ref a), (.int z')] below meth c s₁ [] 0 0 := Stand.of_body Bd
  have e0 : s₁.heap = h0 := by rw [← hh, Bd.state]; rfl
  have N0 := Fr.nil n0
  have K0 : Keep h0 h0 [a] := Keep.refl h0 _
  have pre0 : ∀ t, Steps p.tables e below (s₁.setTop (mkF m 0 #[.val (.ref a), .val (.int z')] [])) t → Steps p.tables e below (s₁.setTop (entryFrame m #[(.ref a), (.int z')] 2)) t := fun t k => castTop (ef_3 m a z') k
  obtain ⟨T1, X1, e1, st1⟩ := getF X0 hx hZ hown (host := "") (Or.inl (hw _ (List.mem_of_getElem? (i := 19) rfl))) Via.refl e0 F_waiting_a (g := (mkF m 2 #[.val (.ref a), .val (.int z')] [(.ref a), (.ref a)])) rfl rfl (hb hby d3_2)
  obtain ⟨T2, h2, X2, e2, W2, st2⟩ := putF X1 hx hZ hown (host := "") (Or.inl (hw _ (List.mem_of_getElem? (i := 19) rfl))) Via.refl e1 F_waiting_a E_a (Or.inl (hw _ (List.mem_of_getElem? (i := 13) rfl))) (hw _ (List.mem_of_getElem? (i := 2) rfl)) (ty := .int) (by decide) rfl rfl (g := (mkF m 7 #[.val (.ref a), .val (.int z')] [(.int (wt' + (1 : Int32))), (.ref a)])) rfl rfl (hb hby d3_7)
  have E_a := E_a.wr W2
  have F_held_a := F_held_a.other W2 (Or.inr (slot_ne (Or.inl (hw _ (List.mem_of_getElem? (i := 11) rfl))) (Or.inl (hw _ (List.mem_of_getElem? (i := 13) rfl))) (by decide) (t := .long) (t' := .int) (by decide) (by decide)))
  have F_waiting_a := F_waiting_a.same W2
  have F_recordWaits_a := F_recordWaits_a.other W2 (Or.inr (slot_ne (Or.inl (hw _ (List.mem_of_getElem? (i := 21) rfl))) (Or.inl (hw _ (List.mem_of_getElem? (i := 13) rfl))) (by decide) (t := .long) (t' := .int) (by decide) (by decide)))
  have F_endedRecordWaits_a := F_endedRecordWaits_a.other W2 (Or.inr (slot_ne (Or.inl (hw _ (List.mem_of_getElem? (i := 42) rfl))) (Or.inl (hw _ (List.mem_of_getElem? (i := 13) rfl))) (by decide) (t := .long) (t' := .int) (by decide) (by decide)))
  have F_recordWaitNanos_a := F_recordWaitNanos_a.other W2 (Or.inr (slot_ne (Or.inl (hw _ (List.mem_of_getElem? (i := 30) rfl))) (Or.inl (hw _ (List.mem_of_getElem? (i := 13) rfl))) (by decide) (t := .long) (t' := .int) (by decide) (by decide)))
  have F_longestRecordWaitNanos_a := F_longestRecordWaitNanos_a.other W2 (Or.inr (slot_ne (Or.inl (hw _ (List.mem_of_getElem? (i := 47) rfl))) (Or.inl (hw _ (List.mem_of_getElem? (i := 13) rfl))) (by decide) (t := .long) (t' := .int) (by decide) (by decide)))
  have Zs2 : n0 ≤ h2.size := Nat.le_trans Z0 (Keep.of_wr W2).1
  have K2 : Keep h0 h2 [a] := K0.wr W2 (Or.inl (List.mem_of_getElem? (i := 0) rfl))
  have N2 := Fr.snoc X2 N0 g_a
  have pre3 : ∀ t, Steps p.tables e below (T2.setTop (mkF m 11 #[.val (.ref a), .val (.int z')] [(.int z')])) t → Steps p.tables e below (s₁.setTop (entryFrame m #[(.ref a), (.int z')] 2)) t := by
    intro t kt
    refine pre0 t ?_
    show Steps p.tables e below (s₁.setTop (mkF m 0 #[.val (.ref a), .val (.int z')] [])) _
    refine XS.aloadN X0.here hx rfl (hb hby d3_0) rfl rfl ?_
    show Steps p.tables e below (s₁.setTop (mkF m 1 #[.val (.ref a), .val (.int z')] [(.ref a)])) _
    refine XS.dup X0.here hx rfl (hb hby d3_1) rfl rfl ?_
    show Steps p.tables e below (s₁.setTop (mkF m 2 #[.val (.ref a), .val (.int z')] [(.ref a), (.ref a)])) _
    refine st1 _ ?_
    show Steps p.tables e below (T1.setTop (mkF m 5 #[.val (.ref a), .val (.int z')] [(.int wt'), (.ref a)])) _
    refine XS.iconst X1.here hx rfl (hb hby d3_5) ?_
    show Steps p.tables e below (T1.setTop (mkF m 6 #[.val (.ref a), .val (.int z')] [(.int (1 : Int32)), (.int wt'), (.ref a)])) _
    refine XS.iadd X1.here hx rfl (hb hby d3_6) rfl ?_
    show Steps p.tables e below (T1.setTop (mkF m 7 #[.val (.ref a), .val (.int z')] [(.int (wt' + (1 : Int32))), (.ref a)])) _
    refine st2 _ ?_
    show Steps p.tables e below (T2.setTop (mkF m 10 #[.val (.ref a), .val (.int z')] [])) _
    refine XS.iloadN X2.here hx rfl (hb hby d3_10) rfl ?_
    exact kt
  by_cases hc11_4 : z' = (0 : Int32)
  · obtain ⟨fs, hr, hrun, hended, hW, hsame⟩ := X2.leave (v := none) (fun _ => rfl)
    refine ⟨_, _, pre3 _ ?_, hrun, hended, _, _, rfl, ?_, ⟨_, rfl⟩, hW, hsame.mono (by decide) (by decide)⟩
    · show Steps p.tables e below (T2.setTop (mkF m 11 #[.val (.ref a), .val (.int z')] [(.int z')])) _
      refine XS.ifYes X2.here hx rfl (pc0 := 11) (pc' := 24) rfl (hb hby d3_11) rfl ((if0 _ _).trans (teq hc11_4).1) (by decide) (by decide) ?_
      show Steps p.tables e below (T2.setTop (mkF m 24 #[.val (.ref a), .val (.int z')] [])) _
      exact X2.returnOut hx Bd.returns (hb hby d3_24) hr
    · show Q3 Z a z' hl' wt' rw' er' rn' lr' h0 n0 _ T2.heap _
      rw [e2]
      exact ⟨rfl, N2, K2, F_held_a, F_waiting_a, (by rw [if_pos hc11_4]; exact F_recordWaits_a), F_endedRecordWaits_a, F_recordWaitNanos_a, F_longestRecordWaitNanos_a⟩
  · obtain ⟨T5, X5, e5, st5⟩ := getF X2 hx hZ hown (host := "") (Or.inl (hw _ (List.mem_of_getElem? (i := 20) rfl))) Via.refl e2 F_recordWaits_a (g := (mkF m 16 #[.val (.ref a), .val (.int z')] [(.ref a), (.ref a)])) rfl rfl (hb hby d3_16)
    obtain ⟨T6, h6, X6, e6, W6, st6⟩ := putF X5 hx hZ hown (host := "") (Or.inl (hw _ (List.mem_of_getElem? (i := 20) rfl))) Via.refl e5 F_recordWaits_a E_a (Or.inl (hw _ (List.mem_of_getElem? (i := 21) rfl))) (hw _ (List.mem_of_getElem? (i := 2) rfl)) (ty := .long) (by decide) rfl rfl (g := (mkF m 21 #[.val (.ref a), .val (.int z')] [(.long (rw' + (1 : Int64))), (.ref a)])) rfl rfl (hb hby d3_21)
    have E_a := E_a.wr W6
    have F_held_a := F_held_a.other W6 (Or.inr (slot_ne (Or.inl (hw _ (List.mem_of_getElem? (i := 11) rfl))) (Or.inl (hw _ (List.mem_of_getElem? (i := 21) rfl))) (by decide) (t := .long) (t' := .long) (by decide) (by decide)))
    have F_waiting_a := F_waiting_a.other W6 (Or.inr (slot_ne (Or.inl (hw _ (List.mem_of_getElem? (i := 13) rfl))) (Or.inl (hw _ (List.mem_of_getElem? (i := 21) rfl))) (by decide) (t := .int) (t' := .long) (by decide) (by decide)))
    have F_recordWaits_a := F_recordWaits_a.same W6
    have F_endedRecordWaits_a := F_endedRecordWaits_a.other W6 (Or.inr (slot_ne (Or.inl (hw _ (List.mem_of_getElem? (i := 42) rfl))) (Or.inl (hw _ (List.mem_of_getElem? (i := 21) rfl))) (by decide) (t := .long) (t' := .long) (by decide) (by decide)))
    have F_recordWaitNanos_a := F_recordWaitNanos_a.other W6 (Or.inr (slot_ne (Or.inl (hw _ (List.mem_of_getElem? (i := 30) rfl))) (Or.inl (hw _ (List.mem_of_getElem? (i := 21) rfl))) (by decide) (t := .long) (t' := .long) (by decide) (by decide)))
    have F_longestRecordWaitNanos_a := F_longestRecordWaitNanos_a.other W6 (Or.inr (slot_ne (Or.inl (hw _ (List.mem_of_getElem? (i := 47) rfl))) (Or.inl (hw _ (List.mem_of_getElem? (i := 21) rfl))) (by decide) (t := .long) (t' := .long) (by decide) (by decide)))
    have Zs6 : n0 ≤ h6.size := Nat.le_trans Zs2 (Keep.of_wr W6).1
    have K6 : Keep h0 h6 [a] := K2.wr W6 (Or.inl (List.mem_of_getElem? (i := 0) rfl))
    have N6 := Fr.snoc X6 N2 g_a
    obtain ⟨fs, hr, hrun, hended, hW, hsame⟩ := X6.leave (v := none) (fun _ => rfl)
    refine ⟨_, _, pre3 _ ?_, hrun, hended, _, _, rfl, ?_, ⟨_, rfl⟩, hW, hsame.mono (by decide) (by decide)⟩
    · show Steps p.tables e below (T2.setTop (mkF m 11 #[.val (.ref a), .val (.int z')] [(.int z')])) _
      refine XS.ifNo X2.here hx rfl (hb hby d3_11) rfl ((if0 _ _).trans (feq hc11_4).1) ?_
      show Steps p.tables e below (T2.setTop (mkF m 14 #[.val (.ref a), .val (.int z')] [])) _
      refine XS.aloadN X2.here hx rfl (hb hby d3_14) rfl rfl ?_
      show Steps p.tables e below (T2.setTop (mkF m 15 #[.val (.ref a), .val (.int z')] [(.ref a)])) _
      refine XS.dup X2.here hx rfl (hb hby d3_15) rfl rfl ?_
      show Steps p.tables e below (T2.setTop (mkF m 16 #[.val (.ref a), .val (.int z')] [(.ref a), (.ref a)])) _
      refine st5 _ ?_
      show Steps p.tables e below (T5.setTop (mkF m 19 #[.val (.ref a), .val (.int z')] [(.long rw'), (.ref a)])) _
      refine XS.lconst X5.here hx rfl (hb hby d3_19) ?_
      show Steps p.tables e below (T5.setTop (mkF m 20 #[.val (.ref a), .val (.int z')] [(.long (1 : Int64)), (.long rw'), (.ref a)])) _
      refine XS.ladd X5.here hx rfl (hb hby d3_20) rfl ?_
      show Steps p.tables e below (T5.setTop (mkF m 21 #[.val (.ref a), .val (.int z')] [(.long (rw' + (1 : Int64))), (.ref a)])) _
      refine st6 _ ?_
      show Steps p.tables e below (T6.setTop (mkF m 24 #[.val (.ref a), .val (.int z')] [])) _
      exact X6.returnOut hx Bd.returns (hb hby d3_24) hr
    · show Q3 Z a z' hl' wt' rw' er' rn' lr' h0 n0 _ T6.heap _
      rw [e6]
      exact ⟨rfl, N6, K6, F_held_a, F_waiting_a, (by rw [if_neg hc11_4]; exact F_recordWaits_a), F_endedRecordWaits_a, F_recordWaitNanos_a, F_longestRecordWaitNanos_a⟩
theorem d13_0 : decode prog_14_method_3_code 0 = .ok (.aload_n 0, 1) := by decide +kernel
theorem d13_1 : decode prog_14_method_3_code 1 = .ok (.dup, 1) := by decide +kernel
theorem d13_2 : decode prog_14_method_3_code 2 = .ok (.getfield 7, 3) := by decide +kernel
theorem d13_5 : decode prog_14_method_3_code 5 = .ok (.iconst 1, 1) := by decide +kernel
theorem d13_6 : decode prog_14_method_3_code 6 = .ok (.isub, 1) := by decide +kernel
theorem d13_7 : decode prog_14_method_3_code 7 = .ok (.putfield 7, 3) := by decide +kernel
theorem d13_10 : decode prog_14_method_3_code 10 = .ok (.iload_n 1, 1) := by decide +kernel
theorem d13_11 : decode prog_14_method_3_code 11 = .ok (.ifCond .eq 37, 3) := by decide +kernel
theorem d13_14 : decode prog_14_method_3_code 14 = .ok (.aload_n 0, 1) := by decide +kernel
theorem d13_15 : decode prog_14_method_3_code 15 = .ok (.dup, 1) := by decide +kernel
theorem d13_16 : decode prog_14_method_3_code 16 = .ok (.getfield 17, 3) := by decide +kernel
theorem d13_19 : decode prog_14_method_3_code 19 = .ok (.lconst 1, 1) := by decide +kernel
theorem d13_20 : decode prog_14_method_3_code 20 = .ok (.ladd, 1) := by decide +kernel
theorem d13_21 : decode prog_14_method_3_code 21 = .ok (.putfield 17, 3) := by decide +kernel
theorem d13_24 : decode prog_14_method_3_code 24 = .ok (.aload_n 0, 1) := by decide +kernel
theorem d13_25 : decode prog_14_method_3_code 25 = .ok (.aload_n 0, 1) := by decide +kernel
theorem d13_26 : decode prog_14_method_3_code 26 = .ok (.getfield 20, 3) := by decide +kernel
theorem d13_29 : decode prog_14_method_3_code 29 = .ok (.lload_n 2, 1) := by decide +kernel
theorem d13_30 : decode prog_14_method_3_code 30 = .ok (.invokestatic 23, 3) := by decide +kernel
theorem d13_33 : decode prog_14_method_3_code 33 = .ok (.putfield 20, 3) := by decide +kernel
theorem d13_36 : decode prog_14_method_3_code 36 = .ok (.aload_n 0, 1) := by decide +kernel
theorem d13_37 : decode prog_14_method_3_code 37 = .ok (.aload_n 0, 1) := by decide +kernel
theorem d13_38 : decode prog_14_method_3_code 38 = .ok (.getfield 27, 3) := by decide +kernel
theorem d13_41 : decode prog_14_method_3_code 41 = .ok (.lload_n 2, 1) := by decide +kernel
theorem d13_42 : decode prog_14_method_3_code 42 = .ok (.invokestatic 30, 3) := by decide +kernel
theorem d13_45 : decode prog_14_method_3_code 45 = .ok (.putfield 27, 3) := by decide +kernel
theorem d13_48 : decode prog_14_method_3_code 48 = .ok (.return_, 1) := by decide +kernel
theorem pn_13 : plainName "com/example/diligent_locks/diligentlocks/LockCounts" = true := by first | (simp [plainName, overriddenIn]; done) | decide +kernel
theorem pd13_0 : parseMethodDescriptor "(JJ)J" = some ⟨[.long, .long], some .long⟩ := by decide +kernel
theorem ef_13 (m : MethodId) (x0 : Addr) (x1 : Int32) (x2 : Int64) : entryFrame m #[(.ref x0), (.int x1), (.long x2)] 4 = mkF m 0 #[.val (.ref x0), .val (.int x1), .val (.long x2), .second] [] := by first | (simp [entryFrame, mkF, argsToLocals, Value.category]; done) | rfl
def Q13 (Z : State) (a : Addr) (z' : Int32) (n' : Int64) (hl' : Int64) (wt' : Int32) (rw' er' rn' lr' : Int64) (h0 : Heap) (n0 : Nat) (v : Option Value) (h : Heap) (L : List Loc) : Prop := v = none ∧ Fr n0 L ∧ Keep h0 h [a] ∧ Fld Z h a "com/example/diligent_locks/diligentlocks/LockCounts" "held" "J" (.long hl') ∧ Fld Z h a "com/example/diligent_locks/diligentlocks/LockCounts" "waiting" "I" (.int (wt' - (1 : Int32))) ∧ Fld Z h a "com/example/diligent_locks/diligentlocks/LockCounts" "recordWaits" "J" (.long rw') ∧ Fld Z h a "com/example/diligent_locks/diligentlocks/LockCounts" "endedRecordWaits" "J" (.long (er' + (1 : Int64))) ∧ Fld Z h a "com/example/diligent_locks/diligentlocks/LockCounts" "recordWaitNanos" "J" (.long (own_sat rn' n')) ∧ Fld Z h a "com/example/diligent_locks/diligentlocks/LockCounts" "longestRecordWaitNanos" "J" (.long (own_max lr' n'))
set_option maxRecDepth 65536 in
set_option maxHeartbeats 40000000 in
theorem rm13 (l : Launch) (Z : State) (a0 : Array Value) (hw : ∀ d ∈ tables_1, d.before a0 Z = true) (ws : List Jvm.Cond) (a : Addr) (z' : Int32) (n' : Int64) (hl' : Int64) (wt' : Int32) (rw' er' rn' lr' : Int64) (h0 : Heap) (n0 : Nat) (Z0 : n0 ≤ h0.size) (E_a : Exa Z h0 a "com/example/diligent_locks/diligentlocks/LockCounts") (F_held_a : Fld Z h0 a "com/example/diligent_locks/diligentlocks/LockCounts" "held" "J" (.long hl')) (F_waiting_a : Fld Z h0 a "com/example/diligent_locks/diligentlocks/LockCounts" "waiting" "I" (.int wt')) (F_recordWaits_a : Fld Z h0 a "com/example/diligent_locks/diligentlocks/LockCounts" "recordWaits" "J" (.long rw')) (F_endedRecordWaits_a : Fld Z h0 a "com/example/diligent_locks/diligentlocks/LockCounts" "endedRecordWaits" "J" (.long er')) (F_recordWaitNanos_a : Fld Z h0 a "com/example/diligent_locks/diligentlocks/LockCounts" "recordWaitNanos" "J" (.long rn')) (F_longestRecordWaitNanos_a : Fld Z h0 a "com/example/diligent_locks/diligentlocks/LockCounts" "longestRecordWaitNanos" "J" (.long lr')) (g_a : n0 ≤ a) (hz : ¬ z' = (0 : Int32)) :
    MetFree l (⟨"com/example/diligent_locks/diligentlocks/LockCounts", "waitEnded", "(ZJ)V"⟩ : MethodName) (head1 (Jvm.Cond.code (⟨"com/example/diligent_locks/diligentlocks/LockCounts", "waitEnded", "(ZJ)V"⟩ : MethodName) prog_14_method_3_code 4 none :: ws) ({ frames := 1, cells := 0, slots := 0, locals := 16 } : Room)) (fun ar U => ar = #[(.ref a), (.int z'), (.long n')] ∧ Z.Warmed39 U.vm ∧ U.heap = h0) (fun _ _ _ _ _ => True) (fun _ U o U' => ∃ v L, o = .returned v ∧ Q13 Z a z' n' hl' wt' rw' er' rn' lr' h0 n0 v U'.heap L ∧ FrameEnd U o U' L ({ frames := 1, cells := 0, slots := 0, locals := 16 } : Room).cells ({ frames := 1, cells := 0, slots := 0, locals := 16 } : Room).slots) := by
  refine MetFree.of_bodySF (plainFor_of_name pn_13) hisR ?_
  intro p e s m args below meth c s₁ Bd hml0 hP hK
  obtain ⟨rfl, hZ, hh⟩ := hP
  have hx := Bd.exec
  have hby := Bd.bytes
  have hml : c.maxLocals = 4 := hml0
  have hown : s.vm.findClass "com/example/diligent_locks/diligentlocks/LockCounts" = some m.cls := findClass_of_methodNamed Bd.named
  have hnm := (name_of_methodNamed Bd.named Bd.method).1
  have X0 : Stand p l e ({ frames := 1, cells := 0, slots := 0, locals := 16 } : Room) s m #[(.ref a), (.int z'), (.long n')] below meth c s₁ [] 0 0 := Stand.of_body Bd
  have e0 : s₁.heap = h0 := by rw [← hh, Bd.state]; rfl
  have N0 := Fr.nil n0
  have K0 : Keep h0 h0 [a] := Keep.refl h0 _
  have pre0 : ∀ t, Steps p.tables e below (s₁.setTop (mkF m 0 #[.val (.ref a), .val (.int z'), .val (.long n'), .second] [])) t → Steps p.tables e below (s₁.setTop (entryFrame m #[(.ref a), (.int z'), (.long n')] 4)) t := fun t k => castTop (ef_13 m a z' n') k
  obtain ⟨T1, X1, e1, st1⟩ := getF X0 hx hZ hown (host := "") (Or.inl (hw _ (List.mem_of_getElem? (i := 19) rfl))) Via.refl e0 F_waiting_a (g := (mkF m 2 #[.val (.ref a), .val (.int z'), .val (.long n'), .second] [(.ref a), (.ref a)])) rfl rfl (hb hby d13_2)
  obtain ⟨T2, h2, X2, e2, W2, st2⟩ := putF X1 hx hZ hown (host := "") (Or.inl (hw _ (List.mem_of_getElem? (i := 19) rfl))) Via.refl e1 F_waiting_a E_a (Or.inl (hw _ (List.mem_of_getElem? (i := 13) rfl))) (hw _ (List.mem_of_getElem? (i := 2) rfl)) (ty := .int) (by decide) rfl rfl (g := (mkF m 7 #[.val (.ref a), .val (.int z'), .val (.long n'), .second] [(.int (wt' - (1 : Int32))), (.ref a)])) rfl rfl (hb hby d13_7)
  have E_a := E_a.wr W2
  have F_held_a := F_held_a.other W2 (Or.inr (slot_ne (Or.inl (hw _ (List.mem_of_getElem? (i := 11) rfl))) (Or.inl (hw _ (List.mem_of_getElem? (i := 13) rfl))) (by decide) (t := .long) (t' := .int) (by decide) (by decide)))
  have F_waiting_a := F_waiting_a.same W2
  have F_recordWaits_a := F_recordWaits_a.other W2 (Or.inr (slot_ne (Or.inl (hw _ (List.mem_of_getElem? (i := 21) rfl))) (Or.inl (hw _ (List.mem_of_getElem? (i := 13) rfl))) (by decide) (t := .long) (t' := .int) (by decide) (by decide)))
  have F_endedRecordWaits_a := F_endedRecordWaits_a.other W2 (Or.inr (slot_ne (Or.inl (hw _ (List.mem_of_getElem? (i := 42) rfl))) (Or.inl (hw _ (List.mem_of_getElem? (i := 13) rfl))) (by decide) (t := .long) (t' := .int) (by decide) (by decide)))
  have F_recordWaitNanos_a := F_recordWaitNanos_a.other W2 (Or.inr (slot_ne (Or.inl (hw _ (List.mem_of_getElem? (i := 30) rfl))) (Or.inl (hw _ (List.mem_of_getElem? (i := 13) rfl))) (by decide) (t := .long) (t' := .int) (by decide) (by decide)))
  have F_longestRecordWaitNanos_a := F_longestRecordWaitNanos_a.other W2 (Or.inr (slot_ne (Or.inl (hw _ (List.mem_of_getElem? (i := 47) rfl))) (Or.inl (hw _ (List.mem_of_getElem? (i := 13) rfl))) (by decide) (t := .long) (t' := .int) (by decide) (by decide)))
  have Zs2 : n0 ≤ h2.size := Nat.le_trans Z0 (Keep.of_wr W2).1
  have K2 : Keep h0 h2 [a] := K0.wr W2 (Or.inl (List.mem_of_getElem? (i := 0) rfl))
  have N2 := Fr.snoc X2 N0 g_a
  obtain ⟨T3, X3, e3, st3⟩ := getF X2 hx hZ hown (host := "") (Or.inl (hw _ (List.mem_of_getElem? (i := 41) rfl))) Via.refl e2 F_endedRecordWaits_a (g := (mkF m 16 #[.val (.ref a), .val (.int z'), .val (.long n'), .second] [(.ref a), (.ref a)])) rfl rfl (hb hby d13_16)
  obtain ⟨T4, h4, X4, e4, W4, st4⟩ := putF X3 hx hZ hown (host := "") (Or.inl (hw _ (List.mem_of_getElem? (i := 41) rfl))) Via.refl e3 F_endedRecordWaits_a E_a (Or.inl (hw _ (List.mem_of_getElem? (i := 42) rfl))) (hw _ (List.mem_of_getElem? (i := 2) rfl)) (ty := .long) (by decide) rfl rfl (g := (mkF m 21 #[.val (.ref a), .val (.int z'), .val (.long n'), .second] [(.long (er' + (1 : Int64))), (.ref a)])) rfl rfl (hb hby d13_21)
  have E_a := E_a.wr W4
  have F_held_a := F_held_a.other W4 (Or.inr (slot_ne (Or.inl (hw _ (List.mem_of_getElem? (i := 11) rfl))) (Or.inl (hw _ (List.mem_of_getElem? (i := 42) rfl))) (by decide) (t := .long) (t' := .long) (by decide) (by decide)))
  have F_waiting_a := F_waiting_a.other W4 (Or.inr (slot_ne (Or.inl (hw _ (List.mem_of_getElem? (i := 13) rfl))) (Or.inl (hw _ (List.mem_of_getElem? (i := 42) rfl))) (by decide) (t := .int) (t' := .long) (by decide) (by decide)))
  have F_recordWaits_a := F_recordWaits_a.other W4 (Or.inr (slot_ne (Or.inl (hw _ (List.mem_of_getElem? (i := 21) rfl))) (Or.inl (hw _ (List.mem_of_getElem? (i := 42) rfl))) (by decide) (t := .long) (t' := .long) (by decide) (by decide)))
  have F_endedRecordWaits_a := F_endedRecordWaits_a.same W4
  have F_recordWaitNanos_a := F_recordWaitNanos_a.other W4 (Or.inr (slot_ne (Or.inl (hw _ (List.mem_of_getElem? (i := 30) rfl))) (Or.inl (hw _ (List.mem_of_getElem? (i := 42) rfl))) (by decide) (t := .long) (t' := .long) (by decide) (by decide)))
  have F_longestRecordWaitNanos_a := F_longestRecordWaitNanos_a.other W4 (Or.inr (slot_ne (Or.inl (hw _ (List.mem_of_getElem? (i := 47) rfl))) (Or.inl (hw _ (List.mem_of_getElem? (i := 42) rfl))) (by decide) (t := .long) (t' := .long) (by decide) (by decide)))
  have Zs4 : n0 ≤ h4.size := Nat.le_trans Zs2 (Keep.of_wr W4).1
  have K4 : Keep h0 h4 [a] := K2.wr W4 (Or.inl (List.mem_of_getElem? (i := 0) rfl))
  have N4 := Fr.snoc X4 N2 g_a
  obtain ⟨T5, X5, e5, st5⟩ := getF X4 hx hZ hown (host := "") (Or.inl (hw _ (List.mem_of_getElem? (i := 29) rfl))) Via.refl e4 F_recordWaitNanos_a (g := (mkF m 26 #[.val (.ref a), .val (.int z'), .val (.long n'), .second] [(.ref a), (.ref a)])) rfl rfl (hb hby d13_26)
  obtain ⟨_, _, ⟨T6, L6, k6, n6⟩, -, X6, ⟨Lc6, hQ6, l6, y6, z6⟩, st6⟩ := Jvm.LawKit.callS X5 hx (y := (⟨"com/example/diligent_locks/diligentlocks/LockCounts", "saturatedSum", "(JJ)J"⟩ : MethodName)) hown (mvT hZ (hw _ (List.mem_of_getElem? (i := 97) rfl))) (mvT hZ (hw _ (List.mem_of_getElem? (i := 98) rfl))) (mvT hZ (hw _ (List.mem_of_getElem? (i := 3) rfl))) (mvT hZ (hw _ (List.mem_of_getElem? (i := 99) rfl))) (by decide) (backOf (W := 1) (rm14 l Z a0 hw [] rn' n' h4 n0 Zs4 ) hZ (hw _ (List.mem_of_getElem? (i := 99) rfl)) (hw _ (List.mem_of_getElem? (i := 3) rfl)) (by decide) (by decide)) (g := (mkF m 30 #[.val (.ref a), .val (.int z'), .val (.long n'), .second] [(.long n'), (.long rn'), (.ref a)])) rfl (by rw [hml]; rfl) (argsL := [(.long rn'), (.long n')]) (rest := [(.ref a)]) (lenOf pd13_0 rfl) rfl (by show 2 * 0 + _ ≤ _; exact Nat.le_of_eq rfl) (hb hby d13_30) (fun _ _ => ⟨rfl, e5, (by decide : 0 + 0 ≤ _), (by decide : 0 + 0 ≤ _)⟩)
  dsimp only [Pt.U, Pt.locs, Pt.cells, Pt.slots] at X6 l6 y6 z6 st6 hQ6
  subst l6 y6 z6
  obtain ⟨rfl, N6q, hh6⟩ := hQ6
  have N6 := Fr.app N4 N6q
  obtain ⟨T7, h7, X7, e7, W7, st7⟩ := putF X6 hx hZ hown (host := "") (Or.inl (hw _ (List.mem_of_getElem? (i := 29) rfl))) Via.refl hh6 F_recordWaitNanos_a E_a (Or.inl (hw _ (List.mem_of_getElem? (i := 30) rfl))) (hw _ (List.mem_of_getElem? (i := 2) rfl)) (ty := .long) (by decide) rfl rfl (g := (mkF m 33 #[.val (.ref a), .val (.int z'), .val (.long n'), .second] [(.long (own_sat rn' n')), (.ref a)])) rfl rfl (hb hby d13_33)
  have E_a := E_a.wr W7
  have F_held_a := F_held_a.other W7 (Or.inr (slot_ne (Or.inl (hw _ (List.mem_of_getElem? (i := 11) rfl))) (Or.inl (hw _ (List.mem_of_getElem? (i := 30) rfl))) (by decide) (t := .long) (t' := .long) (by decide) (by decide)))
  have F_waiting_a := F_waiting_a.other W7 (Or.inr (slot_ne (Or.inl (hw _ (List.mem_of_getElem? (i := 13) rfl))) (Or.inl (hw _ (List.mem_of_getElem? (i := 30) rfl))) (by decide) (t := .int) (t' := .long) (by decide) (by decide)))
  have F_recordWaits_a := F_recordWaits_a.other W7 (Or.inr (slot_ne (Or.inl (hw _ (List.mem_of_getElem? (i := 21) rfl))) (Or.inl (hw _ (List.mem_of_getElem? (i := 30) rfl))) (by decide) (t := .long) (t' := .long) (by decide) (by decide)))
  have F_endedRecordWaits_a := F_endedRecordWaits_a.other W7 (Or.inr (slot_ne (Or.inl (hw _ (List.mem_of_getElem? (i := 42) rfl))) (Or.inl (hw _ (List.mem_of_getElem? (i := 30) rfl))) (by decide) (t := .long) (t' := .long) (by decide) (by decide)))
  have F_recordWaitNanos_a := F_recordWaitNanos_a.same W7
  have F_longestRecordWaitNanos_a := F_longestRecordWaitNanos_a.other W7 (Or.inr (slot_ne (Or.inl (hw _ (List.mem_of_getElem? (i := 47) rfl))) (Or.inl (hw _ (List.mem_of_getElem? (i := 30) rfl))) (by decide) (t := .long) (t' := .long) (by decide) (by decide)))
  have Zs7 : n0 ≤ h7.size := Nat.le_trans Zs4 (Keep.of_wr W7).1
  have K7 : Keep h0 h7 [a] := K4.wr W7 (Or.inl (List.mem_of_getElem? (i := 0) rfl))
  have N7 := Fr.snoc X7 N6 g_a
  obtain ⟨T8, X8, e8, st8⟩ := getF X7 hx hZ hown (host := "") (Or.inl (hw _ (List.mem_of_getElem? (i := 46) rfl))) Via.refl e7 F_longestRecordWaitNanos_a (g := (mkF m 38 #[.val (.ref a), .val (.int z'), .val (.long n'), .second] [(.ref a), (.ref a)])) rfl rfl (hb hby d13_38)
  obtain ⟨_, _, ⟨T9, L9, k9, n9⟩, -, X9, ⟨Lc9, hQ9, l9, y9, z9⟩, st9⟩ := Jvm.LawKit.callS X8 hx (y := (⟨"java/lang/Math", "max", "(JJ)J"⟩ : MethodName)) hown (mvT hZ (hw _ (List.mem_of_getElem? (i := 101) rfl))) (mvT hZ (hw _ (List.mem_of_getElem? (i := 102) rfl))) (mvT hZ (hw _ (List.mem_of_getElem? (i := 103) rfl))) (mvT hZ (hw _ (List.mem_of_getElem? (i := 104) rfl))) (by decide) (backOf (W := 1) (rm15 l Z a0 hw [] lr' n' h7 n0 Zs7 ) hZ (hw _ (List.mem_of_getElem? (i := 104) rfl)) (hw _ (List.mem_of_getElem? (i := 103) rfl)) (by decide) (by decide)) (g := (mkF m 42 #[.val (.ref a), .val (.int z'), .val (.long n'), .second] [(.long n'), (.long lr'), (.ref a)])) rfl (by rw [hml]; rfl) (argsL := [(.long lr'), (.long n')]) (rest := [(.ref a)]) (lenOf pd13_0 rfl) rfl (by show 2 * 0 + _ ≤ _; exact Nat.le_of_eq rfl) (hb hby d13_42) (fun _ _ => ⟨rfl, e8, (by decide : 0 + 0 ≤ _), (by decide : 0 + 0 ≤ _)⟩)
  dsimp only [Pt.U, Pt.locs, Pt.cells, Pt.slots] at X9 l9 y9 z9 st9 hQ9
  subst l9 y9 z9
  obtain ⟨rfl, N9q, hh9⟩ := hQ9
  have N9 := Fr.app N7 N9q
  obtain ⟨T10, h10, X10, e10, W10, st10⟩ := putF X9 hx hZ hown (host := "") (Or.inl (hw _ (List.mem_of_getElem? (i := 46) rfl))) Via.refl hh9 F_longestRecordWaitNanos_a E_a (Or.inl (hw _ (List.mem_of_getElem? (i := 47) rfl))) (hw _ (List.mem_of_getElem? (i := 2) rfl)) (ty := .long) (by decide) rfl rfl (g := (mkF m 45 #[.val (.ref a), .val (.int z'), .val (.long n'), .second] [(.long (own_max lr' n')), (.ref a)])) rfl rfl (hb hby d13_45)
  have E_a := E_a.wr W10
  have F_held_a := F_held_a.other W10 (Or.inr (slot_ne (Or.inl (hw _ (List.mem_of_getElem? (i := 11) rfl))) (Or.inl (hw _ (List.mem_of_getElem? (i := 47) rfl))) (by decide) (t := .long) (t' := .long) (by decide) (by decide)))
  have F_waiting_a := F_waiting_a.other W10 (Or.inr (slot_ne (Or.inl (hw _ (List.mem_of_getElem? (i := 13) rfl))) (Or.inl (hw _ (List.mem_of_getElem? (i := 47) rfl))) (by decide) (t := .int) (t' := .long) (by decide) (by decide)))
  have F_recordWaits_a := F_recordWaits_a.other W10 (Or.inr (slot_ne (Or.inl (hw _ (List.mem_of_getElem? (i := 21) rfl))) (Or.inl (hw _ (List.mem_of_getElem? (i := 47) rfl))) (by decide) (t := .long) (t' := .long) (by decide) (by decide)))
  have F_endedRecordWaits_a := F_endedRecordWaits_a.other W10 (Or.inr (slot_ne (Or.inl (hw _ (List.mem_of_getElem? (i := 42) rfl))) (Or.inl (hw _ (List.mem_of_getElem? (i := 47) rfl))) (by decide) (t := .long) (t' := .long) (by decide) (by decide)))
  have F_recordWaitNanos_a := F_recordWaitNanos_a.other W10 (Or.inr (slot_ne (Or.inl (hw _ (List.mem_of_getElem? (i := 30) rfl))) (Or.inl (hw _ (List.mem_of_getElem? (i := 47) rfl))) (by decide) (t := .long) (t' := .long) (by decide) (by decide)))
  have F_longestRecordWaitNanos_a := F_longestRecordWaitNanos_a.same W10
  have Zs10 : n0 ≤ h10.size := Nat.le_trans Zs7 (Keep.of_wr W10).1
  have K10 : Keep h0 h10 [a] := K7.wr W10 (Or.inl (List.mem_of_getElem? (i := 0) rfl))
  have N10 := Fr.snoc X10 N9 g_a
  obtain ⟨fs, hr, hrun, hended, hW, hsame⟩ := X10.leave (v := none) (fun _ => rfl)
  refine ⟨_, _, pre0 _ ?_, hrun, hended, _, _, rfl, ?_, ⟨_, rfl⟩, hW, hsame.mono (by decide) (by decide)⟩
  · show Steps p.tables e below (s₁.setTop (mkF m 0 #[.val (.ref a), .val (.int z'), .val (.long n'), .second] [])) _
    refine XS.aloadN X0.here hx rfl (hb hby d13_0) rfl rfl ?_
    show Steps p.tables e below (s₁.setTop (mkF m 1 #[.val (.ref a), .val (.int z'), .val (.long n'), .second] [(.ref a)])) _
    refine XS.dup X0.here hx rfl (hb hby d13_1) rfl rfl ?_
    show Steps p.tables e below (s₁.setTop (mkF m 2 #[.val (.ref a), .val (.int z'), .val (.long n'), .second] [(.ref a), (.ref a)])) _
    refine st1 _ ?_
    show Steps p.tables e below (T1.setTop (mkF m 5 #[.val (.ref a), .val (.int z'), .val (.long n'), .second] [(.int wt'), (.ref a)])) _
    refine XS.iconst X1.here hx rfl (hb hby d13_5) ?_
    show Steps p.tables e below (T1.setTop (mkF m 6 #[.val (.ref a), .val (.int z'), .val (.long n'), .second] [(.int (1 : Int32)), (.int wt'), (.ref a)])) _
    refine XS.isub X1.here hx rfl (hb hby d13_6) rfl ?_
    show Steps p.tables e below (T1.setTop (mkF m 7 #[.val (.ref a), .val (.int z'), .val (.long n'), .second] [(.int (wt' - (1 : Int32))), (.ref a)])) _
    refine st2 _ ?_
    show Steps p.tables e below (T2.setTop (mkF m 10 #[.val (.ref a), .val (.int z'), .val (.long n'), .second] [])) _
    refine XS.iloadN X2.here hx rfl (hb hby d13_10) rfl ?_
    show Steps p.tables e below (T2.setTop (mkF m 11 #[.val (.ref a), .val (.int z'), .val (.long n'), .second] [(.int z')])) _
    refine XS.ifNo X2.here hx rfl (hb hby d13_11) rfl ((if0 _ _).trans (feq hz).1) ?_
    show Steps p.tables e below (T2.setTop (mkF m 14 #[.val (.ref a), .val (.int z'), .val (.long n'), .second] [])) _
    refine XS.aloadN X2.here hx rfl (hb hby d13_14) rfl rfl ?_
    show Steps p.tables e below (T2.setTop (mkF m 15 #[.val (.ref a), .val (.int z'), .val (.long n'), .second] [(.ref a)])) _
    refine XS.dup X2.here hx rfl (hb hby d13_15) rfl rfl ?_
    show Steps p.tables e below (T2.setTop (mkF m 16 #[.val (.ref a), .val (.int z'), .val (.long n'), .second] [(.ref a), (.ref a)])) _
    refine st3 _ ?_
    show Steps p.tables e below (T3.setTop (mkF m 19 #[.val (.ref a), .val (.int z'), .val (.long n'), .second] [(.long er'), (.ref a)])) _
    refine XS.lconst X3.here hx rfl (hb hby d13_19) ?_
    show Steps p.tables e below (T3.setTop (mkF m 20 #[.val (.ref a), .val (.int z'), .val (.long n'), .second] [(.long (1 : Int64)), (.long er'), (.ref a)])) _
    refine XS.ladd X3.here hx rfl (hb hby d13_20) rfl ?_
    show Steps p.tables e below (T3.setTop (mkF m 21 #[.val (.ref a), .val (.int z'), .val (.long n'), .second] [(.long (er' + (1 : Int64))), (.ref a)])) _
    refine st4 _ ?_
    show Steps p.tables e below (T4.setTop (mkF m 24 #[.val (.ref a), .val (.int z'), .val (.long n'), .second] [])) _
    refine XS.aloadN X4.here hx rfl (hb hby d13_24) rfl rfl ?_
    show Steps p.tables e below (T4.setTop (mkF m 25 #[.val (.ref a), .val (.int z'), .val (.long n'), .second] [(.ref a)])) _
    refine XS.aloadN X4.here hx rfl (hb hby d13_25) rfl rfl ?_
    show Steps p.tables e below (T4.setTop (mkF m 26 #[.val (.ref a), .val (.int z'), .val (.long n'), .second] [(.ref a), (.ref a)])) _
    refine st5 _ ?_
    show Steps p.tables e below (T5.setTop (mkF m 29 #[.val (.ref a), .val (.int z'), .val (.long n'), .second] [(.long rn'), (.ref a)])) _
    refine XS.lloadN X5.here hx rfl (hb hby d13_29) rfl ?_
    show Steps p.tables e below (T5.setTop (mkF m 30 #[.val (.ref a), .val (.int z'), .val (.long n'), .second] [(.long n'), (.long rn'), (.ref a)])) _
    refine st6 _ ?_
    show Steps p.tables e below (T6.setTop (mkF m 33 #[.val (.ref a), .val (.int z'), .val (.long n'), .second] [(.long (own_sat rn' n')), (.ref a)])) _
    refine st7 _ ?_
    show Steps p.tables e below (T7.setTop (mkF m 36 #[.val (.ref a), .val (.int z'), .val (.long n'), .second] [])) _
    refine XS.aloadN X7.here hx rfl (hb hby d13_36) rfl rfl ?_
    show Steps p.tables e below (T7.setTop (mkF m 37 #[.val (.ref a), .val (.int z'), .val (.long n'), .second] [(.ref a)])) _
    refine XS.aloadN X7.here hx rfl (hb hby d13_37) rfl rfl ?_
    show Steps p.tables e below (T7.setTop (mkF m 38 #[.val (.ref a), .val (.int z'), .val (.long n'), .second] [(.ref a), (.ref a)])) _
    refine st8 _ ?_
    show Steps p.tables e below (T8.setTop (mkF m 41 #[.val (.ref a), .val (.int z'), .val (.long n'), .second] [(.long lr'), (.ref a)])) _
    refine XS.lloadN X8.here hx rfl (hb hby d13_41) rfl ?_
    show Steps p.tables e below (T8.setTop (mkF m 42 #[.val (.ref a), .val (.int z'), .val (.long n'), .second] [(.long n'), (.long lr'), (.ref a)])) _
    refine st9 _ ?_
    show Steps p.tables e below (T9.setTop (mkF m 45 #[.val (.ref a), .val (.int z'), .val (.long n'), .second] [(.long (own_max lr' n')), (.ref a)])) _
    refine st10 _ ?_
    show Steps p.tables e below (T10.setTop (mkF m 48 #[.val (.ref a), .val (.int z'), .val (.long n'), .second] [])) _
    exact X10.returnOut hx Bd.returns (hb hby d13_48) hr
  · show Q13 Z a z' n' hl' wt' rw' er' rn' lr' h0 n0 _ T10.heap _
    rw [e10]
    exact ⟨rfl, N10, K10, F_held_a, F_waiting_a, F_recordWaits_a, F_endedRecordWaits_a, F_recordWaitNanos_a, F_longestRecordWaitNanos_a⟩
theorem d5_0 : decode jdk_2799_method_9_code 0 = .ok (.aload_n 0, 1) := by decide +kernel
theorem d5_1 : decode jdk_2799_method_9_code 1 = .ok (.getfield 44, 3) := by decide +kernel
theorem d5_4 : decode jdk_2799_method_9_code 4 = .ok (.dup2, 1) := by decide +kernel
theorem d5_5 : decode jdk_2799_method_9_code 5 = .ok (.lstore_n 3, 1) := by decide +kernel
theorem d5_6 : decode jdk_2799_method_9_code 6 = .ok (.ldc2_w 63, 3) := by decide +kernel
theorem d5_9 : decode jdk_2799_method_9_code 9 = .ok (.lcmp, 1) := by decide +kernel
theorem d5_10 : decode jdk_2799_method_9_code 10 = .ok (.ifCond .gt 23, 3) := by decide +kernel
theorem d5_13 : decode jdk_2799_method_9_code 13 = .ok (.lload_n 3, 1) := by decide +kernel
theorem d5_14 : decode jdk_2799_method_9_code 14 = .ok (.ldc2_w 63, 3) := by decide +kernel
theorem d5_17 : decode jdk_2799_method_9_code 17 = .ok (.lcmp, 1) := by decide +kernel
theorem d5_18 : decode jdk_2799_method_9_code 18 = .ok (.ifCond .ne 7, 3) := by decide +kernel
theorem d5_25 : decode jdk_2799_method_9_code 25 = .ok (.lload_n 1, 1) := by decide +kernel
theorem d5_26 : decode jdk_2799_method_9_code 26 = .ok (.aload_n 0, 1) := by decide +kernel
theorem d5_27 : decode jdk_2799_method_9_code 27 = .ok (.getfield 65, 3) := by decide +kernel
theorem d5_30 : decode jdk_2799_method_9_code 30 = .ok (.i2l, 1) := by decide +kernel
theorem d5_31 : decode jdk_2799_method_9_code 31 = .ok (.ldiv, 1) := by decide +kernel
theorem d5_32 : decode jdk_2799_method_9_code 32 = .ok (.lreturn, 1) := by decide +kernel
theorem pn_5 : plainName "java/util/concurrent/TimeUnit" = true := by first | (simp [plainName, overriddenIn]; done) | decide +kernel
theorem ef_5 (m : MethodId) (x0 : Addr) (x1 : Int64) : entryFrame m #[(.ref x0), (.long x1)] 7 = mkF m 0 #[.val (.ref x0), .val (.long x1), .second, .unset, .unset, .unset, .unset] [] := by first | (simp [entryFrame, mkF, argsToLocals, Value.category]; done) | rfl
def Q5 (Z : State) (a : Addr) (d' : Int64) (h0 : Heap) (n0 : Nat) (v : Option Value) (h : Heap) (L : List Loc) : Prop := v = some (.long (d' / (1000000 : Int64))) ∧ Fr n0 L ∧ h = h0
set_option maxRecDepth 65536 in
set_option maxHeartbeats 40000000 in
theorem rm5 (l : Launch) (Z : State) (a0 : Array Value) (hw : ∀ d ∈ tables_1, d.before a0 Z = true) (ws : List Jvm.Cond) (a : Addr) (d' : Int64) (h0 : Heap) (n0 : Nat) (Z0 : n0 ≤ h0.size) (F_scale_a : Fld Z h0 a "java/util/concurrent/TimeUnit" "scale" "J" (.long (1 : Int64))) (F_milliRatio_a : Fld Z h0 a "java/util/concurrent/TimeUnit" "milliRatio" "I" (.int (1000000 : Int32))) :
    MetFree l (⟨"java/util/concurrent/TimeUnit", "toMillis", "(J)J"⟩ : MethodName) (head1 (Jvm.Cond.code (⟨"java/util/concurrent/TimeUnit", "toMillis", "(J)J"⟩ : MethodName) jdk_2799_method_9_code 7 (some .long) :: ws) ({ frames := 0, cells := 0, slots := 0, locals := 0 } : Room)) (fun ar U => ar = #[(.ref a), (.long d')] ∧ Z.Warmed39 U.vm ∧ U.heap = h0) (fun _ _ _ _ _ => True) (fun _ U o U' => ∃ v L, o = .returned v ∧ Q5 Z a d' h0 n0 v U'.heap L ∧ FrameEnd U o U' L ({ frames := 0, cells := 0, slots := 0, locals := 0 } : Room).cells ({ frames := 0, cells := 0, slots := 0, locals := 0 } : Room).slots) := by
  refine MetFree.of_bodySF (plainFor_of_name pn_5) hisR ?_
  intro p e s m args below meth c s₁ Bd hml0 hP hK
  obtain ⟨rfl, hZ, hh⟩ := hP
  have hx := Bd.exec
  have hby := Bd.bytes
  have hml : c.maxLocals = 7 := hml0
  have hown : s.vm.findClass "java/util/concurrent/TimeUnit" = some m.cls := findClass_of_methodNamed Bd.named
  have hnm := (name_of_methodNamed Bd.named Bd.method).1
  have X0 : Stand p l e ({ frames := 0, cells := 0, slots := 0, locals := 0 } : Room) s m #[(.ref a), (.long d')] below meth c s₁ [] 0 0 := Stand.of_body Bd
  have e0 : s₁.heap = h0 := by rw [← hh, Bd.state]; rfl
  have N0 := Fr.nil n0
  have K0 : Keep h0 h0 [] := Keep.refl h0 _
  have pre0 : ∀ t, Steps p.tables e below (s₁.setTop (mkF m 0 #[.val (.ref a), .val (.long d'), .second, .unset, .unset, .unset, .unset] [])) t → Steps p.tables e below (s₁.setTop (entryFrame m #[(.ref a), (.long d')] 7)) t := fun t k => castTop (ef_5 m a d') k
  obtain ⟨T1, X1, e1, st1⟩ := getF X0 hx hZ hown (host := "") (Or.inl (hw _ (List.mem_of_getElem? (i := 36) rfl))) Via.refl e0 F_scale_a (g := (mkF m 1 #[.val (.ref a), .val (.long d'), .second, .unset, .unset, .unset, .unset] [(.ref a)])) rfl rfl (hb hby d5_1)
  obtain ⟨T2, X2, e2, st2⟩ := getF X1 hx hZ hown (host := "") (Or.inl (hw _ (List.mem_of_getElem? (i := 39) rfl))) Via.refl e1 F_milliRatio_a (g := (mkF m 27 #[.val (.ref a), .val (.long d'), .second, .val (.long (1 : Int64)), .second, .unset, .unset] [(.ref a), (.long d')])) rfl rfl (hb hby d5_27)
  obtain ⟨fs, hr, hrun, hended, hW, hsame⟩ := X2.leave (v := some (.long (d' / ((1000000 : Int32).toInt64)))) (fun h => by rw [Bd.returns] at h; cases h)
  refine ⟨_, _, pre0 _ ?_, hrun, hended, _, _, rfl, ?_, ⟨_, rfl⟩, hW, hsame.mono (by decide) (by decide)⟩
  · show Steps p.tables e below (s₁.setTop (mkF m 0 #[.val (.ref a), .val (.long d'), .second, .unset, .unset, .unset, .unset] [])) _
    refine XS.aloadN X0.here hx rfl (hb hby d5_0) rfl rfl ?_
    show Steps p.tables e below (s₁.setTop (mkF m 1 #[.val (.ref a), .val (.long d'), .second, .unset, .unset, .unset, .unset] [(.ref a)])) _
    refine st1 _ ?_
    show Steps p.tables e below (T1.setTop (mkF m 4 #[.val (.ref a), .val (.long d'), .second, .unset, .unset, .unset, .unset] [(.long (1 : Int64))])) _
    refine Jvm.Free.XT.dup2L X1.here hx rfl (hb hby d5_4) rfl ?_
    show Steps p.tables e below (T1.setTop (mkF m 5 #[.val (.ref a), .val (.long d'), .second, .unset, .unset, .unset, .unset] [(.long (1 : Int64)), (.long (1 : Int64))])) _
    refine XS.lstoreN X1.here hx rfl (hb hby d5_5) rfl (l' := #[.val (.ref a), .val (.long d'), .second, .val (.long (1 : Int64)), .second, .unset, .unset]) rfl ?_
    show Steps p.tables e below (T1.setTop (mkF m 6 #[.val (.ref a), .val (.long d'), .second, .val (.long (1 : Int64)), .second, .unset, .unset] [(.long (1 : Int64))])) _
    refine X1.ldc2Long hx hown (mvT hZ (hw _ (List.mem_of_getElem? (i := 38) rfl))) (g := (mkF m 6 #[.val (.ref a), .val (.long d'), .second, .val (.long (1 : Int64)), .second, .unset, .unset] [(.long (1 : Int64))])) rfl (hb hby d5_6) _ ?_
    show Steps p.tables e below (T1.setTop (mkF m 9 #[.val (.ref a), .val (.long d'), .second, .val (.long (1 : Int64)), .second, .unset, .unset] [(.long (1000000 : Int64)), (.long (1 : Int64))])) _
    refine XS.lcmp X1.here hx rfl (hb hby d5_9) rfl ?_
    show Steps p.tables e below (T1.setTop (mkF m 10 #[.val (.ref a), .val (.long d'), .second, .val (.long (1 : Int64)), .second, .unset, .unset] [(.int (lcmpW (1 : Int64) (1000000 : Int64)))])) _
    refine XS.ifNo X1.here hx rfl (hb hby d5_10) rfl ((if0 _ _).trans (flt (fun q => (by decide : ¬ ((1000000 : Int64) < (1 : Int64))) ((lw_gt (1 : Int64) (1000000 : Int64)).mp q))).2.2.1) ?_
    show Steps p.tables e below (T1.setTop (mkF m 13 #[.val (.ref a), .val (.long d'), .second, .val (.long (1 : Int64)), .second, .unset, .unset] [])) _
    refine XS.lloadN X1.here hx rfl (hb hby d5_13) rfl ?_
    show Steps p.tables e below (T1.setTop (mkF m 14 #[.val (.ref a), .val (.long d'), .second, .val (.long (1 : Int64)), .second, .unset, .unset] [(.long (1 : Int64))])) _
    refine X1.ldc2Long hx hown (mvT hZ (hw _ (List.mem_of_getElem? (i := 38) rfl))) (g := (mkF m 14 #[.val (.ref a), .val (.long d'), .second, .val (.long (1 : Int64)), .second, .unset, .unset] [(.long (1 : Int64))])) rfl (hb hby d5_14) _ ?_
    show Steps p.tables e below (T1.setTop (mkF m 17 #[.val (.ref a), .val (.long d'), .second, .val (.long (1 : Int64)), .second, .unset, .unset] [(.long (1000000 : Int64)), (.long (1 : Int64))])) _
    refine XS.lcmp X1.here hx rfl (hb hby d5_17) rfl ?_
    show Steps p.tables e below (T1.setTop (mkF m 18 #[.val (.ref a), .val (.long d'), .second, .val (.long (1 : Int64)), .second, .unset, .unset] [(.int (lcmpW (1 : Int64) (1000000 : Int64)))])) _
    refine XS.ifYes X1.here hx rfl (pc0 := 18) (pc' := 25) rfl (hb hby d5_18) rfl ((if0 _ _).trans (feq (fun q => (by decide : ¬ ((1 : Int64) = (1000000 : Int64))) ((lw_eq (1 : Int64) (1000000 : Int64)).mp q))).2) (by decide) (by decide) ?_
    show Steps p.tables e below (T1.setTop (mkF m 25 #[.val (.ref a), .val (.long d'), .second, .val (.long (1 : Int64)), .second, .unset, .unset] [])) _
    refine XS.lloadN X1.here hx rfl (hb hby d5_25) rfl ?_
    show Steps p.tables e below (T1.setTop (mkF m 26 #[.val (.ref a), .val (.long d'), .second, .val (.long (1 : Int64)), .second, .unset, .unset] [(.long d')])) _
    refine XS.aloadN X1.here hx rfl (hb hby d5_26) rfl rfl ?_
    show Steps p.tables e below (T1.setTop (mkF m 27 #[.val (.ref a), .val (.long d'), .second, .val (.long (1 : Int64)), .second, .unset, .unset] [(.ref a), (.long d')])) _
    refine st2 _ ?_
    show Steps p.tables e below (T2.setTop (mkF m 30 #[.val (.ref a), .val (.long d'), .second, .val (.long (1 : Int64)), .second, .unset, .unset] [(.int (1000000 : Int32)), (.long d')])) _
    refine XS.i2l X2.here hx rfl (hb hby d5_30) rfl ?_
    show Steps p.tables e below (T2.setTop (mkF m 31 #[.val (.ref a), .val (.long d'), .second, .val (.long (1 : Int64)), .second, .unset, .unset] [(.long ((1000000 : Int32).toInt64)), (.long d')])) _
    refine XS.ldiv X2.here hx rfl (hb hby d5_31) rfl (by decide) ?_
    show Steps p.tables e below (T2.setTop (mkF m 32 #[.val (.ref a), .val (.long d'), .second, .val (.long (1 : Int64)), .second, .unset, .unset] [(.long (d' / ((1000000 : Int32).toInt64)))])) _
    exact retOut X2 hx Bd.returns rfl (Or.inr (Or.inl ⟨rfl, rfl, _, rfl⟩)) (hb hby d5_32) hr
  · show Q5 Z a d' h0 n0 _ T2.heap _
    rw [e2]
    exact ⟨rfl, N0, rfl⟩
theorem d6_0 : decode prog_31_method_1_code 0 = .ok (.aload_n 0, 1) := by decide +kernel
theorem d6_1 : decode prog_31_method_1_code 1 = .ok (.invokespecial 1, 3) := by decide +kernel
theorem d6_4 : decode prog_31_method_1_code 4 = .ok (.aload_n 0, 1) := by decide +kernel
theorem d6_5 : decode prog_31_method_1_code 5 = .ok (.lload_n 1, 1) := by decide +kernel
theorem d6_6 : decode prog_31_method_1_code 6 = .ok (.putfield 7, 3) := by decide +kernel
theorem d6_9 : decode prog_31_method_1_code 9 = .ok (.aload_n 0, 1) := by decide +kernel
theorem d6_10 : decode prog_31_method_1_code 10 = .ok (.lload_n 3, 1) := by decide +kernel
theorem d6_11 : decode prog_31_method_1_code 11 = .ok (.putfield 13, 3) := by decide +kernel
theorem d6_14 : decode prog_31_method_1_code 14 = .ok (.aload_n 0, 1) := by decide +kernel
theorem d6_15 : decode prog_31_method_1_code 15 = .ok (.lload 5, 2) := by decide +kernel
theorem d6_17 : decode prog_31_method_1_code 17 = .ok (.putfield 16, 3) := by decide +kernel
theorem d6_20 : decode prog_31_method_1_code 20 = .ok (.aload_n 0, 1) := by decide +kernel
theorem d6_21 : decode prog_31_method_1_code 21 = .ok (.lload 7, 2) := by decide +kernel
theorem d6_23 : decode prog_31_method_1_code 23 = .ok (.putfield 19, 3) := by decide +kernel
theorem d6_26 : decode prog_31_method_1_code 26 = .ok (.aload_n 0, 1) := by decide +kernel
theorem d6_27 : decode prog_31_method_1_code 27 = .ok (.lload 9, 2) := by decide +kernel
theorem d6_29 : decode prog_31_method_1_code 29 = .ok (.putfield 22, 3) := by decide +kernel
theorem d6_32 : decode prog_31_method_1_code 32 = .ok (.return_, 1) := by decide +kernel
theorem pn_6 : plainName "com/example/diligent_locks/diligentlocks/RecordLockWaits" = true := by first | (simp [plainName, overriddenIn]; done) | decide +kernel
theorem pd6_0 : parseMethodDescriptor "()V" = some ⟨[], none⟩ := by decide +kernel
theorem ef_6 (m : MethodId) (x0 : Addr) (x1 : Int64) (x2 : Int64) (x3 : Int64) (x4 : Int64) (x5 : Int64) : entryFrame m #[(.ref x0), (.long x1), (.long x2), (.long x3), (.long x4), (.long x5)] 11 = mkF m 0 #[.val (.ref x0), .val (.long x1), .second, .val (.long x2), .second, .val (.long x3), .second, .val (.long x4), .second, .val (.long x5), .second] [] := by first | (simp [entryFrame, mkF, argsToLocals, Value.category]; done) | rfl
def Q6 (Z : State) (a : Addr) (c' : Int64) (w' : Int64) (t' : Int64) (v' : Int64) (l' : Int64) (h0 : Heap) (n0 : Nat) (v : Option Value) (h : Heap) (L : List Loc) : Prop := v = none ∧ Fr n0 L ∧ Keep h0 h [a] ∧ Fld Z h a "com/example/diligent_locks/diligentlocks/RecordLockWaits" "currentWaits" "J" (.long c') ∧ Fld Z h a "com/example/diligent_locks/diligentlocks/RecordLockWaits" "waits" "J" (.long w') ∧ Fld Z h a "com/example/diligent_locks/diligentlocks/RecordLockWaits" "totalWaitMillis" "J" (.long t') ∧ Fld Z h a "com/example/diligent_locks/diligentlocks/RecordLockWaits" "averageWaitMillis" "J" (.long v') ∧ Fld Z h a "com/example/diligent_locks/diligentlocks/RecordLockWaits" "longestWaitMillis" "J" (.long l')
set_option maxRecDepth 65536 in
set_option maxHeartbeats 40000000 in
theorem rm6 (l : Launch) (Z : State) (a0 : Array Value) (hw : ∀ d ∈ tables_1, d.before a0 Z = true) (ws : List Jvm.Cond) (a : Addr) (c' : Int64) (w' : Int64) (t' : Int64) (v' : Int64) (l' : Int64) (h0 : Heap) (n0 : Nat) (Z0 : n0 ≤ h0.size) (E_a : Exa Z h0 a "com/example/diligent_locks/diligentlocks/RecordLockWaits") (F_currentWaits_a : Fld Z h0 a "com/example/diligent_locks/diligentlocks/RecordLockWaits" "currentWaits" "J" (.long (0 : Int64))) (F_waits_a : Fld Z h0 a "com/example/diligent_locks/diligentlocks/RecordLockWaits" "waits" "J" (.long (0 : Int64))) (F_totalWaitMillis_a : Fld Z h0 a "com/example/diligent_locks/diligentlocks/RecordLockWaits" "totalWaitMillis" "J" (.long (0 : Int64))) (F_averageWaitMillis_a : Fld Z h0 a "com/example/diligent_locks/diligentlocks/RecordLockWaits" "averageWaitMillis" "J" (.long (0 : Int64))) (F_longestWaitMillis_a : Fld Z h0 a "com/example/diligent_locks/diligentlocks/RecordLockWaits" "longestWaitMillis" "J" (.long (0 : Int64))) (g_a : n0 ≤ a) :
    MetFree l (⟨"com/example/diligent_locks/diligentlocks/RecordLockWaits", "<init>", "(JJJJJ)V"⟩ : MethodName) (head1 (Jvm.Cond.code (⟨"com/example/diligent_locks/diligentlocks/RecordLockWaits", "<init>", "(JJJJJ)V"⟩ : MethodName) prog_31_method_1_code 11 none :: ws) ({ frames := 2, cells := 0, slots := 0, locals := 24 } : Room)) (fun ar U => ar = #[(.ref a), (.long c'), (.long w'), (.long t'), (.long v'), (.long l')] ∧ Z.Warmed39 U.vm ∧ U.heap = h0) (fun _ _ _ _ _ => True) (fun _ U o U' => ∃ v L, o = .returned v ∧ Q6 Z a c' w' t' v' l' h0 n0 v U'.heap L ∧ FrameEnd U o U' L ({ frames := 2, cells := 0, slots := 0, locals := 24 } : Room).cells ({ frames := 2, cells := 0, slots := 0, locals := 24 } : Room).slots) := by
  refine MetFree.of_bodySF (plainFor_of_name pn_6) hisR ?_
  intro p e s m args below meth c s₁ Bd hml0 hP hK
  obtain ⟨rfl, hZ, hh⟩ := hP
  have hx := Bd.exec
  have hby := Bd.bytes
  have hml : c.maxLocals = 11 := hml0
  have hown : s.vm.findClass "com/example/diligent_locks/diligentlocks/RecordLockWaits" = some m.cls := findClass_of_methodNamed Bd.named
  have hnm := (name_of_methodNamed Bd.named Bd.method).1
  have X0 : Stand p l e ({ frames := 2, cells := 0, slots := 0, locals := 24 } : Room) s m #[(.ref a), (.long c'), (.long w'), (.long t'), (.long v'), (.long l')] below meth c s₁ [] 0 0 := Stand.of_body Bd
  have e0 : s₁.heap = h0 := by rw [← hh, Bd.state]; rfl
  have N0 := Fr.nil n0
  have K0 : Keep h0 h0 [a] := Keep.refl h0 _
  have pre0 : ∀ t, Steps p.tables e below (s₁.setTop (mkF m 0 #[.val (.ref a), .val (.long c'), .second, .val (.long w'), .second, .val (.long t'), .second, .val (.long v'), .second, .val (.long l'), .second] [])) t → Steps p.tables e below (s₁.setTop (entryFrame m #[(.ref a), (.long c'), (.long w'), (.long t'), (.long v'), (.long l')] 11)) t := fun t k => castTop (ef_6 m a c' w' t' v' l') k
  obtain ⟨_, _, ⟨T1, L1, k1, n1⟩, -, X1, ⟨Lc1, hQ1, l1, y1, z1⟩, st1⟩ := X0.specialBack hx (y := (⟨"java/lang/Record", "<init>", "()V"⟩ : MethodName)) rfl hown (mvT hZ (hw _ (List.mem_of_getElem? (i := 51) rfl))) (mvT hZ (hw _ (List.mem_of_getElem? (i := 52) rfl))) (mvT hZ (hw _ (List.mem_of_getElem? (i := 55) rfl))) (by decide) (backOf (W := 0) (rm7 l Z a0 hw [] a h0 n0 Z0 ) hZ (hw _ (List.mem_of_getElem? (i := 55) rfl)) (hw _ (List.mem_of_getElem? (i := 54) rfl)) (by decide) (by decide)) (g := (mkF m 1 #[.val (.ref a), .val (.long c'), .second, .val (.long w'), .second, .val (.long t'), .second, .val (.long v'), .second, .val (.long l'), .second] [(.ref a)])) rfl (by rw [hml]; rfl) (Steps.refl _) (a := a) (argsL := []) (rest := []) (lenOf pd6_0 rfl) rfl (by show 2 * 0 + _ ≤ _; exact Nat.le_of_eq rfl) (hb hby d6_1) (fun _ _ => ⟨rfl, e0, (by decide : 0 + 0 ≤ _), (by decide : 0 + 0 ≤ _)⟩)
  dsimp only [Pt.U, Pt.locs, Pt.cells, Pt.slots] at X1 l1 y1 z1 st1 hQ1
  subst l1 y1 z1
  obtain ⟨rfl, N1q, hh1⟩ := hQ1
  have N1 := Fr.app N0 N1q
  obtain ⟨T2, h2, X2, e2, W2, st2⟩ := putF X1 hx hZ hown (host := "") (Or.inl (hw _ (List.mem_of_getElem? (i := 57) rfl))) Via.refl hh1 F_currentWaits_a E_a (Or.inr ⟨(hw _ (List.mem_of_getElem? (i := 58) rfl)), rfl, hnm⟩) (hw _ (List.mem_of_getElem? (i := 44) rfl)) (ty := .long) (by decide) rfl rfl (g := (mkF m 6 #[.val (.ref a), .val (.long c'), .second, .val (.long w'), .second, .val (.long t'), .second, .val (.long v'), .second, .val (.long l'), .second] [(.long c'), (.ref a)])) rfl rfl (hb hby d6_6)
  have E_a := E_a.wr W2
  have F_currentWaits_a := F_currentWaits_a.same W2
  have F_waits_a := F_waits_a.other W2 (Or.inr (slot_ne (Or.inr (hw _ (List.mem_of_getElem? (i := 60) rfl))) (Or.inr (hw _ (List.mem_of_getElem? (i := 58) rfl))) (by decide) (t := .long) (t' := .long) (by decide) (by decide)))
  have F_totalWaitMillis_a := F_totalWaitMillis_a.other W2 (Or.inr (slot_ne (Or.inr (hw _ (List.mem_of_getElem? (i := 62) rfl))) (Or.inr (hw _ (List.mem_of_getElem? (i := 58) rfl))) (by decide) (t := .long) (t' := .long) (by decide) (by decide)))
  have F_averageWaitMillis_a := F_averageWaitMillis_a.other W2 (Or.inr (slot_ne (Or.inr (hw _ (List.mem_of_getElem? (i := 64) rfl))) (Or.inr (hw _ (List.mem_of_getElem? (i := 58) rfl))) (by decide) (t := .long) (t' := .long) (by decide) (by decide)))
  have F_longestWaitMillis_a := F_longestWaitMillis_a.other W2 (Or.inr (slot_ne (Or.inr (hw _ (List.mem_of_getElem? (i := 66) rfl))) (Or.inr (hw _ (List.mem_of_getElem? (i := 58) rfl))) (by decide) (t := .long) (t' := .long) (by decide) (by decide)))
  have Zs2 : n0 ≤ h2.size := Nat.le_trans Z0 (Keep.of_wr W2).1
  have K2 : Keep h0 h2 [a] := K0.wr W2 (Or.inl (List.mem_of_getElem? (i := 0) rfl))
  have N2 := Fr.snoc X2 N1 g_a
  obtain ⟨T3, h3, X3, e3, W3, st3⟩ := putF X2 hx hZ hown (host := "") (Or.inl (hw _ (List.mem_of_getElem? (i := 59) rfl))) Via.refl e2 F_waits_a E_a (Or.inr ⟨(hw _ (List.mem_of_getElem? (i := 60) rfl)), rfl, hnm⟩) (hw _ (List.mem_of_getElem? (i := 44) rfl)) (ty := .long) (by decide) rfl rfl (g := (mkF m 11 #[.val (.ref a), .val (.long c'), .second, .val (.long w'), .second, .val (.long t'), .second, .val (.long v'), .second, .val (.long l'), .second] [(.long w'), (.ref a)])) rfl rfl (hb hby d6_11)
  have E_a := E_a.wr W3
  have F_currentWaits_a := F_currentWaits_a.other W3 (Or.inr (slot_ne (Or.inr (hw _ (List.mem_of_getElem? (i := 58) rfl))) (Or.inr (hw _ (List.mem_of_getElem? (i := 60) rfl))) (by decide) (t := .long) (t' := .long) (by decide) (by decide)))
  have F_waits_a := F_waits_a.same W3
  have F_totalWaitMillis_a := F_totalWaitMillis_a.other W3 (Or.inr (slot_ne (Or.inr (hw _ (List.mem_of_getElem? (i := 62) rfl))) (Or.inr (hw _ (List.mem_of_getElem? (i := 60) rfl))) (by decide) (t := .long) (t' := .long) (by decide) (by decide)))
  have F_averageWaitMillis_a := F_averageWaitMillis_a.other W3 (Or.inr (slot_ne (Or.inr (hw _ (List.mem_of_getElem? (i := 64) rfl))) (Or.inr (hw _ (List.mem_of_getElem? (i := 60) rfl))) (by decide) (t := .long) (t' := .long) (by decide) (by decide)))
  have F_longestWaitMillis_a := F_longestWaitMillis_a.other W3 (Or.inr (slot_ne (Or.inr (hw _ (List.mem_of_getElem? (i := 66) rfl))) (Or.inr (hw _ (List.mem_of_getElem? (i := 60) rfl))) (by decide) (t := .long) (t' := .long) (by decide) (by decide)))
  have Zs3 : n0 ≤ h3.size := Nat.le_trans Zs2 (Keep.of_wr W3).1
  have K3 : Keep h0 h3 [a] := K2.wr W3 (Or.inl (List.mem_of_getElem? (i := 0) rfl))
  have N3 := Fr.snoc X3 N2 g_a
  obtain ⟨T4, h4, X4, e4, W4, st4⟩ := putF X3 hx hZ hown (host := "") (Or.inl (hw _ (List.mem_of_getElem? (i := 61) rfl))) Via.refl e3 F_totalWaitMillis_a E_a (Or.inr ⟨(hw _ (List.mem_of_getElem? (i := 62) rfl)), rfl, hnm⟩) (hw _ (List.mem_of_getElem? (i := 44) rfl)) (ty := .long) (by decide) rfl rfl (g := (mkF m 17 #[.val (.ref a), .val (.long c'), .second, .val (.long w'), .second, .val (.long t'), .second, .val (.long v'), .second, .val (.long l'), .second] [(.long t'), (.ref a)])) rfl rfl (hb hby d6_17)
  have E_a := E_a.wr W4
  have F_currentWaits_a := F_currentWaits_a.other W4 (Or.inr (slot_ne (Or.inr (hw _ (List.mem_of_getElem? (i := 58) rfl))) (Or.inr (hw _ (List.mem_of_getElem? (i := 62) rfl))) (by decide) (t := .long) (t' := .long) (by decide) (by decide)))
  have F_waits_a := F_waits_a.other W4 (Or.inr (slot_ne (Or.inr (hw _ (List.mem_of_getElem? (i := 60) rfl))) (Or.inr (hw _ (List.mem_of_getElem? (i := 62) rfl))) (by decide) (t := .long) (t' := .long) (by decide) (by decide)))
  have F_totalWaitMillis_a := F_totalWaitMillis_a.same W4
  have F_averageWaitMillis_a := F_averageWaitMillis_a.other W4 (Or.inr (slot_ne (Or.inr (hw _ (List.mem_of_getElem? (i := 64) rfl))) (Or.inr (hw _ (List.mem_of_getElem? (i := 62) rfl))) (by decide) (t := .long) (t' := .long) (by decide) (by decide)))
  have F_longestWaitMillis_a := F_longestWaitMillis_a.other W4 (Or.inr (slot_ne (Or.inr (hw _ (List.mem_of_getElem? (i := 66) rfl))) (Or.inr (hw _ (List.mem_of_getElem? (i := 62) rfl))) (by decide) (t := .long) (t' := .long) (by decide) (by decide)))
  have Zs4 : n0 ≤ h4.size := Nat.le_trans Zs3 (Keep.of_wr W4).1
  have K4 : Keep h0 h4 [a] := K3.wr W4 (Or.inl (List.mem_of_getElem? (i := 0) rfl))
  have N4 := Fr.snoc X4 N3 g_a
  obtain ⟨T5, h5, X5, e5, W5, st5⟩ := putF X4 hx hZ hown (host := "") (Or.inl (hw _ (List.mem_of_getElem? (i := 63) rfl))) Via.refl e4 F_averageWaitMillis_a E_a (Or.inr ⟨(hw _ (List.mem_of_getElem? (i := 64) rfl)), rfl, hnm⟩) (hw _ (List.mem_of_getElem? (i := 44) rfl)) (ty := .long) (by decide) rfl rfl (g := (mkF m 23 #[.val (.ref a), .val (.long c'), .second, .val (.long w'), .second, .val (.long t'), .second, .val (.long v'), .second, .val (.long l'), .second] [(.long v'), (.ref a)])) rfl rfl (hb hby d6_23)
  have E_a := E_a.wr W5
  have F_currentWaits_a := F_currentWaits_a.other W5 (Or.inr (slot_ne (Or.inr (hw _ (List.mem_of_getElem? (i := 58) rfl))) (Or.inr (hw _ (List.mem_of_getElem? (i := 64) rfl))) (by decide) (t := .long) (t' := .long) (by decide) (by decide)))
  have F_waits_a := F_waits_a.other W5 (Or.inr (slot_ne (Or.inr (hw _ (List.mem_of_getElem? (i := 60) rfl))) (Or.inr (hw _ (List.mem_of_getElem? (i := 64) rfl))) (by decide) (t := .long) (t' := .long) (by decide) (by decide)))
  have F_totalWaitMillis_a := F_totalWaitMillis_a.other W5 (Or.inr (slot_ne (Or.inr (hw _ (List.mem_of_getElem? (i := 62) rfl))) (Or.inr (hw _ (List.mem_of_getElem? (i := 64) rfl))) (by decide) (t := .long) (t' := .long) (by decide) (by decide)))
  have F_averageWaitMillis_a := F_averageWaitMillis_a.same W5
  have F_longestWaitMillis_a := F_longestWaitMillis_a.other W5 (Or.inr (slot_ne (Or.inr (hw _ (List.mem_of_getElem? (i := 66) rfl))) (Or.inr (hw _ (List.mem_of_getElem? (i := 64) rfl))) (by decide) (t := .long) (t' := .long) (by decide) (by decide)))
  have Zs5 : n0 ≤ h5.size := Nat.le_trans Zs4 (Keep.of_wr W5).1
  have K5 : Keep h0 h5 [a] := K4.wr W5 (Or.inl (List.mem_of_getElem? (i := 0) rfl))
  have N5 := Fr.snoc X5 N4 g_a
  obtain ⟨T6, h6, X6, e6, W6, st6⟩ := putF X5 hx hZ hown (host := "") (Or.inl (hw _ (List.mem_of_getElem? (i := 65) rfl))) Via.refl e5 F_longestWaitMillis_a E_a (Or.inr ⟨(hw _ (List.mem_of_getElem? (i := 66) rfl)), rfl, hnm⟩) (hw _ (List.mem_of_getElem? (i := 44) rfl)) (ty := .long) (by decide) rfl rfl (g := (mkF m 29 #[.val (.ref a), .val (.long c'), .second, .val (.long w'), .second, .val (.long t'), .second, .val (.long v'), .second, .val (.long l'), .second] [(.long l'), (.ref a)])) rfl rfl (hb hby d6_29)
  have E_a := E_a.wr W6
  have F_currentWaits_a := F_currentWaits_a.other W6 (Or.inr (slot_ne (Or.inr (hw _ (List.mem_of_getElem? (i := 58) rfl))) (Or.inr (hw _ (List.mem_of_getElem? (i := 66) rfl))) (by decide) (t := .long) (t' := .long) (by decide) (by decide)))
  have F_waits_a := F_waits_a.other W6 (Or.inr (slot_ne (Or.inr (hw _ (List.mem_of_getElem? (i := 60) rfl))) (Or.inr (hw _ (List.mem_of_getElem? (i := 66) rfl))) (by decide) (t := .long) (t' := .long) (by decide) (by decide)))
  have F_totalWaitMillis_a := F_totalWaitMillis_a.other W6 (Or.inr (slot_ne (Or.inr (hw _ (List.mem_of_getElem? (i := 62) rfl))) (Or.inr (hw _ (List.mem_of_getElem? (i := 66) rfl))) (by decide) (t := .long) (t' := .long) (by decide) (by decide)))
  have F_averageWaitMillis_a := F_averageWaitMillis_a.other W6 (Or.inr (slot_ne (Or.inr (hw _ (List.mem_of_getElem? (i := 64) rfl))) (Or.inr (hw _ (List.mem_of_getElem? (i := 66) rfl))) (by decide) (t := .long) (t' := .long) (by decide) (by decide)))
  have F_longestWaitMillis_a := F_longestWaitMillis_a.same W6
  have Zs6 : n0 ≤ h6.size := Nat.le_trans Zs5 (Keep.of_wr W6).1
  have K6 : Keep h0 h6 [a] := K5.wr W6 (Or.inl (List.mem_of_getElem? (i := 0) rfl))
  have N6 := Fr.snoc X6 N5 g_a
  obtain ⟨fs, hr, hrun, hended, hW, hsame⟩ := X6.leave (v := none) (fun _ => rfl)
  refine ⟨_, _, pre0 _ ?_, hrun, hended, _, _, rfl, ?_, ⟨_, rfl⟩, hW, hsame.mono (by decide) (by decide)⟩
  · show Steps p.tables e below (s₁.setTop (mkF m 0 #[.val (.ref a), .val (.long c'), .second, .val (.long w'), .second, .val (.long t'), .second, .val (.long v'), .second, .val (.long l'), .second] [])) _
    refine XS.aloadN X0.here hx rfl (hb hby d6_0) rfl rfl ?_
    show Steps p.tables e below (s₁.setTop (mkF m 1 #[.val (.ref a), .val (.long c'), .second, .val (.long w'), .second, .val (.long t'), .second, .val (.long v'), .second, .val (.long l'), .second] [(.ref a)])) _
    refine st1.trans ?_
    show Steps p.tables e below (T1.setTop (mkF m 4 #[.val (.ref a), .val (.long c'), .second, .val (.long w'), .second, .val (.long t'), .second, .val (.long v'), .second, .val (.long l'), .second] [])) _
    refine XS.aloadN X1.here hx rfl (hb hby d6_4) rfl rfl ?_
    show Steps p.tables e below (T1.setTop (mkF m 5 #[.val (.ref a), .val (.long c'), .second, .val (.long w'), .second, .val (.long t'), .second, .val (.long v'), .second, .val (.long l'), .second] [(.ref a)])) _
    refine XS.lloadN X1.here hx rfl (hb hby d6_5) rfl ?_
    show Steps p.tables e below (T1.setTop (mkF m 6 #[.val (.ref a), .val (.long c'), .second, .val (.long w'), .second, .val (.long t'), .second, .val (.long v'), .second, .val (.long l'), .second] [(.long c'), (.ref a)])) _
    refine st2 _ ?_
    show Steps p.tables e below (T2.setTop (mkF m 9 #[.val (.ref a), .val (.long c'), .second, .val (.long w'), .second, .val (.long t'), .second, .val (.long v'), .second, .val (.long l'), .second] [])) _
    refine XS.aloadN X2.here hx rfl (hb hby d6_9) rfl rfl ?_
    show Steps p.tables e below (T2.setTop (mkF m 10 #[.val (.ref a), .val (.long c'), .second, .val (.long w'), .second, .val (.long t'), .second, .val (.long v'), .second, .val (.long l'), .second] [(.ref a)])) _
    refine XS.lloadN X2.here hx rfl (hb hby d6_10) rfl ?_
    show Steps p.tables e below (T2.setTop (mkF m 11 #[.val (.ref a), .val (.long c'), .second, .val (.long w'), .second, .val (.long t'), .second, .val (.long v'), .second, .val (.long l'), .second] [(.long w'), (.ref a)])) _
    refine st3 _ ?_
    show Steps p.tables e below (T3.setTop (mkF m 14 #[.val (.ref a), .val (.long c'), .second, .val (.long w'), .second, .val (.long t'), .second, .val (.long v'), .second, .val (.long l'), .second] [])) _
    refine XS.aloadN X3.here hx rfl (hb hby d6_14) rfl rfl ?_
    show Steps p.tables e below (T3.setTop (mkF m 15 #[.val (.ref a), .val (.long c'), .second, .val (.long w'), .second, .val (.long t'), .second, .val (.long v'), .second, .val (.long l'), .second] [(.ref a)])) _
    refine XS.lload X3.here hx rfl (hb hby d6_15) rfl ?_
    show Steps p.tables e below (T3.setTop (mkF m 17 #[.val (.ref a), .val (.long c'), .second, .val (.long w'), .second, .val (.long t'), .second, .val (.long v'), .second, .val (.long l'), .second] [(.long t'), (.ref a)])) _
    refine st4 _ ?_
    show Steps p.tables e below (T4.setTop (mkF m 20 #[.val (.ref a), .val (.long c'), .second, .val (.long w'), .second, .val (.long t'), .second, .val (.long v'), .second, .val (.long l'), .second] [])) _
    refine XS.aloadN X4.here hx rfl (hb hby d6_20) rfl rfl ?_
    show Steps p.tables e below (T4.setTop (mkF m 21 #[.val (.ref a), .val (.long c'), .second, .val (.long w'), .second, .val (.long t'), .second, .val (.long v'), .second, .val (.long l'), .second] [(.ref a)])) _
    refine XS.lload X4.here hx rfl (hb hby d6_21) rfl ?_
    show Steps p.tables e below (T4.setTop (mkF m 23 #[.val (.ref a), .val (.long c'), .second, .val (.long w'), .second, .val (.long t'), .second, .val (.long v'), .second, .val (.long l'), .second] [(.long v'), (.ref a)])) _
    refine st5 _ ?_
    show Steps p.tables e below (T5.setTop (mkF m 26 #[.val (.ref a), .val (.long c'), .second, .val (.long w'), .second, .val (.long t'), .second, .val (.long v'), .second, .val (.long l'), .second] [])) _
    refine XS.aloadN X5.here hx rfl (hb hby d6_26) rfl rfl ?_
    show Steps p.tables e below (T5.setTop (mkF m 27 #[.val (.ref a), .val (.long c'), .second, .val (.long w'), .second, .val (.long t'), .second, .val (.long v'), .second, .val (.long l'), .second] [(.ref a)])) _
    refine XS.lload X5.here hx rfl (hb hby d6_27) rfl ?_
    show Steps p.tables e below (T5.setTop (mkF m 29 #[.val (.ref a), .val (.long c'), .second, .val (.long w'), .second, .val (.long t'), .second, .val (.long v'), .second, .val (.long l'), .second] [(.long l'), (.ref a)])) _
    refine st6 _ ?_
    show Steps p.tables e below (T6.setTop (mkF m 32 #[.val (.ref a), .val (.long c'), .second, .val (.long w'), .second, .val (.long t'), .second, .val (.long v'), .second, .val (.long l'), .second] [])) _
    exact X6.returnOut hx Bd.returns (hb hby d6_32) hr
  · show Q6 Z a c' w' t' v' l' h0 n0 _ T6.heap _
    rw [e6]
    exact ⟨rfl, N6, K6, F_currentWaits_a, F_waits_a, F_totalWaitMillis_a, F_averageWaitMillis_a, F_longestWaitMillis_a⟩
theorem d4_0 : decode prog_14_method_5_code 0 = .ok (.getstatic 39, 3) := by decide +kernel
theorem d4_3 : decode prog_14_method_5_code 3 = .ok (.aload_n 0, 1) := by decide +kernel
theorem d4_4 : decode prog_14_method_5_code 4 = .ok (.getfield 20, 3) := by decide +kernel
theorem d4_7 : decode prog_14_method_5_code 7 = .ok (.invokevirtual 45, 3) := by decide +kernel
theorem d4_10 : decode prog_14_method_5_code 10 = .ok (.lstore_n 1, 1) := by decide +kernel
theorem d4_11 : decode prog_14_method_5_code 11 = .ok (.aload_n 0, 1) := by decide +kernel
theorem d4_12 : decode prog_14_method_5_code 12 = .ok (.getfield 17, 3) := by decide +kernel
theorem d4_15 : decode prog_14_method_5_code 15 = .ok (.lconst 0, 1) := by decide +kernel
theorem d4_16 : decode prog_14_method_5_code 16 = .ok (.lcmp, 1) := by decide +kernel
theorem d4_17 : decode prog_14_method_5_code 17 = .ok (.ifCond .ne 7, 3) := by decide +kernel
theorem d4_20 : decode prog_14_method_5_code 20 = .ok (.lconst 0, 1) := by decide +kernel
theorem d4_21 : decode prog_14_method_5_code 21 = .ok (.goto 9, 3) := by decide +kernel
theorem d4_24 : decode prog_14_method_5_code 24 = .ok (.lload_n 1, 1) := by decide +kernel
theorem d4_25 : decode prog_14_method_5_code 25 = .ok (.aload_n 0, 1) := by decide +kernel
theorem d4_26 : decode prog_14_method_5_code 26 = .ok (.getfield 17, 3) := by decide +kernel
theorem d4_29 : decode prog_14_method_5_code 29 = .ok (.ldiv, 1) := by decide +kernel
theorem d4_30 : decode prog_14_method_5_code 30 = .ok (.lstore_n 3, 1) := by decide +kernel
theorem d4_31 : decode prog_14_method_5_code 31 = .ok (.new 49, 3) := by decide +kernel
theorem d4_34 : decode prog_14_method_5_code 34 = .ok (.dup, 1) := by decide +kernel
theorem d4_35 : decode prog_14_method_5_code 35 = .ok (.aload_n 0, 1) := by decide +kernel
theorem d4_36 : decode prog_14_method_5_code 36 = .ok (.getfield 13, 3) := by decide +kernel
theorem d4_39 : decode prog_14_method_5_code 39 = .ok (.aload_n 0, 1) := by decide +kernel
theorem d4_40 : decode prog_14_method_5_code 40 = .ok (.getfield 17, 3) := by decide +kernel
theorem d4_43 : decode prog_14_method_5_code 43 = .ok (.lsub, 1) := by decide +kernel
theorem d4_44 : decode prog_14_method_5_code 44 = .ok (.aload_n 0, 1) := by decide +kernel
theorem d4_45 : decode prog_14_method_5_code 45 = .ok (.getfield 13, 3) := by decide +kernel
theorem d4_48 : decode prog_14_method_5_code 48 = .ok (.lload_n 1, 1) := by decide +kernel
theorem d4_49 : decode prog_14_method_5_code 49 = .ok (.lload_n 3, 1) := by decide +kernel
theorem d4_50 : decode prog_14_method_5_code 50 = .ok (.getstatic 39, 3) := by decide +kernel
theorem d4_53 : decode prog_14_method_5_code 53 = .ok (.aload_n 0, 1) := by decide +kernel
theorem d4_54 : decode prog_14_method_5_code 54 = .ok (.getfield 27, 3) := by decide +kernel
theorem d4_57 : decode prog_14_method_5_code 57 = .ok (.invokevirtual 45, 3) := by decide +kernel
theorem d4_60 : decode prog_14_method_5_code 60 = .ok (.invokespecial 51, 3) := by decide +kernel
theorem d4_63 : decode prog_14_method_5_code 63 = .ok (.areturn, 1) := by decide +kernel
theorem pn_4 : plainName "com/example/diligent_locks/diligentlocks/LockCounts" = true := by first | (simp [plainName, overriddenIn]; done) | decide +kernel
theorem pd4_0 : parseMethodDescriptor "(J)J" = some ⟨[.long], some .long⟩ := by decide +kernel
theorem pd4_1 : parseMethodDescriptor "(JJJJJ)V" = some ⟨[.long, .long, .long, .long, .long], none⟩ := by decide +kernel
theorem ef_4 (m : MethodId) (x0 : Addr) : entryFrame m #[(.ref x0)] 5 = mkF m 0 #[.val (.ref x0), .unset, .unset, .unset, .unset] [] := by first | (simp [entryFrame, mkF, argsToLocals, Value.category]; done) | rfl
def Q4 (Z : State) (a : Addr) (hl' : Int64) (wt' : Int32) (rw' er' rn' lr' : Int64) (ns : Addr) (h0 : Heap) (n0 : Nat) (v : Option Value) (h : Heap) (L : List Loc) : Prop := ∃ r : Addr, v = some (.ref r) ∧ Fr n0 L ∧ Keep h0 h [] ∧ n0 ≤ r ∧ h0.size ≤ r ∧ Exa Z h r "com/example/diligent_locks/diligentlocks/RecordLockWaits" ∧ Fld Z h r "com/example/diligent_locks/diligentlocks/RecordLockWaits" "currentWaits" "J" (.long (rw' - er')) ∧ Fld Z h r "com/example/diligent_locks/diligentlocks/RecordLockWaits" "waits" "J" (.long rw') ∧ Fld Z h r "com/example/diligent_locks/diligentlocks/RecordLockWaits" "totalWaitMillis" "J" (.long (rn' / (1000000 : Int64))) ∧ Fld Z h r "com/example/diligent_locks/diligentlocks/RecordLockWaits" "averageWaitMillis" "J" (.long (if er' = (0 : Int64) then (0 : Int64) else ((rn' / (1000000 : Int64)) / er'))) ∧ Fld Z h r "com/example/diligent_locks/diligentlocks/RecordLockWaits" "longestWaitMillis" "J" (.long (lr' / (1000000 : Int64)))
set_option maxRecDepth 65536 in
set_option maxHeartbeats 40000000 in
theorem rm4 (l : Launch) (Z : State) (a0 : Array Value) (hw : ∀ d ∈ tables_1, d.before a0 Z = true) (ws : List Jvm.Cond) (a : Addr) (hl' : Int64) (wt' : Int32) (rw' er' rn' lr' : Int64) (ns : Addr) (h0 : Heap) (n0 : Nat) (Z0 : n0 ≤ h0.size) (E_a : Exa Z h0 a "com/example/diligent_locks/diligentlocks/LockCounts") (F_held_a : Fld Z h0 a "com/example/diligent_locks/diligentlocks/LockCounts" "held" "J" (.long hl')) (F_waiting_a : Fld Z h0 a "com/example/diligent_locks/diligentlocks/LockCounts" "waiting" "I" (.int wt')) (F_recordWaits_a : Fld Z h0 a "com/example/diligent_locks/diligentlocks/LockCounts" "recordWaits" "J" (.long rw')) (F_endedRecordWaits_a : Fld Z h0 a "com/example/diligent_locks/diligentlocks/LockCounts" "endedRecordWaits" "J" (.long er')) (F_recordWaitNanos_a : Fld Z h0 a "com/example/diligent_locks/diligentlocks/LockCounts" "recordWaitNanos" "J" (.long rn')) (F_longestRecordWaitNanos_a : Fld Z h0 a "com/example/diligent_locks/diligentlocks/LockCounts" "longestRecordWaitNanos" "J" (.long lr')) (Od : Old Z n0 h0) (S_NANOSECONDS : Sta Z Z.heap "java/util/concurrent/TimeUnit" "NANOSECONDS" "Ljava/util/concurrent/TimeUnit;" (.ref ns)) (E_ns : Exa Z Z.heap ns "java/util/concurrent/TimeUnit") (F_scale_ns : Fld Z Z.heap ns "java/util/concurrent/TimeUnit" "scale" "J" (.long (1 : Int64))) (F_milliRatio_ns : Fld Z Z.heap ns "java/util/concurrent/TimeUnit" "milliRatio" "I" (.int (1000000 : Int32))) :
    MetFree l (⟨"com/example/diligent_locks/diligentlocks/LockCounts", "recordLockWaits", "()Lcom/example/diligent_locks/diligentlocks/RecordLockWaits;"⟩ : MethodName) (head1 (Jvm.Cond.code (⟨"com/example/diligent_locks/diligentlocks/LockCounts", "recordLockWaits", "()Lcom/example/diligent_locks/diligentlocks/RecordLockWaits;"⟩ : MethodName) prog_14_method_5_code 5 (some (.object "com/example/diligent_locks/diligentlocks/RecordLockWaits")) :: ws) ({ frames := 3, cells := 1, slots := 5, locals := 47 } : Room)) (fun ar U => ar = #[(.ref a)] ∧ Z.Warmed39 U.vm ∧ U.heap = h0) (fun _ _ _ _ _ => True) (fun _ U o U' => ∃ v L, o = .returned v ∧ Q4 Z a hl' wt' rw' er' rn' lr' ns h0 n0 v U'.heap L ∧ FrameEnd U o U' L ({ frames := 3, cells := 1, slots := 5, locals := 47 } : Room).cells ({ frames := 3, cells := 1, slots := 5, locals := 47 } : Room).slots) := by
  refine MetFree.of_bodySF (plainFor_of_name pn_4) hisR ?_
  intro p e s m args below meth c s₁ Bd hml0 hP hK
  obtain ⟨rfl, hZ, hh⟩ := hP
  have hx := Bd.exec
  have hby := Bd.bytes
  have hml : c.maxLocals = 5 := hml0
  have hown : s.vm.findClass "com/example/diligent_locks/diligentlocks/LockCounts" = some m.cls := findClass_of_methodNamed Bd.named
  have hnm := (name_of_methodNamed Bd.named Bd.method).1
  have X0 : Stand p l e ({ frames := 3, cells := 1, slots := 5, locals := 47 } : Room) s m #[(.ref a)] below meth c s₁ [] 0 0 := Stand.of_body Bd
  have e0 : s₁.heap = h0 := by rw [← hh, Bd.state]; rfl
  have N0 := Fr.nil n0
  have K0 : Keep h0 h0 [] := Keep.refl h0 _
  have pre0 : ∀ t, Steps p.tables e below (s₁.setTop (mkF m 0 #[.val (.ref a), .unset, .unset, .unset, .unset] [])) t → Steps p.tables e below (s₁.setTop (entryFrame m #[(.ref a)] 5)) t := fun t k => castTop (ef_4 m a) k
  obtain ⟨T1, X1, e1, st1⟩ := getS2 X0 hx hZ hown (host := "") (Or.inl (hw _ (List.mem_of_getElem? (i := 27) rfl))) Via.refl e0 (S_NANOSECONDS.ext Od.2) (g := (mkF m 0 #[.val (.ref a), .unset, .unset, .unset, .unset] [])) rfl (hb hby d4_0)
  obtain ⟨T2, X2, e2, st2⟩ := getF X1 hx hZ hown (host := "") (Or.inl (hw _ (List.mem_of_getElem? (i := 29) rfl))) Via.refl e1 F_recordWaitNanos_a (g := (mkF m 4 #[.val (.ref a), .unset, .unset, .unset, .unset] [(.ref a), (.ref ns)])) rfl rfl (hb hby d4_4)
  obtain ⟨cq3, kq3, q3a, q3b, q3c⟩ := isOf hZ e2 (E_ns.ext Od.2)
  obtain ⟨_, _, ⟨T3, L3, k3, n3⟩, -, X3, ⟨Lc3, hQ3, l3, y3, z3⟩, st3⟩ := X2.virtualBack hx (y := (⟨"java/util/concurrent/TimeUnit", "toMillis", "(J)J"⟩ : MethodName)) (z := (⟨"java/util/concurrent/TimeUnit", "toMillis", "(J)J"⟩ : MethodName)) hown (mvT hZ (hw _ (List.mem_of_getElem? (i := 31) rfl))) (mvT hZ (hw _ (List.mem_of_getElem? (i := 32) rfl))) (notFace_of_selects (args := #[]) (mvT hZ (hw _ (List.mem_of_getElem? (i := 34) rfl)))) (mvT hZ (hw _ (List.mem_of_getElem? (i := 34) rfl))) (mvT hZ (hw _ (List.mem_of_getElem? (i := 33) rfl))) (by decide) (backOf (W := 0) (rm5 l Z a0 hw [] ns rn' h0 n0 Z0 (F_scale_ns.ext Od.2) (F_milliRatio_ns.ext Od.2)) hZ (hw _ (List.mem_of_getElem? (i := 35) rfl)) (hw _ (List.mem_of_getElem? (i := 28) rfl)) (by decide) (by decide)) q3a q3c (g := (mkF m 7 #[.val (.ref a), .unset, .unset, .unset, .unset] [(.long rn'), (.ref ns)])) rfl (by rw [hml]; rfl) (Steps.refl _) (argsL := [(.long rn')]) (rest := []) (lenOf pd4_0 rfl) rfl (by show 2 * 0 + _ ≤ _; exact Nat.le_of_eq rfl) (hb hby d4_7) (fun _ _ => ⟨rfl, e2, (by decide : 0 + 0 ≤ _), (by decide : 0 + 0 ≤ _)⟩)
  dsimp only [Pt.U, Pt.locs, Pt.cells, Pt.slots] at X3 l3 y3 z3 st3 hQ3
  subst l3 y3 z3
  obtain ⟨rfl, N3q, hh3⟩ := hQ3
  have N3 := Fr.app N0 N3q
  have pre4 : ∀ t, Steps p.tables e below (T3.setTop (mkF m 11 #[.val (.ref a), .val (.long (rn' / (1000000 : Int64))), .second, .unset, .unset] [])) t → Steps p.tables e below (s₁.setTop (entryFrame m #[(.ref a)] 5)) t := by
    intro t kt
    refine pre0 t ?_
    show Steps p.tables e below (s₁.setTop (mkF m 0 #[.val (.ref a), .unset, .unset, .unset, .unset] [])) _
    refine st1 _ ?_
    show Steps p.tables e below (T1.setTop (mkF m 3 #[.val (.ref a), .unset, .unset, .unset, .unset] [(.ref ns)])) _
    refine XS.aloadN X1.here hx rfl (hb hby d4_3) rfl rfl ?_
    show Steps p.tables e below (T1.setTop (mkF m 4 #[.val (.ref a), .unset, .unset, .unset, .unset] [(.ref a), (.ref ns)])) _
    refine st2 _ ?_
    show Steps p.tables e below (T2.setTop (mkF m 7 #[.val (.ref a), .unset, .unset, .unset, .unset] [(.long rn'), (.ref ns)])) _
    refine st3.trans ?_
    show Steps p.tables e below (T3.setTop (mkF m 10 #[.val (.ref a), .unset, .unset, .unset, .unset] [(.long (rn' / (1000000 : Int64)))])) _
    refine XS.lstoreN X3.here hx rfl (hb hby d4_10) rfl (l' := #[.val (.ref a), .val (.long (rn' / (1000000 : Int64))), .second, .unset, .unset]) rfl ?_
    exact kt
  have J5 : ∃ (T' : State) (h' : Heap) (L' : List Loc)  (av' : Int64), Stand p l e ({ frames := 3, cells := 1, slots := 5, locals := 47 } : Room) s m #[(.ref a)] below meth c T' L' 0 0 ∧ T'.heap = h' ∧ Fr n0 L' ∧ n0 ≤ h'.size ∧ Keep h0 h' [] ∧ Exa Z h' a "com/example/diligent_locks/diligentlocks/LockCounts" ∧ Fld Z h' a "com/example/diligent_locks/diligentlocks/LockCounts" "held" "J" (.long hl') ∧ Fld Z h' a "com/example/diligent_locks/diligentlocks/LockCounts" "waiting" "I" (.int wt') ∧ Fld Z h' a "com/example/diligent_locks/diligentlocks/LockCounts" "recordWaits" "J" (.long rw') ∧ Fld Z h' a "com/example/diligent_locks/diligentlocks/LockCounts" "endedRecordWaits" "J" (.long er') ∧ Fld Z h' a "com/example/diligent_locks/diligentlocks/LockCounts" "recordWaitNanos" "J" (.long rn') ∧ Fld Z h' a "com/example/diligent_locks/diligentlocks/LockCounts" "longestRecordWaitNanos" "J" (.long lr') ∧ Old Z n0 h' ∧ av' = (if er' = (0 : Int64) then (0 : Int64) else ((rn' / (1000000 : Int64)) / er')) ∧ ∀ t, Steps p.tables e below (T'.setTop (mkF m 30 #[.val (.ref a), .val (.long (rn' / (1000000 : Int64))), .second, .unset, .unset] [(.long av')])) t → Steps p.tables e below (s₁.setTop (entryFrame m #[(.ref a)] 5)) t := by
    obtain ⟨T6, X6, e6, st6⟩ := getF X3 hx hZ hown (host := "") (Or.inl (hw _ (List.mem_of_getElem? (i := 41) rfl))) Via.refl hh3 F_endedRecordWaits_a (g := (mkF m 12 #[.val (.ref a), .val (.long (rn' / (1000000 : Int64))), .second, .unset, .unset] [(.ref a)])) rfl rfl (hb hby d4_12)
    have pre7 : ∀ t, Steps p.tables e below (T6.setTop (mkF m 17 #[.val (.ref a), .val (.long (rn' / (1000000 : Int64))), .second, .unset, .unset] [(.int (lcmpW er' (0 : Int64)))])) t → Steps p.tables e below (s₁.setTop (entryFrame m #[(.ref a)] 5)) t := by
      intro t kt
      refine pre4 t ?_
      show Steps p.tables e below (T3.setTop (mkF m 11 #[.val (.ref a), .val (.long (rn' / (1000000 : Int64))), .second, .unset, .unset] [])) _
      refine XS.aloadN X3.here hx rfl (hb hby d4_11) rfl rfl ?_
      show Steps p.tables e below (T3.setTop (mkF m 12 #[.val (.ref a), .val (.long (rn' / (1000000 : Int64))), .second, .unset, .unset] [(.ref a)])) _
      refine st6 _ ?_
      show Steps p.tables e below (T6.setTop (mkF m 15 #[.val (.ref a), .val (.long (rn' / (1000000 : Int64))), .second, .unset, .unset] [(.long er')])) _
      refine XS.lconst X6.here hx rfl (hb hby d4_15) ?_
      show Steps p.tables e below (T6.setTop (mkF m 16 #[.val (.ref a), .val (.long (rn' / (1000000 : Int64))), .second, .unset, .unset] [(.long (0 : Int64)), (.long er')])) _
      refine XS.lcmp X6.here hx rfl (hb hby d4_16) rfl ?_
      exact kt
    by_cases hc17_8 : er' = (0 : Int64)
    · have pre9 : ∀ t, Steps p.tables e below (T6.setTop (mkF m 30 #[.val (.ref a), .val (.long (rn' / (1000000 : Int64))), .second, .unset, .unset] [(.long (0 : Int64))])) t → Steps p.tables e below (s₁.setTop (entryFrame m #[(.ref a)] 5)) t := by
        intro t kt
        refine pre7 t ?_
        show Steps p.tables e below (T6.setTop (mkF m 17 #[.val (.ref a), .val (.long (rn' / (1000000 : Int64))), .second, .unset, .unset] [(.int (lcmpW er' (0 : Int64)))])) _
        refine XS.ifNo X6.here hx rfl (hb hby d4_17) rfl ((if0 _ _).trans (teq ((lw_eq er' (0 : Int64)).mpr hc17_8)).2) ?_
        show Steps p.tables e below (T6.setTop (mkF m 20 #[.val (.ref a), .val (.long (rn' / (1000000 : Int64))), .second, .unset, .unset] [])) _
        refine XS.lconst X6.here hx rfl (hb hby d4_20) ?_
        show Steps p.tables e below (T6.setTop (mkF m 21 #[.val (.ref a), .val (.long (rn' / (1000000 : Int64))), .second, .unset, .unset] [(.long (0 : Int64))])) _
        refine XS.goto X6.here hx rfl (pc0 := 21) (pc' := 30) rfl (hb hby d4_21) (by decide) (by decide) ?_
        exact kt
      exact ⟨T6, _, _, (0 : Int64), X6, e6, N3, Z0, K0, E_a, F_held_a, F_waiting_a, F_recordWaits_a, F_endedRecordWaits_a, F_recordWaitNanos_a, F_longestRecordWaitNanos_a, Od, (if_pos hc17_8).symm, pre9⟩
    · obtain ⟨T10, X10, e10, st10⟩ := getF X6 hx hZ hown (host := "") (Or.inl (hw _ (List.mem_of_getElem? (i := 41) rfl))) Via.refl e6 F_endedRecordWaits_a (g := (mkF m 26 #[.val (.ref a), .val (.long (rn' / (1000000 : Int64))), .second, .unset, .unset] [(.ref a), (.long (rn' / (1000000 : Int64)))])) rfl rfl (hb hby d4_26)
      have pre11 : ∀ t, Steps p.tables e below (T10.setTop (mkF m 30 #[.val (.ref a), .val (.long (rn' / (1000000 : Int64))), .second, .unset, .unset] [(.long ((rn' / (1000000 : Int64)) / er'))])) t → Steps p.tables e below (s₁.setTop (entryFrame m #[(.ref a)] 5)) t := by
        intro t kt
        refine pre7 t ?_
        show Steps p.tables e below (T6.setTop (mkF m 17 #[.val (.ref a), .val (.long (rn' / (1000000 : Int64))), .second, .unset, .unset] [(.int (lcmpW er' (0 : Int64)))])) _
        refine XS.ifYes X6.here hx rfl (pc0 := 17) (pc' := 24) rfl (hb hby d4_17) rfl ((if0 _ _).trans (feq (fun q => hc17_8 ((lw_eq er' (0 : Int64)).mp q))).2) (by decide) (by decide) ?_
        show Steps p.tables e below (T6.setTop (mkF m 24 #[.val (.ref a), .val (.long (rn' / (1000000 : Int64))), .second, .unset, .unset] [])) _
        refine XS.lloadN X6.here hx rfl (hb hby d4_24) rfl ?_
        show Steps p.tables e below (T6.setTop (mkF m 25 #[.val (.ref a), .val (.long (rn' / (1000000 : Int64))), .second, .unset, .unset] [(.long (rn' / (1000000 : Int64)))])) _
        refine XS.aloadN X6.here hx rfl (hb hby d4_25) rfl rfl ?_
        show Steps p.tables e below (T6.setTop (mkF m 26 #[.val (.ref a), .val (.long (rn' / (1000000 : Int64))), .second, .unset, .unset] [(.ref a), (.long (rn' / (1000000 : Int64)))])) _
        refine st10 _ ?_
        show Steps p.tables e below (T10.setTop (mkF m 29 #[.val (.ref a), .val (.long (rn' / (1000000 : Int64))), .second, .unset, .unset] [(.long er'), (.long (rn' / (1000000 : Int64)))])) _
        refine XS.ldiv X10.here hx rfl (hb hby d4_29) rfl hc17_8 ?_
        exact kt
      exact ⟨T10, _, _, ((rn' / (1000000 : Int64)) / er'), X10, e10, N3, Z0, K0, E_a, F_held_a, F_waiting_a, F_recordWaits_a, F_endedRecordWaits_a, F_recordWaitNanos_a, F_longestRecordWaitNanos_a, Od, (if_neg hc17_8).symm, pre11⟩
  obtain ⟨T5, h5, L5, av', X5, e5, N5, Zs5, K5, E_a, F_held_a, F_waiting_a, F_recordWaits_a, F_endedRecordWaits_a, F_recordWaitNanos_a, F_longestRecordWaitNanos_a, Od, hav, pre5⟩ := J5
  subst hav
  obtain ⟨T12, h12, X12, e12, E12, A12, D12, -, st12⟩ := newO X5 hx hZ hown (hw _ (List.mem_of_getElem? (i := 43) rfl)) (hw _ (List.mem_of_getElem? (i := 44) rfl)) (hw _ (List.mem_of_getElem? (i := 45) rfl)) e5 (g := (mkF m 31 #[.val (.ref a), .val (.long (rn' / (1000000 : Int64))), .second, .val (.long (if er' = (0 : Int64) then (0 : Int64) else ((rn' / (1000000 : Int64)) / er'))), .second] [])) rfl (hb hby d4_31) (by decide) (by decide)
  obtain ⟨b12, g12⟩ : ∃ z, z = h5.size := ⟨_, rfl⟩
  rw [← g12] at A12 D12 st12
  have g_b12 : n0 ≤ b12 := Nat.le_trans Zs5 (Nat.le_of_eq g12.symm)
  have sz_b12 : h0.size ≤ b12 := Nat.le_trans K5.1 (Nat.le_of_eq g12.symm)
  have ne_a_b12 : a ≠ b12 := Nat.ne_of_lt (Nat.lt_of_lt_of_le E_a.lt (Nat.le_of_eq g12.symm))
  have E_a := E_a.ext E12
  have F_held_a := F_held_a.ext E12
  have F_waiting_a := F_waiting_a.ext E12
  have F_recordWaits_a := F_recordWaits_a.ext E12
  have F_endedRecordWaits_a := F_endedRecordWaits_a.ext E12
  have F_recordWaitNanos_a := F_recordWaitNanos_a.ext E12
  have F_longestRecordWaitNanos_a := F_longestRecordWaitNanos_a.ext E12
  have Od := Od.ext E12
  have Zs12 : n0 ≤ h12.size := Nat.le_trans Zs5 E12.1
  have K12 : Keep h0 h12 [] := K5.ext E12
  have E_b12 := A12
  have F_currentWaits_b12 : Fld Z h12 b12 "com/example/diligent_locks/diligentlocks/RecordLockWaits" "currentWaits" "J" (.long (0 : Int64)) := D12 (Or.inr (hw _ (List.mem_of_getElem? (i := 58) rfl))) (ty := .long) (by decide)
  have F_waits_b12 : Fld Z h12 b12 "com/example/diligent_locks/diligentlocks/RecordLockWaits" "waits" "J" (.long (0 : Int64)) := D12 (Or.inr (hw _ (List.mem_of_getElem? (i := 60) rfl))) (ty := .long) (by decide)
  have F_totalWaitMillis_b12 : Fld Z h12 b12 "com/example/diligent_locks/diligentlocks/RecordLockWaits" "totalWaitMillis" "J" (.long (0 : Int64)) := D12 (Or.inr (hw _ (List.mem_of_getElem? (i := 62) rfl))) (ty := .long) (by decide)
  have F_averageWaitMillis_b12 : Fld Z h12 b12 "com/example/diligent_locks/diligentlocks/RecordLockWaits" "averageWaitMillis" "J" (.long (0 : Int64)) := D12 (Or.inr (hw _ (List.mem_of_getElem? (i := 64) rfl))) (ty := .long) (by decide)
  have F_longestWaitMillis_b12 : Fld Z h12 b12 "com/example/diligent_locks/diligentlocks/RecordLockWaits" "longestWaitMillis" "J" (.long (0 : Int64)) := D12 (Or.inr (hw _ (List.mem_of_getElem? (i := 66) rfl))) (ty := .long) (by decide)
  obtain ⟨T13, X13, e13, st13⟩ := getF X12 hx hZ hown (host := "") (Or.inl (hw _ (List.mem_of_getElem? (i := 20) rfl))) Via.refl e12 F_recordWaits_a (g := (mkF m 36 #[.val (.ref a), .val (.long (rn' / (1000000 : Int64))), .second, .val (.long (if er' = (0 : Int64) then (0 : Int64) else ((rn' / (1000000 : Int64)) / er'))), .second] [(.ref a), (.ref b12), (.ref b12)])) rfl rfl (hb hby d4_36)
  obtain ⟨T14, X14, e14, st14⟩ := getF X13 hx hZ hown (host := "") (Or.inl (hw _ (List.mem_of_getElem? (i := 41) rfl))) Via.refl e13 F_endedRecordWaits_a (g := (mkF m 40 #[.val (.ref a), .val (.long (rn' / (1000000 : Int64))), .second, .val (.long (if er' = (0 : Int64) then (0 : Int64) else ((rn' / (1000000 : Int64)) / er'))), .second] [(.ref a), (.long rw'), (.ref b12), (.ref b12)])) rfl rfl (hb hby d4_40)
  obtain ⟨T15, X15, e15, st15⟩ := getF X14 hx hZ hown (host := "") (Or.inl (hw _ (List.mem_of_getElem? (i := 20) rfl))) Via.refl e14 F_recordWaits_a (g := (mkF m 45 #[.val (.ref a), .val (.long (rn' / (1000000 : Int64))), .second, .val (.long (if er' = (0 : Int64) then (0 : Int64) else ((rn' / (1000000 : Int64)) / er'))), .second] [(.ref a), (.long (rw' - er')), (.ref b12), (.ref b12)])) rfl rfl (hb hby d4_45)
  obtain ⟨T16, X16, e16, st16⟩ := getS2 X15 hx hZ hown (host := "") (Or.inl (hw _ (List.mem_of_getElem? (i := 27) rfl))) Via.refl e15 (S_NANOSECONDS.ext Od.2) (g := (mkF m 50 #[.val (.ref a), .val (.long (rn' / (1000000 : Int64))), .second, .val (.long (if er' = (0 : Int64) then (0 : Int64) else ((rn' / (1000000 : Int64)) / er'))), .second] [(.long (if er' = (0 : Int64) then (0 : Int64) else ((rn' / (1000000 : Int64)) / er'))), (.long (rn' / (1000000 : Int64))), (.long rw'), (.long (rw' - er')), (.ref b12), (.ref b12)])) rfl (hb hby d4_50)
  obtain ⟨T17, X17, e17, st17⟩ := getF X16 hx hZ hown (host := "") (Or.inl (hw _ (List.mem_of_getElem? (i := 46) rfl))) Via.refl e16 F_longestRecordWaitNanos_a (g := (mkF m 54 #[.val (.ref a), .val (.long (rn' / (1000000 : Int64))), .second, .val (.long (if er' = (0 : Int64) then (0 : Int64) else ((rn' / (1000000 : Int64)) / er'))), .second] [(.ref a), (.ref ns), (.long (if er' = (0 : Int64) then (0 : Int64) else ((rn' / (1000000 : Int64)) / er'))), (.long (rn' / (1000000 : Int64))), (.long rw'), (.long (rw' - er')), (.ref b12), (.ref b12)])) rfl rfl (hb hby d4_54)
  obtain ⟨cq18, kq18, q18a, q18b, q18c⟩ := isOf hZ e17 (E_ns.ext Od.2)
  obtain ⟨_, _, ⟨T18, L18, k18, n18⟩, -, X18, ⟨Lc18, hQ18, l18, y18, z18⟩, st18⟩ := X17.virtualBack hx (y := (⟨"java/util/concurrent/TimeUnit", "toMillis", "(J)J"⟩ : MethodName)) (z := (⟨"java/util/concurrent/TimeUnit", "toMillis", "(J)J"⟩ : MethodName)) hown (mvT hZ (hw _ (List.mem_of_getElem? (i := 31) rfl))) (mvT hZ (hw _ (List.mem_of_getElem? (i := 32) rfl))) (notFace_of_selects (args := #[]) (mvT hZ (hw _ (List.mem_of_getElem? (i := 34) rfl)))) (mvT hZ (hw _ (List.mem_of_getElem? (i := 34) rfl))) (mvT hZ (hw _ (List.mem_of_getElem? (i := 33) rfl))) (by decide) (backOf (W := 10) (rm5 l Z a0 hw [] ns lr' h12 n0 Zs12 (F_scale_ns.ext Od.2) (F_milliRatio_ns.ext Od.2)) hZ (hw _ (List.mem_of_getElem? (i := 35) rfl)) (hw _ (List.mem_of_getElem? (i := 28) rfl)) (by decide) (by decide)) q18a q18c (g := (mkF m 57 #[.val (.ref a), .val (.long (rn' / (1000000 : Int64))), .second, .val (.long (if er' = (0 : Int64) then (0 : Int64) else ((rn' / (1000000 : Int64)) / er'))), .second] [(.long lr'), (.ref ns), (.long (if er' = (0 : Int64) then (0 : Int64) else ((rn' / (1000000 : Int64)) / er'))), (.long (rn' / (1000000 : Int64))), (.long rw'), (.long (rw' - er')), (.ref b12), (.ref b12)])) rfl (by rw [hml]; rfl) (Steps.refl _) (argsL := [(.long lr')]) (rest := [(.long (if er' = (0 : Int64) then (0 : Int64) else ((rn' / (1000000 : Int64)) / er'))), (.long (rn' / (1000000 : Int64))), (.long rw'), (.long (rw' - er')), (.ref b12), (.ref b12)]) (lenOf pd4_0 rfl) rfl (by show 2 * 0 + _ ≤ _; exact Nat.le_of_eq rfl) (hb hby d4_57) (fun _ _ => ⟨rfl, e17, (by decide : 1 + 0 ≤ _), (by decide : 5 + 0 ≤ _)⟩)
  dsimp only [Pt.U, Pt.locs, Pt.cells, Pt.slots] at X18 l18 y18 z18 st18 hQ18
  subst l18 y18 z18
  obtain ⟨rfl, N18q, hh18⟩ := hQ18
  have N18 := Fr.app N5 N18q
  obtain ⟨_, _, ⟨T19, L19, k19, n19⟩, -, X19, ⟨Lc19, hQ19, l19, y19, z19⟩, st19⟩ := X18.specialBack hx (y := (⟨"com/example/diligent_locks/diligentlocks/RecordLockWaits", "<init>", "(JJJJJ)V"⟩ : MethodName)) rfl hown (mvT hZ (hw _ (List.mem_of_getElem? (i := 48) rfl))) (mvT hZ (hw _ (List.mem_of_getElem? (i := 49) rfl))) (mvT hZ (hw _ (List.mem_of_getElem? (i := 50) rfl))) (by decide) (backOf (W := 1) (rm6 l Z a0 hw [] b12 (rw' - er') rw' (rn' / (1000000 : Int64)) (if er' = (0 : Int64) then (0 : Int64) else ((rn' / (1000000 : Int64)) / er')) (lr' / (1000000 : Int64)) h12 n0 Zs12 E_b12 F_currentWaits_b12 F_waits_b12 F_totalWaitMillis_b12 F_averageWaitMillis_b12 F_longestWaitMillis_b12 g_b12) hZ (hw _ (List.mem_of_getElem? (i := 50) rfl)) (hw _ (List.mem_of_getElem? (i := 45) rfl)) (by decide) (by decide)) (g := (mkF m 60 #[.val (.ref a), .val (.long (rn' / (1000000 : Int64))), .second, .val (.long (if er' = (0 : Int64) then (0 : Int64) else ((rn' / (1000000 : Int64)) / er'))), .second] [(.long (lr' / (1000000 : Int64))), (.long (if er' = (0 : Int64) then (0 : Int64) else ((rn' / (1000000 : Int64)) / er'))), (.long (rn' / (1000000 : Int64))), (.long rw'), (.long (rw' - er')), (.ref b12), (.ref b12)])) rfl (by rw [hml]; rfl) (Steps.refl _) (a := b12) (argsL := [(.long (rw' - er')), (.long rw'), (.long (rn' / (1000000 : Int64))), (.long (if er' = (0 : Int64) then (0 : Int64) else ((rn' / (1000000 : Int64)) / er'))), (.long (lr' / (1000000 : Int64)))]) (rest := [(.ref b12)]) (lenOf pd4_1 rfl) rfl (by show 2 * 0 + _ ≤ _; exact Nat.le_of_eq rfl) (hb hby d4_60) (fun _ _ => ⟨rfl, hh18, (by decide : 1 + 0 ≤ _), (by decide : 5 + 0 ≤ _)⟩)
  dsimp only [Pt.U, Pt.locs, Pt.cells, Pt.slots] at X19 l19 y19 z19 st19 hQ19
  subst l19 y19 z19
  obtain ⟨rfl, N19q, Kq19, F_currentWaits_b12, F_waits_b12, F_totalWaitMillis_b12, F_averageWaitMillis_b12, F_longestWaitMillis_b12⟩ := hQ19
  have N19 := Fr.app N18 N19q
  have E_a := E_a.keep Kq19
  have F_held_a := F_held_a.keep Kq19 (ninS ne_a_b12 nin0)
  have F_waiting_a := F_waiting_a.keep Kq19 (ninS ne_a_b12 nin0)
  have F_recordWaits_a := F_recordWaits_a.keep Kq19 (ninS ne_a_b12 nin0)
  have F_endedRecordWaits_a := F_endedRecordWaits_a.keep Kq19 (ninS ne_a_b12 nin0)
  have F_recordWaitNanos_a := F_recordWaitNanos_a.keep Kq19 (ninS ne_a_b12 nin0)
  have F_longestRecordWaitNanos_a := F_longestRecordWaitNanos_a.keep Kq19 (ninS ne_a_b12 nin0)
  have Od := Od.keep Kq19 (allS g_b12 all0)
  have E_b12 := E_b12.keep Kq19
  have Zs19 : n0 ≤ T19.heap.size := Nat.le_trans Zs12 Kq19.1
  have K19 : Keep h0 T19.heap [] := K12.trans Kq19 (allS (Or.inr sz_b12) all0)
  obtain ⟨fs, hr, hrun, hended, hW, hsame⟩ := X19.leave (v := some (.ref b12)) (fun h => by rw [Bd.returns] at h; cases h)
  refine ⟨_, _, pre5 _ ?_, hrun, hended, _, _, rfl, ?_, ⟨_, rfl⟩, hW, hsame.mono (by decide) (by decide)⟩
  · show Steps p.tables e below (T5.setTop (mkF m 30 #[.val (.ref a), .val (.long (rn' / (1000000 : Int64))), .second, .unset, .unset] [(.long (if er' = (0 : Int64) then (0 : Int64) else ((rn' / (1000000 : Int64)) / er')))])) _
    refine XS.lstoreN X5.here hx rfl (hb hby d4_30) rfl (l' := #[.val (.ref a), .val (.long (rn' / (1000000 : Int64))), .second, .val (.long (if er' = (0 : Int64) then (0 : Int64) else ((rn' / (1000000 : Int64)) / er'))), .second]) rfl ?_
    show Steps p.tables e below (T5.setTop (mkF m 31 #[.val (.ref a), .val (.long (rn' / (1000000 : Int64))), .second, .val (.long (if er' = (0 : Int64) then (0 : Int64) else ((rn' / (1000000 : Int64)) / er'))), .second] [])) _
    refine st12 _ ?_
    show Steps p.tables e below (T12.setTop (mkF m 34 #[.val (.ref a), .val (.long (rn' / (1000000 : Int64))), .second, .val (.long (if er' = (0 : Int64) then (0 : Int64) else ((rn' / (1000000 : Int64)) / er'))), .second] [(.ref b12)])) _
    refine XS.dup X12.here hx rfl (hb hby d4_34) rfl rfl ?_
    show Steps p.tables e below (T12.setTop (mkF m 35 #[.val (.ref a), .val (.long (rn' / (1000000 : Int64))), .second, .val (.long (if er' = (0 : Int64) then (0 : Int64) else ((rn' / (1000000 : Int64)) / er'))), .second] [(.ref b12), (.ref b12)])) _
    refine XS.aloadN X12.here hx rfl (hb hby d4_35) rfl rfl ?_
    show Steps p.tables e below (T12.setTop (mkF m 36 #[.val (.ref a), .val (.long (rn' / (1000000 : Int64))), .second, .val (.long (if er' = (0 : Int64) then (0 : Int64) else ((rn' / (1000000 : Int64)) / er'))), .second] [(.ref a), (.ref b12), (.ref b12)])) _
    refine st13 _ ?_
    show Steps p.tables e below (T13.setTop (mkF m 39 #[.val (.ref a), .val (.long (rn' / (1000000 : Int64))), .second, .val (.long (if er' = (0 : Int64) then (0 : Int64) else ((rn' / (1000000 : Int64)) / er'))), .second] [(.long rw'), (.ref b12), (.ref b12)])) _
    refine XS.aloadN X13.here hx rfl (hb hby d4_39) rfl rfl ?_
    show Steps p.tables e below (T13.setTop (mkF m 40 #[.val (.ref a), .val (.long (rn' / (1000000 : Int64))), .second, .val (.long (if er' = (0 : Int64) then (0 : Int64) else ((rn' / (1000000 : Int64)) / er'))), .second] [(.ref a), (.long rw'), (.ref b12), (.ref b12)])) _
    refine st14 _ ?_
    show Steps p.tables e below (T14.setTop (mkF m 43 #[.val (.ref a), .val (.long (rn' / (1000000 : Int64))), .second, .val (.long (if er' = (0 : Int64) then (0 : Int64) else ((rn' / (1000000 : Int64)) / er'))), .second] [(.long er'), (.long rw'), (.ref b12), (.ref b12)])) _
    refine XS.lsub X14.here hx rfl (hb hby d4_43) rfl ?_
    show Steps p.tables e below (T14.setTop (mkF m 44 #[.val (.ref a), .val (.long (rn' / (1000000 : Int64))), .second, .val (.long (if er' = (0 : Int64) then (0 : Int64) else ((rn' / (1000000 : Int64)) / er'))), .second] [(.long (rw' - er')), (.ref b12), (.ref b12)])) _
    refine XS.aloadN X14.here hx rfl (hb hby d4_44) rfl rfl ?_
    show Steps p.tables e below (T14.setTop (mkF m 45 #[.val (.ref a), .val (.long (rn' / (1000000 : Int64))), .second, .val (.long (if er' = (0 : Int64) then (0 : Int64) else ((rn' / (1000000 : Int64)) / er'))), .second] [(.ref a), (.long (rw' - er')), (.ref b12), (.ref b12)])) _
    refine st15 _ ?_
    show Steps p.tables e below (T15.setTop (mkF m 48 #[.val (.ref a), .val (.long (rn' / (1000000 : Int64))), .second, .val (.long (if er' = (0 : Int64) then (0 : Int64) else ((rn' / (1000000 : Int64)) / er'))), .second] [(.long rw'), (.long (rw' - er')), (.ref b12), (.ref b12)])) _
    refine XS.lloadN X15.here hx rfl (hb hby d4_48) rfl ?_
    show Steps p.tables e below (T15.setTop (mkF m 49 #[.val (.ref a), .val (.long (rn' / (1000000 : Int64))), .second, .val (.long (if er' = (0 : Int64) then (0 : Int64) else ((rn' / (1000000 : Int64)) / er'))), .second] [(.long (rn' / (1000000 : Int64))), (.long rw'), (.long (rw' - er')), (.ref b12), (.ref b12)])) _
    refine XS.lloadN X15.here hx rfl (hb hby d4_49) rfl ?_
    show Steps p.tables e below (T15.setTop (mkF m 50 #[.val (.ref a), .val (.long (rn' / (1000000 : Int64))), .second, .val (.long (if er' = (0 : Int64) then (0 : Int64) else ((rn' / (1000000 : Int64)) / er'))), .second] [(.long (if er' = (0 : Int64) then (0 : Int64) else ((rn' / (1000000 : Int64)) / er'))), (.long (rn' / (1000000 : Int64))), (.long rw'), (.long (rw' - er')), (.ref b12), (.ref b12)])) _
    refine st16 _ ?_
    show Steps p.tables e below (T16.setTop (mkF m 53 #[.val (.ref a), .val (.long (rn' / (1000000 : Int64))), .second, .val (.long (if er' = (0 : Int64) then (0 : Int64) else ((rn' / (1000000 : Int64)) / er'))), .second] [(.ref ns), (.long (if er' = (0 : Int64) then (0 : Int64) else ((rn' / (1000000 : Int64)) / er'))), (.long (rn' / (1000000 : Int64))), (.long rw'), (.long (rw' - er')), (.ref b12), (.ref b12)])) _
    refine XS.aloadN X16.here hx rfl (hb hby d4_53) rfl rfl ?_
    show Steps p.tables e below (T16.setTop (mkF m 54 #[.val (.ref a), .val (.long (rn' / (1000000 : Int64))), .second, .val (.long (if er' = (0 : Int64) then (0 : Int64) else ((rn' / (1000000 : Int64)) / er'))), .second] [(.ref a), (.ref ns), (.long (if er' = (0 : Int64) then (0 : Int64) else ((rn' / (1000000 : Int64)) / er'))), (.long (rn' / (1000000 : Int64))), (.long rw'), (.long (rw' - er')), (.ref b12), (.ref b12)])) _
    refine st17 _ ?_
    show Steps p.tables e below (T17.setTop (mkF m 57 #[.val (.ref a), .val (.long (rn' / (1000000 : Int64))), .second, .val (.long (if er' = (0 : Int64) then (0 : Int64) else ((rn' / (1000000 : Int64)) / er'))), .second] [(.long lr'), (.ref ns), (.long (if er' = (0 : Int64) then (0 : Int64) else ((rn' / (1000000 : Int64)) / er'))), (.long (rn' / (1000000 : Int64))), (.long rw'), (.long (rw' - er')), (.ref b12), (.ref b12)])) _
    refine st18.trans ?_
    show Steps p.tables e below (T18.setTop (mkF m 60 #[.val (.ref a), .val (.long (rn' / (1000000 : Int64))), .second, .val (.long (if er' = (0 : Int64) then (0 : Int64) else ((rn' / (1000000 : Int64)) / er'))), .second] [(.long (lr' / (1000000 : Int64))), (.long (if er' = (0 : Int64) then (0 : Int64) else ((rn' / (1000000 : Int64)) / er'))), (.long (rn' / (1000000 : Int64))), (.long rw'), (.long (rw' - er')), (.ref b12), (.ref b12)])) _
    refine st19.trans ?_
    show Steps p.tables e below (T19.setTop (mkF m 63 #[.val (.ref a), .val (.long (rn' / (1000000 : Int64))), .second, .val (.long (if er' = (0 : Int64) then (0 : Int64) else ((rn' / (1000000 : Int64)) / er'))), .second] [(.ref b12)])) _
    exact retOut X19 hx Bd.returns rfl (Or.inr (Or.inr (Or.inr (Or.inr ⟨rfl, rfl, rfl⟩)))) (hb hby d4_63) hr
  · show Q4 Z a hl' wt' rw' er' rn' lr' ns h0 n0 _ T19.heap _
    exact ⟨b12, rfl, N19, K19, g_b12, sz_b12, E_b12, F_currentWaits_b12, F_waits_b12, F_totalWaitMillis_b12, F_averageWaitMillis_b12, F_longestWaitMillis_b12⟩
theorem d8_0 : decode prog_31_method_6_code 0 = .ok (.aload_n 0, 1) := by decide +kernel
theorem d8_1 : decode prog_31_method_6_code 1 = .ok (.getfield 13, 3) := by decide +kernel
theorem d8_4 : decode prog_31_method_6_code 4 = .ok (.lreturn, 1) := by decide +kernel
theorem pn_8 : plainName "com/example/diligent_locks/diligentlocks/RecordLockWaits" = true := by first | (simp [plainName, overriddenIn]; done) | decide +kernel
theorem ef_8 (m : MethodId) (x0 : Addr) : entryFrame m #[(.ref x0)] 1 = mkF m 0 #[.val (.ref x0)] [] := by first | (simp [entryFrame, mkF, argsToLocals, Value.category]; done) | rfl
def Q8 (Z : State) (a : Addr) (x' : Int64) (h0 : Heap) (n0 : Nat) (v : Option Value) (h : Heap) (L : List Loc) : Prop := v = some (.long x') ∧ Fr n0 L ∧ h = h0
set_option maxRecDepth 65536 in
set_option maxHeartbeats 40000000 in
theorem rm8 (l : Launch) (Z : State) (a0 : Array Value) (hw : ∀ d ∈ tables_1, d.before a0 Z = true) (ws : List Jvm.Cond) (a : Addr) (x' : Int64) (h0 : Heap) (n0 : Nat) (Z0 : n0 ≤ h0.size) (F_waits_a : Fld Z h0 a "com/example/diligent_locks/diligentlocks/RecordLockWaits" "waits" "J" (.long x')) :
    MetFree l (⟨"com/example/diligent_locks/diligentlocks/RecordLockWaits", "waits", "()J"⟩ : MethodName) (head1 (Jvm.Cond.code (⟨"com/example/diligent_locks/diligentlocks/RecordLockWaits", "waits", "()J"⟩ : MethodName) prog_31_method_6_code 1 (some .long) :: ws) ({ frames := 0, cells := 0, slots := 0, locals := 0 } : Room)) (fun ar U => ar = #[(.ref a)] ∧ Z.Warmed39 U.vm ∧ U.heap = h0) (fun _ _ _ _ _ => True) (fun _ U o U' => ∃ v L, o = .returned v ∧ Q8 Z a x' h0 n0 v U'.heap L ∧ FrameEnd U o U' L ({ frames := 0, cells := 0, slots := 0, locals := 0 } : Room).cells ({ frames := 0, cells := 0, slots := 0, locals := 0 } : Room).slots) := by
  refine MetFree.of_bodySF (plainFor_of_name pn_8) hisR ?_
  intro p e s m args below meth c s₁ Bd hml0 hP hK
  obtain ⟨rfl, hZ, hh⟩ := hP
  have hx := Bd.exec
  have hby := Bd.bytes
  have hml : c.maxLocals = 1 := hml0
  have hown : s.vm.findClass "com/example/diligent_locks/diligentlocks/RecordLockWaits" = some m.cls := findClass_of_methodNamed Bd.named
  have hnm := (name_of_methodNamed Bd.named Bd.method).1
  have X0 : Stand p l e ({ frames := 0, cells := 0, slots := 0, locals := 0 } : Room) s m #[(.ref a)] below meth c s₁ [] 0 0 := Stand.of_body Bd
  have e0 : s₁.heap = h0 := by rw [← hh, Bd.state]; rfl
  have N0 := Fr.nil n0
  have K0 : Keep h0 h0 [] := Keep.refl h0 _
  have pre0 : ∀ t, Steps p.tables e below (s₁.setTop (mkF m 0 #[.val (.ref a)] [])) t → Steps p.tables e below (s₁.setTop (entryFrame m #[(.ref a)] 1)) t := fun t k => castTop (ef_8 m a) k
  obtain ⟨T1, X1, e1, st1⟩ := getF X0 hx hZ hown (host := "") (Or.inl (hw _ (List.mem_of_getElem? (i := 59) rfl))) Via.refl e0 F_waits_a (g := (mkF m 1 #[.val (.ref a)] [(.ref a)])) rfl rfl (hb hby d8_1)
  obtain ⟨fs, hr, hrun, hended, hW, hsame⟩ := X1.leave (v := some (.long x')) (fun h => by rw [Bd.returns] at h; cases h)
  refine ⟨_, _, pre0 _ ?_, hrun, hended, _, _, rfl, ?_, ⟨_, rfl⟩, hW, hsame.mono (by decide) (by decide)⟩
  · show Steps p.tables e below (s₁.setTop (mkF m 0 #[.val (.ref a)] [])) _
    refine XS.aloadN X0.here hx rfl (hb hby d8_0) rfl rfl ?_
    show Steps p.tables e below (s₁.setTop (mkF m 1 #[.val (.ref a)] [(.ref a)])) _
    refine st1 _ ?_
    show Steps p.tables e below (T1.setTop (mkF m 4 #[.val (.ref a)] [(.long x')])) _
    exact retOut X1 hx Bd.returns rfl (Or.inr (Or.inl ⟨rfl, rfl, _, rfl⟩)) (hb hby d8_4) hr
  · show Q8 Z a x' h0 n0 _ T1.heap _
    rw [e1]
    exact ⟨rfl, N0, rfl⟩
theorem d9_0 : decode prog_31_method_5_code 0 = .ok (.aload_n 0, 1) := by decide +kernel
theorem d9_1 : decode prog_31_method_5_code 1 = .ok (.getfield 7, 3) := by decide +kernel
theorem d9_4 : decode prog_31_method_5_code 4 = .ok (.lreturn, 1) := by decide +kernel
theorem pn_9 : plainName "com/example/diligent_locks/diligentlocks/RecordLockWaits" = true := by first | (simp [plainName, overriddenIn]; done) | decide +kernel
theorem ef_9 (m : MethodId) (x0 : Addr) : entryFrame m #[(.ref x0)] 1 = mkF m 0 #[.val (.ref x0)] [] := by first | (simp [entryFrame, mkF, argsToLocals, Value.category]; done) | rfl
def Q9 (Z : State) (a : Addr) (x' : Int64) (h0 : Heap) (n0 : Nat) (v : Option Value) (h : Heap) (L : List Loc) : Prop := v = some (.long x') ∧ Fr n0 L ∧ h = h0
set_option maxRecDepth 65536 in
set_option maxHeartbeats 40000000 in
theorem rm9 (l : Launch) (Z : State) (a0 : Array Value) (hw : ∀ d ∈ tables_1, d.before a0 Z = true) (ws : List Jvm.Cond) (a : Addr) (x' : Int64) (h0 : Heap) (n0 : Nat) (Z0 : n0 ≤ h0.size) (F_currentWaits_a : Fld Z h0 a "com/example/diligent_locks/diligentlocks/RecordLockWaits" "currentWaits" "J" (.long x')) :
    MetFree l (⟨"com/example/diligent_locks/diligentlocks/RecordLockWaits", "currentWaits", "()J"⟩ : MethodName) (head1 (Jvm.Cond.code (⟨"com/example/diligent_locks/diligentlocks/RecordLockWaits", "currentWaits", "()J"⟩ : MethodName) prog_31_method_5_code 1 (some .long) :: ws) ({ frames := 0, cells := 0, slots := 0, locals := 0 } : Room)) (fun ar U => ar = #[(.ref a)] ∧ Z.Warmed39 U.vm ∧ U.heap = h0) (fun _ _ _ _ _ => True) (fun _ U o U' => ∃ v L, o = .returned v ∧ Q9 Z a x' h0 n0 v U'.heap L ∧ FrameEnd U o U' L ({ frames := 0, cells := 0, slots := 0, locals := 0 } : Room).cells ({ frames := 0, cells := 0, slots := 0, locals := 0 } : Room).slots) := by
  refine MetFree.of_bodySF (plainFor_of_name pn_9) hisR ?_
  intro p e s m args below meth c s₁ Bd hml0 hP hK
  obtain ⟨rfl, hZ, hh⟩ := hP
  have hx := Bd.exec
  have hby := Bd.bytes
  have hml : c.maxLocals = 1 := hml0
  have hown : s.vm.findClass "com/example/diligent_locks/diligentlocks/RecordLockWaits" = some m.cls := findClass_of_methodNamed Bd.named
  have hnm := (name_of_methodNamed Bd.named Bd.method).1
  have X0 : Stand p l e ({ frames := 0, cells := 0, slots := 0, locals := 0 } : Room) s m #[(.ref a)] below meth c s₁ [] 0 0 := Stand.of_body Bd
  have e0 : s₁.heap = h0 := by rw [← hh, Bd.state]; rfl
  have N0 := Fr.nil n0
  have K0 : Keep h0 h0 [] := Keep.refl h0 _
  have pre0 : ∀ t, Steps p.tables e below (s₁.setTop (mkF m 0 #[.val (.ref a)] [])) t → Steps p.tables e below (s₁.setTop (entryFrame m #[(.ref a)] 1)) t := fun t k => castTop (ef_9 m a) k
  obtain ⟨T1, X1, e1, st1⟩ := getF X0 hx hZ hown (host := "") (Or.inl (hw _ (List.mem_of_getElem? (i := 57) rfl))) Via.refl e0 F_currentWaits_a (g := (mkF m 1 #[.val (.ref a)] [(.ref a)])) rfl rfl (hb hby d9_1)
  obtain ⟨fs, hr, hrun, hended, hW, hsame⟩ := X1.leave (v := some (.long x')) (fun h => by rw [Bd.returns] at h; cases h)
  refine ⟨_, _, pre0 _ ?_, hrun, hended, _, _, rfl, ?_, ⟨_, rfl⟩, hW, hsame.mono (by decide) (by decide)⟩
  · show Steps p.tables e below (s₁.setTop (mkF m 0 #[.val (.ref a)] [])) _
    refine XS.aloadN X0.here hx rfl (hb hby d9_0) rfl rfl ?_
    show Steps p.tables e below (s₁.setTop (mkF m 1 #[.val (.ref a)] [(.ref a)])) _
    refine st1 _ ?_
    show Steps p.tables e below (T1.setTop (mkF m 4 #[.val (.ref a)] [(.long x')])) _
    exact retOut X1 hx Bd.returns rfl (Or.inr (Or.inl ⟨rfl, rfl, _, rfl⟩)) (hb hby d9_4) hr
  · show Q9 Z a x' h0 n0 _ T1.heap _
    rw [e1]
    exact ⟨rfl, N0, rfl⟩
theorem d10_0 : decode prog_31_method_7_code 0 = .ok (.aload_n 0, 1) := by decide +kernel
theorem d10_1 : decode prog_31_method_7_code 1 = .ok (.getfield 16, 3) := by decide +kernel
theorem d10_4 : decode prog_31_method_7_code 4 = .ok (.lreturn, 1) := by decide +kernel
theorem pn_10 : plainName "com/example/diligent_locks/diligentlocks/RecordLockWaits" = true := by first | (simp [plainName, overriddenIn]; done) | decide +kernel
theorem ef_10 (m : MethodId) (x0 : Addr) : entryFrame m #[(.ref x0)] 1 = mkF m 0 #[.val (.ref x0)] [] := by first | (simp [entryFrame, mkF, argsToLocals, Value.category]; done) | rfl
def Q10 (Z : State) (a : Addr) (x' : Int64) (h0 : Heap) (n0 : Nat) (v : Option Value) (h : Heap) (L : List Loc) : Prop := v = some (.long x') ∧ Fr n0 L ∧ h = h0
set_option maxRecDepth 65536 in
set_option maxHeartbeats 40000000 in
theorem rm10 (l : Launch) (Z : State) (a0 : Array Value) (hw : ∀ d ∈ tables_1, d.before a0 Z = true) (ws : List Jvm.Cond) (a : Addr) (x' : Int64) (h0 : Heap) (n0 : Nat) (Z0 : n0 ≤ h0.size) (F_totalWaitMillis_a : Fld Z h0 a "com/example/diligent_locks/diligentlocks/RecordLockWaits" "totalWaitMillis" "J" (.long x')) :
    MetFree l (⟨"com/example/diligent_locks/diligentlocks/RecordLockWaits", "totalWaitMillis", "()J"⟩ : MethodName) (head1 (Jvm.Cond.code (⟨"com/example/diligent_locks/diligentlocks/RecordLockWaits", "totalWaitMillis", "()J"⟩ : MethodName) prog_31_method_7_code 1 (some .long) :: ws) ({ frames := 0, cells := 0, slots := 0, locals := 0 } : Room)) (fun ar U => ar = #[(.ref a)] ∧ Z.Warmed39 U.vm ∧ U.heap = h0) (fun _ _ _ _ _ => True) (fun _ U o U' => ∃ v L, o = .returned v ∧ Q10 Z a x' h0 n0 v U'.heap L ∧ FrameEnd U o U' L ({ frames := 0, cells := 0, slots := 0, locals := 0 } : Room).cells ({ frames := 0, cells := 0, slots := 0, locals := 0 } : Room).slots) := by
  refine MetFree.of_bodySF (plainFor_of_name pn_10) hisR ?_
  intro p e s m args below meth c s₁ Bd hml0 hP hK
  obtain ⟨rfl, hZ, hh⟩ := hP
  have hx := Bd.exec
  have hby := Bd.bytes
  have hml : c.maxLocals = 1 := hml0
  have hown : s.vm.findClass "com/example/diligent_locks/diligentlocks/RecordLockWaits" = some m.cls := findClass_of_methodNamed Bd.named
  have hnm := (name_of_methodNamed Bd.named Bd.method).1
  have X0 : Stand p l e ({ frames := 0, cells := 0, slots := 0, locals := 0 } : Room) s m #[(.ref a)] below meth c s₁ [] 0 0 := Stand.of_body Bd
  have e0 : s₁.heap = h0 := by rw [← hh, Bd.state]; rfl
  have N0 := Fr.nil n0
  have K0 : Keep h0 h0 [] := Keep.refl h0 _
  have pre0 : ∀ t, Steps p.tables e below (s₁.setTop (mkF m 0 #[.val (.ref a)] [])) t → Steps p.tables e below (s₁.setTop (entryFrame m #[(.ref a)] 1)) t := fun t k => castTop (ef_10 m a) k
  obtain ⟨T1, X1, e1, st1⟩ := getF X0 hx hZ hown (host := "") (Or.inl (hw _ (List.mem_of_getElem? (i := 61) rfl))) Via.refl e0 F_totalWaitMillis_a (g := (mkF m 1 #[.val (.ref a)] [(.ref a)])) rfl rfl (hb hby d10_1)
  obtain ⟨fs, hr, hrun, hended, hW, hsame⟩ := X1.leave (v := some (.long x')) (fun h => by rw [Bd.returns] at h; cases h)
  refine ⟨_, _, pre0 _ ?_, hrun, hended, _, _, rfl, ?_, ⟨_, rfl⟩, hW, hsame.mono (by decide) (by decide)⟩
  · show Steps p.tables e below (s₁.setTop (mkF m 0 #[.val (.ref a)] [])) _
    refine XS.aloadN X0.here hx rfl (hb hby d10_0) rfl rfl ?_
    show Steps p.tables e below (s₁.setTop (mkF m 1 #[.val (.ref a)] [(.ref a)])) _
    refine st1 _ ?_
    show Steps p.tables e below (T1.setTop (mkF m 4 #[.val (.ref a)] [(.long x')])) _
    exact retOut X1 hx Bd.returns rfl (Or.inr (Or.inl ⟨rfl, rfl, _, rfl⟩)) (hb hby d10_4) hr
  · show Q10 Z a x' h0 n0 _ T1.heap _
    rw [e1]
    exact ⟨rfl, N0, rfl⟩
theorem d11_0 : decode prog_31_method_8_code 0 = .ok (.aload_n 0, 1) := by decide +kernel
theorem d11_1 : decode prog_31_method_8_code 1 = .ok (.getfield 19, 3) := by decide +kernel
theorem d11_4 : decode prog_31_method_8_code 4 = .ok (.lreturn, 1) := by decide +kernel
theorem pn_11 : plainName "com/example/diligent_locks/diligentlocks/RecordLockWaits" = true := by first | (simp [plainName, overriddenIn]; done) | decide +kernel
theorem ef_11 (m : MethodId) (x0 : Addr) : entryFrame m #[(.ref x0)] 1 = mkF m 0 #[.val (.ref x0)] [] := by first | (simp [entryFrame, mkF, argsToLocals, Value.category]; done) | rfl
def Q11 (Z : State) (a : Addr) (x' : Int64) (h0 : Heap) (n0 : Nat) (v : Option Value) (h : Heap) (L : List Loc) : Prop := v = some (.long x') ∧ Fr n0 L ∧ h = h0
set_option maxRecDepth 65536 in
set_option maxHeartbeats 40000000 in
theorem rm11 (l : Launch) (Z : State) (a0 : Array Value) (hw : ∀ d ∈ tables_1, d.before a0 Z = true) (ws : List Jvm.Cond) (a : Addr) (x' : Int64) (h0 : Heap) (n0 : Nat) (Z0 : n0 ≤ h0.size) (F_averageWaitMillis_a : Fld Z h0 a "com/example/diligent_locks/diligentlocks/RecordLockWaits" "averageWaitMillis" "J" (.long x')) :
    MetFree l (⟨"com/example/diligent_locks/diligentlocks/RecordLockWaits", "averageWaitMillis", "()J"⟩ : MethodName) (head1 (Jvm.Cond.code (⟨"com/example/diligent_locks/diligentlocks/RecordLockWaits", "averageWaitMillis", "()J"⟩ : MethodName) prog_31_method_8_code 1 (some .long) :: ws) ({ frames := 0, cells := 0, slots := 0, locals := 0 } : Room)) (fun ar U => ar = #[(.ref a)] ∧ Z.Warmed39 U.vm ∧ U.heap = h0) (fun _ _ _ _ _ => True) (fun _ U o U' => ∃ v L, o = .returned v ∧ Q11 Z a x' h0 n0 v U'.heap L ∧ FrameEnd U o U' L ({ frames := 0, cells := 0, slots := 0, locals := 0 } : Room).cells ({ frames := 0, cells := 0, slots := 0, locals := 0 } : Room).slots) := by
  refine MetFree.of_bodySF (plainFor_of_name pn_11) hisR ?_
  intro p e s m args below meth c s₁ Bd hml0 hP hK
  obtain ⟨rfl, hZ, hh⟩ := hP
  have hx := Bd.exec
  have hby := Bd.bytes
  have hml : c.maxLocals = 1 := hml0
  have hown : s.vm.findClass "com/example/diligent_locks/diligentlocks/RecordLockWaits" = some m.cls := findClass_of_methodNamed Bd.named
  have hnm := (name_of_methodNamed Bd.named Bd.method).1
  have X0 : Stand p l e ({ frames := 0, cells := 0, slots := 0, locals := 0 } : Room) s m #[(.ref a)] below meth c s₁ [] 0 0 := Stand.of_body Bd
  have e0 : s₁.heap = h0 := by rw [← hh, Bd.state]; rfl
  have N0 := Fr.nil n0
  have K0 : Keep h0 h0 [] := Keep.refl h0 _
  have pre0 : ∀ t, Steps p.tables e below (s₁.setTop (mkF m 0 #[.val (.ref a)] [])) t → Steps p.tables e below (s₁.setTop (entryFrame m #[(.ref a)] 1)) t := fun t k => castTop (ef_11 m a) k
  obtain ⟨T1, X1, e1, st1⟩ := getF X0 hx hZ hown (host := "") (Or.inl (hw _ (List.mem_of_getElem? (i := 63) rfl))) Via.refl e0 F_averageWaitMillis_a (g := (mkF m 1 #[.val (.ref a)] [(.ref a)])) rfl rfl (hb hby d11_1)
  obtain ⟨fs, hr, hrun, hended, hW, hsame⟩ := X1.leave (v := some (.long x')) (fun h => by rw [Bd.returns] at h; cases h)
  refine ⟨_, _, pre0 _ ?_, hrun, hended, _, _, rfl, ?_, ⟨_, rfl⟩, hW, hsame.mono (by decide) (by decide)⟩
  · show Steps p.tables e below (s₁.setTop (mkF m 0 #[.val (.ref a)] [])) _
    refine XS.aloadN X0.here hx rfl (hb hby d11_0) rfl rfl ?_
    show Steps p.tables e below (s₁.setTop (mkF m 1 #[.val (.ref a)] [(.ref a)])) _
    refine st1 _ ?_
    show Steps p.tables e below (T1.setTop (mkF m 4 #[.val (.ref a)] [(.long x')])) _
    exact retOut X1 hx Bd.returns rfl (Or.inr (Or.inl ⟨rfl, rfl, _, rfl⟩)) (hb hby d11_4) hr
  · show Q11 Z a x' h0 n0 _ T1.heap _
    rw [e1]
    exact ⟨rfl, N0, rfl⟩
theorem d12_0 : decode prog_31_method_9_code 0 = .ok (.aload_n 0, 1) := by decide +kernel
theorem d12_1 : decode prog_31_method_9_code 1 = .ok (.getfield 22, 3) := by decide +kernel
theorem d12_4 : decode prog_31_method_9_code 4 = .ok (.lreturn, 1) := by decide +kernel
theorem pn_12 : plainName "com/example/diligent_locks/diligentlocks/RecordLockWaits" = true := by first | (simp [plainName, overriddenIn]; done) | decide +kernel
theorem ef_12 (m : MethodId) (x0 : Addr) : entryFrame m #[(.ref x0)] 1 = mkF m 0 #[.val (.ref x0)] [] := by first | (simp [entryFrame, mkF, argsToLocals, Value.category]; done) | rfl
def Q12 (Z : State) (a : Addr) (x' : Int64) (h0 : Heap) (n0 : Nat) (v : Option Value) (h : Heap) (L : List Loc) : Prop := v = some (.long x') ∧ Fr n0 L ∧ h = h0
set_option maxRecDepth 65536 in
set_option maxHeartbeats 40000000 in
theorem rm12 (l : Launch) (Z : State) (a0 : Array Value) (hw : ∀ d ∈ tables_1, d.before a0 Z = true) (ws : List Jvm.Cond) (a : Addr) (x' : Int64) (h0 : Heap) (n0 : Nat) (Z0 : n0 ≤ h0.size) (F_longestWaitMillis_a : Fld Z h0 a "com/example/diligent_locks/diligentlocks/RecordLockWaits" "longestWaitMillis" "J" (.long x')) :
    MetFree l (⟨"com/example/diligent_locks/diligentlocks/RecordLockWaits", "longestWaitMillis", "()J"⟩ : MethodName) (head1 (Jvm.Cond.code (⟨"com/example/diligent_locks/diligentlocks/RecordLockWaits", "longestWaitMillis", "()J"⟩ : MethodName) prog_31_method_9_code 1 (some .long) :: ws) ({ frames := 0, cells := 0, slots := 0, locals := 0 } : Room)) (fun ar U => ar = #[(.ref a)] ∧ Z.Warmed39 U.vm ∧ U.heap = h0) (fun _ _ _ _ _ => True) (fun _ U o U' => ∃ v L, o = .returned v ∧ Q12 Z a x' h0 n0 v U'.heap L ∧ FrameEnd U o U' L ({ frames := 0, cells := 0, slots := 0, locals := 0 } : Room).cells ({ frames := 0, cells := 0, slots := 0, locals := 0 } : Room).slots) := by
  refine MetFree.of_bodySF (plainFor_of_name pn_12) hisR ?_
  intro p e s m args below meth c s₁ Bd hml0 hP hK
  obtain ⟨rfl, hZ, hh⟩ := hP
  have hx := Bd.exec
  have hby := Bd.bytes
  have hml : c.maxLocals = 1 := hml0
  have hown : s.vm.findClass "com/example/diligent_locks/diligentlocks/RecordLockWaits" = some m.cls := findClass_of_methodNamed Bd.named
  have hnm := (name_of_methodNamed Bd.named Bd.method).1
  have X0 : Stand p l e ({ frames := 0, cells := 0, slots := 0, locals := 0 } : Room) s m #[(.ref a)] below meth c s₁ [] 0 0 := Stand.of_body Bd
  have e0 : s₁.heap = h0 := by rw [← hh, Bd.state]; rfl
  have N0 := Fr.nil n0
  have K0 : Keep h0 h0 [] := Keep.refl h0 _
  have pre0 : ∀ t, Steps p.tables e below (s₁.setTop (mkF m 0 #[.val (.ref a)] [])) t → Steps p.tables e below (s₁.setTop (entryFrame m #[(.ref a)] 1)) t := fun t k => castTop (ef_12 m a) k
  obtain ⟨T1, X1, e1, st1⟩ := getF X0 hx hZ hown (host := "") (Or.inl (hw _ (List.mem_of_getElem? (i := 65) rfl))) Via.refl e0 F_longestWaitMillis_a (g := (mkF m 1 #[.val (.ref a)] [(.ref a)])) rfl rfl (hb hby d12_1)
  obtain ⟨fs, hr, hrun, hended, hW, hsame⟩ := X1.leave (v := some (.long x')) (fun h => by rw [Bd.returns] at h; cases h)
  refine ⟨_, _, pre0 _ ?_, hrun, hended, _, _, rfl, ?_, ⟨_, rfl⟩, hW, hsame.mono (by decide) (by decide)⟩
  · show Steps p.tables e below (s₁.setTop (mkF m 0 #[.val (.ref a)] [])) _
    refine XS.aloadN X0.here hx rfl (hb hby d12_0) rfl rfl ?_
    show Steps p.tables e below (s₁.setTop (mkF m 1 #[.val (.ref a)] [(.ref a)])) _
    refine st1 _ ?_
    show Steps p.tables e below (T1.setTop (mkF m 4 #[.val (.ref a)] [(.long x')])) _
    exact retOut X1 hx Bd.returns rfl (Or.inr (Or.inl ⟨rfl, rfl, _, rfl⟩)) (hb hby d12_4) hr
  · show Q12 Z a x' h0 n0 _ T1.heap _
    rw [e1]
    exact ⟨rfl, N0, rfl⟩
theorem pn_0 : plainName "com/example/diligent_locks/diligentlocks/LockCountsWaitStartedPinLaw" = true := by first | (simp [plainName, overriddenIn]; done) | decide +kernel
theorem pd0_0 : parseMethodDescriptor "()V" = some ⟨[], none⟩ := by decide +kernel
theorem pd0_1 : parseMethodDescriptor "(Z)V" = some ⟨[.boolean], none⟩ := by decide +kernel
theorem pd0_2 : parseMethodDescriptor "(ZJ)V" = some ⟨[.boolean, .long], none⟩ := by decide +kernel
theorem pd0_3 : parseMethodDescriptor "()Lcom/example/diligent_locks/diligentlocks/RecordLockWaits;" = some ⟨[], some (.object "com/example/diligent_locks/diligentlocks/RecordLockWaits")⟩ := by decide +kernel
theorem pd0_4 : parseMethodDescriptor "()J" = some ⟨[], some .long⟩ := by decide +kernel
theorem ef_0 (m : MethodId) (x0 : Int32) (x1 : Int64) (x2 : Int32) (x3 : Int64) : entryFrame m #[(.int x0), (.long x1), (.int x2), (.long x3)] maxLocals = mkF m 0 #[.val (.int x0), .val (.long x1), .second, .val (.int x2), .val (.long x3), .second, .unset, .unset, .unset, .unset, .unset, .unset, .unset, .unset, .unset, .unset, .unset, .unset, .unset] [] := by first | (simp [entryFrame, mkF, argsToLocals, Value.category, maxLocals]; done) | rfl
def Q0 (Z : State) (w' : Int32) (h'1 : Int64) (f' : Int32) (n'0 : Int64) (ns : Addr) (h0 : Heap) (n0 : Nat) (v : Option Value) (h : Heap) (L : List Loc) : Prop := v = some (.int (1 : Int32)) ∧ Fr n0 L
set_option maxRecDepth 65536 in
set_option maxHeartbeats 40000000 in
theorem rm0 (l : Launch) (Z : State) (a0 : Array Value) (hw : ∀ d ∈ tables_1, d.before a0 Z = true) (ws : List Jvm.Cond) (w' : Int32) (h'1 : Int64) (f' : Int32) (n'0 : Int64) (ns : Addr) (h0 : Heap) (n0 : Nat) (Z0 : n0 ≤ h0.size) (Od : Old Z n0 h0) (S_NANOSECONDS : Sta Z Z.heap "java/util/concurrent/TimeUnit" "NANOSECONDS" "Ljava/util/concurrent/TimeUnit;" (.ref ns)) (E_ns : Exa Z Z.heap ns "java/util/concurrent/TimeUnit") (F_scale_ns : Fld Z Z.heap ns "java/util/concurrent/TimeUnit" "scale" "J" (.long (1 : Int64))) (F_milliRatio_ns : Fld Z Z.heap ns "java/util/concurrent/TimeUnit" "milliRatio" "I" (.int (1000000 : Int32))) :
    MetFree l x (head1 (Jvm.Cond.code x code maxLocals ret :: ws) room_1) (fun ar U => ar = #[(.int w'), (.long h'1), (.int f'), (.long n'0)] ∧ Z.Warmed39 U.vm ∧ U.heap = h0) (fun _ _ _ _ _ => True) (fun _ U o U' => ∃ v L, o = .returned v ∧ Q0 Z w' h'1 f' n'0 ns h0 n0 v U'.heap L ∧ FrameEnd U o U' L room_1.cells room_1.slots) := by
  refine MetFree.of_bodySF (plainFor_of_name pn_0) hisR ?_
  intro p e s m args below meth c s₁ Bd hml0 hP hK
  obtain ⟨rfl, hZ, hh⟩ := hP
  have hx := Bd.exec
  have hby := Bd.bytes
  have hml : c.maxLocals = 19 := hml0
  have hown : s.vm.findClass "com/example/diligent_locks/diligentlocks/LockCountsWaitStartedPinLaw" = some m.cls := findClass_of_methodNamed Bd.named
  have hnm := (name_of_methodNamed Bd.named Bd.method).1
  have X0 : Stand p l e room_1 s m #[(.int w'), (.long h'1), (.int f'), (.long n'0)] below meth c s₁ [] 0 0 := Stand.of_body Bd
  have e0 : s₁.heap = h0 := by rw [← hh, Bd.state]; rfl
  have N0 := Fr.nil n0
  have K0 : Keep h0 h0 [] := Keep.refl h0 _
  have pre0 : ∀ t, Steps p.tables e below (s₁.setTop (mkF m 0 #[.val (.int w'), .val (.long h'1), .second, .val (.int f'), .val (.long n'0), .second, .unset, .unset, .unset, .unset, .unset, .unset, .unset, .unset, .unset, .unset, .unset, .unset, .unset] [])) t → Steps p.tables e below (s₁.setTop (entryFrame m #[(.int w'), (.long h'1), (.int f'), (.long n'0)] maxLocals)) t := fun t k => castTop (ef_0 m w' h'1 f' n'0) k
  have J1 : ∃ (z1 : Int32), ∀ t, Steps p.tables e below (s₁.setTop (mkF m 11 #[.val (.int w'), .val (.long h'1), .second, .val (.int f'), .val (.long n'0), .second, .unset, .unset, .unset, .unset, .unset, .unset, .unset, .unset, .unset, .unset, .unset, .unset, .unset] [(.int z1)])) t → Steps p.tables e below (s₁.setTop (entryFrame m #[(.int w'), (.long h'1), (.int f'), (.long n'0)] maxLocals)) t := by
    have pre2 : ∀ t, Steps p.tables e below (s₁.setTop (mkF m 3 #[.val (.int w'), .val (.long h'1), .second, .val (.int f'), .val (.long n'0), .second, .unset, .unset, .unset, .unset, .unset, .unset, .unset, .unset, .unset, .unset, .unset, .unset, .unset] [(.int (f' &&& (1 : Int32)))])) t → Steps p.tables e below (s₁.setTop (entryFrame m #[(.int w'), (.long h'1), (.int f'), (.long n'0)] maxLocals)) t := by
      intro t kt
      refine pre0 t ?_
      show Steps p.tables e below (s₁.setTop (mkF m 0 #[.val (.int w'), .val (.long h'1), .second, .val (.int f'), .val (.long n'0), .second, .unset, .unset, .unset, .unset, .unset, .unset, .unset, .unset, .unset, .unset, .unset, .unset, .unset] [])) _
      refine XS.iloadN X0.here hx rfl (hb hby at_0) rfl ?_
      show Steps p.tables e below (s₁.setTop (mkF m 1 #[.val (.int w'), .val (.long h'1), .second, .val (.int f'), .val (.long n'0), .second, .unset, .unset, .unset, .unset, .unset, .unset, .unset, .unset, .unset, .unset, .unset, .unset, .unset] [(.int f')])) _
      refine XS.iconst X0.here hx rfl (hb hby at_1) ?_
      show Steps p.tables e below (s₁.setTop (mkF m 2 #[.val (.int w'), .val (.long h'1), .second, .val (.int f'), .val (.long n'0), .second, .unset, .unset, .unset, .unset, .unset, .unset, .unset, .unset, .unset, .unset, .unset, .unset, .unset] [(.int (1 : Int32)), (.int f')])) _
      refine XS.iand X0.here hx rfl (hb hby at_2) rfl ?_
      exact kt
    by_cases hc3_3 : (f' &&& (1 : Int32)) = (0 : Int32)
    · have pre4 : ∀ t, Steps p.tables e below (s₁.setTop (mkF m 11 #[.val (.int w'), .val (.long h'1), .second, .val (.int f'), .val (.long n'0), .second, .unset, .unset, .unset, .unset, .unset, .unset, .unset, .unset, .unset, .unset, .unset, .unset, .unset] [(.int (0 : Int32))])) t → Steps p.tables e below (s₁.setTop (entryFrame m #[(.int w'), (.long h'1), (.int f'), (.long n'0)] maxLocals)) t := by
        intro t kt
        refine pre2 t ?_
        show Steps p.tables e below (s₁.setTop (mkF m 3 #[.val (.int w'), .val (.long h'1), .second, .val (.int f'), .val (.long n'0), .second, .unset, .unset, .unset, .unset, .unset, .unset, .unset, .unset, .unset, .unset, .unset, .unset, .unset] [(.int (f' &&& (1 : Int32)))])) _
        refine XS.ifYes X0.here hx rfl (pc0 := 3) (pc' := 10) rfl (hb hby at_3) rfl ((if0 _ _).trans (teq hc3_3).1) (by decide) (by decide) ?_
        show Steps p.tables e below (s₁.setTop (mkF m 10 #[.val (.int w'), .val (.long h'1), .second, .val (.int f'), .val (.long n'0), .second, .unset, .unset, .unset, .unset, .unset, .unset, .unset, .unset, .unset, .unset, .unset, .unset, .unset] [])) _
        refine XS.iconst X0.here hx rfl (hb hby at_10) ?_
        exact kt
      exact ⟨(0 : Int32), pre4⟩
    · have pre5 : ∀ t, Steps p.tables e below (s₁.setTop (mkF m 11 #[.val (.int w'), .val (.long h'1), .second, .val (.int f'), .val (.long n'0), .second, .unset, .unset, .unset, .unset, .unset, .unset, .unset, .unset, .unset, .unset, .unset, .unset, .unset] [(.int (1 : Int32))])) t → Steps p.tables e below (s₁.setTop (entryFrame m #[(.int w'), (.long h'1), (.int f'), (.long n'0)] maxLocals)) t := by
        intro t kt
        refine pre2 t ?_
        show Steps p.tables e below (s₁.setTop (mkF m 3 #[.val (.int w'), .val (.long h'1), .second, .val (.int f'), .val (.long n'0), .second, .unset, .unset, .unset, .unset, .unset, .unset, .unset, .unset, .unset, .unset, .unset, .unset, .unset] [(.int (f' &&& (1 : Int32)))])) _
        refine XS.ifNo X0.here hx rfl (hb hby at_3) rfl ((if0 _ _).trans (feq hc3_3).1) ?_
        show Steps p.tables e below (s₁.setTop (mkF m 6 #[.val (.int w'), .val (.long h'1), .second, .val (.int f'), .val (.long n'0), .second, .unset, .unset, .unset, .unset, .unset, .unset, .unset, .unset, .unset, .unset, .unset, .unset, .unset] [])) _
        refine XS.iconst X0.here hx rfl (hb hby at_6) ?_
        show Steps p.tables e below (s₁.setTop (mkF m 7 #[.val (.int w'), .val (.long h'1), .second, .val (.int f'), .val (.long n'0), .second, .unset, .unset, .unset, .unset, .unset, .unset, .unset, .unset, .unset, .unset, .unset, .unset, .unset] [(.int (1 : Int32))])) _
        refine XS.goto X0.here hx rfl (pc0 := 7) (pc' := 11) rfl (hb hby at_7) (by decide) (by decide) ?_
        exact kt
      exact ⟨(1 : Int32), pre5⟩
  obtain ⟨z1, pre1⟩ := J1
  have J6 : ∃ (z2 : Int32), ∀ t, Steps p.tables e below (s₁.setTop (mkF m 24 #[.val (.int w'), .val (.long h'1), .second, .val (.int f'), .val (.long n'0), .second, .val (.int z1), .unset, .unset, .unset, .unset, .unset, .unset, .unset, .unset, .unset, .unset, .unset, .unset] [(.int z2)])) t → Steps p.tables e below (s₁.setTop (entryFrame m #[(.int w'), (.long h'1), (.int f'), (.long n'0)] maxLocals)) t := by
    have pre7 : ∀ t, Steps p.tables e below (s₁.setTop (mkF m 16 #[.val (.int w'), .val (.long h'1), .second, .val (.int f'), .val (.long n'0), .second, .val (.int z1), .unset, .unset, .unset, .unset, .unset, .unset, .unset, .unset, .unset, .unset, .unset, .unset] [(.int (f' &&& (2 : Int32)))])) t → Steps p.tables e below (s₁.setTop (entryFrame m #[(.int w'), (.long h'1), (.int f'), (.long n'0)] maxLocals)) t := by
      intro t kt
      refine pre1 t ?_
      show Steps p.tables e below (s₁.setTop (mkF m 11 #[.val (.int w'), .val (.long h'1), .second, .val (.int f'), .val (.long n'0), .second, .unset, .unset, .unset, .unset, .unset, .unset, .unset, .unset, .unset, .unset, .unset, .unset, .unset] [(.int z1)])) _
      refine XS.istore X0.here hx rfl (hb hby at_11) rfl (l' := #[.val (.int w'), .val (.long h'1), .second, .val (.int f'), .val (.long n'0), .second, .val (.int z1), .unset, .unset, .unset, .unset, .unset, .unset, .unset, .unset, .unset, .unset, .unset, .unset]) rfl ?_
      show Steps p.tables e below (s₁.setTop (mkF m 13 #[.val (.int w'), .val (.long h'1), .second, .val (.int f'), .val (.long n'0), .second, .val (.int z1), .unset, .unset, .unset, .unset, .unset, .unset, .unset, .unset, .unset, .unset, .unset, .unset] [])) _
      refine XS.iloadN X0.here hx rfl (hb hby at_13) rfl ?_
      show Steps p.tables e below (s₁.setTop (mkF m 14 #[.val (.int w'), .val (.long h'1), .second, .val (.int f'), .val (.long n'0), .second, .val (.int z1), .unset, .unset, .unset, .unset, .unset, .unset, .unset, .unset, .unset, .unset, .unset, .unset] [(.int f')])) _
      refine XS.iconst X0.here hx rfl (hb hby at_14) ?_
      show Steps p.tables e below (s₁.setTop (mkF m 15 #[.val (.int w'), .val (.long h'1), .second, .val (.int f'), .val (.long n'0), .second, .val (.int z1), .unset, .unset, .unset, .unset, .unset, .unset, .unset, .unset, .unset, .unset, .unset, .unset] [(.int (2 : Int32)), (.int f')])) _
      refine XS.iand X0.here hx rfl (hb hby at_15) rfl ?_
      exact kt
    by_cases hc16_8 : (f' &&& (2 : Int32)) = (0 : Int32)
    · have pre9 : ∀ t, Steps p.tables e below (s₁.setTop (mkF m 24 #[.val (.int w'), .val (.long h'1), .second, .val (.int f'), .val (.long n'0), .second, .val (.int z1), .unset, .unset, .unset, .unset, .unset, .unset, .unset, .unset, .unset, .unset, .unset, .unset] [(.int (0 : Int32))])) t → Steps p.tables e below (s₁.setTop (entryFrame m #[(.int w'), (.long h'1), (.int f'), (.long n'0)] maxLocals)) t := by
        intro t kt
        refine pre7 t ?_
        show Steps p.tables e below (s₁.setTop (mkF m 16 #[.val (.int w'), .val (.long h'1), .second, .val (.int f'), .val (.long n'0), .second, .val (.int z1), .unset, .unset, .unset, .unset, .unset, .unset, .unset, .unset, .unset, .unset, .unset, .unset] [(.int (f' &&& (2 : Int32)))])) _
        refine XS.ifYes X0.here hx rfl (pc0 := 16) (pc' := 23) rfl (hb hby at_16) rfl ((if0 _ _).trans (teq hc16_8).1) (by decide) (by decide) ?_
        show Steps p.tables e below (s₁.setTop (mkF m 23 #[.val (.int w'), .val (.long h'1), .second, .val (.int f'), .val (.long n'0), .second, .val (.int z1), .unset, .unset, .unset, .unset, .unset, .unset, .unset, .unset, .unset, .unset, .unset, .unset] [])) _
        refine XS.iconst X0.here hx rfl (hb hby at_23) ?_
        exact kt
      exact ⟨(0 : Int32), pre9⟩
    · have pre10 : ∀ t, Steps p.tables e below (s₁.setTop (mkF m 24 #[.val (.int w'), .val (.long h'1), .second, .val (.int f'), .val (.long n'0), .second, .val (.int z1), .unset, .unset, .unset, .unset, .unset, .unset, .unset, .unset, .unset, .unset, .unset, .unset] [(.int (1 : Int32))])) t → Steps p.tables e below (s₁.setTop (entryFrame m #[(.int w'), (.long h'1), (.int f'), (.long n'0)] maxLocals)) t := by
        intro t kt
        refine pre7 t ?_
        show Steps p.tables e below (s₁.setTop (mkF m 16 #[.val (.int w'), .val (.long h'1), .second, .val (.int f'), .val (.long n'0), .second, .val (.int z1), .unset, .unset, .unset, .unset, .unset, .unset, .unset, .unset, .unset, .unset, .unset, .unset] [(.int (f' &&& (2 : Int32)))])) _
        refine XS.ifNo X0.here hx rfl (hb hby at_16) rfl ((if0 _ _).trans (feq hc16_8).1) ?_
        show Steps p.tables e below (s₁.setTop (mkF m 19 #[.val (.int w'), .val (.long h'1), .second, .val (.int f'), .val (.long n'0), .second, .val (.int z1), .unset, .unset, .unset, .unset, .unset, .unset, .unset, .unset, .unset, .unset, .unset, .unset] [])) _
        refine XS.iconst X0.here hx rfl (hb hby at_19) ?_
        show Steps p.tables e below (s₁.setTop (mkF m 20 #[.val (.int w'), .val (.long h'1), .second, .val (.int f'), .val (.long n'0), .second, .val (.int z1), .unset, .unset, .unset, .unset, .unset, .unset, .unset, .unset, .unset, .unset, .unset, .unset] [(.int (1 : Int32))])) _
        refine XS.goto X0.here hx rfl (pc0 := 20) (pc' := 24) rfl (hb hby at_20) (by decide) (by decide) ?_
        exact kt
      exact ⟨(1 : Int32), pre10⟩
  obtain ⟨z2, pre6⟩ := J6
  have J11 : ∃ (z3 : Int32), ∀ t, Steps p.tables e below (s₁.setTop (mkF m 37 #[.val (.int w'), .val (.long h'1), .second, .val (.int f'), .val (.long n'0), .second, .val (.int z1), .val (.int z2), .unset, .unset, .unset, .unset, .unset, .unset, .unset, .unset, .unset, .unset, .unset] [(.int z3)])) t → Steps p.tables e below (s₁.setTop (entryFrame m #[(.int w'), (.long h'1), (.int f'), (.long n'0)] maxLocals)) t := by
    have pre12 : ∀ t, Steps p.tables e below (s₁.setTop (mkF m 29 #[.val (.int w'), .val (.long h'1), .second, .val (.int f'), .val (.long n'0), .second, .val (.int z1), .val (.int z2), .unset, .unset, .unset, .unset, .unset, .unset, .unset, .unset, .unset, .unset, .unset] [(.int (f' &&& (4 : Int32)))])) t → Steps p.tables e below (s₁.setTop (entryFrame m #[(.int w'), (.long h'1), (.int f'), (.long n'0)] maxLocals)) t := by
      intro t kt
      refine pre6 t ?_
      show Steps p.tables e below (s₁.setTop (mkF m 24 #[.val (.int w'), .val (.long h'1), .second, .val (.int f'), .val (.long n'0), .second, .val (.int z1), .unset, .unset, .unset, .unset, .unset, .unset, .unset, .unset, .unset, .unset, .unset, .unset] [(.int z2)])) _
      refine XS.istore X0.here hx rfl (hb hby at_24) rfl (l' := #[.val (.int w'), .val (.long h'1), .second, .val (.int f'), .val (.long n'0), .second, .val (.int z1), .val (.int z2), .unset, .unset, .unset, .unset, .unset, .unset, .unset, .unset, .unset, .unset, .unset]) rfl ?_
      show Steps p.tables e below (s₁.setTop (mkF m 26 #[.val (.int w'), .val (.long h'1), .second, .val (.int f'), .val (.long n'0), .second, .val (.int z1), .val (.int z2), .unset, .unset, .unset, .unset, .unset, .unset, .unset, .unset, .unset, .unset, .unset] [])) _
      refine XS.iloadN X0.here hx rfl (hb hby at_26) rfl ?_
      show Steps p.tables e below (s₁.setTop (mkF m 27 #[.val (.int w'), .val (.long h'1), .second, .val (.int f'), .val (.long n'0), .second, .val (.int z1), .val (.int z2), .unset, .unset, .unset, .unset, .unset, .unset, .unset, .unset, .unset, .unset, .unset] [(.int f')])) _
      refine XS.iconst X0.here hx rfl (hb hby at_27) ?_
      show Steps p.tables e below (s₁.setTop (mkF m 28 #[.val (.int w'), .val (.long h'1), .second, .val (.int f'), .val (.long n'0), .second, .val (.int z1), .val (.int z2), .unset, .unset, .unset, .unset, .unset, .unset, .unset, .unset, .unset, .unset, .unset] [(.int (4 : Int32)), (.int f')])) _
      refine XS.iand X0.here hx rfl (hb hby at_28) rfl ?_
      exact kt
    by_cases hc29_13 : (f' &&& (4 : Int32)) = (0 : Int32)
    · have pre14 : ∀ t, Steps p.tables e below (s₁.setTop (mkF m 37 #[.val (.int w'), .val (.long h'1), .second, .val (.int f'), .val (.long n'0), .second, .val (.int z1), .val (.int z2), .unset, .unset, .unset, .unset, .unset, .unset, .unset, .unset, .unset, .unset, .unset] [(.int (0 : Int32))])) t → Steps p.tables e below (s₁.setTop (entryFrame m #[(.int w'), (.long h'1), (.int f'), (.long n'0)] maxLocals)) t := by
        intro t kt
        refine pre12 t ?_
        show Steps p.tables e below (s₁.setTop (mkF m 29 #[.val (.int w'), .val (.long h'1), .second, .val (.int f'), .val (.long n'0), .second, .val (.int z1), .val (.int z2), .unset, .unset, .unset, .unset, .unset, .unset, .unset, .unset, .unset, .unset, .unset] [(.int (f' &&& (4 : Int32)))])) _
        refine XS.ifYes X0.here hx rfl (pc0 := 29) (pc' := 36) rfl (hb hby at_29) rfl ((if0 _ _).trans (teq hc29_13).1) (by decide) (by decide) ?_
        show Steps p.tables e below (s₁.setTop (mkF m 36 #[.val (.int w'), .val (.long h'1), .second, .val (.int f'), .val (.long n'0), .second, .val (.int z1), .val (.int z2), .unset, .unset, .unset, .unset, .unset, .unset, .unset, .unset, .unset, .unset, .unset] [])) _
        refine XS.iconst X0.here hx rfl (hb hby at_36) ?_
        exact kt
      exact ⟨(0 : Int32), pre14⟩
    · have pre15 : ∀ t, Steps p.tables e below (s₁.setTop (mkF m 37 #[.val (.int w'), .val (.long h'1), .second, .val (.int f'), .val (.long n'0), .second, .val (.int z1), .val (.int z2), .unset, .unset, .unset, .unset, .unset, .unset, .unset, .unset, .unset, .unset, .unset] [(.int (1 : Int32))])) t → Steps p.tables e below (s₁.setTop (entryFrame m #[(.int w'), (.long h'1), (.int f'), (.long n'0)] maxLocals)) t := by
        intro t kt
        refine pre12 t ?_
        show Steps p.tables e below (s₁.setTop (mkF m 29 #[.val (.int w'), .val (.long h'1), .second, .val (.int f'), .val (.long n'0), .second, .val (.int z1), .val (.int z2), .unset, .unset, .unset, .unset, .unset, .unset, .unset, .unset, .unset, .unset, .unset] [(.int (f' &&& (4 : Int32)))])) _
        refine XS.ifNo X0.here hx rfl (hb hby at_29) rfl ((if0 _ _).trans (feq hc29_13).1) ?_
        show Steps p.tables e below (s₁.setTop (mkF m 32 #[.val (.int w'), .val (.long h'1), .second, .val (.int f'), .val (.long n'0), .second, .val (.int z1), .val (.int z2), .unset, .unset, .unset, .unset, .unset, .unset, .unset, .unset, .unset, .unset, .unset] [])) _
        refine XS.iconst X0.here hx rfl (hb hby at_32) ?_
        show Steps p.tables e below (s₁.setTop (mkF m 33 #[.val (.int w'), .val (.long h'1), .second, .val (.int f'), .val (.long n'0), .second, .val (.int z1), .val (.int z2), .unset, .unset, .unset, .unset, .unset, .unset, .unset, .unset, .unset, .unset, .unset] [(.int (1 : Int32))])) _
        refine XS.goto X0.here hx rfl (pc0 := 33) (pc' := 37) rfl (hb hby at_33) (by decide) (by decide) ?_
        exact kt
      exact ⟨(1 : Int32), pre15⟩
  obtain ⟨z3, pre11⟩ := J11
  have pre16 : ∀ t, Steps p.tables e below (s₁.setTop (mkF m 47 #[.val (.int w'), .val (.long h'1), .second, .val (.int f'), .val (.long n'0), .second, .val (.int z1), .val (.int z2), .val (.int z3), .val (.long (n'0 &&& (9223372036854775807 : Int64))), .second, .unset, .unset, .unset, .unset, .unset, .unset, .unset, .unset] [])) t → Steps p.tables e below (s₁.setTop (entryFrame m #[(.int w'), (.long h'1), (.int f'), (.long n'0)] maxLocals)) t := by
    intro t kt
    refine pre11 t ?_
    show Steps p.tables e below (s₁.setTop (mkF m 37 #[.val (.int w'), .val (.long h'1), .second, .val (.int f'), .val (.long n'0), .second, .val (.int z1), .val (.int z2), .unset, .unset, .unset, .unset, .unset, .unset, .unset, .unset, .unset, .unset, .unset] [(.int z3)])) _
    refine XS.istore X0.here hx rfl (hb hby at_37) rfl (l' := #[.val (.int w'), .val (.long h'1), .second, .val (.int f'), .val (.long n'0), .second, .val (.int z1), .val (.int z2), .val (.int z3), .unset, .unset, .unset, .unset, .unset, .unset, .unset, .unset, .unset, .unset]) rfl ?_
    show Steps p.tables e below (s₁.setTop (mkF m 39 #[.val (.int w'), .val (.long h'1), .second, .val (.int f'), .val (.long n'0), .second, .val (.int z1), .val (.int z2), .val (.int z3), .unset, .unset, .unset, .unset, .unset, .unset, .unset, .unset, .unset, .unset] [])) _
    refine XS.lload X0.here hx rfl (hb hby at_39) rfl ?_
    show Steps p.tables e below (s₁.setTop (mkF m 41 #[.val (.int w'), .val (.long h'1), .second, .val (.int f'), .val (.long n'0), .second, .val (.int z1), .val (.int z2), .val (.int z3), .unset, .unset, .unset, .unset, .unset, .unset, .unset, .unset, .unset, .unset] [(.long n'0)])) _
    refine X0.ldc2Long hx hown (mvT hZ (hw _ (List.mem_of_getElem? (i := 0) rfl))) (g := (mkF m 41 #[.val (.int w'), .val (.long h'1), .second, .val (.int f'), .val (.long n'0), .second, .val (.int z1), .val (.int z2), .val (.int z3), .unset, .unset, .unset, .unset, .unset, .unset, .unset, .unset, .unset, .unset] [(.long n'0)])) rfl (hb hby at_41) _ ?_
    show Steps p.tables e below (s₁.setTop (mkF m 44 #[.val (.int w'), .val (.long h'1), .second, .val (.int f'), .val (.long n'0), .second, .val (.int z1), .val (.int z2), .val (.int z3), .unset, .unset, .unset, .unset, .unset, .unset, .unset, .unset, .unset, .unset] [(.long (9223372036854775807 : Int64)), (.long n'0)])) _
    refine XS.land X0.here hx rfl (hb hby at_44) rfl ?_
    show Steps p.tables e below (s₁.setTop (mkF m 45 #[.val (.int w'), .val (.long h'1), .second, .val (.int f'), .val (.long n'0), .second, .val (.int z1), .val (.int z2), .val (.int z3), .unset, .unset, .unset, .unset, .unset, .unset, .unset, .unset, .unset, .unset] [(.long (n'0 &&& (9223372036854775807 : Int64)))])) _
    refine XS.lstore X0.here hx rfl (hb hby at_45) rfl (l' := #[.val (.int w'), .val (.long h'1), .second, .val (.int f'), .val (.long n'0), .second, .val (.int z1), .val (.int z2), .val (.int z3), .val (.long (n'0 &&& (9223372036854775807 : Int64))), .second, .unset, .unset, .unset, .unset, .unset, .unset, .unset, .unset]) rfl ?_
    exact kt
  obtain ⟨nn, h_nn⟩ : ∃ z : Int64, z = (n'0 &&& (9223372036854775807 : Int64)) := ⟨_, rfl⟩
  have pre17 : ∀ t, Steps p.tables e below (s₁.setTop (mkF m 47 #[.val (.int w'), .val (.long h'1), .second, .val (.int f'), .val (.long n'0), .second, .val (.int z1), .val (.int z2), .val (.int z3), .val (.long nn), .second, .unset, .unset, .unset, .unset, .unset, .unset, .unset, .unset] [])) t → Steps p.tables e below (s₁.setTop (entryFrame m #[(.int w'), (.long h'1), (.int f'), (.long n'0)] maxLocals)) t := by rw [h_nn]; exact pre16
  have hnn : 0 ≤ nn.toInt := by rw [h_nn]; exact own_nn _
  obtain ⟨T18, h18, X18, e18, E18, A18, D18, -, st18⟩ := newO X0 hx hZ hown (hw _ (List.mem_of_getElem? (i := 1) rfl)) (hw _ (List.mem_of_getElem? (i := 2) rfl)) (hw _ (List.mem_of_getElem? (i := 3) rfl)) e0 (g := (mkF m 47 #[.val (.int w'), .val (.long h'1), .second, .val (.int f'), .val (.long n'0), .second, .val (.int z1), .val (.int z2), .val (.int z3), .val (.long nn), .second, .unset, .unset, .unset, .unset, .unset, .unset, .unset, .unset] [])) rfl (hb hby at_47) (by decide) (by decide)
  obtain ⟨b18, g18⟩ : ∃ z, z = h0.size := ⟨_, rfl⟩
  rw [← g18] at A18 D18 st18
  have g_b18 : n0 ≤ b18 := Nat.le_trans Z0 (Nat.le_of_eq g18.symm)
  have sz_b18 : h0.size ≤ b18 := Nat.le_trans K0.1 (Nat.le_of_eq g18.symm)
  have Od := Od.ext E18
  have Zs18 : n0 ≤ h18.size := Nat.le_trans Z0 E18.1
  have K18 : Keep h0 h18 [] := K0.ext E18
  have E_b18 := A18
  have F_held_b18 : Fld Z h18 b18 "com/example/diligent_locks/diligentlocks/LockCounts" "held" "J" (.long (0 : Int64)) := D18 (Or.inl (hw _ (List.mem_of_getElem? (i := 11) rfl))) (ty := .long) (by decide)
  have F_waiting_b18 : Fld Z h18 b18 "com/example/diligent_locks/diligentlocks/LockCounts" "waiting" "I" (.int (0 : Int32)) := D18 (Or.inl (hw _ (List.mem_of_getElem? (i := 13) rfl))) (ty := .int) (by decide)
  have F_recordWaits_b18 : Fld Z h18 b18 "com/example/diligent_locks/diligentlocks/LockCounts" "recordWaits" "J" (.long (0 : Int64)) := D18 (Or.inl (hw _ (List.mem_of_getElem? (i := 21) rfl))) (ty := .long) (by decide)
  have F_recordWaitNanos_b18 : Fld Z h18 b18 "com/example/diligent_locks/diligentlocks/LockCounts" "recordWaitNanos" "J" (.long (0 : Int64)) := D18 (Or.inl (hw _ (List.mem_of_getElem? (i := 30) rfl))) (ty := .long) (by decide)
  have F_endedRecordWaits_b18 : Fld Z h18 b18 "com/example/diligent_locks/diligentlocks/LockCounts" "endedRecordWaits" "J" (.long (0 : Int64)) := D18 (Or.inl (hw _ (List.mem_of_getElem? (i := 42) rfl))) (ty := .long) (by decide)
  have F_longestRecordWaitNanos_b18 : Fld Z h18 b18 "com/example/diligent_locks/diligentlocks/LockCounts" "longestRecordWaitNanos" "J" (.long (0 : Int64)) := D18 (Or.inl (hw _ (List.mem_of_getElem? (i := 47) rfl))) (ty := .long) (by decide)
  obtain ⟨_, _, ⟨T19, L19, k19, n19⟩, -, X19, ⟨Lc19, hQ19, l19, y19, z19⟩, st19⟩ := X18.specialBack hx (y := (⟨"com/example/diligent_locks/diligentlocks/LockCounts", "<init>", "()V"⟩ : MethodName)) rfl hown (mvT hZ (hw _ (List.mem_of_getElem? (i := 4) rfl))) (mvT hZ (hw _ (List.mem_of_getElem? (i := 5) rfl))) (mvT hZ (hw _ (List.mem_of_getElem? (i := 6) rfl))) (by decide) (backOf (W := 1) (rm1 l Z a0 hw [] b18 h18 n0 Zs18 ) hZ (hw _ (List.mem_of_getElem? (i := 6) rfl)) (hw _ (List.mem_of_getElem? (i := 3) rfl)) (by decide) (by decide)) (g := (mkF m 51 #[.val (.int w'), .val (.long h'1), .second, .val (.int f'), .val (.long n'0), .second, .val (.int z1), .val (.int z2), .val (.int z3), .val (.long nn), .second, .unset, .unset, .unset, .unset, .unset, .unset, .unset, .unset] [(.ref b18), (.ref b18)])) rfl (by rw [hml]; rfl) (Steps.refl _) (a := b18) (argsL := []) (rest := [(.ref b18)]) (lenOf pd0_0 rfl) rfl (by show 2 * 0 + _ ≤ _; exact Nat.le_of_eq rfl) (hb hby at_51) (fun _ _ => ⟨rfl, e18, (by decide : 1 + 0 ≤ _), (by decide : 6 + 0 ≤ _)⟩)
  dsimp only [Pt.U, Pt.locs, Pt.cells, Pt.slots] at X19 l19 y19 z19 st19 hQ19
  subst l19 y19 z19
  obtain ⟨rfl, N19q, hh19⟩ := hQ19
  have N19 := Fr.app N0 N19q
  have pre20 : ∀ t, Steps p.tables e below (T19.setTop (mkF m 56 #[.val (.int w'), .val (.long h'1), .second, .val (.int f'), .val (.long n'0), .second, .val (.int z1), .val (.int z2), .val (.int z3), .val (.long nn), .second, .val (.ref b18), .unset, .unset, .unset, .unset, .unset, .unset, .unset] [])) t → Steps p.tables e below (s₁.setTop (entryFrame m #[(.int w'), (.long h'1), (.int f'), (.long n'0)] maxLocals)) t := by
    intro t kt
    refine pre17 t ?_
    show Steps p.tables e below (s₁.setTop (mkF m 47 #[.val (.int w'), .val (.long h'1), .second, .val (.int f'), .val (.long n'0), .second, .val (.int z1), .val (.int z2), .val (.int z3), .val (.long nn), .second, .unset, .unset, .unset, .unset, .unset, .unset, .unset, .unset] [])) _
    refine st18 _ ?_
    show Steps p.tables e below (T18.setTop (mkF m 50 #[.val (.int w'), .val (.long h'1), .second, .val (.int f'), .val (.long n'0), .second, .val (.int z1), .val (.int z2), .val (.int z3), .val (.long nn), .second, .unset, .unset, .unset, .unset, .unset, .unset, .unset, .unset] [(.ref b18)])) _
    refine XS.dup X18.here hx rfl (hb hby at_50) rfl rfl ?_
    show Steps p.tables e below (T18.setTop (mkF m 51 #[.val (.int w'), .val (.long h'1), .second, .val (.int f'), .val (.long n'0), .second, .val (.int z1), .val (.int z2), .val (.int z3), .val (.long nn), .second, .unset, .unset, .unset, .unset, .unset, .unset, .unset, .unset] [(.ref b18), (.ref b18)])) _
    refine st19.trans ?_
    show Steps p.tables e below (T19.setTop (mkF m 54 #[.val (.int w'), .val (.long h'1), .second, .val (.int f'), .val (.long n'0), .second, .val (.int z1), .val (.int z2), .val (.int z3), .val (.long nn), .second, .unset, .unset, .unset, .unset, .unset, .unset, .unset, .unset] [(.ref b18)])) _
    refine XS.astore X19.here hx rfl (hb hby at_54) rfl rfl (l' := #[.val (.int w'), .val (.long h'1), .second, .val (.int f'), .val (.long n'0), .second, .val (.int z1), .val (.int z2), .val (.int z3), .val (.long nn), .second, .val (.ref b18), .unset, .unset, .unset, .unset, .unset, .unset, .unset]) rfl ?_
    exact kt
  have J21 : ∃ (T' : State) (h' : Heap) (L' : List Loc) (u1 : Int32) , Stand p l e room_1 s m #[(.int w'), (.long h'1), (.int f'), (.long n'0)] below meth c T' L' 1 6 ∧ T'.heap = h' ∧ Fr n0 L' ∧ n0 ≤ h'.size ∧ Keep h0 h' [] ∧ Old Z n0 h' ∧ Exa Z h' b18 "com/example/diligent_locks/diligentlocks/LockCounts" ∧ Fld Z h' b18 "com/example/diligent_locks/diligentlocks/LockCounts" "held" "J" (.long (0 : Int64)) ∧ Fld Z h' b18 "com/example/diligent_locks/diligentlocks/LockCounts" "waiting" "I" (.int u1) ∧ Fld Z h' b18 "com/example/diligent_locks/diligentlocks/LockCounts" "recordWaits" "J" (.long (if z2 = (0 : Int32) then (0 : Int64) else ((0 : Int64) + (1 : Int64)))) ∧ Fld Z h' b18 "com/example/diligent_locks/diligentlocks/LockCounts" "recordWaitNanos" "J" (.long (0 : Int64)) ∧ Fld Z h' b18 "com/example/diligent_locks/diligentlocks/LockCounts" "endedRecordWaits" "J" (.long (0 : Int64)) ∧ Fld Z h' b18 "com/example/diligent_locks/diligentlocks/LockCounts" "longestRecordWaitNanos" "J" (.long (0 : Int64)) ∧ ∀ t, Steps p.tables e below (T'.setTop (mkF m 67 #[.val (.int w'), .val (.long h'1), .second, .val (.int f'), .val (.long n'0), .second, .val (.int z1), .val (.int z2), .val (.int z3), .val (.long nn), .second, .val (.ref b18), .unset, .unset, .unset, .unset, .unset, .unset, .unset] [])) t → Steps p.tables e below (s₁.setTop (entryFrame m #[(.int w'), (.long h'1), (.int f'), (.long n'0)] maxLocals)) t := by
    have pre22 : ∀ t, Steps p.tables e below (T19.setTop (mkF m 58 #[.val (.int w'), .val (.long h'1), .second, .val (.int f'), .val (.long n'0), .second, .val (.int z1), .val (.int z2), .val (.int z3), .val (.long nn), .second, .val (.ref b18), .unset, .unset, .unset, .unset, .unset, .unset, .unset] [(.int z2)])) t → Steps p.tables e below (s₁.setTop (entryFrame m #[(.int w'), (.long h'1), (.int f'), (.long n'0)] maxLocals)) t := by
      intro t kt
      refine pre20 t ?_
      show Steps p.tables e below (T19.setTop (mkF m 56 #[.val (.int w'), .val (.long h'1), .second, .val (.int f'), .val (.long n'0), .second, .val (.int z1), .val (.int z2), .val (.int z3), .val (.long nn), .second, .val (.ref b18), .unset, .unset, .unset, .unset, .unset, .unset, .unset] [])) _
      refine XS.iload X19.here hx rfl (hb hby at_56) rfl ?_
      exact kt
    by_cases hc58_23 : z2 = (0 : Int32)
    · have pre24 : ∀ t, Steps p.tables e below (T19.setTop (mkF m 67 #[.val (.int w'), .val (.long h'1), .second, .val (.int f'), .val (.long n'0), .second, .val (.int z1), .val (.int z2), .val (.int z3), .val (.long nn), .second, .val (.ref b18), .unset, .unset, .unset, .unset, .unset, .unset, .unset] [])) t → Steps p.tables e below (s₁.setTop (entryFrame m #[(.int w'), (.long h'1), (.int f'), (.long n'0)] maxLocals)) t := by
        intro t kt
        refine pre22 t ?_
        show Steps p.tables e below (T19.setTop (mkF m 58 #[.val (.int w'), .val (.long h'1), .second, .val (.int f'), .val (.long n'0), .second, .val (.int z1), .val (.int z2), .val (.int z3), .val (.long nn), .second, .val (.ref b18), .unset, .unset, .unset, .unset, .unset, .unset, .unset] [(.int z2)])) _
        refine XS.ifYes X19.here hx rfl (pc0 := 58) (pc' := 67) rfl (hb hby at_58) rfl ((if0 _ _).trans (teq hc58_23).1) (by decide) (by decide) ?_
        exact kt
      exact ⟨T19, _, _, (0 : Int32), X19, hh19, N19, Zs18, K18, Od, E_b18, F_held_b18, F_waiting_b18, (by rw [if_pos hc58_23]; exact F_recordWaits_b18), F_recordWaitNanos_b18, F_endedRecordWaits_b18, F_longestRecordWaitNanos_b18, pre24⟩
    · obtain ⟨cq25, kq25, q25a, q25b, q25c⟩ := isOf hZ hh19 E_b18
      obtain ⟨_, _, ⟨T25, L25, k25, n25⟩, -, X25, ⟨Lc25, hQ25, l25, y25, z25⟩, st25⟩ := X19.virtualBack hx (y := (⟨"com/example/diligent_locks/diligentlocks/LockCounts", "waitStarted", "(Z)V"⟩ : MethodName)) (z := (⟨"com/example/diligent_locks/diligentlocks/LockCounts", "waitStarted", "(Z)V"⟩ : MethodName)) hown (mvT hZ (hw _ (List.mem_of_getElem? (i := 14) rfl))) (mvT hZ (hw _ (List.mem_of_getElem? (i := 15) rfl))) (notFace_of_selects (args := #[]) (mvT hZ (hw _ (List.mem_of_getElem? (i := 17) rfl)))) (mvT hZ (hw _ (List.mem_of_getElem? (i := 17) rfl))) (mvT hZ (hw _ (List.mem_of_getElem? (i := 16) rfl))) (by decide) (backOf (W := 0) (rm3 l Z a0 hw [] b18 (1 : Int32) (0 : Int64) (0 : Int32) (0 : Int64) (0 : Int64) (0 : Int64) (0 : Int64) h18 n0 Zs18 E_b18 F_held_b18 F_waiting_b18 F_recordWaits_b18 F_endedRecordWaits_b18 F_recordWaitNanos_b18 F_longestRecordWaitNanos_b18 g_b18) hZ (hw _ (List.mem_of_getElem? (i := 18) rfl)) (hw _ (List.mem_of_getElem? (i := 3) rfl)) (by decide) (by decide)) q25a q25c (g := (mkF m 64 #[.val (.int w'), .val (.long h'1), .second, .val (.int f'), .val (.long n'0), .second, .val (.int z1), .val (.int z2), .val (.int z3), .val (.long nn), .second, .val (.ref b18), .unset, .unset, .unset, .unset, .unset, .unset, .unset] [(.int (1 : Int32)), (.ref b18)])) rfl (by rw [hml]; rfl) (Steps.refl _) (argsL := [(.int (1 : Int32))]) (rest := []) (lenOf pd0_1 rfl) rfl (by show 2 * 0 + _ ≤ _; exact Nat.le_of_eq rfl) (hb hby at_64) (fun _ _ => ⟨rfl, hh19, (by decide : 1 + 0 ≤ _), (by decide : 6 + 0 ≤ _)⟩)
      dsimp only [Pt.U, Pt.locs, Pt.cells, Pt.slots] at X25 l25 y25 z25 st25 hQ25
      subst l25 y25 z25
      obtain ⟨rfl, N25q, Kq25, F_held_b18, F_waiting_b18, F_recordWaits_b18, F_endedRecordWaits_b18, F_recordWaitNanos_b18, F_longestRecordWaitNanos_b18⟩ := hQ25
      have N25 := Fr.app N19 N25q
      have Od := Od.keep Kq25 (allS g_b18 all0)
      have E_b18 := E_b18.keep Kq25
      have Zs25 : n0 ≤ T25.heap.size := Nat.le_trans Zs18 Kq25.1
      have K25 : Keep h0 T25.heap [] := K18.trans Kq25 (allS (Or.inr sz_b18) all0)
      rw [if_neg (by decide)] at F_recordWaits_b18
      have pre26 : ∀ t, Steps p.tables e below (T25.setTop (mkF m 67 #[.val (.int w'), .val (.long h'1), .second, .val (.int f'), .val (.long n'0), .second, .val (.int z1), .val (.int z2), .val (.int z3), .val (.long nn), .second, .val (.ref b18), .unset, .unset, .unset, .unset, .unset, .unset, .unset] [])) t → Steps p.tables e below (s₁.setTop (entryFrame m #[(.int w'), (.long h'1), (.int f'), (.long n'0)] maxLocals)) t := by
        intro t kt
        refine pre22 t ?_
        show Steps p.tables e below (T19.setTop (mkF m 58 #[.val (.int w'), .val (.long h'1), .second, .val (.int f'), .val (.long n'0), .second, .val (.int z1), .val (.int z2), .val (.int z3), .val (.long nn), .second, .val (.ref b18), .unset, .unset, .unset, .unset, .unset, .unset, .unset] [(.int z2)])) _
        refine XS.ifNo X19.here hx rfl (hb hby at_58) rfl ((if0 _ _).trans (feq hc58_23).1) ?_
        show Steps p.tables e below (T19.setTop (mkF m 61 #[.val (.int w'), .val (.long h'1), .second, .val (.int f'), .val (.long n'0), .second, .val (.int z1), .val (.int z2), .val (.int z3), .val (.long nn), .second, .val (.ref b18), .unset, .unset, .unset, .unset, .unset, .unset, .unset] [])) _
        refine XS.aload X19.here hx rfl (hb hby at_61) rfl rfl ?_
        show Steps p.tables e below (T19.setTop (mkF m 63 #[.val (.int w'), .val (.long h'1), .second, .val (.int f'), .val (.long n'0), .second, .val (.int z1), .val (.int z2), .val (.int z3), .val (.long nn), .second, .val (.ref b18), .unset, .unset, .unset, .unset, .unset, .unset, .unset] [(.ref b18)])) _
        refine XS.iconst X19.here hx rfl (hb hby at_63) ?_
        show Steps p.tables e below (T19.setTop (mkF m 64 #[.val (.int w'), .val (.long h'1), .second, .val (.int f'), .val (.long n'0), .second, .val (.int z1), .val (.int z2), .val (.int z3), .val (.long nn), .second, .val (.ref b18), .unset, .unset, .unset, .unset, .unset, .unset, .unset] [(.int (1 : Int32)), (.ref b18)])) _
        refine st25.trans ?_
        exact kt
      exact ⟨T25, _, _, ((0 : Int32) + (1 : Int32)), X25, rfl, N25, Zs25, K25, Od, E_b18, F_held_b18, F_waiting_b18, (by rw [if_neg hc58_23]; exact F_recordWaits_b18), F_recordWaitNanos_b18, F_endedRecordWaits_b18, F_longestRecordWaitNanos_b18, pre26⟩
  obtain ⟨T21, h21, L21, u1, X21, e21, N21, Zs21, K21, Od, E_b18, F_held_b18, F_waiting_b18, F_recordWaits_b18, F_recordWaitNanos_b18, F_endedRecordWaits_b18, F_longestRecordWaitNanos_b18, pre21⟩ := J21
  have J27 : ∃ (T' : State) (h' : Heap) (L' : List Loc) (u2 : Int32) , Stand p l e room_1 s m #[(.int w'), (.long h'1), (.int f'), (.long n'0)] below meth c T' L' 1 6 ∧ T'.heap = h' ∧ Fr n0 L' ∧ n0 ≤ h'.size ∧ Keep h0 h' [] ∧ Old Z n0 h' ∧ Exa Z h' b18 "com/example/diligent_locks/diligentlocks/LockCounts" ∧ Fld Z h' b18 "com/example/diligent_locks/diligentlocks/LockCounts" "held" "J" (.long (0 : Int64)) ∧ Fld Z h' b18 "com/example/diligent_locks/diligentlocks/LockCounts" "waiting" "I" (.int u2) ∧ Fld Z h' b18 "com/example/diligent_locks/diligentlocks/LockCounts" "recordWaits" "J" (.long (if z2 = (0 : Int32) then (0 : Int64) else ((0 : Int64) + (1 : Int64)))) ∧ Fld Z h' b18 "com/example/diligent_locks/diligentlocks/LockCounts" "recordWaitNanos" "J" (.long (if z3 = (0 : Int32) then (0 : Int64) else own_sat (0 : Int64) nn)) ∧ Fld Z h' b18 "com/example/diligent_locks/diligentlocks/LockCounts" "endedRecordWaits" "J" (.long (if z3 = (0 : Int32) then (0 : Int64) else ((0 : Int64) + (1 : Int64)))) ∧ Fld Z h' b18 "com/example/diligent_locks/diligentlocks/LockCounts" "longestRecordWaitNanos" "J" (.long (if z3 = (0 : Int32) then (0 : Int64) else own_max (0 : Int64) nn)) ∧ ∀ t, Steps p.tables e below (T'.setTop (mkF m 80 #[.val (.int w'), .val (.long h'1), .second, .val (.int f'), .val (.long n'0), .second, .val (.int z1), .val (.int z2), .val (.int z3), .val (.long nn), .second, .val (.ref b18), .unset, .unset, .unset, .unset, .unset, .unset, .unset] [])) t → Steps p.tables e below (s₁.setTop (entryFrame m #[(.int w'), (.long h'1), (.int f'), (.long n'0)] maxLocals)) t := by
    have pre28 : ∀ t, Steps p.tables e below (T21.setTop (mkF m 69 #[.val (.int w'), .val (.long h'1), .second, .val (.int f'), .val (.long n'0), .second, .val (.int z1), .val (.int z2), .val (.int z3), .val (.long nn), .second, .val (.ref b18), .unset, .unset, .unset, .unset, .unset, .unset, .unset] [(.int z3)])) t → Steps p.tables e below (s₁.setTop (entryFrame m #[(.int w'), (.long h'1), (.int f'), (.long n'0)] maxLocals)) t := by
      intro t kt
      refine pre21 t ?_
      show Steps p.tables e below (T21.setTop (mkF m 67 #[.val (.int w'), .val (.long h'1), .second, .val (.int f'), .val (.long n'0), .second, .val (.int z1), .val (.int z2), .val (.int z3), .val (.long nn), .second, .val (.ref b18), .unset, .unset, .unset, .unset, .unset, .unset, .unset] [])) _
      refine XS.iload X21.here hx rfl (hb hby at_67) rfl ?_
      exact kt
    by_cases hc69_29 : z3 = (0 : Int32)
    · have pre30 : ∀ t, Steps p.tables e below (T21.setTop (mkF m 80 #[.val (.int w'), .val (.long h'1), .second, .val (.int f'), .val (.long n'0), .second, .val (.int z1), .val (.int z2), .val (.int z3), .val (.long nn), .second, .val (.ref b18), .unset, .unset, .unset, .unset, .unset, .unset, .unset] [])) t → Steps p.tables e below (s₁.setTop (entryFrame m #[(.int w'), (.long h'1), (.int f'), (.long n'0)] maxLocals)) t := by
        intro t kt
        refine pre28 t ?_
        show Steps p.tables e below (T21.setTop (mkF m 69 #[.val (.int w'), .val (.long h'1), .second, .val (.int f'), .val (.long n'0), .second, .val (.int z1), .val (.int z2), .val (.int z3), .val (.long nn), .second, .val (.ref b18), .unset, .unset, .unset, .unset, .unset, .unset, .unset] [(.int z3)])) _
        refine XS.ifYes X21.here hx rfl (pc0 := 69) (pc' := 80) rfl (hb hby at_69) rfl ((if0 _ _).trans (teq hc69_29).1) (by decide) (by decide) ?_
        exact kt
      exact ⟨T21, _, _, u1, X21, e21, N21, Zs21, K21, Od, E_b18, F_held_b18, F_waiting_b18, F_recordWaits_b18, (by rw [if_pos hc69_29]; exact F_recordWaitNanos_b18), (by rw [if_pos hc69_29]; exact F_endedRecordWaits_b18), (by rw [if_pos hc69_29]; exact F_longestRecordWaitNanos_b18), pre30⟩
    · obtain ⟨cq31, kq31, q31a, q31b, q31c⟩ := isOf hZ e21 E_b18
      obtain ⟨_, _, ⟨T31, L31, k31, n31⟩, -, X31, ⟨Lc31, hQ31, l31, y31, z31⟩, st31⟩ := X21.virtualBack hx (y := (⟨"com/example/diligent_locks/diligentlocks/LockCounts", "waitEnded", "(ZJ)V"⟩ : MethodName)) (z := (⟨"com/example/diligent_locks/diligentlocks/LockCounts", "waitEnded", "(ZJ)V"⟩ : MethodName)) hown (mvT hZ (hw _ (List.mem_of_getElem? (i := 92) rfl))) (mvT hZ (hw _ (List.mem_of_getElem? (i := 93) rfl))) (notFace_of_selects (args := #[]) (mvT hZ (hw _ (List.mem_of_getElem? (i := 95) rfl)))) (mvT hZ (hw _ (List.mem_of_getElem? (i := 95) rfl))) (mvT hZ (hw _ (List.mem_of_getElem? (i := 94) rfl))) (by decide) (backOf (W := 0) (rm13 l Z a0 hw [] b18 (1 : Int32) nn (0 : Int64) u1 (if z2 = (0 : Int32) then (0 : Int64) else ((0 : Int64) + (1 : Int64))) (0 : Int64) (0 : Int64) (0 : Int64) h21 n0 Zs21 E_b18 F_held_b18 F_waiting_b18 F_recordWaits_b18 F_endedRecordWaits_b18 F_recordWaitNanos_b18 F_longestRecordWaitNanos_b18 g_b18 (by decide)) hZ (hw _ (List.mem_of_getElem? (i := 96) rfl)) (hw _ (List.mem_of_getElem? (i := 3) rfl)) (by decide) (by decide)) q31a q31c (g := (mkF m 77 #[.val (.int w'), .val (.long h'1), .second, .val (.int f'), .val (.long n'0), .second, .val (.int z1), .val (.int z2), .val (.int z3), .val (.long nn), .second, .val (.ref b18), .unset, .unset, .unset, .unset, .unset, .unset, .unset] [(.long nn), (.int (1 : Int32)), (.ref b18)])) rfl (by rw [hml]; rfl) (Steps.refl _) (argsL := [(.int (1 : Int32)), (.long nn)]) (rest := []) (lenOf pd0_2 rfl) rfl (by show 2 * 0 + _ ≤ _; exact Nat.le_of_eq rfl) (hb hby at_77) (fun _ _ => ⟨rfl, e21, (by decide : 1 + 0 ≤ _), (by decide : 6 + 0 ≤ _)⟩)
      dsimp only [Pt.U, Pt.locs, Pt.cells, Pt.slots] at X31 l31 y31 z31 st31 hQ31
      subst l31 y31 z31
      obtain ⟨rfl, N31q, Kq31, F_held_b18, F_waiting_b18, F_recordWaits_b18, F_endedRecordWaits_b18, F_recordWaitNanos_b18, F_longestRecordWaitNanos_b18⟩ := hQ31
      have N31 := Fr.app N21 N31q
      have Od := Od.keep Kq31 (allS g_b18 all0)
      have E_b18 := E_b18.keep Kq31
      have Zs31 : n0 ≤ T31.heap.size := Nat.le_trans Zs21 Kq31.1
      have K31 : Keep h0 T31.heap [] := K21.trans Kq31 (allS (Or.inr sz_b18) all0)
      have pre32 : ∀ t, Steps p.tables e below (T31.setTop (mkF m 80 #[.val (.int w'), .val (.long h'1), .second, .val (.int f'), .val (.long n'0), .second, .val (.int z1), .val (.int z2), .val (.int z3), .val (.long nn), .second, .val (.ref b18), .unset, .unset, .unset, .unset, .unset, .unset, .unset] [])) t → Steps p.tables e below (s₁.setTop (entryFrame m #[(.int w'), (.long h'1), (.int f'), (.long n'0)] maxLocals)) t := by
        intro t kt
        refine pre28 t ?_
        show Steps p.tables e below (T21.setTop (mkF m 69 #[.val (.int w'), .val (.long h'1), .second, .val (.int f'), .val (.long n'0), .second, .val (.int z1), .val (.int z2), .val (.int z3), .val (.long nn), .second, .val (.ref b18), .unset, .unset, .unset, .unset, .unset, .unset, .unset] [(.int z3)])) _
        refine XS.ifNo X21.here hx rfl (hb hby at_69) rfl ((if0 _ _).trans (feq hc69_29).1) ?_
        show Steps p.tables e below (T21.setTop (mkF m 72 #[.val (.int w'), .val (.long h'1), .second, .val (.int f'), .val (.long n'0), .second, .val (.int z1), .val (.int z2), .val (.int z3), .val (.long nn), .second, .val (.ref b18), .unset, .unset, .unset, .unset, .unset, .unset, .unset] [])) _
        refine XS.aload X21.here hx rfl (hb hby at_72) rfl rfl ?_
        show Steps p.tables e below (T21.setTop (mkF m 74 #[.val (.int w'), .val (.long h'1), .second, .val (.int f'), .val (.long n'0), .second, .val (.int z1), .val (.int z2), .val (.int z3), .val (.long nn), .second, .val (.ref b18), .unset, .unset, .unset, .unset, .unset, .unset, .unset] [(.ref b18)])) _
        refine XS.iconst X21.here hx rfl (hb hby at_74) ?_
        show Steps p.tables e below (T21.setTop (mkF m 75 #[.val (.int w'), .val (.long h'1), .second, .val (.int f'), .val (.long n'0), .second, .val (.int z1), .val (.int z2), .val (.int z3), .val (.long nn), .second, .val (.ref b18), .unset, .unset, .unset, .unset, .unset, .unset, .unset] [(.int (1 : Int32)), (.ref b18)])) _
        refine XS.lload X21.here hx rfl (hb hby at_75) rfl ?_
        show Steps p.tables e below (T21.setTop (mkF m 77 #[.val (.int w'), .val (.long h'1), .second, .val (.int f'), .val (.long n'0), .second, .val (.int z1), .val (.int z2), .val (.int z3), .val (.long nn), .second, .val (.ref b18), .unset, .unset, .unset, .unset, .unset, .unset, .unset] [(.long nn), (.int (1 : Int32)), (.ref b18)])) _
        refine st31.trans ?_
        exact kt
      exact ⟨T31, _, _, (u1 - (1 : Int32)), X31, rfl, N31, Zs31, K31, Od, E_b18, F_held_b18, F_waiting_b18, F_recordWaits_b18, (by rw [if_neg hc69_29]; exact F_recordWaitNanos_b18), (by rw [if_neg hc69_29]; exact F_endedRecordWaits_b18), (by rw [if_neg hc69_29]; exact F_longestRecordWaitNanos_b18), pre32⟩
  obtain ⟨T27, h27, L27, u2, X27, e27, N27, Zs27, K27, Od, E_b18, F_held_b18, F_waiting_b18, F_recordWaits_b18, F_recordWaitNanos_b18, F_endedRecordWaits_b18, F_longestRecordWaitNanos_b18, pre27⟩ := J27
  obtain ⟨T33, h33, X33, e33, W33, st33⟩ := putF X27 hx hZ hown (host := "") (Or.inl (hw _ (List.mem_of_getElem? (i := 10) rfl))) Via.refl e27 F_held_b18 E_b18 (Or.inl (hw _ (List.mem_of_getElem? (i := 11) rfl))) (hw _ (List.mem_of_getElem? (i := 2) rfl)) (ty := .long) (by decide) rfl rfl (g := (mkF m 83 #[.val (.int w'), .val (.long h'1), .second, .val (.int f'), .val (.long n'0), .second, .val (.int z1), .val (.int z2), .val (.int z3), .val (.long nn), .second, .val (.ref b18), .unset, .unset, .unset, .unset, .unset, .unset, .unset] [(.long h'1), (.ref b18)])) rfl rfl (hb hby at_83)
  have Od := Od.wr W33 g_b18
  have E_b18 := E_b18.wr W33
  have F_held_b18 := F_held_b18.same W33
  have F_waiting_b18 := F_waiting_b18.other W33 (Or.inr (slot_ne (Or.inl (hw _ (List.mem_of_getElem? (i := 13) rfl))) (Or.inl (hw _ (List.mem_of_getElem? (i := 11) rfl))) (by decide) (t := .int) (t' := .long) (by decide) (by decide)))
  have F_recordWaits_b18 := F_recordWaits_b18.other W33 (Or.inr (slot_ne (Or.inl (hw _ (List.mem_of_getElem? (i := 21) rfl))) (Or.inl (hw _ (List.mem_of_getElem? (i := 11) rfl))) (by decide) (t := .long) (t' := .long) (by decide) (by decide)))
  have F_recordWaitNanos_b18 := F_recordWaitNanos_b18.other W33 (Or.inr (slot_ne (Or.inl (hw _ (List.mem_of_getElem? (i := 30) rfl))) (Or.inl (hw _ (List.mem_of_getElem? (i := 11) rfl))) (by decide) (t := .long) (t' := .long) (by decide) (by decide)))
  have F_endedRecordWaits_b18 := F_endedRecordWaits_b18.other W33 (Or.inr (slot_ne (Or.inl (hw _ (List.mem_of_getElem? (i := 42) rfl))) (Or.inl (hw _ (List.mem_of_getElem? (i := 11) rfl))) (by decide) (t := .long) (t' := .long) (by decide) (by decide)))
  have F_longestRecordWaitNanos_b18 := F_longestRecordWaitNanos_b18.other W33 (Or.inr (slot_ne (Or.inl (hw _ (List.mem_of_getElem? (i := 47) rfl))) (Or.inl (hw _ (List.mem_of_getElem? (i := 11) rfl))) (by decide) (t := .long) (t' := .long) (by decide) (by decide)))
  have Zs33 : n0 ≤ h33.size := Nat.le_trans Zs27 (Keep.of_wr W33).1
  have K33 : Keep h0 h33 [] := K27.wr W33 (Or.inr sz_b18)
  have N33 := Fr.snoc X33 N27 g_b18
  obtain ⟨T34, h34, X34, e34, W34, st34⟩ := putF X33 hx hZ hown (host := "") (Or.inl (hw _ (List.mem_of_getElem? (i := 12) rfl))) Via.refl e33 F_waiting_b18 E_b18 (Or.inl (hw _ (List.mem_of_getElem? (i := 13) rfl))) (hw _ (List.mem_of_getElem? (i := 2) rfl)) (ty := .int) (by decide) rfl rfl (g := (mkF m 89 #[.val (.int w'), .val (.long h'1), .second, .val (.int f'), .val (.long n'0), .second, .val (.int z1), .val (.int z2), .val (.int z3), .val (.long nn), .second, .val (.ref b18), .unset, .unset, .unset, .unset, .unset, .unset, .unset] [(.int w'), (.ref b18)])) rfl rfl (hb hby at_89)
  have Od := Od.wr W34 g_b18
  have E_b18 := E_b18.wr W34
  have F_held_b18 := F_held_b18.other W34 (Or.inr (slot_ne (Or.inl (hw _ (List.mem_of_getElem? (i := 11) rfl))) (Or.inl (hw _ (List.mem_of_getElem? (i := 13) rfl))) (by decide) (t := .long) (t' := .int) (by decide) (by decide)))
  have F_waiting_b18 := F_waiting_b18.same W34
  have F_recordWaits_b18 := F_recordWaits_b18.other W34 (Or.inr (slot_ne (Or.inl (hw _ (List.mem_of_getElem? (i := 21) rfl))) (Or.inl (hw _ (List.mem_of_getElem? (i := 13) rfl))) (by decide) (t := .long) (t' := .int) (by decide) (by decide)))
  have F_recordWaitNanos_b18 := F_recordWaitNanos_b18.other W34 (Or.inr (slot_ne (Or.inl (hw _ (List.mem_of_getElem? (i := 30) rfl))) (Or.inl (hw _ (List.mem_of_getElem? (i := 13) rfl))) (by decide) (t := .long) (t' := .int) (by decide) (by decide)))
  have F_endedRecordWaits_b18 := F_endedRecordWaits_b18.other W34 (Or.inr (slot_ne (Or.inl (hw _ (List.mem_of_getElem? (i := 42) rfl))) (Or.inl (hw _ (List.mem_of_getElem? (i := 13) rfl))) (by decide) (t := .long) (t' := .int) (by decide) (by decide)))
  have F_longestRecordWaitNanos_b18 := F_longestRecordWaitNanos_b18.other W34 (Or.inr (slot_ne (Or.inl (hw _ (List.mem_of_getElem? (i := 47) rfl))) (Or.inl (hw _ (List.mem_of_getElem? (i := 13) rfl))) (by decide) (t := .long) (t' := .int) (by decide) (by decide)))
  have Zs34 : n0 ≤ h34.size := Nat.le_trans Zs33 (Keep.of_wr W34).1
  have K34 : Keep h0 h34 [] := K33.wr W34 (Or.inr sz_b18)
  have N34 := Fr.snoc X34 N33 g_b18
  obtain ⟨cq35, kq35, q35a, q35b, q35c⟩ := isOf hZ e34 E_b18
  obtain ⟨_, _, ⟨T35, L35, k35, n35⟩, -, X35, ⟨Lc35, hQ35, l35, y35, z35⟩, st35⟩ := X34.virtualBack hx (y := (⟨"com/example/diligent_locks/diligentlocks/LockCounts", "waitStarted", "(Z)V"⟩ : MethodName)) (z := (⟨"com/example/diligent_locks/diligentlocks/LockCounts", "waitStarted", "(Z)V"⟩ : MethodName)) hown (mvT hZ (hw _ (List.mem_of_getElem? (i := 14) rfl))) (mvT hZ (hw _ (List.mem_of_getElem? (i := 15) rfl))) (notFace_of_selects (args := #[]) (mvT hZ (hw _ (List.mem_of_getElem? (i := 17) rfl)))) (mvT hZ (hw _ (List.mem_of_getElem? (i := 17) rfl))) (mvT hZ (hw _ (List.mem_of_getElem? (i := 16) rfl))) (by decide) (backOf (W := 0) (rm3 l Z a0 hw [] b18 z1 h'1 w' (if z2 = (0 : Int32) then (0 : Int64) else ((0 : Int64) + (1 : Int64))) (if z3 = (0 : Int32) then (0 : Int64) else ((0 : Int64) + (1 : Int64))) (if z3 = (0 : Int32) then (0 : Int64) else own_sat (0 : Int64) nn) (if z3 = (0 : Int32) then (0 : Int64) else own_max (0 : Int64) nn) h34 n0 Zs34 E_b18 F_held_b18 F_waiting_b18 F_recordWaits_b18 F_endedRecordWaits_b18 F_recordWaitNanos_b18 F_longestRecordWaitNanos_b18 g_b18) hZ (hw _ (List.mem_of_getElem? (i := 18) rfl)) (hw _ (List.mem_of_getElem? (i := 3) rfl)) (by decide) (by decide)) q35a q35c (g := (mkF m 96 #[.val (.int w'), .val (.long h'1), .second, .val (.int f'), .val (.long n'0), .second, .val (.int z1), .val (.int z2), .val (.int z3), .val (.long nn), .second, .val (.ref b18), .unset, .unset, .unset, .unset, .unset, .unset, .unset] [(.int z1), (.ref b18)])) rfl (by rw [hml]; rfl) (Steps.refl _) (argsL := [(.int z1)]) (rest := []) (lenOf pd0_1 rfl) rfl (by show 2 * 0 + _ ≤ _; exact Nat.le_of_eq rfl) (hb hby at_96) (fun _ _ => ⟨rfl, e34, (by decide : 1 + 0 ≤ _), (by decide : 6 + 0 ≤ _)⟩)
  dsimp only [Pt.U, Pt.locs, Pt.cells, Pt.slots] at X35 l35 y35 z35 st35 hQ35
  subst l35 y35 z35
  obtain ⟨rfl, N35q, Kq35, F_held_b18, F_waiting_b18, F_recordWaits_b18, F_endedRecordWaits_b18, F_recordWaitNanos_b18, F_longestRecordWaitNanos_b18⟩ := hQ35
  have N35 := Fr.app N34 N35q
  have Od := Od.keep Kq35 (allS g_b18 all0)
  have E_b18 := E_b18.keep Kq35
  have Zs35 : n0 ≤ T35.heap.size := Nat.le_trans Zs34 Kq35.1
  have K35 : Keep h0 T35.heap [] := K34.trans Kq35 (allS (Or.inr sz_b18) all0)
  obtain ⟨cq36, kq36, q36a, q36b, q36c⟩ := isOf hZ rfl E_b18
  obtain ⟨_, _, ⟨T36, L36, k36, n36⟩, -, X36, ⟨Lc36, hQ36, l36, y36, z36⟩, st36⟩ := X35.virtualBack hx (y := (⟨"com/example/diligent_locks/diligentlocks/LockCounts", "recordLockWaits", "()Lcom/example/diligent_locks/diligentlocks/RecordLockWaits;"⟩ : MethodName)) (z := (⟨"com/example/diligent_locks/diligentlocks/LockCounts", "recordLockWaits", "()Lcom/example/diligent_locks/diligentlocks/RecordLockWaits;"⟩ : MethodName)) hown (mvT hZ (hw _ (List.mem_of_getElem? (i := 22) rfl))) (mvT hZ (hw _ (List.mem_of_getElem? (i := 23) rfl))) (notFace_of_selects (args := #[]) (mvT hZ (hw _ (List.mem_of_getElem? (i := 25) rfl)))) (mvT hZ (hw _ (List.mem_of_getElem? (i := 25) rfl))) (mvT hZ (hw _ (List.mem_of_getElem? (i := 24) rfl))) (by decide) (backOf (W := 0) (rm4 l Z a0 hw [] b18 h'1 (w' + (1 : Int32)) (if z1 = (0 : Int32) then (if z2 = (0 : Int32) then (0 : Int64) else ((0 : Int64) + (1 : Int64))) else ((if z2 = (0 : Int32) then (0 : Int64) else ((0 : Int64) + (1 : Int64))) + (1 : Int64))) (if z3 = (0 : Int32) then (0 : Int64) else ((0 : Int64) + (1 : Int64))) (if z3 = (0 : Int32) then (0 : Int64) else own_sat (0 : Int64) nn) (if z3 = (0 : Int32) then (0 : Int64) else own_max (0 : Int64) nn) ns T35.heap n0 Zs35 E_b18 F_held_b18 F_waiting_b18 F_recordWaits_b18 F_endedRecordWaits_b18 F_recordWaitNanos_b18 F_longestRecordWaitNanos_b18 Od S_NANOSECONDS E_ns F_scale_ns F_milliRatio_ns) hZ (hw _ (List.mem_of_getElem? (i := 26) rfl)) (hw _ (List.mem_of_getElem? (i := 3) rfl)) (by decide) (by decide)) q36a q36c (g := (mkF m 101 #[.val (.int w'), .val (.long h'1), .second, .val (.int f'), .val (.long n'0), .second, .val (.int z1), .val (.int z2), .val (.int z3), .val (.long nn), .second, .val (.ref b18), .unset, .unset, .unset, .unset, .unset, .unset, .unset] [(.ref b18)])) rfl (by rw [hml]; rfl) (Steps.refl _) (argsL := []) (rest := []) (lenOf pd0_3 rfl) rfl (by show 2 * 0 + _ ≤ _; exact Nat.le_of_eq rfl) (hb hby at_101) (fun _ _ => ⟨rfl, rfl, (by decide : 1 + 1 ≤ _), (by decide : 6 + 5 ≤ _)⟩)
  dsimp only [Pt.U, Pt.locs, Pt.cells, Pt.slots] at X36 l36 y36 z36 st36 hQ36
  subst l36 y36 z36
  obtain ⟨r', rfl, N36q, Kq36, g_r', sz_r', E_r', F_currentWaits_r', F_waits_r', F_totalWaitMillis_r', F_averageWaitMillis_r', F_longestWaitMillis_r'⟩ := hQ36
  have N36 := Fr.app N35 N36q
  have Od := Od.keep Kq36 all0
  have E_b18 := E_b18.keep Kq36
  have F_held_b18 := F_held_b18.keep Kq36 nin0
  have F_waiting_b18 := F_waiting_b18.keep Kq36 nin0
  have F_recordWaits_b18 := F_recordWaits_b18.keep Kq36 nin0
  have F_endedRecordWaits_b18 := F_endedRecordWaits_b18.keep Kq36 nin0
  have F_recordWaitNanos_b18 := F_recordWaitNanos_b18.keep Kq36 nin0
  have F_longestRecordWaitNanos_b18 := F_longestRecordWaitNanos_b18.keep Kq36 nin0
  have Zs36 : n0 ≤ T36.heap.size := Nat.le_trans Zs35 Kq36.1
  have K36 : Keep h0 T36.heap [] := K35.trans Kq36 all0
  have pre37 : ∀ t, Steps p.tables e below (T36.setTop (mkF m 106 #[.val (.int w'), .val (.long h'1), .second, .val (.int f'), .val (.long n'0), .second, .val (.int z1), .val (.int z2), .val (.int z3), .val (.long nn), .second, .val (.ref b18), .val (.ref r'), .unset, .unset, .unset, .unset, .unset, .unset] [])) t → Steps p.tables e below (s₁.setTop (entryFrame m #[(.int w'), (.long h'1), (.int f'), (.long n'0)] maxLocals)) t := by
    intro t kt
    refine pre27 t ?_
    show Steps p.tables e below (T27.setTop (mkF m 80 #[.val (.int w'), .val (.long h'1), .second, .val (.int f'), .val (.long n'0), .second, .val (.int z1), .val (.int z2), .val (.int z3), .val (.long nn), .second, .val (.ref b18), .unset, .unset, .unset, .unset, .unset, .unset, .unset] [])) _
    refine XS.aload X27.here hx rfl (hb hby at_80) rfl rfl ?_
    show Steps p.tables e below (T27.setTop (mkF m 82 #[.val (.int w'), .val (.long h'1), .second, .val (.int f'), .val (.long n'0), .second, .val (.int z1), .val (.int z2), .val (.int z3), .val (.long nn), .second, .val (.ref b18), .unset, .unset, .unset, .unset, .unset, .unset, .unset] [(.ref b18)])) _
    refine XS.lloadN X27.here hx rfl (hb hby at_82) rfl ?_
    show Steps p.tables e below (T27.setTop (mkF m 83 #[.val (.int w'), .val (.long h'1), .second, .val (.int f'), .val (.long n'0), .second, .val (.int z1), .val (.int z2), .val (.int z3), .val (.long nn), .second, .val (.ref b18), .unset, .unset, .unset, .unset, .unset, .unset, .unset] [(.long h'1), (.ref b18)])) _
    refine st33 _ ?_
    show Steps p.tables e below (T33.setTop (mkF m 86 #[.val (.int w'), .val (.long h'1), .second, .val (.int f'), .val (.long n'0), .second, .val (.int z1), .val (.int z2), .val (.int z3), .val (.long nn), .second, .val (.ref b18), .unset, .unset, .unset, .unset, .unset, .unset, .unset] [])) _
    refine XS.aload X33.here hx rfl (hb hby at_86) rfl rfl ?_
    show Steps p.tables e below (T33.setTop (mkF m 88 #[.val (.int w'), .val (.long h'1), .second, .val (.int f'), .val (.long n'0), .second, .val (.int z1), .val (.int z2), .val (.int z3), .val (.long nn), .second, .val (.ref b18), .unset, .unset, .unset, .unset, .unset, .unset, .unset] [(.ref b18)])) _
    refine XS.iloadN X33.here hx rfl (hb hby at_88) rfl ?_
    show Steps p.tables e below (T33.setTop (mkF m 89 #[.val (.int w'), .val (.long h'1), .second, .val (.int f'), .val (.long n'0), .second, .val (.int z1), .val (.int z2), .val (.int z3), .val (.long nn), .second, .val (.ref b18), .unset, .unset, .unset, .unset, .unset, .unset, .unset] [(.int w'), (.ref b18)])) _
    refine st34 _ ?_
    show Steps p.tables e below (T34.setTop (mkF m 92 #[.val (.int w'), .val (.long h'1), .second, .val (.int f'), .val (.long n'0), .second, .val (.int z1), .val (.int z2), .val (.int z3), .val (.long nn), .second, .val (.ref b18), .unset, .unset, .unset, .unset, .unset, .unset, .unset] [])) _
    refine XS.aload X34.here hx rfl (hb hby at_92) rfl rfl ?_
    show Steps p.tables e below (T34.setTop (mkF m 94 #[.val (.int w'), .val (.long h'1), .second, .val (.int f'), .val (.long n'0), .second, .val (.int z1), .val (.int z2), .val (.int z3), .val (.long nn), .second, .val (.ref b18), .unset, .unset, .unset, .unset, .unset, .unset, .unset] [(.ref b18)])) _
    refine XS.iload X34.here hx rfl (hb hby at_94) rfl ?_
    show Steps p.tables e below (T34.setTop (mkF m 96 #[.val (.int w'), .val (.long h'1), .second, .val (.int f'), .val (.long n'0), .second, .val (.int z1), .val (.int z2), .val (.int z3), .val (.long nn), .second, .val (.ref b18), .unset, .unset, .unset, .unset, .unset, .unset, .unset] [(.int z1), (.ref b18)])) _
    refine st35.trans ?_
    show Steps p.tables e below (T35.setTop (mkF m 99 #[.val (.int w'), .val (.long h'1), .second, .val (.int f'), .val (.long n'0), .second, .val (.int z1), .val (.int z2), .val (.int z3), .val (.long nn), .second, .val (.ref b18), .unset, .unset, .unset, .unset, .unset, .unset, .unset] [])) _
    refine XS.aload X35.here hx rfl (hb hby at_99) rfl rfl ?_
    show Steps p.tables e below (T35.setTop (mkF m 101 #[.val (.int w'), .val (.long h'1), .second, .val (.int f'), .val (.long n'0), .second, .val (.int z1), .val (.int z2), .val (.int z3), .val (.long nn), .second, .val (.ref b18), .unset, .unset, .unset, .unset, .unset, .unset, .unset] [(.ref b18)])) _
    refine st36.trans ?_
    show Steps p.tables e below (T36.setTop (mkF m 104 #[.val (.int w'), .val (.long h'1), .second, .val (.int f'), .val (.long n'0), .second, .val (.int z1), .val (.int z2), .val (.int z3), .val (.long nn), .second, .val (.ref b18), .unset, .unset, .unset, .unset, .unset, .unset, .unset] [(.ref r')])) _
    refine XS.astore X36.here hx rfl (hb hby at_104) rfl rfl (l' := #[.val (.int w'), .val (.long h'1), .second, .val (.int f'), .val (.long n'0), .second, .val (.int z1), .val (.int z2), .val (.int z3), .val (.long nn), .second, .val (.ref b18), .val (.ref r'), .unset, .unset, .unset, .unset, .unset, .unset]) rfl ?_
    exact kt
  have J38 : ∃ (wa : Int64), (wa = (if z2 = (0 : Int32) then (0 : Int64) else (1 : Int64))) ∧ ∀ t, Steps p.tables e below (T36.setTop (mkF m 116 #[.val (.int w'), .val (.long h'1), .second, .val (.int f'), .val (.long n'0), .second, .val (.int z1), .val (.int z2), .val (.int z3), .val (.long nn), .second, .val (.ref b18), .val (.ref r'), .unset, .unset, .unset, .unset, .unset, .unset] [(.long wa)])) t → Steps p.tables e below (s₁.setTop (entryFrame m #[(.int w'), (.long h'1), (.int f'), (.long n'0)] maxLocals)) t := by
    have pre39 : ∀ t, Steps p.tables e below (T36.setTop (mkF m 108 #[.val (.int w'), .val (.long h'1), .second, .val (.int f'), .val (.long n'0), .second, .val (.int z1), .val (.int z2), .val (.int z3), .val (.long nn), .second, .val (.ref b18), .val (.ref r'), .unset, .unset, .unset, .unset, .unset, .unset] [(.int z2)])) t → Steps p.tables e below (s₁.setTop (entryFrame m #[(.int w'), (.long h'1), (.int f'), (.long n'0)] maxLocals)) t := by
      intro t kt
      refine pre37 t ?_
      show Steps p.tables e below (T36.setTop (mkF m 106 #[.val (.int w'), .val (.long h'1), .second, .val (.int f'), .val (.long n'0), .second, .val (.int z1), .val (.int z2), .val (.int z3), .val (.long nn), .second, .val (.ref b18), .val (.ref r'), .unset, .unset, .unset, .unset, .unset, .unset] [])) _
      refine XS.iload X36.here hx rfl (hb hby at_106) rfl ?_
      exact kt
    by_cases hc108_40 : z2 = (0 : Int32)
    · have pre41 : ∀ t, Steps p.tables e below (T36.setTop (mkF m 116 #[.val (.int w'), .val (.long h'1), .second, .val (.int f'), .val (.long n'0), .second, .val (.int z1), .val (.int z2), .val (.int z3), .val (.long nn), .second, .val (.ref b18), .val (.ref r'), .unset, .unset, .unset, .unset, .unset, .unset] [(.long (0 : Int64))])) t → Steps p.tables e below (s₁.setTop (entryFrame m #[(.int w'), (.long h'1), (.int f'), (.long n'0)] maxLocals)) t := by
        intro t kt
        refine pre39 t ?_
        show Steps p.tables e below (T36.setTop (mkF m 108 #[.val (.int w'), .val (.long h'1), .second, .val (.int f'), .val (.long n'0), .second, .val (.int z1), .val (.int z2), .val (.int z3), .val (.long nn), .second, .val (.ref b18), .val (.ref r'), .unset, .unset, .unset, .unset, .unset, .unset] [(.int z2)])) _
        refine XS.ifYes X36.here hx rfl (pc0 := 108) (pc' := 115) rfl (hb hby at_108) rfl ((if0 _ _).trans (teq hc108_40).1) (by decide) (by decide) ?_
        show Steps p.tables e below (T36.setTop (mkF m 115 #[.val (.int w'), .val (.long h'1), .second, .val (.int f'), .val (.long n'0), .second, .val (.int z1), .val (.int z2), .val (.int z3), .val (.long nn), .second, .val (.ref b18), .val (.ref r'), .unset, .unset, .unset, .unset, .unset, .unset] [])) _
        refine XS.lconst X36.here hx rfl (hb hby at_115) ?_
        exact kt
      exact ⟨(0 : Int64), (if_pos hc108_40).symm, pre41⟩
    · have pre42 : ∀ t, Steps p.tables e below (T36.setTop (mkF m 116 #[.val (.int w'), .val (.long h'1), .second, .val (.int f'), .val (.long n'0), .second, .val (.int z1), .val (.int z2), .val (.int z3), .val (.long nn), .second, .val (.ref b18), .val (.ref r'), .unset, .unset, .unset, .unset, .unset, .unset] [(.long (1 : Int64))])) t → Steps p.tables e below (s₁.setTop (entryFrame m #[(.int w'), (.long h'1), (.int f'), (.long n'0)] maxLocals)) t := by
        intro t kt
        refine pre39 t ?_
        show Steps p.tables e below (T36.setTop (mkF m 108 #[.val (.int w'), .val (.long h'1), .second, .val (.int f'), .val (.long n'0), .second, .val (.int z1), .val (.int z2), .val (.int z3), .val (.long nn), .second, .val (.ref b18), .val (.ref r'), .unset, .unset, .unset, .unset, .unset, .unset] [(.int z2)])) _
        refine XS.ifNo X36.here hx rfl (hb hby at_108) rfl ((if0 _ _).trans (feq hc108_40).1) ?_
        show Steps p.tables e below (T36.setTop (mkF m 111 #[.val (.int w'), .val (.long h'1), .second, .val (.int f'), .val (.long n'0), .second, .val (.int z1), .val (.int z2), .val (.int z3), .val (.long nn), .second, .val (.ref b18), .val (.ref r'), .unset, .unset, .unset, .unset, .unset, .unset] [])) _
        refine XS.lconst X36.here hx rfl (hb hby at_111) ?_
        show Steps p.tables e below (T36.setTop (mkF m 112 #[.val (.int w'), .val (.long h'1), .second, .val (.int f'), .val (.long n'0), .second, .val (.int z1), .val (.int z2), .val (.int z3), .val (.long nn), .second, .val (.ref b18), .val (.ref r'), .unset, .unset, .unset, .unset, .unset, .unset] [(.long (1 : Int64))])) _
        refine XS.goto X36.here hx rfl (pc0 := 112) (pc' := 116) rfl (hb hby at_112) (by decide) (by decide) ?_
        exact kt
      exact ⟨(1 : Int64), (if_neg hc108_40).symm, pre42⟩
  obtain ⟨wa, hJ38, pre38⟩ := J38
  have hwa := hJ38
  have J43 : ∃ (wb : Int64), (wb = (if z1 = (0 : Int32) then (0 : Int64) else (1 : Int64))) ∧ ∀ t, Steps p.tables e below (T36.setTop (mkF m 126 #[.val (.int w'), .val (.long h'1), .second, .val (.int f'), .val (.long n'0), .second, .val (.int z1), .val (.int z2), .val (.int z3), .val (.long nn), .second, .val (.ref b18), .val (.ref r'), .unset, .unset, .unset, .unset, .unset, .unset] [(.long wb), (.long wa)])) t → Steps p.tables e below (s₁.setTop (entryFrame m #[(.int w'), (.long h'1), (.int f'), (.long n'0)] maxLocals)) t := by
    have pre44 : ∀ t, Steps p.tables e below (T36.setTop (mkF m 118 #[.val (.int w'), .val (.long h'1), .second, .val (.int f'), .val (.long n'0), .second, .val (.int z1), .val (.int z2), .val (.int z3), .val (.long nn), .second, .val (.ref b18), .val (.ref r'), .unset, .unset, .unset, .unset, .unset, .unset] [(.int z1), (.long wa)])) t → Steps p.tables e below (s₁.setTop (entryFrame m #[(.int w'), (.long h'1), (.int f'), (.long n'0)] maxLocals)) t := by
      intro t kt
      refine pre38 t ?_
      show Steps p.tables e below (T36.setTop (mkF m 116 #[.val (.int w'), .val (.long h'1), .second, .val (.int f'), .val (.long n'0), .second, .val (.int z1), .val (.int z2), .val (.int z3), .val (.long nn), .second, .val (.ref b18), .val (.ref r'), .unset, .unset, .unset, .unset, .unset, .unset] [(.long wa)])) _
      refine XS.iload X36.here hx rfl (hb hby at_116) rfl ?_
      exact kt
    by_cases hc118_45 : z1 = (0 : Int32)
    · have pre46 : ∀ t, Steps p.tables e below (T36.setTop (mkF m 126 #[.val (.int w'), .val (.long h'1), .second, .val (.int f'), .val (.long n'0), .second, .val (.int z1), .val (.int z2), .val (.int z3), .val (.long nn), .second, .val (.ref b18), .val (.ref r'), .unset, .unset, .unset, .unset, .unset, .unset] [(.long (0 : Int64)), (.long wa)])) t → Steps p.tables e below (s₁.setTop (entryFrame m #[(.int w'), (.long h'1), (.int f'), (.long n'0)] maxLocals)) t := by
        intro t kt
        refine pre44 t ?_
        show Steps p.tables e below (T36.setTop (mkF m 118 #[.val (.int w'), .val (.long h'1), .second, .val (.int f'), .val (.long n'0), .second, .val (.int z1), .val (.int z2), .val (.int z3), .val (.long nn), .second, .val (.ref b18), .val (.ref r'), .unset, .unset, .unset, .unset, .unset, .unset] [(.int z1), (.long wa)])) _
        refine XS.ifYes X36.here hx rfl (pc0 := 118) (pc' := 125) rfl (hb hby at_118) rfl ((if0 _ _).trans (teq hc118_45).1) (by decide) (by decide) ?_
        show Steps p.tables e below (T36.setTop (mkF m 125 #[.val (.int w'), .val (.long h'1), .second, .val (.int f'), .val (.long n'0), .second, .val (.int z1), .val (.int z2), .val (.int z3), .val (.long nn), .second, .val (.ref b18), .val (.ref r'), .unset, .unset, .unset, .unset, .unset, .unset] [(.long wa)])) _
        refine XS.lconst X36.here hx rfl (hb hby at_125) ?_
        exact kt
      exact ⟨(0 : Int64), (if_pos hc118_45).symm, pre46⟩
    · have pre47 : ∀ t, Steps p.tables e below (T36.setTop (mkF m 126 #[.val (.int w'), .val (.long h'1), .second, .val (.int f'), .val (.long n'0), .second, .val (.int z1), .val (.int z2), .val (.int z3), .val (.long nn), .second, .val (.ref b18), .val (.ref r'), .unset, .unset, .unset, .unset, .unset, .unset] [(.long (1 : Int64)), (.long wa)])) t → Steps p.tables e below (s₁.setTop (entryFrame m #[(.int w'), (.long h'1), (.int f'), (.long n'0)] maxLocals)) t := by
        intro t kt
        refine pre44 t ?_
        show Steps p.tables e below (T36.setTop (mkF m 118 #[.val (.int w'), .val (.long h'1), .second, .val (.int f'), .val (.long n'0), .second, .val (.int z1), .val (.int z2), .val (.int z3), .val (.long nn), .second, .val (.ref b18), .val (.ref r'), .unset, .unset, .unset, .unset, .unset, .unset] [(.int z1), (.long wa)])) _
        refine XS.ifNo X36.here hx rfl (hb hby at_118) rfl ((if0 _ _).trans (feq hc118_45).1) ?_
        show Steps p.tables e below (T36.setTop (mkF m 121 #[.val (.int w'), .val (.long h'1), .second, .val (.int f'), .val (.long n'0), .second, .val (.int z1), .val (.int z2), .val (.int z3), .val (.long nn), .second, .val (.ref b18), .val (.ref r'), .unset, .unset, .unset, .unset, .unset, .unset] [(.long wa)])) _
        refine XS.lconst X36.here hx rfl (hb hby at_121) ?_
        show Steps p.tables e below (T36.setTop (mkF m 122 #[.val (.int w'), .val (.long h'1), .second, .val (.int f'), .val (.long n'0), .second, .val (.int z1), .val (.int z2), .val (.int z3), .val (.long nn), .second, .val (.ref b18), .val (.ref r'), .unset, .unset, .unset, .unset, .unset, .unset] [(.long (1 : Int64)), (.long wa)])) _
        refine XS.goto X36.here hx rfl (pc0 := 122) (pc' := 126) rfl (hb hby at_122) (by decide) (by decide) ?_
        exact kt
      exact ⟨(1 : Int64), (if_neg hc118_45).symm, pre47⟩
  obtain ⟨wb, hJ43, pre43⟩ := J43
  have hwb := hJ43
  have pre48 : ∀ t, Steps p.tables e below (T36.setTop (mkF m 129 #[.val (.int w'), .val (.long h'1), .second, .val (.int f'), .val (.long n'0), .second, .val (.int z1), .val (.int z2), .val (.int z3), .val (.long nn), .second, .val (.ref b18), .val (.ref r'), .val (.long (wa + wb)), .second, .unset, .unset, .unset, .unset] [])) t → Steps p.tables e below (s₁.setTop (entryFrame m #[(.int w'), (.long h'1), (.int f'), (.long n'0)] maxLocals)) t := by
    intro t kt
    refine pre43 t ?_
    show Steps p.tables e below (T36.setTop (mkF m 126 #[.val (.int w'), .val (.long h'1), .second, .val (.int f'), .val (.long n'0), .second, .val (.int z1), .val (.int z2), .val (.int z3), .val (.long nn), .second, .val (.ref b18), .val (.ref r'), .unset, .unset, .unset, .unset, .unset, .unset] [(.long wb), (.long wa)])) _
    refine XS.ladd X36.here hx rfl (hb hby at_126) rfl ?_
    show Steps p.tables e below (T36.setTop (mkF m 127 #[.val (.int w'), .val (.long h'1), .second, .val (.int f'), .val (.long n'0), .second, .val (.int z1), .val (.int z2), .val (.int z3), .val (.long nn), .second, .val (.ref b18), .val (.ref r'), .unset, .unset, .unset, .unset, .unset, .unset] [(.long (wa + wb))])) _
    refine XS.lstore X36.here hx rfl (hb hby at_127) rfl (l' := #[.val (.int w'), .val (.long h'1), .second, .val (.int f'), .val (.long n'0), .second, .val (.int z1), .val (.int z2), .val (.int z3), .val (.long nn), .second, .val (.ref b18), .val (.ref r'), .val (.long (wa + wb)), .second, .unset, .unset, .unset, .unset]) rfl ?_
    exact kt
  have J49 : ∃ (ec : Int64), (ec = (if z3 = (0 : Int32) then (0 : Int64) else (1 : Int64))) ∧ ∀ t, Steps p.tables e below (T36.setTop (mkF m 139 #[.val (.int w'), .val (.long h'1), .second, .val (.int f'), .val (.long n'0), .second, .val (.int z1), .val (.int z2), .val (.int z3), .val (.long nn), .second, .val (.ref b18), .val (.ref r'), .val (.long (wa + wb)), .second, .unset, .unset, .unset, .unset] [(.long ec)])) t → Steps p.tables e below (s₁.setTop (entryFrame m #[(.int w'), (.long h'1), (.int f'), (.long n'0)] maxLocals)) t := by
    have pre50 : ∀ t, Steps p.tables e below (T36.setTop (mkF m 131 #[.val (.int w'), .val (.long h'1), .second, .val (.int f'), .val (.long n'0), .second, .val (.int z1), .val (.int z2), .val (.int z3), .val (.long nn), .second, .val (.ref b18), .val (.ref r'), .val (.long (wa + wb)), .second, .unset, .unset, .unset, .unset] [(.int z3)])) t → Steps p.tables e below (s₁.setTop (entryFrame m #[(.int w'), (.long h'1), (.int f'), (.long n'0)] maxLocals)) t := by
      intro t kt
      refine pre48 t ?_
      show Steps p.tables e below (T36.setTop (mkF m 129 #[.val (.int w'), .val (.long h'1), .second, .val (.int f'), .val (.long n'0), .second, .val (.int z1), .val (.int z2), .val (.int z3), .val (.long nn), .second, .val (.ref b18), .val (.ref r'), .val (.long (wa + wb)), .second, .unset, .unset, .unset, .unset] [])) _
      refine XS.iload X36.here hx rfl (hb hby at_129) rfl ?_
      exact kt
    by_cases hc131_51 : z3 = (0 : Int32)
    · have pre52 : ∀ t, Steps p.tables e below (T36.setTop (mkF m 139 #[.val (.int w'), .val (.long h'1), .second, .val (.int f'), .val (.long n'0), .second, .val (.int z1), .val (.int z2), .val (.int z3), .val (.long nn), .second, .val (.ref b18), .val (.ref r'), .val (.long (wa + wb)), .second, .unset, .unset, .unset, .unset] [(.long (0 : Int64))])) t → Steps p.tables e below (s₁.setTop (entryFrame m #[(.int w'), (.long h'1), (.int f'), (.long n'0)] maxLocals)) t := by
        intro t kt
        refine pre50 t ?_
        show Steps p.tables e below (T36.setTop (mkF m 131 #[.val (.int w'), .val (.long h'1), .second, .val (.int f'), .val (.long n'0), .second, .val (.int z1), .val (.int z2), .val (.int z3), .val (.long nn), .second, .val (.ref b18), .val (.ref r'), .val (.long (wa + wb)), .second, .unset, .unset, .unset, .unset] [(.int z3)])) _
        refine XS.ifYes X36.here hx rfl (pc0 := 131) (pc' := 138) rfl (hb hby at_131) rfl ((if0 _ _).trans (teq hc131_51).1) (by decide) (by decide) ?_
        show Steps p.tables e below (T36.setTop (mkF m 138 #[.val (.int w'), .val (.long h'1), .second, .val (.int f'), .val (.long n'0), .second, .val (.int z1), .val (.int z2), .val (.int z3), .val (.long nn), .second, .val (.ref b18), .val (.ref r'), .val (.long (wa + wb)), .second, .unset, .unset, .unset, .unset] [])) _
        refine XS.lconst X36.here hx rfl (hb hby at_138) ?_
        exact kt
      exact ⟨(0 : Int64), (if_pos hc131_51).symm, pre52⟩
    · have pre53 : ∀ t, Steps p.tables e below (T36.setTop (mkF m 139 #[.val (.int w'), .val (.long h'1), .second, .val (.int f'), .val (.long n'0), .second, .val (.int z1), .val (.int z2), .val (.int z3), .val (.long nn), .second, .val (.ref b18), .val (.ref r'), .val (.long (wa + wb)), .second, .unset, .unset, .unset, .unset] [(.long (1 : Int64))])) t → Steps p.tables e below (s₁.setTop (entryFrame m #[(.int w'), (.long h'1), (.int f'), (.long n'0)] maxLocals)) t := by
        intro t kt
        refine pre50 t ?_
        show Steps p.tables e below (T36.setTop (mkF m 131 #[.val (.int w'), .val (.long h'1), .second, .val (.int f'), .val (.long n'0), .second, .val (.int z1), .val (.int z2), .val (.int z3), .val (.long nn), .second, .val (.ref b18), .val (.ref r'), .val (.long (wa + wb)), .second, .unset, .unset, .unset, .unset] [(.int z3)])) _
        refine XS.ifNo X36.here hx rfl (hb hby at_131) rfl ((if0 _ _).trans (feq hc131_51).1) ?_
        show Steps p.tables e below (T36.setTop (mkF m 134 #[.val (.int w'), .val (.long h'1), .second, .val (.int f'), .val (.long n'0), .second, .val (.int z1), .val (.int z2), .val (.int z3), .val (.long nn), .second, .val (.ref b18), .val (.ref r'), .val (.long (wa + wb)), .second, .unset, .unset, .unset, .unset] [])) _
        refine XS.lconst X36.here hx rfl (hb hby at_134) ?_
        show Steps p.tables e below (T36.setTop (mkF m 135 #[.val (.int w'), .val (.long h'1), .second, .val (.int f'), .val (.long n'0), .second, .val (.int z1), .val (.int z2), .val (.int z3), .val (.long nn), .second, .val (.ref b18), .val (.ref r'), .val (.long (wa + wb)), .second, .unset, .unset, .unset, .unset] [(.long (1 : Int64))])) _
        refine XS.goto X36.here hx rfl (pc0 := 135) (pc' := 139) rfl (hb hby at_135) (by decide) (by decide) ?_
        exact kt
      exact ⟨(1 : Int64), (if_neg hc131_51).symm, pre53⟩
  obtain ⟨ec, hJ49, pre49⟩ := J49
  have hec := hJ49
  have pre54 : ∀ t, Steps p.tables e below (T36.setTop (mkF m 141 #[.val (.int w'), .val (.long h'1), .second, .val (.int f'), .val (.long n'0), .second, .val (.int z1), .val (.int z2), .val (.int z3), .val (.long nn), .second, .val (.ref b18), .val (.ref r'), .val (.long (wa + wb)), .second, .val (.long ec), .second, .unset, .unset] [])) t → Steps p.tables e below (s₁.setTop (entryFrame m #[(.int w'), (.long h'1), (.int f'), (.long n'0)] maxLocals)) t := by
    intro t kt
    refine pre49 t ?_
    show Steps p.tables e below (T36.setTop (mkF m 139 #[.val (.int w'), .val (.long h'1), .second, .val (.int f'), .val (.long n'0), .second, .val (.int z1), .val (.int z2), .val (.int z3), .val (.long nn), .second, .val (.ref b18), .val (.ref r'), .val (.long (wa + wb)), .second, .unset, .unset, .unset, .unset] [(.long ec)])) _
    refine XS.lstore X36.here hx rfl (hb hby at_139) rfl (l' := #[.val (.int w'), .val (.long h'1), .second, .val (.int f'), .val (.long n'0), .second, .val (.int z1), .val (.int z2), .val (.int z3), .val (.long nn), .second, .val (.ref b18), .val (.ref r'), .val (.long (wa + wb)), .second, .val (.long ec), .second, .unset, .unset]) rfl ?_
    exact kt
  have J55 : ∃ (ms : Int64), (ms = (if z3 = (0 : Int32) then (0 : Int64) else nn / (1000000 : Int64))) ∧ ∀ t, Steps p.tables e below (T36.setTop (mkF m 156 #[.val (.int w'), .val (.long h'1), .second, .val (.int f'), .val (.long n'0), .second, .val (.int z1), .val (.int z2), .val (.int z3), .val (.long nn), .second, .val (.ref b18), .val (.ref r'), .val (.long (wa + wb)), .second, .val (.long ec), .second, .unset, .unset] [(.long ms)])) t → Steps p.tables e below (s₁.setTop (entryFrame m #[(.int w'), (.long h'1), (.int f'), (.long n'0)] maxLocals)) t := by
    have pre56 : ∀ t, Steps p.tables e below (T36.setTop (mkF m 143 #[.val (.int w'), .val (.long h'1), .second, .val (.int f'), .val (.long n'0), .second, .val (.int z1), .val (.int z2), .val (.int z3), .val (.long nn), .second, .val (.ref b18), .val (.ref r'), .val (.long (wa + wb)), .second, .val (.long ec), .second, .unset, .unset] [(.int z3)])) t → Steps p.tables e below (s₁.setTop (entryFrame m #[(.int w'), (.long h'1), (.int f'), (.long n'0)] maxLocals)) t := by
      intro t kt
      refine pre54 t ?_
      show Steps p.tables e below (T36.setTop (mkF m 141 #[.val (.int w'), .val (.long h'1), .second, .val (.int f'), .val (.long n'0), .second, .val (.int z1), .val (.int z2), .val (.int z3), .val (.long nn), .second, .val (.ref b18), .val (.ref r'), .val (.long (wa + wb)), .second, .val (.long ec), .second, .unset, .unset] [])) _
      refine XS.iload X36.here hx rfl (hb hby at_141) rfl ?_
      exact kt
    by_cases hc143_57 : z3 = (0 : Int32)
    · have pre58 : ∀ t, Steps p.tables e below (T36.setTop (mkF m 156 #[.val (.int w'), .val (.long h'1), .second, .val (.int f'), .val (.long n'0), .second, .val (.int z1), .val (.int z2), .val (.int z3), .val (.long nn), .second, .val (.ref b18), .val (.ref r'), .val (.long (wa + wb)), .second, .val (.long ec), .second, .unset, .unset] [(.long (0 : Int64))])) t → Steps p.tables e below (s₁.setTop (entryFrame m #[(.int w'), (.long h'1), (.int f'), (.long n'0)] maxLocals)) t := by
        intro t kt
        refine pre56 t ?_
        show Steps p.tables e below (T36.setTop (mkF m 143 #[.val (.int w'), .val (.long h'1), .second, .val (.int f'), .val (.long n'0), .second, .val (.int z1), .val (.int z2), .val (.int z3), .val (.long nn), .second, .val (.ref b18), .val (.ref r'), .val (.long (wa + wb)), .second, .val (.long ec), .second, .unset, .unset] [(.int z3)])) _
        refine XS.ifYes X36.here hx rfl (pc0 := 143) (pc' := 155) rfl (hb hby at_143) rfl ((if0 _ _).trans (teq hc143_57).1) (by decide) (by decide) ?_
        show Steps p.tables e below (T36.setTop (mkF m 155 #[.val (.int w'), .val (.long h'1), .second, .val (.int f'), .val (.long n'0), .second, .val (.int z1), .val (.int z2), .val (.int z3), .val (.long nn), .second, .val (.ref b18), .val (.ref r'), .val (.long (wa + wb)), .second, .val (.long ec), .second, .unset, .unset] [])) _
        refine XS.lconst X36.here hx rfl (hb hby at_155) ?_
        exact kt
      exact ⟨(0 : Int64), (if_pos hc143_57).symm, pre58⟩
    · have pre59 : ∀ t, Steps p.tables e below (T36.setTop (mkF m 156 #[.val (.int w'), .val (.long h'1), .second, .val (.int f'), .val (.long n'0), .second, .val (.int z1), .val (.int z2), .val (.int z3), .val (.long nn), .second, .val (.ref b18), .val (.ref r'), .val (.long (wa + wb)), .second, .val (.long ec), .second, .unset, .unset] [(.long (nn / (1000000 : Int64)))])) t → Steps p.tables e below (s₁.setTop (entryFrame m #[(.int w'), (.long h'1), (.int f'), (.long n'0)] maxLocals)) t := by
        intro t kt
        refine pre56 t ?_
        show Steps p.tables e below (T36.setTop (mkF m 143 #[.val (.int w'), .val (.long h'1), .second, .val (.int f'), .val (.long n'0), .second, .val (.int z1), .val (.int z2), .val (.int z3), .val (.long nn), .second, .val (.ref b18), .val (.ref r'), .val (.long (wa + wb)), .second, .val (.long ec), .second, .unset, .unset] [(.int z3)])) _
        refine XS.ifNo X36.here hx rfl (hb hby at_143) rfl ((if0 _ _).trans (feq hc143_57).1) ?_
        show Steps p.tables e below (T36.setTop (mkF m 146 #[.val (.int w'), .val (.long h'1), .second, .val (.int f'), .val (.long n'0), .second, .val (.int z1), .val (.int z2), .val (.int z3), .val (.long nn), .second, .val (.ref b18), .val (.ref r'), .val (.long (wa + wb)), .second, .val (.long ec), .second, .unset, .unset] [])) _
        refine XS.lload X36.here hx rfl (hb hby at_146) rfl ?_
        show Steps p.tables e below (T36.setTop (mkF m 148 #[.val (.int w'), .val (.long h'1), .second, .val (.int f'), .val (.long n'0), .second, .val (.int z1), .val (.int z2), .val (.int z3), .val (.long nn), .second, .val (.ref b18), .val (.ref r'), .val (.long (wa + wb)), .second, .val (.long ec), .second, .unset, .unset] [(.long nn)])) _
        refine X36.ldc2Long hx hown (mvT hZ (hw _ (List.mem_of_getElem? (i := 105) rfl))) (g := (mkF m 148 #[.val (.int w'), .val (.long h'1), .second, .val (.int f'), .val (.long n'0), .second, .val (.int z1), .val (.int z2), .val (.int z3), .val (.long nn), .second, .val (.ref b18), .val (.ref r'), .val (.long (wa + wb)), .second, .val (.long ec), .second, .unset, .unset] [(.long nn)])) rfl (hb hby at_148) _ ?_
        show Steps p.tables e below (T36.setTop (mkF m 151 #[.val (.int w'), .val (.long h'1), .second, .val (.int f'), .val (.long n'0), .second, .val (.int z1), .val (.int z2), .val (.int z3), .val (.long nn), .second, .val (.ref b18), .val (.ref r'), .val (.long (wa + wb)), .second, .val (.long ec), .second, .unset, .unset] [(.long (1000000 : Int64)), (.long nn)])) _
        refine XS.ldiv X36.here hx rfl (hb hby at_151) rfl (by decide) ?_
        show Steps p.tables e below (T36.setTop (mkF m 152 #[.val (.int w'), .val (.long h'1), .second, .val (.int f'), .val (.long n'0), .second, .val (.int z1), .val (.int z2), .val (.int z3), .val (.long nn), .second, .val (.ref b18), .val (.ref r'), .val (.long (wa + wb)), .second, .val (.long ec), .second, .unset, .unset] [(.long (nn / (1000000 : Int64)))])) _
        refine XS.goto X36.here hx rfl (pc0 := 152) (pc' := 156) rfl (hb hby at_152) (by decide) (by decide) ?_
        exact kt
      exact ⟨(nn / (1000000 : Int64)), (if_neg hc143_57).symm, pre59⟩
  obtain ⟨ms, hJ55, pre55⟩ := J55
  have hms := hJ55
  obtain ⟨T60, X60, e60, st60⟩ := getF X36 hx hZ hown (host := "") (Or.inl (hw _ (List.mem_of_getElem? (i := 12) rfl))) Via.refl rfl F_waiting_b18 (g := (mkF m 160 #[.val (.int w'), .val (.long h'1), .second, .val (.int f'), .val (.long n'0), .second, .val (.int z1), .val (.int z2), .val (.int z3), .val (.long nn), .second, .val (.ref b18), .val (.ref r'), .val (.long (wa + wb)), .second, .val (.long ec), .second, .val (.long ms), .second] [(.ref b18)])) rfl rfl (hb hby at_160)
  obtain ⟨T61, X61, e61, st61⟩ := getF X60 hx hZ hown (host := "") (Or.inl (hw _ (List.mem_of_getElem? (i := 10) rfl))) Via.refl e60 F_held_b18 (g := (mkF m 171 #[.val (.int w'), .val (.long h'1), .second, .val (.int f'), .val (.long n'0), .second, .val (.int z1), .val (.int z2), .val (.int z3), .val (.long nn), .second, .val (.ref b18), .val (.ref r'), .val (.long (wa + wb)), .second, .val (.long ec), .second, .val (.long ms), .second] [(.ref b18)])) rfl rfl (hb hby at_171)
  obtain ⟨cq62, kq62, q62a, q62b, q62c⟩ := isOf hZ e61 E_r'
  obtain ⟨_, _, ⟨T62, L62, k62, n62⟩, -, X62, ⟨Lc62, hQ62, l62, y62, z62⟩, st62⟩ := X61.virtualBack hx (y := (⟨"com/example/diligent_locks/diligentlocks/RecordLockWaits", "waits", "()J"⟩ : MethodName)) (z := (⟨"com/example/diligent_locks/diligentlocks/RecordLockWaits", "waits", "()J"⟩ : MethodName)) hown (mvT hZ (hw _ (List.mem_of_getElem? (i := 67) rfl))) (mvT hZ (hw _ (List.mem_of_getElem? (i := 68) rfl))) (notFace_of_selects (args := #[]) (mvT hZ (hw _ (List.mem_of_getElem? (i := 70) rfl)))) (mvT hZ (hw _ (List.mem_of_getElem? (i := 70) rfl))) (mvT hZ (hw _ (List.mem_of_getElem? (i := 69) rfl))) (by decide) (backOf (W := 0) (rm8 l Z a0 hw [] r' (if z1 = (0 : Int32) then (if z2 = (0 : Int32) then (0 : Int64) else ((0 : Int64) + (1 : Int64))) else ((if z2 = (0 : Int32) then (0 : Int64) else ((0 : Int64) + (1 : Int64))) + (1 : Int64))) T36.heap n0 Zs36 F_waits_r') hZ (hw _ (List.mem_of_getElem? (i := 71) rfl)) (hw _ (List.mem_of_getElem? (i := 45) rfl)) (by decide) (by decide)) q62a q62c (g := (mkF m 181 #[.val (.int w'), .val (.long h'1), .second, .val (.int f'), .val (.long n'0), .second, .val (.int z1), .val (.int z2), .val (.int z3), .val (.long nn), .second, .val (.ref b18), .val (.ref r'), .val (.long (wa + wb)), .second, .val (.long ec), .second, .val (.long ms), .second] [(.ref r')])) rfl (by rw [hml]; rfl) (Steps.refl _) (argsL := []) (rest := []) (lenOf pd0_4 rfl) rfl (by show 2 * 0 + _ ≤ _; exact Nat.le_of_eq rfl) (hb hby at_181) (fun _ _ => ⟨rfl, e61, (by decide : 2 + 0 ≤ _), (by decide : 11 + 0 ≤ _)⟩)
  dsimp only [Pt.U, Pt.locs, Pt.cells, Pt.slots] at X62 l62 y62 z62 st62 hQ62
  subst l62 y62 z62
  obtain ⟨rfl, N62q, hh62⟩ := hQ62
  have N62 := Fr.app N36 N62q
  obtain ⟨cq63, kq63, q63a, q63b, q63c⟩ := isOf hZ hh62 E_r'
  obtain ⟨_, _, ⟨T63, L63, k63, n63⟩, -, X63, ⟨Lc63, hQ63, l63, y63, z63⟩, st63⟩ := X62.virtualBack hx (y := (⟨"com/example/diligent_locks/diligentlocks/RecordLockWaits", "currentWaits", "()J"⟩ : MethodName)) (z := (⟨"com/example/diligent_locks/diligentlocks/RecordLockWaits", "currentWaits", "()J"⟩ : MethodName)) hown (mvT hZ (hw _ (List.mem_of_getElem? (i := 72) rfl))) (mvT hZ (hw _ (List.mem_of_getElem? (i := 73) rfl))) (notFace_of_selects (args := #[]) (mvT hZ (hw _ (List.mem_of_getElem? (i := 75) rfl)))) (mvT hZ (hw _ (List.mem_of_getElem? (i := 75) rfl))) (mvT hZ (hw _ (List.mem_of_getElem? (i := 74) rfl))) (by decide) (backOf (W := 0) (rm9 l Z a0 hw [] r' ((if z1 = (0 : Int32) then (if z2 = (0 : Int32) then (0 : Int64) else ((0 : Int64) + (1 : Int64))) else ((if z2 = (0 : Int32) then (0 : Int64) else ((0 : Int64) + (1 : Int64))) + (1 : Int64))) - (if z3 = (0 : Int32) then (0 : Int64) else ((0 : Int64) + (1 : Int64)))) T36.heap n0 Zs36 F_currentWaits_r') hZ (hw _ (List.mem_of_getElem? (i := 76) rfl)) (hw _ (List.mem_of_getElem? (i := 45) rfl)) (by decide) (by decide)) q63a q63c (g := (mkF m 192 #[.val (.int w'), .val (.long h'1), .second, .val (.int f'), .val (.long n'0), .second, .val (.int z1), .val (.int z2), .val (.int z3), .val (.long nn), .second, .val (.ref b18), .val (.ref r'), .val (.long (wa + wb)), .second, .val (.long ec), .second, .val (.long ms), .second] [(.ref r')])) rfl (by rw [hml]; rfl) (Steps.refl _) (argsL := []) (rest := []) (lenOf pd0_4 rfl) rfl (by show 2 * 0 + _ ≤ _; exact Nat.le_of_eq rfl) (hb hby at_192) (fun _ _ => ⟨rfl, hh62, (by decide : 2 + 0 ≤ _), (by decide : 11 + 0 ≤ _)⟩)
  dsimp only [Pt.U, Pt.locs, Pt.cells, Pt.slots] at X63 l63 y63 z63 st63 hQ63
  subst l63 y63 z63
  obtain ⟨rfl, N63q, hh63⟩ := hQ63
  have N63 := Fr.app N62 N63q
  obtain ⟨cq64, kq64, q64a, q64b, q64c⟩ := isOf hZ hh63 E_r'
  obtain ⟨_, _, ⟨T64, L64, k64, n64⟩, -, X64, ⟨Lc64, hQ64, l64, y64, z64⟩, st64⟩ := X63.virtualBack hx (y := (⟨"com/example/diligent_locks/diligentlocks/RecordLockWaits", "totalWaitMillis", "()J"⟩ : MethodName)) (z := (⟨"com/example/diligent_locks/diligentlocks/RecordLockWaits", "totalWaitMillis", "()J"⟩ : MethodName)) hown (mvT hZ (hw _ (List.mem_of_getElem? (i := 77) rfl))) (mvT hZ (hw _ (List.mem_of_getElem? (i := 78) rfl))) (notFace_of_selects (args := #[]) (mvT hZ (hw _ (List.mem_of_getElem? (i := 80) rfl)))) (mvT hZ (hw _ (List.mem_of_getElem? (i := 80) rfl))) (mvT hZ (hw _ (List.mem_of_getElem? (i := 79) rfl))) (by decide) (backOf (W := 0) (rm10 l Z a0 hw [] r' ((if z3 = (0 : Int32) then (0 : Int64) else own_sat (0 : Int64) nn) / (1000000 : Int64)) T36.heap n0 Zs36 F_totalWaitMillis_r') hZ (hw _ (List.mem_of_getElem? (i := 81) rfl)) (hw _ (List.mem_of_getElem? (i := 45) rfl)) (by decide) (by decide)) q64a q64c (g := (mkF m 206 #[.val (.int w'), .val (.long h'1), .second, .val (.int f'), .val (.long n'0), .second, .val (.int z1), .val (.int z2), .val (.int z3), .val (.long nn), .second, .val (.ref b18), .val (.ref r'), .val (.long (wa + wb)), .second, .val (.long ec), .second, .val (.long ms), .second] [(.ref r')])) rfl (by rw [hml]; rfl) (Steps.refl _) (argsL := []) (rest := []) (lenOf pd0_4 rfl) rfl (by show 2 * 0 + _ ≤ _; exact Nat.le_of_eq rfl) (hb hby at_206) (fun _ _ => ⟨rfl, hh63, (by decide : 2 + 0 ≤ _), (by decide : 11 + 0 ≤ _)⟩)
  dsimp only [Pt.U, Pt.locs, Pt.cells, Pt.slots] at X64 l64 y64 z64 st64 hQ64
  subst l64 y64 z64
  obtain ⟨rfl, N64q, hh64⟩ := hQ64
  have N64 := Fr.app N63 N64q
  obtain ⟨cq65, kq65, q65a, q65b, q65c⟩ := isOf hZ hh64 E_r'
  obtain ⟨_, _, ⟨T65, L65, k65, n65⟩, -, X65, ⟨Lc65, hQ65, l65, y65, z65⟩, st65⟩ := X64.virtualBack hx (y := (⟨"com/example/diligent_locks/diligentlocks/RecordLockWaits", "averageWaitMillis", "()J"⟩ : MethodName)) (z := (⟨"com/example/diligent_locks/diligentlocks/RecordLockWaits", "averageWaitMillis", "()J"⟩ : MethodName)) hown (mvT hZ (hw _ (List.mem_of_getElem? (i := 82) rfl))) (mvT hZ (hw _ (List.mem_of_getElem? (i := 83) rfl))) (notFace_of_selects (args := #[]) (mvT hZ (hw _ (List.mem_of_getElem? (i := 85) rfl)))) (mvT hZ (hw _ (List.mem_of_getElem? (i := 85) rfl))) (mvT hZ (hw _ (List.mem_of_getElem? (i := 84) rfl))) (by decide) (backOf (W := 0) (rm11 l Z a0 hw [] r' (if (if z3 = (0 : Int32) then (0 : Int64) else ((0 : Int64) + (1 : Int64))) = (0 : Int64) then (0 : Int64) else (((if z3 = (0 : Int32) then (0 : Int64) else own_sat (0 : Int64) nn) / (1000000 : Int64)) / (if z3 = (0 : Int32) then (0 : Int64) else ((0 : Int64) + (1 : Int64))))) T36.heap n0 Zs36 F_averageWaitMillis_r') hZ (hw _ (List.mem_of_getElem? (i := 86) rfl)) (hw _ (List.mem_of_getElem? (i := 45) rfl)) (by decide) (by decide)) q65a q65c (g := (mkF m 217 #[.val (.int w'), .val (.long h'1), .second, .val (.int f'), .val (.long n'0), .second, .val (.int z1), .val (.int z2), .val (.int z3), .val (.long nn), .second, .val (.ref b18), .val (.ref r'), .val (.long (wa + wb)), .second, .val (.long ec), .second, .val (.long ms), .second] [(.ref r')])) rfl (by rw [hml]; rfl) (Steps.refl _) (argsL := []) (rest := []) (lenOf pd0_4 rfl) rfl (by show 2 * 0 + _ ≤ _; exact Nat.le_of_eq rfl) (hb hby at_217) (fun _ _ => ⟨rfl, hh64, (by decide : 2 + 0 ≤ _), (by decide : 11 + 0 ≤ _)⟩)
  dsimp only [Pt.U, Pt.locs, Pt.cells, Pt.slots] at X65 l65 y65 z65 st65 hQ65
  subst l65 y65 z65
  obtain ⟨rfl, N65q, hh65⟩ := hQ65
  have N65 := Fr.app N64 N65q
  obtain ⟨cq66, kq66, q66a, q66b, q66c⟩ := isOf hZ hh65 E_r'
  obtain ⟨_, _, ⟨T66, L66, k66, n66⟩, -, X66, ⟨Lc66, hQ66, l66, y66, z66⟩, st66⟩ := X65.virtualBack hx (y := (⟨"com/example/diligent_locks/diligentlocks/RecordLockWaits", "longestWaitMillis", "()J"⟩ : MethodName)) (z := (⟨"com/example/diligent_locks/diligentlocks/RecordLockWaits", "longestWaitMillis", "()J"⟩ : MethodName)) hown (mvT hZ (hw _ (List.mem_of_getElem? (i := 87) rfl))) (mvT hZ (hw _ (List.mem_of_getElem? (i := 88) rfl))) (notFace_of_selects (args := #[]) (mvT hZ (hw _ (List.mem_of_getElem? (i := 90) rfl)))) (mvT hZ (hw _ (List.mem_of_getElem? (i := 90) rfl))) (mvT hZ (hw _ (List.mem_of_getElem? (i := 89) rfl))) (by decide) (backOf (W := 0) (rm12 l Z a0 hw [] r' ((if z3 = (0 : Int32) then (0 : Int64) else own_max (0 : Int64) nn) / (1000000 : Int64)) T36.heap n0 Zs36 F_longestWaitMillis_r') hZ (hw _ (List.mem_of_getElem? (i := 91) rfl)) (hw _ (List.mem_of_getElem? (i := 45) rfl)) (by decide) (by decide)) q66a q66c (g := (mkF m 228 #[.val (.int w'), .val (.long h'1), .second, .val (.int f'), .val (.long n'0), .second, .val (.int z1), .val (.int z2), .val (.int z3), .val (.long nn), .second, .val (.ref b18), .val (.ref r'), .val (.long (wa + wb)), .second, .val (.long ec), .second, .val (.long ms), .second] [(.ref r')])) rfl (by rw [hml]; rfl) (Steps.refl _) (argsL := []) (rest := []) (lenOf pd0_4 rfl) rfl (by show 2 * 0 + _ ≤ _; exact Nat.le_of_eq rfl) (hb hby at_228) (fun _ _ => ⟨rfl, hh65, (by decide : 2 + 0 ≤ _), (by decide : 11 + 0 ≤ _)⟩)
  dsimp only [Pt.U, Pt.locs, Pt.cells, Pt.slots] at X66 l66 y66 z66 st66 hQ66
  subst l66 y66 z66
  obtain ⟨rfl, N66q, hh66⟩ := hQ66
  have N66 := Fr.app N65 N66q
  obtain ⟨fs, hr, hrun, hended, hW, hsame⟩ := X66.leave (v := some (.int (1 : Int32))) (fun h => by rw [Bd.returns] at h; cases h)
  refine ⟨_, _, pre55 _ ?_, hrun, hended, _, _, rfl, ?_, ⟨_, rfl⟩, hW, hsame.mono (by decide) (by decide)⟩
  · show Steps p.tables e below (T36.setTop (mkF m 156 #[.val (.int w'), .val (.long h'1), .second, .val (.int f'), .val (.long n'0), .second, .val (.int z1), .val (.int z2), .val (.int z3), .val (.long nn), .second, .val (.ref b18), .val (.ref r'), .val (.long (wa + wb)), .second, .val (.long ec), .second, .unset, .unset] [(.long ms)])) _
    refine XS.lstore X36.here hx rfl (hb hby at_156) rfl (l' := #[.val (.int w'), .val (.long h'1), .second, .val (.int f'), .val (.long n'0), .second, .val (.int z1), .val (.int z2), .val (.int z3), .val (.long nn), .second, .val (.ref b18), .val (.ref r'), .val (.long (wa + wb)), .second, .val (.long ec), .second, .val (.long ms), .second]) rfl ?_
    show Steps p.tables e below (T36.setTop (mkF m 158 #[.val (.int w'), .val (.long h'1), .second, .val (.int f'), .val (.long n'0), .second, .val (.int z1), .val (.int z2), .val (.int z3), .val (.long nn), .second, .val (.ref b18), .val (.ref r'), .val (.long (wa + wb)), .second, .val (.long ec), .second, .val (.long ms), .second] [])) _
    refine XS.aload X36.here hx rfl (hb hby at_158) rfl rfl ?_
    show Steps p.tables e below (T36.setTop (mkF m 160 #[.val (.int w'), .val (.long h'1), .second, .val (.int f'), .val (.long n'0), .second, .val (.int z1), .val (.int z2), .val (.int z3), .val (.long nn), .second, .val (.ref b18), .val (.ref r'), .val (.long (wa + wb)), .second, .val (.long ec), .second, .val (.long ms), .second] [(.ref b18)])) _
    refine st60 _ ?_
    show Steps p.tables e below (T60.setTop (mkF m 163 #[.val (.int w'), .val (.long h'1), .second, .val (.int f'), .val (.long n'0), .second, .val (.int z1), .val (.int z2), .val (.int z3), .val (.long nn), .second, .val (.ref b18), .val (.ref r'), .val (.long (wa + wb)), .second, .val (.long ec), .second, .val (.long ms), .second] [(.int (w' + (1 : Int32)))])) _
    refine XS.iloadN X60.here hx rfl (hb hby at_163) rfl ?_
    show Steps p.tables e below (T60.setTop (mkF m 164 #[.val (.int w'), .val (.long h'1), .second, .val (.int f'), .val (.long n'0), .second, .val (.int z1), .val (.int z2), .val (.int z3), .val (.long nn), .second, .val (.ref b18), .val (.ref r'), .val (.long (wa + wb)), .second, .val (.long ec), .second, .val (.long ms), .second] [(.int w'), (.int (w' + (1 : Int32)))])) _
    refine XS.iconst X60.here hx rfl (hb hby at_164) ?_
    show Steps p.tables e below (T60.setTop (mkF m 165 #[.val (.int w'), .val (.long h'1), .second, .val (.int f'), .val (.long n'0), .second, .val (.int z1), .val (.int z2), .val (.int z3), .val (.long nn), .second, .val (.ref b18), .val (.ref r'), .val (.long (wa + wb)), .second, .val (.long ec), .second, .val (.long ms), .second] [(.int (1 : Int32)), (.int w'), (.int (w' + (1 : Int32)))])) _
    refine XS.iadd X60.here hx rfl (hb hby at_165) rfl ?_
    show Steps p.tables e below (T60.setTop (mkF m 166 #[.val (.int w'), .val (.long h'1), .second, .val (.int f'), .val (.long n'0), .second, .val (.int z1), .val (.int z2), .val (.int z3), .val (.long nn), .second, .val (.ref b18), .val (.ref r'), .val (.long (wa + wb)), .second, .val (.long ec), .second, .val (.long ms), .second] [(.int (w' + (1 : Int32))), (.int (w' + (1 : Int32)))])) _
    refine XS.icmpNo X60.here hx rfl (hb hby at_166) rfl (teq (rfl : (w' + (1 : Int32)) = (w' + (1 : Int32)))).2 ?_
    show Steps p.tables e below (T60.setTop (mkF m 169 #[.val (.int w'), .val (.long h'1), .second, .val (.int f'), .val (.long n'0), .second, .val (.int z1), .val (.int z2), .val (.int z3), .val (.long nn), .second, .val (.ref b18), .val (.ref r'), .val (.long (wa + wb)), .second, .val (.long ec), .second, .val (.long ms), .second] [])) _
    refine XS.aload X60.here hx rfl (hb hby at_169) rfl rfl ?_
    show Steps p.tables e below (T60.setTop (mkF m 171 #[.val (.int w'), .val (.long h'1), .second, .val (.int f'), .val (.long n'0), .second, .val (.int z1), .val (.int z2), .val (.int z3), .val (.long nn), .second, .val (.ref b18), .val (.ref r'), .val (.long (wa + wb)), .second, .val (.long ec), .second, .val (.long ms), .second] [(.ref b18)])) _
    refine st61 _ ?_
    show Steps p.tables e below (T61.setTop (mkF m 174 #[.val (.int w'), .val (.long h'1), .second, .val (.int f'), .val (.long n'0), .second, .val (.int z1), .val (.int z2), .val (.int z3), .val (.long nn), .second, .val (.ref b18), .val (.ref r'), .val (.long (wa + wb)), .second, .val (.long ec), .second, .val (.long ms), .second] [(.long h'1)])) _
    refine XS.lloadN X61.here hx rfl (hb hby at_174) rfl ?_
    show Steps p.tables e below (T61.setTop (mkF m 175 #[.val (.int w'), .val (.long h'1), .second, .val (.int f'), .val (.long n'0), .second, .val (.int z1), .val (.int z2), .val (.int z3), .val (.long nn), .second, .val (.ref b18), .val (.ref r'), .val (.long (wa + wb)), .second, .val (.long ec), .second, .val (.long ms), .second] [(.long h'1), (.long h'1)])) _
    refine XS.lcmp X61.here hx rfl (hb hby at_175) rfl ?_
    show Steps p.tables e below (T61.setTop (mkF m 176 #[.val (.int w'), .val (.long h'1), .second, .val (.int f'), .val (.long n'0), .second, .val (.int z1), .val (.int z2), .val (.int z3), .val (.long nn), .second, .val (.ref b18), .val (.ref r'), .val (.long (wa + wb)), .second, .val (.long ec), .second, .val (.long ms), .second] [(.int (lcmpW h'1 h'1))])) _
    refine XS.ifNo X61.here hx rfl (hb hby at_176) rfl ((if0 _ _).trans (teq ((lw_eq h'1 h'1).mpr (rfl : h'1 = h'1))).2) ?_
    show Steps p.tables e below (T61.setTop (mkF m 179 #[.val (.int w'), .val (.long h'1), .second, .val (.int f'), .val (.long n'0), .second, .val (.int z1), .val (.int z2), .val (.int z3), .val (.long nn), .second, .val (.ref b18), .val (.ref r'), .val (.long (wa + wb)), .second, .val (.long ec), .second, .val (.long ms), .second] [])) _
    refine XS.aload X61.here hx rfl (hb hby at_179) rfl rfl ?_
    show Steps p.tables e below (T61.setTop (mkF m 181 #[.val (.int w'), .val (.long h'1), .second, .val (.int f'), .val (.long n'0), .second, .val (.int z1), .val (.int z2), .val (.int z3), .val (.long nn), .second, .val (.ref b18), .val (.ref r'), .val (.long (wa + wb)), .second, .val (.long ec), .second, .val (.long ms), .second] [(.ref r')])) _
    refine st62.trans ?_
    show Steps p.tables e below (T62.setTop (mkF m 184 #[.val (.int w'), .val (.long h'1), .second, .val (.int f'), .val (.long n'0), .second, .val (.int z1), .val (.int z2), .val (.int z3), .val (.long nn), .second, .val (.ref b18), .val (.ref r'), .val (.long (wa + wb)), .second, .val (.long ec), .second, .val (.long ms), .second] [(.long (if z1 = (0 : Int32) then (if z2 = (0 : Int32) then (0 : Int64) else ((0 : Int64) + (1 : Int64))) else ((if z2 = (0 : Int32) then (0 : Int64) else ((0 : Int64) + (1 : Int64))) + (1 : Int64))))])) _
    refine XS.lload X62.here hx rfl (hb hby at_184) rfl ?_
    show Steps p.tables e below (T62.setTop (mkF m 186 #[.val (.int w'), .val (.long h'1), .second, .val (.int f'), .val (.long n'0), .second, .val (.int z1), .val (.int z2), .val (.int z3), .val (.long nn), .second, .val (.ref b18), .val (.ref r'), .val (.long (wa + wb)), .second, .val (.long ec), .second, .val (.long ms), .second] [(.long (wa + wb)), (.long (if z1 = (0 : Int32) then (if z2 = (0 : Int32) then (0 : Int64) else ((0 : Int64) + (1 : Int64))) else ((if z2 = (0 : Int32) then (0 : Int64) else ((0 : Int64) + (1 : Int64))) + (1 : Int64))))])) _
    refine XS.lcmp X62.here hx rfl (hb hby at_186) rfl ?_
    show Steps p.tables e below (T62.setTop (mkF m 187 #[.val (.int w'), .val (.long h'1), .second, .val (.int f'), .val (.long n'0), .second, .val (.int z1), .val (.int z2), .val (.int z3), .val (.long nn), .second, .val (.ref b18), .val (.ref r'), .val (.long (wa + wb)), .second, .val (.long ec), .second, .val (.long ms), .second] [(.int (lcmpW (if z1 = (0 : Int32) then (if z2 = (0 : Int32) then (0 : Int64) else ((0 : Int64) + (1 : Int64))) else ((if z2 = (0 : Int32) then (0 : Int64) else ((0 : Int64) + (1 : Int64))) + (1 : Int64))) (wa + wb)))])) _
    refine XS.ifNo X62.here hx rfl (hb hby at_187) rfl ((if0 _ _).trans (teq ((lw_eq (if z1 = (0 : Int32) then (if z2 = (0 : Int32) then (0 : Int64) else ((0 : Int64) + (1 : Int64))) else ((if z2 = (0 : Int32) then (0 : Int64) else ((0 : Int64) + (1 : Int64))) + (1 : Int64))) (wa + wb)).mpr (by rw [hwa, hwb]; exact own_w z1 z2))).2) ?_
    show Steps p.tables e below (T62.setTop (mkF m 190 #[.val (.int w'), .val (.long h'1), .second, .val (.int f'), .val (.long n'0), .second, .val (.int z1), .val (.int z2), .val (.int z3), .val (.long nn), .second, .val (.ref b18), .val (.ref r'), .val (.long (wa + wb)), .second, .val (.long ec), .second, .val (.long ms), .second] [])) _
    refine XS.aload X62.here hx rfl (hb hby at_190) rfl rfl ?_
    show Steps p.tables e below (T62.setTop (mkF m 192 #[.val (.int w'), .val (.long h'1), .second, .val (.int f'), .val (.long n'0), .second, .val (.int z1), .val (.int z2), .val (.int z3), .val (.long nn), .second, .val (.ref b18), .val (.ref r'), .val (.long (wa + wb)), .second, .val (.long ec), .second, .val (.long ms), .second] [(.ref r')])) _
    refine st63.trans ?_
    show Steps p.tables e below (T63.setTop (mkF m 195 #[.val (.int w'), .val (.long h'1), .second, .val (.int f'), .val (.long n'0), .second, .val (.int z1), .val (.int z2), .val (.int z3), .val (.long nn), .second, .val (.ref b18), .val (.ref r'), .val (.long (wa + wb)), .second, .val (.long ec), .second, .val (.long ms), .second] [(.long ((if z1 = (0 : Int32) then (if z2 = (0 : Int32) then (0 : Int64) else ((0 : Int64) + (1 : Int64))) else ((if z2 = (0 : Int32) then (0 : Int64) else ((0 : Int64) + (1 : Int64))) + (1 : Int64))) - (if z3 = (0 : Int32) then (0 : Int64) else ((0 : Int64) + (1 : Int64)))))])) _
    refine XS.lload X63.here hx rfl (hb hby at_195) rfl ?_
    show Steps p.tables e below (T63.setTop (mkF m 197 #[.val (.int w'), .val (.long h'1), .second, .val (.int f'), .val (.long n'0), .second, .val (.int z1), .val (.int z2), .val (.int z3), .val (.long nn), .second, .val (.ref b18), .val (.ref r'), .val (.long (wa + wb)), .second, .val (.long ec), .second, .val (.long ms), .second] [(.long (wa + wb)), (.long ((if z1 = (0 : Int32) then (if z2 = (0 : Int32) then (0 : Int64) else ((0 : Int64) + (1 : Int64))) else ((if z2 = (0 : Int32) then (0 : Int64) else ((0 : Int64) + (1 : Int64))) + (1 : Int64))) - (if z3 = (0 : Int32) then (0 : Int64) else ((0 : Int64) + (1 : Int64)))))])) _
    refine XS.lload X63.here hx rfl (hb hby at_197) rfl ?_
    show Steps p.tables e below (T63.setTop (mkF m 199 #[.val (.int w'), .val (.long h'1), .second, .val (.int f'), .val (.long n'0), .second, .val (.int z1), .val (.int z2), .val (.int z3), .val (.long nn), .second, .val (.ref b18), .val (.ref r'), .val (.long (wa + wb)), .second, .val (.long ec), .second, .val (.long ms), .second] [(.long ec), (.long (wa + wb)), (.long ((if z1 = (0 : Int32) then (if z2 = (0 : Int32) then (0 : Int64) else ((0 : Int64) + (1 : Int64))) else ((if z2 = (0 : Int32) then (0 : Int64) else ((0 : Int64) + (1 : Int64))) + (1 : Int64))) - (if z3 = (0 : Int32) then (0 : Int64) else ((0 : Int64) + (1 : Int64)))))])) _
    refine XS.lsub X63.here hx rfl (hb hby at_199) rfl ?_
    show Steps p.tables e below (T63.setTop (mkF m 200 #[.val (.int w'), .val (.long h'1), .second, .val (.int f'), .val (.long n'0), .second, .val (.int z1), .val (.int z2), .val (.int z3), .val (.long nn), .second, .val (.ref b18), .val (.ref r'), .val (.long (wa + wb)), .second, .val (.long ec), .second, .val (.long ms), .second] [(.long ((wa + wb) - ec)), (.long ((if z1 = (0 : Int32) then (if z2 = (0 : Int32) then (0 : Int64) else ((0 : Int64) + (1 : Int64))) else ((if z2 = (0 : Int32) then (0 : Int64) else ((0 : Int64) + (1 : Int64))) + (1 : Int64))) - (if z3 = (0 : Int32) then (0 : Int64) else ((0 : Int64) + (1 : Int64)))))])) _
    refine XS.lcmp X63.here hx rfl (hb hby at_200) rfl ?_
    show Steps p.tables e below (T63.setTop (mkF m 201 #[.val (.int w'), .val (.long h'1), .second, .val (.int f'), .val (.long n'0), .second, .val (.int z1), .val (.int z2), .val (.int z3), .val (.long nn), .second, .val (.ref b18), .val (.ref r'), .val (.long (wa + wb)), .second, .val (.long ec), .second, .val (.long ms), .second] [(.int (lcmpW ((if z1 = (0 : Int32) then (if z2 = (0 : Int32) then (0 : Int64) else ((0 : Int64) + (1 : Int64))) else ((if z2 = (0 : Int32) then (0 : Int64) else ((0 : Int64) + (1 : Int64))) + (1 : Int64))) - (if z3 = (0 : Int32) then (0 : Int64) else ((0 : Int64) + (1 : Int64)))) ((wa + wb) - ec)))])) _
    refine XS.ifNo X63.here hx rfl (hb hby at_201) rfl ((if0 _ _).trans (teq ((lw_eq ((if z1 = (0 : Int32) then (if z2 = (0 : Int32) then (0 : Int64) else ((0 : Int64) + (1 : Int64))) else ((if z2 = (0 : Int32) then (0 : Int64) else ((0 : Int64) + (1 : Int64))) + (1 : Int64))) - (if z3 = (0 : Int32) then (0 : Int64) else ((0 : Int64) + (1 : Int64)))) ((wa + wb) - ec)).mpr (by rw [hwa, hwb, hec, own_w, own_e]))).2) ?_
    show Steps p.tables e below (T63.setTop (mkF m 204 #[.val (.int w'), .val (.long h'1), .second, .val (.int f'), .val (.long n'0), .second, .val (.int z1), .val (.int z2), .val (.int z3), .val (.long nn), .second, .val (.ref b18), .val (.ref r'), .val (.long (wa + wb)), .second, .val (.long ec), .second, .val (.long ms), .second] [])) _
    refine XS.aload X63.here hx rfl (hb hby at_204) rfl rfl ?_
    show Steps p.tables e below (T63.setTop (mkF m 206 #[.val (.int w'), .val (.long h'1), .second, .val (.int f'), .val (.long n'0), .second, .val (.int z1), .val (.int z2), .val (.int z3), .val (.long nn), .second, .val (.ref b18), .val (.ref r'), .val (.long (wa + wb)), .second, .val (.long ec), .second, .val (.long ms), .second] [(.ref r')])) _
    refine st64.trans ?_
    show Steps p.tables e below (T64.setTop (mkF m 209 #[.val (.int w'), .val (.long h'1), .second, .val (.int f'), .val (.long n'0), .second, .val (.int z1), .val (.int z2), .val (.int z3), .val (.long nn), .second, .val (.ref b18), .val (.ref r'), .val (.long (wa + wb)), .second, .val (.long ec), .second, .val (.long ms), .second] [(.long ((if z3 = (0 : Int32) then (0 : Int64) else own_sat (0 : Int64) nn) / (1000000 : Int64)))])) _
    refine XS.lload X64.here hx rfl (hb hby at_209) rfl ?_
    show Steps p.tables e below (T64.setTop (mkF m 211 #[.val (.int w'), .val (.long h'1), .second, .val (.int f'), .val (.long n'0), .second, .val (.int z1), .val (.int z2), .val (.int z3), .val (.long nn), .second, .val (.ref b18), .val (.ref r'), .val (.long (wa + wb)), .second, .val (.long ec), .second, .val (.long ms), .second] [(.long ms), (.long ((if z3 = (0 : Int32) then (0 : Int64) else own_sat (0 : Int64) nn) / (1000000 : Int64)))])) _
    refine XS.lcmp X64.here hx rfl (hb hby at_211) rfl ?_
    show Steps p.tables e below (T64.setTop (mkF m 212 #[.val (.int w'), .val (.long h'1), .second, .val (.int f'), .val (.long n'0), .second, .val (.int z1), .val (.int z2), .val (.int z3), .val (.long nn), .second, .val (.ref b18), .val (.ref r'), .val (.long (wa + wb)), .second, .val (.long ec), .second, .val (.long ms), .second] [(.int (lcmpW ((if z3 = (0 : Int32) then (0 : Int64) else own_sat (0 : Int64) nn) / (1000000 : Int64)) ms))])) _
    refine XS.ifNo X64.here hx rfl (hb hby at_212) rfl ((if0 _ _).trans (teq ((lw_eq ((if z3 = (0 : Int32) then (0 : Int64) else own_sat (0 : Int64) nn) / (1000000 : Int64)) ms).mpr (by rw [hms]; exact own_t z3 nn))).2) ?_
    show Steps p.tables e below (T64.setTop (mkF m 215 #[.val (.int w'), .val (.long h'1), .second, .val (.int f'), .val (.long n'0), .second, .val (.int z1), .val (.int z2), .val (.int z3), .val (.long nn), .second, .val (.ref b18), .val (.ref r'), .val (.long (wa + wb)), .second, .val (.long ec), .second, .val (.long ms), .second] [])) _
    refine XS.aload X64.here hx rfl (hb hby at_215) rfl rfl ?_
    show Steps p.tables e below (T64.setTop (mkF m 217 #[.val (.int w'), .val (.long h'1), .second, .val (.int f'), .val (.long n'0), .second, .val (.int z1), .val (.int z2), .val (.int z3), .val (.long nn), .second, .val (.ref b18), .val (.ref r'), .val (.long (wa + wb)), .second, .val (.long ec), .second, .val (.long ms), .second] [(.ref r')])) _
    refine st65.trans ?_
    show Steps p.tables e below (T65.setTop (mkF m 220 #[.val (.int w'), .val (.long h'1), .second, .val (.int f'), .val (.long n'0), .second, .val (.int z1), .val (.int z2), .val (.int z3), .val (.long nn), .second, .val (.ref b18), .val (.ref r'), .val (.long (wa + wb)), .second, .val (.long ec), .second, .val (.long ms), .second] [(.long (if (if z3 = (0 : Int32) then (0 : Int64) else ((0 : Int64) + (1 : Int64))) = (0 : Int64) then (0 : Int64) else (((if z3 = (0 : Int32) then (0 : Int64) else own_sat (0 : Int64) nn) / (1000000 : Int64)) / (if z3 = (0 : Int32) then (0 : Int64) else ((0 : Int64) + (1 : Int64))))))])) _
    refine XS.lload X65.here hx rfl (hb hby at_220) rfl ?_
    show Steps p.tables e below (T65.setTop (mkF m 222 #[.val (.int w'), .val (.long h'1), .second, .val (.int f'), .val (.long n'0), .second, .val (.int z1), .val (.int z2), .val (.int z3), .val (.long nn), .second, .val (.ref b18), .val (.ref r'), .val (.long (wa + wb)), .second, .val (.long ec), .second, .val (.long ms), .second] [(.long ms), (.long (if (if z3 = (0 : Int32) then (0 : Int64) else ((0 : Int64) + (1 : Int64))) = (0 : Int64) then (0 : Int64) else (((if z3 = (0 : Int32) then (0 : Int64) else own_sat (0 : Int64) nn) / (1000000 : Int64)) / (if z3 = (0 : Int32) then (0 : Int64) else ((0 : Int64) + (1 : Int64))))))])) _
    refine XS.lcmp X65.here hx rfl (hb hby at_222) rfl ?_
    show Steps p.tables e below (T65.setTop (mkF m 223 #[.val (.int w'), .val (.long h'1), .second, .val (.int f'), .val (.long n'0), .second, .val (.int z1), .val (.int z2), .val (.int z3), .val (.long nn), .second, .val (.ref b18), .val (.ref r'), .val (.long (wa + wb)), .second, .val (.long ec), .second, .val (.long ms), .second] [(.int (lcmpW (if (if z3 = (0 : Int32) then (0 : Int64) else ((0 : Int64) + (1 : Int64))) = (0 : Int64) then (0 : Int64) else (((if z3 = (0 : Int32) then (0 : Int64) else own_sat (0 : Int64) nn) / (1000000 : Int64)) / (if z3 = (0 : Int32) then (0 : Int64) else ((0 : Int64) + (1 : Int64))))) ms))])) _
    refine XS.ifNo X65.here hx rfl (hb hby at_223) rfl ((if0 _ _).trans (teq ((lw_eq (if (if z3 = (0 : Int32) then (0 : Int64) else ((0 : Int64) + (1 : Int64))) = (0 : Int64) then (0 : Int64) else (((if z3 = (0 : Int32) then (0 : Int64) else own_sat (0 : Int64) nn) / (1000000 : Int64)) / (if z3 = (0 : Int32) then (0 : Int64) else ((0 : Int64) + (1 : Int64))))) ms).mpr (by rw [hms]; exact own_a z3 nn hnn))).2) ?_
    show Steps p.tables e below (T65.setTop (mkF m 226 #[.val (.int w'), .val (.long h'1), .second, .val (.int f'), .val (.long n'0), .second, .val (.int z1), .val (.int z2), .val (.int z3), .val (.long nn), .second, .val (.ref b18), .val (.ref r'), .val (.long (wa + wb)), .second, .val (.long ec), .second, .val (.long ms), .second] [])) _
    refine XS.aload X65.here hx rfl (hb hby at_226) rfl rfl ?_
    show Steps p.tables e below (T65.setTop (mkF m 228 #[.val (.int w'), .val (.long h'1), .second, .val (.int f'), .val (.long n'0), .second, .val (.int z1), .val (.int z2), .val (.int z3), .val (.long nn), .second, .val (.ref b18), .val (.ref r'), .val (.long (wa + wb)), .second, .val (.long ec), .second, .val (.long ms), .second] [(.ref r')])) _
    refine st66.trans ?_
    show Steps p.tables e below (T66.setTop (mkF m 231 #[.val (.int w'), .val (.long h'1), .second, .val (.int f'), .val (.long n'0), .second, .val (.int z1), .val (.int z2), .val (.int z3), .val (.long nn), .second, .val (.ref b18), .val (.ref r'), .val (.long (wa + wb)), .second, .val (.long ec), .second, .val (.long ms), .second] [(.long ((if z3 = (0 : Int32) then (0 : Int64) else own_max (0 : Int64) nn) / (1000000 : Int64)))])) _
    refine XS.lload X66.here hx rfl (hb hby at_231) rfl ?_
    show Steps p.tables e below (T66.setTop (mkF m 233 #[.val (.int w'), .val (.long h'1), .second, .val (.int f'), .val (.long n'0), .second, .val (.int z1), .val (.int z2), .val (.int z3), .val (.long nn), .second, .val (.ref b18), .val (.ref r'), .val (.long (wa + wb)), .second, .val (.long ec), .second, .val (.long ms), .second] [(.long ms), (.long ((if z3 = (0 : Int32) then (0 : Int64) else own_max (0 : Int64) nn) / (1000000 : Int64)))])) _
    refine XS.lcmp X66.here hx rfl (hb hby at_233) rfl ?_
    show Steps p.tables e below (T66.setTop (mkF m 234 #[.val (.int w'), .val (.long h'1), .second, .val (.int f'), .val (.long n'0), .second, .val (.int z1), .val (.int z2), .val (.int z3), .val (.long nn), .second, .val (.ref b18), .val (.ref r'), .val (.long (wa + wb)), .second, .val (.long ec), .second, .val (.long ms), .second] [(.int (lcmpW ((if z3 = (0 : Int32) then (0 : Int64) else own_max (0 : Int64) nn) / (1000000 : Int64)) ms))])) _
    refine XS.ifNo X66.here hx rfl (hb hby at_234) rfl ((if0 _ _).trans (teq ((lw_eq ((if z3 = (0 : Int32) then (0 : Int64) else own_max (0 : Int64) nn) / (1000000 : Int64)) ms).mpr (by rw [hms]; exact own_l z3 nn hnn))).2) ?_
    show Steps p.tables e below (T66.setTop (mkF m 237 #[.val (.int w'), .val (.long h'1), .second, .val (.int f'), .val (.long n'0), .second, .val (.int z1), .val (.int z2), .val (.int z3), .val (.long nn), .second, .val (.ref b18), .val (.ref r'), .val (.long (wa + wb)), .second, .val (.long ec), .second, .val (.long ms), .second] [])) _
    refine XS.iconst X66.here hx rfl (hb hby at_237) ?_
    show Steps p.tables e below (T66.setTop (mkF m 238 #[.val (.int w'), .val (.long h'1), .second, .val (.int f'), .val (.long n'0), .second, .val (.int z1), .val (.int z2), .val (.int z3), .val (.long nn), .second, .val (.ref b18), .val (.ref r'), .val (.long (wa + wb)), .second, .val (.long ec), .second, .val (.long ms), .second] [(.int (1 : Int32))])) _
    refine XS.goto X66.here hx rfl (pc0 := 238) (pc' := 242) rfl (hb hby at_238) (by decide) (by decide) ?_
    show Steps p.tables e below (T66.setTop (mkF m 242 #[.val (.int w'), .val (.long h'1), .second, .val (.int f'), .val (.long n'0), .second, .val (.int z1), .val (.int z2), .val (.int z3), .val (.long nn), .second, .val (.ref b18), .val (.ref r'), .val (.long (wa + wb)), .second, .val (.long ec), .second, .val (.long ms), .second] [(.int (1 : Int32))])) _
    exact retN X66 hx (t := .boolean) Bd.returns (by simp) (hb hby at_242) hr
  · show Q0 Z w' h'1 f' n'0 ns h0 n0 _ T66.heap _
    rw [hh66]
    exact ⟨rfl, N66⟩
set_option maxRecDepth 65536 in
set_option maxHeartbeats 40000000 in
theorem comes_1 {Post : Tables → Env → Array Value → State → Outcome → State → Prop} (hpost : ∀ tb e args s v u, (limb_1_1.after args s (.returned v) u = true ∧ limb_1_2.after args s (.returned v) u = true ∧ True) → FrameEnd s (.returned v) u (Jvm.fieldLocs frame_1_writes args s ++ Jvm.arrayLocs frame_1_arrays args s ++ Jvm.staticLocs frame_1_statics s) 16 128 → Post tb e args s (.returned v) u) :
    ArmFor flags0 classFile x code maxLocals ret World_1 tables_1 room_1 Calls_1 rest_1 Pre_1 Post := by
  intro l hfl _ _ p e ha hc hk s m args below hf hA hF happ hP
  obtain ⟨hcalls, hrest, hpre⟩ := hP
  obtain ⟨-, -, -, hnamed, -, -, -, hat⟩ := (Spec.applies_iff hf).mp happ
  obtain ⟨hg, hn⟩ := and_e (Cond.before_iff.mp (show (Jvm.Cond.and given_1 narrow_1).before args s = true from hpre))
  obtain ⟨hcount, gr0⟩ := and_e hg
  obtain ⟨ga0, gr1⟩ := and_e gr0
  obtain ⟨ga1, gr2⟩ := and_e gr1
  obtain ⟨ga2, ga3⟩ := and_e gr2
  obtain ⟨w0, w1, w2, w3, rfl⟩ : ∃ w0 w1 w2 w3 : Value, args = #[w0, w1, w2, w3] := by
    have hs : args.size = 4 := by simpa [Cond.value, given_1] using hcount
    obtain ⟨L⟩ := args
    match L, hs with
    | [w0, w1, w2, w3], _ => exact ⟨w0, w1, w2, w3, rfl⟩
  have hw := fun d (hd : d ∈ tables_1) => atoms_spec (ws := Jvm.Cond.code x code maxLocals ret :: tables_1) hat d (List.mem_cons_of_mem _ hd)
  have hfit : Fit s := fun {y c} hc i hi => by
    obtain ⟨ha, rfl⟩ := Array.getElem?_eq_some_iff.mp hc
    have q := List.all_eq_true.mp ((Array.all_eq_true_iff_forall_mem.mp hF) _ (Array.getElem_mem ha)) i (List.mem_range.mpr hi)
    simpa [Array.getElem?_eq_getElem hi] using q
  obtain ⟨hsets, hown0⟩ := atoms_of _ (rest_1_c_eq ▸ (show rest_1_c.before _ s = true from hrest))
  have hr0 := Cond.before_iff.mp hown0
  obtain ⟨i0, ei0⟩ := is_v ga0
  obtain rfl : w0 = (.int i0) := Option.some.inj ei0
  obtain ⟨i1, ei1⟩ := isL_v ga1
  obtain rfl : w1 = (.long i1) := Option.some.inj ei1
  obtain ⟨i2, ei2⟩ := is_v ga2
  obtain rfl : w2 = (.int i2) := Option.some.inj ei2
  obtain ⟨i3, ei3⟩ := isL_v ga3
  obtain rfl : w3 = (.long i3) := Option.some.inj ei3
  have x2 := (Cond.before_iff.mp (hsets _ (List.mem_of_getElem? (i := 2) rfl)))
  obtain ⟨ns, ens⟩ := exa_v x2
  have fs := Fld.start ((fld_at ens).symm.trans (own_eqL (Cond.before_iff.mp (hsets _ (List.mem_of_getElem? (i := 5) rfl)))))
  have fm := Fld.start ((fld_at ens).symm.trans (own_eq (Cond.before_iff.mp (hsets _ (List.mem_of_getElem? (i := 9) rfl)))))
  obtain ⟨n, o, h1, h2, h3, _, L, rfl, ⟨rfl, N⟩, hq⟩ := rm0 l s _ hw tables_1 i0 i1 i2 i3 ns s.heap s.heap.size (Nat.le_refl _) (Old.start s) (Sta.start ens (Or.inl (hsets _ (List.mem_of_getElem? (i := 1) rfl)))) (Exa.start ens x2) fs fm p e ha hc hk s m _ below hf ((Spec.applies_iff_loose hf).mp happ).1 ⟨rfl, State.Warmed39.refl s, rfl⟩ trivial
  refine ⟨n, _, h1, h2, h3, hpost _ _ _ _ _ _ ⟨Cond.after_iff.mpr rfl, Cond.after_iff.mpr (eq_i res_at (Term.int_eval (1)) rfl), trivial⟩ ⟨hq.1, hq.2.1, (hq.2.2.sift fun y hy => Or.inr (N y hy)).mono (by decide) (by decide)⟩⟩
theorem main_1_1 : Claimed_1_1 := comes_1 fun _ _ _ _ _ _ h hF => ⟨h.1, hF⟩
theorem main_1_2 : Claimed_1_2 := comes_1 fun _ _ _ _ _ _ h hF => ⟨h.2.1, hF⟩
end Jvm.Pilot.@@N@@
namespace Jvm.Pilot.@@N@@
open Jvm Jvm.ClassFile Sem Op Lib Jvm.Free Jvm.Stand Jvm.Pilot.@@N@@.Jvm.D
/-! MADE BY PROGRAM (witnessworld.py) out of the Statement's table words and the real class files: 19 classes; the members and pool entries that the words name. The judged class is class 1, her method 1. -/
namespace start1
open Jvm.ClassFile
def u (s : String) : CpInfo := .utf8 (stringToUtf16 s)
/-- a pool by its gaps: so many unusable entries, then the entry; so many at the end -/
def gap : Nat → List CpInfo → List CpInfo
  | 0, r => r
  | n + 1, r => .unusable :: gap n r
def poolList (es : List (Nat × CpInfo)) (last : Nat) : List CpInfo := es.foldr (fun e r => gap e.1 (e.2 :: r)) (gap last [])
def pool (es : List (Nat × CpInfo)) (last : Nat) : Array CpInfo := ⟨poolList es last⟩
def fileOf (pool : Array CpInfo) (this : Nat) (attrs : Array Attribute := #[]) (ms : Array MethodInfo := #[]) (fl : Nat := 33) (sup : Nat := 0) (ifs : Array Nat := #[]) (fds : Array FieldInfo := #[]) : ClassFile where
  minorVersion := 0
  majorVersion := 65
  constantPool := pool
  accessFlags := fl
  thisClass := this
  superClass := sup
  interfaces := ifs
  fields := fds
  methods := ms
  attributes := attrs
def plain (name : String) (sup : Option ClassId) : Class where
  name := name
  kind := .ordinary
  loader := none
  accessFlags := 33
  super := sup
  interfaces := #[]
  cf := none
  fields := #[]
  methods := #[]
  instanceTypes := #[]
  staticTypes := #[]
  resolved := #[]
  callSites := []
  init := .initialized
  statics := none
  mirror := none

def pool0 : Array CpInfo := pool [(5, u "<init>"), (0, u "()V"), (1, .class_ 10), (1, u "java/lang/Object")] 113

def k0c0 : Code := { maxStack := 0, maxLocals := 1, code := object_method_1_code, exceptionTable := #[], attributes := #[] }
def k0m0 : Method := { name := "<init>", desc := "()V", sig := { parameters := [], returnType := none }, accessFlags := 1, code := some k0c0 }
/-- java/lang/Object -/
def k0 : Class := { plain "java/lang/Object" none with
  accessFlags := 33
  interfaces := #[]
  cf := some (fileOf pool0 8 #[] #[{ accessFlags := 1, nameIndex := 5, descriptorIndex := 6, attributes := #[] }] 33 0 #[] #[])
  fields := #[]
  methods := #[k0m0]
  instanceTypes := #[]
  staticTypes := #[]
  resolved := Array.replicate 124 none
  statics := none }

def pool1 : Array CpInfo := pool [(2, .class_ 4), (0, .nameAndType 5 6), (0, u "java/lang/Object"), (0, u "<init>"), (0, u "()V"), (2, .long 9223372036854775807), (1, .class_ 12), (0, u "com/example/diligent_locks/diligentlocks/LockCounts"), (0, .methodref 11 3), (0, .methodref 11 15), (0, .nameAndType 16 17), (0, u "waitStarted"), (0, u "(Z)V"), (0, .methodref 11 19), (0, .nameAndType 20 21), (0, u "waitEnded"), (0, u "(ZJ)V"), (0, .fieldref 11 23), (0, .nameAndType 24 25), (0, u "held"), (0, u "J"), (0, .fieldref 11 27), (0, .nameAndType 28 29), (0, u "waiting"), (0, u "I"), (0, .methodref 11 31), (0, .nameAndType 32 33), (0, u "recordLockWaits"), (0, u "()Lcom/example/diligent_locks/diligentlocks/RecordLockWaits;"), (0, .long 1000000), (1, .methodref 37 38), (0, .class_ 39), (0, .nameAndType 40 41), (0, u "com/example/diligent_locks/diligentlocks/RecordLockWaits"), (0, u "waits"), (0, u "()J"), (0, .methodref 37 43), (0, .nameAndType 44 41), (0, u "currentWaits"), (0, .methodref 37 46), (0, .nameAndType 47 41), (0, u "totalWaitMillis"), (0, .methodref 37 49), (0, .nameAndType 50 41), (0, u "averageWaitMillis"), (0, .methodref 37 52), (0, .nameAndType 53 41), (0, u "longestWaitMillis"), (0, .class_ 55), (0, u "com/example/diligent_locks/diligentlocks/LockCountsWaitStartedPinLaw"), (2, u "law"), (0, u "(IJIJ)Z")] 3

def k1m0 : Method := { name := "<init>", desc := "()V", sig := { parameters := [], returnType := none }, accessFlags := 1, code := none }
def k1c1 : Code := { maxStack := 6, maxLocals := 19, code := code, exceptionTable := #[], attributes := #[] }
def k1m1 : Method := { name := "law", desc := "(IJIJ)Z", sig := { parameters := [.int, .long, .int, .long], returnType := some .boolean }, accessFlags := 9, code := some k1c1 }
/-- com/example/diligent_locks/diligentlocks/LockCountsWaitStartedPinLaw -/
def k1 : Class := { plain "com/example/diligent_locks/diligentlocks/LockCountsWaitStartedPinLaw" (some 0) with
  accessFlags := 49
  interfaces := #[]
  cf := some (fileOf pool1 54 #[] #[{ accessFlags := 1, nameIndex := 5, descriptorIndex := 6, attributes := #[] }, { accessFlags := 9, nameIndex := 58, descriptorIndex := 59, attributes := #[] }] 49 2 #[] #[])
  fields := #[]
  methods := #[k1m0, k1m1]
  instanceTypes := #[]
  staticTypes := #[]
  resolved := Array.replicate 63 none
  statics := none }

def pool2 : Array CpInfo := pool [(1, .methodref 2 3), (0, .class_ 4), (0, .nameAndType 5 6), (0, u "java/lang/Object"), (0, u "<init>"), (0, u "()V"), (0, .fieldref 8 9), (0, .class_ 10), (0, .nameAndType 11 12), (0, u "com/example/diligent_locks/diligentlocks/LockCounts"), (0, u "waiting"), (0, u "I"), (0, .fieldref 8 14), (0, .nameAndType 15 16), (0, u "recordWaits"), (0, u "J"), (0, .fieldref 8 18), (0, .nameAndType 19 16), (0, u "endedRecordWaits"), (0, .fieldref 8 21), (0, .nameAndType 22 16), (0, u "recordWaitNanos"), (0, .methodref 8 24), (0, .nameAndType 25 26), (0, u "saturatedSum"), (0, u "(JJ)J"), (0, .fieldref 8 28), (0, .nameAndType 29 16), (0, u "longestRecordWaitNanos"), (0, .methodref 31 32), (0, .class_ 33), (0, .nameAndType 34 26), (0, u "java/lang/Math"), (0, u "max"), (2, .long 9223372036854775807), (1, .fieldref 40 41), (0, .class_ 42), (0, .nameAndType 43 44), (0, u "java/util/concurrent/TimeUnit"), (0, u "NANOSECONDS"), (0, u "Ljava/util/concurrent/TimeUnit;"), (0, .methodref 40 46), (0, .nameAndType 47 48), (0, u "toMillis"), (0, u "(J)J"), (0, .class_ 50), (0, u "com/example/diligent_locks/diligentlocks/RecordLockWaits"), (0, .methodref 49 52), (0, .nameAndType 5 53), (0, u "(JJJJJ)V"), (0, u "held"), (2, u "waitStarted"), (0, u "(Z)V"), (1, u "waitEnded"), (0, u "(ZJ)V"), (0, u "recordLockWaits"), (0, u "()Lcom/example/diligent_locks/diligentlocks/RecordLockWaits;")] 2

def k2c0 : Code := { maxStack := 1, maxLocals := 1, code := prog_14_method_1_code, exceptionTable := #[], attributes := #[] }
def k2m0 : Method := { name := "<init>", desc := "()V", sig := { parameters := [], returnType := none }, accessFlags := 0, code := some k2c0 }
def k2c1 : Code := { maxStack := 5, maxLocals := 2, code := prog_14_method_2_code, exceptionTable := #[], attributes := #[] }
def k2m1 : Method := { name := "waitStarted", desc := "(Z)V", sig := { parameters := [.boolean], returnType := none }, accessFlags := 0, code := some k2c1 }
def k2c2 : Code := { maxStack := 5, maxLocals := 4, code := prog_14_method_3_code, exceptionTable := #[], attributes := #[] }
def k2m2 : Method := { name := "waitEnded", desc := "(ZJ)V", sig := { parameters := [.boolean, .long], returnType := none }, accessFlags := 0, code := some k2c2 }
def k2c3 : Code := { maxStack := 6, maxLocals := 4, code := prog_14_method_4_code, exceptionTable := #[], attributes := #[] }
def k2m3 : Method := { name := "saturatedSum", desc := "(JJ)J", sig := { parameters := [.long, .long], returnType := some .long }, accessFlags := 8, code := some k2c3 }
def k2c4 : Code := { maxStack := 13, maxLocals := 5, code := prog_14_method_5_code, exceptionTable := #[], attributes := #[] }
def k2m4 : Method := { name := "recordLockWaits", desc := "()Lcom/example/diligent_locks/diligentlocks/RecordLockWaits;", sig := { parameters := [], returnType := some (.object "com/example/diligent_locks/diligentlocks/RecordLockWaits") }, accessFlags := 0, code := some k2c4 }
/-- com/example/diligent_locks/diligentlocks/LockCounts -/
def k2 : Class := { plain "com/example/diligent_locks/diligentlocks/LockCounts" (some 0) with
  accessFlags := 32
  interfaces := #[]
  cf := some (fileOf pool2 8 #[] #[{ accessFlags := 0, nameIndex := 5, descriptorIndex := 6, attributes := #[] }, { accessFlags := 0, nameIndex := 57, descriptorIndex := 58, attributes := #[] }, { accessFlags := 0, nameIndex := 60, descriptorIndex := 61, attributes := #[] }, { accessFlags := 8, nameIndex := 25, descriptorIndex := 26, attributes := #[] }, { accessFlags := 0, nameIndex := 62, descriptorIndex := 63, attributes := #[] }] 32 2 #[] #[{ accessFlags := 0, nameIndex := 54, descriptorIndex := 16, attributes := #[] }, { accessFlags := 0, nameIndex := 11, descriptorIndex := 12, attributes := #[] }, { accessFlags := 2, nameIndex := 15, descriptorIndex := 16, attributes := #[] }, { accessFlags := 2, nameIndex := 19, descriptorIndex := 16, attributes := #[] }, { accessFlags := 2, nameIndex := 22, descriptorIndex := 16, attributes := #[] }, { accessFlags := 2, nameIndex := 29, descriptorIndex := 16, attributes := #[] }])
  fields := #[{ name := "held", type := .long, accessFlags := 0, slot := 0, constantValue := 0 }, { name := "waiting", type := .int, accessFlags := 0, slot := 1, constantValue := 0 }, { name := "recordWaits", type := .long, accessFlags := 2, slot := 2, constantValue := 0 }, { name := "endedRecordWaits", type := .long, accessFlags := 2, slot := 3, constantValue := 0 }, { name := "recordWaitNanos", type := .long, accessFlags := 2, slot := 4, constantValue := 0 }, { name := "longestRecordWaitNanos", type := .long, accessFlags := 2, slot := 5, constantValue := 0 }]
  methods := #[k2m0, k2m1, k2m2, k2m3, k2m4]
  instanceTypes := #[.long, .int, .long, .long, .long, .long]
  staticTypes := #[]
  resolved := Array.replicate 66 none
  statics := none }

def pool3 : Array CpInfo := pool [(1, .class_ 2), (0, u "java/lang/constant/Constable"), (0, .class_ 4), (0, u "java/lang/Object")] 6

/-- java/lang/constant/Constable -/
def k3 : Class := { plain "java/lang/constant/Constable" (some 0) with
  accessFlags := 1537
  interfaces := #[]
  cf := some (fileOf pool3 1 #[] #[] 1537 3 #[] #[])
  fields := #[]
  methods := #[]
  instanceTypes := #[]
  staticTypes := #[]
  resolved := Array.replicate 11 none
  statics := none }

def pool4 : Array CpInfo := pool [(1, .class_ 2), (0, u "java/lang/Comparable"), (0, .class_ 4), (0, u "java/lang/Object")] 7

/-- java/lang/Comparable -/
def k4 : Class := { plain "java/lang/Comparable" (some 0) with
  accessFlags := 1537
  interfaces := #[]
  cf := some (fileOf pool4 1 #[] #[] 1537 3 #[] #[])
  fields := #[]
  methods := #[]
  instanceTypes := #[]
  staticTypes := #[]
  resolved := Array.replicate 12 none
  statics := none }

def pool5 : Array CpInfo := pool [(1, .class_ 2), (0, u "java/io/Serializable"), (0, .class_ 4), (0, u "java/lang/Object")] 2

/-- java/io/Serializable -/
def k5 : Class := { plain "java/io/Serializable" (some 0) with
  accessFlags := 1537
  interfaces := #[]
  cf := some (fileOf pool5 1 #[] #[] 1537 3 #[] #[])
  fields := #[]
  methods := #[]
  instanceTypes := #[]
  staticTypes := #[]
  resolved := Array.replicate 7 none
  statics := none }

def pool6 : Array CpInfo := pool [(2, .class_ 4), (1, u "java/lang/Enum"), (0, u "name"), (0, u "Ljava/lang/String;"), (2, u "ordinal"), (0, u "I"), (1, .class_ 14), (1, u "java/lang/Object"), (4, u "hash"), (86, .class_ 108), (1, u "java/lang/Enum$EnumDesc"), (2, .class_ 112), (0, u "java/lang/constant/Constable"), (0, .class_ 114), (0, u "java/lang/Comparable"), (0, .class_ 116), (0, u "java/io/Serializable")] 87

/-- java/lang/Enum -/
def k6 : Class := { plain "java/lang/Enum" (some 0) with
  accessFlags := 1057
  interfaces := #[3, 4, 5]
  cf := some (fileOf pool6 2 #[.nestMembers #[106]] #[] 1057 12 #[111, 113, 115] #[{ accessFlags := 18, nameIndex := 5, descriptorIndex := 6, attributes := #[] }, { accessFlags := 18, nameIndex := 9, descriptorIndex := 10, attributes := #[] }, { accessFlags := 2, nameIndex := 19, descriptorIndex := 10, attributes := #[] }])
  fields := #[{ name := "name", type := (.object "java/lang/String"), accessFlags := 18, slot := 0, constantValue := 0 }, { name := "ordinal", type := .int, accessFlags := 18, slot := 1, constantValue := 0 }, { name := "hash", type := .int, accessFlags := 2, slot := 2, constantValue := 0 }]
  methods := #[]
  instanceTypes := #[(.object "java/lang/String"), .int, .int]
  staticTypes := #[]
  resolved := Array.replicate 204 none
  statics := none }

def pool7 : Array CpInfo := pool [(1, .class_ 2), (0, u "java/util/concurrent/TimeUnit"), (2, u "NANOSECONDS"), (0, u "Ljava/util/concurrent/TimeUnit;"), (2, u "MICROSECONDS"), (2, u "MILLISECONDS"), (2, u "SECONDS"), (2, u "MINUTES"), (2, u "HOURS"), (2, u "DAYS"), (2, u "$VALUES"), (0, u "[Ljava/util/concurrent/TimeUnit;"), (6, .class_ 37), (1, u "java/lang/Enum"), (6, .fieldref 1 45), (0, .nameAndType 46 47), (0, u "scale"), (0, u "J"), (6, u "maxNanos"), (4, u "microRatio"), (2, u "maxMicros"), (0, .long 1000000), (1, .fieldref 1 66), (0, .nameAndType 67 68), (0, u "milliRatio"), (0, u "I"), (2, u "maxMillis"), (4, u "secRatio"), (2, u "maxSecs"), (9, u "(J)J"), (5, u "toMillis"), (67, .class_ 165), (1, u "java/util/concurrent/TimeUnit$1"), (46, u "NANO_SCALE"), (3, u "MICRO_SCALE"), (0, u "MILLI_SCALE"), (0, u "SECOND_SCALE"), (0, u "MINUTE_SCALE"), (0, u "HOUR_SCALE"), (0, u "DAY_SCALE")] 61

def k7c0 : Code := { maxStack := 6, maxLocals := 7, code := jdk_2799_method_9_code, exceptionTable := #[], attributes := #[] }
def k7m0 : Method := { name := "toMillis", desc := "(J)J", sig := { parameters := [.long], returnType := some .long }, accessFlags := 1, code := some k7c0 }
/-- java/util/concurrent/TimeUnit -/
def k7 : Class := { plain "java/util/concurrent/TimeUnit" (some 6) with
  accessFlags := 16433
  interfaces := #[]
  cf := some (fileOf pool7 1 #[.nestMembers #[163]] #[{ accessFlags := 1, nameIndex := 95, descriptorIndex := 89, attributes := #[] }] 16433 35 #[] #[{ accessFlags := 16409, nameIndex := 5, descriptorIndex := 6, attributes := #[] }, { accessFlags := 16409, nameIndex := 9, descriptorIndex := 6, attributes := #[] }, { accessFlags := 16409, nameIndex := 12, descriptorIndex := 6, attributes := #[] }, { accessFlags := 16409, nameIndex := 15, descriptorIndex := 6, attributes := #[] }, { accessFlags := 16409, nameIndex := 18, descriptorIndex := 6, attributes := #[] }, { accessFlags := 16409, nameIndex := 21, descriptorIndex := 6, attributes := #[] }, { accessFlags := 16409, nameIndex := 24, descriptorIndex := 6, attributes := #[] }, { accessFlags := 26, nameIndex := 212, descriptorIndex := 47, attributes := #[] }, { accessFlags := 26, nameIndex := 216, descriptorIndex := 47, attributes := #[] }, { accessFlags := 26, nameIndex := 217, descriptorIndex := 47, attributes := #[] }, { accessFlags := 26, nameIndex := 218, descriptorIndex := 47, attributes := #[] }, { accessFlags := 26, nameIndex := 219, descriptorIndex := 47, attributes := #[] }, { accessFlags := 26, nameIndex := 220, descriptorIndex := 47, attributes := #[] }, { accessFlags := 26, nameIndex := 221, descriptorIndex := 47, attributes := #[] }, { accessFlags := 18, nameIndex := 46, descriptorIndex := 47, attributes := #[] }, { accessFlags := 18, nameIndex := 54, descriptorIndex := 47, attributes := #[] }, { accessFlags := 18, nameIndex := 62, descriptorIndex := 47, attributes := #[] }, { accessFlags := 18, nameIndex := 71, descriptorIndex := 47, attributes := #[] }, { accessFlags := 18, nameIndex := 79, descriptorIndex := 47, attributes := #[] }, { accessFlags := 18, nameIndex := 59, descriptorIndex := 47, attributes := #[] }, { accessFlags := 18, nameIndex := 67, descriptorIndex := 68, attributes := #[] }, { accessFlags := 18, nameIndex := 76, descriptorIndex := 68, attributes := #[] }, { accessFlags := 4122, nameIndex := 27, descriptorIndex := 28, attributes := #[] }])
  fields := #[{ name := "NANOSECONDS", type := (.object "java/util/concurrent/TimeUnit"), accessFlags := 16409, slot := 0, constantValue := 0 }, { name := "MICROSECONDS", type := (.object "java/util/concurrent/TimeUnit"), accessFlags := 16409, slot := 1, constantValue := 0 }, { name := "MILLISECONDS", type := (.object "java/util/concurrent/TimeUnit"), accessFlags := 16409, slot := 2, constantValue := 0 }, { name := "SECONDS", type := (.object "java/util/concurrent/TimeUnit"), accessFlags := 16409, slot := 3, constantValue := 0 }, { name := "MINUTES", type := (.object "java/util/concurrent/TimeUnit"), accessFlags := 16409, slot := 4, constantValue := 0 }, { name := "HOURS", type := (.object "java/util/concurrent/TimeUnit"), accessFlags := 16409, slot := 5, constantValue := 0 }, { name := "DAYS", type := (.object "java/util/concurrent/TimeUnit"), accessFlags := 16409, slot := 6, constantValue := 0 }, { name := "NANO_SCALE", type := .long, accessFlags := 26, slot := 7, constantValue := 0 }, { name := "MICRO_SCALE", type := .long, accessFlags := 26, slot := 8, constantValue := 0 }, { name := "MILLI_SCALE", type := .long, accessFlags := 26, slot := 9, constantValue := 0 }, { name := "SECOND_SCALE", type := .long, accessFlags := 26, slot := 10, constantValue := 0 }, { name := "MINUTE_SCALE", type := .long, accessFlags := 26, slot := 11, constantValue := 0 }, { name := "HOUR_SCALE", type := .long, accessFlags := 26, slot := 12, constantValue := 0 }, { name := "DAY_SCALE", type := .long, accessFlags := 26, slot := 13, constantValue := 0 }, { name := "scale", type := .long, accessFlags := 18, slot := 3, constantValue := 0 }, { name := "maxNanos", type := .long, accessFlags := 18, slot := 4, constantValue := 0 }, { name := "maxMicros", type := .long, accessFlags := 18, slot := 5, constantValue := 0 }, { name := "maxMillis", type := .long, accessFlags := 18, slot := 6, constantValue := 0 }, { name := "maxSecs", type := .long, accessFlags := 18, slot := 7, constantValue := 0 }, { name := "microRatio", type := .long, accessFlags := 18, slot := 8, constantValue := 0 }, { name := "milliRatio", type := .int, accessFlags := 18, slot := 9, constantValue := 0 }, { name := "secRatio", type := .int, accessFlags := 18, slot := 10, constantValue := 0 }, { name := "$VALUES", type := (.array (.object "java/util/concurrent/TimeUnit")), accessFlags := 4122, slot := 14, constantValue := 0 }]
  methods := #[k7m0]
  instanceTypes := #[(.object "java/lang/String"), .int, .int, .long, .long, .long, .long, .long, .long, .int, .int]
  staticTypes := #[(.object "java/util/concurrent/TimeUnit"), (.object "java/util/concurrent/TimeUnit"), (.object "java/util/concurrent/TimeUnit"), (.object "java/util/concurrent/TimeUnit"), (.object "java/util/concurrent/TimeUnit"), (.object "java/util/concurrent/TimeUnit"), (.object "java/util/concurrent/TimeUnit"), .long, .long, .long, .long, .long, .long, .long, (.array (.object "java/util/concurrent/TimeUnit"))]
  resolved := Array.replicate 283 none
  statics := some 0 }

def pool8 : Array CpInfo := pool [(1, .methodref 2 3), (0, .class_ 4), (0, .nameAndType 5 6), (0, u "java/lang/Object"), (0, u "<init>"), (0, u "()V"), (0, .class_ 8), (0, u "java/lang/Record")] 13

def k8c0 : Code := { maxStack := 1, maxLocals := 1, code := jdk_30_method_1_code, exceptionTable := #[], attributes := #[] }
def k8m0 : Method := { name := "<init>", desc := "()V", sig := { parameters := [], returnType := none }, accessFlags := 4, code := some k8c0 }
/-- java/lang/Record -/
def k8 : Class := { plain "java/lang/Record" (some 0) with
  accessFlags := 1057
  interfaces := #[]
  cf := some (fileOf pool8 7 #[] #[{ accessFlags := 4, nameIndex := 5, descriptorIndex := 6, attributes := #[] }] 1057 2 #[] #[])
  fields := #[]
  methods := #[k8m0]
  instanceTypes := #[]
  staticTypes := #[]
  resolved := Array.replicate 22 none
  statics := none }

def pool9 : Array CpInfo := pool [(1, .methodref 2 3), (0, .class_ 4), (0, .nameAndType 5 6), (0, u "java/lang/Record"), (0, u "<init>"), (0, u "()V"), (0, .fieldref 8 9), (0, .class_ 10), (0, .nameAndType 11 12), (0, u "com/example/diligent_locks/diligentlocks/RecordLockWaits"), (0, u "currentWaits"), (0, u "J"), (0, .fieldref 8 14), (0, .nameAndType 15 12), (0, u "waits"), (0, .fieldref 8 17), (0, .nameAndType 18 12), (0, u "totalWaitMillis"), (0, .fieldref 8 20), (0, .nameAndType 21 12), (0, u "averageWaitMillis"), (0, .fieldref 8 23), (0, .nameAndType 24 12), (0, u "longestWaitMillis"), (12, u "(JJJJJ)V"), (6, u "()J")] 24

def k9c0 : Code := { maxStack := 3, maxLocals := 11, code := prog_31_method_1_code, exceptionTable := #[], attributes := #[] }
def k9m0 : Method := { name := "<init>", desc := "(JJJJJ)V", sig := { parameters := [.long, .long, .long, .long, .long], returnType := none }, accessFlags := 1, code := some k9c0 }
def k9c1 : Code := { maxStack := 2, maxLocals := 1, code := prog_31_method_5_code, exceptionTable := #[], attributes := #[] }
def k9m1 : Method := { name := "currentWaits", desc := "()J", sig := { parameters := [], returnType := some .long }, accessFlags := 1, code := some k9c1 }
def k9c2 : Code := { maxStack := 2, maxLocals := 1, code := prog_31_method_6_code, exceptionTable := #[], attributes := #[] }
def k9m2 : Method := { name := "waits", desc := "()J", sig := { parameters := [], returnType := some .long }, accessFlags := 1, code := some k9c2 }
def k9c3 : Code := { maxStack := 2, maxLocals := 1, code := prog_31_method_7_code, exceptionTable := #[], attributes := #[] }
def k9m3 : Method := { name := "totalWaitMillis", desc := "()J", sig := { parameters := [], returnType := some .long }, accessFlags := 1, code := some k9c3 }
def k9c4 : Code := { maxStack := 2, maxLocals := 1, code := prog_31_method_8_code, exceptionTable := #[], attributes := #[] }
def k9m4 : Method := { name := "averageWaitMillis", desc := "()J", sig := { parameters := [], returnType := some .long }, accessFlags := 1, code := some k9c4 }
def k9c5 : Code := { maxStack := 2, maxLocals := 1, code := prog_31_method_9_code, exceptionTable := #[], attributes := #[] }
def k9m5 : Method := { name := "longestWaitMillis", desc := "()J", sig := { parameters := [], returnType := some .long }, accessFlags := 1, code := some k9c5 }
/-- com/example/diligent_locks/diligentlocks/RecordLockWaits -/
def k9 : Class := { plain "com/example/diligent_locks/diligentlocks/RecordLockWaits" (some 8) with
  accessFlags := 49
  interfaces := #[]
  cf := some (fileOf pool9 8 #[] #[{ accessFlags := 1, nameIndex := 5, descriptorIndex := 37, attributes := #[] }, { accessFlags := 1, nameIndex := 11, descriptorIndex := 44, attributes := #[] }, { accessFlags := 1, nameIndex := 15, descriptorIndex := 44, attributes := #[] }, { accessFlags := 1, nameIndex := 18, descriptorIndex := 44, attributes := #[] }, { accessFlags := 1, nameIndex := 21, descriptorIndex := 44, attributes := #[] }, { accessFlags := 1, nameIndex := 24, descriptorIndex := 44, attributes := #[] }] 49 2 #[] #[{ accessFlags := 18, nameIndex := 11, descriptorIndex := 12, attributes := #[] }, { accessFlags := 18, nameIndex := 15, descriptorIndex := 12, attributes := #[] }, { accessFlags := 18, nameIndex := 18, descriptorIndex := 12, attributes := #[] }, { accessFlags := 18, nameIndex := 21, descriptorIndex := 12, attributes := #[] }, { accessFlags := 18, nameIndex := 24, descriptorIndex := 12, attributes := #[] }])
  fields := #[{ name := "currentWaits", type := .long, accessFlags := 18, slot := 0, constantValue := 0 }, { name := "waits", type := .long, accessFlags := 18, slot := 1, constantValue := 0 }, { name := "totalWaitMillis", type := .long, accessFlags := 18, slot := 2, constantValue := 0 }, { name := "averageWaitMillis", type := .long, accessFlags := 18, slot := 3, constantValue := 0 }, { name := "longestWaitMillis", type := .long, accessFlags := 18, slot := 4, constantValue := 0 }]
  methods := #[k9m0, k9m1, k9m2, k9m3, k9m4, k9m5]
  instanceTypes := #[.long, .long, .long, .long, .long]
  staticTypes := #[]
  resolved := Array.replicate 69 none
  statics := none }

def pool10 : Array CpInfo := pool [(1, .class_ 2), (0, u "java/lang/Math"), (1, .class_ 6), (1, u "java/lang/Object"), (0, u "<init>"), (0, u "()V"), (89, .class_ 100), (1, u "java/lang/Math$RandomNumberGeneratorHolder"), (20, u "(JJ)J"), (50, u "negativeZeroFloatBits"), (0, u "J"), (2, u "negativeZeroDoubleBits"), (21, u "max"), (46, u "$assertionsDisabled"), (0, u "Z"), (91, u "twoToTheDoubleScaleDown"), (0, u "D"), (4, u "twoToTheDoubleScaleUp"), (9, u "E"), (3, u "PI"), (2, u "TAU"), (2, u "DEGREES_TO_RADIANS"), (0, u "RADIANS_TO_DEGREES")] 94

def k10m0 : Method := { name := "<init>", desc := "()V", sig := { parameters := [], returnType := none }, accessFlags := 2, code := none }
def k10c1 : Code := { maxStack := 4, maxLocals := 4, code := jdk_29_method_66_code, exceptionTable := #[], attributes := #[] }
def k10m1 : Method := { name := "max", desc := "(JJ)J", sig := { parameters := [.long, .long], returnType := some .long }, accessFlags := 9, code := some k10c1 }
/-- java/lang/Math -/
def k10 : Class := { plain "java/lang/Math" (some 0) with
  accessFlags := 49
  interfaces := #[]
  cf := some (fileOf pool10 1 #[.nestMembers #[98]] #[{ accessFlags := 2, nameIndex := 7, descriptorIndex := 8, attributes := #[] }, { accessFlags := 9, nameIndex := 198, descriptorIndex := 121, attributes := #[] }] 49 4 #[] #[{ accessFlags := 25, nameIndex := 354, descriptorIndex := 339, attributes := #[] }, { accessFlags := 25, nameIndex := 358, descriptorIndex := 339, attributes := #[] }, { accessFlags := 25, nameIndex := 361, descriptorIndex := 339, attributes := #[] }, { accessFlags := 26, nameIndex := 364, descriptorIndex := 339, attributes := #[] }, { accessFlags := 26, nameIndex := 365, descriptorIndex := 339, attributes := #[] }, { accessFlags := 26, nameIndex := 172, descriptorIndex := 173, attributes := #[] }, { accessFlags := 26, nameIndex := 176, descriptorIndex := 173, attributes := #[] }, { accessFlags := 8, nameIndex := 344, descriptorIndex := 339, attributes := #[] }, { accessFlags := 8, nameIndex := 338, descriptorIndex := 339, attributes := #[] }, { accessFlags := 4120, nameIndex := 245, descriptorIndex := 246, attributes := #[] }])
  fields := #[{ name := "E", type := .double, accessFlags := 25, slot := 0, constantValue := 0 }, { name := "PI", type := .double, accessFlags := 25, slot := 1, constantValue := 0 }, { name := "TAU", type := .double, accessFlags := 25, slot := 2, constantValue := 0 }, { name := "DEGREES_TO_RADIANS", type := .double, accessFlags := 26, slot := 3, constantValue := 0 }, { name := "RADIANS_TO_DEGREES", type := .double, accessFlags := 26, slot := 4, constantValue := 0 }, { name := "negativeZeroFloatBits", type := .long, accessFlags := 26, slot := 5, constantValue := 0 }, { name := "negativeZeroDoubleBits", type := .long, accessFlags := 26, slot := 6, constantValue := 0 }, { name := "twoToTheDoubleScaleUp", type := .double, accessFlags := 8, slot := 7, constantValue := 0 }, { name := "twoToTheDoubleScaleDown", type := .double, accessFlags := 8, slot := 8, constantValue := 0 }, { name := "$assertionsDisabled", type := .boolean, accessFlags := 4120, slot := 9, constantValue := 0 }]
  methods := #[k10m0, k10m1]
  instanceTypes := #[]
  staticTypes := #[.double, .double, .double, .double, .double, .long, .long, .double, .double, .boolean]
  resolved := Array.replicate 460 none
  statics := none }

def pool11 : Array CpInfo := pool [(2, .class_ 4), (1, u "java/lang/CharSequence"), (42, .class_ 48), (0, u "java/lang/CharSequence$1CodePointIterator"), (10, .class_ 60), (0, u "java/lang/CharSequence$1CharIterator"), (5, .class_ 67), (0, u "java/lang/Object")] 63

/-- java/lang/CharSequence -/
def k11 : Class := { plain "java/lang/CharSequence" (some 0) with
  accessFlags := 1537
  interfaces := #[]
  cf := some (fileOf pool11 2 #[.nestMembers #[47, 59]] #[] 1537 66 #[] #[])
  fields := #[]
  methods := #[]
  instanceTypes := #[]
  staticTypes := #[]
  resolved := Array.replicate 131 none
  statics := none }

def pool12 : Array CpInfo := pool [(1, .class_ 2), (0, u "java/lang/constant/ConstantDesc"), (0, .class_ 4), (0, u "java/lang/Object")] 32

/-- java/lang/constant/ConstantDesc -/
def k12 : Class := { plain "java/lang/constant/ConstantDesc" (some 0) with
  accessFlags := 1537
  interfaces := #[]
  cf := some (fileOf pool12 1 #[] #[] 1537 3 #[] #[])
  fields := #[]
  methods := #[]
  instanceTypes := #[]
  staticTypes := #[]
  resolved := Array.replicate 37 none
  statics := none }

def pool13 : Array CpInfo := pool [(2, .class_ 4), (1, u "java/lang/Object"), (0, u "<init>"), (0, u "()V"), (3, .class_ 12), (1, u "java/lang/String"), (0, u "value"), (0, u "[B"), (2, u "coder"), (0, u "B"), (2, u "hash"), (0, u "I"), (2, u "hashIsZero"), (0, u "Z"), (13, u "COMPACT_STRINGS"), (534, .class_ 576), (0, u "java/lang/CharSequence"), (22, u "CASE_INSENSITIVE_ORDER"), (0, u "Ljava/util/Comparator;"), (500, u "serialPersistentFields"), (0, u "[Ljava/io/ObjectStreamField;"), (0, .class_ 1104), (0, u "java/lang/String$CaseInsensitiveComparator"), (1, .class_ 1107), (0, u "java/io/Serializable"), (0, .class_ 1109), (0, u "java/lang/Comparable"), (0, .class_ 1111), (0, u "java/lang/constant/Constable"), (0, .class_ 1113), (0, u "java/lang/constant/ConstantDesc"), (2, u "serialVersionUID"), (0, u "J"), (3, u "REPL"), (0, u "C"), (2, u "LATIN1"), (1, u "UTF16")] 323

def k13m0 : Method := { name := "<init>", desc := "()V", sig := { parameters := [], returnType := none }, accessFlags := 1, code := none }
/-- java/lang/String -/
def k13 : Class := { plain "java/lang/String" (some 0) with
  accessFlags := 49
  interfaces := #[5, 4, 11, 3, 12]
  cf := some (fileOf pool13 10 #[.nestMembers #[1103]] #[{ accessFlags := 1, nameIndex := 5, descriptorIndex := 6, attributes := #[] }] 49 2 #[1106, 1108, 575, 1110, 1112] #[{ accessFlags := 18, nameIndex := 13, descriptorIndex := 14, attributes := #[] }, { accessFlags := 18, nameIndex := 17, descriptorIndex := 18, attributes := #[] }, { accessFlags := 2, nameIndex := 21, descriptorIndex := 22, attributes := #[] }, { accessFlags := 2, nameIndex := 25, descriptorIndex := 26, attributes := #[] }, { accessFlags := 26, nameIndex := 1116, descriptorIndex := 1117, attributes := #[] }, { accessFlags := 24, nameIndex := 40, descriptorIndex := 26, attributes := #[] }, { accessFlags := 26, nameIndex := 1101, descriptorIndex := 1102, attributes := #[] }, { accessFlags := 26, nameIndex := 1121, descriptorIndex := 1122, attributes := #[] }, { accessFlags := 25, nameIndex := 599, descriptorIndex := 600, attributes := #[] }, { accessFlags := 24, nameIndex := 1125, descriptorIndex := 18, attributes := #[] }, { accessFlags := 24, nameIndex := 1127, descriptorIndex := 18, attributes := #[] }])
  fields := #[{ name := "value", type := (.array .byte), accessFlags := 18, slot := 0, constantValue := 0 }, { name := "coder", type := .byte, accessFlags := 18, slot := 1, constantValue := 0 }, { name := "hash", type := .int, accessFlags := 2, slot := 2, constantValue := 0 }, { name := "hashIsZero", type := .boolean, accessFlags := 2, slot := 3, constantValue := 0 }, { name := "serialVersionUID", type := .long, accessFlags := 26, slot := 0, constantValue := 0 }, { name := "COMPACT_STRINGS", type := .boolean, accessFlags := 24, slot := 1, constantValue := 0 }, { name := "serialPersistentFields", type := (.array (.object "java/io/ObjectStreamField")), accessFlags := 26, slot := 2, constantValue := 0 }, { name := "REPL", type := .char, accessFlags := 26, slot := 3, constantValue := 0 }, { name := "CASE_INSENSITIVE_ORDER", type := (.object "java/util/Comparator"), accessFlags := 25, slot := 4, constantValue := 0 }, { name := "LATIN1", type := .byte, accessFlags := 24, slot := 5, constantValue := 0 }, { name := "UTF16", type := .byte, accessFlags := 24, slot := 6, constantValue := 0 }]
  methods := #[k13m0]
  instanceTypes := #[(.array .byte), .byte, .int, .boolean]
  staticTypes := #[.long, .boolean, (.array (.object "java/io/ObjectStreamField")), .char, (.object "java/util/Comparator"), .byte, .byte]
  resolved := Array.replicate 1451 none
  statics := none }

def pool14 : Array CpInfo := pool [(1, u "java/lang/Cloneable"), (0, .class_ 1), (0, u "java/lang/Object"), (0, .class_ 3)] 3

/-- java/lang/Cloneable -/
def k14 : Class := { plain "java/lang/Cloneable" (some 0) with
  accessFlags := 1537
  interfaces := #[]
  cf := some (fileOf pool14 2 #[] #[] 1537 4 #[] #[])
  fields := #[]
  methods := #[]
  instanceTypes := #[]
  staticTypes := #[]
  resolved := Array.replicate 8 none
  statics := none }

/-- the primitive byte -/
def k15 : Class := { plain "byte" none with kind := .primitive 'B', accessFlags := 0x411 }
/-- [B -/
def k16 : Class := { plain "[B" (some 0) with kind := .array 15 .byte, interfaces := #[14, 5], accessFlags := 1041 }

/-- the primitive int -/
def k17 : Class := { plain "int" none with kind := .primitive 'I', accessFlags := 0x411 }
/-- [I -/
def k18 : Class := { plain "[I" (some 0) with kind := .array 17 .int, interfaces := #[14, 5], accessFlags := 1041 }

def heap : Heap := #[{ cls := 7, slots := #[.ref 1, .null, .null, .null, .null, .null, .null, .long 0, .long 0, .long 0, .long 0, .long 0, .long 0, .long 0, .null], vm := .statics 7 },
  { cls := 7, slots := #[.ref 2, .int 0, .int 0, .long 1, .long 9223372036854775807, .long 9223372036854775, .long 9223372036854, .long 9223372036, .long 1000, .int 1000000, .int 1000000000], vm := .none },
  { cls := 13, slots := #[.null, .int 0, .int 0, .int 0], vm := .none }]
def classes : Array Class := #[k0, k1, k2, k3, k4, k5, k6, k7, k8, k9, k10, k11, k12, k13, k14, k15, k16, k17, k18]
def interned : List (Array UInt16 × Addr) := []
def slotsUsed : Nat := 30
def theMethod : MethodId := ⟨1, 1⟩
def args0 : Array Value := #[.int 5, .long 7, .int 7, .long 5000000]
def aboutOver (below : List Frame) : State where
  vm := { classes := classes, interned := interned.toArray }
  heap := heap
  slotsUsed := slotsUsed
  threads := #[{ frames := .invoking theMethod args0 :: below }]
def below0 : List Frame := [.native { method := ⟨0, 0⟩, args := #[] }]
def about1 : State := aboutOver below0
def p0 : Program := .bare "" "" ""
def e0 : Env := launch0.env 0 0 0
theorem w_frames : about1.frames = Frame.invoking theMethod args0 :: below0 := rfl
set_option maxRecDepth 65536 in
theorem w_args : argsFit about1.vm theMethod args0 = true := by decide +kernel
set_option maxRecDepth 65536 in
theorem w_heap : heapFits about1 = true := by decide +kernel
set_option maxRecDepth 65536 in
theorem w_runnable : about1.curStatus? = some .runnable := by decide +kernel
set_option maxRecDepth 65536 in
theorem w_alone : about1.alone = true := by decide +kernel
set_option maxRecDepth 65536 in
theorem w_named : about1.methodNamed? x = some theMethod := by decide +kernel
set_option maxRecDepth 65536 in
theorem w_hears : about1.hears theMethod below0 = true := by decide +kernel
set_option maxRecDepth 65536 in
theorem w_ripe : about1.ripe theMethod args0 below0 = true := by decide +kernel
theorem w_running : about1.status = .running := rfl
set_option maxRecDepth 65536 in
theorem w_room : about1.hasRoom e0.platform room_1 = true :=
  launch0.hasRoom_least _ room_1 (by decide +kernel) (by decide +kernel) (by decide +kernel) (by decide +kernel) (by decide +kernel) (by decide +kernel)
theorem allAtoms_all (ts : List Jvm.Cond) (a : Array Jvm.Value) (st : Jvm.State) : (allAtoms ts).before a st = ts.all (fun c => c.before a st) := by
  induction ts with
  | nil => rfl
  | cons c t ih =>
    show (Jvm.Cond.and c (allAtoms t)).before a st = _
    rw [Jvm.Cond.before_and, ih, List.all_cons]
def words1 : List Jvm.Cond := Jvm.Cond.code x code maxLocals ret :: tables_1
/-- a 'code' word, met by the world's own term for the bytes: nothing is compared byte by byte -/
theorem code_word {y : MethodName} {bytes : ByteArray} {mx : Nat} {rt : Option FieldType} {a : Array Value} {s : State} {m : MethodId} {meth : Method} {c : Code} (h1 : s.methodNamed? y = some m) (h2 : s.vm.method? m = some meth) (h3 : meth.code = some c) (h4 : c.code = bytes)
    (h5 : (c.maxLocals == mx && c.exceptionTable.isEmpty && decide (c.maxStack ≤ mostOperands) && decide (meth.sig.returnType = rt) && !meth.locks && decide (parseMethodDescriptor y.desc = some meth.sig)) = true) : (Jvm.Cond.code y bytes mx rt).before a s = true := by
  simp only [Bool.and_eq_true, beq_iff_eq, Bool.not_eq_true', decide_eq_true_eq] at h5
  obtain ⟨⟨⟨⟨⟨g1, g2⟩, g3⟩, g4⟩, g5⟩, g6⟩ := h5
  simp [Cond.before, Cond.holds, Cond.value, h1, h2, h3, h4, g1, g2, g3, g4, g5, g6]
def isCode : Jvm.Cond → Bool
  | .code _ _ _ _ => true
  | _ => false
theorem all_split {L : List Jvm.Cond} {P : Jvm.Cond → Bool} (h1 : L.all (fun c => isCode c || P c) = true) (h2 : ∀ c ∈ L.filter isCode, P c = true) : L.all P = true := by
  refine List.all_eq_true.mpr fun c hc => ?_
  have h := List.all_eq_true.mp h1 c hc
  rcases Bool.eq_false_or_eq_true (isCode c) with hi | hi
  · exact h2 c (List.mem_filter.mpr ⟨hc, hi⟩)
  · simpa [hi] using h
set_option maxRecDepth 65536 in
theorem w_c0 : (Jvm.Cond.code x code maxLocals ret).before args0 about1 = true := code_word (m := ⟨1, 1⟩) (meth := k1m1) (c := k1c1) (by decide +kernel) rfl rfl rfl (by decide +kernel)
set_option maxRecDepth 65536 in
theorem w_c1 : (Jvm.Cond.code ({ cls := "com/example/diligent_locks/diligentlocks/LockCounts", name := "<init>", desc := "()V" } : Jvm.MethodName) prog_14_method_1_code (1 : Nat) (Option.none : Option Jvm.ClassFile.FieldType)).before args0 about1 = true := code_word (m := ⟨2, 0⟩) (meth := k2m0) (c := k2c0) (by decide +kernel) rfl rfl rfl (by decide +kernel)
set_option maxRecDepth 65536 in
theorem w_c2 : (Jvm.Cond.code ({ cls := "java/lang/Object", name := "<init>", desc := "()V" } : Jvm.MethodName) object_method_1_code (1 : Nat) (Option.none : Option Jvm.ClassFile.FieldType)).before args0 about1 = true := code_word (m := ⟨0, 0⟩) (meth := k0m0) (c := k0c0) (by decide +kernel) rfl rfl rfl (by decide +kernel)
set_option maxRecDepth 65536 in
theorem w_c3 : (Jvm.Cond.code ({ cls := "com/example/diligent_locks/diligentlocks/LockCounts", name := "waitStarted", desc := "(Z)V" } : Jvm.MethodName) prog_14_method_2_code (2 : Nat) (Option.none : Option Jvm.ClassFile.FieldType)).before args0 about1 = true := code_word (m := ⟨2, 1⟩) (meth := k2m1) (c := k2c1) (by decide +kernel) rfl rfl rfl (by decide +kernel)
set_option maxRecDepth 65536 in
theorem w_c4 : (Jvm.Cond.code ({ cls := "com/example/diligent_locks/diligentlocks/LockCounts", name := "recordLockWaits", desc := "()Lcom/example/diligent_locks/diligentlocks/RecordLockWaits;" } : Jvm.MethodName) prog_14_method_5_code (5 : Nat) (Option.some (Jvm.ClassFile.FieldType.object "com/example/diligent_locks/diligentlocks/RecordLockWaits"))).before args0 about1 = true := code_word (m := ⟨2, 4⟩) (meth := k2m4) (c := k2c4) (by decide +kernel) rfl rfl rfl (by decide +kernel)
set_option maxRecDepth 65536 in
theorem w_c5 : (Jvm.Cond.code ({ cls := "java/util/concurrent/TimeUnit", name := "toMillis", desc := "(J)J" } : Jvm.MethodName) jdk_2799_method_9_code (7 : Nat) (Option.some Jvm.ClassFile.FieldType.long)).before args0 about1 = true := code_word (m := ⟨7, 0⟩) (meth := k7m0) (c := k7c0) (by decide +kernel) rfl rfl rfl (by decide +kernel)
set_option maxRecDepth 65536 in
theorem w_c6 : (Jvm.Cond.code ({ cls := "com/example/diligent_locks/diligentlocks/RecordLockWaits", name := "<init>", desc := "(JJJJJ)V" } : Jvm.MethodName) prog_31_method_1_code (11 : Nat) (Option.none : Option Jvm.ClassFile.FieldType)).before args0 about1 = true := code_word (m := ⟨9, 0⟩) (meth := k9m0) (c := k9c0) (by decide +kernel) rfl rfl rfl (by decide +kernel)
set_option maxRecDepth 65536 in
theorem w_c7 : (Jvm.Cond.code ({ cls := "java/lang/Record", name := "<init>", desc := "()V" } : Jvm.MethodName) jdk_30_method_1_code (1 : Nat) (Option.none : Option Jvm.ClassFile.FieldType)).before args0 about1 = true := code_word (m := ⟨8, 0⟩) (meth := k8m0) (c := k8c0) (by decide +kernel) rfl rfl rfl (by decide +kernel)
set_option maxRecDepth 65536 in
theorem w_c8 : (Jvm.Cond.code ({ cls := "com/example/diligent_locks/diligentlocks/RecordLockWaits", name := "waits", desc := "()J" } : Jvm.MethodName) prog_31_method_6_code (1 : Nat) (Option.some Jvm.ClassFile.FieldType.long)).before args0 about1 = true := code_word (m := ⟨9, 2⟩) (meth := k9m2) (c := k9c2) (by decide +kernel) rfl rfl rfl (by decide +kernel)
set_option maxRecDepth 65536 in
theorem w_c9 : (Jvm.Cond.code ({ cls := "com/example/diligent_locks/diligentlocks/RecordLockWaits", name := "currentWaits", desc := "()J" } : Jvm.MethodName) prog_31_method_5_code (1 : Nat) (Option.some Jvm.ClassFile.FieldType.long)).before args0 about1 = true := code_word (m := ⟨9, 1⟩) (meth := k9m1) (c := k9c1) (by decide +kernel) rfl rfl rfl (by decide +kernel)
set_option maxRecDepth 65536 in
theorem w_c10 : (Jvm.Cond.code ({ cls := "com/example/diligent_locks/diligentlocks/RecordLockWaits", name := "totalWaitMillis", desc := "()J" } : Jvm.MethodName) prog_31_method_7_code (1 : Nat) (Option.some Jvm.ClassFile.FieldType.long)).before args0 about1 = true := code_word (m := ⟨9, 3⟩) (meth := k9m3) (c := k9c3) (by decide +kernel) rfl rfl rfl (by decide +kernel)
set_option maxRecDepth 65536 in
theorem w_c11 : (Jvm.Cond.code ({ cls := "com/example/diligent_locks/diligentlocks/RecordLockWaits", name := "averageWaitMillis", desc := "()J" } : Jvm.MethodName) prog_31_method_8_code (1 : Nat) (Option.some Jvm.ClassFile.FieldType.long)).before args0 about1 = true := code_word (m := ⟨9, 4⟩) (meth := k9m4) (c := k9c4) (by decide +kernel) rfl rfl rfl (by decide +kernel)
set_option maxRecDepth 65536 in
theorem w_c12 : (Jvm.Cond.code ({ cls := "com/example/diligent_locks/diligentlocks/RecordLockWaits", name := "longestWaitMillis", desc := "()J" } : Jvm.MethodName) prog_31_method_9_code (1 : Nat) (Option.some Jvm.ClassFile.FieldType.long)).before args0 about1 = true := code_word (m := ⟨9, 5⟩) (meth := k9m5) (c := k9c5) (by decide +kernel) rfl rfl rfl (by decide +kernel)
set_option maxRecDepth 65536 in
theorem w_c13 : (Jvm.Cond.code ({ cls := "com/example/diligent_locks/diligentlocks/LockCounts", name := "waitEnded", desc := "(ZJ)V" } : Jvm.MethodName) prog_14_method_3_code (4 : Nat) (Option.none : Option Jvm.ClassFile.FieldType)).before args0 about1 = true := code_word (m := ⟨2, 2⟩) (meth := k2m2) (c := k2c2) (by decide +kernel) rfl rfl rfl (by decide +kernel)
set_option maxRecDepth 65536 in
theorem w_c14 : (Jvm.Cond.code ({ cls := "com/example/diligent_locks/diligentlocks/LockCounts", name := "saturatedSum", desc := "(JJ)J" } : Jvm.MethodName) prog_14_method_4_code (4 : Nat) (Option.some Jvm.ClassFile.FieldType.long)).before args0 about1 = true := code_word (m := ⟨2, 3⟩) (meth := k2m3) (c := k2c3) (by decide +kernel) rfl rfl rfl (by decide +kernel)
set_option maxRecDepth 65536 in
theorem w_c15 : (Jvm.Cond.code ({ cls := "java/lang/Math", name := "max", desc := "(JJ)J" } : Jvm.MethodName) jdk_29_method_66_code (4 : Nat) (Option.some Jvm.ClassFile.FieldType.long)).before args0 about1 = true := code_word (m := ⟨10, 1⟩) (meth := k10m1) (c := k10c1) (by decide +kernel) rfl rfl rfl (by decide +kernel)
def codes1 : List Jvm.Cond := [Jvm.Cond.code x code maxLocals ret, Jvm.Cond.code ({ cls := "com/example/diligent_locks/diligentlocks/LockCounts", name := "<init>", desc := "()V" } : Jvm.MethodName) prog_14_method_1_code (1 : Nat) (Option.none : Option Jvm.ClassFile.FieldType), Jvm.Cond.code ({ cls := "java/lang/Object", name := "<init>", desc := "()V" } : Jvm.MethodName) object_method_1_code (1 : Nat) (Option.none : Option Jvm.ClassFile.FieldType), Jvm.Cond.code ({ cls := "com/example/diligent_locks/diligentlocks/LockCounts", name := "waitStarted", desc := "(Z)V" } : Jvm.MethodName) prog_14_method_2_code (2 : Nat) (Option.none : Option Jvm.ClassFile.FieldType), Jvm.Cond.code ({ cls := "com/example/diligent_locks/diligentlocks/LockCounts", name := "recordLockWaits", desc := "()Lcom/example/diligent_locks/diligentlocks/RecordLockWaits;" } : Jvm.MethodName) prog_14_method_5_code (5 : Nat) (Option.some (Jvm.ClassFile.FieldType.object "com/example/diligent_locks/diligentlocks/RecordLockWaits")), Jvm.Cond.code ({ cls := "java/util/concurrent/TimeUnit", name := "toMillis", desc := "(J)J" } : Jvm.MethodName) jdk_2799_method_9_code (7 : Nat) (Option.some Jvm.ClassFile.FieldType.long), Jvm.Cond.code ({ cls := "com/example/diligent_locks/diligentlocks/RecordLockWaits", name := "<init>", desc := "(JJJJJ)V" } : Jvm.MethodName) prog_31_method_1_code (11 : Nat) (Option.none : Option Jvm.ClassFile.FieldType), Jvm.Cond.code ({ cls := "java/lang/Record", name := "<init>", desc := "()V" } : Jvm.MethodName) jdk_30_method_1_code (1 : Nat) (Option.none : Option Jvm.ClassFile.FieldType), Jvm.Cond.code ({ cls := "com/example/diligent_locks/diligentlocks/RecordLockWaits", name := "waits", desc := "()J" } : Jvm.MethodName) prog_31_method_6_code (1 : Nat) (Option.some Jvm.ClassFile.FieldType.long), Jvm.Cond.code ({ cls := "com/example/diligent_locks/diligentlocks/RecordLockWaits", name := "currentWaits", desc := "()J" } : Jvm.MethodName) prog_31_method_5_code (1 : Nat) (Option.some Jvm.ClassFile.FieldType.long), Jvm.Cond.code ({ cls := "com/example/diligent_locks/diligentlocks/RecordLockWaits", name := "totalWaitMillis", desc := "()J" } : Jvm.MethodName) prog_31_method_7_code (1 : Nat) (Option.some Jvm.ClassFile.FieldType.long), Jvm.Cond.code ({ cls := "com/example/diligent_locks/diligentlocks/RecordLockWaits", name := "averageWaitMillis", desc := "()J" } : Jvm.MethodName) prog_31_method_8_code (1 : Nat) (Option.some Jvm.ClassFile.FieldType.long), Jvm.Cond.code ({ cls := "com/example/diligent_locks/diligentlocks/RecordLockWaits", name := "longestWaitMillis", desc := "()J" } : Jvm.MethodName) prog_31_method_9_code (1 : Nat) (Option.some Jvm.ClassFile.FieldType.long), Jvm.Cond.code ({ cls := "com/example/diligent_locks/diligentlocks/LockCounts", name := "waitEnded", desc := "(ZJ)V" } : Jvm.MethodName) prog_14_method_3_code (4 : Nat) (Option.none : Option Jvm.ClassFile.FieldType), Jvm.Cond.code ({ cls := "com/example/diligent_locks/diligentlocks/LockCounts", name := "saturatedSum", desc := "(JJ)J" } : Jvm.MethodName) prog_14_method_4_code (4 : Nat) (Option.some Jvm.ClassFile.FieldType.long), Jvm.Cond.code ({ cls := "java/lang/Math", name := "max", desc := "(JJ)J" } : Jvm.MethodName) jdk_29_method_66_code (4 : Nat) (Option.some Jvm.ClassFile.FieldType.long)]
set_option maxRecDepth 65536 in
theorem codes_eq : words1.filter isCode = codes1 := rfl
theorem w_codes : ∀ c ∈ words1.filter isCode, c.before args0 about1 = true := by
  rw [codes_eq]
  intro c hc
  simp only [codes1, List.mem_cons, List.not_mem_nil, or_false] at hc
  rcases hc with rfl | rfl | rfl | rfl | rfl | rfl | rfl | rfl | rfl | rfl | rfl | rfl | rfl | rfl | rfl | rfl
  · exact w_c0
  · exact w_c1
  · exact w_c2
  · exact w_c3
  · exact w_c4
  · exact w_c5
  · exact w_c6
  · exact w_c7
  · exact w_c8
  · exact w_c9
  · exact w_c10
  · exact w_c11
  · exact w_c12
  · exact w_c13
  · exact w_c14
  · exact w_c15
set_option maxRecDepth 65536 in
theorem w_t1 : (words1.take 24).all (fun c => isCode c || c.before args0 about1) = true := by decide +kernel
set_option maxRecDepth 65536 in
theorem w_t2 : ((words1.drop 24).take 24).all (fun c => isCode c || c.before args0 about1) = true := by decide +kernel
set_option maxRecDepth 65536 in
theorem w_t3 : (((words1.drop 24).drop 24).take 24).all (fun c => isCode c || c.before args0 about1) = true := by decide +kernel
set_option maxRecDepth 65536 in
theorem w_t4 : ((((words1.drop 24).drop 24).drop 24).take 24).all (fun c => isCode c || c.before args0 about1) = true := by decide +kernel
set_option maxRecDepth 65536 in
theorem w_t5 : ((((words1.drop 24).drop 24).drop 24).drop 24).all (fun c => isCode c || c.before args0 about1) = true := by decide +kernel
theorem w_tables : (allAtoms (Jvm.Cond.code x code maxLocals ret :: tables_1)).before args0 about1 = true := by
  rw [allAtoms_all]
  show words1.all (fun c => c.before args0 about1) = true
  refine all_split ?_ w_codes
  rw [← List.take_append_drop 24 words1, List.all_append, w_t1, ← List.take_append_drop 24 (words1.drop 24), List.all_append, w_t2, ← List.take_append_drop 24 ((words1.drop 24).drop 24), List.all_append, w_t3, ← List.take_append_drop 24 (((words1.drop 24).drop 24).drop 24), List.all_append, w_t4, w_t5]
  rfl
set_option maxRecDepth 65536 in
theorem w_rest : rest_1_c.before args0 about1 = true := by decide +kernel
set_option maxRecDepth 65536 in
theorem w_case : (Jvm.Cond.and given_1 narrow_1).before args0 about1 = true := by decide +kernel
theorem w_applies : (headSpec (Jvm.Cond.code x code maxLocals ret :: tables_1) room_1).applies x e0.platform about1 = true :=
  (Spec.applies_iff w_frames).mpr ⟨w_running, w_runnable, w_alone, w_named, w_hears, w_ripe, w_room, w_tables⟩
theorem atStart : AtStart classFile x code maxLocals ret World_1 tables_1 room_1 Calls_1 rest_1 Pre_1 launch0 p0 e0 about1 theMethod args0 below0 :=
  ⟨lists_1, trivial, launch0.admits_env _ _ _, launch0.least_env, fairChoices_fair.cas, fairChoices_fair.clock, w_frames, w_args, w_heap, w_applies, trivial, w_rest, w_case⟩
end start1
theorem witness_1 : WitnessClaimed_1 := ⟨start1.p0, start1.e0, start1.about1, start1.theMethod, start1.args0, start1.below0, start1.atStart⟩
end Jvm.Pilot.@@N@@
