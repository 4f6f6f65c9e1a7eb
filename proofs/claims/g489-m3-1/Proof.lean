import JvmDerived
import JvmDerived.Pilot.@@N@@Statement
import JvmDerived.Pilot.@@N@@Code
set_option linter.unusedVariables false
set_option linter.unusedSimpArgs false
namespace Jvm.Pilot.@@N@@
open Jvm Jvm.ClassFile Sem Op Lib Jvm.Free Jvm.Stand Jvm.LawKit Jvm.RoadKit Bundle Jvm.Pilot.@@N@@.Jvm.D
def own_cnt (y : Int32) (m' : Int32) : Int64 := ((((12 : Int64) * (y.toInt64)) + (m'.toInt64)) - (1 : Int64))
theorem own_c (y m : Int32) : (own_cnt y m).toInt = 12 * y.toInt + m.toInt - 1 := by
  have a := c_lmul 12 y.toInt64
  rw [show (12 : Int64).toInt = 12 from rfl, c_i2l] at a
  have b := c_ladd (12 * y.toInt64) m.toInt64
  rw [c_i2l] at b
  have c := c_lsub (12 * y.toInt64 + m.toInt64) 1
  rw [show (1 : Int64).toInt = 1 from rfl] at c
  have r1 := rng32 y; have r2 := rng32 m; have r3 := rng64 (12 * y.toInt64); have r4 := rng64 (12 * y.toInt64 + m.toInt64); have r5 := rng64 (12 * y.toInt64 + m.toInt64 - 1)
  show (12 * y.toInt64 + m.toInt64 - 1).toInt = _
  omega
theorem own_m (x : Int32) : 1 ≤ ((1 : Int32) + ((x &&& (2147483647 : Int32)) % (12 : Int32))).toInt ∧ ((1 : Int32) + ((x &&& (2147483647 : Int32)) % (12 : Int32))).toInt ≤ 12 := by
  have a := c_mask x 2147483647 31 (by decide) (by decide)
  have b := (c_irem (x &&& 2147483647) 12 12 rfl).1 (by rw [a]; omega)
  have c := c_iadd 1 ((x &&& 2147483647) % 12)
  rw [show (1 : Int32).toInt = 1 from rfl] at c
  have r := rng32 (1 + ((x &&& 2147483647) % 12))
  omega
theorem own_jan (y m : Int32) (h : 1 ≤ m.toInt ∧ m.toInt ≤ 12) : (own_cnt y m - own_cnt y (1 : Int32)) = (m - (1 : Int32)).toInt64 := by
  apply Int64.toInt_inj.mp
  have a := c_lsub (own_cnt y m) (own_cnt y 1)
  rw [own_c, own_c, show (1 : Int32).toInt = 1 from rfl] at a
  have b := c_isub m 1
  rw [show (1 : Int32).toInt = 1 from rfl] at b
  have r1 := rng64 (own_cnt y m - own_cnt y 1); have r2 := rng32 (m - 1)
  rw [c_i2l]
  omega
theorem own_next (y m : Int32) (hy : ¬ (y = (2147483647 : Int32))) : (own_cnt (y + (1 : Int32)) m - own_cnt y m) = (12 : Int64) := by
  apply Int64.toInt_inj.mp
  have hy' : ¬ (y.toInt = 2147483647) := fun q => hy (Int32.toInt_inj.mp q)
  have a := c_lsub (own_cnt (y + 1) m) (own_cnt y m)
  rw [own_c, own_c] at a
  have b := c_iadd y 1
  rw [show (1 : Int32).toInt = 1 from rfl] at b
  have r1 := rng64 (own_cnt (y + 1) m - own_cnt y m); have r2 := rng32 (y + 1); have r3 := rng32 y
  rw [show (12 : Int64).toInt = 12 from rfl]
  omega
theorem d1_0 : decode prog_77_method_2_code 0 = .ok (.ldc2_w 7, 3) := by decide +kernel
theorem d1_3 : decode prog_77_method_2_code 3 = .ok (.iload_n 0, 1) := by decide +kernel
theorem d1_4 : decode prog_77_method_2_code 4 = .ok (.i2l, 1) := by decide +kernel
theorem d1_5 : decode prog_77_method_2_code 5 = .ok (.lmul, 1) := by decide +kernel
theorem d1_6 : decode prog_77_method_2_code 6 = .ok (.iload_n 1, 1) := by decide +kernel
theorem d1_7 : decode prog_77_method_2_code 7 = .ok (.i2l, 1) := by decide +kernel
theorem d1_8 : decode prog_77_method_2_code 8 = .ok (.ladd, 1) := by decide +kernel
theorem d1_9 : decode prog_77_method_2_code 9 = .ok (.lconst 1, 1) := by decide +kernel
theorem d1_10 : decode prog_77_method_2_code 10 = .ok (.lsub, 1) := by decide +kernel
theorem d1_11 : decode prog_77_method_2_code 11 = .ok (.lreturn, 1) := by decide +kernel
theorem pn_1 : plainName "com/example/overage/overage/catalog/MonthSeconds" = true := by first | (simp [plainName, overriddenIn]; done) | decide +kernel
theorem ef_1 (m : MethodId) (x0 : Int32) (x1 : Int32) : entryFrame m #[(.int x0), (.int x1)] 2 = mkF m 0 #[.val (.int x0), .val (.int x1)] [] := by first | (simp [entryFrame, mkF, argsToLocals, Value.category]; done) | rfl
def Q1 (Z : State) (y : Int32) (m' : Int32) (h0 : Heap) (n0 : Nat) (v : Option Value) (h : Heap) (L : List Loc) : Prop := v = some (.long (own_cnt y m')) ∧ Fr n0 L ∧ h = h0
set_option maxRecDepth 65536 in
set_option maxHeartbeats 40000000 in
theorem rm1 (l : Launch) (Z : State) (a0 : Array Value) (hw : ∀ d ∈ tables_1, d.before a0 Z = true) (ws : List Jvm.Cond) (y : Int32) (m' : Int32) (h0 : Heap) (n0 : Nat) (Z0 : n0 ≤ h0.size)  :
    MetFree l (⟨"com/example/overage/overage/catalog/MonthSeconds", "count", "(II)J"⟩ : MethodName) (head1 (Jvm.Cond.code (⟨"com/example/overage/overage/catalog/MonthSeconds", "count", "(II)J"⟩ : MethodName) prog_77_method_2_code 2 (some .long) :: ws) ({ frames := 0, cells := 0, slots := 0, locals := 0 } : Room)) (fun a U => a = #[(.int y), (.int m')] ∧ Z.Warmed39 U.vm ∧ U.heap = h0) (fun _ _ _ _ _ => True) (fun _ U o U' => ∃ v L, o = .returned v ∧ Q1 Z y m' h0 n0 v U'.heap L ∧ FrameEnd U o U' L ({ frames := 0, cells := 0, slots := 0, locals := 0 } : Room).cells ({ frames := 0, cells := 0, slots := 0, locals := 0 } : Room).slots) := by
  refine MetFree.of_bodySF (plainFor_of_name pn_1) hisR ?_
  intro p e s m args below meth c s₁ Bd hml0 hP hK
  obtain ⟨rfl, hZ, hh⟩ := hP
  have hx := Bd.exec
  have hby := Bd.bytes
  have hml : c.maxLocals = 2 := hml0
  have hown : s.vm.findClass "com/example/overage/overage/catalog/MonthSeconds" = some m.cls := findClass_of_methodNamed Bd.named
  have hnm := (name_of_methodNamed Bd.named Bd.method).1
  have X0 : Stand p l e ({ frames := 0, cells := 0, slots := 0, locals := 0 } : Room) s m #[(.int y), (.int m')] below meth c s₁ [] 0 0 := Stand.of_body Bd
  have e0 : s₁.heap = h0 := by rw [← hh, Bd.state]; rfl
  have N0 := Fr.nil n0
  have K0 : Keep h0 h0 [] := Keep.refl h0 _
  have pre0 : ∀ t, Steps p.tables e below (s₁.setTop (mkF m 0 #[.val (.int y), .val (.int m')] [])) t → Steps p.tables e below (s₁.setTop (entryFrame m #[(.int y), (.int m')] 2)) t := fun t k => castTop (ef_1 m y m') k
  obtain ⟨fs, hr, hrun, hended, hW, hsame⟩ := X0.leave (v := some (.long ((((12 : Int64) * (y.toInt64)) + (m'.toInt64)) - (1 : Int64)))) (fun h => by rw [Bd.returns] at h; cases h)
  refine ⟨_, _, pre0 _ ?_, hrun, hended, _, _, rfl, ?_, ⟨_, rfl⟩, hW, hsame.mono (by decide) (by decide)⟩
  · show Steps p.tables e below (s₁.setTop (mkF m 0 #[.val (.int y), .val (.int m')] [])) _
    refine X0.ldc2Long hx hown (mvT hZ (hw _ (List.mem_of_getElem? (i := 5) rfl))) (g := (mkF m 0 #[.val (.int y), .val (.int m')] [])) rfl (hb hby d1_0) _ ?_
    show Steps p.tables e below (s₁.setTop (mkF m 3 #[.val (.int y), .val (.int m')] [(.long (12 : Int64))])) _
    refine XS.iloadN X0.here hx rfl (hb hby d1_3) rfl ?_
    show Steps p.tables e below (s₁.setTop (mkF m 4 #[.val (.int y), .val (.int m')] [(.int y), (.long (12 : Int64))])) _
    refine XS.i2l X0.here hx rfl (hb hby d1_4) rfl ?_
    show Steps p.tables e below (s₁.setTop (mkF m 5 #[.val (.int y), .val (.int m')] [(.long (y.toInt64)), (.long (12 : Int64))])) _
    refine XS.lmul X0.here hx rfl (hb hby d1_5) rfl ?_
    show Steps p.tables e below (s₁.setTop (mkF m 6 #[.val (.int y), .val (.int m')] [(.long ((12 : Int64) * (y.toInt64)))])) _
    refine XS.iloadN X0.here hx rfl (hb hby d1_6) rfl ?_
    show Steps p.tables e below (s₁.setTop (mkF m 7 #[.val (.int y), .val (.int m')] [(.int m'), (.long ((12 : Int64) * (y.toInt64)))])) _
    refine XS.i2l X0.here hx rfl (hb hby d1_7) rfl ?_
    show Steps p.tables e below (s₁.setTop (mkF m 8 #[.val (.int y), .val (.int m')] [(.long (m'.toInt64)), (.long ((12 : Int64) * (y.toInt64)))])) _
    refine XS.ladd X0.here hx rfl (hb hby d1_8) rfl ?_
    show Steps p.tables e below (s₁.setTop (mkF m 9 #[.val (.int y), .val (.int m')] [(.long (((12 : Int64) * (y.toInt64)) + (m'.toInt64)))])) _
    refine XS.lconst X0.here hx rfl (hb hby d1_9) ?_
    show Steps p.tables e below (s₁.setTop (mkF m 10 #[.val (.int y), .val (.int m')] [(.long (1 : Int64)), (.long (((12 : Int64) * (y.toInt64)) + (m'.toInt64)))])) _
    refine XS.lsub X0.here hx rfl (hb hby d1_10) rfl ?_
    show Steps p.tables e below (s₁.setTop (mkF m 11 #[.val (.int y), .val (.int m')] [(.long ((((12 : Int64) * (y.toInt64)) + (m'.toInt64)) - (1 : Int64)))])) _
    exact retOut X0 hx Bd.returns rfl (Or.inr (Or.inl ⟨rfl, rfl, _, rfl⟩)) (hb hby d1_11) hr
  · show Q1 Z y m' h0 n0 _ s₁.heap _
    rw [e0]
    exact ⟨by rw [own_cnt], N0, rfl⟩
theorem pn_0 : plainName "com/example/overage/overage/catalog/MonthSecondsCountPinLaw" = true := by first | (simp [plainName, overriddenIn]; done) | decide +kernel
theorem pd0_0 : parseMethodDescriptor "(II)J" = some ⟨[.int, .int], some .long⟩ := by decide +kernel
theorem ef_0 (m : MethodId) (x0 : Int32) (x1 : Int32) : entryFrame m #[(.int x0), (.int x1)] maxLocals = mkF m 0 #[.val (.int x0), .val (.int x1), .unset, .unset, .unset, .unset, .unset, .unset, .unset, .unset, .unset, .unset] [] := by first | (simp [entryFrame, mkF, argsToLocals, Value.category, maxLocals]; done) | rfl
def Q0 (Z : State) (y : Int32) (x' : Int32) (h0 : Heap) (n0 : Nat) (v : Option Value) (h : Heap) (L : List Loc) : Prop := v = some (.int (1 : Int32)) ∧ Fr n0 L
set_option maxRecDepth 65536 in
set_option maxHeartbeats 40000000 in
theorem rm0 (l : Launch) (Z : State) (a0 : Array Value) (hw : ∀ d ∈ tables_1, d.before a0 Z = true) (ws : List Jvm.Cond) (y : Int32) (x' : Int32) (h0 : Heap) (n0 : Nat) (Z0 : n0 ≤ h0.size)  :
    MetFree l x (head1 (Jvm.Cond.code x code maxLocals ret :: ws) room_1) (fun a U => a = #[(.int y), (.int x')] ∧ Z.Warmed39 U.vm ∧ U.heap = h0) (fun _ _ _ _ _ => True) (fun _ U o U' => ∃ v L, o = .returned v ∧ Q0 Z y x' h0 n0 v U'.heap L ∧ FrameEnd U o U' L room_1.cells room_1.slots) := by
  refine MetFree.of_bodySF (plainFor_of_name pn_0) hisR ?_
  intro p e s m args below meth c s₁ Bd hml0 hP hK
  obtain ⟨rfl, hZ, hh⟩ := hP
  have hx := Bd.exec
  have hby := Bd.bytes
  have hml : c.maxLocals = 12 := hml0
  have hown : s.vm.findClass "com/example/overage/overage/catalog/MonthSecondsCountPinLaw" = some m.cls := findClass_of_methodNamed Bd.named
  have hnm := (name_of_methodNamed Bd.named Bd.method).1
  have X0 : Stand p l e room_1 s m #[(.int y), (.int x')] below meth c s₁ [] 0 0 := Stand.of_body Bd
  have e0 : s₁.heap = h0 := by rw [← hh, Bd.state]; rfl
  have N0 := Fr.nil n0
  have K0 : Keep h0 h0 [] := Keep.refl h0 _
  have pre0 : ∀ t, Steps p.tables e below (s₁.setTop (mkF m 0 #[.val (.int y), .val (.int x'), .unset, .unset, .unset, .unset, .unset, .unset, .unset, .unset, .unset, .unset] [])) t → Steps p.tables e below (s₁.setTop (entryFrame m #[(.int y), (.int x')] maxLocals)) t := fun t k => castTop (ef_0 m y x') k
  obtain ⟨_, _, ⟨T1, L1, k1, n1⟩, -, X1, ⟨Lc1, hQ1, l1, y1, z1⟩, st1⟩ := Jvm.LawKit.callS X0 hx (y := (⟨"com/example/overage/overage/catalog/MonthSeconds", "count", "(II)J"⟩ : MethodName)) hown (mvT hZ (hw _ (List.mem_of_getElem? (i := 1) rfl))) (mvT hZ (hw _ (List.mem_of_getElem? (i := 2) rfl))) (mvT hZ (hw _ (List.mem_of_getElem? (i := 3) rfl))) (mvT hZ (hw _ (List.mem_of_getElem? (i := 4) rfl))) (by decide) (backOf (W := 0) (rm1 l Z a0 hw [] (0 : Int32) (1 : Int32) h0 n0 Z0 ) hZ (hw _ (List.mem_of_getElem? (i := 4) rfl)) (hw _ (List.mem_of_getElem? (i := 3) rfl)) (by decide) (by decide)) (g := (mkF m 12 #[.val (.int y), .val (.int x'), .val (.int ((1 : Int32) + ((x' &&& (2147483647 : Int32)) % (12 : Int32)))), .unset, .unset, .unset, .unset, .unset, .unset, .unset, .unset, .unset] [(.int (1 : Int32)), (.int (0 : Int32))])) rfl (by rw [hml]; rfl) (argsL := [(.int (0 : Int32)), (.int (1 : Int32))]) (rest := []) (lenOf pd0_0 rfl) rfl (by show 2 * 0 + _ ≤ _; exact Nat.le_of_eq rfl) (hb hby at_12) (fun _ _ => ⟨rfl, e0, (by decide : 0 + 0 ≤ _), (by decide : 0 + 0 ≤ _)⟩)
  dsimp only [Pt.U, Pt.locs, Pt.cells, Pt.slots] at X1 l1 y1 z1 st1 hQ1
  subst l1 y1 z1
  obtain ⟨rfl, N1q, hh1⟩ := hQ1
  have N1 := Fr.app N0 N1q
  obtain ⟨_, _, ⟨T2, L2, k2, n2⟩, -, X2, ⟨Lc2, hQ2, l2, y2, z2⟩, st2⟩ := Jvm.LawKit.callS X1 hx (y := (⟨"com/example/overage/overage/catalog/MonthSeconds", "count", "(II)J"⟩ : MethodName)) hown (mvT hZ (hw _ (List.mem_of_getElem? (i := 1) rfl))) (mvT hZ (hw _ (List.mem_of_getElem? (i := 2) rfl))) (mvT hZ (hw _ (List.mem_of_getElem? (i := 3) rfl))) (mvT hZ (hw _ (List.mem_of_getElem? (i := 4) rfl))) (by decide) (backOf (W := 0) (rm1 l Z a0 hw [] y ((1 : Int32) + ((x' &&& (2147483647 : Int32)) % (12 : Int32))) h0 n0 Z0 ) hZ (hw _ (List.mem_of_getElem? (i := 4) rfl)) (hw _ (List.mem_of_getElem? (i := 3) rfl)) (by decide) (by decide)) (g := (mkF m 18 #[.val (.int y), .val (.int x'), .val (.int ((1 : Int32) + ((x' &&& (2147483647 : Int32)) % (12 : Int32)))), .val (.long (own_cnt (0 : Int32) (1 : Int32))), .second, .unset, .unset, .unset, .unset, .unset, .unset, .unset] [(.int ((1 : Int32) + ((x' &&& (2147483647 : Int32)) % (12 : Int32)))), (.int y)])) rfl (by rw [hml]; rfl) (argsL := [(.int y), (.int ((1 : Int32) + ((x' &&& (2147483647 : Int32)) % (12 : Int32))))]) (rest := []) (lenOf pd0_0 rfl) rfl (by show 2 * 0 + _ ≤ _; exact Nat.le_of_eq rfl) (hb hby at_18) (fun _ _ => ⟨rfl, hh1, (by decide : 0 + 0 ≤ _), (by decide : 0 + 0 ≤ _)⟩)
  dsimp only [Pt.U, Pt.locs, Pt.cells, Pt.slots] at X2 l2 y2 z2 st2 hQ2
  subst l2 y2 z2
  obtain ⟨rfl, N2q, hh2⟩ := hQ2
  have N2 := Fr.app N1 N2q
  obtain ⟨_, _, ⟨T3, L3, k3, n3⟩, -, X3, ⟨Lc3, hQ3, l3, y3, z3⟩, st3⟩ := Jvm.LawKit.callS X2 hx (y := (⟨"com/example/overage/overage/catalog/MonthSeconds", "count", "(II)J"⟩ : MethodName)) hown (mvT hZ (hw _ (List.mem_of_getElem? (i := 1) rfl))) (mvT hZ (hw _ (List.mem_of_getElem? (i := 2) rfl))) (mvT hZ (hw _ (List.mem_of_getElem? (i := 3) rfl))) (mvT hZ (hw _ (List.mem_of_getElem? (i := 4) rfl))) (by decide) (backOf (W := 0) (rm1 l Z a0 hw [] y (1 : Int32) h0 n0 Z0 ) hZ (hw _ (List.mem_of_getElem? (i := 4) rfl)) (hw _ (List.mem_of_getElem? (i := 3) rfl)) (by decide) (by decide)) (g := (mkF m 25 #[.val (.int y), .val (.int x'), .val (.int ((1 : Int32) + ((x' &&& (2147483647 : Int32)) % (12 : Int32)))), .val (.long (own_cnt (0 : Int32) (1 : Int32))), .second, .val (.long (own_cnt y ((1 : Int32) + ((x' &&& (2147483647 : Int32)) % (12 : Int32))))), .second, .unset, .unset, .unset, .unset, .unset] [(.int (1 : Int32)), (.int y)])) rfl (by rw [hml]; rfl) (argsL := [(.int y), (.int (1 : Int32))]) (rest := []) (lenOf pd0_0 rfl) rfl (by show 2 * 0 + _ ≤ _; exact Nat.le_of_eq rfl) (hb hby at_25) (fun _ _ => ⟨rfl, hh2, (by decide : 0 + 0 ≤ _), (by decide : 0 + 0 ≤ _)⟩)
  dsimp only [Pt.U, Pt.locs, Pt.cells, Pt.slots] at X3 l3 y3 z3 st3 hQ3
  subst l3 y3 z3
  obtain ⟨rfl, N3q, hh3⟩ := hQ3
  have N3 := Fr.app N2 N3q
  have pre4 : ∀ t, Steps p.tables e below (T3.setTop (mkF m 66 #[.val (.int y), .val (.int x'), .val (.int ((1 : Int32) + ((x' &&& (2147483647 : Int32)) % (12 : Int32)))), .val (.long (own_cnt (0 : Int32) (1 : Int32))), .second, .val (.long (own_cnt y ((1 : Int32) + ((x' &&& (2147483647 : Int32)) % (12 : Int32))))), .second, .val (.long (own_cnt y (1 : Int32))), .second, .val (.int (1 : Int32)), .val (.int (1 : Int32)), .unset] [(.int (2147483647 : Int32)), (.int y)])) t → Steps p.tables e below (s₁.setTop (entryFrame m #[(.int y), (.int x')] maxLocals)) t := by
    intro t kt
    refine pre0 t ?_
    show Steps p.tables e below (s₁.setTop (mkF m 0 #[.val (.int y), .val (.int x'), .unset, .unset, .unset, .unset, .unset, .unset, .unset, .unset, .unset, .unset] [])) _
    refine XS.iconst X0.here hx rfl (hb hby at_0) ?_
    show Steps p.tables e below (s₁.setTop (mkF m 1 #[.val (.int y), .val (.int x'), .unset, .unset, .unset, .unset, .unset, .unset, .unset, .unset, .unset, .unset] [(.int (1 : Int32))])) _
    refine XS.iloadN X0.here hx rfl (hb hby at_1) rfl ?_
    show Steps p.tables e below (s₁.setTop (mkF m 2 #[.val (.int y), .val (.int x'), .unset, .unset, .unset, .unset, .unset, .unset, .unset, .unset, .unset, .unset] [(.int x'), (.int (1 : Int32))])) _
    refine X0.ldcInt hx hown (mvT hZ (hw _ (List.mem_of_getElem? (i := 0) rfl))) (g := (mkF m 2 #[.val (.int y), .val (.int x'), .unset, .unset, .unset, .unset, .unset, .unset, .unset, .unset, .unset, .unset] [(.int x'), (.int (1 : Int32))])) rfl (hb hby at_2) _ ?_
    show Steps p.tables e below (s₁.setTop (mkF m 4 #[.val (.int y), .val (.int x'), .unset, .unset, .unset, .unset, .unset, .unset, .unset, .unset, .unset, .unset] [(.int (2147483647 : Int32)), (.int x'), (.int (1 : Int32))])) _
    refine XS.iand X0.here hx rfl (hb hby at_4) rfl ?_
    show Steps p.tables e below (s₁.setTop (mkF m 5 #[.val (.int y), .val (.int x'), .unset, .unset, .unset, .unset, .unset, .unset, .unset, .unset, .unset, .unset] [(.int (x' &&& (2147483647 : Int32))), (.int (1 : Int32))])) _
    refine XS.bipush X0.here hx rfl (hb hby at_5) ?_
    show Steps p.tables e below (s₁.setTop (mkF m 7 #[.val (.int y), .val (.int x'), .unset, .unset, .unset, .unset, .unset, .unset, .unset, .unset, .unset, .unset] [(.int (12 : Int32)), (.int (x' &&& (2147483647 : Int32))), (.int (1 : Int32))])) _
    refine iremM X0 hx rfl (hb hby at_7) rfl (by decide) ?_
    show Steps p.tables e below (s₁.setTop (mkF m 8 #[.val (.int y), .val (.int x'), .unset, .unset, .unset, .unset, .unset, .unset, .unset, .unset, .unset, .unset] [(.int ((x' &&& (2147483647 : Int32)) % (12 : Int32))), (.int (1 : Int32))])) _
    refine XS.iadd X0.here hx rfl (hb hby at_8) rfl ?_
    show Steps p.tables e below (s₁.setTop (mkF m 9 #[.val (.int y), .val (.int x'), .unset, .unset, .unset, .unset, .unset, .unset, .unset, .unset, .unset, .unset] [(.int ((1 : Int32) + ((x' &&& (2147483647 : Int32)) % (12 : Int32))))])) _
    refine XS.istoreN X0.here hx rfl (hb hby at_9) rfl (l' := #[.val (.int y), .val (.int x'), .val (.int ((1 : Int32) + ((x' &&& (2147483647 : Int32)) % (12 : Int32)))), .unset, .unset, .unset, .unset, .unset, .unset, .unset, .unset, .unset]) rfl ?_
    show Steps p.tables e below (s₁.setTop (mkF m 10 #[.val (.int y), .val (.int x'), .val (.int ((1 : Int32) + ((x' &&& (2147483647 : Int32)) % (12 : Int32)))), .unset, .unset, .unset, .unset, .unset, .unset, .unset, .unset, .unset] [])) _
    refine XS.iconst X0.here hx rfl (hb hby at_10) ?_
    show Steps p.tables e below (s₁.setTop (mkF m 11 #[.val (.int y), .val (.int x'), .val (.int ((1 : Int32) + ((x' &&& (2147483647 : Int32)) % (12 : Int32)))), .unset, .unset, .unset, .unset, .unset, .unset, .unset, .unset, .unset] [(.int (0 : Int32))])) _
    refine XS.iconst X0.here hx rfl (hb hby at_11) ?_
    show Steps p.tables e below (s₁.setTop (mkF m 12 #[.val (.int y), .val (.int x'), .val (.int ((1 : Int32) + ((x' &&& (2147483647 : Int32)) % (12 : Int32)))), .unset, .unset, .unset, .unset, .unset, .unset, .unset, .unset, .unset] [(.int (1 : Int32)), (.int (0 : Int32))])) _
    refine st1 _ ?_
    show Steps p.tables e below (T1.setTop (mkF m 15 #[.val (.int y), .val (.int x'), .val (.int ((1 : Int32) + ((x' &&& (2147483647 : Int32)) % (12 : Int32)))), .unset, .unset, .unset, .unset, .unset, .unset, .unset, .unset, .unset] [(.long (own_cnt (0 : Int32) (1 : Int32)))])) _
    refine XS.lstoreN X1.here hx rfl (hb hby at_15) rfl (l' := #[.val (.int y), .val (.int x'), .val (.int ((1 : Int32) + ((x' &&& (2147483647 : Int32)) % (12 : Int32)))), .val (.long (own_cnt (0 : Int32) (1 : Int32))), .second, .unset, .unset, .unset, .unset, .unset, .unset, .unset]) rfl ?_
    show Steps p.tables e below (T1.setTop (mkF m 16 #[.val (.int y), .val (.int x'), .val (.int ((1 : Int32) + ((x' &&& (2147483647 : Int32)) % (12 : Int32)))), .val (.long (own_cnt (0 : Int32) (1 : Int32))), .second, .unset, .unset, .unset, .unset, .unset, .unset, .unset] [])) _
    refine XS.iloadN X1.here hx rfl (hb hby at_16) rfl ?_
    show Steps p.tables e below (T1.setTop (mkF m 17 #[.val (.int y), .val (.int x'), .val (.int ((1 : Int32) + ((x' &&& (2147483647 : Int32)) % (12 : Int32)))), .val (.long (own_cnt (0 : Int32) (1 : Int32))), .second, .unset, .unset, .unset, .unset, .unset, .unset, .unset] [(.int y)])) _
    refine XS.iloadN X1.here hx rfl (hb hby at_17) rfl ?_
    show Steps p.tables e below (T1.setTop (mkF m 18 #[.val (.int y), .val (.int x'), .val (.int ((1 : Int32) + ((x' &&& (2147483647 : Int32)) % (12 : Int32)))), .val (.long (own_cnt (0 : Int32) (1 : Int32))), .second, .unset, .unset, .unset, .unset, .unset, .unset, .unset] [(.int ((1 : Int32) + ((x' &&& (2147483647 : Int32)) % (12 : Int32)))), (.int y)])) _
    refine st2 _ ?_
    show Steps p.tables e below (T2.setTop (mkF m 21 #[.val (.int y), .val (.int x'), .val (.int ((1 : Int32) + ((x' &&& (2147483647 : Int32)) % (12 : Int32)))), .val (.long (own_cnt (0 : Int32) (1 : Int32))), .second, .unset, .unset, .unset, .unset, .unset, .unset, .unset] [(.long (own_cnt y ((1 : Int32) + ((x' &&& (2147483647 : Int32)) % (12 : Int32)))))])) _
    refine XS.lstore X2.here hx rfl (hb hby at_21) rfl (l' := #[.val (.int y), .val (.int x'), .val (.int ((1 : Int32) + ((x' &&& (2147483647 : Int32)) % (12 : Int32)))), .val (.long (own_cnt (0 : Int32) (1 : Int32))), .second, .val (.long (own_cnt y ((1 : Int32) + ((x' &&& (2147483647 : Int32)) % (12 : Int32))))), .second, .unset, .unset, .unset, .unset, .unset]) rfl ?_
    show Steps p.tables e below (T2.setTop (mkF m 23 #[.val (.int y), .val (.int x'), .val (.int ((1 : Int32) + ((x' &&& (2147483647 : Int32)) % (12 : Int32)))), .val (.long (own_cnt (0 : Int32) (1 : Int32))), .second, .val (.long (own_cnt y ((1 : Int32) + ((x' &&& (2147483647 : Int32)) % (12 : Int32))))), .second, .unset, .unset, .unset, .unset, .unset] [])) _
    refine XS.iloadN X2.here hx rfl (hb hby at_23) rfl ?_
    show Steps p.tables e below (T2.setTop (mkF m 24 #[.val (.int y), .val (.int x'), .val (.int ((1 : Int32) + ((x' &&& (2147483647 : Int32)) % (12 : Int32)))), .val (.long (own_cnt (0 : Int32) (1 : Int32))), .second, .val (.long (own_cnt y ((1 : Int32) + ((x' &&& (2147483647 : Int32)) % (12 : Int32))))), .second, .unset, .unset, .unset, .unset, .unset] [(.int y)])) _
    refine XS.iconst X2.here hx rfl (hb hby at_24) ?_
    show Steps p.tables e below (T2.setTop (mkF m 25 #[.val (.int y), .val (.int x'), .val (.int ((1 : Int32) + ((x' &&& (2147483647 : Int32)) % (12 : Int32)))), .val (.long (own_cnt (0 : Int32) (1 : Int32))), .second, .val (.long (own_cnt y ((1 : Int32) + ((x' &&& (2147483647 : Int32)) % (12 : Int32))))), .second, .unset, .unset, .unset, .unset, .unset] [(.int (1 : Int32)), (.int y)])) _
    refine st3 _ ?_
    show Steps p.tables e below (T3.setTop (mkF m 28 #[.val (.int y), .val (.int x'), .val (.int ((1 : Int32) + ((x' &&& (2147483647 : Int32)) % (12 : Int32)))), .val (.long (own_cnt (0 : Int32) (1 : Int32))), .second, .val (.long (own_cnt y ((1 : Int32) + ((x' &&& (2147483647 : Int32)) % (12 : Int32))))), .second, .unset, .unset, .unset, .unset, .unset] [(.long (own_cnt y (1 : Int32)))])) _
    refine XS.lstore X3.here hx rfl (hb hby at_28) rfl (l' := #[.val (.int y), .val (.int x'), .val (.int ((1 : Int32) + ((x' &&& (2147483647 : Int32)) % (12 : Int32)))), .val (.long (own_cnt (0 : Int32) (1 : Int32))), .second, .val (.long (own_cnt y ((1 : Int32) + ((x' &&& (2147483647 : Int32)) % (12 : Int32))))), .second, .val (.long (own_cnt y (1 : Int32))), .second, .unset, .unset, .unset]) rfl ?_
    show Steps p.tables e below (T3.setTop (mkF m 30 #[.val (.int y), .val (.int x'), .val (.int ((1 : Int32) + ((x' &&& (2147483647 : Int32)) % (12 : Int32)))), .val (.long (own_cnt (0 : Int32) (1 : Int32))), .second, .val (.long (own_cnt y ((1 : Int32) + ((x' &&& (2147483647 : Int32)) % (12 : Int32))))), .second, .val (.long (own_cnt y (1 : Int32))), .second, .unset, .unset, .unset] [])) _
    refine XS.lloadN X3.here hx rfl (hb hby at_30) rfl ?_
    show Steps p.tables e below (T3.setTop (mkF m 31 #[.val (.int y), .val (.int x'), .val (.int ((1 : Int32) + ((x' &&& (2147483647 : Int32)) % (12 : Int32)))), .val (.long (own_cnt (0 : Int32) (1 : Int32))), .second, .val (.long (own_cnt y ((1 : Int32) + ((x' &&& (2147483647 : Int32)) % (12 : Int32))))), .second, .val (.long (own_cnt y (1 : Int32))), .second, .unset, .unset, .unset] [(.long (own_cnt (0 : Int32) (1 : Int32)))])) _
    refine XS.lconst X3.here hx rfl (hb hby at_31) ?_
    show Steps p.tables e below (T3.setTop (mkF m 32 #[.val (.int y), .val (.int x'), .val (.int ((1 : Int32) + ((x' &&& (2147483647 : Int32)) % (12 : Int32)))), .val (.long (own_cnt (0 : Int32) (1 : Int32))), .second, .val (.long (own_cnt y ((1 : Int32) + ((x' &&& (2147483647 : Int32)) % (12 : Int32))))), .second, .val (.long (own_cnt y (1 : Int32))), .second, .unset, .unset, .unset] [(.long (0 : Int64)), (.long (own_cnt (0 : Int32) (1 : Int32)))])) _
    refine XS.lcmp X3.here hx rfl (hb hby at_32) rfl ?_
    show Steps p.tables e below (T3.setTop (mkF m 33 #[.val (.int y), .val (.int x'), .val (.int ((1 : Int32) + ((x' &&& (2147483647 : Int32)) % (12 : Int32)))), .val (.long (own_cnt (0 : Int32) (1 : Int32))), .second, .val (.long (own_cnt y ((1 : Int32) + ((x' &&& (2147483647 : Int32)) % (12 : Int32))))), .second, .val (.long (own_cnt y (1 : Int32))), .second, .unset, .unset, .unset] [(.int (lcmpW (own_cnt (0 : Int32) (1 : Int32)) (0 : Int64)))])) _
    refine XS.ifNo X3.here hx rfl (hb hby at_33) rfl ((if0 _ _).trans (teq ((lw_eq (own_cnt (0 : Int32) (1 : Int32)) (0 : Int64)).mpr (rfl : own_cnt (0 : Int32) (1 : Int32) = (0 : Int64)))).2) ?_
    show Steps p.tables e below (T3.setTop (mkF m 36 #[.val (.int y), .val (.int x'), .val (.int ((1 : Int32) + ((x' &&& (2147483647 : Int32)) % (12 : Int32)))), .val (.long (own_cnt (0 : Int32) (1 : Int32))), .second, .val (.long (own_cnt y ((1 : Int32) + ((x' &&& (2147483647 : Int32)) % (12 : Int32))))), .second, .val (.long (own_cnt y (1 : Int32))), .second, .unset, .unset, .unset] [])) _
    refine XS.iconst X3.here hx rfl (hb hby at_36) ?_
    show Steps p.tables e below (T3.setTop (mkF m 37 #[.val (.int y), .val (.int x'), .val (.int ((1 : Int32) + ((x' &&& (2147483647 : Int32)) % (12 : Int32)))), .val (.long (own_cnt (0 : Int32) (1 : Int32))), .second, .val (.long (own_cnt y ((1 : Int32) + ((x' &&& (2147483647 : Int32)) % (12 : Int32))))), .second, .val (.long (own_cnt y (1 : Int32))), .second, .unset, .unset, .unset] [(.int (1 : Int32))])) _
    refine XS.goto X3.here hx rfl (pc0 := 37) (pc' := 41) rfl (hb hby at_37) (by decide) (by decide) ?_
    show Steps p.tables e below (T3.setTop (mkF m 41 #[.val (.int y), .val (.int x'), .val (.int ((1 : Int32) + ((x' &&& (2147483647 : Int32)) % (12 : Int32)))), .val (.long (own_cnt (0 : Int32) (1 : Int32))), .second, .val (.long (own_cnt y ((1 : Int32) + ((x' &&& (2147483647 : Int32)) % (12 : Int32))))), .second, .val (.long (own_cnt y (1 : Int32))), .second, .unset, .unset, .unset] [(.int (1 : Int32))])) _
    refine XS.istore X3.here hx rfl (hb hby at_41) rfl (l' := #[.val (.int y), .val (.int x'), .val (.int ((1 : Int32) + ((x' &&& (2147483647 : Int32)) % (12 : Int32)))), .val (.long (own_cnt (0 : Int32) (1 : Int32))), .second, .val (.long (own_cnt y ((1 : Int32) + ((x' &&& (2147483647 : Int32)) % (12 : Int32))))), .second, .val (.long (own_cnt y (1 : Int32))), .second, .val (.int (1 : Int32)), .unset, .unset]) rfl ?_
    show Steps p.tables e below (T3.setTop (mkF m 43 #[.val (.int y), .val (.int x'), .val (.int ((1 : Int32) + ((x' &&& (2147483647 : Int32)) % (12 : Int32)))), .val (.long (own_cnt (0 : Int32) (1 : Int32))), .second, .val (.long (own_cnt y ((1 : Int32) + ((x' &&& (2147483647 : Int32)) % (12 : Int32))))), .second, .val (.long (own_cnt y (1 : Int32))), .second, .val (.int (1 : Int32)), .unset, .unset] [])) _
    refine XS.lload X3.here hx rfl (hb hby at_43) rfl ?_
    show Steps p.tables e below (T3.setTop (mkF m 45 #[.val (.int y), .val (.int x'), .val (.int ((1 : Int32) + ((x' &&& (2147483647 : Int32)) % (12 : Int32)))), .val (.long (own_cnt (0 : Int32) (1 : Int32))), .second, .val (.long (own_cnt y ((1 : Int32) + ((x' &&& (2147483647 : Int32)) % (12 : Int32))))), .second, .val (.long (own_cnt y (1 : Int32))), .second, .val (.int (1 : Int32)), .unset, .unset] [(.long (own_cnt y ((1 : Int32) + ((x' &&& (2147483647 : Int32)) % (12 : Int32)))))])) _
    refine XS.lload X3.here hx rfl (hb hby at_45) rfl ?_
    show Steps p.tables e below (T3.setTop (mkF m 47 #[.val (.int y), .val (.int x'), .val (.int ((1 : Int32) + ((x' &&& (2147483647 : Int32)) % (12 : Int32)))), .val (.long (own_cnt (0 : Int32) (1 : Int32))), .second, .val (.long (own_cnt y ((1 : Int32) + ((x' &&& (2147483647 : Int32)) % (12 : Int32))))), .second, .val (.long (own_cnt y (1 : Int32))), .second, .val (.int (1 : Int32)), .unset, .unset] [(.long (own_cnt y (1 : Int32))), (.long (own_cnt y ((1 : Int32) + ((x' &&& (2147483647 : Int32)) % (12 : Int32)))))])) _
    refine XS.lsub X3.here hx rfl (hb hby at_47) rfl ?_
    show Steps p.tables e below (T3.setTop (mkF m 48 #[.val (.int y), .val (.int x'), .val (.int ((1 : Int32) + ((x' &&& (2147483647 : Int32)) % (12 : Int32)))), .val (.long (own_cnt (0 : Int32) (1 : Int32))), .second, .val (.long (own_cnt y ((1 : Int32) + ((x' &&& (2147483647 : Int32)) % (12 : Int32))))), .second, .val (.long (own_cnt y (1 : Int32))), .second, .val (.int (1 : Int32)), .unset, .unset] [(.long ((own_cnt y ((1 : Int32) + ((x' &&& (2147483647 : Int32)) % (12 : Int32)))) - (own_cnt y (1 : Int32))))])) _
    refine XS.iloadN X3.here hx rfl (hb hby at_48) rfl ?_
    show Steps p.tables e below (T3.setTop (mkF m 49 #[.val (.int y), .val (.int x'), .val (.int ((1 : Int32) + ((x' &&& (2147483647 : Int32)) % (12 : Int32)))), .val (.long (own_cnt (0 : Int32) (1 : Int32))), .second, .val (.long (own_cnt y ((1 : Int32) + ((x' &&& (2147483647 : Int32)) % (12 : Int32))))), .second, .val (.long (own_cnt y (1 : Int32))), .second, .val (.int (1 : Int32)), .unset, .unset] [(.int ((1 : Int32) + ((x' &&& (2147483647 : Int32)) % (12 : Int32)))), (.long ((own_cnt y ((1 : Int32) + ((x' &&& (2147483647 : Int32)) % (12 : Int32)))) - (own_cnt y (1 : Int32))))])) _
    refine XS.iconst X3.here hx rfl (hb hby at_49) ?_
    show Steps p.tables e below (T3.setTop (mkF m 50 #[.val (.int y), .val (.int x'), .val (.int ((1 : Int32) + ((x' &&& (2147483647 : Int32)) % (12 : Int32)))), .val (.long (own_cnt (0 : Int32) (1 : Int32))), .second, .val (.long (own_cnt y ((1 : Int32) + ((x' &&& (2147483647 : Int32)) % (12 : Int32))))), .second, .val (.long (own_cnt y (1 : Int32))), .second, .val (.int (1 : Int32)), .unset, .unset] [(.int (1 : Int32)), (.int ((1 : Int32) + ((x' &&& (2147483647 : Int32)) % (12 : Int32)))), (.long ((own_cnt y ((1 : Int32) + ((x' &&& (2147483647 : Int32)) % (12 : Int32)))) - (own_cnt y (1 : Int32))))])) _
    refine XS.isub X3.here hx rfl (hb hby at_50) rfl ?_
    show Steps p.tables e below (T3.setTop (mkF m 51 #[.val (.int y), .val (.int x'), .val (.int ((1 : Int32) + ((x' &&& (2147483647 : Int32)) % (12 : Int32)))), .val (.long (own_cnt (0 : Int32) (1 : Int32))), .second, .val (.long (own_cnt y ((1 : Int32) + ((x' &&& (2147483647 : Int32)) % (12 : Int32))))), .second, .val (.long (own_cnt y (1 : Int32))), .second, .val (.int (1 : Int32)), .unset, .unset] [(.int (((1 : Int32) + ((x' &&& (2147483647 : Int32)) % (12 : Int32))) - (1 : Int32))), (.long ((own_cnt y ((1 : Int32) + ((x' &&& (2147483647 : Int32)) % (12 : Int32)))) - (own_cnt y (1 : Int32))))])) _
    refine XS.i2l X3.here hx rfl (hb hby at_51) rfl ?_
    show Steps p.tables e below (T3.setTop (mkF m 52 #[.val (.int y), .val (.int x'), .val (.int ((1 : Int32) + ((x' &&& (2147483647 : Int32)) % (12 : Int32)))), .val (.long (own_cnt (0 : Int32) (1 : Int32))), .second, .val (.long (own_cnt y ((1 : Int32) + ((x' &&& (2147483647 : Int32)) % (12 : Int32))))), .second, .val (.long (own_cnt y (1 : Int32))), .second, .val (.int (1 : Int32)), .unset, .unset] [(.long ((((1 : Int32) + ((x' &&& (2147483647 : Int32)) % (12 : Int32))) - (1 : Int32)).toInt64)), (.long ((own_cnt y ((1 : Int32) + ((x' &&& (2147483647 : Int32)) % (12 : Int32)))) - (own_cnt y (1 : Int32))))])) _
    refine XS.lcmp X3.here hx rfl (hb hby at_52) rfl ?_
    show Steps p.tables e below (T3.setTop (mkF m 53 #[.val (.int y), .val (.int x'), .val (.int ((1 : Int32) + ((x' &&& (2147483647 : Int32)) % (12 : Int32)))), .val (.long (own_cnt (0 : Int32) (1 : Int32))), .second, .val (.long (own_cnt y ((1 : Int32) + ((x' &&& (2147483647 : Int32)) % (12 : Int32))))), .second, .val (.long (own_cnt y (1 : Int32))), .second, .val (.int (1 : Int32)), .unset, .unset] [(.int (lcmpW ((own_cnt y ((1 : Int32) + ((x' &&& (2147483647 : Int32)) % (12 : Int32)))) - (own_cnt y (1 : Int32))) ((((1 : Int32) + ((x' &&& (2147483647 : Int32)) % (12 : Int32))) - (1 : Int32)).toInt64)))])) _
    refine XS.ifNo X3.here hx rfl (hb hby at_53) rfl ((if0 _ _).trans (teq ((lw_eq ((own_cnt y ((1 : Int32) + ((x' &&& (2147483647 : Int32)) % (12 : Int32)))) - (own_cnt y (1 : Int32))) ((((1 : Int32) + ((x' &&& (2147483647 : Int32)) % (12 : Int32))) - (1 : Int32)).toInt64)).mpr (own_jan _ _ (own_m x')))).2) ?_
    show Steps p.tables e below (T3.setTop (mkF m 56 #[.val (.int y), .val (.int x'), .val (.int ((1 : Int32) + ((x' &&& (2147483647 : Int32)) % (12 : Int32)))), .val (.long (own_cnt (0 : Int32) (1 : Int32))), .second, .val (.long (own_cnt y ((1 : Int32) + ((x' &&& (2147483647 : Int32)) % (12 : Int32))))), .second, .val (.long (own_cnt y (1 : Int32))), .second, .val (.int (1 : Int32)), .unset, .unset] [])) _
    refine XS.iconst X3.here hx rfl (hb hby at_56) ?_
    show Steps p.tables e below (T3.setTop (mkF m 57 #[.val (.int y), .val (.int x'), .val (.int ((1 : Int32) + ((x' &&& (2147483647 : Int32)) % (12 : Int32)))), .val (.long (own_cnt (0 : Int32) (1 : Int32))), .second, .val (.long (own_cnt y ((1 : Int32) + ((x' &&& (2147483647 : Int32)) % (12 : Int32))))), .second, .val (.long (own_cnt y (1 : Int32))), .second, .val (.int (1 : Int32)), .unset, .unset] [(.int (1 : Int32))])) _
    refine XS.goto X3.here hx rfl (pc0 := 57) (pc' := 61) rfl (hb hby at_57) (by decide) (by decide) ?_
    show Steps p.tables e below (T3.setTop (mkF m 61 #[.val (.int y), .val (.int x'), .val (.int ((1 : Int32) + ((x' &&& (2147483647 : Int32)) % (12 : Int32)))), .val (.long (own_cnt (0 : Int32) (1 : Int32))), .second, .val (.long (own_cnt y ((1 : Int32) + ((x' &&& (2147483647 : Int32)) % (12 : Int32))))), .second, .val (.long (own_cnt y (1 : Int32))), .second, .val (.int (1 : Int32)), .unset, .unset] [(.int (1 : Int32))])) _
    refine XS.istore X3.here hx rfl (hb hby at_61) rfl (l' := #[.val (.int y), .val (.int x'), .val (.int ((1 : Int32) + ((x' &&& (2147483647 : Int32)) % (12 : Int32)))), .val (.long (own_cnt (0 : Int32) (1 : Int32))), .second, .val (.long (own_cnt y ((1 : Int32) + ((x' &&& (2147483647 : Int32)) % (12 : Int32))))), .second, .val (.long (own_cnt y (1 : Int32))), .second, .val (.int (1 : Int32)), .val (.int (1 : Int32)), .unset]) rfl ?_
    show Steps p.tables e below (T3.setTop (mkF m 63 #[.val (.int y), .val (.int x'), .val (.int ((1 : Int32) + ((x' &&& (2147483647 : Int32)) % (12 : Int32)))), .val (.long (own_cnt (0 : Int32) (1 : Int32))), .second, .val (.long (own_cnt y ((1 : Int32) + ((x' &&& (2147483647 : Int32)) % (12 : Int32))))), .second, .val (.long (own_cnt y (1 : Int32))), .second, .val (.int (1 : Int32)), .val (.int (1 : Int32)), .unset] [])) _
    refine XS.iloadN X3.here hx rfl (hb hby at_63) rfl ?_
    show Steps p.tables e below (T3.setTop (mkF m 64 #[.val (.int y), .val (.int x'), .val (.int ((1 : Int32) + ((x' &&& (2147483647 : Int32)) % (12 : Int32)))), .val (.long (own_cnt (0 : Int32) (1 : Int32))), .second, .val (.long (own_cnt y ((1 : Int32) + ((x' &&& (2147483647 : Int32)) % (12 : Int32))))), .second, .val (.long (own_cnt y (1 : Int32))), .second, .val (.int (1 : Int32)), .val (.int (1 : Int32)), .unset] [(.int y)])) _
    refine X3.ldcInt hx hown (mvT hZ (hw _ (List.mem_of_getElem? (i := 0) rfl))) (g := (mkF m 64 #[.val (.int y), .val (.int x'), .val (.int ((1 : Int32) + ((x' &&& (2147483647 : Int32)) % (12 : Int32)))), .val (.long (own_cnt (0 : Int32) (1 : Int32))), .second, .val (.long (own_cnt y ((1 : Int32) + ((x' &&& (2147483647 : Int32)) % (12 : Int32))))), .second, .val (.long (own_cnt y (1 : Int32))), .second, .val (.int (1 : Int32)), .val (.int (1 : Int32)), .unset] [(.int y)])) rfl (hb hby at_64) _ ?_
    exact kt
  by_cases hc66_5 : y = (2147483647 : Int32)
  · obtain ⟨fs, hr, hrun, hended, hW, hsame⟩ := X3.leave (v := some (.int (1 : Int32))) (fun h => by rw [Bd.returns] at h; cases h)
    refine ⟨_, _, pre4 _ ?_, hrun, hended, _, _, rfl, ?_, ⟨_, rfl⟩, hW, hsame.mono (by decide) (by decide)⟩
    · show Steps p.tables e below (T3.setTop (mkF m 66 #[.val (.int y), .val (.int x'), .val (.int ((1 : Int32) + ((x' &&& (2147483647 : Int32)) % (12 : Int32)))), .val (.long (own_cnt (0 : Int32) (1 : Int32))), .second, .val (.long (own_cnt y ((1 : Int32) + ((x' &&& (2147483647 : Int32)) % (12 : Int32))))), .second, .val (.long (own_cnt y (1 : Int32))), .second, .val (.int (1 : Int32)), .val (.int (1 : Int32)), .unset] [(.int (2147483647 : Int32)), (.int y)])) _
      refine XS.icmpNo X3.here hx rfl (hb hby at_66) rfl (teq hc66_5).2 ?_
      show Steps p.tables e below (T3.setTop (mkF m 69 #[.val (.int y), .val (.int x'), .val (.int ((1 : Int32) + ((x' &&& (2147483647 : Int32)) % (12 : Int32)))), .val (.long (own_cnt (0 : Int32) (1 : Int32))), .second, .val (.long (own_cnt y ((1 : Int32) + ((x' &&& (2147483647 : Int32)) % (12 : Int32))))), .second, .val (.long (own_cnt y (1 : Int32))), .second, .val (.int (1 : Int32)), .val (.int (1 : Int32)), .unset] [])) _
      refine XS.iconst X3.here hx rfl (hb hby at_69) ?_
      show Steps p.tables e below (T3.setTop (mkF m 70 #[.val (.int y), .val (.int x'), .val (.int ((1 : Int32) + ((x' &&& (2147483647 : Int32)) % (12 : Int32)))), .val (.long (own_cnt (0 : Int32) (1 : Int32))), .second, .val (.long (own_cnt y ((1 : Int32) + ((x' &&& (2147483647 : Int32)) % (12 : Int32))))), .second, .val (.long (own_cnt y (1 : Int32))), .second, .val (.int (1 : Int32)), .val (.int (1 : Int32)), .unset] [(.int (1 : Int32))])) _
      refine XS.istore X3.here hx rfl (hb hby at_70) rfl (l' := #[.val (.int y), .val (.int x'), .val (.int ((1 : Int32) + ((x' &&& (2147483647 : Int32)) % (12 : Int32)))), .val (.long (own_cnt (0 : Int32) (1 : Int32))), .second, .val (.long (own_cnt y ((1 : Int32) + ((x' &&& (2147483647 : Int32)) % (12 : Int32))))), .second, .val (.long (own_cnt y (1 : Int32))), .second, .val (.int (1 : Int32)), .val (.int (1 : Int32)), .val (.int (1 : Int32))]) rfl ?_
      show Steps p.tables e below (T3.setTop (mkF m 72 #[.val (.int y), .val (.int x'), .val (.int ((1 : Int32) + ((x' &&& (2147483647 : Int32)) % (12 : Int32)))), .val (.long (own_cnt (0 : Int32) (1 : Int32))), .second, .val (.long (own_cnt y ((1 : Int32) + ((x' &&& (2147483647 : Int32)) % (12 : Int32))))), .second, .val (.long (own_cnt y (1 : Int32))), .second, .val (.int (1 : Int32)), .val (.int (1 : Int32)), .val (.int (1 : Int32))] [])) _
      refine XS.goto X3.here hx rfl (pc0 := 72) (pc' := 99) rfl (hb hby at_72) (by decide) (by decide) ?_
      show Steps p.tables e below (T3.setTop (mkF m 99 #[.val (.int y), .val (.int x'), .val (.int ((1 : Int32) + ((x' &&& (2147483647 : Int32)) % (12 : Int32)))), .val (.long (own_cnt (0 : Int32) (1 : Int32))), .second, .val (.long (own_cnt y ((1 : Int32) + ((x' &&& (2147483647 : Int32)) % (12 : Int32))))), .second, .val (.long (own_cnt y (1 : Int32))), .second, .val (.int (1 : Int32)), .val (.int (1 : Int32)), .val (.int (1 : Int32))] [])) _
      refine XS.iload X3.here hx rfl (hb hby at_99) rfl ?_
      show Steps p.tables e below (T3.setTop (mkF m 101 #[.val (.int y), .val (.int x'), .val (.int ((1 : Int32) + ((x' &&& (2147483647 : Int32)) % (12 : Int32)))), .val (.long (own_cnt (0 : Int32) (1 : Int32))), .second, .val (.long (own_cnt y ((1 : Int32) + ((x' &&& (2147483647 : Int32)) % (12 : Int32))))), .second, .val (.long (own_cnt y (1 : Int32))), .second, .val (.int (1 : Int32)), .val (.int (1 : Int32)), .val (.int (1 : Int32))] [(.int (1 : Int32))])) _
      refine XS.ifNo X3.here hx rfl (hb hby at_101) rfl ((if0 _ _).trans (feq (by decide : ¬ ((1 : Int32) = (0 : Int32)))).1) ?_
      show Steps p.tables e below (T3.setTop (mkF m 104 #[.val (.int y), .val (.int x'), .val (.int ((1 : Int32) + ((x' &&& (2147483647 : Int32)) % (12 : Int32)))), .val (.long (own_cnt (0 : Int32) (1 : Int32))), .second, .val (.long (own_cnt y ((1 : Int32) + ((x' &&& (2147483647 : Int32)) % (12 : Int32))))), .second, .val (.long (own_cnt y (1 : Int32))), .second, .val (.int (1 : Int32)), .val (.int (1 : Int32)), .val (.int (1 : Int32))] [])) _
      refine XS.iload X3.here hx rfl (hb hby at_104) rfl ?_
      show Steps p.tables e below (T3.setTop (mkF m 106 #[.val (.int y), .val (.int x'), .val (.int ((1 : Int32) + ((x' &&& (2147483647 : Int32)) % (12 : Int32)))), .val (.long (own_cnt (0 : Int32) (1 : Int32))), .second, .val (.long (own_cnt y ((1 : Int32) + ((x' &&& (2147483647 : Int32)) % (12 : Int32))))), .second, .val (.long (own_cnt y (1 : Int32))), .second, .val (.int (1 : Int32)), .val (.int (1 : Int32)), .val (.int (1 : Int32))] [(.int (1 : Int32))])) _
      refine XS.ifNo X3.here hx rfl (hb hby at_106) rfl ((if0 _ _).trans (feq (by decide : ¬ ((1 : Int32) = (0 : Int32)))).1) ?_
      show Steps p.tables e below (T3.setTop (mkF m 109 #[.val (.int y), .val (.int x'), .val (.int ((1 : Int32) + ((x' &&& (2147483647 : Int32)) % (12 : Int32)))), .val (.long (own_cnt (0 : Int32) (1 : Int32))), .second, .val (.long (own_cnt y ((1 : Int32) + ((x' &&& (2147483647 : Int32)) % (12 : Int32))))), .second, .val (.long (own_cnt y (1 : Int32))), .second, .val (.int (1 : Int32)), .val (.int (1 : Int32)), .val (.int (1 : Int32))] [])) _
      refine XS.iload X3.here hx rfl (hb hby at_109) rfl ?_
      show Steps p.tables e below (T3.setTop (mkF m 111 #[.val (.int y), .val (.int x'), .val (.int ((1 : Int32) + ((x' &&& (2147483647 : Int32)) % (12 : Int32)))), .val (.long (own_cnt (0 : Int32) (1 : Int32))), .second, .val (.long (own_cnt y ((1 : Int32) + ((x' &&& (2147483647 : Int32)) % (12 : Int32))))), .second, .val (.long (own_cnt y (1 : Int32))), .second, .val (.int (1 : Int32)), .val (.int (1 : Int32)), .val (.int (1 : Int32))] [(.int (1 : Int32))])) _
      refine XS.ifNo X3.here hx rfl (hb hby at_111) rfl ((if0 _ _).trans (feq (by decide : ¬ ((1 : Int32) = (0 : Int32)))).1) ?_
      show Steps p.tables e below (T3.setTop (mkF m 114 #[.val (.int y), .val (.int x'), .val (.int ((1 : Int32) + ((x' &&& (2147483647 : Int32)) % (12 : Int32)))), .val (.long (own_cnt (0 : Int32) (1 : Int32))), .second, .val (.long (own_cnt y ((1 : Int32) + ((x' &&& (2147483647 : Int32)) % (12 : Int32))))), .second, .val (.long (own_cnt y (1 : Int32))), .second, .val (.int (1 : Int32)), .val (.int (1 : Int32)), .val (.int (1 : Int32))] [])) _
      refine XS.iconst X3.here hx rfl (hb hby at_114) ?_
      show Steps p.tables e below (T3.setTop (mkF m 115 #[.val (.int y), .val (.int x'), .val (.int ((1 : Int32) + ((x' &&& (2147483647 : Int32)) % (12 : Int32)))), .val (.long (own_cnt (0 : Int32) (1 : Int32))), .second, .val (.long (own_cnt y ((1 : Int32) + ((x' &&& (2147483647 : Int32)) % (12 : Int32))))), .second, .val (.long (own_cnt y (1 : Int32))), .second, .val (.int (1 : Int32)), .val (.int (1 : Int32)), .val (.int (1 : Int32))] [(.int (1 : Int32))])) _
      refine XS.goto X3.here hx rfl (pc0 := 115) (pc' := 119) rfl (hb hby at_115) (by decide) (by decide) ?_
      show Steps p.tables e below (T3.setTop (mkF m 119 #[.val (.int y), .val (.int x'), .val (.int ((1 : Int32) + ((x' &&& (2147483647 : Int32)) % (12 : Int32)))), .val (.long (own_cnt (0 : Int32) (1 : Int32))), .second, .val (.long (own_cnt y ((1 : Int32) + ((x' &&& (2147483647 : Int32)) % (12 : Int32))))), .second, .val (.long (own_cnt y (1 : Int32))), .second, .val (.int (1 : Int32)), .val (.int (1 : Int32)), .val (.int (1 : Int32))] [(.int (1 : Int32))])) _
      exact retN X3 hx (t := .boolean) Bd.returns (by simp) (hb hby at_119) hr
    · show Q0 Z y x' h0 n0 _ T3.heap _
      rw [hh3]
      exact ⟨rfl, N3⟩
  · obtain ⟨_, _, ⟨T6, L6, k6, n6⟩, -, X6, ⟨Lc6, hQ6, l6, y6, z6⟩, st6⟩ := Jvm.LawKit.callS X3 hx (y := (⟨"com/example/overage/overage/catalog/MonthSeconds", "count", "(II)J"⟩ : MethodName)) hown (mvT hZ (hw _ (List.mem_of_getElem? (i := 1) rfl))) (mvT hZ (hw _ (List.mem_of_getElem? (i := 2) rfl))) (mvT hZ (hw _ (List.mem_of_getElem? (i := 3) rfl))) (mvT hZ (hw _ (List.mem_of_getElem? (i := 4) rfl))) (by decide) (backOf (W := 0) (rm1 l Z a0 hw [] (y + (1 : Int32)) ((1 : Int32) + ((x' &&& (2147483647 : Int32)) % (12 : Int32))) h0 n0 Z0 ) hZ (hw _ (List.mem_of_getElem? (i := 4) rfl)) (hw _ (List.mem_of_getElem? (i := 3) rfl)) (by decide) (by decide)) (g := (mkF m 79 #[.val (.int y), .val (.int x'), .val (.int ((1 : Int32) + ((x' &&& (2147483647 : Int32)) % (12 : Int32)))), .val (.long (own_cnt (0 : Int32) (1 : Int32))), .second, .val (.long (own_cnt y ((1 : Int32) + ((x' &&& (2147483647 : Int32)) % (12 : Int32))))), .second, .val (.long (own_cnt y (1 : Int32))), .second, .val (.int (1 : Int32)), .val (.int (1 : Int32)), .unset] [(.int ((1 : Int32) + ((x' &&& (2147483647 : Int32)) % (12 : Int32)))), (.int (y + (1 : Int32)))])) rfl (by rw [hml]; rfl) (argsL := [(.int (y + (1 : Int32))), (.int ((1 : Int32) + ((x' &&& (2147483647 : Int32)) % (12 : Int32))))]) (rest := []) (lenOf pd0_0 rfl) rfl (by show 2 * 0 + _ ≤ _; exact Nat.le_of_eq rfl) (hb hby at_79) (fun _ _ => ⟨rfl, hh3, (by decide : 0 + 0 ≤ _), (by decide : 0 + 0 ≤ _)⟩)
    dsimp only [Pt.U, Pt.locs, Pt.cells, Pt.slots] at X6 l6 y6 z6 st6 hQ6
    subst l6 y6 z6
    obtain ⟨rfl, N6q, hh6⟩ := hQ6
    have N6 := Fr.app N3 N6q
    obtain ⟨fs, hr, hrun, hended, hW, hsame⟩ := X6.leave (v := some (.int (1 : Int32))) (fun h => by rw [Bd.returns] at h; cases h)
    refine ⟨_, _, pre4 _ ?_, hrun, hended, _, _, rfl, ?_, ⟨_, rfl⟩, hW, hsame.mono (by decide) (by decide)⟩
    · show Steps p.tables e below (T3.setTop (mkF m 66 #[.val (.int y), .val (.int x'), .val (.int ((1 : Int32) + ((x' &&& (2147483647 : Int32)) % (12 : Int32)))), .val (.long (own_cnt (0 : Int32) (1 : Int32))), .second, .val (.long (own_cnt y ((1 : Int32) + ((x' &&& (2147483647 : Int32)) % (12 : Int32))))), .second, .val (.long (own_cnt y (1 : Int32))), .second, .val (.int (1 : Int32)), .val (.int (1 : Int32)), .unset] [(.int (2147483647 : Int32)), (.int y)])) _
      refine XS.icmpYes X3.here hx rfl (pc0 := 66) (pc' := 75) rfl (hb hby at_66) rfl (feq hc66_5).2 (by decide) (by decide) ?_
      show Steps p.tables e below (T3.setTop (mkF m 75 #[.val (.int y), .val (.int x'), .val (.int ((1 : Int32) + ((x' &&& (2147483647 : Int32)) % (12 : Int32)))), .val (.long (own_cnt (0 : Int32) (1 : Int32))), .second, .val (.long (own_cnt y ((1 : Int32) + ((x' &&& (2147483647 : Int32)) % (12 : Int32))))), .second, .val (.long (own_cnt y (1 : Int32))), .second, .val (.int (1 : Int32)), .val (.int (1 : Int32)), .unset] [])) _
      refine XS.iloadN X3.here hx rfl (hb hby at_75) rfl ?_
      show Steps p.tables e below (T3.setTop (mkF m 76 #[.val (.int y), .val (.int x'), .val (.int ((1 : Int32) + ((x' &&& (2147483647 : Int32)) % (12 : Int32)))), .val (.long (own_cnt (0 : Int32) (1 : Int32))), .second, .val (.long (own_cnt y ((1 : Int32) + ((x' &&& (2147483647 : Int32)) % (12 : Int32))))), .second, .val (.long (own_cnt y (1 : Int32))), .second, .val (.int (1 : Int32)), .val (.int (1 : Int32)), .unset] [(.int y)])) _
      refine XS.iconst X3.here hx rfl (hb hby at_76) ?_
      show Steps p.tables e below (T3.setTop (mkF m 77 #[.val (.int y), .val (.int x'), .val (.int ((1 : Int32) + ((x' &&& (2147483647 : Int32)) % (12 : Int32)))), .val (.long (own_cnt (0 : Int32) (1 : Int32))), .second, .val (.long (own_cnt y ((1 : Int32) + ((x' &&& (2147483647 : Int32)) % (12 : Int32))))), .second, .val (.long (own_cnt y (1 : Int32))), .second, .val (.int (1 : Int32)), .val (.int (1 : Int32)), .unset] [(.int (1 : Int32)), (.int y)])) _
      refine XS.iadd X3.here hx rfl (hb hby at_77) rfl ?_
      show Steps p.tables e below (T3.setTop (mkF m 78 #[.val (.int y), .val (.int x'), .val (.int ((1 : Int32) + ((x' &&& (2147483647 : Int32)) % (12 : Int32)))), .val (.long (own_cnt (0 : Int32) (1 : Int32))), .second, .val (.long (own_cnt y ((1 : Int32) + ((x' &&& (2147483647 : Int32)) % (12 : Int32))))), .second, .val (.long (own_cnt y (1 : Int32))), .second, .val (.int (1 : Int32)), .val (.int (1 : Int32)), .unset] [(.int (y + (1 : Int32)))])) _
      refine XS.iloadN X3.here hx rfl (hb hby at_78) rfl ?_
      show Steps p.tables e below (T3.setTop (mkF m 79 #[.val (.int y), .val (.int x'), .val (.int ((1 : Int32) + ((x' &&& (2147483647 : Int32)) % (12 : Int32)))), .val (.long (own_cnt (0 : Int32) (1 : Int32))), .second, .val (.long (own_cnt y ((1 : Int32) + ((x' &&& (2147483647 : Int32)) % (12 : Int32))))), .second, .val (.long (own_cnt y (1 : Int32))), .second, .val (.int (1 : Int32)), .val (.int (1 : Int32)), .unset] [(.int ((1 : Int32) + ((x' &&& (2147483647 : Int32)) % (12 : Int32)))), (.int (y + (1 : Int32)))])) _
      refine st6 _ ?_
      show Steps p.tables e below (T6.setTop (mkF m 82 #[.val (.int y), .val (.int x'), .val (.int ((1 : Int32) + ((x' &&& (2147483647 : Int32)) % (12 : Int32)))), .val (.long (own_cnt (0 : Int32) (1 : Int32))), .second, .val (.long (own_cnt y ((1 : Int32) + ((x' &&& (2147483647 : Int32)) % (12 : Int32))))), .second, .val (.long (own_cnt y (1 : Int32))), .second, .val (.int (1 : Int32)), .val (.int (1 : Int32)), .unset] [(.long (own_cnt (y + (1 : Int32)) ((1 : Int32) + ((x' &&& (2147483647 : Int32)) % (12 : Int32)))))])) _
      refine XS.lload X6.here hx rfl (hb hby at_82) rfl ?_
      show Steps p.tables e below (T6.setTop (mkF m 84 #[.val (.int y), .val (.int x'), .val (.int ((1 : Int32) + ((x' &&& (2147483647 : Int32)) % (12 : Int32)))), .val (.long (own_cnt (0 : Int32) (1 : Int32))), .second, .val (.long (own_cnt y ((1 : Int32) + ((x' &&& (2147483647 : Int32)) % (12 : Int32))))), .second, .val (.long (own_cnt y (1 : Int32))), .second, .val (.int (1 : Int32)), .val (.int (1 : Int32)), .unset] [(.long (own_cnt y ((1 : Int32) + ((x' &&& (2147483647 : Int32)) % (12 : Int32))))), (.long (own_cnt (y + (1 : Int32)) ((1 : Int32) + ((x' &&& (2147483647 : Int32)) % (12 : Int32)))))])) _
      refine XS.lsub X6.here hx rfl (hb hby at_84) rfl ?_
      show Steps p.tables e below (T6.setTop (mkF m 85 #[.val (.int y), .val (.int x'), .val (.int ((1 : Int32) + ((x' &&& (2147483647 : Int32)) % (12 : Int32)))), .val (.long (own_cnt (0 : Int32) (1 : Int32))), .second, .val (.long (own_cnt y ((1 : Int32) + ((x' &&& (2147483647 : Int32)) % (12 : Int32))))), .second, .val (.long (own_cnt y (1 : Int32))), .second, .val (.int (1 : Int32)), .val (.int (1 : Int32)), .unset] [(.long ((own_cnt (y + (1 : Int32)) ((1 : Int32) + ((x' &&& (2147483647 : Int32)) % (12 : Int32)))) - (own_cnt y ((1 : Int32) + ((x' &&& (2147483647 : Int32)) % (12 : Int32))))))])) _
      refine X6.ldc2Long hx hown (mvT hZ (hw _ (List.mem_of_getElem? (i := 6) rfl))) (g := (mkF m 85 #[.val (.int y), .val (.int x'), .val (.int ((1 : Int32) + ((x' &&& (2147483647 : Int32)) % (12 : Int32)))), .val (.long (own_cnt (0 : Int32) (1 : Int32))), .second, .val (.long (own_cnt y ((1 : Int32) + ((x' &&& (2147483647 : Int32)) % (12 : Int32))))), .second, .val (.long (own_cnt y (1 : Int32))), .second, .val (.int (1 : Int32)), .val (.int (1 : Int32)), .unset] [(.long ((own_cnt (y + (1 : Int32)) ((1 : Int32) + ((x' &&& (2147483647 : Int32)) % (12 : Int32)))) - (own_cnt y ((1 : Int32) + ((x' &&& (2147483647 : Int32)) % (12 : Int32))))))])) rfl (hb hby at_85) _ ?_
      show Steps p.tables e below (T6.setTop (mkF m 88 #[.val (.int y), .val (.int x'), .val (.int ((1 : Int32) + ((x' &&& (2147483647 : Int32)) % (12 : Int32)))), .val (.long (own_cnt (0 : Int32) (1 : Int32))), .second, .val (.long (own_cnt y ((1 : Int32) + ((x' &&& (2147483647 : Int32)) % (12 : Int32))))), .second, .val (.long (own_cnt y (1 : Int32))), .second, .val (.int (1 : Int32)), .val (.int (1 : Int32)), .unset] [(.long (12 : Int64)), (.long ((own_cnt (y + (1 : Int32)) ((1 : Int32) + ((x' &&& (2147483647 : Int32)) % (12 : Int32)))) - (own_cnt y ((1 : Int32) + ((x' &&& (2147483647 : Int32)) % (12 : Int32))))))])) _
      refine XS.lcmp X6.here hx rfl (hb hby at_88) rfl ?_
      show Steps p.tables e below (T6.setTop (mkF m 89 #[.val (.int y), .val (.int x'), .val (.int ((1 : Int32) + ((x' &&& (2147483647 : Int32)) % (12 : Int32)))), .val (.long (own_cnt (0 : Int32) (1 : Int32))), .second, .val (.long (own_cnt y ((1 : Int32) + ((x' &&& (2147483647 : Int32)) % (12 : Int32))))), .second, .val (.long (own_cnt y (1 : Int32))), .second, .val (.int (1 : Int32)), .val (.int (1 : Int32)), .unset] [(.int (lcmpW ((own_cnt (y + (1 : Int32)) ((1 : Int32) + ((x' &&& (2147483647 : Int32)) % (12 : Int32)))) - (own_cnt y ((1 : Int32) + ((x' &&& (2147483647 : Int32)) % (12 : Int32))))) (12 : Int64)))])) _
      refine XS.ifNo X6.here hx rfl (hb hby at_89) rfl ((if0 _ _).trans (teq ((lw_eq ((own_cnt (y + (1 : Int32)) ((1 : Int32) + ((x' &&& (2147483647 : Int32)) % (12 : Int32)))) - (own_cnt y ((1 : Int32) + ((x' &&& (2147483647 : Int32)) % (12 : Int32))))) (12 : Int64)).mpr (own_next _ _ hc66_5))).2) ?_
      show Steps p.tables e below (T6.setTop (mkF m 92 #[.val (.int y), .val (.int x'), .val (.int ((1 : Int32) + ((x' &&& (2147483647 : Int32)) % (12 : Int32)))), .val (.long (own_cnt (0 : Int32) (1 : Int32))), .second, .val (.long (own_cnt y ((1 : Int32) + ((x' &&& (2147483647 : Int32)) % (12 : Int32))))), .second, .val (.long (own_cnt y (1 : Int32))), .second, .val (.int (1 : Int32)), .val (.int (1 : Int32)), .unset] [])) _
      refine XS.iconst X6.here hx rfl (hb hby at_92) ?_
      show Steps p.tables e below (T6.setTop (mkF m 93 #[.val (.int y), .val (.int x'), .val (.int ((1 : Int32) + ((x' &&& (2147483647 : Int32)) % (12 : Int32)))), .val (.long (own_cnt (0 : Int32) (1 : Int32))), .second, .val (.long (own_cnt y ((1 : Int32) + ((x' &&& (2147483647 : Int32)) % (12 : Int32))))), .second, .val (.long (own_cnt y (1 : Int32))), .second, .val (.int (1 : Int32)), .val (.int (1 : Int32)), .unset] [(.int (1 : Int32))])) _
      refine XS.goto X6.here hx rfl (pc0 := 93) (pc' := 97) rfl (hb hby at_93) (by decide) (by decide) ?_
      show Steps p.tables e below (T6.setTop (mkF m 97 #[.val (.int y), .val (.int x'), .val (.int ((1 : Int32) + ((x' &&& (2147483647 : Int32)) % (12 : Int32)))), .val (.long (own_cnt (0 : Int32) (1 : Int32))), .second, .val (.long (own_cnt y ((1 : Int32) + ((x' &&& (2147483647 : Int32)) % (12 : Int32))))), .second, .val (.long (own_cnt y (1 : Int32))), .second, .val (.int (1 : Int32)), .val (.int (1 : Int32)), .unset] [(.int (1 : Int32))])) _
      refine XS.istore X6.here hx rfl (hb hby at_97) rfl (l' := #[.val (.int y), .val (.int x'), .val (.int ((1 : Int32) + ((x' &&& (2147483647 : Int32)) % (12 : Int32)))), .val (.long (own_cnt (0 : Int32) (1 : Int32))), .second, .val (.long (own_cnt y ((1 : Int32) + ((x' &&& (2147483647 : Int32)) % (12 : Int32))))), .second, .val (.long (own_cnt y (1 : Int32))), .second, .val (.int (1 : Int32)), .val (.int (1 : Int32)), .val (.int (1 : Int32))]) rfl ?_
      show Steps p.tables e below (T6.setTop (mkF m 99 #[.val (.int y), .val (.int x'), .val (.int ((1 : Int32) + ((x' &&& (2147483647 : Int32)) % (12 : Int32)))), .val (.long (own_cnt (0 : Int32) (1 : Int32))), .second, .val (.long (own_cnt y ((1 : Int32) + ((x' &&& (2147483647 : Int32)) % (12 : Int32))))), .second, .val (.long (own_cnt y (1 : Int32))), .second, .val (.int (1 : Int32)), .val (.int (1 : Int32)), .val (.int (1 : Int32))] [])) _
      refine XS.iload X6.here hx rfl (hb hby at_99) rfl ?_
      show Steps p.tables e below (T6.setTop (mkF m 101 #[.val (.int y), .val (.int x'), .val (.int ((1 : Int32) + ((x' &&& (2147483647 : Int32)) % (12 : Int32)))), .val (.long (own_cnt (0 : Int32) (1 : Int32))), .second, .val (.long (own_cnt y ((1 : Int32) + ((x' &&& (2147483647 : Int32)) % (12 : Int32))))), .second, .val (.long (own_cnt y (1 : Int32))), .second, .val (.int (1 : Int32)), .val (.int (1 : Int32)), .val (.int (1 : Int32))] [(.int (1 : Int32))])) _
      refine XS.ifNo X6.here hx rfl (hb hby at_101) rfl ((if0 _ _).trans (feq (by decide : ¬ ((1 : Int32) = (0 : Int32)))).1) ?_
      show Steps p.tables e below (T6.setTop (mkF m 104 #[.val (.int y), .val (.int x'), .val (.int ((1 : Int32) + ((x' &&& (2147483647 : Int32)) % (12 : Int32)))), .val (.long (own_cnt (0 : Int32) (1 : Int32))), .second, .val (.long (own_cnt y ((1 : Int32) + ((x' &&& (2147483647 : Int32)) % (12 : Int32))))), .second, .val (.long (own_cnt y (1 : Int32))), .second, .val (.int (1 : Int32)), .val (.int (1 : Int32)), .val (.int (1 : Int32))] [])) _
      refine XS.iload X6.here hx rfl (hb hby at_104) rfl ?_
      show Steps p.tables e below (T6.setTop (mkF m 106 #[.val (.int y), .val (.int x'), .val (.int ((1 : Int32) + ((x' &&& (2147483647 : Int32)) % (12 : Int32)))), .val (.long (own_cnt (0 : Int32) (1 : Int32))), .second, .val (.long (own_cnt y ((1 : Int32) + ((x' &&& (2147483647 : Int32)) % (12 : Int32))))), .second, .val (.long (own_cnt y (1 : Int32))), .second, .val (.int (1 : Int32)), .val (.int (1 : Int32)), .val (.int (1 : Int32))] [(.int (1 : Int32))])) _
      refine XS.ifNo X6.here hx rfl (hb hby at_106) rfl ((if0 _ _).trans (feq (by decide : ¬ ((1 : Int32) = (0 : Int32)))).1) ?_
      show Steps p.tables e below (T6.setTop (mkF m 109 #[.val (.int y), .val (.int x'), .val (.int ((1 : Int32) + ((x' &&& (2147483647 : Int32)) % (12 : Int32)))), .val (.long (own_cnt (0 : Int32) (1 : Int32))), .second, .val (.long (own_cnt y ((1 : Int32) + ((x' &&& (2147483647 : Int32)) % (12 : Int32))))), .second, .val (.long (own_cnt y (1 : Int32))), .second, .val (.int (1 : Int32)), .val (.int (1 : Int32)), .val (.int (1 : Int32))] [])) _
      refine XS.iload X6.here hx rfl (hb hby at_109) rfl ?_
      show Steps p.tables e below (T6.setTop (mkF m 111 #[.val (.int y), .val (.int x'), .val (.int ((1 : Int32) + ((x' &&& (2147483647 : Int32)) % (12 : Int32)))), .val (.long (own_cnt (0 : Int32) (1 : Int32))), .second, .val (.long (own_cnt y ((1 : Int32) + ((x' &&& (2147483647 : Int32)) % (12 : Int32))))), .second, .val (.long (own_cnt y (1 : Int32))), .second, .val (.int (1 : Int32)), .val (.int (1 : Int32)), .val (.int (1 : Int32))] [(.int (1 : Int32))])) _
      refine XS.ifNo X6.here hx rfl (hb hby at_111) rfl ((if0 _ _).trans (feq (by decide : ¬ ((1 : Int32) = (0 : Int32)))).1) ?_
      show Steps p.tables e below (T6.setTop (mkF m 114 #[.val (.int y), .val (.int x'), .val (.int ((1 : Int32) + ((x' &&& (2147483647 : Int32)) % (12 : Int32)))), .val (.long (own_cnt (0 : Int32) (1 : Int32))), .second, .val (.long (own_cnt y ((1 : Int32) + ((x' &&& (2147483647 : Int32)) % (12 : Int32))))), .second, .val (.long (own_cnt y (1 : Int32))), .second, .val (.int (1 : Int32)), .val (.int (1 : Int32)), .val (.int (1 : Int32))] [])) _
      refine XS.iconst X6.here hx rfl (hb hby at_114) ?_
      show Steps p.tables e below (T6.setTop (mkF m 115 #[.val (.int y), .val (.int x'), .val (.int ((1 : Int32) + ((x' &&& (2147483647 : Int32)) % (12 : Int32)))), .val (.long (own_cnt (0 : Int32) (1 : Int32))), .second, .val (.long (own_cnt y ((1 : Int32) + ((x' &&& (2147483647 : Int32)) % (12 : Int32))))), .second, .val (.long (own_cnt y (1 : Int32))), .second, .val (.int (1 : Int32)), .val (.int (1 : Int32)), .val (.int (1 : Int32))] [(.int (1 : Int32))])) _
      refine XS.goto X6.here hx rfl (pc0 := 115) (pc' := 119) rfl (hb hby at_115) (by decide) (by decide) ?_
      show Steps p.tables e below (T6.setTop (mkF m 119 #[.val (.int y), .val (.int x'), .val (.int ((1 : Int32) + ((x' &&& (2147483647 : Int32)) % (12 : Int32)))), .val (.long (own_cnt (0 : Int32) (1 : Int32))), .second, .val (.long (own_cnt y ((1 : Int32) + ((x' &&& (2147483647 : Int32)) % (12 : Int32))))), .second, .val (.long (own_cnt y (1 : Int32))), .second, .val (.int (1 : Int32)), .val (.int (1 : Int32)), .val (.int (1 : Int32))] [(.int (1 : Int32))])) _
      exact retN X6 hx (t := .boolean) Bd.returns (by simp) (hb hby at_119) hr
    · show Q0 Z y x' h0 n0 _ T6.heap _
      rw [hh6]
      exact ⟨rfl, N6⟩
set_option maxRecDepth 65536 in
set_option maxHeartbeats 40000000 in
theorem comes_1 {Post : Tables → Env → Array Value → State → Outcome → State → Prop} (hpost : ∀ tb e args s v u, (limb_1_1.after args s (.returned v) u = true ∧ limb_1_2.after args s (.returned v) u = true ∧ True) → FrameEnd s (.returned v) u (Jvm.fieldLocs frame_1_writes args s ++ Jvm.arrayLocs frame_1_arrays args s ++ Jvm.staticLocs frame_1_statics s) 0 0 → Post tb e args s (.returned v) u) :
    ArmFor flags0 classFile x code maxLocals ret World_1 tables_1 room_1 Calls_1 rest_1 Pre_1 Post := by
  intro l hfl _ _ p e ha hc hk s m args below hf hA hF happ hP
  obtain ⟨hcalls, hrest, hpre⟩ := hP
  obtain ⟨-, -, -, hnamed, -, -, -, hat⟩ := (Spec.applies_iff hf).mp happ
  obtain ⟨hg, hn⟩ := and_e (Cond.before_iff.mp (show (Jvm.Cond.and given_1 narrow_1).before args s = true from hpre))
  obtain ⟨hcount, gr0⟩ := and_e hg
  obtain ⟨ga0, ga1⟩ := and_e gr0
  obtain ⟨w0, w1, rfl⟩ : ∃ w0 w1 : Value, args = #[w0, w1] := by
    have hs : args.size = 2 := by simpa [Cond.value, given_1] using hcount
    obtain ⟨L⟩ := args
    match L, hs with
    | [w0, w1], _ => exact ⟨w0, w1, rfl⟩
  have hw := fun d (hd : d ∈ tables_1) => atoms_spec (ws := Jvm.Cond.code x code maxLocals ret :: tables_1) hat d (List.mem_cons_of_mem _ hd)
  have hfit : Fit s := fun {y c} hc i hi => by
    obtain ⟨ha, rfl⟩ := Array.getElem?_eq_some_iff.mp hc
    have q := List.all_eq_true.mp ((Array.all_eq_true_iff_forall_mem.mp hF) _ (Array.getElem_mem ha)) i (List.mem_range.mpr hi)
    simpa [Array.getElem?_eq_getElem hi] using q
  obtain ⟨i0, ei0⟩ := is_v ga0
  obtain rfl : w0 = (.int i0) := Option.some.inj ei0
  obtain ⟨i1, ei1⟩ := is_v ga1
  obtain rfl : w1 = (.int i1) := Option.some.inj ei1
  obtain ⟨n, o, h1, h2, h3, _, L, rfl, ⟨rfl, N⟩, hq⟩ := rm0 l s _ hw tables_1 i0 i1  s.heap s.heap.size (Nat.le_refl _)  p e ha hc hk s m _ below hf ((Spec.applies_iff_loose hf).mp happ).1 ⟨rfl, State.Warmed39.refl s, rfl⟩ trivial
  refine ⟨n, _, h1, h2, h3, hpost _ _ _ _ _ _ ⟨Cond.after_iff.mpr rfl, Cond.after_iff.mpr (eq_i res_at (Term.int_eval (1)) rfl), trivial⟩ ⟨hq.1, hq.2.1, (hq.2.2.sift fun y hy => Or.inr (N y hy)).mono (by decide) (by decide)⟩⟩
theorem main_1_1 : Claimed_1_1 := comes_1 fun _ _ _ _ _ _ h hF => ⟨h.1, hF⟩
theorem main_1_2 : Claimed_1_2 := comes_1 fun _ _ _ _ _ _ h hF => ⟨h.2.1, hF⟩
end Jvm.Pilot.@@N@@
namespace Jvm.Pilot.@@N@@
open Jvm Jvm.ClassFile Sem Op Lib Jvm.Free Jvm.Stand Jvm.Pilot.@@N@@.Jvm.D
/-! MADE BY PROGRAM (witnessworld.py) out of the Statement's table words and the real class files: 7 classes; the members and pool entries that the words name. The judged class is class 1, her method 1. -/
namespace start1
open Jvm.ClassFile
def u (s : String) : CpInfo := .utf8 (stringToUtf16 s)
/-- a pool by its gaps: so many unusable entries, then the entry; so many at the end -/
def gap : Nat → List CpInfo → List CpInfo
  | 0, r => r
  | n + 1, r => .unusable :: gap n r
def poolList (es : List (Nat × CpInfo)) (last : Nat) : List CpInfo := es.foldr (fun e r => gap e.1 (e.2 :: r)) (gap last [])
def pool (es : List (Nat × CpInfo)) (last : Nat) : Array CpInfo := ⟨poolList es last⟩
def fileOf (pool : Array CpInfo) (this : Nat) (attrs : Array Attribute := #[]) (ms : Array MethodInfo := #[]) (fl : Nat := 33) (sup : Nat := 0) (ifs : Array Nat := #[]) (fds : Array FieldInfo := #[]) : ClassFile where
  minorVersion := 0
  majorVersion := 65
  constantPool := pool
  accessFlags := fl
  thisClass := this
  superClass := sup
  interfaces := ifs
  fields := fds
  methods := ms
  attributes := attrs
def plain (name : String) (sup : Option ClassId) : Class where
  name := name
  kind := .ordinary
  loader := none
  accessFlags := 33
  super := sup
  interfaces := #[]
  cf := none
  fields := #[]
  methods := #[]
  instanceTypes := #[]
  staticTypes := #[]
  resolved := #[]
  callSites := []
  init := .initialized
  statics := none
  mirror := none

def pool0 : Array CpInfo := pool [(5, u "<init>"), (0, u "()V"), (1, .class_ 10), (1, u "java/lang/Object")] 113

def k0m0 : Method := { name := "<init>", desc := "()V", sig := { parameters := [], returnType := none }, accessFlags := 1, code := none }
/-- java/lang/Object -/
def k0 : Class := { plain "java/lang/Object" none with
  accessFlags := 33
  interfaces := #[]
  cf := some (fileOf pool0 8 #[] #[{ accessFlags := 1, nameIndex := 5, descriptorIndex := 6, attributes := #[] }] 33 0 #[] #[])
  fields := #[]
  methods := #[k0m0]
  instanceTypes := #[]
  staticTypes := #[]
  resolved := Array.replicate 124 none
  statics := none }

def pool1 : Array CpInfo := pool [(2, .class_ 4), (1, u "java/lang/Object"), (0, u "<init>"), (0, u "()V"), (0, .integer 2147483647), (0, .methodref 9 10), (0, .class_ 11), (0, .nameAndType 12 13), (0, u "com/example/overage/overage/catalog/MonthSeconds"), (0, u "count"), (0, u "(II)J"), (2, .long 12), (1, .class_ 19), (0, u "com/example/overage/overage/catalog/MonthSecondsCountPinLaw"), (2, u "law"), (0, u "(II)Z")] 3

def k1m0 : Method := { name := "<init>", desc := "()V", sig := { parameters := [], returnType := none }, accessFlags := 2, code := none }
def k1c1 : Code := { maxStack := 4, maxLocals := 12, code := code, exceptionTable := #[], attributes := #[] }
def k1m1 : Method := { name := "law", desc := "(II)Z", sig := { parameters := [.int, .int], returnType := some .boolean }, accessFlags := 9, code := some k1c1 }
/-- com/example/overage/overage/catalog/MonthSecondsCountPinLaw -/
def k1 : Class := { plain "com/example/overage/overage/catalog/MonthSecondsCountPinLaw" (some 0) with
  accessFlags := 49
  interfaces := #[]
  cf := some (fileOf pool1 18 #[] #[{ accessFlags := 2, nameIndex := 5, descriptorIndex := 6, attributes := #[] }, { accessFlags := 9, nameIndex := 22, descriptorIndex := 23, attributes := #[] }] 49 2 #[] #[])
  fields := #[]
  methods := #[k1m0, k1m1]
  instanceTypes := #[]
  staticTypes := #[]
  resolved := Array.replicate 27 none
  statics := none }

def pool2 : Array CpInfo := pool [(2, .class_ 4), (1, u "java/lang/Object"), (0, u "<init>"), (0, u "()V"), (0, .long 12), (55, .class_ 64), (0, u "com/example/overage/overage/catalog/MonthSeconds"), (2, u "count"), (0, u "(II)J")] 3

def k2m0 : Method := { name := "<init>", desc := "()V", sig := { parameters := [], returnType := none }, accessFlags := 2, code := none }
def k2c1 : Code := { maxStack := 4, maxLocals := 2, code := prog_77_method_2_code, exceptionTable := #[], attributes := #[] }
def k2m1 : Method := { name := "count", desc := "(II)J", sig := { parameters := [.int, .int], returnType := some .long }, accessFlags := 8, code := some k2c1 }
/-- com/example/overage/overage/catalog/MonthSeconds -/
def k2 : Class := { plain "com/example/overage/overage/catalog/MonthSeconds" (some 0) with
  accessFlags := 32
  interfaces := #[]
  cf := some (fileOf pool2 63 #[] #[{ accessFlags := 2, nameIndex := 5, descriptorIndex := 6, attributes := #[] }, { accessFlags := 8, nameIndex := 67, descriptorIndex := 68, attributes := #[] }] 32 2 #[] #[])
  fields := #[]
  methods := #[k2m0, k2m1]
  instanceTypes := #[]
  staticTypes := #[]
  resolved := Array.replicate 72 none
  statics := none }

def pool3 : Array CpInfo := pool [(1, u "java/lang/Cloneable"), (0, .class_ 1), (0, u "java/lang/Object"), (0, .class_ 3)] 3

/-- java/lang/Cloneable -/
def k3 : Class := { plain "java/lang/Cloneable" (some 0) with
  accessFlags := 1537
  interfaces := #[]
  cf := some (fileOf pool3 2 #[] #[] 1537 4 #[] #[])
  fields := #[]
  methods := #[]
  instanceTypes := #[]
  staticTypes := #[]
  resolved := Array.replicate 8 none
  statics := none }

def pool4 : Array CpInfo := pool [(1, u "java/io/Serializable"), (0, .class_ 1), (0, u "java/lang/Object"), (0, .class_ 3)] 3

/-- java/io/Serializable -/
def k4 : Class := { plain "java/io/Serializable" (some 0) with
  accessFlags := 1537
  interfaces := #[]
  cf := some (fileOf pool4 2 #[] #[] 1537 4 #[] #[])
  fields := #[]
  methods := #[]
  instanceTypes := #[]
  staticTypes := #[]
  resolved := Array.replicate 8 none
  statics := none }

/-- the primitive byte -/
def k5 : Class := { plain "byte" none with kind := .primitive 'B', accessFlags := 0x411 }
/-- [B -/
def k6 : Class := { plain "[B" (some 0) with kind := .array 5 .byte, interfaces := #[3, 4], accessFlags := 1041 }

def heap : Heap := #[]
def classes : Array Class := #[k0, k1, k2, k3, k4, k5, k6]
def interned : List (Array UInt16 × Addr) := []
def slotsUsed : Nat := 0
def theMethod : MethodId := ⟨1, 1⟩
def args0 : Array Value := #[.int 5, .int 7]
def aboutOver (below : List Frame) : State where
  vm := { classes := classes, interned := interned.toArray }
  heap := heap
  slotsUsed := slotsUsed
  threads := #[{ frames := .invoking theMethod args0 :: below }]
def below0 : List Frame := [.native { method := ⟨0, 0⟩, args := #[] }]
def about1 : State := aboutOver below0
def p0 : Program := .bare "" "" ""
def e0 : Env := launch0.env 0 0 0
theorem w_frames : about1.frames = Frame.invoking theMethod args0 :: below0 := rfl
set_option maxRecDepth 65536 in
theorem w_args : argsFit about1.vm theMethod args0 = true := by decide +kernel
set_option maxRecDepth 65536 in
theorem w_heap : heapFits about1 = true := by decide +kernel
set_option maxRecDepth 65536 in
theorem w_runnable : about1.curStatus? = some .runnable := by decide +kernel
set_option maxRecDepth 65536 in
theorem w_alone : about1.alone = true := by decide +kernel
set_option maxRecDepth 65536 in
theorem w_named : about1.methodNamed? x = some theMethod := by decide +kernel
set_option maxRecDepth 65536 in
theorem w_hears : about1.hears theMethod below0 = true := by decide +kernel
set_option maxRecDepth 65536 in
theorem w_ripe : about1.ripe theMethod args0 below0 = true := by decide +kernel
theorem w_running : about1.status = .running := rfl
set_option maxRecDepth 65536 in
theorem w_room : about1.hasRoom e0.platform room_1 = true :=
  launch0.hasRoom_least _ room_1 (by decide +kernel) (by decide +kernel) (by decide +kernel) (by decide +kernel) (by decide +kernel) (by decide +kernel)
theorem allAtoms_all (ts : List Jvm.Cond) (a : Array Jvm.Value) (st : Jvm.State) : (allAtoms ts).before a st = ts.all (fun c => c.before a st) := by
  induction ts with
  | nil => rfl
  | cons c t ih =>
    show (Jvm.Cond.and c (allAtoms t)).before a st = _
    rw [Jvm.Cond.before_and, ih, List.all_cons]
def words1 : List Jvm.Cond := Jvm.Cond.code x code maxLocals ret :: tables_1
/-- a 'code' word, met by the world's own term for the bytes: nothing is compared byte by byte -/
theorem code_word {y : MethodName} {bytes : ByteArray} {mx : Nat} {rt : Option FieldType} {a : Array Value} {s : State} {m : MethodId} {meth : Method} {c : Code} (h1 : s.methodNamed? y = some m) (h2 : s.vm.method? m = some meth) (h3 : meth.code = some c) (h4 : c.code = bytes)
    (h5 : (c.maxLocals == mx && c.exceptionTable.isEmpty && decide (c.maxStack ≤ mostOperands) && decide (meth.sig.returnType = rt) && !meth.locks && decide (parseMethodDescriptor y.desc = some meth.sig)) = true) : (Jvm.Cond.code y bytes mx rt).before a s = true := by
  simp only [Bool.and_eq_true, beq_iff_eq, Bool.not_eq_true', decide_eq_true_eq] at h5
  obtain ⟨⟨⟨⟨⟨g1, g2⟩, g3⟩, g4⟩, g5⟩, g6⟩ := h5
  simp [Cond.before, Cond.holds, Cond.value, h1, h2, h3, h4, g1, g2, g3, g4, g5, g6]
def isCode : Jvm.Cond → Bool
  | .code _ _ _ _ => true
  | _ => false
theorem all_split {L : List Jvm.Cond} {P : Jvm.Cond → Bool} (h1 : L.all (fun c => isCode c || P c) = true) (h2 : ∀ c ∈ L.filter isCode, P c = true) : L.all P = true := by
  refine List.all_eq_true.mpr fun c hc => ?_
  have h := List.all_eq_true.mp h1 c hc
  rcases Bool.eq_false_or_eq_true (isCode c) with hi | hi
  · exact h2 c (List.mem_filter.mpr ⟨hc, hi⟩)
  · simpa [hi] using h
set_option maxRecDepth 65536 in
theorem w_c0 : (Jvm.Cond.code x code maxLocals ret).before args0 about1 = true := code_word (m := ⟨1, 1⟩) (meth := k1m1) (c := k1c1) (by decide +kernel) rfl rfl rfl (by decide +kernel)
set_option maxRecDepth 65536 in
theorem w_c1 : (Jvm.Cond.code ({ cls := "com/example/overage/overage/catalog/MonthSeconds", name := "count", desc := "(II)J" } : Jvm.MethodName) prog_77_method_2_code (2 : Nat) (Option.some Jvm.ClassFile.FieldType.long)).before args0 about1 = true := code_word (m := ⟨2, 1⟩) (meth := k2m1) (c := k2c1) (by decide +kernel) rfl rfl rfl (by decide +kernel)
def codes1 : List Jvm.Cond := [Jvm.Cond.code x code maxLocals ret, Jvm.Cond.code ({ cls := "com/example/overage/overage/catalog/MonthSeconds", name := "count", desc := "(II)J" } : Jvm.MethodName) prog_77_method_2_code (2 : Nat) (Option.some Jvm.ClassFile.FieldType.long)]
set_option maxRecDepth 65536 in
theorem codes_eq : words1.filter isCode = codes1 := rfl
theorem w_codes : ∀ c ∈ words1.filter isCode, c.before args0 about1 = true := by
  rw [codes_eq]
  intro c hc
  simp only [codes1, List.mem_cons, List.not_mem_nil, or_false] at hc
  rcases hc with rfl | rfl
  · exact w_c0
  · exact w_c1
set_option maxRecDepth 65536 in
theorem w_t1 : words1.all (fun c => isCode c || c.before args0 about1) = true := by decide +kernel
theorem w_tables : (allAtoms (Jvm.Cond.code x code maxLocals ret :: tables_1)).before args0 about1 = true := by
  rw [allAtoms_all]
  show words1.all (fun c => c.before args0 about1) = true
  refine all_split ?_ w_codes
  rw [w_t1]
set_option maxRecDepth 65536 in
theorem w_case : (Jvm.Cond.and given_1 narrow_1).before args0 about1 = true := by decide +kernel
theorem w_applies : (headSpec (Jvm.Cond.code x code maxLocals ret :: tables_1) room_1).applies x e0.platform about1 = true :=
  (Spec.applies_iff w_frames).mpr ⟨w_running, w_runnable, w_alone, w_named, w_hears, w_ripe, w_room, w_tables⟩
theorem atStart : AtStart classFile x code maxLocals ret World_1 tables_1 room_1 Calls_1 rest_1 Pre_1 launch0 p0 e0 about1 theMethod args0 below0 :=
  ⟨lists_1, trivial, launch0.admits_env _ _ _, launch0.least_env, fairChoices_fair.cas, fairChoices_fair.clock, w_frames, w_args, w_heap, w_applies, trivial, trivial, w_case⟩
end start1
theorem witness_1 : WitnessClaimed_1 := ⟨start1.p0, start1.e0, start1.about1, start1.theMethod, start1.args0, start1.below0, start1.atStart⟩
end Jvm.Pilot.@@N@@
