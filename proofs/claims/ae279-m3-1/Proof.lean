import JvmDerived
import JvmDerived.Pilot.@@N@@Statement
import JvmDerived.Pilot.@@N@@Code
set_option linter.unusedVariables false
set_option linter.unusedSimpArgs false
namespace Jvm.Pilot.@@N@@
open Jvm Jvm.ClassFile Sem Op Lib Jvm.Free Jvm.Stand Jvm.LawKit Jvm.RoadKit Bundle Jvm.Pilot.@@N@@.Jvm.D
theorem own_a (u : Int32) (t : Int32) : (-9223372036854775800 : Int) ≤ ((u.toInt64 + (8 : Int64)) + (((t >>> ((1 : Int32) &&& 31)) &&& (7 : Int32)) - (4 : Int32)).toInt64).toInt := by
  generalize hx : (t >>> ((1 : Int32) &&& 31)) = x
  have m := c_mask x 7 3 (by decide) (by decide)
  have s := c_isub (x &&& 7) 4
  have r := rng32 u
  have r1 := rng32 ((x &&& 7) - 4)
  have i1 := c_i2l u
  have i2 := c_i2l ((x &&& 7) - 4)
  have a1 := c_ladd u.toInt64 8
  have a2 := c_ladd (u.toInt64 + 8) ((x &&& 7) - 4).toInt64
  have q1 := rng64 (u.toInt64 + 8)
  have q2 := rng64 ((u.toInt64 + 8) + ((x &&& 7) - 4).toInt64)
  have e4 : (4 : Int32).toInt = 4 := by decide
  have e8 : (8 : Int64).toInt = 8 := by decide
  omega
theorem own_b (u : Int64) : (-9223372036854775800 : Int) ≤ (u &&& (9223372036854775807 : Int64)).toInt := by
  have m := c_maskL u 9223372036854775807 63 (by decide) (by decide)
  omega
theorem own_c {u : Int64} (h : ¬ u < (-9223372036854775800 : Int64)) : (-9223372036854775800 : Int) ≤ u.toInt := by
  rw [Int64.lt_iff_toInt_lt] at h
  have e : (-9223372036854775800 : Int64).toInt = -9223372036854775800 := by decide
  omega
theorem own_key (u : Int32) (r : Int64) (hr : (-9223372036854775800 : Int) ≤ r.toInt) : (r - (8 : Int64) < u.toInt64) ↔ (r < u.toInt64 + (8 : Int64)) := by
  have r0 := rng32 u
  have r1 := rng64 r
  have i1 := c_i2l u
  have a1 := c_ladd u.toInt64 8
  have s1 := c_lsub r 8
  have q1 := rng64 (u.toInt64 + 8)
  have q2 := rng64 (r - 8)
  have e8 : (8 : Int64).toInt = 8 := by decide
  rw [Int64.lt_iff_toInt_lt, Int64.lt_iff_toInt_lt]
  omega
theorem own_fin {u f x : Int32} {r : Int64} (hr : (-9223372036854775800 : Int) ≤ r.toInt) (hf : ((0 : Int32) < u ∧ ¬ (r - (8 : Int64) < u.toInt64) ∧ f = 1) ∨ (¬ ((0 : Int32) < u ∧ ¬ (r - (8 : Int64) < u.toInt64)) ∧ f = 0))
    (hx : ((0 : Int32) < u ∧ ¬ (r < u.toInt64 + (8 : Int64)) ∧ x = 1) ∨ (¬ ((0 : Int32) < u ∧ ¬ (r < u.toInt64 + (8 : Int64))) ∧ x = 0)) : f = x := by
  rw [own_key u r hr] at hf
  rcases hf with ⟨a, b, rfl⟩ | ⟨a, rfl⟩
  · rcases hx with ⟨_, _, rfl⟩ | ⟨c, _⟩
    · rfl
    · exact absurd ⟨a, b⟩ c
  · rcases hx with ⟨c, d, _⟩ | ⟨_, rfl⟩
    · exact absurd ⟨c, d⟩ a
    · rfl
theorem ef_fits (m : MethodId) (x0 : Int32) (x1 : Int64) : entryFrame m #[(.int x0), (.long x1)] 3 = mkF m 0 #[.val (.int x0), .val (.long x1), .second] [] := by first | (simp [entryFrame, mkF, argsToLocals, Value.category]; done) | rfl
def Q_fits (Z : State) (u1 : Int32) (u2 : Int64) (h0 : Heap) (n0 : Nat) (v : Option Value) (h : Heap) (L : List Loc) : Prop := ∃ r : Int32, v = some (.int r) ∧ Fr n0 L ∧ h = h0 ∧ (((0 : Int32) < u1 ∧ ¬ (u2 - (8 : Int64) < u1.toInt64) ∧ r = 1) ∨ (¬ ((0 : Int32) < u1 ∧ ¬ (u2 - (8 : Int64) < u1.toInt64)) ∧ r = 0))
theorem pn_0 : plainName "com/example/statran/statran/storage/RecordFrame" = true := by first | (simp [plainName, overriddenIn]; done) | decide +kernel
theorem d1_0 : decode prog_206_method_3_code 0 = .ok (.iload_n 0, 1) := by decide +kernel
theorem d1_1 : decode prog_206_method_3_code 1 = .ok (.ifCond .le 18, 3) := by decide +kernel
theorem d1_4 : decode prog_206_method_3_code 4 = .ok (.iload_n 0, 1) := by decide +kernel
theorem d1_5 : decode prog_206_method_3_code 5 = .ok (.i2l, 1) := by decide +kernel
theorem d1_6 : decode prog_206_method_3_code 6 = .ok (.lload_n 1, 1) := by decide +kernel
theorem d1_7 : decode prog_206_method_3_code 7 = .ok (.ldc2_w 33, 3) := by decide +kernel
theorem d1_10 : decode prog_206_method_3_code 10 = .ok (.lsub, 1) := by decide +kernel
theorem d1_11 : decode prog_206_method_3_code 11 = .ok (.lcmp, 1) := by decide +kernel
theorem d1_12 : decode prog_206_method_3_code 12 = .ok (.ifCond .gt 7, 3) := by decide +kernel
theorem d1_19 : decode prog_206_method_3_code 19 = .ok (.iconst 0, 1) := by decide +kernel
theorem d1_20 : decode prog_206_method_3_code 20 = .ok (.ireturn, 1) := by decide +kernel
theorem d1_15 : decode prog_206_method_3_code 15 = .ok (.iconst 1, 1) := by decide +kernel
theorem d1_16 : decode prog_206_method_3_code 16 = .ok (.goto 4, 3) := by decide +kernel
set_option maxRecDepth 65536 in
set_option maxHeartbeats 40000000 in
theorem rm_fits (l : Launch) (Z : State) (a0 : Array Value) (hw : ∀ d ∈ tables_1, d.before a0 Z = true) (ws : List Jvm.Cond) (u1 : Int32) (u2 : Int64) (h0 : Heap) (n0 : Nat) (Z0 : n0 ≤ h0.size) :
    MetFree l (⟨"com/example/statran/statran/storage/RecordFrame", "fits", "(IJ)Z"⟩ : MethodName) (head1 (Jvm.Cond.code (⟨"com/example/statran/statran/storage/RecordFrame", "fits", "(IJ)Z"⟩ : MethodName) prog_206_method_3_code 3 (some .boolean) :: ws) ({ frames := 0, cells := 0, slots := 0, locals := 0 } : Room)) (fun a U => a = #[(.int u1), (.long u2)] ∧ Z.Warmed39 U.vm ∧ U.heap = h0) (fun _ _ _ _ _ => True) (fun _ U o U' => ∃ v L, o = .returned v ∧ Q_fits Z u1 u2 h0 n0 v U'.heap L ∧ FrameEnd U o U' L ({ frames := 0, cells := 0, slots := 0, locals := 0 } : Room).cells ({ frames := 0, cells := 0, slots := 0, locals := 0 } : Room).slots) := by
  refine MetFree.of_bodySF (plainFor_of_name pn_0) hisR ?_
  intro p e s m args below meth c s₁ Bd hml0 hP hK
  obtain ⟨rfl, hZ, hh⟩ := hP
  have hx := Bd.exec
  have hby := Bd.bytes
  have hml : c.maxLocals = 3 := hml0
  have hown : s.vm.findClass "com/example/statran/statran/storage/RecordFrame" = some m.cls := findClass_of_methodNamed Bd.named
  have hnm := (name_of_methodNamed Bd.named Bd.method).1
  have X0 : Stand p l e ({ frames := 0, cells := 0, slots := 0, locals := 0 } : Room) s m #[(.int u1), (.long u2)] below meth c s₁ [] 0 0 := Stand.of_body Bd
  have e0 : s₁.heap = h0 := by rw [← hh, Bd.state]; rfl
  have N0 := Fr.nil n0
  have K0 : Keep h0 h0 [] := Keep.refl h0 []
  have P0 : ∀ t, Steps p.tables e below (s₁.setTop (mkF m 0 #[.val (.int u1), .val (.long u2), .second] [])) t → Steps p.tables e below (s₁.setTop (entryFrame m #[(.int u1), (.long u2)] 3)) t := fun t k => castTop (ef_fits m u1 u2) k
  have P1001 : ∀ t, Steps p.tables e below (s₁.setTop (mkF m 1 #[.val (.int u1), .val (.long u2), .second] [(.int u1)])) t → Steps p.tables e below (s₁.setTop (entryFrame m #[(.int u1), (.long u2)] 3)) t := fun t k => P0 t (by
    refine XS.iloadN X0.here hx rfl (hb hby d1_0) rfl ?_
    show Steps p.tables e below (s₁.setTop (mkF m 1 #[.val (.int u1), .val (.long u2), .second] [(.int u1)])) _
    exact k)
  by_cases h1 : (0 : Int32) < u1
  · have P1002 : ∀ t, Steps p.tables e below (s₁.setTop (mkF m 12 #[.val (.int u1), .val (.long u2), .second] [(.int (lcmpW (u1.toInt64) (u2 - (8 : Int64))))])) t → Steps p.tables e below (s₁.setTop (entryFrame m #[(.int u1), (.long u2)] 3)) t := fun t k => P1001 t (by
      refine XS.ifNo X0.here hx rfl (hb hby d1_1) rfl ((if0 _ _).trans (tlt h1).2.2.2) ?_
      show Steps p.tables e below (s₁.setTop (mkF m 4 #[.val (.int u1), .val (.long u2), .second] [])) _
      refine XS.iloadN X0.here hx rfl (hb hby d1_4) rfl ?_
      show Steps p.tables e below (s₁.setTop (mkF m 5 #[.val (.int u1), .val (.long u2), .second] [(.int u1)])) _
      refine XS.i2l X0.here hx rfl (hb hby d1_5) rfl ?_
      show Steps p.tables e below (s₁.setTop (mkF m 6 #[.val (.int u1), .val (.long u2), .second] [(.long (u1.toInt64))])) _
      refine XS.lloadN X0.here hx rfl (hb hby d1_6) rfl ?_
      show Steps p.tables e below (s₁.setTop (mkF m 7 #[.val (.int u1), .val (.long u2), .second] [(.long u2), (.long (u1.toInt64))])) _
      refine X0.ldc2Long hx hown (mvT hZ (hw _ (List.mem_of_getElem? (i := 6) rfl))) (g := (mkF m 7 #[.val (.int u1), .val (.long u2), .second] [(.long u2), (.long (u1.toInt64))])) rfl (hb hby d1_7) _ ?_
      show Steps p.tables e below (s₁.setTop (mkF m 10 #[.val (.int u1), .val (.long u2), .second] [(.long (8 : Int64)), (.long u2), (.long (u1.toInt64))])) _
      refine XS.lsub X0.here hx rfl (hb hby d1_10) rfl ?_
      show Steps p.tables e below (s₁.setTop (mkF m 11 #[.val (.int u1), .val (.long u2), .second] [(.long (u2 - (8 : Int64))), (.long (u1.toInt64))])) _
      refine XS.lcmp X0.here hx rfl (hb hby d1_11) rfl ?_
      show Steps p.tables e below (s₁.setTop (mkF m 12 #[.val (.int u1), .val (.long u2), .second] [(.int (lcmpW (u1.toInt64) (u2 - (8 : Int64))))])) _
      exact k)
    by_cases h2 : (u2 - (8 : Int64)) < (u1.toInt64)
    · have P1003 : ∀ t, Steps p.tables e below (s₁.setTop (mkF m 20 #[.val (.int u1), .val (.long u2), .second] [(.int (0 : Int32))])) t → Steps p.tables e below (s₁.setTop (entryFrame m #[(.int u1), (.long u2)] 3)) t := fun t k => P1002 t (by
        refine XS.ifYes X0.here hx rfl (pc0 := 12) (pc' := 19) rfl (hb hby d1_12) rfl ((if0 _ _).trans (tlt ((lw_gt (u1.toInt64) (u2 - (8 : Int64))).mpr h2)).2.2.1) (by decide) (by decide) ?_
        show Steps p.tables e below (s₁.setTop (mkF m 19 #[.val (.int u1), .val (.long u2), .second] [])) _
        refine XS.iconst X0.here hx rfl (hb hby d1_19) ?_
        show Steps p.tables e below (s₁.setTop (mkF m 20 #[.val (.int u1), .val (.long u2), .second] [(.int (0 : Int32))])) _
        exact k)
      obtain ⟨fs, hr, hrun, hended, hW, hsame⟩ := X0.leave (v := some (.int (0 : Int32))) (fun h => by rw [Bd.returns] at h; cases h)
      refine ⟨_, _, P1003 _ ?_, hrun, hended, _, _, rfl, ?_, ⟨_, rfl⟩, hW, hsame.mono (by decide) (by decide)⟩
      · exact retN X0 hx (t := .boolean) Bd.returns (by simp) (hb hby d1_20) hr
      · show Q_fits Z u1 u2 h0 n0 _ s₁.heap _
        rw [e0]
        exact ⟨0, rfl, N0, rfl, Or.inr ⟨fun z => z.2 h2, rfl⟩⟩
    · have P1004 : ∀ t, Steps p.tables e below (s₁.setTop (mkF m 20 #[.val (.int u1), .val (.long u2), .second] [(.int (1 : Int32))])) t → Steps p.tables e below (s₁.setTop (entryFrame m #[(.int u1), (.long u2)] 3)) t := fun t k => P1002 t (by
        refine XS.ifNo X0.here hx rfl (hb hby d1_12) rfl ((if0 _ _).trans (flt (fun q => h2 ((lw_gt (u1.toInt64) (u2 - (8 : Int64))).mp q))).2.2.1) ?_
        show Steps p.tables e below (s₁.setTop (mkF m 15 #[.val (.int u1), .val (.long u2), .second] [])) _
        refine XS.iconst X0.here hx rfl (hb hby d1_15) ?_
        show Steps p.tables e below (s₁.setTop (mkF m 16 #[.val (.int u1), .val (.long u2), .second] [(.int (1 : Int32))])) _
        refine XS.goto X0.here hx rfl (pc0 := 16) (pc' := 20) rfl (hb hby d1_16) (by decide) (by decide) ?_
        show Steps p.tables e below (s₁.setTop (mkF m 20 #[.val (.int u1), .val (.long u2), .second] [(.int (1 : Int32))])) _
        exact k)
      obtain ⟨fs, hr, hrun, hended, hW, hsame⟩ := X0.leave (v := some (.int (1 : Int32))) (fun h => by rw [Bd.returns] at h; cases h)
      refine ⟨_, _, P1004 _ ?_, hrun, hended, _, _, rfl, ?_, ⟨_, rfl⟩, hW, hsame.mono (by decide) (by decide)⟩
      · exact retN X0 hx (t := .boolean) Bd.returns (by simp) (hb hby d1_20) hr
      · show Q_fits Z u1 u2 h0 n0 _ s₁.heap _
        rw [e0]
        exact ⟨1, rfl, N0, rfl, Or.inl ⟨h1, h2, rfl⟩⟩
  · have P1005 : ∀ t, Steps p.tables e below (s₁.setTop (mkF m 20 #[.val (.int u1), .val (.long u2), .second] [(.int (0 : Int32))])) t → Steps p.tables e below (s₁.setTop (entryFrame m #[(.int u1), (.long u2)] 3)) t := fun t k => P1001 t (by
      refine XS.ifYes X0.here hx rfl (pc0 := 1) (pc' := 19) rfl (hb hby d1_1) rfl ((if0 _ _).trans (flt h1).2.2.2) (by decide) (by decide) ?_
      show Steps p.tables e below (s₁.setTop (mkF m 19 #[.val (.int u1), .val (.long u2), .second] [])) _
      refine XS.iconst X0.here hx rfl (hb hby d1_19) ?_
      show Steps p.tables e below (s₁.setTop (mkF m 20 #[.val (.int u1), .val (.long u2), .second] [(.int (0 : Int32))])) _
      exact k)
    obtain ⟨fs, hr, hrun, hended, hW, hsame⟩ := X0.leave (v := some (.int (0 : Int32))) (fun h => by rw [Bd.returns] at h; cases h)
    refine ⟨_, _, P1005 _ ?_, hrun, hended, _, _, rfl, ?_, ⟨_, rfl⟩, hW, hsame.mono (by decide) (by decide)⟩
    · exact retN X0 hx (t := .boolean) Bd.returns (by simp) (hb hby d1_20) hr
    · show Q_fits Z u1 u2 h0 n0 _ s₁.heap _
      rw [e0]
      exact ⟨0, rfl, N0, rfl, Or.inr ⟨fun z => h1 z.1, rfl⟩⟩
theorem ef_law (m : MethodId) (x0 : Int32) (x1 : Int64) (x2 : Int32) : entryFrame m #[(.int x0), (.long x1), (.int x2)] maxLocals = mkF m 0 #[.val (.int x0), .val (.long x1), .second, .val (.int x2), .unset, .unset, .unset] [] := by first | (simp [entryFrame, mkF, argsToLocals, Value.category, maxLocals]; done) | rfl
def Q_law (Z : State) (u1 : Int32) (u2 : Int64) (u3 : Int32) (h0 : Heap) (n0 : Nat) (v : Option Value) (h : Heap) (L : List Loc) : Prop := v = some (.int 1) ∧ Fr n0 L
theorem pn_1 : plainName "com/example/statran/statran/storage/RecordFrameFitsPinLaw" = true := by first | (simp [plainName, overriddenIn]; done) | decide +kernel
theorem pd_0 : parseMethodDescriptor "(IJ)Z" = some ⟨[.int, .long], some .boolean⟩ := by decide +kernel
set_option maxRecDepth 65536 in
set_option maxHeartbeats 40000000 in
theorem rm_law (l : Launch) (Z : State) (a0 : Array Value) (hw : ∀ d ∈ tables_1, d.before a0 Z = true) (ws : List Jvm.Cond) (u1 : Int32) (u2 : Int64) (u3 : Int32) (h0 : Heap) (n0 : Nat) (Z0 : n0 ≤ h0.size) :
    MetFree l x (head1 (Jvm.Cond.code x code maxLocals ret :: ws) room_1) (fun a U => a = #[(.int u1), (.long u2), (.int u3)] ∧ Z.Warmed39 U.vm ∧ U.heap = h0) (fun _ _ _ _ _ => True) (fun _ U o U' => ∃ v L, o = .returned v ∧ Q_law Z u1 u2 u3 h0 n0 v U'.heap L ∧ FrameEnd U o U' L room_1.cells room_1.slots) := by
  refine MetFree.of_bodySF (plainFor_of_name pn_1) hisR ?_
  intro p e s m args below meth c s₁ Bd hml0 hP hK
  obtain ⟨rfl, hZ, hh⟩ := hP
  have hx := Bd.exec
  have hby := Bd.bytes
  have hml : c.maxLocals = 7 := hml0
  have hown : s.vm.findClass "com/example/statran/statran/storage/RecordFrameFitsPinLaw" = some m.cls := findClass_of_methodNamed Bd.named
  have hnm := (name_of_methodNamed Bd.named Bd.method).1
  have X0 : Stand p l e room_1 s m #[(.int u1), (.long u2), (.int u3)] below meth c s₁ [] 0 0 := Stand.of_body Bd
  have e0 : s₁.heap = h0 := by rw [← hh, Bd.state]; rfl
  have N0 := Fr.nil n0
  have K0 : Keep h0 h0 [] := Keep.refl h0 []
  have P0 : ∀ t, Steps p.tables e below (s₁.setTop (mkF m 0 #[.val (.int u1), .val (.long u2), .second, .val (.int u3), .unset, .unset, .unset] [])) t → Steps p.tables e below (s₁.setTop (entryFrame m #[(.int u1), (.long u2), (.int u3)] maxLocals)) t := fun t k => castTop (ef_law m u1 u2 u3) k
  have P1006 : ∀ t, Steps p.tables e below (s₁.setTop (mkF m 3 #[.val (.int u1), .val (.long u2), .second, .val (.int u3), .unset, .unset, .unset] [(.int (u3 &&& (1 : Int32)))])) t → Steps p.tables e below (s₁.setTop (entryFrame m #[(.int u1), (.long u2), (.int u3)] maxLocals)) t := fun t k => P0 t (by
    refine XS.iloadN X0.here hx rfl (hb hby at_0) rfl ?_
    show Steps p.tables e below (s₁.setTop (mkF m 1 #[.val (.int u1), .val (.long u2), .second, .val (.int u3), .unset, .unset, .unset] [(.int u3)])) _
    refine XS.iconst X0.here hx rfl (hb hby at_1) ?_
    show Steps p.tables e below (s₁.setTop (mkF m 2 #[.val (.int u1), .val (.long u2), .second, .val (.int u3), .unset, .unset, .unset] [(.int (1 : Int32)), (.int u3)])) _
    refine XS.iand X0.here hx rfl (hb hby at_2) rfl ?_
    show Steps p.tables e below (s₁.setTop (mkF m 3 #[.val (.int u1), .val (.long u2), .second, .val (.int u3), .unset, .unset, .unset] [(.int (u3 &&& (1 : Int32)))])) _
    exact k)
  obtain ⟨r1, hr1, P1007⟩ : ∃ (r1 : Int64), ((-9223372036854775800 : Int) ≤ r1.toInt) ∧ (∀ t, Steps p.tables e below (s₁.setTop (mkF m 48 #[.val (.int u1), .val (.long u2), .second, .val (.int u3), .val (.long r1), .second, .unset] [])) t → Steps p.tables e below (s₁.setTop (entryFrame m #[(.int u1), (.long u2), (.int u3)] maxLocals)) t) := by
    by_cases h3 : (u3 &&& (1 : Int32)) = (0 : Int32)
    · have P1008 : ∀ t, Steps p.tables e below (s₁.setTop (mkF m 32 #[.val (.int u1), .val (.long u2), .second, .val (.int u3), .unset, .unset, .unset] [(.int (lcmpW u2 (-9223372036854775800 : Int64)))])) t → Steps p.tables e below (s₁.setTop (entryFrame m #[(.int u1), (.long u2), (.int u3)] maxLocals)) t := fun t k => P1006 t (by
        refine XS.ifYes X0.here hx rfl (pc0 := 3) (pc' := 27) rfl (hb hby at_3) rfl ((if0 _ _).trans (teq h3).1) (by decide) (by decide) ?_
        show Steps p.tables e below (s₁.setTop (mkF m 27 #[.val (.int u1), .val (.long u2), .second, .val (.int u3), .unset, .unset, .unset] [])) _
        refine XS.lloadN X0.here hx rfl (hb hby at_27) rfl ?_
        show Steps p.tables e below (s₁.setTop (mkF m 28 #[.val (.int u1), .val (.long u2), .second, .val (.int u3), .unset, .unset, .unset] [(.long u2)])) _
        refine X0.ldc2Long hx hown (mvT hZ (hw _ (List.mem_of_getElem? (i := 5) rfl))) (g := (mkF m 28 #[.val (.int u1), .val (.long u2), .second, .val (.int u3), .unset, .unset, .unset] [(.long u2)])) rfl (hb hby at_28) _ ?_
        show Steps p.tables e below (s₁.setTop (mkF m 31 #[.val (.int u1), .val (.long u2), .second, .val (.int u3), .unset, .unset, .unset] [(.long (-9223372036854775800 : Int64)), (.long u2)])) _
        refine XS.lcmp X0.here hx rfl (hb hby at_31) rfl ?_
        show Steps p.tables e below (s₁.setTop (mkF m 32 #[.val (.int u1), .val (.long u2), .second, .val (.int u3), .unset, .unset, .unset] [(.int (lcmpW u2 (-9223372036854775800 : Int64)))])) _
        exact k)
      by_cases h32 : u2 < (-9223372036854775800 : Int64)
      · have P1009 : ∀ t, Steps p.tables e below (s₁.setTop (mkF m 48 #[.val (.int u1), .val (.long u2), .second, .val (.int u3), .val (.long (u2 &&& (9223372036854775807 : Int64))), .second, .unset] [])) t → Steps p.tables e below (s₁.setTop (entryFrame m #[(.int u1), (.long u2), (.int u3)] maxLocals)) t := fun t k => P1008 t (by
          refine XS.ifNo X0.here hx rfl (hb hby at_32) rfl ((if0 _ _).trans (tlt ((lw_lt u2 (-9223372036854775800 : Int64)).mpr h32)).2.1) ?_
          show Steps p.tables e below (s₁.setTop (mkF m 35 #[.val (.int u1), .val (.long u2), .second, .val (.int u3), .unset, .unset, .unset] [])) _
          refine XS.lloadN X0.here hx rfl (hb hby at_35) rfl ?_
          show Steps p.tables e below (s₁.setTop (mkF m 36 #[.val (.int u1), .val (.long u2), .second, .val (.int u3), .unset, .unset, .unset] [(.long u2)])) _
          refine X0.ldc2Long hx hown (mvT hZ (hw _ (List.mem_of_getElem? (i := 7) rfl))) (g := (mkF m 36 #[.val (.int u1), .val (.long u2), .second, .val (.int u3), .unset, .unset, .unset] [(.long u2)])) rfl (hb hby at_36) _ ?_
          show Steps p.tables e below (s₁.setTop (mkF m 39 #[.val (.int u1), .val (.long u2), .second, .val (.int u3), .unset, .unset, .unset] [(.long (9223372036854775807 : Int64)), (.long u2)])) _
          refine XS.land X0.here hx rfl (hb hby at_39) rfl ?_
          show Steps p.tables e below (s₁.setTop (mkF m 40 #[.val (.int u1), .val (.long u2), .second, .val (.int u3), .unset, .unset, .unset] [(.long (u2 &&& (9223372036854775807 : Int64)))])) _
          refine XS.lstore X0.here hx rfl (hb hby at_40) rfl (l' := #[.val (.int u1), .val (.long u2), .second, .val (.int u3), .val (.long (u2 &&& (9223372036854775807 : Int64))), .second, .unset]) rfl ?_
          show Steps p.tables e below (s₁.setTop (mkF m 42 #[.val (.int u1), .val (.long u2), .second, .val (.int u3), .val (.long (u2 &&& (9223372036854775807 : Int64))), .second, .unset] [])) _
          refine XS.goto X0.here hx rfl (pc0 := 42) (pc' := 48) rfl (hb hby at_42) (by decide) (by decide) ?_
          show Steps p.tables e below (s₁.setTop (mkF m 48 #[.val (.int u1), .val (.long u2), .second, .val (.int u3), .val (.long (u2 &&& (9223372036854775807 : Int64))), .second, .unset] [])) _
          exact k)
        exact ⟨_, own_b u2, P1009⟩
      · have P1010 : ∀ t, Steps p.tables e below (s₁.setTop (mkF m 48 #[.val (.int u1), .val (.long u2), .second, .val (.int u3), .val (.long u2), .second, .unset] [])) t → Steps p.tables e below (s₁.setTop (entryFrame m #[(.int u1), (.long u2), (.int u3)] maxLocals)) t := fun t k => P1008 t (by
          refine XS.ifYes X0.here hx rfl (pc0 := 32) (pc' := 45) rfl (hb hby at_32) rfl ((if0 _ _).trans (flt (fun q => h32 ((lw_lt u2 (-9223372036854775800 : Int64)).mp q))).2.1) (by decide) (by decide) ?_
          show Steps p.tables e below (s₁.setTop (mkF m 45 #[.val (.int u1), .val (.long u2), .second, .val (.int u3), .unset, .unset, .unset] [])) _
          refine XS.lloadN X0.here hx rfl (hb hby at_45) rfl ?_
          show Steps p.tables e below (s₁.setTop (mkF m 46 #[.val (.int u1), .val (.long u2), .second, .val (.int u3), .unset, .unset, .unset] [(.long u2)])) _
          refine XS.lstore X0.here hx rfl (hb hby at_46) rfl (l' := #[.val (.int u1), .val (.long u2), .second, .val (.int u3), .val (.long u2), .second, .unset]) rfl ?_
          show Steps p.tables e below (s₁.setTop (mkF m 48 #[.val (.int u1), .val (.long u2), .second, .val (.int u3), .val (.long u2), .second, .unset] [])) _
          exact k)
        exact ⟨_, own_c h32, P1010⟩
    · have P1011 : ∀ t, Steps p.tables e below (s₁.setTop (mkF m 48 #[.val (.int u1), .val (.long u2), .second, .val (.int u3), .val (.long (((u1.toInt64) + (8 : Int64)) + ((((u3 >>> ((1 : Int32) &&& 31)) &&& (7 : Int32)) - (4 : Int32)).toInt64))), .second, .unset] [])) t → Steps p.tables e below (s₁.setTop (entryFrame m #[(.int u1), (.long u2), (.int u3)] maxLocals)) t := fun t k => P1006 t (by
        refine XS.ifNo X0.here hx rfl (hb hby at_3) rfl ((if0 _ _).trans (feq h3).1) ?_
        show Steps p.tables e below (s₁.setTop (mkF m 6 #[.val (.int u1), .val (.long u2), .second, .val (.int u3), .unset, .unset, .unset] [])) _
        refine XS.iloadN X0.here hx rfl (hb hby at_6) rfl ?_
        show Steps p.tables e below (s₁.setTop (mkF m 7 #[.val (.int u1), .val (.long u2), .second, .val (.int u3), .unset, .unset, .unset] [(.int u1)])) _
        refine XS.i2l X0.here hx rfl (hb hby at_7) rfl ?_
        show Steps p.tables e below (s₁.setTop (mkF m 8 #[.val (.int u1), .val (.long u2), .second, .val (.int u3), .unset, .unset, .unset] [(.long (u1.toInt64))])) _
        refine X0.ldc2Long hx hown (mvT hZ (hw _ (List.mem_of_getElem? (i := 0) rfl))) (g := (mkF m 8 #[.val (.int u1), .val (.long u2), .second, .val (.int u3), .unset, .unset, .unset] [(.long (u1.toInt64))])) rfl (hb hby at_8) _ ?_
        show Steps p.tables e below (s₁.setTop (mkF m 11 #[.val (.int u1), .val (.long u2), .second, .val (.int u3), .unset, .unset, .unset] [(.long (8 : Int64)), (.long (u1.toInt64))])) _
        refine XS.ladd X0.here hx rfl (hb hby at_11) rfl ?_
        show Steps p.tables e below (s₁.setTop (mkF m 12 #[.val (.int u1), .val (.long u2), .second, .val (.int u3), .unset, .unset, .unset] [(.long ((u1.toInt64) + (8 : Int64)))])) _
        refine XS.iloadN X0.here hx rfl (hb hby at_12) rfl ?_
        show Steps p.tables e below (s₁.setTop (mkF m 13 #[.val (.int u1), .val (.long u2), .second, .val (.int u3), .unset, .unset, .unset] [(.int u3), (.long ((u1.toInt64) + (8 : Int64)))])) _
        refine XS.iconst X0.here hx rfl (hb hby at_13) ?_
        show Steps p.tables e below (s₁.setTop (mkF m 14 #[.val (.int u1), .val (.long u2), .second, .val (.int u3), .unset, .unset, .unset] [(.int (1 : Int32)), (.int u3), (.long ((u1.toInt64) + (8 : Int64)))])) _
        refine XS.ishr X0.here hx rfl (hb hby at_14) rfl ?_
        show Steps p.tables e below (s₁.setTop (mkF m 15 #[.val (.int u1), .val (.long u2), .second, .val (.int u3), .unset, .unset, .unset] [(.int (u3 >>> ((1 : Int32) &&& 31))), (.long ((u1.toInt64) + (8 : Int64)))])) _
        refine XS.bipush X0.here hx rfl (hb hby at_15) ?_
        show Steps p.tables e below (s₁.setTop (mkF m 17 #[.val (.int u1), .val (.long u2), .second, .val (.int u3), .unset, .unset, .unset] [(.int (7 : Int32)), (.int (u3 >>> ((1 : Int32) &&& 31))), (.long ((u1.toInt64) + (8 : Int64)))])) _
        refine XS.iand X0.here hx rfl (hb hby at_17) rfl ?_
        show Steps p.tables e below (s₁.setTop (mkF m 18 #[.val (.int u1), .val (.long u2), .second, .val (.int u3), .unset, .unset, .unset] [(.int ((u3 >>> ((1 : Int32) &&& 31)) &&& (7 : Int32))), (.long ((u1.toInt64) + (8 : Int64)))])) _
        refine XS.iconst X0.here hx rfl (hb hby at_18) ?_
        show Steps p.tables e below (s₁.setTop (mkF m 19 #[.val (.int u1), .val (.long u2), .second, .val (.int u3), .unset, .unset, .unset] [(.int (4 : Int32)), (.int ((u3 >>> ((1 : Int32) &&& 31)) &&& (7 : Int32))), (.long ((u1.toInt64) + (8 : Int64)))])) _
        refine XS.isub X0.here hx rfl (hb hby at_19) rfl ?_
        show Steps p.tables e below (s₁.setTop (mkF m 20 #[.val (.int u1), .val (.long u2), .second, .val (.int u3), .unset, .unset, .unset] [(.int (((u3 >>> ((1 : Int32) &&& 31)) &&& (7 : Int32)) - (4 : Int32))), (.long ((u1.toInt64) + (8 : Int64)))])) _
        refine XS.i2l X0.here hx rfl (hb hby at_20) rfl ?_
        show Steps p.tables e below (s₁.setTop (mkF m 21 #[.val (.int u1), .val (.long u2), .second, .val (.int u3), .unset, .unset, .unset] [(.long ((((u3 >>> ((1 : Int32) &&& 31)) &&& (7 : Int32)) - (4 : Int32)).toInt64)), (.long ((u1.toInt64) + (8 : Int64)))])) _
        refine XS.ladd X0.here hx rfl (hb hby at_21) rfl ?_
        show Steps p.tables e below (s₁.setTop (mkF m 22 #[.val (.int u1), .val (.long u2), .second, .val (.int u3), .unset, .unset, .unset] [(.long (((u1.toInt64) + (8 : Int64)) + ((((u3 >>> ((1 : Int32) &&& 31)) &&& (7 : Int32)) - (4 : Int32)).toInt64)))])) _
        refine XS.lstore X0.here hx rfl (hb hby at_22) rfl (l' := #[.val (.int u1), .val (.long u2), .second, .val (.int u3), .val (.long (((u1.toInt64) + (8 : Int64)) + ((((u3 >>> ((1 : Int32) &&& 31)) &&& (7 : Int32)) - (4 : Int32)).toInt64))), .second, .unset]) rfl ?_
        show Steps p.tables e below (s₁.setTop (mkF m 24 #[.val (.int u1), .val (.long u2), .second, .val (.int u3), .val (.long (((u1.toInt64) + (8 : Int64)) + ((((u3 >>> ((1 : Int32) &&& 31)) &&& (7 : Int32)) - (4 : Int32)).toInt64))), .second, .unset] [])) _
        refine XS.goto X0.here hx rfl (pc0 := 24) (pc' := 48) rfl (hb hby at_24) (by decide) (by decide) ?_
        show Steps p.tables e below (s₁.setTop (mkF m 48 #[.val (.int u1), .val (.long u2), .second, .val (.int u3), .val (.long (((u1.toInt64) + (8 : Int64)) + ((((u3 >>> ((1 : Int32) &&& 31)) &&& (7 : Int32)) - (4 : Int32)).toInt64))), .second, .unset] [])) _
        exact k)
      exact ⟨_, own_a u1 u3, P1011⟩
  have P1012 : ∀ t, Steps p.tables e below (s₁.setTop (mkF m 49 #[.val (.int u1), .val (.long u2), .second, .val (.int u3), .val (.long r1), .second, .unset] [(.int u1)])) t → Steps p.tables e below (s₁.setTop (entryFrame m #[(.int u1), (.long u2), (.int u3)] maxLocals)) t := fun t k => P1007 t (by
    refine XS.iloadN X0.here hx rfl (hb hby at_48) rfl ?_
    show Steps p.tables e below (s₁.setTop (mkF m 49 #[.val (.int u1), .val (.long u2), .second, .val (.int u3), .val (.long r1), .second, .unset] [(.int u1)])) _
    exact k)
  obtain ⟨x1, hx1, P1013⟩ : ∃ (x1 : Int32), (((0 : Int32) < u1 ∧ ¬ (r1 < u1.toInt64 + (8 : Int64)) ∧ x1 = 1) ∨ (¬ ((0 : Int32) < u1 ∧ ¬ (r1 < u1.toInt64 + (8 : Int64))) ∧ x1 = 0)) ∧ (∀ t, Steps p.tables e below (s₁.setTop (mkF m 69 #[.val (.int u1), .val (.long u2), .second, .val (.int u3), .val (.long r1), .second, .unset] [(.int x1)])) t → Steps p.tables e below (s₁.setTop (entryFrame m #[(.int u1), (.long u2), (.int u3)] maxLocals)) t) := by
    by_cases h49 : (0 : Int32) < u1
    · have P1014 : ∀ t, Steps p.tables e below (s₁.setTop (mkF m 61 #[.val (.int u1), .val (.long u2), .second, .val (.int u3), .val (.long r1), .second, .unset] [(.int (lcmpW ((u1.toInt64) + (8 : Int64)) r1))])) t → Steps p.tables e below (s₁.setTop (entryFrame m #[(.int u1), (.long u2), (.int u3)] maxLocals)) t := fun t k => P1012 t (by
        refine XS.ifNo X0.here hx rfl (hb hby at_49) rfl ((if0 _ _).trans (tlt h49).2.2.2) ?_
        show Steps p.tables e below (s₁.setTop (mkF m 52 #[.val (.int u1), .val (.long u2), .second, .val (.int u3), .val (.long r1), .second, .unset] [])) _
        refine XS.iloadN X0.here hx rfl (hb hby at_52) rfl ?_
        show Steps p.tables e below (s₁.setTop (mkF m 53 #[.val (.int u1), .val (.long u2), .second, .val (.int u3), .val (.long r1), .second, .unset] [(.int u1)])) _
        refine XS.i2l X0.here hx rfl (hb hby at_53) rfl ?_
        show Steps p.tables e below (s₁.setTop (mkF m 54 #[.val (.int u1), .val (.long u2), .second, .val (.int u3), .val (.long r1), .second, .unset] [(.long (u1.toInt64))])) _
        refine X0.ldc2Long hx hown (mvT hZ (hw _ (List.mem_of_getElem? (i := 0) rfl))) (g := (mkF m 54 #[.val (.int u1), .val (.long u2), .second, .val (.int u3), .val (.long r1), .second, .unset] [(.long (u1.toInt64))])) rfl (hb hby at_54) _ ?_
        show Steps p.tables e below (s₁.setTop (mkF m 57 #[.val (.int u1), .val (.long u2), .second, .val (.int u3), .val (.long r1), .second, .unset] [(.long (8 : Int64)), (.long (u1.toInt64))])) _
        refine XS.ladd X0.here hx rfl (hb hby at_57) rfl ?_
        show Steps p.tables e below (s₁.setTop (mkF m 58 #[.val (.int u1), .val (.long u2), .second, .val (.int u3), .val (.long r1), .second, .unset] [(.long ((u1.toInt64) + (8 : Int64)))])) _
        refine XS.lload X0.here hx rfl (hb hby at_58) rfl ?_
        show Steps p.tables e below (s₁.setTop (mkF m 60 #[.val (.int u1), .val (.long u2), .second, .val (.int u3), .val (.long r1), .second, .unset] [(.long r1), (.long ((u1.toInt64) + (8 : Int64)))])) _
        refine XS.lcmp X0.here hx rfl (hb hby at_60) rfl ?_
        show Steps p.tables e below (s₁.setTop (mkF m 61 #[.val (.int u1), .val (.long u2), .second, .val (.int u3), .val (.long r1), .second, .unset] [(.int (lcmpW ((u1.toInt64) + (8 : Int64)) r1))])) _
        exact k)
      by_cases h61 : r1 < ((u1.toInt64) + (8 : Int64))
      · have P1015 : ∀ t, Steps p.tables e below (s₁.setTop (mkF m 69 #[.val (.int u1), .val (.long u2), .second, .val (.int u3), .val (.long r1), .second, .unset] [(.int (0 : Int32))])) t → Steps p.tables e below (s₁.setTop (entryFrame m #[(.int u1), (.long u2), (.int u3)] maxLocals)) t := fun t k => P1014 t (by
          refine XS.ifYes X0.here hx rfl (pc0 := 61) (pc' := 68) rfl (hb hby at_61) rfl ((if0 _ _).trans (tlt ((lw_gt ((u1.toInt64) + (8 : Int64)) r1).mpr h61)).2.2.1) (by decide) (by decide) ?_
          show Steps p.tables e below (s₁.setTop (mkF m 68 #[.val (.int u1), .val (.long u2), .second, .val (.int u3), .val (.long r1), .second, .unset] [])) _
          refine XS.iconst X0.here hx rfl (hb hby at_68) ?_
          show Steps p.tables e below (s₁.setTop (mkF m 69 #[.val (.int u1), .val (.long u2), .second, .val (.int u3), .val (.long r1), .second, .unset] [(.int (0 : Int32))])) _
          exact k)
        exact ⟨_, Or.inr ⟨fun y => y.2 h61, rfl⟩, P1015⟩
      · have P1016 : ∀ t, Steps p.tables e below (s₁.setTop (mkF m 69 #[.val (.int u1), .val (.long u2), .second, .val (.int u3), .val (.long r1), .second, .unset] [(.int (1 : Int32))])) t → Steps p.tables e below (s₁.setTop (entryFrame m #[(.int u1), (.long u2), (.int u3)] maxLocals)) t := fun t k => P1014 t (by
          refine XS.ifNo X0.here hx rfl (hb hby at_61) rfl ((if0 _ _).trans (flt (fun q => h61 ((lw_gt ((u1.toInt64) + (8 : Int64)) r1).mp q))).2.2.1) ?_
          show Steps p.tables e below (s₁.setTop (mkF m 64 #[.val (.int u1), .val (.long u2), .second, .val (.int u3), .val (.long r1), .second, .unset] [])) _
          refine XS.iconst X0.here hx rfl (hb hby at_64) ?_
          show Steps p.tables e below (s₁.setTop (mkF m 65 #[.val (.int u1), .val (.long u2), .second, .val (.int u3), .val (.long r1), .second, .unset] [(.int (1 : Int32))])) _
          refine XS.goto X0.here hx rfl (pc0 := 65) (pc' := 69) rfl (hb hby at_65) (by decide) (by decide) ?_
          show Steps p.tables e below (s₁.setTop (mkF m 69 #[.val (.int u1), .val (.long u2), .second, .val (.int u3), .val (.long r1), .second, .unset] [(.int (1 : Int32))])) _
          exact k)
        exact ⟨_, Or.inl ⟨h49, h61, rfl⟩, P1016⟩
    · have P1017 : ∀ t, Steps p.tables e below (s₁.setTop (mkF m 69 #[.val (.int u1), .val (.long u2), .second, .val (.int u3), .val (.long r1), .second, .unset] [(.int (0 : Int32))])) t → Steps p.tables e below (s₁.setTop (entryFrame m #[(.int u1), (.long u2), (.int u3)] maxLocals)) t := fun t k => P1012 t (by
        refine XS.ifYes X0.here hx rfl (pc0 := 49) (pc' := 68) rfl (hb hby at_49) rfl ((if0 _ _).trans (flt h49).2.2.2) (by decide) (by decide) ?_
        show Steps p.tables e below (s₁.setTop (mkF m 68 #[.val (.int u1), .val (.long u2), .second, .val (.int u3), .val (.long r1), .second, .unset] [])) _
        refine XS.iconst X0.here hx rfl (hb hby at_68) ?_
        show Steps p.tables e below (s₁.setTop (mkF m 69 #[.val (.int u1), .val (.long u2), .second, .val (.int u3), .val (.long r1), .second, .unset] [(.int (0 : Int32))])) _
        exact k)
      exact ⟨_, Or.inr ⟨fun y => h49 y.1, rfl⟩, P1017⟩
  obtain ⟨_, _, ⟨T1018, L1018, k1018, n1018⟩, -, X1018, ⟨Lc1018, hQ1018, l1018, y1018, z1018⟩, st1018⟩ := Jvm.LawKit.callS X0 hx (y := (⟨"com/example/statran/statran/storage/RecordFrame", "fits", "(IJ)Z"⟩ : MethodName)) hown (mvT hZ (hw _ (List.mem_of_getElem? (i := 1) rfl))) (mvT hZ (hw _ (List.mem_of_getElem? (i := 2) rfl))) (mvT hZ (hw _ (List.mem_of_getElem? (i := 3) rfl))) (mvT hZ (hw _ (List.mem_of_getElem? (i := 4) rfl))) (by decide) (backOf (W := 0) (rm_fits l Z a0 hw [] u1 r1 h0 n0 Z0 ) hZ (hw _ (List.mem_of_getElem? (i := 4) rfl)) (hw _ (List.mem_of_getElem? (i := 3) rfl)) (by decide) (by decide)) (g := (mkF m 74 #[.val (.int u1), .val (.long u2), .second, .val (.int u3), .val (.long r1), .second, .val (.int x1)] [(.long r1), (.int u1)])) rfl (by rw [hml]; rfl) (argsL := [(.int u1), (.long r1)]) (rest := []) (lenOf pd_0 rfl) rfl (by show 2 * 0 + _ ≤ _; exact Nat.le_of_eq rfl) (hb hby at_74) (fun _ _ => ⟨rfl, e0, (by decide : 0 + 0 ≤ _), (by decide : 0 + 0 ≤ _)⟩)
  dsimp only [Pt.U, Pt.locs, Pt.cells, Pt.slots] at X1018 l1018 y1018 z1018 st1018 hQ1018
  subst l1018 y1018 z1018
  obtain ⟨f1, rfl, N1018q, e74, hf1⟩ := hQ1018
  have N1018 := Fr.app N0 N1018q
  have P1019 : ∀ t, Steps p.tables e below (T1018.setTop (mkF m 87 #[.val (.int u1), .val (.long u2), .second, .val (.int u3), .val (.long r1), .second, .val (.int x1)] [(.int (1 : Int32))])) t → Steps p.tables e below (s₁.setTop (entryFrame m #[(.int u1), (.long u2), (.int u3)] maxLocals)) t := fun t k => P1013 t (by
    refine XS.istore X0.here hx rfl (hb hby at_69) rfl (l' := #[.val (.int u1), .val (.long u2), .second, .val (.int u3), .val (.long r1), .second, .val (.int x1)]) rfl ?_
    show Steps p.tables e below (s₁.setTop (mkF m 71 #[.val (.int u1), .val (.long u2), .second, .val (.int u3), .val (.long r1), .second, .val (.int x1)] [])) _
    refine XS.iloadN X0.here hx rfl (hb hby at_71) rfl ?_
    show Steps p.tables e below (s₁.setTop (mkF m 72 #[.val (.int u1), .val (.long u2), .second, .val (.int u3), .val (.long r1), .second, .val (.int x1)] [(.int u1)])) _
    refine XS.lload X0.here hx rfl (hb hby at_72) rfl ?_
    show Steps p.tables e below (s₁.setTop (mkF m 74 #[.val (.int u1), .val (.long u2), .second, .val (.int u3), .val (.long r1), .second, .val (.int x1)] [(.long r1), (.int u1)])) _
    refine st1018 _ ?_
    show Steps p.tables e below (T1018.setTop (mkF m 77 #[.val (.int u1), .val (.long u2), .second, .val (.int u3), .val (.long r1), .second, .val (.int x1)] [(.int f1)])) _
    refine XS.iload X1018.here hx rfl (hb hby at_77) rfl ?_
    show Steps p.tables e below (T1018.setTop (mkF m 79 #[.val (.int u1), .val (.long u2), .second, .val (.int u3), .val (.long r1), .second, .val (.int x1)] [(.int x1), (.int f1)])) _
    refine XS.icmpNo X1018.here hx rfl (hb hby at_79) rfl (teq (own_fin hr1 hf1 hx1)).2 ?_
    show Steps p.tables e below (T1018.setTop (mkF m 82 #[.val (.int u1), .val (.long u2), .second, .val (.int u3), .val (.long r1), .second, .val (.int x1)] [])) _
    refine XS.iconst X1018.here hx rfl (hb hby at_82) ?_
    show Steps p.tables e below (T1018.setTop (mkF m 83 #[.val (.int u1), .val (.long u2), .second, .val (.int u3), .val (.long r1), .second, .val (.int x1)] [(.int (1 : Int32))])) _
    refine XS.goto X1018.here hx rfl (pc0 := 83) (pc' := 87) rfl (hb hby at_83) (by decide) (by decide) ?_
    show Steps p.tables e below (T1018.setTop (mkF m 87 #[.val (.int u1), .val (.long u2), .second, .val (.int u3), .val (.long r1), .second, .val (.int x1)] [(.int (1 : Int32))])) _
    exact k)
  obtain ⟨fs, hr, hrun, hended, hW, hsame⟩ := X1018.leave (v := some (.int (1 : Int32))) (fun h => by rw [Bd.returns] at h; cases h)
  refine ⟨_, _, P1019 _ ?_, hrun, hended, _, _, rfl, ?_, ⟨_, rfl⟩, hW, hsame.mono (by decide) (by decide)⟩
  · exact retN X1018 hx (t := .boolean) Bd.returns (by simp) (hb hby at_87) hr
  · show Q_law Z u1 u2 u3 h0 n0 _ T1018.heap _
    rw [e74]
    exact ⟨rfl, N1018⟩
set_option maxRecDepth 65536 in
set_option maxHeartbeats 40000000 in
theorem comes_1 {Post : Tables → Env → Array Value → State → Outcome → State → Prop} (hpost : ∀ tb e args s v u, (limb_1_1.after args s (.returned v) u = true ∧ limb_1_2.after args s (.returned v) u = true ∧ True) → FrameEnd s (.returned v) u (Jvm.fieldLocs frame_1_writes args s ++ Jvm.arrayLocs frame_1_arrays args s ++ Jvm.staticLocs frame_1_statics s) 0 0 → Post tb e args s (.returned v) u) :
    ArmFor flags0 classFile x code maxLocals ret World_1 tables_1 room_1 Calls_1 rest_1 Pre_1 Post := by
  intro l hfl _ _ p e ha hc hk s m args below hf hA hF happ hP
  obtain ⟨hcalls, hrest, hpre⟩ := hP
  obtain ⟨-, -, -, hnamed, -, -, -, hat⟩ := (Spec.applies_iff hf).mp happ
  obtain ⟨hg, hn⟩ := and_e (Cond.before_iff.mp (show (Jvm.Cond.and given_1 narrow_1).before args s = true from hpre))
  obtain ⟨g1, g2⟩ := and_e hg
  obtain ⟨g3, g4⟩ := and_e g2
  obtain ⟨g5, g6⟩ := and_e g4
  obtain ⟨w0, w1, w2, rfl⟩ : ∃ w0 w1 w2 : Value, args = #[w0, w1, w2] := by
    have hs : args.size = 3 := by simpa [Cond.value, given_1] using g1
    obtain ⟨L⟩ := args
    match L, hs with
    | [w0, w1, w2], _ => exact ⟨w0, w1, w2, rfl⟩
  have hw := fun d (hd : d ∈ tables_1) => atoms_spec (ws := Jvm.Cond.code x code maxLocals ret :: tables_1) hat d (List.mem_cons_of_mem _ hd)
  have hfit : Fit s := fun {y c} hc i hi => by
    obtain ⟨ha, rfl⟩ := Array.getElem?_eq_some_iff.mp hc
    have q := List.all_eq_true.mp ((Array.all_eq_true_iff_forall_mem.mp hF) _ (Array.getElem_mem ha)) i (List.mem_range.mpr hi)
    simpa [Array.getElem?_eq_getElem hi] using q
  obtain ⟨i0, ei0⟩ := is_v g3
  obtain rfl : w0 = (.int i0) := Option.some.inj ei0
  obtain ⟨i1, ei1⟩ := isL_v g5
  obtain rfl : w1 = (.long i1) := Option.some.inj ei1
  obtain ⟨i2, ei2⟩ := is_v g6
  obtain rfl : w2 = (.int i2) := Option.some.inj ei2
  obtain ⟨n, o, h1, h2, h3, _, L, rfl, ⟨rfl, N⟩, hq⟩ := rm_law l s _ hw tables_1 i0 i1 i2 s.heap s.heap.size (Nat.le_refl _)  p e ha hc hk s m _ below hf ((Spec.applies_iff_loose hf).mp happ).1 ⟨rfl, State.Warmed39.refl s, rfl⟩ trivial
  refine ⟨n, _, h1, h2, h3, hpost _ _ _ _ _ _ ⟨Cond.after_iff.mpr rfl, Cond.after_iff.mpr (eq_i res_at (Term.int_eval (1)) rfl), trivial⟩ ⟨hq.1, hq.2.1, (hq.2.2.sift fun y hy => Or.inr (N y hy)).mono (by decide) (by decide)⟩⟩
theorem main_1_1 : Claimed_1_1 := comes_1 fun _ _ _ _ _ _ h hF => ⟨h.1, hF⟩
theorem main_1_2 : Claimed_1_2 := comes_1 fun _ _ _ _ _ _ h hF => ⟨h.2.1, hF⟩
end Jvm.Pilot.@@N@@
namespace Jvm.Pilot.@@N@@
open Jvm Jvm.ClassFile Sem Op Lib Jvm.Free Jvm.Stand Jvm.Pilot.@@N@@.Jvm.D
/-! MADE BY PROGRAM (witnessworld.py) out of the Statement's table words and the real class files: 9 classes; the members and pool entries that the words name. The judged class is class 1, her method 1. -/
namespace start1
open Jvm.ClassFile
def u (s : String) : CpInfo := .utf8 (stringToUtf16 s)
/-- a pool by its gaps: so many unusable entries, then the entry; so many at the end -/
def gap : Nat → List CpInfo → List CpInfo
  | 0, r => r
  | n + 1, r => .unusable :: gap n r
def poolList (es : List (Nat × CpInfo)) (last : Nat) : List CpInfo := es.foldr (fun e r => gap e.1 (e.2 :: r)) (gap last [])
def pool (es : List (Nat × CpInfo)) (last : Nat) : Array CpInfo := ⟨poolList es last⟩
def fileOf (pool : Array CpInfo) (this : Nat) (attrs : Array Attribute := #[]) (ms : Array MethodInfo := #[]) (fl : Nat := 33) (sup : Nat := 0) (ifs : Array Nat := #[]) (fds : Array FieldInfo := #[]) : ClassFile where
  minorVersion := 0
  majorVersion := 65
  constantPool := pool
  accessFlags := fl
  thisClass := this
  superClass := sup
  interfaces := ifs
  fields := fds
  methods := ms
  attributes := attrs
def plain (name : String) (sup : Option ClassId) : Class where
  name := name
  kind := .ordinary
  loader := none
  accessFlags := 33
  super := sup
  interfaces := #[]
  cf := none
  fields := #[]
  methods := #[]
  instanceTypes := #[]
  staticTypes := #[]
  resolved := #[]
  callSites := []
  init := .initialized
  statics := none
  mirror := none

def pool0 : Array CpInfo := pool [(5, u "<init>"), (0, u "()V"), (1, .class_ 10), (1, u "java/lang/Object")] 113

def k0m0 : Method := { name := "<init>", desc := "()V", sig := { parameters := [], returnType := none }, accessFlags := 1, code := none }
/-- java/lang/Object -/
def k0 : Class := { plain "java/lang/Object" none with
  accessFlags := 33
  interfaces := #[]
  cf := some (fileOf pool0 8 #[] #[{ accessFlags := 1, nameIndex := 5, descriptorIndex := 6, attributes := #[] }] 33 0 #[] #[])
  fields := #[]
  methods := #[k0m0]
  instanceTypes := #[]
  staticTypes := #[]
  resolved := Array.replicate 124 none
  statics := none }

def pool1 : Array CpInfo := pool [(2, .class_ 4), (1, u "java/lang/Object"), (0, u "<init>"), (0, u "()V"), (0, .long 8), (3, .long 9223372036854775816), (1, .long 9223372036854775807), (1, .methodref 16 17), (0, .class_ 18), (0, .nameAndType 19 20), (0, u "com/example/statran/statran/storage/RecordFrame"), (0, u "fits"), (0, u "(IJ)Z"), (0, .class_ 22), (0, u "com/example/statran/statran/storage/RecordFrameFitsPinLaw"), (2, u "law"), (0, u "(IJI)Z")] 3

def k1m0 : Method := { name := "<init>", desc := "()V", sig := { parameters := [], returnType := none }, accessFlags := 1, code := none }
def k1c1 : Code := { maxStack := 4, maxLocals := 7, code := code, exceptionTable := #[], attributes := #[] }
def k1m1 : Method := { name := "law", desc := "(IJI)Z", sig := { parameters := [.int, .long, .int], returnType := some .boolean }, accessFlags := 9, code := some k1c1 }
/-- com/example/statran/statran/storage/RecordFrameFitsPinLaw -/
def k1 : Class := { plain "com/example/statran/statran/storage/RecordFrameFitsPinLaw" (some 0) with
  accessFlags := 49
  interfaces := #[]
  cf := some (fileOf pool1 21 #[] #[{ accessFlags := 1, nameIndex := 5, descriptorIndex := 6, attributes := #[] }, { accessFlags := 9, nameIndex := 25, descriptorIndex := 26, attributes := #[] }] 49 2 #[] #[])
  fields := #[]
  methods := #[k1m0, k1m1]
  instanceTypes := #[]
  staticTypes := #[]
  resolved := Array.replicate 30 none
  statics := none }

def pool2 : Array CpInfo := pool [(2, .class_ 4), (1, u "java/lang/Object"), (0, u "<init>"), (0, u "()V"), (7, .class_ 15), (0, u "com/example/statran/statran/storage/RecordFrame"), (17, .long 8), (13, .class_ 49), (1, u "com/example/statran/statran/storage/RecordFrame$ZeroBytes"), (6, u "HEADER"), (0, u "I"), (2, u "POLYNOMIAL"), (0, u "X_TO_THE_0"), (5, u "fits"), (0, u "(IJ)Z")] 10

def k2m0 : Method := { name := "<init>", desc := "()V", sig := { parameters := [], returnType := none }, accessFlags := 2, code := none }
def k2c1 : Code := { maxStack := 6, maxLocals := 3, code := prog_206_method_3_code, exceptionTable := #[], attributes := #[] }
def k2m1 : Method := { name := "fits", desc := "(IJ)Z", sig := { parameters := [.int, .long], returnType := some .boolean }, accessFlags := 8, code := some k2c1 }
/-- com/example/statran/statran/storage/RecordFrame -/
def k2 : Class := { plain "com/example/statran/statran/storage/RecordFrame" (some 0) with
  accessFlags := 48
  interfaces := #[]
  cf := some (fileOf pool2 14 #[.nestMembers #[47]] #[{ accessFlags := 2, nameIndex := 5, descriptorIndex := 6, attributes := #[] }, { accessFlags := 8, nameIndex := 67, descriptorIndex := 68, attributes := #[] }] 48 2 #[] #[{ accessFlags := 24, nameIndex := 56, descriptorIndex := 57, attributes := #[] }, { accessFlags := 26, nameIndex := 60, descriptorIndex := 57, attributes := #[] }, { accessFlags := 26, nameIndex := 61, descriptorIndex := 57, attributes := #[] }])
  fields := #[{ name := "HEADER", type := .int, accessFlags := 24, slot := 0, constantValue := 0 }, { name := "POLYNOMIAL", type := .int, accessFlags := 26, slot := 1, constantValue := 0 }, { name := "X_TO_THE_0", type := .int, accessFlags := 26, slot := 2, constantValue := 0 }]
  methods := #[k2m0, k2m1]
  instanceTypes := #[]
  staticTypes := #[.int, .int, .int]
  resolved := Array.replicate 79 none
  statics := none }

def pool3 : Array CpInfo := pool [(1, u "java/lang/Cloneable"), (0, .class_ 1), (0, u "java/lang/Object"), (0, .class_ 3)] 3

/-- java/lang/Cloneable -/
def k3 : Class := { plain "java/lang/Cloneable" (some 0) with
  accessFlags := 1537
  interfaces := #[]
  cf := some (fileOf pool3 2 #[] #[] 1537 4 #[] #[])
  fields := #[]
  methods := #[]
  instanceTypes := #[]
  staticTypes := #[]
  resolved := Array.replicate 8 none
  statics := none }

def pool4 : Array CpInfo := pool [(1, u "java/io/Serializable"), (0, .class_ 1), (0, u "java/lang/Object"), (0, .class_ 3)] 3

/-- java/io/Serializable -/
def k4 : Class := { plain "java/io/Serializable" (some 0) with
  accessFlags := 1537
  interfaces := #[]
  cf := some (fileOf pool4 2 #[] #[] 1537 4 #[] #[])
  fields := #[]
  methods := #[]
  instanceTypes := #[]
  staticTypes := #[]
  resolved := Array.replicate 8 none
  statics := none }

/-- the primitive byte -/
def k5 : Class := { plain "byte" none with kind := .primitive 'B', accessFlags := 0x411 }
/-- [B -/
def k6 : Class := { plain "[B" (some 0) with kind := .array 5 .byte, interfaces := #[3, 4], accessFlags := 1041 }

/-- the primitive int -/
def k7 : Class := { plain "int" none with kind := .primitive 'I', accessFlags := 0x411 }
/-- [I -/
def k8 : Class := { plain "[I" (some 0) with kind := .array 7 .int, interfaces := #[3, 4], accessFlags := 1041 }

def heap : Heap := #[]
def classes : Array Class := #[k0, k1, k2, k3, k4, k5, k6, k7, k8]
def interned : List (Array UInt16 × Addr) := []
def slotsUsed : Nat := 0
def theMethod : MethodId := ⟨1, 1⟩
def args0 : Array Value := #[.int 5, .long 300, .int 7]
def aboutOver (below : List Frame) : State where
  vm := { classes := classes, interned := interned.toArray }
  heap := heap
  slotsUsed := slotsUsed
  threads := #[{ frames := .invoking theMethod args0 :: below }]
def below0 : List Frame := [.native { method := ⟨0, 0⟩, args := #[] }]
def about1 : State := aboutOver below0
def p0 : Program := .bare "" "" ""
def e0 : Env := launch0.env 0 0 0
theorem w_frames : about1.frames = Frame.invoking theMethod args0 :: below0 := rfl
set_option maxRecDepth 65536 in
theorem w_args : argsFit about1.vm theMethod args0 = true := by decide +kernel
set_option maxRecDepth 65536 in
theorem w_heap : heapFits about1 = true := by decide +kernel
set_option maxRecDepth 65536 in
theorem w_runnable : about1.curStatus? = some .runnable := by decide +kernel
set_option maxRecDepth 65536 in
theorem w_alone : about1.alone = true := by decide +kernel
set_option maxRecDepth 65536 in
theorem w_named : about1.methodNamed? x = some theMethod := by decide +kernel
set_option maxRecDepth 65536 in
theorem w_hears : about1.hears theMethod below0 = true := by decide +kernel
set_option maxRecDepth 65536 in
theorem w_ripe : about1.ripe theMethod args0 below0 = true := by decide +kernel
theorem w_running : about1.status = .running := rfl
set_option maxRecDepth 65536 in
theorem w_room : about1.hasRoom e0.platform room_1 = true :=
  launch0.hasRoom_least _ room_1 (by decide +kernel) (by decide +kernel) (by decide +kernel) (by decide +kernel) (by decide +kernel) (by decide +kernel)
theorem allAtoms_all (ts : List Jvm.Cond) (a : Array Jvm.Value) (st : Jvm.State) : (allAtoms ts).before a st = ts.all (fun c => c.before a st) := by
  induction ts with
  | nil => rfl
  | cons c t ih =>
    show (Jvm.Cond.and c (allAtoms t)).before a st = _
    rw [Jvm.Cond.before_and, ih, List.all_cons]
def words1 : List Jvm.Cond := Jvm.Cond.code x code maxLocals ret :: tables_1
/-- a 'code' word, met by the world's own term for the bytes: nothing is compared byte by byte -/
theorem code_word {y : MethodName} {bytes : ByteArray} {mx : Nat} {rt : Option FieldType} {a : Array Value} {s : State} {m : MethodId} {meth : Method} {c : Code} (h1 : s.methodNamed? y = some m) (h2 : s.vm.method? m = some meth) (h3 : meth.code = some c) (h4 : c.code = bytes)
    (h5 : (c.maxLocals == mx && c.exceptionTable.isEmpty && decide (c.maxStack ≤ mostOperands) && decide (meth.sig.returnType = rt) && !meth.locks && decide (parseMethodDescriptor y.desc = some meth.sig)) = true) : (Jvm.Cond.code y bytes mx rt).before a s = true := by
  simp only [Bool.and_eq_true, beq_iff_eq, Bool.not_eq_true', decide_eq_true_eq] at h5
  obtain ⟨⟨⟨⟨⟨g1, g2⟩, g3⟩, g4⟩, g5⟩, g6⟩ := h5
  simp [Cond.before, Cond.holds, Cond.value, h1, h2, h3, h4, g1, g2, g3, g4, g5, g6]
def isCode : Jvm.Cond → Bool
  | .code _ _ _ _ => true
  | _ => false
theorem all_split {L : List Jvm.Cond} {P : Jvm.Cond → Bool} (h1 : L.all (fun c => isCode c || P c) = true) (h2 : ∀ c ∈ L.filter isCode, P c = true) : L.all P = true := by
  refine List.all_eq_true.mpr fun c hc => ?_
  have h := List.all_eq_true.mp h1 c hc
  rcases Bool.eq_false_or_eq_true (isCode c) with hi | hi
  · exact h2 c (List.mem_filter.mpr ⟨hc, hi⟩)
  · simpa [hi] using h
set_option maxRecDepth 65536 in
theorem w_c0 : (Jvm.Cond.code x code maxLocals ret).before args0 about1 = true := code_word (m := ⟨1, 1⟩) (meth := k1m1) (c := k1c1) (by decide +kernel) rfl rfl rfl (by decide +kernel)
set_option maxRecDepth 65536 in
theorem w_c1 : (Jvm.Cond.code ({ cls := "com/example/statran/statran/storage/RecordFrame", name := "fits", desc := "(IJ)Z" } : Jvm.MethodName) prog_206_method_3_code (3 : Nat) (Option.some Jvm.ClassFile.FieldType.boolean)).before args0 about1 = true := code_word (m := ⟨2, 1⟩) (meth := k2m1) (c := k2c1) (by decide +kernel) rfl rfl rfl (by decide +kernel)
def codes1 : List Jvm.Cond := [Jvm.Cond.code x code maxLocals ret, Jvm.Cond.code ({ cls := "com/example/statran/statran/storage/RecordFrame", name := "fits", desc := "(IJ)Z" } : Jvm.MethodName) prog_206_method_3_code (3 : Nat) (Option.some Jvm.ClassFile.FieldType.boolean)]
set_option maxRecDepth 65536 in
theorem codes_eq : words1.filter isCode = codes1 := rfl
theorem w_codes : ∀ c ∈ words1.filter isCode, c.before args0 about1 = true := by
  rw [codes_eq]
  intro c hc
  simp only [codes1, List.mem_cons, List.not_mem_nil, or_false] at hc
  rcases hc with rfl | rfl
  · exact w_c0
  · exact w_c1
set_option maxRecDepth 65536 in
theorem w_t1 : words1.all (fun c => isCode c || c.before args0 about1) = true := by decide +kernel
theorem w_tables : (allAtoms (Jvm.Cond.code x code maxLocals ret :: tables_1)).before args0 about1 = true := by
  rw [allAtoms_all]
  show words1.all (fun c => c.before args0 about1) = true
  refine all_split ?_ w_codes
  rw [w_t1]
set_option maxRecDepth 65536 in
theorem w_case : (Jvm.Cond.and given_1 narrow_1).before args0 about1 = true := by decide +kernel
theorem w_applies : (headSpec (Jvm.Cond.code x code maxLocals ret :: tables_1) room_1).applies x e0.platform about1 = true :=
  (Spec.applies_iff w_frames).mpr ⟨w_running, w_runnable, w_alone, w_named, w_hears, w_ripe, w_room, w_tables⟩
theorem atStart : AtStart classFile x code maxLocals ret World_1 tables_1 room_1 Calls_1 rest_1 Pre_1 launch0 p0 e0 about1 theMethod args0 below0 :=
  ⟨lists_1, trivial, launch0.admits_env _ _ _, launch0.least_env, fairChoices_fair.cas, fairChoices_fair.clock, w_frames, w_args, w_heap, w_applies, trivial, trivial, w_case⟩
end start1
theorem witness_1 : WitnessClaimed_1 := ⟨start1.p0, start1.e0, start1.about1, start1.theMethod, start1.args0, start1.below0, start1.atStart⟩
end Jvm.Pilot.@@N@@
