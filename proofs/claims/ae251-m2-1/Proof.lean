import JvmDerived
import JvmDerived.Pilot.@@N@@Statement
import JvmDerived.Pilot.@@N@@Code
set_option linter.unusedVariables false
set_option linter.unusedSimpArgs false
namespace Jvm.RoadKit
open Sem ClassFile Op Lib Jvm.Stand Jvm.Free Jvm.LawKit
section New
variable {p : Program} {l : Launch} {e : Env} {R : Room} {s : State} {m : MethodId} {args : Array Value} {below : List Frame} {meth : Method} {c : Code} {T : State} {locs : List Loc} {cells slots : Nat}
theorem retI (X : Stand p l e R s m args below meth c T locs cells slots) (hx : p.tables.exec = Jvm.exec) {pc : Nat} {Ls : Array Slot} {z : Int32} {rest : List Value} (hret : meth.sig.returnType = some .int) (hd : decode c.code pc = .ok (.ireturn, 1)) {fs : List Frame}
    (hl : ∀ (f : JFrame) (acts : List Action), f.method = m → f.locked = none → f.entered = [] → (doReturn e (T.setTop f) acts (some (.int z))).1 = T.setFrames fs) : Steps p.tables e below (T.setTop (mkF m pc Ls (.int z :: rest))) (T.setFrames fs) := by
  have hm' : T.vm.method? m = some meth := X.method'
  have hn : narrow .int (.int z) = .int z := rfl
  show Steps p.tables e below (T.setTop { method := m, pc := pc, locals := Ls, stack := _ :: rest, locked := none }) _
  jvm_step X.here [X.here.top, hx, hd, hm', hret, hn]
  first | (intro acts; rw [hl _ acts rfl rfl rfl]) | rw [hl _ _ rfl rfl rfl]
  exact Steps.refl _
end New
end Jvm.RoadKit
namespace Jvm.Pilot.@@N@@
open Jvm Jvm.ClassFile Sem Op Lib Jvm.Free Jvm.Stand Jvm.LawKit Jvm.RoadKit Bundle Jvm.Pilot.@@N@@.Jvm.D
theorem own_rng (a b : Int32) : (¬ (a &&& (2147483647 : Int32)) % (24 : Int32) < 0 ∧ ¬ (23 : Int32) < (a &&& (2147483647 : Int32)) % (24 : Int32)) ∧ ¬ (b &&& (7 : Int32)) < 0 ∧ (b &&& (7 : Int32)) < (8 : Int32) := by
  have m := c_mask a 2147483647 31 (by decide) (by decide)
  have n := c_mask b 7 3 (by decide) (by decide)
  have q := (c_irem (a &&& 2147483647) 24 24 (by decide)).1 (by omega)
  simp only [Int32.lt_iff_toInt_lt]
  have e0 : (0 : Int32).toInt = 0 := by decide
  have e23 : (23 : Int32).toInt = 23 := by decide
  have e8 : (8 : Int32).toInt = 8 := by decide
  omega
theorem own_val {f s : Int32} (h1 : ¬ f < 0) (h2 : ¬ (23 : Int32) < f) (h3 : ¬ s < 0) (h4 : s < (8 : Int32)) : ¬ (f * (8 : Int32) + s) < 0 ∧ ¬ (191 : Int32) < (f * (8 : Int32) + s) ∧ (f * (8 : Int32) + s) / (8 : Int32) = f ∧ (f * (8 : Int32) + s) % (8 : Int32) = s := by
  simp only [Int32.lt_iff_toInt_lt] at *
  have e0 : (0 : Int32).toInt = 0 := by decide
  have e23 : (23 : Int32).toInt = 23 := by decide
  have e8 : (8 : Int32).toInt = 8 := by decide
  have e191 : (191 : Int32).toInt = 191 := by decide
  have m := c_imul f 8
  have a := c_iadd (f * 8) s
  have r1 := rng32 (f * 8)
  have r2 := rng32 (f * 8 + s)
  rw [e8] at m
  have v : (f * 8 + s).toInt = f.toInt * 8 + s.toInt := by omega
  have d := (c_idiv (f * 8 + s) 8 8 e8 (by decide)).1 (by omega)
  have q := (c_irem (f * 8 + s) 8 8 e8).1 (by omega)
  refine ⟨by omega, by omega, Int32.toInt_inj.mp ?_, Int32.toInt_inj.mp ?_⟩ <;> omega
theorem ef_rec (m : MethodId) (x0 : Addr) : entryFrame m #[(.ref x0)] 1 = mkF m 0 #[.val (.ref x0)] [] := by first | (simp [entryFrame, mkF, argsToLocals, Value.category]; done) | rfl
def Q_rec (Z : State) (a1 : Addr) (h0 : Heap) (n0 : Nat) (v : Option Value) (h : Heap) (L : List Loc) : Prop := v = none ∧ Fr n0 L ∧ h = h0
theorem pn_0 : plainName "java/lang/Record" = true := by first | (simp [plainName, overriddenIn]; done) | decide +kernel
theorem d2_0 : decode jdk_30_method_1_code 0 = .ok (.aload_n 0, 1) := by decide +kernel
theorem d2_1 : decode jdk_30_method_1_code 1 = .ok (.invokespecial 1, 3) := by decide +kernel
theorem d2_4 : decode jdk_30_method_1_code 4 = .ok (.return_, 1) := by decide +kernel
set_option maxRecDepth 65536 in
set_option maxHeartbeats 40000000 in
theorem rm_rec (l : Launch) (Z : State) (a0 : Array Value) (hw : ∀ d ∈ tables_1, d.before a0 Z = true) (ws : List Jvm.Cond) (a1 : Addr) (h0 : Heap) (n0 : Nat) (Z0 : n0 ≤ h0.size) :
    MetFree l (⟨"java/lang/Record", "<init>", "()V"⟩ : MethodName) (head1 (Jvm.Cond.code (⟨"java/lang/Record", "<init>", "()V"⟩ : MethodName) jdk_30_method_1_code 1 none :: ws) ({ frames := 1, cells := 0, slots := 0, locals := 12 } : Room)) (fun a U => a = #[(.ref a1)] ∧ Z.Warmed39 U.vm ∧ U.heap = h0) (fun _ _ _ _ _ => True) (fun _ U o U' => ∃ v L, o = .returned v ∧ Q_rec Z a1 h0 n0 v U'.heap L ∧ FrameEnd U o U' L ({ frames := 1, cells := 0, slots := 0, locals := 12 } : Room).cells ({ frames := 1, cells := 0, slots := 0, locals := 12 } : Room).slots) := by
  refine MetFree.of_bodySF (plainFor_of_name pn_0) hisR ?_
  intro p e s m args below meth c s₁ Bd hml0 hP hK
  obtain ⟨rfl, hZ, hh⟩ := hP
  have hx := Bd.exec
  have hby := Bd.bytes
  have hml : c.maxLocals = 1 := hml0
  have hown : s.vm.findClass "java/lang/Record" = some m.cls := findClass_of_methodNamed Bd.named
  have hnm := (name_of_methodNamed Bd.named Bd.method).1
  have X0 : Stand p l e ({ frames := 1, cells := 0, slots := 0, locals := 12 } : Room) s m #[(.ref a1)] below meth c s₁ [] 0 0 := Stand.of_body Bd
  have e0 : s₁.heap = h0 := by rw [← hh, Bd.state]; rfl
  have N0 := Fr.nil n0
  have K0 : Keep h0 h0 [] := Keep.refl h0 []
  have P0 : ∀ t, Steps p.tables e below (s₁.setTop (mkF m 0 #[.val (.ref a1)] [])) t → Steps p.tables e below (s₁.setTop (entryFrame m #[(.ref a1)] 1)) t := fun t k => castTop (ef_rec m a1) k
  obtain ⟨T1001, X1001, e1001, st1001⟩ := initO X0 hx hZ hown (hw _ (List.mem_of_getElem? (i := 12) rfl)) (hw _ (List.mem_of_getElem? (i := 13) rfl)) (hw _ (List.mem_of_getElem? (i := 14) rfl)) e0 (g := (mkF m 1 #[.val (.ref a1)] [(.ref a1)])) rfl (by rw [hml]; rfl) rfl (hb hby d2_1) (by decide) (W := 0) (by show 2 * 0 + _ ≤ _; exact Nat.le_of_eq rfl) (by decide)
  have P1002 : ∀ t, Steps p.tables e below (T1001.setTop (mkF m 4 #[.val (.ref a1)] [])) t → Steps p.tables e below (s₁.setTop (entryFrame m #[(.ref a1)] 1)) t := fun t k => P0 t (by
    refine XS.aloadN X0.here hx rfl (hb hby d2_0) rfl rfl ?_
    show Steps p.tables e below (s₁.setTop (mkF m 1 #[.val (.ref a1)] [(.ref a1)])) _
    refine st1001 _ ?_
    show Steps p.tables e below (T1001.setTop (mkF m 4 #[.val (.ref a1)] [])) _
    exact k)
  obtain ⟨fs, hr, hrun, hended, hW, hsame⟩ := X1001.leave (v := none) (fun _ => rfl)
  refine ⟨_, _, P1002 _ ?_, hrun, hended, _, _, rfl, ?_, ⟨_, rfl⟩, hW, hsame.mono (by decide) (by decide)⟩
  · exact X1001.returnOut hx Bd.returns (hb hby d2_4) hr
  · show Q_rec Z a1 h0 n0 _ T1001.heap _
    rw [e1001]
    exact ⟨rfl, N0, rfl⟩
theorem ef_init (m : MethodId) (x0 : Addr) (x1 : Int32) (x2 : Int32) : entryFrame m #[(.ref x0), (.int x1), (.int x2)] 3 = mkF m 0 #[.val (.ref x0), .val (.int x1), .val (.int x2)] [] := by first | (simp [entryFrame, mkF, argsToLocals, Value.category]; done) | rfl
def Q_init (Z : State) (a1 : Addr) (u1 : Int32) (u2 : Int32) (h0 : Heap) (n0 : Nat) (v : Option Value) (h : Heap) (L : List Loc) : Prop := v = none ∧ Fr n0 L ∧ Keep h0 h [a1] ∧ Exa Z h a1 "com/example/pumphandle/pumphandle/syslog/Priority" ∧ Fld Z h a1 "com/example/pumphandle/pumphandle/syslog/Priority" "facility" "I" (.int u1) ∧ Fld Z h a1 "com/example/pumphandle/pumphandle/syslog/Priority" "severity" "I" (.int u2)
theorem pn_1 : plainName "com/example/pumphandle/pumphandle/syslog/Priority" = true := by first | (simp [plainName, overriddenIn]; done) | decide +kernel
theorem d1_0 : decode prog_48_method_1_code 0 = .ok (.aload_n 0, 1) := by decide +kernel
theorem d1_1 : decode prog_48_method_1_code 1 = .ok (.invokespecial 3, 3) := by decide +kernel
theorem pd_0 : parseMethodDescriptor "()V" = some ⟨[], none⟩ := by decide +kernel
theorem d1_4 : decode prog_48_method_1_code 4 = .ok (.iload_n 1, 1) := by decide +kernel
theorem d1_5 : decode prog_48_method_1_code 5 = .ok (.ifCond .lt 9, 3) := by decide +kernel
theorem d1_8 : decode prog_48_method_1_code 8 = .ok (.iload_n 1, 1) := by decide +kernel
theorem d1_9 : decode prog_48_method_1_code 9 = .ok (.bipush 23, 2) := by decide +kernel
theorem d1_11 : decode prog_48_method_1_code 11 = .ok (.if_icmp .le 17, 3) := by decide +kernel
theorem d1_28 : decode prog_48_method_1_code 28 = .ok (.iload_n 2, 1) := by decide +kernel
theorem d1_29 : decode prog_48_method_1_code 29 = .ok (.ifCond .lt 9, 3) := by decide +kernel
theorem d1_32 : decode prog_48_method_1_code 32 = .ok (.iload_n 2, 1) := by decide +kernel
theorem d1_33 : decode prog_48_method_1_code 33 = .ok (.bipush 8, 2) := by decide +kernel
theorem d1_35 : decode prog_48_method_1_code 35 = .ok (.if_icmp .lt 17, 3) := by decide +kernel
theorem d1_52 : decode prog_48_method_1_code 52 = .ok (.aload_n 0, 1) := by decide +kernel
theorem d1_53 : decode prog_48_method_1_code 53 = .ok (.iload_n 1, 1) := by decide +kernel
theorem d1_54 : decode prog_48_method_1_code 54 = .ok (.putfield 19, 3) := by decide +kernel
theorem d1_57 : decode prog_48_method_1_code 57 = .ok (.aload_n 0, 1) := by decide +kernel
theorem d1_58 : decode prog_48_method_1_code 58 = .ok (.iload_n 2, 1) := by decide +kernel
theorem d1_59 : decode prog_48_method_1_code 59 = .ok (.putfield 23, 3) := by decide +kernel
theorem d1_62 : decode prog_48_method_1_code 62 = .ok (.return_, 1) := by decide +kernel
set_option maxRecDepth 65536 in
set_option maxHeartbeats 40000000 in
theorem rm_init (l : Launch) (Z : State) (a0 : Array Value) (hw : ∀ d ∈ tables_1, d.before a0 Z = true) (ws : List Jvm.Cond) (a1 : Addr) (u1 : Int32) (u2 : Int32) (h0 : Heap) (n0 : Nat) (Z0 : n0 ≤ h0.size) (E1 : Exa Z h0 a1 "com/example/pumphandle/pumphandle/syslog/Priority") (F1 : Fld Z h0 a1 "com/example/pumphandle/pumphandle/syslog/Priority" "facility" "I" (.int (0 : Int32))) (F2 : Fld Z h0 a1 "com/example/pumphandle/pumphandle/syslog/Priority" "severity" "I" (.int (0 : Int32))) (g1 : n0 ≤ a1) (h1 : ¬ u1 < (0 : Int32)) (h2 : ¬ (23 : Int32) < u1) (h3 : ¬ u2 < (0 : Int32)) (h4 : u2 < (8 : Int32)) :
    MetFree l (⟨"com/example/pumphandle/pumphandle/syslog/Priority", "<init>", "(II)V"⟩ : MethodName) (head1 (Jvm.Cond.code (⟨"com/example/pumphandle/pumphandle/syslog/Priority", "<init>", "(II)V"⟩ : MethodName) prog_48_method_1_code 3 none :: ws) ({ frames := 2, cells := 0, slots := 0, locals := 24 } : Room)) (fun a U => a = #[(.ref a1), (.int u1), (.int u2)] ∧ Z.Warmed39 U.vm ∧ U.heap = h0) (fun _ _ _ _ _ => True) (fun _ U o U' => ∃ v L, o = .returned v ∧ Q_init Z a1 u1 u2 h0 n0 v U'.heap L ∧ FrameEnd U o U' L ({ frames := 2, cells := 0, slots := 0, locals := 24 } : Room).cells ({ frames := 2, cells := 0, slots := 0, locals := 24 } : Room).slots) := by
  refine MetFree.of_bodySF (plainFor_of_name pn_1) hisR ?_
  intro p e s m args below meth c s₁ Bd hml0 hP hK
  obtain ⟨rfl, hZ, hh⟩ := hP
  have hx := Bd.exec
  have hby := Bd.bytes
  have hml : c.maxLocals = 3 := hml0
  have hown : s.vm.findClass "com/example/pumphandle/pumphandle/syslog/Priority" = some m.cls := findClass_of_methodNamed Bd.named
  have hnm := (name_of_methodNamed Bd.named Bd.method).1
  have X0 : Stand p l e ({ frames := 2, cells := 0, slots := 0, locals := 24 } : Room) s m #[(.ref a1), (.int u1), (.int u2)] below meth c s₁ [] 0 0 := Stand.of_body Bd
  have e0 : s₁.heap = h0 := by rw [← hh, Bd.state]; rfl
  have N0 := Fr.nil n0
  have K0 : Keep h0 h0 [a1] := Keep.refl h0 [a1]
  have P0 : ∀ t, Steps p.tables e below (s₁.setTop (mkF m 0 #[.val (.ref a1), .val (.int u1), .val (.int u2)] [])) t → Steps p.tables e below (s₁.setTop (entryFrame m #[(.ref a1), (.int u1), (.int u2)] 3)) t := fun t k => castTop (ef_init m a1 u1 u2) k
  obtain ⟨_, _, ⟨T1003, L1003, k1003, n1003⟩, -, X1003, ⟨Lc1003, hQ1003, l1003, y1003, z1003⟩, st1003⟩ := X0.specialBack hx (y := (⟨"java/lang/Record", "<init>", "()V"⟩ : MethodName)) rfl hown (mvT hZ (hw _ (List.mem_of_getElem? (i := 7) rfl))) (mvT hZ (hw _ (List.mem_of_getElem? (i := 8) rfl))) (mvT hZ (hw _ (List.mem_of_getElem? (i := 11) rfl))) (by decide) (backOf (W := 0) (rm_rec l Z a0 hw [] a1 h0 n0 Z0 ) hZ (hw _ (List.mem_of_getElem? (i := 11) rfl)) (hw _ (List.mem_of_getElem? (i := 10) rfl)) (by decide) (by decide)) (g := (mkF m 1 #[.val (.ref a1), .val (.int u1), .val (.int u2)] [(.ref a1)])) rfl (by rw [hml]; rfl) (Steps.refl _) (a := a1) (argsL := []) (rest := []) (lenOf pd_0 rfl) rfl (by show 2 * 0 + _ ≤ _; exact Nat.le_of_eq rfl) (hb hby d1_1) (fun _ _ => ⟨rfl, e0, (by decide : 0 + 0 ≤ _), (by decide : 0 + 0 ≤ _)⟩)
  dsimp only [Pt.U, Pt.locs, Pt.cells, Pt.slots] at X1003 l1003 y1003 z1003 st1003 hQ1003
  subst l1003 y1003 z1003
  obtain ⟨rfl, N1003q, e1⟩ := hQ1003
  have N1003 := Fr.app N0 N1003q
  obtain ⟨T1004, h1004, X1004, e1004, W1004, st1004⟩ := putF X1003 hx hZ hown (host := "") (Or.inl (hw _ (List.mem_of_getElem? (i := 15) rfl))) Via.refl e1 F1 E1 (Or.inr ⟨(hw _ (List.mem_of_getElem? (i := 16) rfl)), rfl, hnm⟩) (hw _ (List.mem_of_getElem? (i := 2) rfl)) (ty := .int) (by decide) rfl rfl (g := (mkF m 54 #[.val (.ref a1), .val (.int u1), .val (.int u2)] [(.int u1), (.ref a1)])) rfl rfl (hb hby d1_54)
  have Fw1004 := F1.same W1004
  have c1005_0 := E1.wr W1004
  have c1005_2 := F2.other W1004 (Or.inr (slot_ne (Or.inr (hw _ (List.mem_of_getElem? (i := 18) rfl))) (Or.inr (hw _ (List.mem_of_getElem? (i := 16) rfl))) (by decide) (t := .int) (t' := .int) (by decide) (by decide)))
  have Z1004 : n0 ≤ h1004.size := Nat.le_trans Z0 (Nat.le_of_eq W1004.size.symm)
  have K1004 : Keep h0 h1004 [a1] := K0.wr W1004 (Or.inl (List.mem_of_getElem? (i := 0) rfl))
  have N1004 := Fr.snoc X1004 N1003 g1
  obtain ⟨T1006, h1006, X1006, e1006, W1006, st1006⟩ := putF X1004 hx hZ hown (host := "") (Or.inl (hw _ (List.mem_of_getElem? (i := 17) rfl))) Via.refl e1004 c1005_2 c1005_0 (Or.inr ⟨(hw _ (List.mem_of_getElem? (i := 18) rfl)), rfl, hnm⟩) (hw _ (List.mem_of_getElem? (i := 2) rfl)) (ty := .int) (by decide) rfl rfl (g := (mkF m 59 #[.val (.ref a1), .val (.int u1), .val (.int u2)] [(.int u2), (.ref a1)])) rfl rfl (hb hby d1_59)
  have Fw1006 := c1005_2.same W1006
  have c1007_0 := c1005_0.wr W1006
  have c1007_1 := Fw1004.other W1006 (Or.inr (slot_ne (Or.inr (hw _ (List.mem_of_getElem? (i := 16) rfl))) (Or.inr (hw _ (List.mem_of_getElem? (i := 18) rfl))) (by decide) (t := .int) (t' := .int) (by decide) (by decide)))
  have Z1006 : n0 ≤ h1006.size := Nat.le_trans Z1004 (Nat.le_of_eq W1006.size.symm)
  have K1006 : Keep h0 h1006 [a1] := K1004.wr W1006 (Or.inl (List.mem_of_getElem? (i := 0) rfl))
  have N1006 := Fr.snoc X1006 N1004 g1
  have P1008 : ∀ t, Steps p.tables e below (T1006.setTop (mkF m 62 #[.val (.ref a1), .val (.int u1), .val (.int u2)] [])) t → Steps p.tables e below (s₁.setTop (entryFrame m #[(.ref a1), (.int u1), (.int u2)] 3)) t := fun t k => P0 t (by
    refine XS.aloadN X0.here hx rfl (hb hby d1_0) rfl rfl ?_
    show Steps p.tables e below (s₁.setTop (mkF m 1 #[.val (.ref a1), .val (.int u1), .val (.int u2)] [(.ref a1)])) _
    refine st1003.trans ?_
    show Steps p.tables e below (T1003.setTop (mkF m 4 #[.val (.ref a1), .val (.int u1), .val (.int u2)] [])) _
    refine XS.iloadN X1003.here hx rfl (hb hby d1_4) rfl ?_
    show Steps p.tables e below (T1003.setTop (mkF m 5 #[.val (.ref a1), .val (.int u1), .val (.int u2)] [(.int u1)])) _
    refine XS.ifNo X1003.here hx rfl (hb hby d1_5) rfl ((if0 _ _).trans (flt h1).1) ?_
    show Steps p.tables e below (T1003.setTop (mkF m 8 #[.val (.ref a1), .val (.int u1), .val (.int u2)] [])) _
    refine XS.iloadN X1003.here hx rfl (hb hby d1_8) rfl ?_
    show Steps p.tables e below (T1003.setTop (mkF m 9 #[.val (.ref a1), .val (.int u1), .val (.int u2)] [(.int u1)])) _
    refine XS.bipush X1003.here hx rfl (hb hby d1_9) ?_
    show Steps p.tables e below (T1003.setTop (mkF m 11 #[.val (.ref a1), .val (.int u1), .val (.int u2)] [(.int (23 : Int32)), (.int u1)])) _
    refine XS.icmpYes X1003.here hx rfl (pc0 := 11) (pc' := 28) rfl (hb hby d1_11) rfl (flt h2).2.2.2 (by decide) (by decide) ?_
    show Steps p.tables e below (T1003.setTop (mkF m 28 #[.val (.ref a1), .val (.int u1), .val (.int u2)] [])) _
    refine XS.iloadN X1003.here hx rfl (hb hby d1_28) rfl ?_
    show Steps p.tables e below (T1003.setTop (mkF m 29 #[.val (.ref a1), .val (.int u1), .val (.int u2)] [(.int u2)])) _
    refine XS.ifNo X1003.here hx rfl (hb hby d1_29) rfl ((if0 _ _).trans (flt h3).1) ?_
    show Steps p.tables e below (T1003.setTop (mkF m 32 #[.val (.ref a1), .val (.int u1), .val (.int u2)] [])) _
    refine XS.iloadN X1003.here hx rfl (hb hby d1_32) rfl ?_
    show Steps p.tables e below (T1003.setTop (mkF m 33 #[.val (.ref a1), .val (.int u1), .val (.int u2)] [(.int u2)])) _
    refine XS.bipush X1003.here hx rfl (hb hby d1_33) ?_
    show Steps p.tables e below (T1003.setTop (mkF m 35 #[.val (.ref a1), .val (.int u1), .val (.int u2)] [(.int (8 : Int32)), (.int u2)])) _
    refine XS.icmpYes X1003.here hx rfl (pc0 := 35) (pc' := 52) rfl (hb hby d1_35) rfl (tlt h4).1 (by decide) (by decide) ?_
    show Steps p.tables e below (T1003.setTop (mkF m 52 #[.val (.ref a1), .val (.int u1), .val (.int u2)] [])) _
    refine XS.aloadN X1003.here hx rfl (hb hby d1_52) rfl rfl ?_
    show Steps p.tables e below (T1003.setTop (mkF m 53 #[.val (.ref a1), .val (.int u1), .val (.int u2)] [(.ref a1)])) _
    refine XS.iloadN X1003.here hx rfl (hb hby d1_53) rfl ?_
    show Steps p.tables e below (T1003.setTop (mkF m 54 #[.val (.ref a1), .val (.int u1), .val (.int u2)] [(.int u1), (.ref a1)])) _
    refine st1004 _ ?_
    show Steps p.tables e below (T1004.setTop (mkF m 57 #[.val (.ref a1), .val (.int u1), .val (.int u2)] [])) _
    refine XS.aloadN X1004.here hx rfl (hb hby d1_57) rfl rfl ?_
    show Steps p.tables e below (T1004.setTop (mkF m 58 #[.val (.ref a1), .val (.int u1), .val (.int u2)] [(.ref a1)])) _
    refine XS.iloadN X1004.here hx rfl (hb hby d1_58) rfl ?_
    show Steps p.tables e below (T1004.setTop (mkF m 59 #[.val (.ref a1), .val (.int u1), .val (.int u2)] [(.int u2), (.ref a1)])) _
    refine st1006 _ ?_
    show Steps p.tables e below (T1006.setTop (mkF m 62 #[.val (.ref a1), .val (.int u1), .val (.int u2)] [])) _
    exact k)
  obtain ⟨fs, hr, hrun, hended, hW, hsame⟩ := X1006.leave (v := none) (fun _ => rfl)
  refine ⟨_, _, P1008 _ ?_, hrun, hended, _, _, rfl, ?_, ⟨_, rfl⟩, hW, hsame.mono (by decide) (by decide)⟩
  · exact X1006.returnOut hx Bd.returns (hb hby d1_62) hr
  · show Q_init Z a1 u1 u2 h0 n0 _ T1006.heap _
    rw [e1006]
    exact ⟨rfl, N1006, K1006, c1007_0, c1007_1, Fw1006⟩
theorem ef_value (m : MethodId) (x0 : Addr) : entryFrame m #[(.ref x0)] 1 = mkF m 0 #[.val (.ref x0)] [] := by first | (simp [entryFrame, mkF, argsToLocals, Value.category]; done) | rfl
def Q_value (Z : State) (a1 : Addr) (u1 : Int32) (u2 : Int32) (h0 : Heap) (n0 : Nat) (v : Option Value) (h : Heap) (L : List Loc) : Prop := v = some (.int (u1 * (8 : Int32) + u2)) ∧ Fr n0 L ∧ h = h0
theorem d4_0 : decode prog_48_method_4_code 0 = .ok (.aload_n 0, 1) := by decide +kernel
theorem d4_1 : decode prog_48_method_4_code 1 = .ok (.getfield 19, 3) := by decide +kernel
theorem d4_4 : decode prog_48_method_4_code 4 = .ok (.bipush 8, 2) := by decide +kernel
theorem d4_6 : decode prog_48_method_4_code 6 = .ok (.imul, 1) := by decide +kernel
theorem d4_7 : decode prog_48_method_4_code 7 = .ok (.aload_n 0, 1) := by decide +kernel
theorem d4_8 : decode prog_48_method_4_code 8 = .ok (.getfield 23, 3) := by decide +kernel
theorem d4_11 : decode prog_48_method_4_code 11 = .ok (.iadd, 1) := by decide +kernel
theorem d4_12 : decode prog_48_method_4_code 12 = .ok (.ireturn, 1) := by decide +kernel
set_option maxRecDepth 65536 in
set_option maxHeartbeats 40000000 in
theorem rm_value (l : Launch) (Z : State) (a0 : Array Value) (hw : ∀ d ∈ tables_1, d.before a0 Z = true) (ws : List Jvm.Cond) (a1 : Addr) (u1 : Int32) (u2 : Int32) (h0 : Heap) (n0 : Nat) (Z0 : n0 ≤ h0.size) (F1 : Fld Z h0 a1 "com/example/pumphandle/pumphandle/syslog/Priority" "facility" "I" (.int u1)) (F2 : Fld Z h0 a1 "com/example/pumphandle/pumphandle/syslog/Priority" "severity" "I" (.int u2)) :
    MetFree l (⟨"com/example/pumphandle/pumphandle/syslog/Priority", "value", "()I"⟩ : MethodName) (head1 (Jvm.Cond.code (⟨"com/example/pumphandle/pumphandle/syslog/Priority", "value", "()I"⟩ : MethodName) prog_48_method_4_code 1 (some .int) :: ws) ({ frames := 0, cells := 0, slots := 0, locals := 0 } : Room)) (fun a U => a = #[(.ref a1)] ∧ Z.Warmed39 U.vm ∧ U.heap = h0) (fun _ _ _ _ _ => True) (fun _ U o U' => ∃ v L, o = .returned v ∧ Q_value Z a1 u1 u2 h0 n0 v U'.heap L ∧ FrameEnd U o U' L ({ frames := 0, cells := 0, slots := 0, locals := 0 } : Room).cells ({ frames := 0, cells := 0, slots := 0, locals := 0 } : Room).slots) := by
  refine MetFree.of_bodySF (plainFor_of_name pn_1) hisR ?_
  intro p e s m args below meth c s₁ Bd hml0 hP hK
  obtain ⟨rfl, hZ, hh⟩ := hP
  have hx := Bd.exec
  have hby := Bd.bytes
  have hml : c.maxLocals = 1 := hml0
  have hown : s.vm.findClass "com/example/pumphandle/pumphandle/syslog/Priority" = some m.cls := findClass_of_methodNamed Bd.named
  have hnm := (name_of_methodNamed Bd.named Bd.method).1
  have X0 : Stand p l e ({ frames := 0, cells := 0, slots := 0, locals := 0 } : Room) s m #[(.ref a1)] below meth c s₁ [] 0 0 := Stand.of_body Bd
  have e0 : s₁.heap = h0 := by rw [← hh, Bd.state]; rfl
  have N0 := Fr.nil n0
  have K0 : Keep h0 h0 [] := Keep.refl h0 []
  have P0 : ∀ t, Steps p.tables e below (s₁.setTop (mkF m 0 #[.val (.ref a1)] [])) t → Steps p.tables e below (s₁.setTop (entryFrame m #[(.ref a1)] 1)) t := fun t k => castTop (ef_value m a1) k
  obtain ⟨T1009, X1009, e1009, st1009⟩ := getF X0 hx hZ hown (host := "") (Or.inl (hw _ (List.mem_of_getElem? (i := 15) rfl))) Via.refl e0 F1 (g := (mkF m 1 #[.val (.ref a1)] [(.ref a1)])) rfl rfl (hb hby d4_1)
  obtain ⟨T1010, X1010, e1010, st1010⟩ := getF X1009 hx hZ hown (host := "") (Or.inl (hw _ (List.mem_of_getElem? (i := 17) rfl))) Via.refl e1009 F2 (g := (mkF m 8 #[.val (.ref a1)] [(.ref a1), (.int (u1 * (8 : Int32)))])) rfl rfl (hb hby d4_8)
  have P1011 : ∀ t, Steps p.tables e below (T1010.setTop (mkF m 12 #[.val (.ref a1)] [(.int ((u1 * (8 : Int32)) + u2))])) t → Steps p.tables e below (s₁.setTop (entryFrame m #[(.ref a1)] 1)) t := fun t k => P0 t (by
    refine XS.aloadN X0.here hx rfl (hb hby d4_0) rfl rfl ?_
    show Steps p.tables e below (s₁.setTop (mkF m 1 #[.val (.ref a1)] [(.ref a1)])) _
    refine st1009 _ ?_
    show Steps p.tables e below (T1009.setTop (mkF m 4 #[.val (.ref a1)] [(.int u1)])) _
    refine XS.bipush X1009.here hx rfl (hb hby d4_4) ?_
    show Steps p.tables e below (T1009.setTop (mkF m 6 #[.val (.ref a1)] [(.int (8 : Int32)), (.int u1)])) _
    refine XS.imul X1009.here hx rfl (hb hby d4_6) rfl ?_
    show Steps p.tables e below (T1009.setTop (mkF m 7 #[.val (.ref a1)] [(.int (u1 * (8 : Int32)))])) _
    refine XS.aloadN X1009.here hx rfl (hb hby d4_7) rfl rfl ?_
    show Steps p.tables e below (T1009.setTop (mkF m 8 #[.val (.ref a1)] [(.ref a1), (.int (u1 * (8 : Int32)))])) _
    refine st1010 _ ?_
    show Steps p.tables e below (T1010.setTop (mkF m 11 #[.val (.ref a1)] [(.int u2), (.int (u1 * (8 : Int32)))])) _
    refine XS.iadd X1010.here hx rfl (hb hby d4_11) rfl ?_
    show Steps p.tables e below (T1010.setTop (mkF m 12 #[.val (.ref a1)] [(.int ((u1 * (8 : Int32)) + u2))])) _
    exact k)
  obtain ⟨fs, hr, hrun, hended, hW, hsame⟩ := X1010.leave (v := some (.int ((u1 * (8 : Int32)) + u2))) (fun h => by rw [Bd.returns] at h; cases h)
  refine ⟨_, _, P1011 _ ?_, hrun, hended, _, _, rfl, ?_, ⟨_, rfl⟩, hW, hsame.mono (by decide) (by decide)⟩
  · exact retI X1010 hx Bd.returns (hb hby d4_12) hr
  · show Q_value Z a1 u1 u2 h0 n0 _ T1010.heap _
    rw [e1010]
    exact ⟨rfl, N0, rfl⟩
theorem ef_law (m : MethodId) (x0 : Int32) (x1 : Int32) : entryFrame m #[(.int x0), (.int x1)] maxLocals = mkF m 0 #[.val (.int x0), .val (.int x1), .unset, .unset, .unset, .unset] [] := by first | (simp [entryFrame, mkF, argsToLocals, Value.category, maxLocals]; done) | rfl
def Q_law (Z : State) (u1 : Int32) (u2 : Int32) (h0 : Heap) (n0 : Nat) (v : Option Value) (h : Heap) (L : List Loc) : Prop := v = some (.int 1) ∧ Fr n0 L
theorem pn_2 : plainName "com/example/pumphandle/pumphandle/syslog/PriorityValuePinLaw" = true := by first | (simp [plainName, overriddenIn]; done) | decide +kernel
theorem pd_1 : parseMethodDescriptor "(II)V" = some ⟨[.int, .int], none⟩ := by decide +kernel
theorem pd_2 : parseMethodDescriptor "()I" = some ⟨[], some .int⟩ := by decide +kernel
set_option maxRecDepth 65536 in
set_option maxHeartbeats 40000000 in
theorem rm_law (l : Launch) (Z : State) (a0 : Array Value) (hw : ∀ d ∈ tables_1, d.before a0 Z = true) (ws : List Jvm.Cond) (u1 : Int32) (u2 : Int32) (h0 : Heap) (n0 : Nat) (Z0 : n0 ≤ h0.size) :
    MetFree l x (head1 (Jvm.Cond.code x code maxLocals ret :: ws) room_1) (fun a U => a = #[(.int u1), (.int u2)] ∧ Z.Warmed39 U.vm ∧ U.heap = h0) (fun _ _ _ _ _ => True) (fun _ U o U' => ∃ v L, o = .returned v ∧ Q_law Z u1 u2 h0 n0 v U'.heap L ∧ FrameEnd U o U' L room_1.cells room_1.slots) := by
  refine MetFree.of_bodySF (plainFor_of_name pn_2) hisR ?_
  intro p e s m args below meth c s₁ Bd hml0 hP hK
  obtain ⟨rfl, hZ, hh⟩ := hP
  have hx := Bd.exec
  have hby := Bd.bytes
  have hml : c.maxLocals = 6 := hml0
  have hown : s.vm.findClass "com/example/pumphandle/pumphandle/syslog/PriorityValuePinLaw" = some m.cls := findClass_of_methodNamed Bd.named
  have hnm := (name_of_methodNamed Bd.named Bd.method).1
  have X0 : Stand p l e room_1 s m #[(.int u1), (.int u2)] below meth c s₁ [] 0 0 := Stand.of_body Bd
  have e0 : s₁.heap = h0 := by rw [← hh, Bd.state]; rfl
  have N0 := Fr.nil n0
  have K0 : Keep h0 h0 [] := Keep.refl h0 []
  have P0 : ∀ t, Steps p.tables e below (s₁.setTop (mkF m 0 #[.val (.int u1), .val (.int u2), .unset, .unset, .unset, .unset] [])) t → Steps p.tables e below (s₁.setTop (entryFrame m #[(.int u1), (.int u2)] maxLocals)) t := fun t k => castTop (ef_law m u1 u2) k
  obtain ⟨⟨ha1, ha2⟩, ha3, ha4⟩ := own_rng u1 u2
  have P1012 : ∀ t, Steps p.tables e below (s₁.setTop (mkF m 13 #[.val (.int u1), .val (.int u2), .val (.int ((u1 &&& (2147483647 : Int32)) % (24 : Int32))), .val (.int (u2 &&& (7 : Int32))), .unset, .unset] [])) t → Steps p.tables e below (s₁.setTop (entryFrame m #[(.int u1), (.int u2)] maxLocals)) t := fun t k => P0 t (by
    refine XS.iloadN X0.here hx rfl (hb hby at_0) rfl ?_
    show Steps p.tables e below (s₁.setTop (mkF m 1 #[.val (.int u1), .val (.int u2), .unset, .unset, .unset, .unset] [(.int u1)])) _
    refine X0.ldcInt hx hown (mvT hZ (hw _ (List.mem_of_getElem? (i := 0) rfl))) (g := (mkF m 1 #[.val (.int u1), .val (.int u2), .unset, .unset, .unset, .unset] [(.int u1)])) rfl (hb hby at_1) _ ?_
    show Steps p.tables e below (s₁.setTop (mkF m 3 #[.val (.int u1), .val (.int u2), .unset, .unset, .unset, .unset] [(.int (2147483647 : Int32)), (.int u1)])) _
    refine XS.iand X0.here hx rfl (hb hby at_3) rfl ?_
    show Steps p.tables e below (s₁.setTop (mkF m 4 #[.val (.int u1), .val (.int u2), .unset, .unset, .unset, .unset] [(.int (u1 &&& (2147483647 : Int32)))])) _
    refine XS.bipush X0.here hx rfl (hb hby at_4) ?_
    show Steps p.tables e below (s₁.setTop (mkF m 6 #[.val (.int u1), .val (.int u2), .unset, .unset, .unset, .unset] [(.int (24 : Int32)), (.int (u1 &&& (2147483647 : Int32)))])) _
    refine iremM X0 hx rfl (hb hby at_6) rfl (by decide) ?_
    show Steps p.tables e below (s₁.setTop (mkF m 7 #[.val (.int u1), .val (.int u2), .unset, .unset, .unset, .unset] [(.int ((u1 &&& (2147483647 : Int32)) % (24 : Int32)))])) _
    refine XS.istoreN X0.here hx rfl (hb hby at_7) rfl (l' := #[.val (.int u1), .val (.int u2), .val (.int ((u1 &&& (2147483647 : Int32)) % (24 : Int32))), .unset, .unset, .unset]) rfl ?_
    show Steps p.tables e below (s₁.setTop (mkF m 8 #[.val (.int u1), .val (.int u2), .val (.int ((u1 &&& (2147483647 : Int32)) % (24 : Int32))), .unset, .unset, .unset] [])) _
    refine XS.iloadN X0.here hx rfl (hb hby at_8) rfl ?_
    show Steps p.tables e below (s₁.setTop (mkF m 9 #[.val (.int u1), .val (.int u2), .val (.int ((u1 &&& (2147483647 : Int32)) % (24 : Int32))), .unset, .unset, .unset] [(.int u2)])) _
    refine XS.bipush X0.here hx rfl (hb hby at_9) ?_
    show Steps p.tables e below (s₁.setTop (mkF m 11 #[.val (.int u1), .val (.int u2), .val (.int ((u1 &&& (2147483647 : Int32)) % (24 : Int32))), .unset, .unset, .unset] [(.int (7 : Int32)), (.int u2)])) _
    refine XS.iand X0.here hx rfl (hb hby at_11) rfl ?_
    show Steps p.tables e below (s₁.setTop (mkF m 12 #[.val (.int u1), .val (.int u2), .val (.int ((u1 &&& (2147483647 : Int32)) % (24 : Int32))), .unset, .unset, .unset] [(.int (u2 &&& (7 : Int32)))])) _
    refine XS.istoreN X0.here hx rfl (hb hby at_12) rfl (l' := #[.val (.int u1), .val (.int u2), .val (.int ((u1 &&& (2147483647 : Int32)) % (24 : Int32))), .val (.int (u2 &&& (7 : Int32))), .unset, .unset]) rfl ?_
    show Steps p.tables e below (s₁.setTop (mkF m 13 #[.val (.int u1), .val (.int u2), .val (.int ((u1 &&& (2147483647 : Int32)) % (24 : Int32))), .val (.int (u2 &&& (7 : Int32))), .unset, .unset] [])) _
    exact k)
  obtain ⟨f1, hf1⟩ : ∃ z, z = ((u1 &&& (2147483647 : Int32)) % (24 : Int32)) := ⟨_, rfl⟩
  obtain ⟨f2, hf2⟩ : ∃ z, z = (u2 &&& (7 : Int32)) := ⟨_, rfl⟩
  rw [← hf1, ← hf2] at P1012
  rw [← hf1] at ha1 ha2
  rw [← hf2] at ha3 ha4
  obtain ⟨hv1, hv2, hv3, hv4⟩ := own_val ha1 ha2 ha3 ha4
  obtain ⟨T1013, h1013, X1013, e1013, E1013, A1013, D1013, -, st1013⟩ := newO X0 hx hZ hown (hw _ (List.mem_of_getElem? (i := 1) rfl)) (hw _ (List.mem_of_getElem? (i := 2) rfl)) (hw _ (List.mem_of_getElem? (i := 3) rfl)) e0 (g := (mkF m 13 #[.val (.int u1), .val (.int u2), .val (.int f1), .val (.int f2), .unset, .unset] [])) rfl (hb hby at_13) (by decide) (by decide)
  obtain ⟨b1013, g1013⟩ : ∃ z, z = h0.size := ⟨_, rfl⟩
  rw [← g1013] at A1013 D1013 st1013
  have g_b1013 : n0 ≤ b1013 := Nat.le_trans Z0 (Nat.le_of_eq g1013.symm)
  have sz_b1013 : h0.size ≤ b1013 := Nat.le_trans K0.1 (Nat.le_of_eq g1013.symm)
  have Z1013 : n0 ≤ h1013.size := Nat.le_trans Z0 E1013.1
  have K1013 : Keep h0 h1013 [] := K0.ext E1013
  have F1013_facility : Fld Z h1013 b1013 "com/example/pumphandle/pumphandle/syslog/Priority" "facility" "I" (.int (0 : Int32)) := D1013 (Or.inr (hw _ (List.mem_of_getElem? (i := 16) rfl))) (ty := .int) (by decide)
  have F1013_severity : Fld Z h1013 b1013 "com/example/pumphandle/pumphandle/syslog/Priority" "severity" "I" (.int (0 : Int32)) := D1013 (Or.inr (hw _ (List.mem_of_getElem? (i := 18) rfl))) (ty := .int) (by decide)
  obtain ⟨_, _, ⟨T1015, L1015, k1015, n1015⟩, -, X1015, ⟨Lc1015, hQ1015, l1015, y1015, z1015⟩, st1015⟩ := X1013.specialBack hx (y := (⟨"com/example/pumphandle/pumphandle/syslog/Priority", "<init>", "(II)V"⟩ : MethodName)) rfl hown (mvT hZ (hw _ (List.mem_of_getElem? (i := 4) rfl))) (mvT hZ (hw _ (List.mem_of_getElem? (i := 5) rfl))) (mvT hZ (hw _ (List.mem_of_getElem? (i := 6) rfl))) (by decide) (backOf (W := 1) (rm_init l Z a0 hw [] b1013 f1 f2 h1013 n0 Z1013 A1013 F1013_facility F1013_severity g_b1013 ha1 ha2 ha3 ha4) hZ (hw _ (List.mem_of_getElem? (i := 6) rfl)) (hw _ (List.mem_of_getElem? (i := 3) rfl)) (by decide) (by decide)) (g := (mkF m 19 #[.val (.int u1), .val (.int u2), .val (.int f1), .val (.int f2), .unset, .unset] [(.int f2), (.int f1), (.ref b1013), (.ref b1013)])) rfl (by rw [hml]; rfl) (Steps.refl _) (a := b1013) (argsL := [(.int f1), (.int f2)]) (rest := [(.ref b1013)]) (lenOf pd_1 rfl) rfl (by show 2 * 0 + _ ≤ _; exact Nat.le_of_eq rfl) (hb hby at_19) (fun _ _ => ⟨rfl, e1013, (by decide : 1 + 0 ≤ _), (by decide : 2 + 0 ≤ _)⟩)
  dsimp only [Pt.U, Pt.locs, Pt.cells, Pt.slots] at X1015 l1015 y1015 z1015 st1015 hQ1015
  subst l1015 y1015 z1015
  obtain ⟨rfl, N1015q, Ki, Ei, Fi1, Fi2⟩ := hQ1015
  have N1015 := Fr.app N0 N1015q
  have Z1015 : n0 ≤ T1015.heap.size := Nat.le_trans Z1013 Ki.1
  have K1015 : Keep h0 T1015.heap [] := K1013.trans Ki (allS (Or.inr sz_b1013) all0)
  obtain ⟨cq1017, kq1017, q1017a, q1017b, q1017c⟩ := isOf hZ rfl Ei
  obtain ⟨_, _, ⟨T1017, L1017, k1017, n1017⟩, -, X1017, ⟨Lc1017, hQ1017, l1017, y1017, z1017⟩, st1017⟩ := X1015.virtualBack hx (y := (⟨"com/example/pumphandle/pumphandle/syslog/Priority", "value", "()I"⟩ : MethodName)) (z := (⟨"com/example/pumphandle/pumphandle/syslog/Priority", "value", "()I"⟩ : MethodName)) hown (mvT hZ (hw _ (List.mem_of_getElem? (i := 19) rfl))) (mvT hZ (hw _ (List.mem_of_getElem? (i := 20) rfl))) (notFace_of_selects (args := #[]) (mvT hZ (hw _ (List.mem_of_getElem? (i := 22) rfl)))) (mvT hZ (hw _ (List.mem_of_getElem? (i := 22) rfl))) (mvT hZ (hw _ (List.mem_of_getElem? (i := 21) rfl))) (by decide) (backOf (W := 0) (rm_value l Z a0 hw [] b1013 f1 f2 T1015.heap n0 Z1015 Fi1 Fi2) hZ (hw _ (List.mem_of_getElem? (i := 23) rfl)) (hw _ (List.mem_of_getElem? (i := 3) rfl)) (by decide) (by decide)) q1017a q1017c (g := (mkF m 26 #[.val (.int u1), .val (.int u2), .val (.int f1), .val (.int f2), .val (.ref b1013), .unset] [(.ref b1013)])) rfl (by rw [hml]; rfl) (Steps.refl _) (argsL := []) (rest := []) (lenOf pd_2 rfl) rfl (by show 2 * 0 + _ ≤ _; exact Nat.le_of_eq rfl) (hb hby at_26) (fun _ _ => ⟨rfl, rfl, (by decide : 1 + 0 ≤ _), (by decide : 2 + 0 ≤ _)⟩)
  dsimp only [Pt.U, Pt.locs, Pt.cells, Pt.slots] at X1017 l1017 y1017 z1017 st1017 hQ1017
  subst l1017 y1017 z1017
  obtain ⟨rfl, N1017q, e26⟩ := hQ1017
  have N1017 := Fr.app N1015 N1017q
  have P1018 : ∀ t, Steps p.tables e below (T1017.setTop (mkF m 69 #[.val (.int u1), .val (.int u2), .val (.int f1), .val (.int f2), .val (.ref b1013), .val (.int (f1 * (8 : Int32) + f2))] [(.int (1 : Int32))])) t → Steps p.tables e below (s₁.setTop (entryFrame m #[(.int u1), (.int u2)] maxLocals)) t := fun t k => P1012 t (by
    refine st1013 _ ?_
    show Steps p.tables e below (T1013.setTop (mkF m 16 #[.val (.int u1), .val (.int u2), .val (.int f1), .val (.int f2), .unset, .unset] [(.ref b1013)])) _
    refine XS.dup X1013.here hx rfl (hb hby at_16) rfl rfl ?_
    show Steps p.tables e below (T1013.setTop (mkF m 17 #[.val (.int u1), .val (.int u2), .val (.int f1), .val (.int f2), .unset, .unset] [(.ref b1013), (.ref b1013)])) _
    refine XS.iloadN X1013.here hx rfl (hb hby at_17) rfl ?_
    show Steps p.tables e below (T1013.setTop (mkF m 18 #[.val (.int u1), .val (.int u2), .val (.int f1), .val (.int f2), .unset, .unset] [(.int f1), (.ref b1013), (.ref b1013)])) _
    refine XS.iloadN X1013.here hx rfl (hb hby at_18) rfl ?_
    show Steps p.tables e below (T1013.setTop (mkF m 19 #[.val (.int u1), .val (.int u2), .val (.int f1), .val (.int f2), .unset, .unset] [(.int f2), (.int f1), (.ref b1013), (.ref b1013)])) _
    refine st1015.trans ?_
    show Steps p.tables e below (T1015.setTop (mkF m 22 #[.val (.int u1), .val (.int u2), .val (.int f1), .val (.int f2), .unset, .unset] [(.ref b1013)])) _
    refine XS.astore X1015.here hx rfl (hb hby at_22) rfl rfl (l' := #[.val (.int u1), .val (.int u2), .val (.int f1), .val (.int f2), .val (.ref b1013), .unset]) rfl ?_
    show Steps p.tables e below (T1015.setTop (mkF m 24 #[.val (.int u1), .val (.int u2), .val (.int f1), .val (.int f2), .val (.ref b1013), .unset] [])) _
    refine XS.aload X1015.here hx rfl (hb hby at_24) rfl rfl ?_
    show Steps p.tables e below (T1015.setTop (mkF m 26 #[.val (.int u1), .val (.int u2), .val (.int f1), .val (.int f2), .val (.ref b1013), .unset] [(.ref b1013)])) _
    refine st1017.trans ?_
    show Steps p.tables e below (T1017.setTop (mkF m 29 #[.val (.int u1), .val (.int u2), .val (.int f1), .val (.int f2), .val (.ref b1013), .unset] [(.int (f1 * (8 : Int32) + f2))])) _
    refine XS.istore X1017.here hx rfl (hb hby at_29) rfl (l' := #[.val (.int u1), .val (.int u2), .val (.int f1), .val (.int f2), .val (.ref b1013), .val (.int (f1 * (8 : Int32) + f2))]) rfl ?_
    show Steps p.tables e below (T1017.setTop (mkF m 31 #[.val (.int u1), .val (.int u2), .val (.int f1), .val (.int f2), .val (.ref b1013), .val (.int (f1 * (8 : Int32) + f2))] [])) _
    refine XS.iload X1017.here hx rfl (hb hby at_31) rfl ?_
    show Steps p.tables e below (T1017.setTop (mkF m 33 #[.val (.int u1), .val (.int u2), .val (.int f1), .val (.int f2), .val (.ref b1013), .val (.int (f1 * (8 : Int32) + f2))] [(.int (f1 * (8 : Int32) + f2))])) _
    refine XS.ifNo X1017.here hx rfl (hb hby at_33) rfl ((if0 _ _).trans (flt hv1).1) ?_
    show Steps p.tables e below (T1017.setTop (mkF m 36 #[.val (.int u1), .val (.int u2), .val (.int f1), .val (.int f2), .val (.ref b1013), .val (.int (f1 * (8 : Int32) + f2))] [])) _
    refine XS.iload X1017.here hx rfl (hb hby at_36) rfl ?_
    show Steps p.tables e below (T1017.setTop (mkF m 38 #[.val (.int u1), .val (.int u2), .val (.int f1), .val (.int f2), .val (.ref b1013), .val (.int (f1 * (8 : Int32) + f2))] [(.int (f1 * (8 : Int32) + f2))])) _
    refine XS.sipush X1017.here hx rfl (hb hby at_38) ?_
    show Steps p.tables e below (T1017.setTop (mkF m 41 #[.val (.int u1), .val (.int u2), .val (.int f1), .val (.int f2), .val (.ref b1013), .val (.int (f1 * (8 : Int32) + f2))] [(.int (191 : Int32)), (.int (f1 * (8 : Int32) + f2))])) _
    refine XS.icmpYes X1017.here hx rfl (pc0 := 41) (pc' := 46) rfl (hb hby at_41) rfl (flt hv2).2.2.2 (by decide) (by decide) ?_
    show Steps p.tables e below (T1017.setTop (mkF m 46 #[.val (.int u1), .val (.int u2), .val (.int f1), .val (.int f2), .val (.ref b1013), .val (.int (f1 * (8 : Int32) + f2))] [])) _
    refine XS.iload X1017.here hx rfl (hb hby at_46) rfl ?_
    show Steps p.tables e below (T1017.setTop (mkF m 48 #[.val (.int u1), .val (.int u2), .val (.int f1), .val (.int f2), .val (.ref b1013), .val (.int (f1 * (8 : Int32) + f2))] [(.int (f1 * (8 : Int32) + f2))])) _
    refine XS.bipush X1017.here hx rfl (hb hby at_48) ?_
    show Steps p.tables e below (T1017.setTop (mkF m 50 #[.val (.int u1), .val (.int u2), .val (.int f1), .val (.int f2), .val (.ref b1013), .val (.int (f1 * (8 : Int32) + f2))] [(.int (8 : Int32)), (.int (f1 * (8 : Int32) + f2))])) _
    refine XS.idiv X1017.here hx rfl (hb hby at_50) rfl (by decide) ?_
    show Steps p.tables e below (T1017.setTop (mkF m 51 #[.val (.int u1), .val (.int u2), .val (.int f1), .val (.int f2), .val (.ref b1013), .val (.int (f1 * (8 : Int32) + f2))] [(.int ((f1 * (8 : Int32) + f2) / (8 : Int32)))])) _
    refine XS.iloadN X1017.here hx rfl (hb hby at_51) rfl ?_
    show Steps p.tables e below (T1017.setTop (mkF m 52 #[.val (.int u1), .val (.int u2), .val (.int f1), .val (.int f2), .val (.ref b1013), .val (.int (f1 * (8 : Int32) + f2))] [(.int f1), (.int ((f1 * (8 : Int32) + f2) / (8 : Int32)))])) _
    refine XS.icmpNo X1017.here hx rfl (hb hby at_52) rfl (teq hv3).2 ?_
    show Steps p.tables e below (T1017.setTop (mkF m 55 #[.val (.int u1), .val (.int u2), .val (.int f1), .val (.int f2), .val (.ref b1013), .val (.int (f1 * (8 : Int32) + f2))] [])) _
    refine XS.iload X1017.here hx rfl (hb hby at_55) rfl ?_
    show Steps p.tables e below (T1017.setTop (mkF m 57 #[.val (.int u1), .val (.int u2), .val (.int f1), .val (.int f2), .val (.ref b1013), .val (.int (f1 * (8 : Int32) + f2))] [(.int (f1 * (8 : Int32) + f2))])) _
    refine XS.bipush X1017.here hx rfl (hb hby at_57) ?_
    show Steps p.tables e below (T1017.setTop (mkF m 59 #[.val (.int u1), .val (.int u2), .val (.int f1), .val (.int f2), .val (.ref b1013), .val (.int (f1 * (8 : Int32) + f2))] [(.int (8 : Int32)), (.int (f1 * (8 : Int32) + f2))])) _
    refine iremM X1017 hx rfl (hb hby at_59) rfl (by decide) ?_
    show Steps p.tables e below (T1017.setTop (mkF m 60 #[.val (.int u1), .val (.int u2), .val (.int f1), .val (.int f2), .val (.ref b1013), .val (.int (f1 * (8 : Int32) + f2))] [(.int ((f1 * (8 : Int32) + f2) % (8 : Int32)))])) _
    refine XS.iloadN X1017.here hx rfl (hb hby at_60) rfl ?_
    show Steps p.tables e below (T1017.setTop (mkF m 61 #[.val (.int u1), .val (.int u2), .val (.int f1), .val (.int f2), .val (.ref b1013), .val (.int (f1 * (8 : Int32) + f2))] [(.int f2), (.int ((f1 * (8 : Int32) + f2) % (8 : Int32)))])) _
    refine XS.icmpNo X1017.here hx rfl (hb hby at_61) rfl (teq hv4).2 ?_
    show Steps p.tables e below (T1017.setTop (mkF m 64 #[.val (.int u1), .val (.int u2), .val (.int f1), .val (.int f2), .val (.ref b1013), .val (.int (f1 * (8 : Int32) + f2))] [])) _
    refine XS.iconst X1017.here hx rfl (hb hby at_64) ?_
    show Steps p.tables e below (T1017.setTop (mkF m 65 #[.val (.int u1), .val (.int u2), .val (.int f1), .val (.int f2), .val (.ref b1013), .val (.int (f1 * (8 : Int32) + f2))] [(.int (1 : Int32))])) _
    refine XS.goto X1017.here hx rfl (pc0 := 65) (pc' := 69) rfl (hb hby at_65) (by decide) (by decide) ?_
    show Steps p.tables e below (T1017.setTop (mkF m 69 #[.val (.int u1), .val (.int u2), .val (.int f1), .val (.int f2), .val (.ref b1013), .val (.int (f1 * (8 : Int32) + f2))] [(.int (1 : Int32))])) _
    exact k)
  obtain ⟨fs, hr, hrun, hended, hW, hsame⟩ := X1017.leave (v := some (.int (1 : Int32))) (fun h => by rw [Bd.returns] at h; cases h)
  refine ⟨_, _, P1018 _ ?_, hrun, hended, _, _, rfl, ?_, ⟨_, rfl⟩, hW, hsame.mono (by decide) (by decide)⟩
  · exact retN X1017 hx (t := .boolean) Bd.returns (by simp) (hb hby at_69) hr
  · show Q_law Z u1 u2 h0 n0 _ T1017.heap _
    rw [e26]
    exact ⟨rfl, N1017⟩
set_option maxRecDepth 65536 in
set_option maxHeartbeats 40000000 in
theorem comes_1 {Post : Tables → Env → Array Value → State → Outcome → State → Prop} (hpost : ∀ tb e args s v u, (limb_1_1.after args s (.returned v) u = true ∧ limb_1_2.after args s (.returned v) u = true ∧ True) → FrameEnd s (.returned v) u (Jvm.fieldLocs frame_1_writes args s ++ Jvm.arrayLocs frame_1_arrays args s ++ Jvm.staticLocs frame_1_statics s) 16 128 → Post tb e args s (.returned v) u) :
    ArmFor flags0 classFile x code maxLocals ret World_1 tables_1 room_1 Calls_1 rest_1 Pre_1 Post := by
  intro l hfl _ _ p e ha hc hk s m args below hf hA hF happ hP
  obtain ⟨hcalls, hrest, hpre⟩ := hP
  obtain ⟨-, -, -, hnamed, -, -, -, hat⟩ := (Spec.applies_iff hf).mp happ
  obtain ⟨hg, hn⟩ := and_e (Cond.before_iff.mp (show (Jvm.Cond.and given_1 narrow_1).before args s = true from hpre))
  obtain ⟨g1, g2⟩ := and_e hg
  obtain ⟨g3, g4⟩ := and_e g2
  obtain ⟨w0, w1, rfl⟩ : ∃ w0 w1 : Value, args = #[w0, w1] := by
    have hs : args.size = 2 := by simpa [Cond.value, given_1] using g1
    obtain ⟨L⟩ := args
    match L, hs with
    | [w0, w1], _ => exact ⟨w0, w1, rfl⟩
  have hw := fun d (hd : d ∈ tables_1) => atoms_spec (ws := Jvm.Cond.code x code maxLocals ret :: tables_1) hat d (List.mem_cons_of_mem _ hd)
  have hfit : Fit s := fun {y c} hc i hi => by
    obtain ⟨ha, rfl⟩ := Array.getElem?_eq_some_iff.mp hc
    have q := List.all_eq_true.mp ((Array.all_eq_true_iff_forall_mem.mp hF) _ (Array.getElem_mem ha)) i (List.mem_range.mpr hi)
    simpa [Array.getElem?_eq_getElem hi] using q
  obtain ⟨i0, ei0⟩ := is_v g3
  obtain rfl : w0 = (.int i0) := Option.some.inj ei0
  obtain ⟨i1, ei1⟩ := is_v g4
  obtain rfl : w1 = (.int i1) := Option.some.inj ei1
  obtain ⟨n, o, h1, h2, h3, _, L, rfl, ⟨rfl, N⟩, hq⟩ := rm_law l s _ hw tables_1 i0 i1 s.heap s.heap.size (Nat.le_refl _)  p e ha hc hk s m _ below hf ((Spec.applies_iff_loose hf).mp happ).1 ⟨rfl, State.Warmed39.refl s, rfl⟩ trivial
  refine ⟨n, _, h1, h2, h3, hpost _ _ _ _ _ _ ⟨Cond.after_iff.mpr rfl, Cond.after_iff.mpr (eq_i res_at (Term.int_eval (1)) rfl), trivial⟩ ⟨hq.1, hq.2.1, (hq.2.2.sift fun y hy => Or.inr (N y hy)).mono (by decide) (by decide)⟩⟩
theorem main_1_1 : Claimed_1_1 := comes_1 fun _ _ _ _ _ _ h hF => ⟨h.1, hF⟩
theorem main_1_2 : Claimed_1_2 := comes_1 fun _ _ _ _ _ _ h hF => ⟨h.2.1, hF⟩
end Jvm.Pilot.@@N@@
namespace Jvm.Pilot.@@N@@
open Jvm Jvm.ClassFile Sem Op Lib Jvm.Free Jvm.Stand Jvm.Pilot.@@N@@.Jvm.D
/-! MADE BY PROGRAM (witnessworld.py) out of the Statement's table words and the real class files: 10 classes; the members and pool entries that the words name. The judged class is class 1, her method 1. -/
namespace start1
open Jvm.ClassFile
def u (s : String) : CpInfo := .utf8 (stringToUtf16 s)
/-- a pool by its gaps: so many unusable entries, then the entry; so many at the end -/
def gap : Nat → List CpInfo → List CpInfo
  | 0, r => r
  | n + 1, r => .unusable :: gap n r
def poolList (es : List (Nat × CpInfo)) (last : Nat) : List CpInfo := es.foldr (fun e r => gap e.1 (e.2 :: r)) (gap last [])
def pool (es : List (Nat × CpInfo)) (last : Nat) : Array CpInfo := ⟨poolList es last⟩
def fileOf (pool : Array CpInfo) (this : Nat) (attrs : Array Attribute := #[]) (ms : Array MethodInfo := #[]) (fl : Nat := 33) (sup : Nat := 0) (ifs : Array Nat := #[]) (fds : Array FieldInfo := #[]) : ClassFile where
  minorVersion := 0
  majorVersion := 65
  constantPool := pool
  accessFlags := fl
  thisClass := this
  superClass := sup
  interfaces := ifs
  fields := fds
  methods := ms
  attributes := attrs
def plain (name : String) (sup : Option ClassId) : Class where
  name := name
  kind := .ordinary
  loader := none
  accessFlags := 33
  super := sup
  interfaces := #[]
  cf := none
  fields := #[]
  methods := #[]
  instanceTypes := #[]
  staticTypes := #[]
  resolved := #[]
  callSites := []
  init := .initialized
  statics := none
  mirror := none

def pool0 : Array CpInfo := pool [(5, u "<init>"), (0, u "()V"), (1, .class_ 10), (1, u "java/lang/Object")] 113

def k0c0 : Code := { maxStack := 0, maxLocals := 1, code := object_method_1_code, exceptionTable := #[], attributes := #[] }
def k0m0 : Method := { name := "<init>", desc := "()V", sig := { parameters := [], returnType := none }, accessFlags := 1, code := some k0c0 }
/-- java/lang/Object -/
def k0 : Class := { plain "java/lang/Object" none with
  accessFlags := 33
  interfaces := #[]
  cf := some (fileOf pool0 8 #[] #[{ accessFlags := 1, nameIndex := 5, descriptorIndex := 6, attributes := #[] }] 33 0 #[] #[])
  fields := #[]
  methods := #[k0m0]
  instanceTypes := #[]
  staticTypes := #[]
  resolved := Array.replicate 124 none
  statics := none }

def pool1 : Array CpInfo := pool [(2, .class_ 4), (1, u "java/lang/Object"), (0, u "<init>"), (0, u "()V"), (0, .integer 2147483647), (0, .class_ 9), (0, u "com/example/pumphandle/pumphandle/syslog/Priority"), (0, .methodref 8 11), (0, .nameAndType 5 12), (0, u "(II)V"), (0, .methodref 8 14), (0, .nameAndType 15 16), (0, u "value"), (0, u "()I"), (0, .class_ 18), (0, u "com/example/pumphandle/pumphandle/syslog/PriorityValuePinLaw"), (2, u "law"), (0, u "(II)Z")] 3

def k1m0 : Method := { name := "<init>", desc := "()V", sig := { parameters := [], returnType := none }, accessFlags := 1, code := none }
def k1c1 : Code := { maxStack := 4, maxLocals := 6, code := code, exceptionTable := #[], attributes := #[] }
def k1m1 : Method := { name := "law", desc := "(II)Z", sig := { parameters := [.int, .int], returnType := some .boolean }, accessFlags := 9, code := some k1c1 }
/-- com/example/pumphandle/pumphandle/syslog/PriorityValuePinLaw -/
def k1 : Class := { plain "com/example/pumphandle/pumphandle/syslog/PriorityValuePinLaw" (some 0) with
  accessFlags := 49
  interfaces := #[]
  cf := some (fileOf pool1 17 #[] #[{ accessFlags := 1, nameIndex := 5, descriptorIndex := 6, attributes := #[] }, { accessFlags := 9, nameIndex := 21, descriptorIndex := 22, attributes := #[] }] 49 2 #[] #[])
  fields := #[]
  methods := #[k1m0, k1m1]
  instanceTypes := #[]
  staticTypes := #[]
  resolved := Array.replicate 26 none
  statics := none }

def pool2 : Array CpInfo := pool [(1, .methodref 2 3), (0, .class_ 4), (0, .nameAndType 5 6), (0, u "java/lang/Object"), (0, u "<init>"), (0, u "()V"), (0, .class_ 8), (0, u "java/lang/Record")] 13

def k2c0 : Code := { maxStack := 1, maxLocals := 1, code := jdk_30_method_1_code, exceptionTable := #[], attributes := #[] }
def k2m0 : Method := { name := "<init>", desc := "()V", sig := { parameters := [], returnType := none }, accessFlags := 4, code := some k2c0 }
/-- java/lang/Record -/
def k2 : Class := { plain "java/lang/Record" (some 0) with
  accessFlags := 1057
  interfaces := #[]
  cf := some (fileOf pool2 7 #[] #[{ accessFlags := 4, nameIndex := 5, descriptorIndex := 6, attributes := #[] }] 1057 2 #[] #[])
  fields := #[]
  methods := #[k2m0]
  instanceTypes := #[]
  staticTypes := #[]
  resolved := Array.replicate 22 none
  statics := none }

def pool3 : Array CpInfo := pool [(1, .class_ 2), (0, u "com/example/pumphandle/pumphandle/syslog/Priority"), (0, .methodref 4 5), (0, .class_ 6), (0, .nameAndType 7 8), (0, u "java/lang/Record"), (0, u "<init>"), (0, u "()V"), (10, .fieldref 1 20), (0, .nameAndType 21 22), (0, u "facility"), (0, u "I"), (0, .fieldref 1 24), (0, .nameAndType 25 22), (0, u "severity"), (3, u "(II)V"), (5, u "()I"), (24, u "SEVERITIES"), (2, u "MAX_FACILITY"), (1, u "MAX_PRIVAL"), (1, u "MAX_PRIVAL_DIGITS"), (7, u "value")] 35

def k3c0 : Code := { maxStack := 3, maxLocals := 3, code := prog_48_method_1_code, exceptionTable := #[], attributes := #[] }
def k3m0 : Method := { name := "<init>", desc := "(II)V", sig := { parameters := [.int, .int], returnType := none }, accessFlags := 1, code := some k3c0 }
def k3c1 : Code := { maxStack := 2, maxLocals := 1, code := prog_48_method_4_code, exceptionTable := #[], attributes := #[] }
def k3m1 : Method := { name := "value", desc := "()I", sig := { parameters := [], returnType := some .int }, accessFlags := 1, code := some k3c1 }
/-- com/example/pumphandle/pumphandle/syslog/Priority -/
def k3 : Class := { plain "com/example/pumphandle/pumphandle/syslog/Priority" (some 2) with
  accessFlags := 49
  interfaces := #[]
  cf := some (fileOf pool3 1 #[] #[{ accessFlags := 1, nameIndex := 7, descriptorIndex := 29, attributes := #[] }, { accessFlags := 1, nameIndex := 75, descriptorIndex := 35, attributes := #[] }] 49 4 #[] #[{ accessFlags := 18, nameIndex := 21, descriptorIndex := 22, attributes := #[] }, { accessFlags := 18, nameIndex := 25, descriptorIndex := 22, attributes := #[] }, { accessFlags := 26, nameIndex := 60, descriptorIndex := 22, attributes := #[] }, { accessFlags := 26, nameIndex := 63, descriptorIndex := 22, attributes := #[] }, { accessFlags := 26, nameIndex := 65, descriptorIndex := 22, attributes := #[] }, { accessFlags := 26, nameIndex := 67, descriptorIndex := 22, attributes := #[] }])
  fields := #[{ name := "facility", type := .int, accessFlags := 18, slot := 0, constantValue := 0 }, { name := "severity", type := .int, accessFlags := 18, slot := 1, constantValue := 0 }, { name := "SEVERITIES", type := .int, accessFlags := 26, slot := 0, constantValue := 0 }, { name := "MAX_FACILITY", type := .int, accessFlags := 26, slot := 1, constantValue := 0 }, { name := "MAX_PRIVAL", type := .int, accessFlags := 26, slot := 2, constantValue := 0 }, { name := "MAX_PRIVAL_DIGITS", type := .int, accessFlags := 26, slot := 3, constantValue := 0 }]
  methods := #[k3m0, k3m1]
  instanceTypes := #[.int, .int]
  staticTypes := #[.int, .int, .int, .int]
  resolved := Array.replicate 111 none
  statics := none }

def pool4 : Array CpInfo := pool [(1, u "java/lang/Cloneable"), (0, .class_ 1), (0, u "java/lang/Object"), (0, .class_ 3)] 3

/-- java/lang/Cloneable -/
def k4 : Class := { plain "java/lang/Cloneable" (some 0) with
  accessFlags := 1537
  interfaces := #[]
  cf := some (fileOf pool4 2 #[] #[] 1537 4 #[] #[])
  fields := #[]
  methods := #[]
  instanceTypes := #[]
  staticTypes := #[]
  resolved := Array.replicate 8 none
  statics := none }

def pool5 : Array CpInfo := pool [(1, u "java/io/Serializable"), (0, .class_ 1), (0, u "java/lang/Object"), (0, .class_ 3)] 3

/-- java/io/Serializable -/
def k5 : Class := { plain "java/io/Serializable" (some 0) with
  accessFlags := 1537
  interfaces := #[]
  cf := some (fileOf pool5 2 #[] #[] 1537 4 #[] #[])
  fields := #[]
  methods := #[]
  instanceTypes := #[]
  staticTypes := #[]
  resolved := Array.replicate 8 none
  statics := none }

/-- the primitive byte -/
def k6 : Class := { plain "byte" none with kind := .primitive 'B', accessFlags := 0x411 }
/-- [B -/
def k7 : Class := { plain "[B" (some 0) with kind := .array 6 .byte, interfaces := #[4, 5], accessFlags := 1041 }

/-- the primitive int -/
def k8 : Class := { plain "int" none with kind := .primitive 'I', accessFlags := 0x411 }
/-- [I -/
def k9 : Class := { plain "[I" (some 0) with kind := .array 8 .int, interfaces := #[4, 5], accessFlags := 1041 }

def heap : Heap := #[]
def classes : Array Class := #[k0, k1, k2, k3, k4, k5, k6, k7, k8, k9]
def interned : List (Array UInt16 × Addr) := []
def slotsUsed : Nat := 0
def theMethod : MethodId := ⟨1, 1⟩
def args0 : Array Value := #[.int 5, .int 3]
def aboutOver (below : List Frame) : State where
  vm := { classes := classes, interned := interned.toArray }
  heap := heap
  slotsUsed := slotsUsed
  threads := #[{ frames := .invoking theMethod args0 :: below }]
def below0 : List Frame := [.native { method := ⟨0, 0⟩, args := #[] }]
def about1 : State := aboutOver below0
def p0 : Program := .bare "" "" ""
def e0 : Env := launch0.env 0 0 0
theorem w_frames : about1.frames = Frame.invoking theMethod args0 :: below0 := rfl
set_option maxRecDepth 65536 in
theorem w_args : argsFit about1.vm theMethod args0 = true := by decide +kernel
set_option maxRecDepth 65536 in
theorem w_heap : heapFits about1 = true := by decide +kernel
set_option maxRecDepth 65536 in
theorem w_runnable : about1.curStatus? = some .runnable := by decide +kernel
set_option maxRecDepth 65536 in
theorem w_alone : about1.alone = true := by decide +kernel
set_option maxRecDepth 65536 in
theorem w_named : about1.methodNamed? x = some theMethod := by decide +kernel
set_option maxRecDepth 65536 in
theorem w_hears : about1.hears theMethod below0 = true := by decide +kernel
set_option maxRecDepth 65536 in
theorem w_ripe : about1.ripe theMethod args0 below0 = true := by decide +kernel
theorem w_running : about1.status = .running := rfl
set_option maxRecDepth 65536 in
theorem w_room : about1.hasRoom e0.platform room_1 = true :=
  launch0.hasRoom_least _ room_1 (by decide +kernel) (by decide +kernel) (by decide +kernel) (by decide +kernel) (by decide +kernel) (by decide +kernel)
theorem allAtoms_all (ts : List Jvm.Cond) (a : Array Jvm.Value) (st : Jvm.State) : (allAtoms ts).before a st = ts.all (fun c => c.before a st) := by
  induction ts with
  | nil => rfl
  | cons c t ih =>
    show (Jvm.Cond.and c (allAtoms t)).before a st = _
    rw [Jvm.Cond.before_and, ih, List.all_cons]
def words1 : List Jvm.Cond := Jvm.Cond.code x code maxLocals ret :: tables_1
/-- a 'code' word, met by the world's own term for the bytes: nothing is compared byte by byte -/
theorem code_word {y : MethodName} {bytes : ByteArray} {mx : Nat} {rt : Option FieldType} {a : Array Value} {s : State} {m : MethodId} {meth : Method} {c : Code} (h1 : s.methodNamed? y = some m) (h2 : s.vm.method? m = some meth) (h3 : meth.code = some c) (h4 : c.code = bytes)
    (h5 : (c.maxLocals == mx && c.exceptionTable.isEmpty && decide (c.maxStack ≤ mostOperands) && decide (meth.sig.returnType = rt) && !meth.locks && decide (parseMethodDescriptor y.desc = some meth.sig)) = true) : (Jvm.Cond.code y bytes mx rt).before a s = true := by
  simp only [Bool.and_eq_true, beq_iff_eq, Bool.not_eq_true', decide_eq_true_eq] at h5
  obtain ⟨⟨⟨⟨⟨g1, g2⟩, g3⟩, g4⟩, g5⟩, g6⟩ := h5
  simp [Cond.before, Cond.holds, Cond.value, h1, h2, h3, h4, g1, g2, g3, g4, g5, g6]
def isCode : Jvm.Cond → Bool
  | .code _ _ _ _ => true
  | _ => false
theorem all_split {L : List Jvm.Cond} {P : Jvm.Cond → Bool} (h1 : L.all (fun c => isCode c || P c) = true) (h2 : ∀ c ∈ L.filter isCode, P c = true) : L.all P = true := by
  refine List.all_eq_true.mpr fun c hc => ?_
  have h := List.all_eq_true.mp h1 c hc
  rcases Bool.eq_false_or_eq_true (isCode c) with hi | hi
  · exact h2 c (List.mem_filter.mpr ⟨hc, hi⟩)
  · simpa [hi] using h
set_option maxRecDepth 65536 in
theorem w_c0 : (Jvm.Cond.code x code maxLocals ret).before args0 about1 = true := code_word (m := ⟨1, 1⟩) (meth := k1m1) (c := k1c1) (by decide +kernel) rfl rfl rfl (by decide +kernel)
set_option maxRecDepth 65536 in
theorem w_c1 : (Jvm.Cond.code ({ cls := "com/example/pumphandle/pumphandle/syslog/Priority", name := "<init>", desc := "(II)V" } : Jvm.MethodName) prog_48_method_1_code (3 : Nat) (Option.none : Option Jvm.ClassFile.FieldType)).before args0 about1 = true := code_word (m := ⟨3, 0⟩) (meth := k3m0) (c := k3c0) (by decide +kernel) rfl rfl rfl (by decide +kernel)
set_option maxRecDepth 65536 in
theorem w_c2 : (Jvm.Cond.code ({ cls := "java/lang/Record", name := "<init>", desc := "()V" } : Jvm.MethodName) jdk_30_method_1_code (1 : Nat) (Option.none : Option Jvm.ClassFile.FieldType)).before args0 about1 = true := code_word (m := ⟨2, 0⟩) (meth := k2m0) (c := k2c0) (by decide +kernel) rfl rfl rfl (by decide +kernel)
set_option maxRecDepth 65536 in
theorem w_c3 : (Jvm.Cond.code ({ cls := "java/lang/Object", name := "<init>", desc := "()V" } : Jvm.MethodName) object_method_1_code (1 : Nat) (Option.none : Option Jvm.ClassFile.FieldType)).before args0 about1 = true := code_word (m := ⟨0, 0⟩) (meth := k0m0) (c := k0c0) (by decide +kernel) rfl rfl rfl (by decide +kernel)
set_option maxRecDepth 65536 in
theorem w_c4 : (Jvm.Cond.code ({ cls := "com/example/pumphandle/pumphandle/syslog/Priority", name := "value", desc := "()I" } : Jvm.MethodName) prog_48_method_4_code (1 : Nat) (Option.some Jvm.ClassFile.FieldType.int)).before args0 about1 = true := code_word (m := ⟨3, 1⟩) (meth := k3m1) (c := k3c1) (by decide +kernel) rfl rfl rfl (by decide +kernel)
def codes1 : List Jvm.Cond := [Jvm.Cond.code x code maxLocals ret, Jvm.Cond.code ({ cls := "com/example/pumphandle/pumphandle/syslog/Priority", name := "<init>", desc := "(II)V" } : Jvm.MethodName) prog_48_method_1_code (3 : Nat) (Option.none : Option Jvm.ClassFile.FieldType), Jvm.Cond.code ({ cls := "java/lang/Record", name := "<init>", desc := "()V" } : Jvm.MethodName) jdk_30_method_1_code (1 : Nat) (Option.none : Option Jvm.ClassFile.FieldType), Jvm.Cond.code ({ cls := "java/lang/Object", name := "<init>", desc := "()V" } : Jvm.MethodName) object_method_1_code (1 : Nat) (Option.none : Option Jvm.ClassFile.FieldType), Jvm.Cond.code ({ cls := "com/example/pumphandle/pumphandle/syslog/Priority", name := "value", desc := "()I" } : Jvm.MethodName) prog_48_method_4_code (1 : Nat) (Option.some Jvm.ClassFile.FieldType.int)]
set_option maxRecDepth 65536 in
theorem codes_eq : words1.filter isCode = codes1 := rfl
theorem w_codes : ∀ c ∈ words1.filter isCode, c.before args0 about1 = true := by
  rw [codes_eq]
  intro c hc
  simp only [codes1, List.mem_cons, List.not_mem_nil, or_false] at hc
  rcases hc with rfl | rfl | rfl | rfl | rfl
  · exact w_c0
  · exact w_c1
  · exact w_c2
  · exact w_c3
  · exact w_c4
set_option maxRecDepth 65536 in
theorem w_t1 : (words1.take 24).all (fun c => isCode c || c.before args0 about1) = true := by decide +kernel
set_option maxRecDepth 65536 in
theorem w_t2 : (words1.drop 24).all (fun c => isCode c || c.before args0 about1) = true := by decide +kernel
theorem w_tables : (allAtoms (Jvm.Cond.code x code maxLocals ret :: tables_1)).before args0 about1 = true := by
  rw [allAtoms_all]
  show words1.all (fun c => c.before args0 about1) = true
  refine all_split ?_ w_codes
  rw [← List.take_append_drop 24 words1, List.all_append, w_t1, w_t2]
  rfl
set_option maxRecDepth 65536 in
theorem w_case : (Jvm.Cond.and given_1 narrow_1).before args0 about1 = true := by decide +kernel
theorem w_applies : (headSpec (Jvm.Cond.code x code maxLocals ret :: tables_1) room_1).applies x e0.platform about1 = true :=
  (Spec.applies_iff w_frames).mpr ⟨w_running, w_runnable, w_alone, w_named, w_hears, w_ripe, w_room, w_tables⟩
theorem atStart : AtStart classFile x code maxLocals ret World_1 tables_1 room_1 Calls_1 rest_1 Pre_1 launch0 p0 e0 about1 theMethod args0 below0 :=
  ⟨lists_1, trivial, launch0.admits_env _ _ _, launch0.least_env, fairChoices_fair.cas, fairChoices_fair.clock, w_frames, w_args, w_heap, w_applies, trivial, trivial, w_case⟩
end start1
theorem witness_1 : WitnessClaimed_1 := ⟨start1.p0, start1.e0, start1.about1, start1.theMethod, start1.args0, start1.below0, start1.atStart⟩
end Jvm.Pilot.@@N@@
