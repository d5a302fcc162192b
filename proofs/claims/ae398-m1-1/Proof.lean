import JvmDerived
import JvmDerived.Pilot.@@N@@Statement
import JvmDerived.Pilot.@@N@@Code
set_option linter.unusedVariables false
set_option linter.unusedSimpArgs false
namespace Jvm.RoadKit
open Sem ClassFile Op Lib Jvm.Stand Jvm.Free Jvm.LawKit
section New
variable {p : Program} {l : Launch} {e : Env} {R : Room} {s : State} {m : MethodId} {args : Array Value} {below : List Frame} {meth : Method} {c : Code} {T : State} {locs : List Loc} {cells slots : Nat}
theorem retI (X : Stand p l e R s m args below meth c T locs cells slots) (hx : p.tables.exec = Jvm.exec) {pc : Nat} {Ls : Array Slot} {z : Int32} {rest : List Value} (hret : meth.sig.returnType = some .int) (hd : decode c.code pc = .ok (.ireturn, 1)) {fs : List Frame}
    (hl : ∀ (f : JFrame) (acts : List Action), f.method = m → f.locked = none → f.entered = [] → (doReturn e (T.setTop f) acts (some (.int z))).1 = T.setFrames fs) : Steps p.tables e below (T.setTop (mkF m pc Ls (.int z :: rest))) (T.setFrames fs) := by
  have hm' : T.vm.method? m = some meth := X.method'
  have hn : narrow .int (.int z) = .int z := rfl
  show Steps p.tables e below (T.setTop { method := m, pc := pc, locals := Ls, stack := _ :: rest, locked := none }) _
  jvm_step X.here [X.here.top, hx, hd, hm', hret, hn]
  first | (intro acts; rw [hl _ acts rfl rfl rfl]) | rw [hl _ _ rfl rfl rfl]
  exact Steps.refl _
end New
end Jvm.RoadKit
namespace Jvm.Pilot.@@N@@
open Jvm Jvm.ClassFile Sem Op Lib Jvm.Free Jvm.Stand Jvm.LawKit Jvm.RoadKit Bundle Jvm.Pilot.@@N@@.Jvm.D
theorem own_cnt (a : Int32) : 1 ≤ ((a &&& (1073741823 : Int32)) % (1073741823 : Int32) + (1 : Int32)).toInt ∧ ((a &&& (1073741823 : Int32)) % (1073741823 : Int32) + (1 : Int32)).toInt ≤ 1073741823 := by
  have m := c_mask a 1073741823 30 (by decide) (by decide)
  have q := (c_irem (a &&& 1073741823) 1073741823 1073741823 (by decide)).1 (by omega)
  have s := c_iadd ((a &&& 1073741823) % 1073741823) 1
  have r := rng32 ((a &&& 1073741823) % 1073741823 + 1)
  have e : (1 : Int32).toInt = 1 := by decide
  omega
theorem own_item (x : Int64) : 1 ≤ ((x &&& (9223372036854775807 : Int64)) % (9223372036854775806 : Int64) + (1 : Int64)).toInt ∧ ((x &&& (9223372036854775807 : Int64)) % (9223372036854775806 : Int64) + (1 : Int64)).toInt ≤ 9223372036854775806 := by
  have m := c_maskL x 9223372036854775807 63 (by decide) (by decide)
  have q := (c_lrem (x &&& 9223372036854775807) 9223372036854775806 9223372036854775806 (by decide)).1 (by omega)
  rw [lrem_mod] at q
  have s := c_ladd ((x &&& 9223372036854775807) % 9223372036854775806) 1
  have r := rng64 ((x &&& 9223372036854775807) % 9223372036854775806 + 1)
  have e : (1 : Int64).toInt = 1 := by decide
  omega
theorem own_nz {w : Int32} (h : 1 ≤ w.toInt) : w.toInt64 ≠ 0 := fun e => by
  have := congrArg Int64.toInt e
  rw [c_i2l] at this
  have e0 : (0 : Int64).toInt = 0 := by decide
  omega
theorem own_of {c w : Int32} {q : Int64} (hc : 1 ≤ c.toInt) (hc' : c.toInt ≤ 1073741823) (hw : 1 ≤ w.toInt) (hw' : w.toInt ≤ 1073741823) (hq : 1 ≤ q.toInt) :
    (c + ((q - (1 : Int64)) % w.toInt64).toInt32).toInt = c.toInt + (q.toInt - 1) % w.toInt ∧ 0 ≤ (q.toInt - 1) % w.toInt ∧ (q.toInt - 1) % w.toInt < w.toInt := by
  have s := c_lsub q 1
  have e1 : (1 : Int64).toInt = 1 := by decide
  have r0 := rng64 q
  have r1 := rng64 (q - 1)
  have e2 : (q - 1).toInt = q.toInt - 1 := by omega
  have m : ((q - 1) % w.toInt64).toInt = (q.toInt - 1) % w.toInt := by
    rw [Int64.toInt_mod, c_i2l, e2, Int.tmod_eq_emod_of_nonneg (by omega)]
  have p0 := Int.emod_nonneg (q.toInt - 1) (show w.toInt ≠ 0 by omega)
  have p1 := Int.emod_lt_of_pos (q.toInt - 1) (show 0 < w.toInt by omega)
  have l := c_l2i ((q - 1) % w.toInt64)
  have r2 := rng32 ((q - 1) % w.toInt64).toInt32
  have a := c_iadd c ((q - 1) % w.toInt64).toInt32
  have r3 := rng32 (c + ((q - 1) % w.toInt64).toInt32)
  refine ⟨?_, p0, p1⟩
  omega
theorem own_mod (i w : Int) (hw : 0 < w) : (i % w = (i - 1) % w + 1 ∧ (i - 1) % w + 1 < w) ∨ (i % w = 0 ∧ (i - 1) % w + 1 = w) := by
  have p0 := Int.emod_nonneg (i - 1) (show w ≠ 0 by omega)
  have p1 := Int.emod_lt_of_pos (i - 1) hw
  have d := Int.mul_ediv_add_emod (i - 1) w
  by_cases h : (i - 1) % w + 1 < w
  · left
    refine ⟨?_, h⟩
    have e : i = ((i - 1) % w + 1) + w * ((i - 1) / w) := by omega
    rw [e, Int.add_mul_emod_self_left, Int.emod_eq_of_lt (by omega) h, ← e]
  · right
    refine ⟨?_, by omega⟩
    have e : i = w * ((i - 1) / w + 1) := by rw [Int.mul_add]; omega
    rw [e, Int.mul_emod_right]
theorem own_all {c w r1 r2 r3 : Int32} {i : Int64} (hc : 1 ≤ c.toInt ∧ c.toInt ≤ 1073741823) (hw : 1 ≤ w.toInt ∧ w.toInt ≤ 1073741823) (hi : 1 ≤ i.toInt ∧ i.toInt ≤ 9223372036854775806)
    (h1 : r1 = c + (((1 : Int64) - (1 : Int64)) % w.toInt64).toInt32) (h2 : r2 = c + ((i - (1 : Int64)) % w.toInt64).toInt32) (h3 : r3 = c + (((i + (1 : Int64)) - (1 : Int64)) % w.toInt64).toInt32) :
    r1 = c ∧ ¬ (r2.toInt64 < c.toInt64) ∧ r2.toInt64 < c.toInt64 + w.toInt64 ∧ ¬ (r3.toInt64 < c.toInt64) ∧ r3.toInt64 < c.toInt64 + w.toInt64 ∧ (r2.toInt64 + (1 : Int64) < c.toInt64 + w.toInt64 → r3.toInt64 = r2.toInt64 + (1 : Int64)) ∧ (¬ (r2.toInt64 + (1 : Int64) < c.toInt64 + w.toInt64) → r3.toInt64 = c.toInt64) := by
  have e1 : (1 : Int64).toInt = 1 := by decide
  have s := c_ladd i 1
  have rs := rng64 (i + 1)
  have es : (i + 1).toInt = i.toInt + 1 := by omega
  have o1 := own_of (q := 1) hc.1 hc.2 hw.1 hw.2 (by omega)
  have o2 := own_of (q := i) hc.1 hc.2 hw.1 hw.2 (by omega)
  have o3 := own_of (q := i + 1) hc.1 hc.2 hw.1 hw.2 (by omega)
  rw [← h1] at o1
  rw [← h2] at o2
  rw [← h3, es] at o3
  rw [e1] at o1
  have z : ((1 : Int) - 1) % w.toInt = 0 := by simp
  rw [z] at o1
  have k := own_mod i.toInt w.toInt (by omega)
  have e3 : i.toInt + 1 - 1 = i.toInt := by omega
  rw [e3] at o3
  have i1 := c_i2l r1
  have i2 := c_i2l r2
  have i3 := c_i2l r3
  have ic := c_i2l c
  have iw := c_i2l w
  have sh := c_ladd c.toInt64 w.toInt64
  have rh := rng64 (c.toInt64 + w.toInt64)
  have s2 := c_ladd r2.toInt64 1
  have r2' := rng64 (r2.toInt64 + 1)
  simp only [Int64.lt_iff_toInt_lt, ← Int64.toInt_inj, ← Int32.toInt_inj]
  generalize (i.toInt - 1) % w.toInt = m1 at *
  generalize i.toInt % w.toInt = m2 at *
  refine ⟨by omega, by omega, by omega, by omega, by omega, fun _ => by omega, fun _ => by omega⟩
theorem ef_rec (m : MethodId) (x0 : Addr) : entryFrame m #[(.ref x0)] 1 = mkF m 0 #[.val (.ref x0)] [] := by first | (simp [entryFrame, mkF, argsToLocals, Value.category]; done) | rfl
def Q_rec (Z : State) (a1 : Addr) (h0 : Heap) (n0 : Nat) (v : Option Value) (h : Heap) (L : List Loc) : Prop := v = none ∧ Fr n0 L ∧ h = h0
theorem pn_0 : plainName "java/lang/Record" = true := by first | (simp [plainName, overriddenIn]; done) | decide +kernel
theorem d2_0 : decode jdk_30_method_1_code 0 = .ok (.aload_n 0, 1) := by decide +kernel
theorem d2_1 : decode jdk_30_method_1_code 1 = .ok (.invokespecial 1, 3) := by decide +kernel
theorem d2_4 : decode jdk_30_method_1_code 4 = .ok (.return_, 1) := by decide +kernel
set_option maxRecDepth 65536 in
set_option maxHeartbeats 40000000 in
theorem rm_rec (l : Launch) (Z : State) (a0 : Array Value) (hw : ∀ d ∈ tables_1, d.before a0 Z = true) (ws : List Jvm.Cond) (a1 : Addr) (h0 : Heap) (n0 : Nat) (Z0 : n0 ≤ h0.size) :
    MetFree l (⟨"java/lang/Record", "<init>", "()V"⟩ : MethodName) (head1 (Jvm.Cond.code (⟨"java/lang/Record", "<init>", "()V"⟩ : MethodName) jdk_30_method_1_code 1 none :: ws) ({ frames := 1, cells := 0, slots := 0, locals := 12 } : Room)) (fun a U => a = #[(.ref a1)] ∧ Z.Warmed39 U.vm ∧ U.heap = h0) (fun _ _ _ _ _ => True) (fun _ U o U' => ∃ v L, o = .returned v ∧ Q_rec Z a1 h0 n0 v U'.heap L ∧ FrameEnd U o U' L ({ frames := 1, cells := 0, slots := 0, locals := 12 } : Room).cells ({ frames := 1, cells := 0, slots := 0, locals := 12 } : Room).slots) := by
  refine MetFree.of_bodySF (plainFor_of_name pn_0) hisR ?_
  intro p e s m args below meth c s₁ Bd hml0 hP hK
  obtain ⟨rfl, hZ, hh⟩ := hP
  have hx := Bd.exec
  have hby := Bd.bytes
  have hml : c.maxLocals = 1 := hml0
  have hown : s.vm.findClass "java/lang/Record" = some m.cls := findClass_of_methodNamed Bd.named
  have hnm := (name_of_methodNamed Bd.named Bd.method).1
  have X0 : Stand p l e ({ frames := 1, cells := 0, slots := 0, locals := 12 } : Room) s m #[(.ref a1)] below meth c s₁ [] 0 0 := Stand.of_body Bd
  have e0 : s₁.heap = h0 := by rw [← hh, Bd.state]; rfl
  have N0 := Fr.nil n0
  have K0 : Keep h0 h0 [] := Keep.refl h0 []
  have P0 : ∀ t, Steps p.tables e below (s₁.setTop (mkF m 0 #[.val (.ref a1)] [])) t → Steps p.tables e below (s₁.setTop (entryFrame m #[(.ref a1)] 1)) t := fun t k => castTop (ef_rec m a1) k
  obtain ⟨T1001, X1001, e1001, st1001⟩ := initO X0 hx hZ hown (hw _ (List.mem_of_getElem? (i := 14) rfl)) (hw _ (List.mem_of_getElem? (i := 15) rfl)) (hw _ (List.mem_of_getElem? (i := 16) rfl)) e0 (g := (mkF m 1 #[.val (.ref a1)] [(.ref a1)])) rfl (by rw [hml]; rfl) rfl (hb hby d2_1) (by decide) (W := 0) (by show 2 * 0 + _ ≤ _; exact Nat.le_of_eq rfl) (by decide)
  have P1002 : ∀ t, Steps p.tables e below (T1001.setTop (mkF m 4 #[.val (.ref a1)] [])) t → Steps p.tables e below (s₁.setTop (entryFrame m #[(.ref a1)] 1)) t := fun t k => P0 t (by
    refine XS.aloadN X0.here hx rfl (hb hby d2_0) rfl rfl ?_
    show Steps p.tables e below (s₁.setTop (mkF m 1 #[.val (.ref a1)] [(.ref a1)])) _
    refine st1001 _ ?_
    show Steps p.tables e below (T1001.setTop (mkF m 4 #[.val (.ref a1)] [])) _
    exact k)
  obtain ⟨fs, hr, hrun, hended, hW, hsame⟩ := X1001.leave (v := none) (fun _ => rfl)
  refine ⟨_, _, P1002 _ ?_, hrun, hended, _, _, rfl, ?_, ⟨_, rfl⟩, hW, hsame.mono (by decide) (by decide)⟩
  · exact X1001.returnOut hx Bd.returns (hb hby d2_4) hr
  · show Q_rec Z a1 h0 n0 _ T1001.heap _
    rw [e1001]
    exact ⟨rfl, N0, rfl⟩
theorem ef_init (m : MethodId) (x0 : Addr) (x1 : Int32) (x2 : Int32) (x3 : UInt64) (x4 : UInt64) : entryFrame m #[(.ref x0), (.int x1), (.int x2), (.double x3), (.double x4)] 7 = mkF m 0 #[.val (.ref x0), .val (.int x1), .val (.int x2), .val (.double x3), .second, .val (.double x4), .second] [] := by first | (simp [entryFrame, mkF, argsToLocals, Value.category]; done) | rfl
def Q_init (Z : State) (a1 : Addr) (u1 : Int32) (u2 : Int32) (d1 : UInt64) (d2 : UInt64) (h0 : Heap) (n0 : Nat) (v : Option Value) (h : Heap) (L : List Loc) : Prop := v = none ∧ Fr n0 L ∧ Keep h0 h [a1] ∧ Exa Z h a1 "com/example/quorumline/quorumline/concurrency/ClientServer" ∧ Fld Z h a1 "com/example/quorumline/quorumline/concurrency/ClientServer" "clients" "I" (.int u1) ∧ Fld Z h a1 "com/example/quorumline/quorumline/concurrency/ClientServer" "servers" "I" (.int u2)
theorem pn_1 : plainName "com/example/quorumline/quorumline/concurrency/ClientServer" = true := by first | (simp [plainName, overriddenIn]; done) | decide +kernel
theorem d1_0 : decode prog_36_method_1_code 0 = .ok (.aload_n 0, 1) := by decide +kernel
theorem d1_1 : decode prog_36_method_1_code 1 = .ok (.invokespecial 1, 3) := by decide +kernel
theorem pd_0 : parseMethodDescriptor "()V" = some ⟨[], none⟩ := by decide +kernel
theorem d1_4 : decode prog_36_method_1_code 4 = .ok (.aload_n 0, 1) := by decide +kernel
theorem d1_5 : decode prog_36_method_1_code 5 = .ok (.iload_n 1, 1) := by decide +kernel
theorem d1_6 : decode prog_36_method_1_code 6 = .ok (.putfield 7, 3) := by decide +kernel
theorem d1_9 : decode prog_36_method_1_code 9 = .ok (.aload_n 0, 1) := by decide +kernel
theorem d1_10 : decode prog_36_method_1_code 10 = .ok (.iload_n 2, 1) := by decide +kernel
theorem d1_11 : decode prog_36_method_1_code 11 = .ok (.putfield 13, 3) := by decide +kernel
theorem d1_14 : decode prog_36_method_1_code 14 = .ok (.aload_n 0, 1) := by decide +kernel
theorem d1_15 : decode prog_36_method_1_code 15 = .ok (.dload_n 3, 1) := by decide +kernel
theorem d1_16 : decode prog_36_method_1_code 16 = .ok (.putfield 16, 3) := by decide +kernel
theorem d1_19 : decode prog_36_method_1_code 19 = .ok (.aload_n 0, 1) := by decide +kernel
theorem d1_20 : decode prog_36_method_1_code 20 = .ok (.dload 5, 2) := by decide +kernel
theorem d1_22 : decode prog_36_method_1_code 22 = .ok (.putfield 20, 3) := by decide +kernel
theorem d1_25 : decode prog_36_method_1_code 25 = .ok (.return_, 1) := by decide +kernel
set_option maxRecDepth 65536 in
set_option maxHeartbeats 40000000 in
theorem rm_init (l : Launch) (Z : State) (a0 : Array Value) (hw : ∀ d ∈ tables_1, d.before a0 Z = true) (ws : List Jvm.Cond) (a1 : Addr) (u1 : Int32) (u2 : Int32) (d1 : UInt64) (d2 : UInt64) (h0 : Heap) (n0 : Nat) (Z0 : n0 ≤ h0.size) (E1 : Exa Z h0 a1 "com/example/quorumline/quorumline/concurrency/ClientServer") (F1 : Fld Z h0 a1 "com/example/quorumline/quorumline/concurrency/ClientServer" "clients" "I" (.int (0 : Int32))) (F2 : Fld Z h0 a1 "com/example/quorumline/quorumline/concurrency/ClientServer" "servers" "I" (.int (0 : Int32))) (F3 : Fld Z h0 a1 "com/example/quorumline/quorumline/concurrency/ClientServer" "clientMips" "D" (.double (0 : UInt64))) (F4 : Fld Z h0 a1 "com/example/quorumline/quorumline/concurrency/ClientServer" "serverMips" "D" (.double (0 : UInt64))) (g1 : n0 ≤ a1) :
    MetFree l (⟨"com/example/quorumline/quorumline/concurrency/ClientServer", "<init>", "(IIDD)V"⟩ : MethodName) (head1 (Jvm.Cond.code (⟨"com/example/quorumline/quorumline/concurrency/ClientServer", "<init>", "(IIDD)V"⟩ : MethodName) prog_36_method_1_code 7 none :: ws) ({ frames := 2, cells := 0, slots := 0, locals := 24 } : Room)) (fun a U => a = #[(.ref a1), (.int u1), (.int u2), (.double d1), (.double d2)] ∧ Z.Warmed39 U.vm ∧ U.heap = h0) (fun _ _ _ _ _ => True) (fun _ U o U' => ∃ v L, o = .returned v ∧ Q_init Z a1 u1 u2 d1 d2 h0 n0 v U'.heap L ∧ FrameEnd U o U' L ({ frames := 2, cells := 0, slots := 0, locals := 24 } : Room).cells ({ frames := 2, cells := 0, slots := 0, locals := 24 } : Room).slots) := by
  refine MetFree.of_bodySF (plainFor_of_name pn_1) hisR ?_
  intro p e s m args below meth c s₁ Bd hml0 hP hK
  obtain ⟨rfl, hZ, hh⟩ := hP
  have hx := Bd.exec
  have hby := Bd.bytes
  have hml : c.maxLocals = 7 := hml0
  have hown : s.vm.findClass "com/example/quorumline/quorumline/concurrency/ClientServer" = some m.cls := findClass_of_methodNamed Bd.named
  have hnm := (name_of_methodNamed Bd.named Bd.method).1
  have X0 : Stand p l e ({ frames := 2, cells := 0, slots := 0, locals := 24 } : Room) s m #[(.ref a1), (.int u1), (.int u2), (.double d1), (.double d2)] below meth c s₁ [] 0 0 := Stand.of_body Bd
  have e0 : s₁.heap = h0 := by rw [← hh, Bd.state]; rfl
  have N0 := Fr.nil n0
  have K0 : Keep h0 h0 [a1] := Keep.refl h0 [a1]
  have P0 : ∀ t, Steps p.tables e below (s₁.setTop (mkF m 0 #[.val (.ref a1), .val (.int u1), .val (.int u2), .val (.double d1), .second, .val (.double d2), .second] [])) t → Steps p.tables e below (s₁.setTop (entryFrame m #[(.ref a1), (.int u1), (.int u2), (.double d1), (.double d2)] 7)) t := fun t k => castTop (ef_init m a1 u1 u2 d1 d2) k
  obtain ⟨_, _, ⟨T1003, L1003, k1003, n1003⟩, -, X1003, ⟨Lc1003, hQ1003, l1003, y1003, z1003⟩, st1003⟩ := X0.specialBack hx (y := (⟨"java/lang/Record", "<init>", "()V"⟩ : MethodName)) rfl hown (mvT hZ (hw _ (List.mem_of_getElem? (i := 9) rfl))) (mvT hZ (hw _ (List.mem_of_getElem? (i := 10) rfl))) (mvT hZ (hw _ (List.mem_of_getElem? (i := 13) rfl))) (by decide) (backOf (W := 0) (rm_rec l Z a0 hw [] a1 h0 n0 Z0 ) hZ (hw _ (List.mem_of_getElem? (i := 13) rfl)) (hw _ (List.mem_of_getElem? (i := 12) rfl)) (by decide) (by decide)) (g := (mkF m 1 #[.val (.ref a1), .val (.int u1), .val (.int u2), .val (.double d1), .second, .val (.double d2), .second] [(.ref a1)])) rfl (by rw [hml]; rfl) (Steps.refl _) (a := a1) (argsL := []) (rest := []) (lenOf pd_0 rfl) rfl (by show 2 * 0 + _ ≤ _; exact Nat.le_of_eq rfl) (hb hby d1_1) (fun _ _ => ⟨rfl, e0, (by decide : 0 + 0 ≤ _), (by decide : 0 + 0 ≤ _)⟩)
  dsimp only [Pt.U, Pt.locs, Pt.cells, Pt.slots] at X1003 l1003 y1003 z1003 st1003 hQ1003
  subst l1003 y1003 z1003
  obtain ⟨rfl, N1003q, e1⟩ := hQ1003
  have N1003 := Fr.app N0 N1003q
  obtain ⟨T1004, h1004, X1004, e1004, W1004, st1004⟩ := putF X1003 hx hZ hown (host := "") (Or.inl (hw _ (List.mem_of_getElem? (i := 17) rfl))) Via.refl e1 F1 E1 (Or.inr ⟨(hw _ (List.mem_of_getElem? (i := 18) rfl)), rfl, hnm⟩) (hw _ (List.mem_of_getElem? (i := 4) rfl)) (ty := .int) (by decide) rfl rfl (g := (mkF m 6 #[.val (.ref a1), .val (.int u1), .val (.int u2), .val (.double d1), .second, .val (.double d2), .second] [(.int u1), (.ref a1)])) rfl rfl (hb hby d1_6)
  have Fw1004 := F1.same W1004
  have c1005_0 := E1.wr W1004
  have c1005_2 := F2.other W1004 (Or.inr (slot_ne (Or.inr (hw _ (List.mem_of_getElem? (i := 20) rfl))) (Or.inr (hw _ (List.mem_of_getElem? (i := 18) rfl))) (by decide) (t := .int) (t' := .int) (by decide) (by decide)))
  have c1005_3 := F3.other W1004 (Or.inr (slot_ne (Or.inr (hw _ (List.mem_of_getElem? (i := 22) rfl))) (Or.inr (hw _ (List.mem_of_getElem? (i := 18) rfl))) (by decide) (t := .double) (t' := .int) (by decide) (by decide)))
  have c1005_4 := F4.other W1004 (Or.inr (slot_ne (Or.inr (hw _ (List.mem_of_getElem? (i := 24) rfl))) (Or.inr (hw _ (List.mem_of_getElem? (i := 18) rfl))) (by decide) (t := .double) (t' := .int) (by decide) (by decide)))
  have Z1004 : n0 ≤ h1004.size := Nat.le_trans Z0 (Nat.le_of_eq W1004.size.symm)
  have K1004 : Keep h0 h1004 [a1] := K0.wr W1004 (Or.inl (List.mem_of_getElem? (i := 0) rfl))
  have N1004 := Fr.snoc X1004 N1003 g1
  obtain ⟨T1006, h1006, X1006, e1006, W1006, st1006⟩ := putF X1004 hx hZ hown (host := "") (Or.inl (hw _ (List.mem_of_getElem? (i := 19) rfl))) Via.refl e1004 c1005_2 c1005_0 (Or.inr ⟨(hw _ (List.mem_of_getElem? (i := 20) rfl)), rfl, hnm⟩) (hw _ (List.mem_of_getElem? (i := 4) rfl)) (ty := .int) (by decide) rfl rfl (g := (mkF m 11 #[.val (.ref a1), .val (.int u1), .val (.int u2), .val (.double d1), .second, .val (.double d2), .second] [(.int u2), (.ref a1)])) rfl rfl (hb hby d1_11)
  have Fw1006 := c1005_2.same W1006
  have c1007_0 := c1005_0.wr W1006
  have c1007_1 := Fw1004.other W1006 (Or.inr (slot_ne (Or.inr (hw _ (List.mem_of_getElem? (i := 18) rfl))) (Or.inr (hw _ (List.mem_of_getElem? (i := 20) rfl))) (by decide) (t := .int) (t' := .int) (by decide) (by decide)))
  have c1007_3 := c1005_3.other W1006 (Or.inr (slot_ne (Or.inr (hw _ (List.mem_of_getElem? (i := 22) rfl))) (Or.inr (hw _ (List.mem_of_getElem? (i := 20) rfl))) (by decide) (t := .double) (t' := .int) (by decide) (by decide)))
  have c1007_4 := c1005_4.other W1006 (Or.inr (slot_ne (Or.inr (hw _ (List.mem_of_getElem? (i := 24) rfl))) (Or.inr (hw _ (List.mem_of_getElem? (i := 20) rfl))) (by decide) (t := .double) (t' := .int) (by decide) (by decide)))
  have Z1006 : n0 ≤ h1006.size := Nat.le_trans Z1004 (Nat.le_of_eq W1006.size.symm)
  have K1006 : Keep h0 h1006 [a1] := K1004.wr W1006 (Or.inl (List.mem_of_getElem? (i := 0) rfl))
  have N1006 := Fr.snoc X1006 N1004 g1
  obtain ⟨T1008, h1008, X1008, e1008, W1008, st1008⟩ := putF X1006 hx hZ hown (host := "") (Or.inl (hw _ (List.mem_of_getElem? (i := 21) rfl))) Via.refl e1006 c1007_3 c1007_0 (Or.inr ⟨(hw _ (List.mem_of_getElem? (i := 22) rfl)), rfl, hnm⟩) (hw _ (List.mem_of_getElem? (i := 4) rfl)) (ty := .double) (by decide) rfl rfl (g := (mkF m 16 #[.val (.ref a1), .val (.int u1), .val (.int u2), .val (.double d1), .second, .val (.double d2), .second] [(.double d1), (.ref a1)])) rfl rfl (hb hby d1_16)
  have Fw1008 := c1007_3.same W1008
  have c1009_0 := c1007_0.wr W1008
  have c1009_1 := c1007_1.other W1008 (Or.inr (slot_ne (Or.inr (hw _ (List.mem_of_getElem? (i := 18) rfl))) (Or.inr (hw _ (List.mem_of_getElem? (i := 22) rfl))) (by decide) (t := .int) (t' := .double) (by decide) (by decide)))
  have c1009_2 := Fw1006.other W1008 (Or.inr (slot_ne (Or.inr (hw _ (List.mem_of_getElem? (i := 20) rfl))) (Or.inr (hw _ (List.mem_of_getElem? (i := 22) rfl))) (by decide) (t := .int) (t' := .double) (by decide) (by decide)))
  have c1009_4 := c1007_4.other W1008 (Or.inr (slot_ne (Or.inr (hw _ (List.mem_of_getElem? (i := 24) rfl))) (Or.inr (hw _ (List.mem_of_getElem? (i := 22) rfl))) (by decide) (t := .double) (t' := .double) (by decide) (by decide)))
  have Z1008 : n0 ≤ h1008.size := Nat.le_trans Z1006 (Nat.le_of_eq W1008.size.symm)
  have K1008 : Keep h0 h1008 [a1] := K1006.wr W1008 (Or.inl (List.mem_of_getElem? (i := 0) rfl))
  have N1008 := Fr.snoc X1008 N1006 g1
  obtain ⟨T1010, h1010, X1010, e1010, W1010, st1010⟩ := putF X1008 hx hZ hown (host := "") (Or.inl (hw _ (List.mem_of_getElem? (i := 23) rfl))) Via.refl e1008 c1009_4 c1009_0 (Or.inr ⟨(hw _ (List.mem_of_getElem? (i := 24) rfl)), rfl, hnm⟩) (hw _ (List.mem_of_getElem? (i := 4) rfl)) (ty := .double) (by decide) rfl rfl (g := (mkF m 22 #[.val (.ref a1), .val (.int u1), .val (.int u2), .val (.double d1), .second, .val (.double d2), .second] [(.double d2), (.ref a1)])) rfl rfl (hb hby d1_22)
  have Fw1010 := c1009_4.same W1010
  have c1011_0 := c1009_0.wr W1010
  have c1011_1 := c1009_1.other W1010 (Or.inr (slot_ne (Or.inr (hw _ (List.mem_of_getElem? (i := 18) rfl))) (Or.inr (hw _ (List.mem_of_getElem? (i := 24) rfl))) (by decide) (t := .int) (t' := .double) (by decide) (by decide)))
  have c1011_2 := c1009_2.other W1010 (Or.inr (slot_ne (Or.inr (hw _ (List.mem_of_getElem? (i := 20) rfl))) (Or.inr (hw _ (List.mem_of_getElem? (i := 24) rfl))) (by decide) (t := .int) (t' := .double) (by decide) (by decide)))
  have c1011_3 := Fw1008.other W1010 (Or.inr (slot_ne (Or.inr (hw _ (List.mem_of_getElem? (i := 22) rfl))) (Or.inr (hw _ (List.mem_of_getElem? (i := 24) rfl))) (by decide) (t := .double) (t' := .double) (by decide) (by decide)))
  have Z1010 : n0 ≤ h1010.size := Nat.le_trans Z1008 (Nat.le_of_eq W1010.size.symm)
  have K1010 : Keep h0 h1010 [a1] := K1008.wr W1010 (Or.inl (List.mem_of_getElem? (i := 0) rfl))
  have N1010 := Fr.snoc X1010 N1008 g1
  have P1012 : ∀ t, Steps p.tables e below (T1010.setTop (mkF m 25 #[.val (.ref a1), .val (.int u1), .val (.int u2), .val (.double d1), .second, .val (.double d2), .second] [])) t → Steps p.tables e below (s₁.setTop (entryFrame m #[(.ref a1), (.int u1), (.int u2), (.double d1), (.double d2)] 7)) t := fun t k => P0 t (by
    refine XS.aloadN X0.here hx rfl (hb hby d1_0) rfl rfl ?_
    show Steps p.tables e below (s₁.setTop (mkF m 1 #[.val (.ref a1), .val (.int u1), .val (.int u2), .val (.double d1), .second, .val (.double d2), .second] [(.ref a1)])) _
    refine st1003.trans ?_
    show Steps p.tables e below (T1003.setTop (mkF m 4 #[.val (.ref a1), .val (.int u1), .val (.int u2), .val (.double d1), .second, .val (.double d2), .second] [])) _
    refine XS.aloadN X1003.here hx rfl (hb hby d1_4) rfl rfl ?_
    show Steps p.tables e below (T1003.setTop (mkF m 5 #[.val (.ref a1), .val (.int u1), .val (.int u2), .val (.double d1), .second, .val (.double d2), .second] [(.ref a1)])) _
    refine XS.iloadN X1003.here hx rfl (hb hby d1_5) rfl ?_
    show Steps p.tables e below (T1003.setTop (mkF m 6 #[.val (.ref a1), .val (.int u1), .val (.int u2), .val (.double d1), .second, .val (.double d2), .second] [(.int u1), (.ref a1)])) _
    refine st1004 _ ?_
    show Steps p.tables e below (T1004.setTop (mkF m 9 #[.val (.ref a1), .val (.int u1), .val (.int u2), .val (.double d1), .second, .val (.double d2), .second] [])) _
    refine XS.aloadN X1004.here hx rfl (hb hby d1_9) rfl rfl ?_
    show Steps p.tables e below (T1004.setTop (mkF m 10 #[.val (.ref a1), .val (.int u1), .val (.int u2), .val (.double d1), .second, .val (.double d2), .second] [(.ref a1)])) _
    refine XS.iloadN X1004.here hx rfl (hb hby d1_10) rfl ?_
    show Steps p.tables e below (T1004.setTop (mkF m 11 #[.val (.ref a1), .val (.int u1), .val (.int u2), .val (.double d1), .second, .val (.double d2), .second] [(.int u2), (.ref a1)])) _
    refine st1006 _ ?_
    show Steps p.tables e below (T1006.setTop (mkF m 14 #[.val (.ref a1), .val (.int u1), .val (.int u2), .val (.double d1), .second, .val (.double d2), .second] [])) _
    refine XS.aloadN X1006.here hx rfl (hb hby d1_14) rfl rfl ?_
    show Steps p.tables e below (T1006.setTop (mkF m 15 #[.val (.ref a1), .val (.int u1), .val (.int u2), .val (.double d1), .second, .val (.double d2), .second] [(.ref a1)])) _
    refine XS.dloadN X1006.here hx rfl (hb hby d1_15) rfl ?_
    show Steps p.tables e below (T1006.setTop (mkF m 16 #[.val (.ref a1), .val (.int u1), .val (.int u2), .val (.double d1), .second, .val (.double d2), .second] [(.double d1), (.ref a1)])) _
    refine st1008 _ ?_
    show Steps p.tables e below (T1008.setTop (mkF m 19 #[.val (.ref a1), .val (.int u1), .val (.int u2), .val (.double d1), .second, .val (.double d2), .second] [])) _
    refine XS.aloadN X1008.here hx rfl (hb hby d1_19) rfl rfl ?_
    show Steps p.tables e below (T1008.setTop (mkF m 20 #[.val (.ref a1), .val (.int u1), .val (.int u2), .val (.double d1), .second, .val (.double d2), .second] [(.ref a1)])) _
    refine XS.dload X1008.here hx rfl (hb hby d1_20) rfl ?_
    show Steps p.tables e below (T1008.setTop (mkF m 22 #[.val (.ref a1), .val (.int u1), .val (.int u2), .val (.double d1), .second, .val (.double d2), .second] [(.double d2), (.ref a1)])) _
    refine st1010 _ ?_
    show Steps p.tables e below (T1010.setTop (mkF m 25 #[.val (.ref a1), .val (.int u1), .val (.int u2), .val (.double d1), .second, .val (.double d2), .second] [])) _
    exact k)
  obtain ⟨fs, hr, hrun, hended, hW, hsame⟩ := X1010.leave (v := none) (fun _ => rfl)
  refine ⟨_, _, P1012 _ ?_, hrun, hended, _, _, rfl, ?_, ⟨_, rfl⟩, hW, hsame.mono (by decide) (by decide)⟩
  · exact X1010.returnOut hx Bd.returns (hb hby d1_25) hr
  · show Q_init Z a1 u1 u2 d1 d2 h0 n0 _ T1010.heap _
    rw [e1010]
    exact ⟨rfl, N1010, K1010, c1011_0, c1011_1, c1011_2⟩
theorem ef_so (m : MethodId) (x0 : Addr) (x1 : Int64) : entryFrame m #[(.ref x0), (.long x1)] 3 = mkF m 0 #[.val (.ref x0), .val (.long x1), .second] [] := by first | (simp [entryFrame, mkF, argsToLocals, Value.category]; done) | rfl
def Q_so (Z : State) (a1 : Addr) (u1 : Int32) (u2 : Int32) (q1 : Int64) (h0 : Heap) (n0 : Nat) (v : Option Value) (h : Heap) (L : List Loc) : Prop := ∃ r : Int32, v = some (.int r) ∧ Fr n0 L ∧ h = h0 ∧ r = u1 + ((q1 - (1 : Int64)) % u2.toInt64).toInt32
theorem d4_0 : decode prog_36_method_3_code 0 = .ok (.aload_n 0, 1) := by decide +kernel
theorem d4_1 : decode prog_36_method_3_code 1 = .ok (.getfield 7, 3) := by decide +kernel
theorem d4_4 : decode prog_36_method_3_code 4 = .ok (.lload_n 1, 1) := by decide +kernel
theorem d4_5 : decode prog_36_method_3_code 5 = .ok (.lconst 1, 1) := by decide +kernel
theorem d4_6 : decode prog_36_method_3_code 6 = .ok (.lsub, 1) := by decide +kernel
theorem d4_7 : decode prog_36_method_3_code 7 = .ok (.aload_n 0, 1) := by decide +kernel
theorem d4_8 : decode prog_36_method_3_code 8 = .ok (.getfield 13, 3) := by decide +kernel
theorem d4_11 : decode prog_36_method_3_code 11 = .ok (.i2l, 1) := by decide +kernel
theorem d4_12 : decode prog_36_method_3_code 12 = .ok (.lrem, 1) := by decide +kernel
theorem d4_13 : decode prog_36_method_3_code 13 = .ok (.l2i, 1) := by decide +kernel
theorem d4_14 : decode prog_36_method_3_code 14 = .ok (.iadd, 1) := by decide +kernel
theorem d4_15 : decode prog_36_method_3_code 15 = .ok (.ireturn, 1) := by decide +kernel
set_option maxRecDepth 65536 in
set_option maxHeartbeats 40000000 in
theorem rm_so (l : Launch) (Z : State) (a0 : Array Value) (hw : ∀ d ∈ tables_1, d.before a0 Z = true) (ws : List Jvm.Cond) (a1 : Addr) (u1 : Int32) (u2 : Int32) (q1 : Int64) (h0 : Heap) (n0 : Nat) (Z0 : n0 ≤ h0.size) (F1 : Fld Z h0 a1 "com/example/quorumline/quorumline/concurrency/ClientServer" "clients" "I" (.int u1)) (F2 : Fld Z h0 a1 "com/example/quorumline/quorumline/concurrency/ClientServer" "servers" "I" (.int u2)) (hz : u2.toInt64 ≠ 0) :
    MetFree l (⟨"com/example/quorumline/quorumline/concurrency/ClientServer", "serverOf", "(J)I"⟩ : MethodName) (head1 (Jvm.Cond.code (⟨"com/example/quorumline/quorumline/concurrency/ClientServer", "serverOf", "(J)I"⟩ : MethodName) prog_36_method_3_code 3 (some .int) :: ws) ({ frames := 0, cells := 0, slots := 0, locals := 0 } : Room)) (fun a U => a = #[(.ref a1), (.long q1)] ∧ Z.Warmed39 U.vm ∧ U.heap = h0) (fun _ _ _ _ _ => True) (fun _ U o U' => ∃ v L, o = .returned v ∧ Q_so Z a1 u1 u2 q1 h0 n0 v U'.heap L ∧ FrameEnd U o U' L ({ frames := 0, cells := 0, slots := 0, locals := 0 } : Room).cells ({ frames := 0, cells := 0, slots := 0, locals := 0 } : Room).slots) := by
  refine MetFree.of_bodySF (plainFor_of_name pn_1) hisR ?_
  intro p e s m args below meth c s₁ Bd hml0 hP hK
  obtain ⟨rfl, hZ, hh⟩ := hP
  have hx := Bd.exec
  have hby := Bd.bytes
  have hml : c.maxLocals = 3 := hml0
  have hown : s.vm.findClass "com/example/quorumline/quorumline/concurrency/ClientServer" = some m.cls := findClass_of_methodNamed Bd.named
  have hnm := (name_of_methodNamed Bd.named Bd.method).1
  have X0 : Stand p l e ({ frames := 0, cells := 0, slots := 0, locals := 0 } : Room) s m #[(.ref a1), (.long q1)] below meth c s₁ [] 0 0 := Stand.of_body Bd
  have e0 : s₁.heap = h0 := by rw [← hh, Bd.state]; rfl
  have N0 := Fr.nil n0
  have K0 : Keep h0 h0 [] := Keep.refl h0 []
  have P0 : ∀ t, Steps p.tables e below (s₁.setTop (mkF m 0 #[.val (.ref a1), .val (.long q1), .second] [])) t → Steps p.tables e below (s₁.setTop (entryFrame m #[(.ref a1), (.long q1)] 3)) t := fun t k => castTop (ef_so m a1 q1) k
  obtain ⟨T1013, X1013, e1013, st1013⟩ := getF X0 hx hZ hown (host := "") (Or.inl (hw _ (List.mem_of_getElem? (i := 17) rfl))) Via.refl e0 F1 (g := (mkF m 1 #[.val (.ref a1), .val (.long q1), .second] [(.ref a1)])) rfl rfl (hb hby d4_1)
  obtain ⟨T1014, X1014, e1014, st1014⟩ := getF X1013 hx hZ hown (host := "") (Or.inl (hw _ (List.mem_of_getElem? (i := 19) rfl))) Via.refl e1013 F2 (g := (mkF m 8 #[.val (.ref a1), .val (.long q1), .second] [(.ref a1), (.long (q1 - (1 : Int64))), (.int u1)])) rfl rfl (hb hby d4_8)
  have P1015 : ∀ t, Steps p.tables e below (T1014.setTop (mkF m 15 #[.val (.ref a1), .val (.long q1), .second] [(.int (u1 + (((q1 - (1 : Int64)) % (u2.toInt64)).toInt32)))])) t → Steps p.tables e below (s₁.setTop (entryFrame m #[(.ref a1), (.long q1)] 3)) t := fun t k => P0 t (by
    refine XS.aloadN X0.here hx rfl (hb hby d4_0) rfl rfl ?_
    show Steps p.tables e below (s₁.setTop (mkF m 1 #[.val (.ref a1), .val (.long q1), .second] [(.ref a1)])) _
    refine st1013 _ ?_
    show Steps p.tables e below (T1013.setTop (mkF m 4 #[.val (.ref a1), .val (.long q1), .second] [(.int u1)])) _
    refine XS.lloadN X1013.here hx rfl (hb hby d4_4) rfl ?_
    show Steps p.tables e below (T1013.setTop (mkF m 5 #[.val (.ref a1), .val (.long q1), .second] [(.long q1), (.int u1)])) _
    refine XS.lconst X1013.here hx rfl (hb hby d4_5) ?_
    show Steps p.tables e below (T1013.setTop (mkF m 6 #[.val (.ref a1), .val (.long q1), .second] [(.long (1 : Int64)), (.long q1), (.int u1)])) _
    refine XS.lsub X1013.here hx rfl (hb hby d4_6) rfl ?_
    show Steps p.tables e below (T1013.setTop (mkF m 7 #[.val (.ref a1), .val (.long q1), .second] [(.long (q1 - (1 : Int64))), (.int u1)])) _
    refine XS.aloadN X1013.here hx rfl (hb hby d4_7) rfl rfl ?_
    show Steps p.tables e below (T1013.setTop (mkF m 8 #[.val (.ref a1), .val (.long q1), .second] [(.ref a1), (.long (q1 - (1 : Int64))), (.int u1)])) _
    refine st1014 _ ?_
    show Steps p.tables e below (T1014.setTop (mkF m 11 #[.val (.ref a1), .val (.long q1), .second] [(.int u2), (.long (q1 - (1 : Int64))), (.int u1)])) _
    refine XS.i2l X1014.here hx rfl (hb hby d4_11) rfl ?_
    show Steps p.tables e below (T1014.setTop (mkF m 12 #[.val (.ref a1), .val (.long q1), .second] [(.long (u2.toInt64)), (.long (q1 - (1 : Int64))), (.int u1)])) _
    refine XS.lrem X1014.here hx rfl (hb hby d4_12) rfl hz ?_
    rw [lrem_mod]
    show Steps p.tables e below (T1014.setTop (mkF m 13 #[.val (.ref a1), .val (.long q1), .second] [(.long ((q1 - (1 : Int64)) % (u2.toInt64))), (.int u1)])) _
    refine XS.l2i X1014.here hx rfl (hb hby d4_13) rfl ?_
    show Steps p.tables e below (T1014.setTop (mkF m 14 #[.val (.ref a1), .val (.long q1), .second] [(.int (((q1 - (1 : Int64)) % (u2.toInt64)).toInt32)), (.int u1)])) _
    refine XS.iadd X1014.here hx rfl (hb hby d4_14) rfl ?_
    show Steps p.tables e below (T1014.setTop (mkF m 15 #[.val (.ref a1), .val (.long q1), .second] [(.int (u1 + (((q1 - (1 : Int64)) % (u2.toInt64)).toInt32)))])) _
    exact k)
  obtain ⟨fs, hr, hrun, hended, hW, hsame⟩ := X1014.leave (v := some (.int (u1 + (((q1 - (1 : Int64)) % (u2.toInt64)).toInt32)))) (fun h => by rw [Bd.returns] at h; cases h)
  refine ⟨_, _, P1015 _ ?_, hrun, hended, _, _, rfl, ?_, ⟨_, rfl⟩, hW, hsame.mono (by decide) (by decide)⟩
  · exact retI X1014 hx Bd.returns (hb hby d4_15) hr
  · show Q_so Z a1 u1 u2 q1 h0 n0 _ T1014.heap _
    rw [e1014]
    exact ⟨_, rfl, N0, rfl, rfl⟩
theorem ef_law (m : MethodId) (x0 : Int32) (x1 : Int32) (x2 : Int64) : entryFrame m #[(.int x0), (.int x1), (.long x2)] maxLocals = mkF m 0 #[.val (.int x0), .val (.int x1), .val (.long x2), .second, .unset, .unset, .unset, .unset, .unset, .unset, .unset, .unset, .unset, .unset, .unset, .unset, .unset, .unset, .unset] [] := by first | (simp [entryFrame, mkF, argsToLocals, Value.category, maxLocals]; done) | rfl
def Q_law (Z : State) (u1 : Int32) (u2 : Int32) (u3 : Int64) (h0 : Heap) (n0 : Nat) (v : Option Value) (h : Heap) (L : List Loc) : Prop := v = some (.int 1) ∧ Fr n0 L
theorem pn_2 : plainName "com/example/quorumline/quorumline/concurrency/ClientServerServerOfPinLaw" = true := by first | (simp [plainName, overriddenIn]; done) | decide +kernel
theorem pd_1 : parseMethodDescriptor "(IIDD)V" = some ⟨[.int, .int, .double, .double], none⟩ := by decide +kernel
theorem pd_2 : parseMethodDescriptor "(J)I" = some ⟨[.long], some .int⟩ := by decide +kernel
set_option maxRecDepth 65536 in
set_option maxHeartbeats 40000000 in
theorem rm_law (l : Launch) (Z : State) (a0 : Array Value) (hw : ∀ d ∈ tables_1, d.before a0 Z = true) (ws : List Jvm.Cond) (u1 : Int32) (u2 : Int32) (u3 : Int64) (h0 : Heap) (n0 : Nat) (Z0 : n0 ≤ h0.size) :
    MetFree l x (head1 (Jvm.Cond.code x code maxLocals ret :: ws) room_1) (fun a U => a = #[(.int u1), (.int u2), (.long u3)] ∧ Z.Warmed39 U.vm ∧ U.heap = h0) (fun _ _ _ _ _ => True) (fun _ U o U' => ∃ v L, o = .returned v ∧ Q_law Z u1 u2 u3 h0 n0 v U'.heap L ∧ FrameEnd U o U' L room_1.cells room_1.slots) := by
  refine MetFree.of_bodySF (plainFor_of_name pn_2) hisR ?_
  intro p e s m args below meth c s₁ Bd hml0 hP hK
  obtain ⟨rfl, hZ, hh⟩ := hP
  have hx := Bd.exec
  have hby := Bd.bytes
  have hml : c.maxLocals = 19 := hml0
  have hown : s.vm.findClass "com/example/quorumline/quorumline/concurrency/ClientServerServerOfPinLaw" = some m.cls := findClass_of_methodNamed Bd.named
  have hnm := (name_of_methodNamed Bd.named Bd.method).1
  have X0 : Stand p l e room_1 s m #[(.int u1), (.int u2), (.long u3)] below meth c s₁ [] 0 0 := Stand.of_body Bd
  have e0 : s₁.heap = h0 := by rw [← hh, Bd.state]; rfl
  have N0 := Fr.nil n0
  have K0 : Keep h0 h0 [] := Keep.refl h0 []
  have P0 : ∀ t, Steps p.tables e below (s₁.setTop (mkF m 0 #[.val (.int u1), .val (.int u2), .val (.long u3), .second, .unset, .unset, .unset, .unset, .unset, .unset, .unset, .unset, .unset, .unset, .unset, .unset, .unset, .unset, .unset] [])) t → Steps p.tables e below (s₁.setTop (entryFrame m #[(.int u1), (.int u2), (.long u3)] maxLocals)) t := fun t k => castTop (ef_law m u1 u2 u3) k
  have hq1 := own_cnt u1
  have hq2 := own_cnt u2
  have hq3 := own_item u3
  have P1016 : ∀ t, Steps p.tables e below (s₁.setTop (mkF m 35 #[.val (.int u1), .val (.int u2), .val (.long u3), .second, .val (.int (((u1 &&& (1073741823 : Int32)) % (1073741823 : Int32)) + (1 : Int32))), .val (.int (((u2 &&& (1073741823 : Int32)) % (1073741823 : Int32)) + (1 : Int32))), .val (.long (((u3 &&& (9223372036854775807 : Int64)) % (9223372036854775806 : Int64)) + (1 : Int64))), .second, .unset, .unset, .unset, .unset, .unset, .unset, .unset, .unset, .unset, .unset, .unset] [])) t → Steps p.tables e below (s₁.setTop (entryFrame m #[(.int u1), (.int u2), (.long u3)] maxLocals)) t := fun t k => P0 t (by
    refine XS.iloadN X0.here hx rfl (hb hby at_0) rfl ?_
    show Steps p.tables e below (s₁.setTop (mkF m 1 #[.val (.int u1), .val (.int u2), .val (.long u3), .second, .unset, .unset, .unset, .unset, .unset, .unset, .unset, .unset, .unset, .unset, .unset, .unset, .unset, .unset, .unset] [(.int u1)])) _
    refine X0.ldcInt hx hown (mvT hZ (hw _ (List.mem_of_getElem? (i := 0) rfl))) (g := (mkF m 1 #[.val (.int u1), .val (.int u2), .val (.long u3), .second, .unset, .unset, .unset, .unset, .unset, .unset, .unset, .unset, .unset, .unset, .unset, .unset, .unset, .unset, .unset] [(.int u1)])) rfl (hb hby at_1) _ ?_
    show Steps p.tables e below (s₁.setTop (mkF m 3 #[.val (.int u1), .val (.int u2), .val (.long u3), .second, .unset, .unset, .unset, .unset, .unset, .unset, .unset, .unset, .unset, .unset, .unset, .unset, .unset, .unset, .unset] [(.int (1073741823 : Int32)), (.int u1)])) _
    refine XS.iand X0.here hx rfl (hb hby at_3) rfl ?_
    show Steps p.tables e below (s₁.setTop (mkF m 4 #[.val (.int u1), .val (.int u2), .val (.long u3), .second, .unset, .unset, .unset, .unset, .unset, .unset, .unset, .unset, .unset, .unset, .unset, .unset, .unset, .unset, .unset] [(.int (u1 &&& (1073741823 : Int32)))])) _
    refine X0.ldcInt hx hown (mvT hZ (hw _ (List.mem_of_getElem? (i := 0) rfl))) (g := (mkF m 4 #[.val (.int u1), .val (.int u2), .val (.long u3), .second, .unset, .unset, .unset, .unset, .unset, .unset, .unset, .unset, .unset, .unset, .unset, .unset, .unset, .unset, .unset] [(.int (u1 &&& (1073741823 : Int32)))])) rfl (hb hby at_4) _ ?_
    show Steps p.tables e below (s₁.setTop (mkF m 6 #[.val (.int u1), .val (.int u2), .val (.long u3), .second, .unset, .unset, .unset, .unset, .unset, .unset, .unset, .unset, .unset, .unset, .unset, .unset, .unset, .unset, .unset] [(.int (1073741823 : Int32)), (.int (u1 &&& (1073741823 : Int32)))])) _
    refine iremM X0 hx rfl (hb hby at_6) rfl (by decide) ?_
    show Steps p.tables e below (s₁.setTop (mkF m 7 #[.val (.int u1), .val (.int u2), .val (.long u3), .second, .unset, .unset, .unset, .unset, .unset, .unset, .unset, .unset, .unset, .unset, .unset, .unset, .unset, .unset, .unset] [(.int ((u1 &&& (1073741823 : Int32)) % (1073741823 : Int32)))])) _
    refine XS.iconst X0.here hx rfl (hb hby at_7) ?_
    show Steps p.tables e below (s₁.setTop (mkF m 8 #[.val (.int u1), .val (.int u2), .val (.long u3), .second, .unset, .unset, .unset, .unset, .unset, .unset, .unset, .unset, .unset, .unset, .unset, .unset, .unset, .unset, .unset] [(.int (1 : Int32)), (.int ((u1 &&& (1073741823 : Int32)) % (1073741823 : Int32)))])) _
    refine XS.iadd X0.here hx rfl (hb hby at_8) rfl ?_
    show Steps p.tables e below (s₁.setTop (mkF m 9 #[.val (.int u1), .val (.int u2), .val (.long u3), .second, .unset, .unset, .unset, .unset, .unset, .unset, .unset, .unset, .unset, .unset, .unset, .unset, .unset, .unset, .unset] [(.int (((u1 &&& (1073741823 : Int32)) % (1073741823 : Int32)) + (1 : Int32)))])) _
    refine XS.istore X0.here hx rfl (hb hby at_9) rfl (l' := #[.val (.int u1), .val (.int u2), .val (.long u3), .second, .val (.int (((u1 &&& (1073741823 : Int32)) % (1073741823 : Int32)) + (1 : Int32))), .unset, .unset, .unset, .unset, .unset, .unset, .unset, .unset, .unset, .unset, .unset, .unset, .unset, .unset]) rfl ?_
    show Steps p.tables e below (s₁.setTop (mkF m 11 #[.val (.int u1), .val (.int u2), .val (.long u3), .second, .val (.int (((u1 &&& (1073741823 : Int32)) % (1073741823 : Int32)) + (1 : Int32))), .unset, .unset, .unset, .unset, .unset, .unset, .unset, .unset, .unset, .unset, .unset, .unset, .unset, .unset] [])) _
    refine XS.iloadN X0.here hx rfl (hb hby at_11) rfl ?_
    show Steps p.tables e below (s₁.setTop (mkF m 12 #[.val (.int u1), .val (.int u2), .val (.long u3), .second, .val (.int (((u1 &&& (1073741823 : Int32)) % (1073741823 : Int32)) + (1 : Int32))), .unset, .unset, .unset, .unset, .unset, .unset, .unset, .unset, .unset, .unset, .unset, .unset, .unset, .unset] [(.int u2)])) _
    refine X0.ldcInt hx hown (mvT hZ (hw _ (List.mem_of_getElem? (i := 0) rfl))) (g := (mkF m 12 #[.val (.int u1), .val (.int u2), .val (.long u3), .second, .val (.int (((u1 &&& (1073741823 : Int32)) % (1073741823 : Int32)) + (1 : Int32))), .unset, .unset, .unset, .unset, .unset, .unset, .unset, .unset, .unset, .unset, .unset, .unset, .unset, .unset] [(.int u2)])) rfl (hb hby at_12) _ ?_
    show Steps p.tables e below (s₁.setTop (mkF m 14 #[.val (.int u1), .val (.int u2), .val (.long u3), .second, .val (.int (((u1 &&& (1073741823 : Int32)) % (1073741823 : Int32)) + (1 : Int32))), .unset, .unset, .unset, .unset, .unset, .unset, .unset, .unset, .unset, .unset, .unset, .unset, .unset, .unset] [(.int (1073741823 : Int32)), (.int u2)])) _
    refine XS.iand X0.here hx rfl (hb hby at_14) rfl ?_
    show Steps p.tables e below (s₁.setTop (mkF m 15 #[.val (.int u1), .val (.int u2), .val (.long u3), .second, .val (.int (((u1 &&& (1073741823 : Int32)) % (1073741823 : Int32)) + (1 : Int32))), .unset, .unset, .unset, .unset, .unset, .unset, .unset, .unset, .unset, .unset, .unset, .unset, .unset, .unset] [(.int (u2 &&& (1073741823 : Int32)))])) _
    refine X0.ldcInt hx hown (mvT hZ (hw _ (List.mem_of_getElem? (i := 0) rfl))) (g := (mkF m 15 #[.val (.int u1), .val (.int u2), .val (.long u3), .second, .val (.int (((u1 &&& (1073741823 : Int32)) % (1073741823 : Int32)) + (1 : Int32))), .unset, .unset, .unset, .unset, .unset, .unset, .unset, .unset, .unset, .unset, .unset, .unset, .unset, .unset] [(.int (u2 &&& (1073741823 : Int32)))])) rfl (hb hby at_15) _ ?_
    show Steps p.tables e below (s₁.setTop (mkF m 17 #[.val (.int u1), .val (.int u2), .val (.long u3), .second, .val (.int (((u1 &&& (1073741823 : Int32)) % (1073741823 : Int32)) + (1 : Int32))), .unset, .unset, .unset, .unset, .unset, .unset, .unset, .unset, .unset, .unset, .unset, .unset, .unset, .unset] [(.int (1073741823 : Int32)), (.int (u2 &&& (1073741823 : Int32)))])) _
    refine iremM X0 hx rfl (hb hby at_17) rfl (by decide) ?_
    show Steps p.tables e below (s₁.setTop (mkF m 18 #[.val (.int u1), .val (.int u2), .val (.long u3), .second, .val (.int (((u1 &&& (1073741823 : Int32)) % (1073741823 : Int32)) + (1 : Int32))), .unset, .unset, .unset, .unset, .unset, .unset, .unset, .unset, .unset, .unset, .unset, .unset, .unset, .unset] [(.int ((u2 &&& (1073741823 : Int32)) % (1073741823 : Int32)))])) _
    refine XS.iconst X0.here hx rfl (hb hby at_18) ?_
    show Steps p.tables e below (s₁.setTop (mkF m 19 #[.val (.int u1), .val (.int u2), .val (.long u3), .second, .val (.int (((u1 &&& (1073741823 : Int32)) % (1073741823 : Int32)) + (1 : Int32))), .unset, .unset, .unset, .unset, .unset, .unset, .unset, .unset, .unset, .unset, .unset, .unset, .unset, .unset] [(.int (1 : Int32)), (.int ((u2 &&& (1073741823 : Int32)) % (1073741823 : Int32)))])) _
    refine XS.iadd X0.here hx rfl (hb hby at_19) rfl ?_
    show Steps p.tables e below (s₁.setTop (mkF m 20 #[.val (.int u1), .val (.int u2), .val (.long u3), .second, .val (.int (((u1 &&& (1073741823 : Int32)) % (1073741823 : Int32)) + (1 : Int32))), .unset, .unset, .unset, .unset, .unset, .unset, .unset, .unset, .unset, .unset, .unset, .unset, .unset, .unset] [(.int (((u2 &&& (1073741823 : Int32)) % (1073741823 : Int32)) + (1 : Int32)))])) _
    refine XS.istore X0.here hx rfl (hb hby at_20) rfl (l' := #[.val (.int u1), .val (.int u2), .val (.long u3), .second, .val (.int (((u1 &&& (1073741823 : Int32)) % (1073741823 : Int32)) + (1 : Int32))), .val (.int (((u2 &&& (1073741823 : Int32)) % (1073741823 : Int32)) + (1 : Int32))), .unset, .unset, .unset, .unset, .unset, .unset, .unset, .unset, .unset, .unset, .unset, .unset, .unset]) rfl ?_
    show Steps p.tables e below (s₁.setTop (mkF m 22 #[.val (.int u1), .val (.int u2), .val (.long u3), .second, .val (.int (((u1 &&& (1073741823 : Int32)) % (1073741823 : Int32)) + (1 : Int32))), .val (.int (((u2 &&& (1073741823 : Int32)) % (1073741823 : Int32)) + (1 : Int32))), .unset, .unset, .unset, .unset, .unset, .unset, .unset, .unset, .unset, .unset, .unset, .unset, .unset] [])) _
    refine XS.lloadN X0.here hx rfl (hb hby at_22) rfl ?_
    show Steps p.tables e below (s₁.setTop (mkF m 23 #[.val (.int u1), .val (.int u2), .val (.long u3), .second, .val (.int (((u1 &&& (1073741823 : Int32)) % (1073741823 : Int32)) + (1 : Int32))), .val (.int (((u2 &&& (1073741823 : Int32)) % (1073741823 : Int32)) + (1 : Int32))), .unset, .unset, .unset, .unset, .unset, .unset, .unset, .unset, .unset, .unset, .unset, .unset, .unset] [(.long u3)])) _
    refine X0.ldc2Long hx hown (mvT hZ (hw _ (List.mem_of_getElem? (i := 1) rfl))) (g := (mkF m 23 #[.val (.int u1), .val (.int u2), .val (.long u3), .second, .val (.int (((u1 &&& (1073741823 : Int32)) % (1073741823 : Int32)) + (1 : Int32))), .val (.int (((u2 &&& (1073741823 : Int32)) % (1073741823 : Int32)) + (1 : Int32))), .unset, .unset, .unset, .unset, .unset, .unset, .unset, .unset, .unset, .unset, .unset, .unset, .unset] [(.long u3)])) rfl (hb hby at_23) _ ?_
    show Steps p.tables e below (s₁.setTop (mkF m 26 #[.val (.int u1), .val (.int u2), .val (.long u3), .second, .val (.int (((u1 &&& (1073741823 : Int32)) % (1073741823 : Int32)) + (1 : Int32))), .val (.int (((u2 &&& (1073741823 : Int32)) % (1073741823 : Int32)) + (1 : Int32))), .unset, .unset, .unset, .unset, .unset, .unset, .unset, .unset, .unset, .unset, .unset, .unset, .unset] [(.long (9223372036854775807 : Int64)), (.long u3)])) _
    refine XS.land X0.here hx rfl (hb hby at_26) rfl ?_
    show Steps p.tables e below (s₁.setTop (mkF m 27 #[.val (.int u1), .val (.int u2), .val (.long u3), .second, .val (.int (((u1 &&& (1073741823 : Int32)) % (1073741823 : Int32)) + (1 : Int32))), .val (.int (((u2 &&& (1073741823 : Int32)) % (1073741823 : Int32)) + (1 : Int32))), .unset, .unset, .unset, .unset, .unset, .unset, .unset, .unset, .unset, .unset, .unset, .unset, .unset] [(.long (u3 &&& (9223372036854775807 : Int64)))])) _
    refine X0.ldc2Long hx hown (mvT hZ (hw _ (List.mem_of_getElem? (i := 2) rfl))) (g := (mkF m 27 #[.val (.int u1), .val (.int u2), .val (.long u3), .second, .val (.int (((u1 &&& (1073741823 : Int32)) % (1073741823 : Int32)) + (1 : Int32))), .val (.int (((u2 &&& (1073741823 : Int32)) % (1073741823 : Int32)) + (1 : Int32))), .unset, .unset, .unset, .unset, .unset, .unset, .unset, .unset, .unset, .unset, .unset, .unset, .unset] [(.long (u3 &&& (9223372036854775807 : Int64)))])) rfl (hb hby at_27) _ ?_
    show Steps p.tables e below (s₁.setTop (mkF m 30 #[.val (.int u1), .val (.int u2), .val (.long u3), .second, .val (.int (((u1 &&& (1073741823 : Int32)) % (1073741823 : Int32)) + (1 : Int32))), .val (.int (((u2 &&& (1073741823 : Int32)) % (1073741823 : Int32)) + (1 : Int32))), .unset, .unset, .unset, .unset, .unset, .unset, .unset, .unset, .unset, .unset, .unset, .unset, .unset] [(.long (9223372036854775806 : Int64)), (.long (u3 &&& (9223372036854775807 : Int64)))])) _
    refine XS.lrem X0.here hx rfl (hb hby at_30) rfl (by decide) ?_
    rw [lrem_mod]
    show Steps p.tables e below (s₁.setTop (mkF m 31 #[.val (.int u1), .val (.int u2), .val (.long u3), .second, .val (.int (((u1 &&& (1073741823 : Int32)) % (1073741823 : Int32)) + (1 : Int32))), .val (.int (((u2 &&& (1073741823 : Int32)) % (1073741823 : Int32)) + (1 : Int32))), .unset, .unset, .unset, .unset, .unset, .unset, .unset, .unset, .unset, .unset, .unset, .unset, .unset] [(.long ((u3 &&& (9223372036854775807 : Int64)) % (9223372036854775806 : Int64)))])) _
    refine XS.lconst X0.here hx rfl (hb hby at_31) ?_
    show Steps p.tables e below (s₁.setTop (mkF m 32 #[.val (.int u1), .val (.int u2), .val (.long u3), .second, .val (.int (((u1 &&& (1073741823 : Int32)) % (1073741823 : Int32)) + (1 : Int32))), .val (.int (((u2 &&& (1073741823 : Int32)) % (1073741823 : Int32)) + (1 : Int32))), .unset, .unset, .unset, .unset, .unset, .unset, .unset, .unset, .unset, .unset, .unset, .unset, .unset] [(.long (1 : Int64)), (.long ((u3 &&& (9223372036854775807 : Int64)) % (9223372036854775806 : Int64)))])) _
    refine XS.ladd X0.here hx rfl (hb hby at_32) rfl ?_
    show Steps p.tables e below (s₁.setTop (mkF m 33 #[.val (.int u1), .val (.int u2), .val (.long u3), .second, .val (.int (((u1 &&& (1073741823 : Int32)) % (1073741823 : Int32)) + (1 : Int32))), .val (.int (((u2 &&& (1073741823 : Int32)) % (1073741823 : Int32)) + (1 : Int32))), .unset, .unset, .unset, .unset, .unset, .unset, .unset, .unset, .unset, .unset, .unset, .unset, .unset] [(.long (((u3 &&& (9223372036854775807 : Int64)) % (9223372036854775806 : Int64)) + (1 : Int64)))])) _
    refine XS.lstore X0.here hx rfl (hb hby at_33) rfl (l' := #[.val (.int u1), .val (.int u2), .val (.long u3), .second, .val (.int (((u1 &&& (1073741823 : Int32)) % (1073741823 : Int32)) + (1 : Int32))), .val (.int (((u2 &&& (1073741823 : Int32)) % (1073741823 : Int32)) + (1 : Int32))), .val (.long (((u3 &&& (9223372036854775807 : Int64)) % (9223372036854775806 : Int64)) + (1 : Int64))), .second, .unset, .unset, .unset, .unset, .unset, .unset, .unset, .unset, .unset, .unset, .unset]) rfl ?_
    show Steps p.tables e below (s₁.setTop (mkF m 35 #[.val (.int u1), .val (.int u2), .val (.long u3), .second, .val (.int (((u1 &&& (1073741823 : Int32)) % (1073741823 : Int32)) + (1 : Int32))), .val (.int (((u2 &&& (1073741823 : Int32)) % (1073741823 : Int32)) + (1 : Int32))), .val (.long (((u3 &&& (9223372036854775807 : Int64)) % (9223372036854775806 : Int64)) + (1 : Int64))), .second, .unset, .unset, .unset, .unset, .unset, .unset, .unset, .unset, .unset, .unset, .unset] [])) _
    exact k)
  obtain ⟨c1, hc1⟩ : ∃ z, z = (((u1 &&& (1073741823 : Int32)) % (1073741823 : Int32)) + (1 : Int32)) := ⟨_, rfl⟩
  rw [← hc1] at P1016
  obtain ⟨c2, hc2⟩ : ∃ z, z = (((u2 &&& (1073741823 : Int32)) % (1073741823 : Int32)) + (1 : Int32)) := ⟨_, rfl⟩
  rw [← hc2] at P1016
  obtain ⟨c3, hc3⟩ : ∃ z, z = (((u3 &&& (9223372036854775807 : Int64)) % (9223372036854775806 : Int64)) + (1 : Int64)) := ⟨_, rfl⟩
  rw [← hc3] at P1016
  rw [← hc1] at hq1
  rw [← hc2] at hq2
  rw [← hc3] at hq3
  have hz := own_nz hq2.1
  obtain ⟨T1017, h1017, X1017, e1017, E1017, A1017, D1017, -, st1017⟩ := newO X0 hx hZ hown (hw _ (List.mem_of_getElem? (i := 3) rfl)) (hw _ (List.mem_of_getElem? (i := 4) rfl)) (hw _ (List.mem_of_getElem? (i := 5) rfl)) e0 (g := (mkF m 35 #[.val (.int u1), .val (.int u2), .val (.long u3), .second, .val (.int c1), .val (.int c2), .val (.long c3), .second, .unset, .unset, .unset, .unset, .unset, .unset, .unset, .unset, .unset, .unset, .unset] [])) rfl (hb hby at_35) (by decide) (by decide)
  obtain ⟨b1017, g1017⟩ : ∃ z, z = h0.size := ⟨_, rfl⟩
  rw [← g1017] at A1017 D1017 st1017
  have g_b1017 : n0 ≤ b1017 := Nat.le_trans Z0 (Nat.le_of_eq g1017.symm)
  have sz_b1017 : h0.size ≤ b1017 := Nat.le_trans K0.1 (Nat.le_of_eq g1017.symm)
  have Z1017 : n0 ≤ h1017.size := Nat.le_trans Z0 E1017.1
  have K1017 : Keep h0 h1017 [] := K0.ext E1017
  have F1017_clients : Fld Z h1017 b1017 "com/example/quorumline/quorumline/concurrency/ClientServer" "clients" "I" (.int (0 : Int32)) := D1017 (Or.inr (hw _ (List.mem_of_getElem? (i := 18) rfl))) (ty := .int) (by decide)
  have F1017_servers : Fld Z h1017 b1017 "com/example/quorumline/quorumline/concurrency/ClientServer" "servers" "I" (.int (0 : Int32)) := D1017 (Or.inr (hw _ (List.mem_of_getElem? (i := 20) rfl))) (ty := .int) (by decide)
  have F1017_clientMips : Fld Z h1017 b1017 "com/example/quorumline/quorumline/concurrency/ClientServer" "clientMips" "D" (.double (0 : UInt64)) := D1017 (Or.inr (hw _ (List.mem_of_getElem? (i := 22) rfl))) (ty := .double) (by decide)
  have F1017_serverMips : Fld Z h1017 b1017 "com/example/quorumline/quorumline/concurrency/ClientServer" "serverMips" "D" (.double (0 : UInt64)) := D1017 (Or.inr (hw _ (List.mem_of_getElem? (i := 24) rfl))) (ty := .double) (by decide)
  obtain ⟨_, _, ⟨T1019, L1019, k1019, n1019⟩, -, X1019, ⟨Lc1019, hQ1019, l1019, y1019, z1019⟩, st1019⟩ := X1017.specialBack hx (y := (⟨"com/example/quorumline/quorumline/concurrency/ClientServer", "<init>", "(IIDD)V"⟩ : MethodName)) rfl hown (mvT hZ (hw _ (List.mem_of_getElem? (i := 6) rfl))) (mvT hZ (hw _ (List.mem_of_getElem? (i := 7) rfl))) (mvT hZ (hw _ (List.mem_of_getElem? (i := 8) rfl))) (by decide) (backOf (W := 1) (rm_init l Z a0 hw [] b1017 c1 c2 FP.dconst1 FP.dconst1 h1017 n0 Z1017 A1017 F1017_clients F1017_servers F1017_clientMips F1017_serverMips g_b1017) hZ (hw _ (List.mem_of_getElem? (i := 8) rfl)) (hw _ (List.mem_of_getElem? (i := 5) rfl)) (by decide) (by decide)) (g := (mkF m 45 #[.val (.int u1), .val (.int u2), .val (.long u3), .second, .val (.int c1), .val (.int c2), .val (.long c3), .second, .unset, .unset, .unset, .unset, .unset, .unset, .unset, .unset, .unset, .unset, .unset] [(.double FP.dconst1), (.double FP.dconst1), (.int c2), (.int c1), (.ref b1017), (.ref b1017)])) rfl (by rw [hml]; rfl) (Steps.refl _) (a := b1017) (argsL := [(.int c1), (.int c2), (.double FP.dconst1), (.double FP.dconst1)]) (rest := [(.ref b1017)]) (lenOf pd_1 rfl) rfl (by show 2 * 0 + _ ≤ _; exact Nat.le_of_eq rfl) (hb hby at_45) (fun _ _ => ⟨rfl, e1017, (by decide : 1 + 0 ≤ _), (by decide : 4 + 0 ≤ _)⟩)
  dsimp only [Pt.U, Pt.locs, Pt.cells, Pt.slots] at X1019 l1019 y1019 z1019 st1019 hQ1019
  subst l1019 y1019 z1019
  obtain ⟨rfl, N1019q, Ki, Ei, Fi1, Fi2⟩ := hQ1019
  have N1019 := Fr.app N0 N1019q
  have Z1019 : n0 ≤ T1019.heap.size := Nat.le_trans Z1017 Ki.1
  have K1019 : Keep h0 T1019.heap [] := K1017.trans Ki (allS (Or.inr sz_b1017) all0)
  obtain ⟨cq1021, kq1021, q1021a, q1021b, q1021c⟩ := isOf hZ rfl Ei
  obtain ⟨_, _, ⟨T1021, L1021, k1021, n1021⟩, -, X1021, ⟨Lc1021, hQ1021, l1021, y1021, z1021⟩, st1021⟩ := X1019.virtualBack hx (y := (⟨"com/example/quorumline/quorumline/concurrency/ClientServer", "serverOf", "(J)I"⟩ : MethodName)) (z := (⟨"com/example/quorumline/quorumline/concurrency/ClientServer", "serverOf", "(J)I"⟩ : MethodName)) hown (mvT hZ (hw _ (List.mem_of_getElem? (i := 25) rfl))) (mvT hZ (hw _ (List.mem_of_getElem? (i := 26) rfl))) (notFace_of_selects (args := #[]) (mvT hZ (hw _ (List.mem_of_getElem? (i := 28) rfl)))) (mvT hZ (hw _ (List.mem_of_getElem? (i := 28) rfl))) (mvT hZ (hw _ (List.mem_of_getElem? (i := 27) rfl))) (by decide) (backOf (W := 0) (rm_so l Z a0 hw [] b1017 c1 c2 (1 : Int64) T1019.heap n0 Z1019 Fi1 Fi2 hz) hZ (hw _ (List.mem_of_getElem? (i := 29) rfl)) (hw _ (List.mem_of_getElem? (i := 5) rfl)) (by decide) (by decide)) q1021a q1021c (g := (mkF m 53 #[.val (.int u1), .val (.int u2), .val (.long u3), .second, .val (.int c1), .val (.int c2), .val (.long c3), .second, .val (.ref b1017), .unset, .unset, .unset, .unset, .unset, .unset, .unset, .unset, .unset, .unset] [(.long (1 : Int64)), (.ref b1017)])) rfl (by rw [hml]; rfl) (Steps.refl _) (argsL := [(.long (1 : Int64))]) (rest := []) (lenOf pd_2 rfl) rfl (by show 2 * 0 + _ ≤ _; exact Nat.le_of_eq rfl) (hb hby at_53) (fun _ _ => ⟨rfl, rfl, (by decide : 1 + 0 ≤ _), (by decide : 4 + 0 ≤ _)⟩)
  dsimp only [Pt.U, Pt.locs, Pt.cells, Pt.slots] at X1021 l1021 y1021 z1021 st1021 hQ1021
  subst l1021 y1021 z1021
  obtain ⟨r1, rfl, N1021q, es0, hr1⟩ := hQ1021
  have N1021 := Fr.app N1019 N1021q
  obtain ⟨cq1022, kq1022, q1022a, q1022b, q1022c⟩ := isOf hZ es0 Ei
  obtain ⟨_, _, ⟨T1022, L1022, k1022, n1022⟩, -, X1022, ⟨Lc1022, hQ1022, l1022, y1022, z1022⟩, st1022⟩ := X1021.virtualBack hx (y := (⟨"com/example/quorumline/quorumline/concurrency/ClientServer", "serverOf", "(J)I"⟩ : MethodName)) (z := (⟨"com/example/quorumline/quorumline/concurrency/ClientServer", "serverOf", "(J)I"⟩ : MethodName)) hown (mvT hZ (hw _ (List.mem_of_getElem? (i := 25) rfl))) (mvT hZ (hw _ (List.mem_of_getElem? (i := 26) rfl))) (notFace_of_selects (args := #[]) (mvT hZ (hw _ (List.mem_of_getElem? (i := 28) rfl)))) (mvT hZ (hw _ (List.mem_of_getElem? (i := 28) rfl))) (mvT hZ (hw _ (List.mem_of_getElem? (i := 27) rfl))) (by decide) (backOf (W := 0) (rm_so l Z a0 hw [] b1017 c1 c2 c3 T1019.heap n0 Z1019 Fi1 Fi2 hz) hZ (hw _ (List.mem_of_getElem? (i := 29) rfl)) (hw _ (List.mem_of_getElem? (i := 5) rfl)) (by decide) (by decide)) q1022a q1022c (g := (mkF m 62 #[.val (.int u1), .val (.int u2), .val (.long u3), .second, .val (.int c1), .val (.int c2), .val (.long c3), .second, .val (.ref b1017), .val (.int r1), .unset, .unset, .unset, .unset, .unset, .unset, .unset, .unset, .unset] [(.long c3), (.ref b1017)])) rfl (by rw [hml]; rfl) (Steps.refl _) (argsL := [(.long c3)]) (rest := []) (lenOf pd_2 rfl) rfl (by show 2 * 0 + _ ≤ _; exact Nat.le_of_eq rfl) (hb hby at_62) (fun _ _ => ⟨rfl, es0, (by decide : 1 + 0 ≤ _), (by decide : 4 + 0 ≤ _)⟩)
  dsimp only [Pt.U, Pt.locs, Pt.cells, Pt.slots] at X1022 l1022 y1022 z1022 st1022 hQ1022
  subst l1022 y1022 z1022
  obtain ⟨r2, rfl, N1022q, es1, hr2⟩ := hQ1022
  have N1022 := Fr.app N1021 N1022q
  obtain ⟨cq1023, kq1023, q1023a, q1023b, q1023c⟩ := isOf hZ es1 Ei
  obtain ⟨_, _, ⟨T1023, L1023, k1023, n1023⟩, -, X1023, ⟨Lc1023, hQ1023, l1023, y1023, z1023⟩, st1023⟩ := X1022.virtualBack hx (y := (⟨"com/example/quorumline/quorumline/concurrency/ClientServer", "serverOf", "(J)I"⟩ : MethodName)) (z := (⟨"com/example/quorumline/quorumline/concurrency/ClientServer", "serverOf", "(J)I"⟩ : MethodName)) hown (mvT hZ (hw _ (List.mem_of_getElem? (i := 25) rfl))) (mvT hZ (hw _ (List.mem_of_getElem? (i := 26) rfl))) (notFace_of_selects (args := #[]) (mvT hZ (hw _ (List.mem_of_getElem? (i := 28) rfl)))) (mvT hZ (hw _ (List.mem_of_getElem? (i := 28) rfl))) (mvT hZ (hw _ (List.mem_of_getElem? (i := 27) rfl))) (by decide) (backOf (W := 0) (rm_so l Z a0 hw [] b1017 c1 c2 (c3 + (1 : Int64)) T1019.heap n0 Z1019 Fi1 Fi2 hz) hZ (hw _ (List.mem_of_getElem? (i := 29) rfl)) (hw _ (List.mem_of_getElem? (i := 5) rfl)) (by decide) (by decide)) q1023a q1023c (g := (mkF m 73 #[.val (.int u1), .val (.int u2), .val (.long u3), .second, .val (.int c1), .val (.int c2), .val (.long c3), .second, .val (.ref b1017), .val (.int r1), .val (.int r2), .unset, .unset, .unset, .unset, .unset, .unset, .unset, .unset] [(.long (c3 + (1 : Int64))), (.ref b1017)])) rfl (by rw [hml]; rfl) (Steps.refl _) (argsL := [(.long (c3 + (1 : Int64)))]) (rest := []) (lenOf pd_2 rfl) rfl (by show 2 * 0 + _ ≤ _; exact Nat.le_of_eq rfl) (hb hby at_73) (fun _ _ => ⟨rfl, es1, (by decide : 1 + 0 ≤ _), (by decide : 4 + 0 ≤ _)⟩)
  dsimp only [Pt.U, Pt.locs, Pt.cells, Pt.slots] at X1023 l1023 y1023 z1023 st1023 hQ1023
  subst l1023 y1023 z1023
  obtain ⟨r3, rfl, N1023q, es2, hr3⟩ := hQ1023
  have N1023 := Fr.app N1022 N1023q
  obtain ⟨ha1, ha2, ha3, ha4, ha5, ha6, ha7⟩ := own_all hq1 hq2 hq3 hr1 hr2 hr3
  have P1024 : ∀ t, Steps p.tables e below (T1023.setTop (mkF m 143 #[.val (.int u1), .val (.int u2), .val (.long u3), .second, .val (.int c1), .val (.int c2), .val (.long c3), .second, .val (.ref b1017), .val (.int r1), .val (.int r2), .val (.int r3), .val (.long (c1.toInt64)), .second, .val (.long ((c1.toInt64) + (c2.toInt64))), .second, .val (.int (1 : Int32)), .unset, .unset] [(.int (lcmpW ((r2.toInt64) + (1 : Int64)) ((c1.toInt64) + (c2.toInt64))))])) t → Steps p.tables e below (s₁.setTop (entryFrame m #[(.int u1), (.int u2), (.long u3)] maxLocals)) t := fun t k => P1016 t (by
    refine st1017 _ ?_
    show Steps p.tables e below (T1017.setTop (mkF m 38 #[.val (.int u1), .val (.int u2), .val (.long u3), .second, .val (.int c1), .val (.int c2), .val (.long c3), .second, .unset, .unset, .unset, .unset, .unset, .unset, .unset, .unset, .unset, .unset, .unset] [(.ref b1017)])) _
    refine XS.dup X1017.here hx rfl (hb hby at_38) rfl rfl ?_
    show Steps p.tables e below (T1017.setTop (mkF m 39 #[.val (.int u1), .val (.int u2), .val (.long u3), .second, .val (.int c1), .val (.int c2), .val (.long c3), .second, .unset, .unset, .unset, .unset, .unset, .unset, .unset, .unset, .unset, .unset, .unset] [(.ref b1017), (.ref b1017)])) _
    refine XS.iload X1017.here hx rfl (hb hby at_39) rfl ?_
    show Steps p.tables e below (T1017.setTop (mkF m 41 #[.val (.int u1), .val (.int u2), .val (.long u3), .second, .val (.int c1), .val (.int c2), .val (.long c3), .second, .unset, .unset, .unset, .unset, .unset, .unset, .unset, .unset, .unset, .unset, .unset] [(.int c1), (.ref b1017), (.ref b1017)])) _
    refine XS.iload X1017.here hx rfl (hb hby at_41) rfl ?_
    show Steps p.tables e below (T1017.setTop (mkF m 43 #[.val (.int u1), .val (.int u2), .val (.long u3), .second, .val (.int c1), .val (.int c2), .val (.long c3), .second, .unset, .unset, .unset, .unset, .unset, .unset, .unset, .unset, .unset, .unset, .unset] [(.int c2), (.int c1), (.ref b1017), (.ref b1017)])) _
    refine XS.dconst1 X1017.here hx rfl (hb hby at_43) (v := FP.dconst1) rfl ?_
    show Steps p.tables e below (T1017.setTop (mkF m 44 #[.val (.int u1), .val (.int u2), .val (.long u3), .second, .val (.int c1), .val (.int c2), .val (.long c3), .second, .unset, .unset, .unset, .unset, .unset, .unset, .unset, .unset, .unset, .unset, .unset] [(.double FP.dconst1), (.int c2), (.int c1), (.ref b1017), (.ref b1017)])) _
    refine XS.dconst1 X1017.here hx rfl (hb hby at_44) (v := FP.dconst1) rfl ?_
    show Steps p.tables e below (T1017.setTop (mkF m 45 #[.val (.int u1), .val (.int u2), .val (.long u3), .second, .val (.int c1), .val (.int c2), .val (.long c3), .second, .unset, .unset, .unset, .unset, .unset, .unset, .unset, .unset, .unset, .unset, .unset] [(.double FP.dconst1), (.double FP.dconst1), (.int c2), (.int c1), (.ref b1017), (.ref b1017)])) _
    refine st1019.trans ?_
    show Steps p.tables e below (T1019.setTop (mkF m 48 #[.val (.int u1), .val (.int u2), .val (.long u3), .second, .val (.int c1), .val (.int c2), .val (.long c3), .second, .unset, .unset, .unset, .unset, .unset, .unset, .unset, .unset, .unset, .unset, .unset] [(.ref b1017)])) _
    refine XS.astore X1019.here hx rfl (hb hby at_48) rfl rfl (l' := #[.val (.int u1), .val (.int u2), .val (.long u3), .second, .val (.int c1), .val (.int c2), .val (.long c3), .second, .val (.ref b1017), .unset, .unset, .unset, .unset, .unset, .unset, .unset, .unset, .unset, .unset]) rfl ?_
    show Steps p.tables e below (T1019.setTop (mkF m 50 #[.val (.int u1), .val (.int u2), .val (.long u3), .second, .val (.int c1), .val (.int c2), .val (.long c3), .second, .val (.ref b1017), .unset, .unset, .unset, .unset, .unset, .unset, .unset, .unset, .unset, .unset] [])) _
    refine XS.aload X1019.here hx rfl (hb hby at_50) rfl rfl ?_
    show Steps p.tables e below (T1019.setTop (mkF m 52 #[.val (.int u1), .val (.int u2), .val (.long u3), .second, .val (.int c1), .val (.int c2), .val (.long c3), .second, .val (.ref b1017), .unset, .unset, .unset, .unset, .unset, .unset, .unset, .unset, .unset, .unset] [(.ref b1017)])) _
    refine XS.lconst X1019.here hx rfl (hb hby at_52) ?_
    show Steps p.tables e below (T1019.setTop (mkF m 53 #[.val (.int u1), .val (.int u2), .val (.long u3), .second, .val (.int c1), .val (.int c2), .val (.long c3), .second, .val (.ref b1017), .unset, .unset, .unset, .unset, .unset, .unset, .unset, .unset, .unset, .unset] [(.long (1 : Int64)), (.ref b1017)])) _
    refine st1021.trans ?_
    show Steps p.tables e below (T1021.setTop (mkF m 56 #[.val (.int u1), .val (.int u2), .val (.long u3), .second, .val (.int c1), .val (.int c2), .val (.long c3), .second, .val (.ref b1017), .unset, .unset, .unset, .unset, .unset, .unset, .unset, .unset, .unset, .unset] [(.int r1)])) _
    refine XS.istore X1021.here hx rfl (hb hby at_56) rfl (l' := #[.val (.int u1), .val (.int u2), .val (.long u3), .second, .val (.int c1), .val (.int c2), .val (.long c3), .second, .val (.ref b1017), .val (.int r1), .unset, .unset, .unset, .unset, .unset, .unset, .unset, .unset, .unset]) rfl ?_
    show Steps p.tables e below (T1021.setTop (mkF m 58 #[.val (.int u1), .val (.int u2), .val (.long u3), .second, .val (.int c1), .val (.int c2), .val (.long c3), .second, .val (.ref b1017), .val (.int r1), .unset, .unset, .unset, .unset, .unset, .unset, .unset, .unset, .unset] [])) _
    refine XS.aload X1021.here hx rfl (hb hby at_58) rfl rfl ?_
    show Steps p.tables e below (T1021.setTop (mkF m 60 #[.val (.int u1), .val (.int u2), .val (.long u3), .second, .val (.int c1), .val (.int c2), .val (.long c3), .second, .val (.ref b1017), .val (.int r1), .unset, .unset, .unset, .unset, .unset, .unset, .unset, .unset, .unset] [(.ref b1017)])) _
    refine XS.lload X1021.here hx rfl (hb hby at_60) rfl ?_
    show Steps p.tables e below (T1021.setTop (mkF m 62 #[.val (.int u1), .val (.int u2), .val (.long u3), .second, .val (.int c1), .val (.int c2), .val (.long c3), .second, .val (.ref b1017), .val (.int r1), .unset, .unset, .unset, .unset, .unset, .unset, .unset, .unset, .unset] [(.long c3), (.ref b1017)])) _
    refine st1022.trans ?_
    show Steps p.tables e below (T1022.setTop (mkF m 65 #[.val (.int u1), .val (.int u2), .val (.long u3), .second, .val (.int c1), .val (.int c2), .val (.long c3), .second, .val (.ref b1017), .val (.int r1), .unset, .unset, .unset, .unset, .unset, .unset, .unset, .unset, .unset] [(.int r2)])) _
    refine XS.istore X1022.here hx rfl (hb hby at_65) rfl (l' := #[.val (.int u1), .val (.int u2), .val (.long u3), .second, .val (.int c1), .val (.int c2), .val (.long c3), .second, .val (.ref b1017), .val (.int r1), .val (.int r2), .unset, .unset, .unset, .unset, .unset, .unset, .unset, .unset]) rfl ?_
    show Steps p.tables e below (T1022.setTop (mkF m 67 #[.val (.int u1), .val (.int u2), .val (.long u3), .second, .val (.int c1), .val (.int c2), .val (.long c3), .second, .val (.ref b1017), .val (.int r1), .val (.int r2), .unset, .unset, .unset, .unset, .unset, .unset, .unset, .unset] [])) _
    refine XS.aload X1022.here hx rfl (hb hby at_67) rfl rfl ?_
    show Steps p.tables e below (T1022.setTop (mkF m 69 #[.val (.int u1), .val (.int u2), .val (.long u3), .second, .val (.int c1), .val (.int c2), .val (.long c3), .second, .val (.ref b1017), .val (.int r1), .val (.int r2), .unset, .unset, .unset, .unset, .unset, .unset, .unset, .unset] [(.ref b1017)])) _
    refine XS.lload X1022.here hx rfl (hb hby at_69) rfl ?_
    show Steps p.tables e below (T1022.setTop (mkF m 71 #[.val (.int u1), .val (.int u2), .val (.long u3), .second, .val (.int c1), .val (.int c2), .val (.long c3), .second, .val (.ref b1017), .val (.int r1), .val (.int r2), .unset, .unset, .unset, .unset, .unset, .unset, .unset, .unset] [(.long c3), (.ref b1017)])) _
    refine XS.lconst X1022.here hx rfl (hb hby at_71) ?_
    show Steps p.tables e below (T1022.setTop (mkF m 72 #[.val (.int u1), .val (.int u2), .val (.long u3), .second, .val (.int c1), .val (.int c2), .val (.long c3), .second, .val (.ref b1017), .val (.int r1), .val (.int r2), .unset, .unset, .unset, .unset, .unset, .unset, .unset, .unset] [(.long (1 : Int64)), (.long c3), (.ref b1017)])) _
    refine XS.ladd X1022.here hx rfl (hb hby at_72) rfl ?_
    show Steps p.tables e below (T1022.setTop (mkF m 73 #[.val (.int u1), .val (.int u2), .val (.long u3), .second, .val (.int c1), .val (.int c2), .val (.long c3), .second, .val (.ref b1017), .val (.int r1), .val (.int r2), .unset, .unset, .unset, .unset, .unset, .unset, .unset, .unset] [(.long (c3 + (1 : Int64))), (.ref b1017)])) _
    refine st1023.trans ?_
    show Steps p.tables e below (T1023.setTop (mkF m 76 #[.val (.int u1), .val (.int u2), .val (.long u3), .second, .val (.int c1), .val (.int c2), .val (.long c3), .second, .val (.ref b1017), .val (.int r1), .val (.int r2), .unset, .unset, .unset, .unset, .unset, .unset, .unset, .unset] [(.int r3)])) _
    refine XS.istore X1023.here hx rfl (hb hby at_76) rfl (l' := #[.val (.int u1), .val (.int u2), .val (.long u3), .second, .val (.int c1), .val (.int c2), .val (.long c3), .second, .val (.ref b1017), .val (.int r1), .val (.int r2), .val (.int r3), .unset, .unset, .unset, .unset, .unset, .unset, .unset]) rfl ?_
    show Steps p.tables e below (T1023.setTop (mkF m 78 #[.val (.int u1), .val (.int u2), .val (.long u3), .second, .val (.int c1), .val (.int c2), .val (.long c3), .second, .val (.ref b1017), .val (.int r1), .val (.int r2), .val (.int r3), .unset, .unset, .unset, .unset, .unset, .unset, .unset] [])) _
    refine XS.iload X1023.here hx rfl (hb hby at_78) rfl ?_
    show Steps p.tables e below (T1023.setTop (mkF m 80 #[.val (.int u1), .val (.int u2), .val (.long u3), .second, .val (.int c1), .val (.int c2), .val (.long c3), .second, .val (.ref b1017), .val (.int r1), .val (.int r2), .val (.int r3), .unset, .unset, .unset, .unset, .unset, .unset, .unset] [(.int c1)])) _
    refine XS.i2l X1023.here hx rfl (hb hby at_80) rfl ?_
    show Steps p.tables e below (T1023.setTop (mkF m 81 #[.val (.int u1), .val (.int u2), .val (.long u3), .second, .val (.int c1), .val (.int c2), .val (.long c3), .second, .val (.ref b1017), .val (.int r1), .val (.int r2), .val (.int r3), .unset, .unset, .unset, .unset, .unset, .unset, .unset] [(.long (c1.toInt64))])) _
    refine XS.lstore X1023.here hx rfl (hb hby at_81) rfl (l' := #[.val (.int u1), .val (.int u2), .val (.long u3), .second, .val (.int c1), .val (.int c2), .val (.long c3), .second, .val (.ref b1017), .val (.int r1), .val (.int r2), .val (.int r3), .val (.long (c1.toInt64)), .second, .unset, .unset, .unset, .unset, .unset]) rfl ?_
    show Steps p.tables e below (T1023.setTop (mkF m 83 #[.val (.int u1), .val (.int u2), .val (.long u3), .second, .val (.int c1), .val (.int c2), .val (.long c3), .second, .val (.ref b1017), .val (.int r1), .val (.int r2), .val (.int r3), .val (.long (c1.toInt64)), .second, .unset, .unset, .unset, .unset, .unset] [])) _
    refine XS.iload X1023.here hx rfl (hb hby at_83) rfl ?_
    show Steps p.tables e below (T1023.setTop (mkF m 85 #[.val (.int u1), .val (.int u2), .val (.long u3), .second, .val (.int c1), .val (.int c2), .val (.long c3), .second, .val (.ref b1017), .val (.int r1), .val (.int r2), .val (.int r3), .val (.long (c1.toInt64)), .second, .unset, .unset, .unset, .unset, .unset] [(.int c1)])) _
    refine XS.i2l X1023.here hx rfl (hb hby at_85) rfl ?_
    show Steps p.tables e below (T1023.setTop (mkF m 86 #[.val (.int u1), .val (.int u2), .val (.long u3), .second, .val (.int c1), .val (.int c2), .val (.long c3), .second, .val (.ref b1017), .val (.int r1), .val (.int r2), .val (.int r3), .val (.long (c1.toInt64)), .second, .unset, .unset, .unset, .unset, .unset] [(.long (c1.toInt64))])) _
    refine XS.iload X1023.here hx rfl (hb hby at_86) rfl ?_
    show Steps p.tables e below (T1023.setTop (mkF m 88 #[.val (.int u1), .val (.int u2), .val (.long u3), .second, .val (.int c1), .val (.int c2), .val (.long c3), .second, .val (.ref b1017), .val (.int r1), .val (.int r2), .val (.int r3), .val (.long (c1.toInt64)), .second, .unset, .unset, .unset, .unset, .unset] [(.int c2), (.long (c1.toInt64))])) _
    refine XS.i2l X1023.here hx rfl (hb hby at_88) rfl ?_
    show Steps p.tables e below (T1023.setTop (mkF m 89 #[.val (.int u1), .val (.int u2), .val (.long u3), .second, .val (.int c1), .val (.int c2), .val (.long c3), .second, .val (.ref b1017), .val (.int r1), .val (.int r2), .val (.int r3), .val (.long (c1.toInt64)), .second, .unset, .unset, .unset, .unset, .unset] [(.long (c2.toInt64)), (.long (c1.toInt64))])) _
    refine XS.ladd X1023.here hx rfl (hb hby at_89) rfl ?_
    show Steps p.tables e below (T1023.setTop (mkF m 90 #[.val (.int u1), .val (.int u2), .val (.long u3), .second, .val (.int c1), .val (.int c2), .val (.long c3), .second, .val (.ref b1017), .val (.int r1), .val (.int r2), .val (.int r3), .val (.long (c1.toInt64)), .second, .unset, .unset, .unset, .unset, .unset] [(.long ((c1.toInt64) + (c2.toInt64)))])) _
    refine XS.lstore X1023.here hx rfl (hb hby at_90) rfl (l' := #[.val (.int u1), .val (.int u2), .val (.long u3), .second, .val (.int c1), .val (.int c2), .val (.long c3), .second, .val (.ref b1017), .val (.int r1), .val (.int r2), .val (.int r3), .val (.long (c1.toInt64)), .second, .val (.long ((c1.toInt64) + (c2.toInt64))), .second, .unset, .unset, .unset]) rfl ?_
    show Steps p.tables e below (T1023.setTop (mkF m 92 #[.val (.int u1), .val (.int u2), .val (.long u3), .second, .val (.int c1), .val (.int c2), .val (.long c3), .second, .val (.ref b1017), .val (.int r1), .val (.int r2), .val (.int r3), .val (.long (c1.toInt64)), .second, .val (.long ((c1.toInt64) + (c2.toInt64))), .second, .unset, .unset, .unset] [])) _
    refine XS.lload X1023.here hx rfl (hb hby at_92) rfl ?_
    show Steps p.tables e below (T1023.setTop (mkF m 94 #[.val (.int u1), .val (.int u2), .val (.long u3), .second, .val (.int c1), .val (.int c2), .val (.long c3), .second, .val (.ref b1017), .val (.int r1), .val (.int r2), .val (.int r3), .val (.long (c1.toInt64)), .second, .val (.long ((c1.toInt64) + (c2.toInt64))), .second, .unset, .unset, .unset] [(.long (c1.toInt64))])) _
    refine XS.iload X1023.here hx rfl (hb hby at_94) rfl ?_
    show Steps p.tables e below (T1023.setTop (mkF m 96 #[.val (.int u1), .val (.int u2), .val (.long u3), .second, .val (.int c1), .val (.int c2), .val (.long c3), .second, .val (.ref b1017), .val (.int r1), .val (.int r2), .val (.int r3), .val (.long (c1.toInt64)), .second, .val (.long ((c1.toInt64) + (c2.toInt64))), .second, .unset, .unset, .unset] [(.int r2), (.long (c1.toInt64))])) _
    refine XS.i2l X1023.here hx rfl (hb hby at_96) rfl ?_
    show Steps p.tables e below (T1023.setTop (mkF m 97 #[.val (.int u1), .val (.int u2), .val (.long u3), .second, .val (.int c1), .val (.int c2), .val (.long c3), .second, .val (.ref b1017), .val (.int r1), .val (.int r2), .val (.int r3), .val (.long (c1.toInt64)), .second, .val (.long ((c1.toInt64) + (c2.toInt64))), .second, .unset, .unset, .unset] [(.long (r2.toInt64)), (.long (c1.toInt64))])) _
    refine XS.lcmp X1023.here hx rfl (hb hby at_97) rfl ?_
    show Steps p.tables e below (T1023.setTop (mkF m 98 #[.val (.int u1), .val (.int u2), .val (.long u3), .second, .val (.int c1), .val (.int c2), .val (.long c3), .second, .val (.ref b1017), .val (.int r1), .val (.int r2), .val (.int r3), .val (.long (c1.toInt64)), .second, .val (.long ((c1.toInt64) + (c2.toInt64))), .second, .unset, .unset, .unset] [(.int (lcmpW (c1.toInt64) (r2.toInt64)))])) _
    refine XS.ifNo X1023.here hx rfl (hb hby at_98) rfl ((if0 _ _).trans (flt (fun q => ha2 ((lw_gt (c1.toInt64) (r2.toInt64)).mp q))).2.2.1) ?_
    show Steps p.tables e below (T1023.setTop (mkF m 101 #[.val (.int u1), .val (.int u2), .val (.long u3), .second, .val (.int c1), .val (.int c2), .val (.long c3), .second, .val (.ref b1017), .val (.int r1), .val (.int r2), .val (.int r3), .val (.long (c1.toInt64)), .second, .val (.long ((c1.toInt64) + (c2.toInt64))), .second, .unset, .unset, .unset] [])) _
    refine XS.iload X1023.here hx rfl (hb hby at_101) rfl ?_
    show Steps p.tables e below (T1023.setTop (mkF m 103 #[.val (.int u1), .val (.int u2), .val (.long u3), .second, .val (.int c1), .val (.int c2), .val (.long c3), .second, .val (.ref b1017), .val (.int r1), .val (.int r2), .val (.int r3), .val (.long (c1.toInt64)), .second, .val (.long ((c1.toInt64) + (c2.toInt64))), .second, .unset, .unset, .unset] [(.int r2)])) _
    refine XS.i2l X1023.here hx rfl (hb hby at_103) rfl ?_
    show Steps p.tables e below (T1023.setTop (mkF m 104 #[.val (.int u1), .val (.int u2), .val (.long u3), .second, .val (.int c1), .val (.int c2), .val (.long c3), .second, .val (.ref b1017), .val (.int r1), .val (.int r2), .val (.int r3), .val (.long (c1.toInt64)), .second, .val (.long ((c1.toInt64) + (c2.toInt64))), .second, .unset, .unset, .unset] [(.long (r2.toInt64))])) _
    refine XS.lload X1023.here hx rfl (hb hby at_104) rfl ?_
    show Steps p.tables e below (T1023.setTop (mkF m 106 #[.val (.int u1), .val (.int u2), .val (.long u3), .second, .val (.int c1), .val (.int c2), .val (.long c3), .second, .val (.ref b1017), .val (.int r1), .val (.int r2), .val (.int r3), .val (.long (c1.toInt64)), .second, .val (.long ((c1.toInt64) + (c2.toInt64))), .second, .unset, .unset, .unset] [(.long ((c1.toInt64) + (c2.toInt64))), (.long (r2.toInt64))])) _
    refine XS.lcmp X1023.here hx rfl (hb hby at_106) rfl ?_
    show Steps p.tables e below (T1023.setTop (mkF m 107 #[.val (.int u1), .val (.int u2), .val (.long u3), .second, .val (.int c1), .val (.int c2), .val (.long c3), .second, .val (.ref b1017), .val (.int r1), .val (.int r2), .val (.int r3), .val (.long (c1.toInt64)), .second, .val (.long ((c1.toInt64) + (c2.toInt64))), .second, .unset, .unset, .unset] [(.int (lcmpW (r2.toInt64) ((c1.toInt64) + (c2.toInt64))))])) _
    refine XS.ifNo X1023.here hx rfl (hb hby at_107) rfl ((if0 _ _).trans (tlt ((lw_lt (r2.toInt64) ((c1.toInt64) + (c2.toInt64))).mpr ha3)).2.1) ?_
    show Steps p.tables e below (T1023.setTop (mkF m 110 #[.val (.int u1), .val (.int u2), .val (.long u3), .second, .val (.int c1), .val (.int c2), .val (.long c3), .second, .val (.ref b1017), .val (.int r1), .val (.int r2), .val (.int r3), .val (.long (c1.toInt64)), .second, .val (.long ((c1.toInt64) + (c2.toInt64))), .second, .unset, .unset, .unset] [])) _
    refine XS.lload X1023.here hx rfl (hb hby at_110) rfl ?_
    show Steps p.tables e below (T1023.setTop (mkF m 112 #[.val (.int u1), .val (.int u2), .val (.long u3), .second, .val (.int c1), .val (.int c2), .val (.long c3), .second, .val (.ref b1017), .val (.int r1), .val (.int r2), .val (.int r3), .val (.long (c1.toInt64)), .second, .val (.long ((c1.toInt64) + (c2.toInt64))), .second, .unset, .unset, .unset] [(.long (c1.toInt64))])) _
    refine XS.iload X1023.here hx rfl (hb hby at_112) rfl ?_
    show Steps p.tables e below (T1023.setTop (mkF m 114 #[.val (.int u1), .val (.int u2), .val (.long u3), .second, .val (.int c1), .val (.int c2), .val (.long c3), .second, .val (.ref b1017), .val (.int r1), .val (.int r2), .val (.int r3), .val (.long (c1.toInt64)), .second, .val (.long ((c1.toInt64) + (c2.toInt64))), .second, .unset, .unset, .unset] [(.int r3), (.long (c1.toInt64))])) _
    refine XS.i2l X1023.here hx rfl (hb hby at_114) rfl ?_
    show Steps p.tables e below (T1023.setTop (mkF m 115 #[.val (.int u1), .val (.int u2), .val (.long u3), .second, .val (.int c1), .val (.int c2), .val (.long c3), .second, .val (.ref b1017), .val (.int r1), .val (.int r2), .val (.int r3), .val (.long (c1.toInt64)), .second, .val (.long ((c1.toInt64) + (c2.toInt64))), .second, .unset, .unset, .unset] [(.long (r3.toInt64)), (.long (c1.toInt64))])) _
    refine XS.lcmp X1023.here hx rfl (hb hby at_115) rfl ?_
    show Steps p.tables e below (T1023.setTop (mkF m 116 #[.val (.int u1), .val (.int u2), .val (.long u3), .second, .val (.int c1), .val (.int c2), .val (.long c3), .second, .val (.ref b1017), .val (.int r1), .val (.int r2), .val (.int r3), .val (.long (c1.toInt64)), .second, .val (.long ((c1.toInt64) + (c2.toInt64))), .second, .unset, .unset, .unset] [(.int (lcmpW (c1.toInt64) (r3.toInt64)))])) _
    refine XS.ifNo X1023.here hx rfl (hb hby at_116) rfl ((if0 _ _).trans (flt (fun q => ha4 ((lw_gt (c1.toInt64) (r3.toInt64)).mp q))).2.2.1) ?_
    show Steps p.tables e below (T1023.setTop (mkF m 119 #[.val (.int u1), .val (.int u2), .val (.long u3), .second, .val (.int c1), .val (.int c2), .val (.long c3), .second, .val (.ref b1017), .val (.int r1), .val (.int r2), .val (.int r3), .val (.long (c1.toInt64)), .second, .val (.long ((c1.toInt64) + (c2.toInt64))), .second, .unset, .unset, .unset] [])) _
    refine XS.iload X1023.here hx rfl (hb hby at_119) rfl ?_
    show Steps p.tables e below (T1023.setTop (mkF m 121 #[.val (.int u1), .val (.int u2), .val (.long u3), .second, .val (.int c1), .val (.int c2), .val (.long c3), .second, .val (.ref b1017), .val (.int r1), .val (.int r2), .val (.int r3), .val (.long (c1.toInt64)), .second, .val (.long ((c1.toInt64) + (c2.toInt64))), .second, .unset, .unset, .unset] [(.int r3)])) _
    refine XS.i2l X1023.here hx rfl (hb hby at_121) rfl ?_
    show Steps p.tables e below (T1023.setTop (mkF m 122 #[.val (.int u1), .val (.int u2), .val (.long u3), .second, .val (.int c1), .val (.int c2), .val (.long c3), .second, .val (.ref b1017), .val (.int r1), .val (.int r2), .val (.int r3), .val (.long (c1.toInt64)), .second, .val (.long ((c1.toInt64) + (c2.toInt64))), .second, .unset, .unset, .unset] [(.long (r3.toInt64))])) _
    refine XS.lload X1023.here hx rfl (hb hby at_122) rfl ?_
    show Steps p.tables e below (T1023.setTop (mkF m 124 #[.val (.int u1), .val (.int u2), .val (.long u3), .second, .val (.int c1), .val (.int c2), .val (.long c3), .second, .val (.ref b1017), .val (.int r1), .val (.int r2), .val (.int r3), .val (.long (c1.toInt64)), .second, .val (.long ((c1.toInt64) + (c2.toInt64))), .second, .unset, .unset, .unset] [(.long ((c1.toInt64) + (c2.toInt64))), (.long (r3.toInt64))])) _
    refine XS.lcmp X1023.here hx rfl (hb hby at_124) rfl ?_
    show Steps p.tables e below (T1023.setTop (mkF m 125 #[.val (.int u1), .val (.int u2), .val (.long u3), .second, .val (.int c1), .val (.int c2), .val (.long c3), .second, .val (.ref b1017), .val (.int r1), .val (.int r2), .val (.int r3), .val (.long (c1.toInt64)), .second, .val (.long ((c1.toInt64) + (c2.toInt64))), .second, .unset, .unset, .unset] [(.int (lcmpW (r3.toInt64) ((c1.toInt64) + (c2.toInt64))))])) _
    refine XS.ifNo X1023.here hx rfl (hb hby at_125) rfl ((if0 _ _).trans (tlt ((lw_lt (r3.toInt64) ((c1.toInt64) + (c2.toInt64))).mpr ha5)).2.1) ?_
    show Steps p.tables e below (T1023.setTop (mkF m 128 #[.val (.int u1), .val (.int u2), .val (.long u3), .second, .val (.int c1), .val (.int c2), .val (.long c3), .second, .val (.ref b1017), .val (.int r1), .val (.int r2), .val (.int r3), .val (.long (c1.toInt64)), .second, .val (.long ((c1.toInt64) + (c2.toInt64))), .second, .unset, .unset, .unset] [])) _
    refine XS.iconst X1023.here hx rfl (hb hby at_128) ?_
    show Steps p.tables e below (T1023.setTop (mkF m 129 #[.val (.int u1), .val (.int u2), .val (.long u3), .second, .val (.int c1), .val (.int c2), .val (.long c3), .second, .val (.ref b1017), .val (.int r1), .val (.int r2), .val (.int r3), .val (.long (c1.toInt64)), .second, .val (.long ((c1.toInt64) + (c2.toInt64))), .second, .unset, .unset, .unset] [(.int (1 : Int32))])) _
    refine XS.goto X1023.here hx rfl (pc0 := 129) (pc' := 133) rfl (hb hby at_129) (by decide) (by decide) ?_
    show Steps p.tables e below (T1023.setTop (mkF m 133 #[.val (.int u1), .val (.int u2), .val (.long u3), .second, .val (.int c1), .val (.int c2), .val (.long c3), .second, .val (.ref b1017), .val (.int r1), .val (.int r2), .val (.int r3), .val (.long (c1.toInt64)), .second, .val (.long ((c1.toInt64) + (c2.toInt64))), .second, .unset, .unset, .unset] [(.int (1 : Int32))])) _
    refine XS.istore X1023.here hx rfl (hb hby at_133) rfl (l' := #[.val (.int u1), .val (.int u2), .val (.long u3), .second, .val (.int c1), .val (.int c2), .val (.long c3), .second, .val (.ref b1017), .val (.int r1), .val (.int r2), .val (.int r3), .val (.long (c1.toInt64)), .second, .val (.long ((c1.toInt64) + (c2.toInt64))), .second, .val (.int (1 : Int32)), .unset, .unset]) rfl ?_
    show Steps p.tables e below (T1023.setTop (mkF m 135 #[.val (.int u1), .val (.int u2), .val (.long u3), .second, .val (.int c1), .val (.int c2), .val (.long c3), .second, .val (.ref b1017), .val (.int r1), .val (.int r2), .val (.int r3), .val (.long (c1.toInt64)), .second, .val (.long ((c1.toInt64) + (c2.toInt64))), .second, .val (.int (1 : Int32)), .unset, .unset] [])) _
    refine XS.iload X1023.here hx rfl (hb hby at_135) rfl ?_
    show Steps p.tables e below (T1023.setTop (mkF m 137 #[.val (.int u1), .val (.int u2), .val (.long u3), .second, .val (.int c1), .val (.int c2), .val (.long c3), .second, .val (.ref b1017), .val (.int r1), .val (.int r2), .val (.int r3), .val (.long (c1.toInt64)), .second, .val (.long ((c1.toInt64) + (c2.toInt64))), .second, .val (.int (1 : Int32)), .unset, .unset] [(.int r2)])) _
    refine XS.i2l X1023.here hx rfl (hb hby at_137) rfl ?_
    show Steps p.tables e below (T1023.setTop (mkF m 138 #[.val (.int u1), .val (.int u2), .val (.long u3), .second, .val (.int c1), .val (.int c2), .val (.long c3), .second, .val (.ref b1017), .val (.int r1), .val (.int r2), .val (.int r3), .val (.long (c1.toInt64)), .second, .val (.long ((c1.toInt64) + (c2.toInt64))), .second, .val (.int (1 : Int32)), .unset, .unset] [(.long (r2.toInt64))])) _
    refine XS.lconst X1023.here hx rfl (hb hby at_138) ?_
    show Steps p.tables e below (T1023.setTop (mkF m 139 #[.val (.int u1), .val (.int u2), .val (.long u3), .second, .val (.int c1), .val (.int c2), .val (.long c3), .second, .val (.ref b1017), .val (.int r1), .val (.int r2), .val (.int r3), .val (.long (c1.toInt64)), .second, .val (.long ((c1.toInt64) + (c2.toInt64))), .second, .val (.int (1 : Int32)), .unset, .unset] [(.long (1 : Int64)), (.long (r2.toInt64))])) _
    refine XS.ladd X1023.here hx rfl (hb hby at_139) rfl ?_
    show Steps p.tables e below (T1023.setTop (mkF m 140 #[.val (.int u1), .val (.int u2), .val (.long u3), .second, .val (.int c1), .val (.int c2), .val (.long c3), .second, .val (.ref b1017), .val (.int r1), .val (.int r2), .val (.int r3), .val (.long (c1.toInt64)), .second, .val (.long ((c1.toInt64) + (c2.toInt64))), .second, .val (.int (1 : Int32)), .unset, .unset] [(.long ((r2.toInt64) + (1 : Int64)))])) _
    refine XS.lload X1023.here hx rfl (hb hby at_140) rfl ?_
    show Steps p.tables e below (T1023.setTop (mkF m 142 #[.val (.int u1), .val (.int u2), .val (.long u3), .second, .val (.int c1), .val (.int c2), .val (.long c3), .second, .val (.ref b1017), .val (.int r1), .val (.int r2), .val (.int r3), .val (.long (c1.toInt64)), .second, .val (.long ((c1.toInt64) + (c2.toInt64))), .second, .val (.int (1 : Int32)), .unset, .unset] [(.long ((c1.toInt64) + (c2.toInt64))), (.long ((r2.toInt64) + (1 : Int64)))])) _
    refine XS.lcmp X1023.here hx rfl (hb hby at_142) rfl ?_
    show Steps p.tables e below (T1023.setTop (mkF m 143 #[.val (.int u1), .val (.int u2), .val (.long u3), .second, .val (.int c1), .val (.int c2), .val (.long c3), .second, .val (.ref b1017), .val (.int r1), .val (.int r2), .val (.int r3), .val (.long (c1.toInt64)), .second, .val (.long ((c1.toInt64) + (c2.toInt64))), .second, .val (.int (1 : Int32)), .unset, .unset] [(.int (lcmpW ((r2.toInt64) + (1 : Int64)) ((c1.toInt64) + (c2.toInt64))))])) _
    exact k)
  obtain ⟨y1, hy1, P1025⟩ : ∃ (y1 : Int64), (r3.toInt64 = y1) ∧ (∀ t, Steps p.tables e below (T1023.setTop (mkF m 156 #[.val (.int u1), .val (.int u2), .val (.long u3), .second, .val (.int c1), .val (.int c2), .val (.long c3), .second, .val (.ref b1017), .val (.int r1), .val (.int r2), .val (.int r3), .val (.long (c1.toInt64)), .second, .val (.long ((c1.toInt64) + (c2.toInt64))), .second, .val (.int (1 : Int32)), .unset, .unset] [(.long y1)])) t → Steps p.tables e below (s₁.setTop (entryFrame m #[(.int u1), (.int u2), (.long u3)] maxLocals)) t) := by
    by_cases h143 : ((r2.toInt64) + (1 : Int64)) < ((c1.toInt64) + (c2.toInt64))
    · have P1026 : ∀ t, Steps p.tables e below (T1023.setTop (mkF m 156 #[.val (.int u1), .val (.int u2), .val (.long u3), .second, .val (.int c1), .val (.int c2), .val (.long c3), .second, .val (.ref b1017), .val (.int r1), .val (.int r2), .val (.int r3), .val (.long (c1.toInt64)), .second, .val (.long ((c1.toInt64) + (c2.toInt64))), .second, .val (.int (1 : Int32)), .unset, .unset] [(.long ((r2.toInt64) + (1 : Int64)))])) t → Steps p.tables e below (s₁.setTop (entryFrame m #[(.int u1), (.int u2), (.long u3)] maxLocals)) t := fun t k => P1024 t (by
        refine XS.ifNo X1023.here hx rfl (hb hby at_143) rfl ((if0 _ _).trans (tlt ((lw_lt ((r2.toInt64) + (1 : Int64)) ((c1.toInt64) + (c2.toInt64))).mpr h143)).2.1) ?_
        show Steps p.tables e below (T1023.setTop (mkF m 146 #[.val (.int u1), .val (.int u2), .val (.long u3), .second, .val (.int c1), .val (.int c2), .val (.long c3), .second, .val (.ref b1017), .val (.int r1), .val (.int r2), .val (.int r3), .val (.long (c1.toInt64)), .second, .val (.long ((c1.toInt64) + (c2.toInt64))), .second, .val (.int (1 : Int32)), .unset, .unset] [])) _
        refine XS.iload X1023.here hx rfl (hb hby at_146) rfl ?_
        show Steps p.tables e below (T1023.setTop (mkF m 148 #[.val (.int u1), .val (.int u2), .val (.long u3), .second, .val (.int c1), .val (.int c2), .val (.long c3), .second, .val (.ref b1017), .val (.int r1), .val (.int r2), .val (.int r3), .val (.long (c1.toInt64)), .second, .val (.long ((c1.toInt64) + (c2.toInt64))), .second, .val (.int (1 : Int32)), .unset, .unset] [(.int r2)])) _
        refine XS.i2l X1023.here hx rfl (hb hby at_148) rfl ?_
        show Steps p.tables e below (T1023.setTop (mkF m 149 #[.val (.int u1), .val (.int u2), .val (.long u3), .second, .val (.int c1), .val (.int c2), .val (.long c3), .second, .val (.ref b1017), .val (.int r1), .val (.int r2), .val (.int r3), .val (.long (c1.toInt64)), .second, .val (.long ((c1.toInt64) + (c2.toInt64))), .second, .val (.int (1 : Int32)), .unset, .unset] [(.long (r2.toInt64))])) _
        refine XS.lconst X1023.here hx rfl (hb hby at_149) ?_
        show Steps p.tables e below (T1023.setTop (mkF m 150 #[.val (.int u1), .val (.int u2), .val (.long u3), .second, .val (.int c1), .val (.int c2), .val (.long c3), .second, .val (.ref b1017), .val (.int r1), .val (.int r2), .val (.int r3), .val (.long (c1.toInt64)), .second, .val (.long ((c1.toInt64) + (c2.toInt64))), .second, .val (.int (1 : Int32)), .unset, .unset] [(.long (1 : Int64)), (.long (r2.toInt64))])) _
        refine XS.ladd X1023.here hx rfl (hb hby at_150) rfl ?_
        show Steps p.tables e below (T1023.setTop (mkF m 151 #[.val (.int u1), .val (.int u2), .val (.long u3), .second, .val (.int c1), .val (.int c2), .val (.long c3), .second, .val (.ref b1017), .val (.int r1), .val (.int r2), .val (.int r3), .val (.long (c1.toInt64)), .second, .val (.long ((c1.toInt64) + (c2.toInt64))), .second, .val (.int (1 : Int32)), .unset, .unset] [(.long ((r2.toInt64) + (1 : Int64)))])) _
        refine XS.goto X1023.here hx rfl (pc0 := 151) (pc' := 156) rfl (hb hby at_151) (by decide) (by decide) ?_
        show Steps p.tables e below (T1023.setTop (mkF m 156 #[.val (.int u1), .val (.int u2), .val (.long u3), .second, .val (.int c1), .val (.int c2), .val (.long c3), .second, .val (.ref b1017), .val (.int r1), .val (.int r2), .val (.int r3), .val (.long (c1.toInt64)), .second, .val (.long ((c1.toInt64) + (c2.toInt64))), .second, .val (.int (1 : Int32)), .unset, .unset] [(.long ((r2.toInt64) + (1 : Int64)))])) _
        exact k)
      exact ⟨_, ha6 h143, P1026⟩
    · have P1027 : ∀ t, Steps p.tables e below (T1023.setTop (mkF m 156 #[.val (.int u1), .val (.int u2), .val (.long u3), .second, .val (.int c1), .val (.int c2), .val (.long c3), .second, .val (.ref b1017), .val (.int r1), .val (.int r2), .val (.int r3), .val (.long (c1.toInt64)), .second, .val (.long ((c1.toInt64) + (c2.toInt64))), .second, .val (.int (1 : Int32)), .unset, .unset] [(.long (c1.toInt64))])) t → Steps p.tables e below (s₁.setTop (entryFrame m #[(.int u1), (.int u2), (.long u3)] maxLocals)) t := fun t k => P1024 t (by
        refine XS.ifYes X1023.here hx rfl (pc0 := 143) (pc' := 154) rfl (hb hby at_143) rfl ((if0 _ _).trans (flt (fun q => h143 ((lw_lt ((r2.toInt64) + (1 : Int64)) ((c1.toInt64) + (c2.toInt64))).mp q))).2.1) (by decide) (by decide) ?_
        show Steps p.tables e below (T1023.setTop (mkF m 154 #[.val (.int u1), .val (.int u2), .val (.long u3), .second, .val (.int c1), .val (.int c2), .val (.long c3), .second, .val (.ref b1017), .val (.int r1), .val (.int r2), .val (.int r3), .val (.long (c1.toInt64)), .second, .val (.long ((c1.toInt64) + (c2.toInt64))), .second, .val (.int (1 : Int32)), .unset, .unset] [])) _
        refine XS.lload X1023.here hx rfl (hb hby at_154) rfl ?_
        show Steps p.tables e below (T1023.setTop (mkF m 156 #[.val (.int u1), .val (.int u2), .val (.long u3), .second, .val (.int c1), .val (.int c2), .val (.long c3), .second, .val (.ref b1017), .val (.int r1), .val (.int r2), .val (.int r3), .val (.long (c1.toInt64)), .second, .val (.long ((c1.toInt64) + (c2.toInt64))), .second, .val (.int (1 : Int32)), .unset, .unset] [(.long (c1.toInt64))])) _
        exact k)
      exact ⟨_, ha7 h143, P1027⟩
  have P1028 : ∀ t, Steps p.tables e below (T1023.setTop (mkF m 184 #[.val (.int u1), .val (.int u2), .val (.long u3), .second, .val (.int c1), .val (.int c2), .val (.long c3), .second, .val (.ref b1017), .val (.int r1), .val (.int r2), .val (.int r3), .val (.long (c1.toInt64)), .second, .val (.long ((c1.toInt64) + (c2.toInt64))), .second, .val (.int (1 : Int32)), .val (.long y1), .second] [(.int (1 : Int32))])) t → Steps p.tables e below (s₁.setTop (entryFrame m #[(.int u1), (.int u2), (.long u3)] maxLocals)) t := fun t k => P1025 t (by
    refine XS.lstore X1023.here hx rfl (hb hby at_156) rfl (l' := #[.val (.int u1), .val (.int u2), .val (.long u3), .second, .val (.int c1), .val (.int c2), .val (.long c3), .second, .val (.ref b1017), .val (.int r1), .val (.int r2), .val (.int r3), .val (.long (c1.toInt64)), .second, .val (.long ((c1.toInt64) + (c2.toInt64))), .second, .val (.int (1 : Int32)), .val (.long y1), .second]) rfl ?_
    show Steps p.tables e below (T1023.setTop (mkF m 158 #[.val (.int u1), .val (.int u2), .val (.long u3), .second, .val (.int c1), .val (.int c2), .val (.long c3), .second, .val (.ref b1017), .val (.int r1), .val (.int r2), .val (.int r3), .val (.long (c1.toInt64)), .second, .val (.long ((c1.toInt64) + (c2.toInt64))), .second, .val (.int (1 : Int32)), .val (.long y1), .second] [])) _
    refine XS.iload X1023.here hx rfl (hb hby at_158) rfl ?_
    show Steps p.tables e below (T1023.setTop (mkF m 160 #[.val (.int u1), .val (.int u2), .val (.long u3), .second, .val (.int c1), .val (.int c2), .val (.long c3), .second, .val (.ref b1017), .val (.int r1), .val (.int r2), .val (.int r3), .val (.long (c1.toInt64)), .second, .val (.long ((c1.toInt64) + (c2.toInt64))), .second, .val (.int (1 : Int32)), .val (.long y1), .second] [(.int r1)])) _
    refine XS.iload X1023.here hx rfl (hb hby at_160) rfl ?_
    show Steps p.tables e below (T1023.setTop (mkF m 162 #[.val (.int u1), .val (.int u2), .val (.long u3), .second, .val (.int c1), .val (.int c2), .val (.long c3), .second, .val (.ref b1017), .val (.int r1), .val (.int r2), .val (.int r3), .val (.long (c1.toInt64)), .second, .val (.long ((c1.toInt64) + (c2.toInt64))), .second, .val (.int (1 : Int32)), .val (.long y1), .second] [(.int c1), (.int r1)])) _
    refine XS.icmpNo X1023.here hx rfl (hb hby at_162) rfl (teq ha1).2 ?_
    show Steps p.tables e below (T1023.setTop (mkF m 165 #[.val (.int u1), .val (.int u2), .val (.long u3), .second, .val (.int c1), .val (.int c2), .val (.long c3), .second, .val (.ref b1017), .val (.int r1), .val (.int r2), .val (.int r3), .val (.long (c1.toInt64)), .second, .val (.long ((c1.toInt64) + (c2.toInt64))), .second, .val (.int (1 : Int32)), .val (.long y1), .second] [])) _
    refine XS.iload X1023.here hx rfl (hb hby at_165) rfl ?_
    show Steps p.tables e below (T1023.setTop (mkF m 167 #[.val (.int u1), .val (.int u2), .val (.long u3), .second, .val (.int c1), .val (.int c2), .val (.long c3), .second, .val (.ref b1017), .val (.int r1), .val (.int r2), .val (.int r3), .val (.long (c1.toInt64)), .second, .val (.long ((c1.toInt64) + (c2.toInt64))), .second, .val (.int (1 : Int32)), .val (.long y1), .second] [(.int (1 : Int32))])) _
    refine XS.ifNo X1023.here hx rfl (hb hby at_167) rfl ((if0 _ _).trans (feq (by decide)).1) ?_
    show Steps p.tables e below (T1023.setTop (mkF m 170 #[.val (.int u1), .val (.int u2), .val (.long u3), .second, .val (.int c1), .val (.int c2), .val (.long c3), .second, .val (.ref b1017), .val (.int r1), .val (.int r2), .val (.int r3), .val (.long (c1.toInt64)), .second, .val (.long ((c1.toInt64) + (c2.toInt64))), .second, .val (.int (1 : Int32)), .val (.long y1), .second] [])) _
    refine XS.iload X1023.here hx rfl (hb hby at_170) rfl ?_
    show Steps p.tables e below (T1023.setTop (mkF m 172 #[.val (.int u1), .val (.int u2), .val (.long u3), .second, .val (.int c1), .val (.int c2), .val (.long c3), .second, .val (.ref b1017), .val (.int r1), .val (.int r2), .val (.int r3), .val (.long (c1.toInt64)), .second, .val (.long ((c1.toInt64) + (c2.toInt64))), .second, .val (.int (1 : Int32)), .val (.long y1), .second] [(.int r3)])) _
    refine XS.i2l X1023.here hx rfl (hb hby at_172) rfl ?_
    show Steps p.tables e below (T1023.setTop (mkF m 173 #[.val (.int u1), .val (.int u2), .val (.long u3), .second, .val (.int c1), .val (.int c2), .val (.long c3), .second, .val (.ref b1017), .val (.int r1), .val (.int r2), .val (.int r3), .val (.long (c1.toInt64)), .second, .val (.long ((c1.toInt64) + (c2.toInt64))), .second, .val (.int (1 : Int32)), .val (.long y1), .second] [(.long (r3.toInt64))])) _
    refine XS.lload X1023.here hx rfl (hb hby at_173) rfl ?_
    show Steps p.tables e below (T1023.setTop (mkF m 175 #[.val (.int u1), .val (.int u2), .val (.long u3), .second, .val (.int c1), .val (.int c2), .val (.long c3), .second, .val (.ref b1017), .val (.int r1), .val (.int r2), .val (.int r3), .val (.long (c1.toInt64)), .second, .val (.long ((c1.toInt64) + (c2.toInt64))), .second, .val (.int (1 : Int32)), .val (.long y1), .second] [(.long y1), (.long (r3.toInt64))])) _
    refine XS.lcmp X1023.here hx rfl (hb hby at_175) rfl ?_
    show Steps p.tables e below (T1023.setTop (mkF m 176 #[.val (.int u1), .val (.int u2), .val (.long u3), .second, .val (.int c1), .val (.int c2), .val (.long c3), .second, .val (.ref b1017), .val (.int r1), .val (.int r2), .val (.int r3), .val (.long (c1.toInt64)), .second, .val (.long ((c1.toInt64) + (c2.toInt64))), .second, .val (.int (1 : Int32)), .val (.long y1), .second] [(.int (lcmpW (r3.toInt64) y1))])) _
    refine XS.ifNo X1023.here hx rfl (hb hby at_176) rfl ((if0 _ _).trans (teq ((lw_eq (r3.toInt64) y1).mpr hy1)).2) ?_
    show Steps p.tables e below (T1023.setTop (mkF m 179 #[.val (.int u1), .val (.int u2), .val (.long u3), .second, .val (.int c1), .val (.int c2), .val (.long c3), .second, .val (.ref b1017), .val (.int r1), .val (.int r2), .val (.int r3), .val (.long (c1.toInt64)), .second, .val (.long ((c1.toInt64) + (c2.toInt64))), .second, .val (.int (1 : Int32)), .val (.long y1), .second] [])) _
    refine XS.iconst X1023.here hx rfl (hb hby at_179) ?_
    show Steps p.tables e below (T1023.setTop (mkF m 180 #[.val (.int u1), .val (.int u2), .val (.long u3), .second, .val (.int c1), .val (.int c2), .val (.long c3), .second, .val (.ref b1017), .val (.int r1), .val (.int r2), .val (.int r3), .val (.long (c1.toInt64)), .second, .val (.long ((c1.toInt64) + (c2.toInt64))), .second, .val (.int (1 : Int32)), .val (.long y1), .second] [(.int (1 : Int32))])) _
    refine XS.goto X1023.here hx rfl (pc0 := 180) (pc' := 184) rfl (hb hby at_180) (by decide) (by decide) ?_
    show Steps p.tables e below (T1023.setTop (mkF m 184 #[.val (.int u1), .val (.int u2), .val (.long u3), .second, .val (.int c1), .val (.int c2), .val (.long c3), .second, .val (.ref b1017), .val (.int r1), .val (.int r2), .val (.int r3), .val (.long (c1.toInt64)), .second, .val (.long ((c1.toInt64) + (c2.toInt64))), .second, .val (.int (1 : Int32)), .val (.long y1), .second] [(.int (1 : Int32))])) _
    exact k)
  obtain ⟨fs, hr, hrun, hended, hW, hsame⟩ := X1023.leave (v := some (.int (1 : Int32))) (fun h => by rw [Bd.returns] at h; cases h)
  refine ⟨_, _, P1028 _ ?_, hrun, hended, _, _, rfl, ?_, ⟨_, rfl⟩, hW, hsame.mono (by decide) (by decide)⟩
  · exact retN X1023 hx (t := .boolean) Bd.returns (by simp) (hb hby at_184) hr
  · show Q_law Z u1 u2 u3 h0 n0 _ T1023.heap _
    rw [es2]
    exact ⟨rfl, N1023⟩
set_option maxRecDepth 65536 in
set_option maxHeartbeats 40000000 in
theorem comes_1 {Post : Tables → Env → Array Value → State → Outcome → State → Prop} (hpost : ∀ tb e args s v u, (limb_1_1.after args s (.returned v) u = true ∧ limb_1_2.after args s (.returned v) u = true ∧ True) → FrameEnd s (.returned v) u (Jvm.fieldLocs frame_1_writes args s ++ Jvm.arrayLocs frame_1_arrays args s ++ Jvm.staticLocs frame_1_statics s) 16 128 → Post tb e args s (.returned v) u) :
    ArmFor flags0 classFile x code maxLocals ret World_1 tables_1 room_1 Calls_1 rest_1 Pre_1 Post := by
  intro l hfl _ _ p e ha hc hk s m args below hf hA hF happ hP
  obtain ⟨hcalls, hrest, hpre⟩ := hP
  obtain ⟨-, -, -, hnamed, -, -, -, hat⟩ := (Spec.applies_iff hf).mp happ
  obtain ⟨hg, hn⟩ := and_e (Cond.before_iff.mp (show (Jvm.Cond.and given_1 narrow_1).before args s = true from hpre))
  obtain ⟨g1, g2⟩ := and_e hg
  obtain ⟨g3, g4⟩ := and_e g2
  obtain ⟨g5, g6⟩ := and_e g4
  obtain ⟨w0, w1, w2, rfl⟩ : ∃ w0 w1 w2 : Value, args = #[w0, w1, w2] := by
    have hs : args.size = 3 := by simpa [Cond.value, given_1] using g1
    obtain ⟨L⟩ := args
    match L, hs with
    | [w0, w1, w2], _ => exact ⟨w0, w1, w2, rfl⟩
  have hw := fun d (hd : d ∈ tables_1) => atoms_spec (ws := Jvm.Cond.code x code maxLocals ret :: tables_1) hat d (List.mem_cons_of_mem _ hd)
  have hfit : Fit s := fun {y c} hc i hi => by
    obtain ⟨ha, rfl⟩ := Array.getElem?_eq_some_iff.mp hc
    have q := List.all_eq_true.mp ((Array.all_eq_true_iff_forall_mem.mp hF) _ (Array.getElem_mem ha)) i (List.mem_range.mpr hi)
    simpa [Array.getElem?_eq_getElem hi] using q
  obtain ⟨i0, ei0⟩ := is_v g3
  obtain rfl : w0 = (.int i0) := Option.some.inj ei0
  obtain ⟨i1, ei1⟩ := is_v g5
  obtain rfl : w1 = (.int i1) := Option.some.inj ei1
  obtain ⟨i2, ei2⟩ := isL_v g6
  obtain rfl : w2 = (.long i2) := Option.some.inj ei2
  obtain ⟨n, o, h1, h2, h3, _, L, rfl, ⟨rfl, N⟩, hq⟩ := rm_law l s _ hw tables_1 i0 i1 i2 s.heap s.heap.size (Nat.le_refl _)  p e ha hc hk s m _ below hf ((Spec.applies_iff_loose hf).mp happ).1 ⟨rfl, State.Warmed39.refl s, rfl⟩ trivial
  refine ⟨n, _, h1, h2, h3, hpost _ _ _ _ _ _ ⟨Cond.after_iff.mpr rfl, Cond.after_iff.mpr (eq_i res_at (Term.int_eval (1)) rfl), trivial⟩ ⟨hq.1, hq.2.1, (hq.2.2.sift fun y hy => Or.inr (N y hy)).mono (by decide) (by decide)⟩⟩
theorem main_1_1 : Claimed_1_1 := comes_1 fun _ _ _ _ _ _ h hF => ⟨h.1, hF⟩
theorem main_1_2 : Claimed_1_2 := comes_1 fun _ _ _ _ _ _ h hF => ⟨h.2.1, hF⟩
end Jvm.Pilot.@@N@@
namespace Jvm.Pilot.@@N@@
open Jvm Jvm.ClassFile Sem Op Lib Jvm.Free Jvm.Stand Jvm.Pilot.@@N@@.Jvm.D
/-! MADE BY PROGRAM (witnessworld.py) out of the Statement's table words and the real class files: 10 classes; the members and pool entries that the words name. The judged class is class 1, her method 1. -/
namespace start1
open Jvm.ClassFile
def u (s : String) : CpInfo := .utf8 (stringToUtf16 s)
/-- a pool by its gaps: so many unusable entries, then the entry; so many at the end -/
def gap : Nat → List CpInfo → List CpInfo
  | 0, r => r
  | n + 1, r => .unusable :: gap n r
def poolList (es : List (Nat × CpInfo)) (last : Nat) : List CpInfo := es.foldr (fun e r => gap e.1 (e.2 :: r)) (gap last [])
def pool (es : List (Nat × CpInfo)) (last : Nat) : Array CpInfo := ⟨poolList es last⟩
def fileOf (pool : Array CpInfo) (this : Nat) (attrs : Array Attribute := #[]) (ms : Array MethodInfo := #[]) (fl : Nat := 33) (sup : Nat := 0) (ifs : Array Nat := #[]) (fds : Array FieldInfo := #[]) : ClassFile where
  minorVersion := 0
  majorVersion := 65
  constantPool := pool
  accessFlags := fl
  thisClass := this
  superClass := sup
  interfaces := ifs
  fields := fds
  methods := ms
  attributes := attrs
def plain (name : String) (sup : Option ClassId) : Class where
  name := name
  kind := .ordinary
  loader := none
  accessFlags := 33
  super := sup
  interfaces := #[]
  cf := none
  fields := #[]
  methods := #[]
  instanceTypes := #[]
  staticTypes := #[]
  resolved := #[]
  callSites := []
  init := .initialized
  statics := none
  mirror := none

def pool0 : Array CpInfo := pool [(5, u "<init>"), (0, u "()V"), (1, .class_ 10), (1, u "java/lang/Object")] 113

def k0c0 : Code := { maxStack := 0, maxLocals := 1, code := object_method_1_code, exceptionTable := #[], attributes := #[] }
def k0m0 : Method := { name := "<init>", desc := "()V", sig := { parameters := [], returnType := none }, accessFlags := 1, code := some k0c0 }
/-- java/lang/Object -/
def k0 : Class := { plain "java/lang/Object" none with
  accessFlags := 33
  interfaces := #[]
  cf := some (fileOf pool0 8 #[] #[{ accessFlags := 1, nameIndex := 5, descriptorIndex := 6, attributes := #[] }] 33 0 #[] #[])
  fields := #[]
  methods := #[k0m0]
  instanceTypes := #[]
  staticTypes := #[]
  resolved := Array.replicate 124 none
  statics := none }

def pool1 : Array CpInfo := pool [(2, .class_ 4), (1, u "java/lang/Object"), (0, u "<init>"), (0, u "()V"), (0, .integer 1073741823), (2, .long 9223372036854775807), (1, .long 9223372036854775806), (1, .class_ 15), (0, u "com/example/quorumline/quorumline/concurrency/ClientServer"), (0, .methodref 14 17), (0, .nameAndType 5 18), (0, u "(IIDD)V"), (0, .methodref 14 20), (0, .nameAndType 21 22), (0, u "serverOf"), (0, u "(J)I"), (0, .class_ 24), (0, u "com/example/quorumline/quorumline/concurrency/ClientServerServerOfPinLaw"), (2, u "law"), (0, u "(IIJ)Z")] 3

def k1m0 : Method := { name := "<init>", desc := "()V", sig := { parameters := [], returnType := none }, accessFlags := 2, code := none }
def k1c1 : Code := { maxStack := 8, maxLocals := 19, code := code, exceptionTable := #[], attributes := #[] }
def k1m1 : Method := { name := "law", desc := "(IIJ)Z", sig := { parameters := [.int, .int, .long], returnType := some .boolean }, accessFlags := 9, code := some k1c1 }
/-- com/example/quorumline/quorumline/concurrency/ClientServerServerOfPinLaw -/
def k1 : Class := { plain "com/example/quorumline/quorumline/concurrency/ClientServerServerOfPinLaw" (some 0) with
  accessFlags := 49
  interfaces := #[]
  cf := some (fileOf pool1 23 #[] #[{ accessFlags := 2, nameIndex := 5, descriptorIndex := 6, attributes := #[] }, { accessFlags := 9, nameIndex := 27, descriptorIndex := 28, attributes := #[] }] 49 2 #[] #[])
  fields := #[]
  methods := #[k1m0, k1m1]
  instanceTypes := #[]
  staticTypes := #[]
  resolved := Array.replicate 32 none
  statics := none }

def pool2 : Array CpInfo := pool [(1, .methodref 2 3), (0, .class_ 4), (0, .nameAndType 5 6), (0, u "java/lang/Object"), (0, u "<init>"), (0, u "()V"), (0, .class_ 8), (0, u "java/lang/Record")] 13

def k2c0 : Code := { maxStack := 1, maxLocals := 1, code := jdk_30_method_1_code, exceptionTable := #[], attributes := #[] }
def k2m0 : Method := { name := "<init>", desc := "()V", sig := { parameters := [], returnType := none }, accessFlags := 4, code := some k2c0 }
/-- java/lang/Record -/
def k2 : Class := { plain "java/lang/Record" (some 0) with
  accessFlags := 1057
  interfaces := #[]
  cf := some (fileOf pool2 7 #[] #[{ accessFlags := 4, nameIndex := 5, descriptorIndex := 6, attributes := #[] }] 1057 2 #[] #[])
  fields := #[]
  methods := #[k2m0]
  instanceTypes := #[]
  staticTypes := #[]
  resolved := Array.replicate 22 none
  statics := none }

def pool3 : Array CpInfo := pool [(1, .methodref 2 3), (0, .class_ 4), (0, .nameAndType 5 6), (0, u "java/lang/Record"), (0, u "<init>"), (0, u "()V"), (0, .fieldref 8 9), (0, .class_ 10), (0, .nameAndType 11 12), (0, u "com/example/quorumline/quorumline/concurrency/ClientServer"), (0, u "clients"), (0, u "I"), (0, .fieldref 8 14), (0, .nameAndType 15 12), (0, u "servers"), (0, .fieldref 8 17), (0, .nameAndType 18 19), (0, u "clientMips"), (0, u "D"), (0, .fieldref 8 21), (0, .nameAndType 22 19), (0, u "serverMips"), (17, u "(J)I"), (15, u "(IIDD)V"), (37, u "serverOf")] 28

def k3c0 : Code := { maxStack := 3, maxLocals := 7, code := prog_36_method_1_code, exceptionTable := #[], attributes := #[] }
def k3m0 : Method := { name := "<init>", desc := "(IIDD)V", sig := { parameters := [.int, .int, .double, .double], returnType := none }, accessFlags := 0, code := some k3c0 }
def k3c1 : Code := { maxStack := 5, maxLocals := 3, code := prog_36_method_3_code, exceptionTable := #[], attributes := #[] }
def k3m1 : Method := { name := "serverOf", desc := "(J)I", sig := { parameters := [.long], returnType := some .int }, accessFlags := 0, code := some k3c1 }
/-- com/example/quorumline/quorumline/concurrency/ClientServer -/
def k3 : Class := { plain "com/example/quorumline/quorumline/concurrency/ClientServer" (some 2) with
  accessFlags := 48
  interfaces := #[]
  cf := some (fileOf pool3 8 #[] #[{ accessFlags := 0, nameIndex := 5, descriptorIndex := 56, attributes := #[] }, { accessFlags := 0, nameIndex := 94, descriptorIndex := 40, attributes := #[] }] 48 2 #[] #[{ accessFlags := 18, nameIndex := 11, descriptorIndex := 12, attributes := #[] }, { accessFlags := 18, nameIndex := 15, descriptorIndex := 12, attributes := #[] }, { accessFlags := 18, nameIndex := 18, descriptorIndex := 19, attributes := #[] }, { accessFlags := 18, nameIndex := 22, descriptorIndex := 19, attributes := #[] }])
  fields := #[{ name := "clients", type := .int, accessFlags := 18, slot := 0, constantValue := 0 }, { name := "servers", type := .int, accessFlags := 18, slot := 1, constantValue := 0 }, { name := "clientMips", type := .double, accessFlags := 18, slot := 2, constantValue := 0 }, { name := "serverMips", type := .double, accessFlags := 18, slot := 3, constantValue := 0 }]
  methods := #[k3m0, k3m1]
  instanceTypes := #[.int, .int, .double, .double]
  staticTypes := #[]
  resolved := Array.replicate 123 none
  statics := none }

def pool4 : Array CpInfo := pool [(1, u "java/lang/Cloneable"), (0, .class_ 1), (0, u "java/lang/Object"), (0, .class_ 3)] 3

/-- java/lang/Cloneable -/
def k4 : Class := { plain "java/lang/Cloneable" (some 0) with
  accessFlags := 1537
  interfaces := #[]
  cf := some (fileOf pool4 2 #[] #[] 1537 4 #[] #[])
  fields := #[]
  methods := #[]
  instanceTypes := #[]
  staticTypes := #[]
  resolved := Array.replicate 8 none
  statics := none }

def pool5 : Array CpInfo := pool [(1, u "java/io/Serializable"), (0, .class_ 1), (0, u "java/lang/Object"), (0, .class_ 3)] 3

/-- java/io/Serializable -/
def k5 : Class := { plain "java/io/Serializable" (some 0) with
  accessFlags := 1537
  interfaces := #[]
  cf := some (fileOf pool5 2 #[] #[] 1537 4 #[] #[])
  fields := #[]
  methods := #[]
  instanceTypes := #[]
  staticTypes := #[]
  resolved := Array.replicate 8 none
  statics := none }

/-- the primitive byte -/
def k6 : Class := { plain "byte" none with kind := .primitive 'B', accessFlags := 0x411 }
/-- [B -/
def k7 : Class := { plain "[B" (some 0) with kind := .array 6 .byte, interfaces := #[4, 5], accessFlags := 1041 }

/-- the primitive int -/
def k8 : Class := { plain "int" none with kind := .primitive 'I', accessFlags := 0x411 }
/-- [I -/
def k9 : Class := { plain "[I" (some 0) with kind := .array 8 .int, interfaces := #[4, 5], accessFlags := 1041 }

def heap : Heap := #[]
def classes : Array Class := #[k0, k1, k2, k3, k4, k5, k6, k7, k8, k9]
def interned : List (Array UInt16 × Addr) := []
def slotsUsed : Nat := 0
def theMethod : MethodId := ⟨1, 1⟩
def args0 : Array Value := #[.int 5, .int 3, .long 7]
def aboutOver (below : List Frame) : State where
  vm := { classes := classes, interned := interned.toArray }
  heap := heap
  slotsUsed := slotsUsed
  threads := #[{ frames := .invoking theMethod args0 :: below }]
def below0 : List Frame := [.native { method := ⟨0, 0⟩, args := #[] }]
def about1 : State := aboutOver below0
def p0 : Program := .bare "" "" ""
def e0 : Env := launch0.env 0 0 0
theorem w_frames : about1.frames = Frame.invoking theMethod args0 :: below0 := rfl
set_option maxRecDepth 65536 in
theorem w_args : argsFit about1.vm theMethod args0 = true := by decide +kernel
set_option maxRecDepth 65536 in
theorem w_heap : heapFits about1 = true := by decide +kernel
set_option maxRecDepth 65536 in
theorem w_runnable : about1.curStatus? = some .runnable := by decide +kernel
set_option maxRecDepth 65536 in
theorem w_alone : about1.alone = true := by decide +kernel
set_option maxRecDepth 65536 in
theorem w_named : about1.methodNamed? x = some theMethod := by decide +kernel
set_option maxRecDepth 65536 in
theorem w_hears : about1.hears theMethod below0 = true := by decide +kernel
set_option maxRecDepth 65536 in
theorem w_ripe : about1.ripe theMethod args0 below0 = true := by decide +kernel
theorem w_running : about1.status = .running := rfl
set_option maxRecDepth 65536 in
theorem w_room : about1.hasRoom e0.platform room_1 = true :=
  launch0.hasRoom_least _ room_1 (by decide +kernel) (by decide +kernel) (by decide +kernel) (by decide +kernel) (by decide +kernel) (by decide +kernel)
theorem allAtoms_all (ts : List Jvm.Cond) (a : Array Jvm.Value) (st : Jvm.State) : (allAtoms ts).before a st = ts.all (fun c => c.before a st) := by
  induction ts with
  | nil => rfl
  | cons c t ih =>
    show (Jvm.Cond.and c (allAtoms t)).before a st = _
    rw [Jvm.Cond.before_and, ih, List.all_cons]
def words1 : List Jvm.Cond := Jvm.Cond.code x code maxLocals ret :: tables_1
/-- a 'code' word, met by the world's own term for the bytes: nothing is compared byte by byte -/
theorem code_word {y : MethodName} {bytes : ByteArray} {mx : Nat} {rt : Option FieldType} {a : Array Value} {s : State} {m : MethodId} {meth : Method} {c : Code} (h1 : s.methodNamed? y = some m) (h2 : s.vm.method? m = some meth) (h3 : meth.code = some c) (h4 : c.code = bytes)
    (h5 : (c.maxLocals == mx && c.exceptionTable.isEmpty && decide (c.maxStack ≤ mostOperands) && decide (meth.sig.returnType = rt) && !meth.locks && decide (parseMethodDescriptor y.desc = some meth.sig)) = true) : (Jvm.Cond.code y bytes mx rt).before a s = true := by
  simp only [Bool.and_eq_true, beq_iff_eq, Bool.not_eq_true', decide_eq_true_eq] at h5
  obtain ⟨⟨⟨⟨⟨g1, g2⟩, g3⟩, g4⟩, g5⟩, g6⟩ := h5
  simp [Cond.before, Cond.holds, Cond.value, h1, h2, h3, h4, g1, g2, g3, g4, g5, g6]
def isCode : Jvm.Cond → Bool
  | .code _ _ _ _ => true
  | _ => false
theorem all_split {L : List Jvm.Cond} {P : Jvm.Cond → Bool} (h1 : L.all (fun c => isCode c || P c) = true) (h2 : ∀ c ∈ L.filter isCode, P c = true) : L.all P = true := by
  refine List.all_eq_true.mpr fun c hc => ?_
  have h := List.all_eq_true.mp h1 c hc
  rcases Bool.eq_false_or_eq_true (isCode c) with hi | hi
  · exact h2 c (List.mem_filter.mpr ⟨hc, hi⟩)
  · simpa [hi] using h
set_option maxRecDepth 65536 in
theorem w_c0 : (Jvm.Cond.code x code maxLocals ret).before args0 about1 = true := code_word (m := ⟨1, 1⟩) (meth := k1m1) (c := k1c1) (by decide +kernel) rfl rfl rfl (by decide +kernel)
set_option maxRecDepth 65536 in
theorem w_c1 : (Jvm.Cond.code ({ cls := "com/example/quorumline/quorumline/concurrency/ClientServer", name := "<init>", desc := "(IIDD)V" } : Jvm.MethodName) prog_36_method_1_code (7 : Nat) (Option.none : Option Jvm.ClassFile.FieldType)).before args0 about1 = true := code_word (m := ⟨3, 0⟩) (meth := k3m0) (c := k3c0) (by decide +kernel) rfl rfl rfl (by decide +kernel)
set_option maxRecDepth 65536 in
theorem w_c2 : (Jvm.Cond.code ({ cls := "java/lang/Record", name := "<init>", desc := "()V" } : Jvm.MethodName) jdk_30_method_1_code (1 : Nat) (Option.none : Option Jvm.ClassFile.FieldType)).before args0 about1 = true := code_word (m := ⟨2, 0⟩) (meth := k2m0) (c := k2c0) (by decide +kernel) rfl rfl rfl (by decide +kernel)
set_option maxRecDepth 65536 in
theorem w_c3 : (Jvm.Cond.code ({ cls := "java/lang/Object", name := "<init>", desc := "()V" } : Jvm.MethodName) object_method_1_code (1 : Nat) (Option.none : Option Jvm.ClassFile.FieldType)).before args0 about1 = true := code_word (m := ⟨0, 0⟩) (meth := k0m0) (c := k0c0) (by decide +kernel) rfl rfl rfl (by decide +kernel)
set_option maxRecDepth 65536 in
theorem w_c4 : (Jvm.Cond.code ({ cls := "com/example/quorumline/quorumline/concurrency/ClientServer", name := "serverOf", desc := "(J)I" } : Jvm.MethodName) prog_36_method_3_code (3 : Nat) (Option.some Jvm.ClassFile.FieldType.int)).before args0 about1 = true := code_word (m := ⟨3, 1⟩) (meth := k3m1) (c := k3c1) (by decide +kernel) rfl rfl rfl (by decide +kernel)
def codes1 : List Jvm.Cond := [Jvm.Cond.code x code maxLocals ret, Jvm.Cond.code ({ cls := "com/example/quorumline/quorumline/concurrency/ClientServer", name := "<init>", desc := "(IIDD)V" } : Jvm.MethodName) prog_36_method_1_code (7 : Nat) (Option.none : Option Jvm.ClassFile.FieldType), Jvm.Cond.code ({ cls := "java/lang/Record", name := "<init>", desc := "()V" } : Jvm.MethodName) jdk_30_method_1_code (1 : Nat) (Option.none : Option Jvm.ClassFile.FieldType), Jvm.Cond.code ({ cls := "java/lang/Object", name := "<init>", desc := "()V" } : Jvm.MethodName) object_method_1_code (1 : Nat) (Option.none : Option Jvm.ClassFile.FieldType), Jvm.Cond.code ({ cls := "com/example/quorumline/quorumline/concurrency/ClientServer", name := "serverOf", desc := "(J)I" } : Jvm.MethodName) prog_36_method_3_code (3 : Nat) (Option.some Jvm.ClassFile.FieldType.int)]
set_option maxRecDepth 65536 in
theorem codes_eq : words1.filter isCode = codes1 := rfl
theorem w_codes : ∀ c ∈ words1.filter isCode, c.before args0 about1 = true := by
  rw [codes_eq]
  intro c hc
  simp only [codes1, List.mem_cons, List.not_mem_nil, or_false] at hc
  rcases hc with rfl | rfl | rfl | rfl | rfl
  · exact w_c0
  · exact w_c1
  · exact w_c2
  · exact w_c3
  · exact w_c4
set_option maxRecDepth 65536 in
theorem w_t1 : (words1.take 24).all (fun c => isCode c || c.before args0 about1) = true := by decide +kernel
set_option maxRecDepth 65536 in
theorem w_t2 : (words1.drop 24).all (fun c => isCode c || c.before args0 about1) = true := by decide +kernel
theorem w_tables : (allAtoms (Jvm.Cond.code x code maxLocals ret :: tables_1)).before args0 about1 = true := by
  rw [allAtoms_all]
  show words1.all (fun c => c.before args0 about1) = true
  refine all_split ?_ w_codes
  rw [← List.take_append_drop 24 words1, List.all_append, w_t1, w_t2]
  rfl
set_option maxRecDepth 65536 in
theorem w_case : (Jvm.Cond.and given_1 narrow_1).before args0 about1 = true := by decide +kernel
theorem w_applies : (headSpec (Jvm.Cond.code x code maxLocals ret :: tables_1) room_1).applies x e0.platform about1 = true :=
  (Spec.applies_iff w_frames).mpr ⟨w_running, w_runnable, w_alone, w_named, w_hears, w_ripe, w_room, w_tables⟩
theorem atStart : AtStart classFile x code maxLocals ret World_1 tables_1 room_1 Calls_1 rest_1 Pre_1 launch0 p0 e0 about1 theMethod args0 below0 :=
  ⟨lists_1, trivial, launch0.admits_env _ _ _, launch0.least_env, fairChoices_fair.cas, fairChoices_fair.clock, w_frames, w_args, w_heap, w_applies, trivial, trivial, w_case⟩
end start1
theorem witness_1 : WitnessClaimed_1 := ⟨start1.p0, start1.e0, start1.about1, start1.theMethod, start1.args0, start1.below0, start1.atStart⟩
end Jvm.Pilot.@@N@@
