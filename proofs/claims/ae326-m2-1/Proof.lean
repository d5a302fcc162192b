import JvmDerived
import JvmDerived.Pilot.@@N@@Statement
import JvmDerived.Pilot.@@N@@Code
set_option linter.unusedVariables false
set_option linter.unusedSimpArgs false
namespace Jvm.RoadKit
open Sem ClassFile Op Lib Jvm.Stand Jvm.Free Jvm.LawKit
section New
variable {p : Program} {l : Launch} {e : Env} {R : Room} {s : State} {m : MethodId} {args : Array Value} {below : List Frame} {meth : Method} {c : Code} {T : State} {locs : List Loc} {cells slots : Nat}
theorem retI (X : Stand p l e R s m args below meth c T locs cells slots) (hx : p.tables.exec = Jvm.exec) {pc : Nat} {Ls : Array Slot} {z : Int32} {rest : List Value} (hret : meth.sig.returnType = some .int) (hd : decode c.code pc = .ok (.ireturn, 1)) {fs : List Frame}
    (hl : ∀ (f : JFrame) (acts : List Action), f.method = m → f.locked = none → f.entered = [] → (doReturn e (T.setTop f) acts (some (.int z))).1 = T.setFrames fs) : Steps p.tables e below (T.setTop (mkF m pc Ls (.int z :: rest))) (T.setFrames fs) := by
  have hm' : T.vm.method? m = some meth := X.method'
  have hn : narrow .int (.int z) = .int z := rfl
  show Steps p.tables e below (T.setTop { method := m, pc := pc, locals := Ls, stack := _ :: rest, locked := none }) _
  jvm_step X.here [X.here.top, hx, hd, hm', hret, hn]
  first | (intro acts; rw [hl _ acts rfl rfl rfl]) | rw [hl _ _ rfl rfl rfl]
  exact Steps.refl _
end New
end Jvm.RoadKit
namespace Jvm.Pilot.@@N@@
open Jvm Jvm.ClassFile Sem Op Lib Jvm.Free Jvm.Stand Jvm.LawKit Jvm.RoadKit Bundle Jvm.Pilot.@@N@@.Jvm.D
theorem own_newB {p : Program} {l : Launch} {e : Env} {R : Room} {s : State} {m : MethodId} {args : Array Value} {below : List Frame} {meth : Method} {c : Code} {T : State} {locs : List Loc} {cells slots : Nat} {Z : State} {a0 : Array Value} {h : Heap}
    (X : Stand p l e R s m args below meth c T locs cells slots) (hx : p.tables.exec = Jvm.exec) (hZ : Z.Warmed39 s.vm) (w : (Jvm.Cond.arrayClass .byte).before a0 Z = true) (eT : T.heap = h) {g : JFrame} (hg : g.method = m) (hd : decode c.code g.pc = .ok (.newarray .byte, 2)) {n : Int32} {rest : List Value} (hs : g.stack = .int n :: rest)
    (hn : ¬ n < 0) {cap : Nat} (hcap : n.toNatClampNeg ≤ cap) (hb : cap * 8 ≤ 536870912) (hc : cells + 1 ≤ R.cells) (hl : slots + cap ≤ R.slots) :
    ∃ (T' : State) (h' : Heap) (cA : ClassId), Stand p l e R s m args below meth c T' locs (cells + 1) (slots + cap) ∧ T'.heap = h' ∧ Ext h h' ∧ Arr Z h' h.size (newA cA .byte n) .byte ∧ Exa Z h' h.size "[B" ∧
      ∀ target, Steps p.tables e below (T'.setTop { g with pc := g.pc + 2, stack := .ref h.size :: rest }) target → Steps p.tables e below (T.setTop g) target := by
  have hcb : componentBytes (newarray.typeOf .byte) ≤ 8 := by decide
  obtain ⟨cA, kA, comp, h1, h2, h3, X', st⟩ := X.newarrayPrim hx (atype := .byte) (mvA hZ w) hg hd hs hn (Nat.le_trans (Nat.mul_le_mul hcap hcb) hb) hc (by omega)
  subst eT
  have h1' : s.vm.findClass "[B" = some cA := h1
  rw [hZ.alike.findClass] at h1'
  obtain ⟨kZ, z1, -⟩ := Vm.findClass_spec h1'
  obtain ⟨k', z2, z3⟩ := hZ.alike.2.2 _ _ z1
  cases h2.symm.trans z2
  have hk : kZ.kind = .array comp .byte := by have q : kA.kind = .array comp .byte := h3; rw [← q, z3]
  have hN : (T.heap.push (newA cA .byte n))[T.heap.size]? = some (newA cA .byte n) := by simp
  refine ⟨_, _, cA, X'.more (Nat.le_refl _) (by omega), rfl, ⟨by show T.heap.size ≤ (T.heap.push _).size; simp, fun a c q => ?_⟩, ⟨hN, ⟨by simp [newA], kZ, z1, comp, hk⟩, by simp [newA]⟩, ⟨_, kZ, hN, h1', z1, rfl, fun q => by rw [hk] at q; cases q⟩, st⟩
  show (T.heap.push _)[a]? = _
  rw [Array.getElem?_push_lt (Array.getElem?_eq_some_iff.mp q).1]; exact (Array.getElem?_eq_getElem _).symm.trans q
theorem own_lt {d : Int64} (h : ¬ d = (-9223372036854775808 : Int64)) : d - (1 : Int64) < d := by
  have s := c_lsub d 1
  have r := rng64 d
  have r1 := rng64 (d - 1)
  have e1 : (1 : Int64).toInt = 1 := by decide
  have e2 : (-9223372036854775808 : Int64).toInt = -9223372036854775808 := by decide
  rw [← Int64.toInt_inj] at h
  rw [Int64.lt_iff_toInt_lt]
  omega
theorem own_up {d n : Int64} (h : ¬ n = (9223372036854775807 : Int64)) (q : ¬ n < d) : ¬ n + (1 : Int64) < d := by
  have s := c_ladd n 1
  have r := rng64 n
  have r1 := rng64 (n + 1)
  have e1 : (1 : Int64).toInt = 1 := by decide
  have e2 : (9223372036854775807 : Int64).toInt = 9223372036854775807 := by decide
  rw [← Int64.toInt_inj] at h
  rw [Int64.lt_iff_toInt_lt] at q ⊢
  omega
theorem own_irr (d : Int64) : ¬ d < d := by rw [Int64.lt_iff_toInt_lt]; omega
theorem own_ne {r : Int32} (h : r = 1) : ¬ r = (0 : Int32) := by subst h; decide
theorem ef_rnn (m : MethodId) (x0 : Addr) (x1 : Addr) : entryFrame m #[(.ref x0), (.ref x1)] 2 = mkF m 0 #[.val (.ref x0), .val (.ref x1)] [] := by first | (simp [entryFrame, mkF, argsToLocals, Value.category]; done) | rfl
def Q_rnn (Z : State) (a1 : Addr) (a2 : Addr) (h0 : Heap) (n0 : Nat) (v : Option Value) (h : Heap) (L : List Loc) : Prop := v = some (.ref a1) ∧ Fr n0 L ∧ h = h0
theorem pn_0 : plainName "java/util/Objects" = true := by first | (simp [plainName, overriddenIn]; done) | decide +kernel
theorem d3_0 : decode jdk_31_method_11_code 0 = .ok (.aload_n 0, 1) := by decide +kernel
theorem d3_1 : decode jdk_31_method_11_code 1 = .ok (.ifnonnull 12, 3) := by decide +kernel
theorem d3_13 : decode jdk_31_method_11_code 13 = .ok (.aload_n 0, 1) := by decide +kernel
theorem d3_14 : decode jdk_31_method_11_code 14 = .ok (.areturn, 1) := by decide +kernel
set_option maxRecDepth 65536 in
set_option maxHeartbeats 40000000 in
theorem rm_rnn (l : Launch) (Z : State) (a0 : Array Value) (hw : ∀ d ∈ tables_1, d.before a0 Z = true) (ws : List Jvm.Cond) (a1 : Addr) (a2 : Addr) (h0 : Heap) (n0 : Nat) (Z0 : n0 ≤ h0.size) :
    MetFree l (⟨"java/util/Objects", "requireNonNull", "(Ljava/lang/Object;Ljava/lang/String;)Ljava/lang/Object;"⟩ : MethodName) (head1 (Jvm.Cond.code (⟨"java/util/Objects", "requireNonNull", "(Ljava/lang/Object;Ljava/lang/String;)Ljava/lang/Object;"⟩ : MethodName) jdk_31_method_11_code 2 (some (.object "java/lang/Object")) :: ws) ({ frames := 0, cells := 0, slots := 0, locals := 0 } : Room)) (fun a U => a = #[(.ref a1), (.ref a2)] ∧ Z.Warmed39 U.vm ∧ U.heap = h0) (fun _ _ _ _ _ => True) (fun _ U o U' => ∃ v L, o = .returned v ∧ Q_rnn Z a1 a2 h0 n0 v U'.heap L ∧ FrameEnd U o U' L ({ frames := 0, cells := 0, slots := 0, locals := 0 } : Room).cells ({ frames := 0, cells := 0, slots := 0, locals := 0 } : Room).slots) := by
  refine MetFree.of_bodySF (plainFor_of_name pn_0) hisR ?_
  intro p e s m args below meth c s₁ Bd hml0 hP hK
  obtain ⟨rfl, hZ, hh⟩ := hP
  have hx := Bd.exec
  have hby := Bd.bytes
  have hml : c.maxLocals = 2 := hml0
  have hown : s.vm.findClass "java/util/Objects" = some m.cls := findClass_of_methodNamed Bd.named
  have hnm := (name_of_methodNamed Bd.named Bd.method).1
  have X0 : Stand p l e ({ frames := 0, cells := 0, slots := 0, locals := 0 } : Room) s m #[(.ref a1), (.ref a2)] below meth c s₁ [] 0 0 := Stand.of_body Bd
  have e0 : s₁.heap = h0 := by rw [← hh, Bd.state]; rfl
  have N0 := Fr.nil n0
  have K0 : Keep h0 h0 [] := Keep.refl h0 []
  have P0 : ∀ t, Steps p.tables e below (s₁.setTop (mkF m 0 #[.val (.ref a1), .val (.ref a2)] [])) t → Steps p.tables e below (s₁.setTop (entryFrame m #[(.ref a1), (.ref a2)] 2)) t := fun t k => castTop (ef_rnn m a1 a2) k
  have P1001 : ∀ t, Steps p.tables e below (s₁.setTop (mkF m 14 #[.val (.ref a1), .val (.ref a2)] [(.ref a1)])) t → Steps p.tables e below (s₁.setTop (entryFrame m #[(.ref a1), (.ref a2)] 2)) t := fun t k => P0 t (by
    refine XS.aloadN X0.here hx rfl (hb hby d3_0) rfl rfl ?_
    show Steps p.tables e below (s₁.setTop (mkF m 1 #[.val (.ref a1), .val (.ref a2)] [(.ref a1)])) _
    refine XS.ifnonnullYes X0.here hx rfl (pc0 := 1) (pc' := 13) rfl (hb hby d3_1) rfl (by decide) (by decide) ?_
    show Steps p.tables e below (s₁.setTop (mkF m 13 #[.val (.ref a1), .val (.ref a2)] [])) _
    refine XS.aloadN X0.here hx rfl (hb hby d3_13) rfl rfl ?_
    show Steps p.tables e below (s₁.setTop (mkF m 14 #[.val (.ref a1), .val (.ref a2)] [(.ref a1)])) _
    exact k)
  obtain ⟨fs, hr, hrun, hended, hW, hsame⟩ := X0.leave (v := some (.ref a1)) (fun h => by rw [Bd.returns] at h; cases h)
  refine ⟨_, _, P1001 _ ?_, hrun, hended, _, _, rfl, ?_, ⟨_, rfl⟩, hW, hsame.mono (by decide) (by decide)⟩
  · jvm_step X0.here [X0.here.top, hx, (hb hby d3_14), X0.method', Bd.returns, Value.isRef, FieldType.isReference]
    first | (intro acts; rw [hr _ acts rfl rfl rfl]) | rw [hr _ _ rfl rfl rfl]
    exact Steps.refl _
  · show Q_rnn Z a1 a2 h0 n0 _ s₁.heap _
    rw [e0]
    exact ⟨rfl, N0, rfl⟩
theorem ef_init (m : MethodId) (x0 : Addr) (x1 : Int32) (x2 : Addr) (x3 : Int64) (x4 : Int64) : entryFrame m #[(.ref x0), (.int x1), (.ref x2), (.long x3), (.long x4)] 7 = mkF m 0 #[.val (.ref x0), .val (.int x1), .val (.ref x2), .val (.long x3), .second, .val (.long x4), .second] [] := by first | (simp [entryFrame, mkF, argsToLocals, Value.category]; done) | rfl
def Q_init (Z : State) (a1 : Addr) (u1 : Int32) (a2 : Addr) (q1 : Int64) (q2 : Int64) (h0 : Heap) (n0 : Nat) (v : Option Value) (h : Heap) (L : List Loc) : Prop := v = none ∧ Fr n0 L ∧ Keep h0 h [a1] ∧ Exa Z h a1 "com/example/hardy_cache/hardycache/store/Entry" ∧ Fld Z h a1 "com/example/hardy_cache/hardycache/store/Entry" "deadlineMillis" "J" (.long q2)
theorem pn_1 : plainName "com/example/hardy_cache/hardycache/store/Entry" = true := by first | (simp [plainName, overriddenIn]; done) | decide +kernel
theorem d1_0 : decode prog_19_method_1_code 0 = .ok (.aload_n 0, 1) := by decide +kernel
theorem d1_1 : decode prog_19_method_1_code 1 = .ok (.invokespecial 5, 3) := by decide +kernel
theorem d1_4 : decode prog_19_method_1_code 4 = .ok (.aload_n 0, 1) := by decide +kernel
theorem d1_5 : decode prog_19_method_1_code 5 = .ok (.iload_n 1, 1) := by decide +kernel
theorem d1_6 : decode prog_19_method_1_code 6 = .ok (.putfield 11, 3) := by decide +kernel
theorem d1_9 : decode prog_19_method_1_code 9 = .ok (.aload_n 0, 1) := by decide +kernel
theorem d1_10 : decode prog_19_method_1_code 10 = .ok (.aload_n 2, 1) := by decide +kernel
theorem d1_11 : decode prog_19_method_1_code 11 = .ok (.ldc 17, 2) := by decide +kernel
theorem d1_13 : decode prog_19_method_1_code 13 = .ok (.invokestatic 19, 3) := by decide +kernel
theorem pd_0 : parseMethodDescriptor "(Ljava/lang/Object;Ljava/lang/String;)Ljava/lang/Object;" = some ⟨[(.object "java/lang/Object"), (.object "java/lang/String")], some (.object "java/lang/Object")⟩ := by decide +kernel
theorem d1_16 : decode prog_19_method_1_code 16 = .ok (.checkcast 25, 3) := by decide +kernel
theorem d1_19 : decode prog_19_method_1_code 19 = .ok (.putfield 27, 3) := by decide +kernel
theorem d1_22 : decode prog_19_method_1_code 22 = .ok (.aload_n 0, 1) := by decide +kernel
theorem d1_23 : decode prog_19_method_1_code 23 = .ok (.lload_n 3, 1) := by decide +kernel
theorem d1_24 : decode prog_19_method_1_code 24 = .ok (.putfield 29, 3) := by decide +kernel
theorem d1_27 : decode prog_19_method_1_code 27 = .ok (.aload_n 0, 1) := by decide +kernel
theorem d1_28 : decode prog_19_method_1_code 28 = .ok (.lload 5, 2) := by decide +kernel
theorem d1_30 : decode prog_19_method_1_code 30 = .ok (.putfield 33, 3) := by decide +kernel
theorem d1_33 : decode prog_19_method_1_code 33 = .ok (.return_, 1) := by decide +kernel
set_option maxRecDepth 65536 in
set_option maxHeartbeats 40000000 in
theorem rm_init (l : Launch) (Z : State) (a0 : Array Value) (hw : ∀ d ∈ tables_1, d.before a0 Z = true) (ws : List Jvm.Cond) (a1 : Addr) (u1 : Int32) (a2 : Addr) (q1 : Int64) (q2 : Int64) (h0 : Heap) (n0 : Nat) (Z0 : n0 ≤ h0.size) (E1 : Exa Z h0 a1 "com/example/hardy_cache/hardycache/store/Entry") (E2 : Exa Z h0 a2 "[B") (F0 : Fld Z h0 a1 "com/example/hardy_cache/hardycache/store/Entry" "flags" "I" (.int (0 : Int32))) (F1 : Fld Z h0 a1 "com/example/hardy_cache/hardycache/store/Entry" "value" "[B" .null) (F2 : Fld Z h0 a1 "com/example/hardy_cache/hardycache/store/Entry" "casUnique" "J" (.long (0 : Int64))) (F3 : Fld Z h0 a1 "com/example/hardy_cache/hardycache/store/Entry" "deadlineMillis" "J" (.long (0 : Int64))) (g1 : n0 ≤ a1) :
    MetFree l (⟨"com/example/hardy_cache/hardycache/store/Entry", "<init>", "(I[BJJ)V"⟩ : MethodName) (head1 (Jvm.Cond.code (⟨"com/example/hardy_cache/hardycache/store/Entry", "<init>", "(I[BJJ)V"⟩ : MethodName) prog_19_method_1_code 7 none :: ws) ({ frames := 1, cells := 2, slots := 24, locals := 14 } : Room)) (fun a U => a = #[(.ref a1), (.int u1), (.ref a2), (.long q1), (.long q2)] ∧ Z.Warmed39 U.vm ∧ U.heap = h0) (fun _ _ _ _ _ => True) (fun _ U o U' => ∃ v L, o = .returned v ∧ Q_init Z a1 u1 a2 q1 q2 h0 n0 v U'.heap L ∧ ReturnedEndW U o U' L ({ frames := 1, cells := 2, slots := 24, locals := 14 } : Room).cells ({ frames := 1, cells := 2, slots := 24, locals := 14 } : Room).slots) := by
  refine MetFree.of_bodySF (plainFor_of_name pn_1) hisR ?_
  intro p e s m args below meth c s₁ Bd hml0 hP hK
  obtain ⟨rfl, hZ, hh⟩ := hP
  have hx := Bd.exec
  have hby := Bd.bytes
  have hml : c.maxLocals = 7 := hml0
  have hown : s.vm.findClass "com/example/hardy_cache/hardycache/store/Entry" = some m.cls := findClass_of_methodNamed Bd.named
  have hnm := (name_of_methodNamed Bd.named Bd.method).1
  have X0 : Stand p l e ({ frames := 1, cells := 2, slots := 24, locals := 14 } : Room) s m #[(.ref a1), (.int u1), (.ref a2), (.long q1), (.long q2)] below meth c s₁ [] 0 0 := Stand.of_body Bd
  have e0 : s₁.heap = h0 := by rw [← hh, Bd.state]; rfl
  have N0 := Fr.nil n0
  have K0 : Keep h0 h0 [a1] := Keep.refl h0 [a1]
  have P0 : ∀ t, Steps p.tables e below (s₁.setTop (mkF m 0 #[.val (.ref a1), .val (.int u1), .val (.ref a2), .val (.long q1), .second, .val (.long q2), .second] [])) t → Steps p.tables e below (s₁.setTop (entryFrame m #[(.ref a1), (.int u1), (.ref a2), (.long q1), (.long q2)] 7)) t := fun t k => castTop (ef_init m a1 u1 a2 q1 q2) k
  have hS0 : s.Since s.vm h0.size := (State.WarmedH.refl s).since _
  have hk0 := Nat.le_refl h0.size
  obtain ⟨T1002, X1002, e1002, st1002⟩ := initO X0 hx hZ hown (hw _ (List.mem_of_getElem? (i := 7) rfl)) (hw _ (List.mem_of_getElem? (i := 8) rfl)) (hw _ (List.mem_of_getElem? (i := 9) rfl)) e0 (g := (mkF m 1 #[.val (.ref a1), .val (.int u1), .val (.ref a2), .val (.long q1), .second, .val (.long q2), .second] [(.ref a1)])) rfl (by rw [hml]; rfl) rfl (hb hby d1_1) (by decide) (W := 0) (by show 2 * 0 + _ ≤ _; exact Nat.le_of_eq rfl) (by decide)
  obtain ⟨T1003, h1003, X1003, e1003, W1003, st1003⟩ := putF X1002 hx hZ hown (host := "") (Or.inl (hw _ (List.mem_of_getElem? (i := 10) rfl))) Via.refl e1002 F0 E1 (Or.inr ⟨(hw _ (List.mem_of_getElem? (i := 11) rfl)), rfl, hnm⟩) (hw _ (List.mem_of_getElem? (i := 1) rfl)) (ty := .int) (by decide) rfl rfl (g := (mkF m 6 #[.val (.ref a1), .val (.int u1), .val (.ref a2), .val (.long q1), .second, .val (.long q2), .second] [(.int u1), (.ref a1)])) rfl rfl (hb hby d1_6)
  have Fw1003 := F0.same W1003
  have c1004_0 := E1.wr W1003
  have c1004_1 := E2.wr W1003
  have c1004_3 := F1.other W1003 (Or.inr (slot_ne (Or.inr (hw _ (List.mem_of_getElem? (i := 26) rfl))) (Or.inr (hw _ (List.mem_of_getElem? (i := 11) rfl))) (by decide) (t := (.array .byte)) (t' := .int) (by decide) (by decide)))
  have c1004_4 := F2.other W1003 (Or.inr (slot_ne (Or.inr (hw _ (List.mem_of_getElem? (i := 28) rfl))) (Or.inr (hw _ (List.mem_of_getElem? (i := 11) rfl))) (by decide) (t := .long) (t' := .int) (by decide) (by decide)))
  have c1004_5 := F3.other W1003 (Or.inr (slot_ne (Or.inr (hw _ (List.mem_of_getElem? (i := 30) rfl))) (Or.inr (hw _ (List.mem_of_getElem? (i := 11) rfl))) (by decide) (t := .long) (t' := .int) (by decide) (by decide)))
  have hk1003 := Nat.le_trans hk0 (Nat.le_of_eq W1003.size.symm)
  have Z1003 : n0 ≤ h1003.size := Nat.le_trans Z0 (Nat.le_of_eq W1003.size.symm)
  have K1003 : Keep h0 h1003 [a1] := K0.wr W1003 (Or.inl (List.mem_of_getElem? (i := 0) rfl))
  have N1003 := Fr.snoc X1003 N0 g1
  have P1005 : ∀ t, Steps p.tables e below (T1003.setTop (mkF m 11 #[.val (.ref a1), .val (.int u1), .val (.ref a2), .val (.long q1), .second, .val (.long q2), .second] [(.ref a2), (.ref a1)])) t → Steps p.tables e below (s₁.setTop (entryFrame m #[(.ref a1), (.int u1), (.ref a2), (.long q1), (.long q2)] 7)) t := fun t k => P0 t (by
    refine XS.aloadN X0.here hx rfl (hb hby d1_0) rfl rfl ?_
    show Steps p.tables e below (s₁.setTop (mkF m 1 #[.val (.ref a1), .val (.int u1), .val (.ref a2), .val (.long q1), .second, .val (.long q2), .second] [(.ref a1)])) _
    refine st1002 _ ?_
    show Steps p.tables e below (T1002.setTop (mkF m 4 #[.val (.ref a1), .val (.int u1), .val (.ref a2), .val (.long q1), .second, .val (.long q2), .second] [])) _
    refine XS.aloadN X1002.here hx rfl (hb hby d1_4) rfl rfl ?_
    show Steps p.tables e below (T1002.setTop (mkF m 5 #[.val (.ref a1), .val (.int u1), .val (.ref a2), .val (.long q1), .second, .val (.long q2), .second] [(.ref a1)])) _
    refine XS.iloadN X1002.here hx rfl (hb hby d1_5) rfl ?_
    show Steps p.tables e below (T1002.setTop (mkF m 6 #[.val (.ref a1), .val (.int u1), .val (.ref a2), .val (.long q1), .second, .val (.long q2), .second] [(.int u1), (.ref a1)])) _
    refine st1003 _ ?_
    show Steps p.tables e below (T1003.setTop (mkF m 9 #[.val (.ref a1), .val (.int u1), .val (.ref a2), .val (.long q1), .second, .val (.long q2), .second] [])) _
    refine XS.aloadN X1003.here hx rfl (hb hby d1_9) rfl rfl ?_
    show Steps p.tables e below (T1003.setTop (mkF m 10 #[.val (.ref a1), .val (.int u1), .val (.ref a2), .val (.long q1), .second, .val (.long q2), .second] [(.ref a1)])) _
    refine XS.aloadN X1003.here hx rfl (hb hby d1_10) rfl rfl ?_
    show Steps p.tables e below (T1003.setTop (mkF m 11 #[.val (.ref a1), .val (.int u1), .val (.ref a2), .val (.long q1), .second, .val (.long q2), .second] [(.ref a2), (.ref a1)])) _
    exact k)
  have wS1006 : ∀ d ∈ Bundle.stringAtoms, d.before a0 Z = true := fun d hd => hw d ((by decide +kernel : ∀ d ∈ Bundle.stringAtoms, d ∈ tables_1) d hd)
  obtain ⟨a1006, T1006, h1006, q1006, X1006, e1006, E1006, S1006, hk1006, hZ, hown, st1006⟩ := ldcS (s := s) (vm0 := s.vm) X1003 hx hZ hown (hw _ (List.mem_of_getElem? (i := 12) rfl)) wS1006 e1003 hS0 hk1003 (g := (mkF m 11 #[.val (.ref a1), .val (.int u1), .val (.ref a2), .val (.long q1), .second, .val (.long q2), .second] [(.ref a2), (.ref a1)])) rfl (hb hby d1_11) (n := 20) (by decide) (by decide) (by decide) (by decide)
  have c1007_0 := c1004_0.ext E1006
  have c1007_1 := c1004_1.ext E1006
  have c1007_2 := Fw1003.ext E1006
  have c1007_3 := c1004_3.ext E1006
  have c1007_4 := c1004_4.ext E1006
  have c1007_5 := c1004_5.ext E1006
  have Z1006 : n0 ≤ h1006.size := Nat.le_trans Z1003 E1006.1
  have K1006 : Keep h0 h1006 [a1] := K1003.ext E1006
  obtain ⟨_, _, ⟨T1008, L1008, k1008, n1008⟩, -, X1008, ⟨Lc1008, hQ1008, l1008, y1008, z1008⟩, st1008⟩ := Jvm.LawKit.callS X1006 hx (y := (⟨"java/util/Objects", "requireNonNull", "(Ljava/lang/Object;Ljava/lang/String;)Ljava/lang/Object;"⟩ : MethodName)) hown (mvT hZ (hw _ (List.mem_of_getElem? (i := 19) rfl))) (mvT hZ (hw _ (List.mem_of_getElem? (i := 20) rfl))) (mvT hZ (hw _ (List.mem_of_getElem? (i := 21) rfl))) (mvT hZ (hw _ (List.mem_of_getElem? (i := 22) rfl))) (by decide) (backOf (W := 1) (rm_rnn l Z a0 hw [] a2 a1006 h1006 n0 Z1006 ) hZ (hw _ (List.mem_of_getElem? (i := 22) rfl)) (hw _ (List.mem_of_getElem? (i := 21) rfl)) (by decide) (by decide)) (g := (mkF m 13 #[.val (.ref a1), .val (.int u1), .val (.ref a2), .val (.long q1), .second, .val (.long q2), .second] [(.ref a1006), (.ref a2), (.ref a1)])) rfl (by rw [hml]; rfl) (argsL := [(.ref a2), (.ref a1006)]) (rest := [(.ref a1)]) (lenOf pd_0 rfl) rfl (by show 2 * 0 + _ ≤ _; exact Nat.le_of_eq rfl) (hb hby d1_13) (fun _ _ => ⟨rfl, e1006, (by decide : 2 + 0 ≤ _), (by decide : 24 + 0 ≤ _)⟩)
  dsimp only [Pt.U, Pt.locs, Pt.cells, Pt.slots] at X1008 l1008 y1008 z1008 st1008 hQ1008
  subst l1008 y1008 z1008
  obtain ⟨rfl, N1008q, e13⟩ := hQ1008
  have N1008 := Fr.app N1003 N1008q
  obtain ⟨T1009, X1009, e1009, st1009⟩ := castY X1008 hx hZ hown (hw _ (List.mem_of_getElem? (i := 23) rfl)) e13 (Ins.self c1007_1) (g := (mkF m 16 #[.val (.ref a1), .val (.int u1), .val (.ref a2), .val (.long q1), .second, .val (.long q2), .second] [(.ref a2), (.ref a1)])) rfl rfl (hb hby d1_16)
  obtain ⟨T1010, h1010, X1010, e1010, W1010, st1010⟩ := putF X1009 hx hZ hown (host := "") (Or.inl (hw _ (List.mem_of_getElem? (i := 25) rfl))) Via.refl e1009 c1007_3 c1007_0 (Or.inr ⟨(hw _ (List.mem_of_getElem? (i := 26) rfl)), rfl, hnm⟩) (hw _ (List.mem_of_getElem? (i := 1) rfl)) (ty := (.array .byte)) (by decide) rfl rfl (g := (mkF m 19 #[.val (.ref a1), .val (.int u1), .val (.ref a2), .val (.long q1), .second, .val (.long q2), .second] [(.ref a2), (.ref a1)])) rfl rfl (hb hby d1_19)
  have Fw1010 := c1007_3.same W1010
  have c1011_0 := c1007_0.wr W1010
  have c1011_1 := c1007_1.wr W1010
  have c1011_2 := c1007_2.other W1010 (Or.inr (slot_ne (Or.inr (hw _ (List.mem_of_getElem? (i := 11) rfl))) (Or.inr (hw _ (List.mem_of_getElem? (i := 26) rfl))) (by decide) (t := .int) (t' := (.array .byte)) (by decide) (by decide)))
  have c1011_4 := c1007_4.other W1010 (Or.inr (slot_ne (Or.inr (hw _ (List.mem_of_getElem? (i := 28) rfl))) (Or.inr (hw _ (List.mem_of_getElem? (i := 26) rfl))) (by decide) (t := .long) (t' := (.array .byte)) (by decide) (by decide)))
  have c1011_5 := c1007_5.other W1010 (Or.inr (slot_ne (Or.inr (hw _ (List.mem_of_getElem? (i := 30) rfl))) (Or.inr (hw _ (List.mem_of_getElem? (i := 26) rfl))) (by decide) (t := .long) (t' := (.array .byte)) (by decide) (by decide)))
  have hk1010 := Nat.le_trans hk1006 (Nat.le_of_eq W1010.size.symm)
  have Z1010 : n0 ≤ h1010.size := Nat.le_trans Z1006 (Nat.le_of_eq W1010.size.symm)
  have K1010 : Keep h0 h1010 [a1] := K1006.wr W1010 (Or.inl (List.mem_of_getElem? (i := 0) rfl))
  have N1010 := Fr.snoc X1010 N1008 g1
  obtain ⟨T1012, h1012, X1012, e1012, W1012, st1012⟩ := putF X1010 hx hZ hown (host := "") (Or.inl (hw _ (List.mem_of_getElem? (i := 27) rfl))) Via.refl e1010 c1011_4 c1011_0 (Or.inr ⟨(hw _ (List.mem_of_getElem? (i := 28) rfl)), rfl, hnm⟩) (hw _ (List.mem_of_getElem? (i := 1) rfl)) (ty := .long) (by decide) rfl rfl (g := (mkF m 24 #[.val (.ref a1), .val (.int u1), .val (.ref a2), .val (.long q1), .second, .val (.long q2), .second] [(.long q1), (.ref a1)])) rfl rfl (hb hby d1_24)
  have Fw1012 := c1011_4.same W1012
  have c1013_0 := c1011_0.wr W1012
  have c1013_1 := c1011_1.wr W1012
  have c1013_2 := c1011_2.other W1012 (Or.inr (slot_ne (Or.inr (hw _ (List.mem_of_getElem? (i := 11) rfl))) (Or.inr (hw _ (List.mem_of_getElem? (i := 28) rfl))) (by decide) (t := .int) (t' := .long) (by decide) (by decide)))
  have c1013_3 := Fw1010.other W1012 (Or.inr (slot_ne (Or.inr (hw _ (List.mem_of_getElem? (i := 26) rfl))) (Or.inr (hw _ (List.mem_of_getElem? (i := 28) rfl))) (by decide) (t := (.array .byte)) (t' := .long) (by decide) (by decide)))
  have c1013_5 := c1011_5.other W1012 (Or.inr (slot_ne (Or.inr (hw _ (List.mem_of_getElem? (i := 30) rfl))) (Or.inr (hw _ (List.mem_of_getElem? (i := 28) rfl))) (by decide) (t := .long) (t' := .long) (by decide) (by decide)))
  have hk1012 := Nat.le_trans hk1010 (Nat.le_of_eq W1012.size.symm)
  have Z1012 : n0 ≤ h1012.size := Nat.le_trans Z1010 (Nat.le_of_eq W1012.size.symm)
  have K1012 : Keep h0 h1012 [a1] := K1010.wr W1012 (Or.inl (List.mem_of_getElem? (i := 0) rfl))
  have N1012 := Fr.snoc X1012 N1010 g1
  obtain ⟨T1014, h1014, X1014, e1014, W1014, st1014⟩ := putF X1012 hx hZ hown (host := "") (Or.inl (hw _ (List.mem_of_getElem? (i := 29) rfl))) Via.refl e1012 c1013_5 c1013_0 (Or.inr ⟨(hw _ (List.mem_of_getElem? (i := 30) rfl)), rfl, hnm⟩) (hw _ (List.mem_of_getElem? (i := 1) rfl)) (ty := .long) (by decide) rfl rfl (g := (mkF m 30 #[.val (.ref a1), .val (.int u1), .val (.ref a2), .val (.long q1), .second, .val (.long q2), .second] [(.long q2), (.ref a1)])) rfl rfl (hb hby d1_30)
  have Fw1014 := c1013_5.same W1014
  have c1015_0 := c1013_0.wr W1014
  have c1015_1 := c1013_1.wr W1014
  have c1015_2 := c1013_2.other W1014 (Or.inr (slot_ne (Or.inr (hw _ (List.mem_of_getElem? (i := 11) rfl))) (Or.inr (hw _ (List.mem_of_getElem? (i := 30) rfl))) (by decide) (t := .int) (t' := .long) (by decide) (by decide)))
  have c1015_3 := c1013_3.other W1014 (Or.inr (slot_ne (Or.inr (hw _ (List.mem_of_getElem? (i := 26) rfl))) (Or.inr (hw _ (List.mem_of_getElem? (i := 30) rfl))) (by decide) (t := (.array .byte)) (t' := .long) (by decide) (by decide)))
  have c1015_4 := Fw1012.other W1014 (Or.inr (slot_ne (Or.inr (hw _ (List.mem_of_getElem? (i := 28) rfl))) (Or.inr (hw _ (List.mem_of_getElem? (i := 30) rfl))) (by decide) (t := .long) (t' := .long) (by decide) (by decide)))
  have hk1014 := Nat.le_trans hk1012 (Nat.le_of_eq W1014.size.symm)
  have Z1014 : n0 ≤ h1014.size := Nat.le_trans Z1012 (Nat.le_of_eq W1014.size.symm)
  have K1014 : Keep h0 h1014 [a1] := K1012.wr W1014 (Or.inl (List.mem_of_getElem? (i := 0) rfl))
  have N1014 := Fr.snoc X1014 N1012 g1
  have P1016 : ∀ t, Steps p.tables e below (T1014.setTop (mkF m 33 #[.val (.ref a1), .val (.int u1), .val (.ref a2), .val (.long q1), .second, .val (.long q2), .second] [])) t → Steps p.tables e below (s₁.setTop (entryFrame m #[(.ref a1), (.int u1), (.ref a2), (.long q1), (.long q2)] 7)) t := fun t k => P1005 t (by
    refine st1006 _ ?_
    show Steps p.tables e below (T1006.setTop (mkF m 13 #[.val (.ref a1), .val (.int u1), .val (.ref a2), .val (.long q1), .second, .val (.long q2), .second] [(.ref a1006), (.ref a2), (.ref a1)])) _
    refine st1008 _ ?_
    show Steps p.tables e below (T1008.setTop (mkF m 16 #[.val (.ref a1), .val (.int u1), .val (.ref a2), .val (.long q1), .second, .val (.long q2), .second] [(.ref a2), (.ref a1)])) _
    refine st1009 _ ?_
    show Steps p.tables e below (T1009.setTop (mkF m 19 #[.val (.ref a1), .val (.int u1), .val (.ref a2), .val (.long q1), .second, .val (.long q2), .second] [(.ref a2), (.ref a1)])) _
    refine st1010 _ ?_
    show Steps p.tables e below (T1010.setTop (mkF m 22 #[.val (.ref a1), .val (.int u1), .val (.ref a2), .val (.long q1), .second, .val (.long q2), .second] [])) _
    refine XS.aloadN X1010.here hx rfl (hb hby d1_22) rfl rfl ?_
    show Steps p.tables e below (T1010.setTop (mkF m 23 #[.val (.ref a1), .val (.int u1), .val (.ref a2), .val (.long q1), .second, .val (.long q2), .second] [(.ref a1)])) _
    refine XS.lloadN X1010.here hx rfl (hb hby d1_23) rfl ?_
    show Steps p.tables e below (T1010.setTop (mkF m 24 #[.val (.ref a1), .val (.int u1), .val (.ref a2), .val (.long q1), .second, .val (.long q2), .second] [(.long q1), (.ref a1)])) _
    refine st1012 _ ?_
    show Steps p.tables e below (T1012.setTop (mkF m 27 #[.val (.ref a1), .val (.int u1), .val (.ref a2), .val (.long q1), .second, .val (.long q2), .second] [])) _
    refine XS.aloadN X1012.here hx rfl (hb hby d1_27) rfl rfl ?_
    show Steps p.tables e below (T1012.setTop (mkF m 28 #[.val (.ref a1), .val (.int u1), .val (.ref a2), .val (.long q1), .second, .val (.long q2), .second] [(.ref a1)])) _
    refine XS.lload X1012.here hx rfl (hb hby d1_28) rfl ?_
    show Steps p.tables e below (T1012.setTop (mkF m 30 #[.val (.ref a1), .val (.int u1), .val (.ref a2), .val (.long q1), .second, .val (.long q2), .second] [(.long q2), (.ref a1)])) _
    refine st1014 _ ?_
    show Steps p.tables e below (T1014.setTop (mkF m 33 #[.val (.ref a1), .val (.int u1), .val (.ref a2), .val (.long q1), .second, .val (.long q2), .second] [])) _
    exact k)
  obtain ⟨fs, hr, hrun, hended, hRW⟩ := Jvm.Stand.leaveW (s := s) (vm₁ := T1006.vm) X1014 S1006 (show _ ≤ T1014.heap.size by rw [e1014]; exact hk1014) (v := none) (fun _ => rfl)
  refine ⟨_, _, P1016 _ ?_, hrun, hended, _, _, rfl, ?_, hRW.1, hRW.2.1, hRW.2.2.1, hRW.2.2.2.mono (by decide) (by decide)⟩
  · exact X1014.returnOut hx Bd.returns (hb hby d1_33) hr
  · show Q_init Z a1 u1 a2 q1 q2 h0 n0 _ T1014.heap _
    rw [e1014]
    exact ⟨rfl, N1014, K1014, c1015_0, Fw1014⟩
theorem ef_due (m : MethodId) (x0 : Addr) (x1 : Int64) : entryFrame m #[(.ref x0), (.long x1)] 3 = mkF m 0 #[.val (.ref x0), .val (.long x1), .second] [] := by first | (simp [entryFrame, mkF, argsToLocals, Value.category]; done) | rfl
def Q_due (Z : State) (a1 : Addr) (q1 : Int64) (q2 : Int64) (h0 : Heap) (n0 : Nat) (v : Option Value) (h : Heap) (L : List Loc) : Prop := ∃ r : Int32, v = some (.int r) ∧ Fr n0 L ∧ h = h0 ∧ (¬ q1 < q2 → r = 1) ∧ (q1 < q2 → r = 0)
theorem d4_0 : decode prog_19_method_7_code 0 = .ok (.lload_n 1, 1) := by decide +kernel
theorem d4_1 : decode prog_19_method_7_code 1 = .ok (.aload_n 0, 1) := by decide +kernel
theorem d4_2 : decode prog_19_method_7_code 2 = .ok (.getfield 33, 3) := by decide +kernel
theorem d4_5 : decode prog_19_method_7_code 5 = .ok (.lcmp, 1) := by decide +kernel
theorem d4_6 : decode prog_19_method_7_code 6 = .ok (.ifCond .lt 7, 3) := by decide +kernel
theorem d4_13 : decode prog_19_method_7_code 13 = .ok (.iconst 0, 1) := by decide +kernel
theorem d4_14 : decode prog_19_method_7_code 14 = .ok (.ireturn, 1) := by decide +kernel
theorem d4_9 : decode prog_19_method_7_code 9 = .ok (.iconst 1, 1) := by decide +kernel
theorem d4_10 : decode prog_19_method_7_code 10 = .ok (.goto 4, 3) := by decide +kernel
set_option maxRecDepth 65536 in
set_option maxHeartbeats 40000000 in
theorem rm_due (l : Launch) (Z : State) (a0 : Array Value) (hw : ∀ d ∈ tables_1, d.before a0 Z = true) (ws : List Jvm.Cond) (a1 : Addr) (q1 : Int64) (q2 : Int64) (h0 : Heap) (n0 : Nat) (Z0 : n0 ≤ h0.size) (F1 : Fld Z h0 a1 "com/example/hardy_cache/hardycache/store/Entry" "deadlineMillis" "J" (.long q2)) :
    MetFree l (⟨"com/example/hardy_cache/hardycache/store/Entry", "isDueAt", "(J)Z"⟩ : MethodName) (head1 (Jvm.Cond.code (⟨"com/example/hardy_cache/hardycache/store/Entry", "isDueAt", "(J)Z"⟩ : MethodName) prog_19_method_7_code 3 (some .boolean) :: ws) ({ frames := 0, cells := 0, slots := 0, locals := 0 } : Room)) (fun a U => a = #[(.ref a1), (.long q1)] ∧ Z.Warmed39 U.vm ∧ U.heap = h0) (fun _ _ _ _ _ => True) (fun _ U o U' => ∃ v L, o = .returned v ∧ Q_due Z a1 q1 q2 h0 n0 v U'.heap L ∧ FrameEnd U o U' L ({ frames := 0, cells := 0, slots := 0, locals := 0 } : Room).cells ({ frames := 0, cells := 0, slots := 0, locals := 0 } : Room).slots) := by
  refine MetFree.of_bodySF (plainFor_of_name pn_1) hisR ?_
  intro p e s m args below meth c s₁ Bd hml0 hP hK
  obtain ⟨rfl, hZ, hh⟩ := hP
  have hx := Bd.exec
  have hby := Bd.bytes
  have hml : c.maxLocals = 3 := hml0
  have hown : s.vm.findClass "com/example/hardy_cache/hardycache/store/Entry" = some m.cls := findClass_of_methodNamed Bd.named
  have hnm := (name_of_methodNamed Bd.named Bd.method).1
  have X0 : Stand p l e ({ frames := 0, cells := 0, slots := 0, locals := 0 } : Room) s m #[(.ref a1), (.long q1)] below meth c s₁ [] 0 0 := Stand.of_body Bd
  have e0 : s₁.heap = h0 := by rw [← hh, Bd.state]; rfl
  have N0 := Fr.nil n0
  have K0 : Keep h0 h0 [] := Keep.refl h0 []
  have P0 : ∀ t, Steps p.tables e below (s₁.setTop (mkF m 0 #[.val (.ref a1), .val (.long q1), .second] [])) t → Steps p.tables e below (s₁.setTop (entryFrame m #[(.ref a1), (.long q1)] 3)) t := fun t k => castTop (ef_due m a1 q1) k
  obtain ⟨T1017, X1017, e1017, st1017⟩ := getF X0 hx hZ hown (host := "") (Or.inl (hw _ (List.mem_of_getElem? (i := 29) rfl))) Via.refl e0 F1 (g := (mkF m 2 #[.val (.ref a1), .val (.long q1), .second] [(.ref a1), (.long q1)])) rfl rfl (hb hby d4_2)
  have P1018 : ∀ t, Steps p.tables e below (T1017.setTop (mkF m 6 #[.val (.ref a1), .val (.long q1), .second] [(.int (lcmpW q1 q2))])) t → Steps p.tables e below (s₁.setTop (entryFrame m #[(.ref a1), (.long q1)] 3)) t := fun t k => P0 t (by
    refine XS.lloadN X0.here hx rfl (hb hby d4_0) rfl ?_
    show Steps p.tables e below (s₁.setTop (mkF m 1 #[.val (.ref a1), .val (.long q1), .second] [(.long q1)])) _
    refine XS.aloadN X0.here hx rfl (hb hby d4_1) rfl rfl ?_
    show Steps p.tables e below (s₁.setTop (mkF m 2 #[.val (.ref a1), .val (.long q1), .second] [(.ref a1), (.long q1)])) _
    refine st1017 _ ?_
    show Steps p.tables e below (T1017.setTop (mkF m 5 #[.val (.ref a1), .val (.long q1), .second] [(.long q2), (.long q1)])) _
    refine XS.lcmp X1017.here hx rfl (hb hby d4_5) rfl ?_
    show Steps p.tables e below (T1017.setTop (mkF m 6 #[.val (.ref a1), .val (.long q1), .second] [(.int (lcmpW q1 q2))])) _
    exact k)
  by_cases h6 : q1 < q2
  · have P1019 : ∀ t, Steps p.tables e below (T1017.setTop (mkF m 14 #[.val (.ref a1), .val (.long q1), .second] [(.int (0 : Int32))])) t → Steps p.tables e below (s₁.setTop (entryFrame m #[(.ref a1), (.long q1)] 3)) t := fun t k => P1018 t (by
      refine XS.ifYes X1017.here hx rfl (pc0 := 6) (pc' := 13) rfl (hb hby d4_6) rfl ((if0 _ _).trans (tlt ((lw_lt q1 q2).mpr h6)).1) (by decide) (by decide) ?_
      show Steps p.tables e below (T1017.setTop (mkF m 13 #[.val (.ref a1), .val (.long q1), .second] [])) _
      refine XS.iconst X1017.here hx rfl (hb hby d4_13) ?_
      show Steps p.tables e below (T1017.setTop (mkF m 14 #[.val (.ref a1), .val (.long q1), .second] [(.int (0 : Int32))])) _
      exact k)
    obtain ⟨fs, hr, hrun, hended, hW, hsame⟩ := X1017.leave (v := some (.int (0 : Int32))) (fun h => by rw [Bd.returns] at h; cases h)
    refine ⟨_, _, P1019 _ ?_, hrun, hended, _, _, rfl, ?_, ⟨_, rfl⟩, hW, hsame.mono (by decide) (by decide)⟩
    · exact retN X1017 hx (t := .boolean) Bd.returns (by simp) (hb hby d4_14) hr
    · show Q_due Z a1 q1 q2 h0 n0 _ T1017.heap _
      rw [e1017]
      exact ⟨0, rfl, N0, rfl, fun z => absurd h6 z, fun _ => rfl⟩
  · have P1020 : ∀ t, Steps p.tables e below (T1017.setTop (mkF m 14 #[.val (.ref a1), .val (.long q1), .second] [(.int (1 : Int32))])) t → Steps p.tables e below (s₁.setTop (entryFrame m #[(.ref a1), (.long q1)] 3)) t := fun t k => P1018 t (by
      refine XS.ifNo X1017.here hx rfl (hb hby d4_6) rfl ((if0 _ _).trans (flt (fun q => h6 ((lw_lt q1 q2).mp q))).1) ?_
      show Steps p.tables e below (T1017.setTop (mkF m 9 #[.val (.ref a1), .val (.long q1), .second] [])) _
      refine XS.iconst X1017.here hx rfl (hb hby d4_9) ?_
      show Steps p.tables e below (T1017.setTop (mkF m 10 #[.val (.ref a1), .val (.long q1), .second] [(.int (1 : Int32))])) _
      refine XS.goto X1017.here hx rfl (pc0 := 10) (pc' := 14) rfl (hb hby d4_10) (by decide) (by decide) ?_
      show Steps p.tables e below (T1017.setTop (mkF m 14 #[.val (.ref a1), .val (.long q1), .second] [(.int (1 : Int32))])) _
      exact k)
    obtain ⟨fs, hr, hrun, hended, hW, hsame⟩ := X1017.leave (v := some (.int (1 : Int32))) (fun h => by rw [Bd.returns] at h; cases h)
    refine ⟨_, _, P1020 _ ?_, hrun, hended, _, _, rfl, ?_, ⟨_, rfl⟩, hW, hsame.mono (by decide) (by decide)⟩
    · exact retN X1017 hx (t := .boolean) Bd.returns (by simp) (hb hby d4_14) hr
    · show Q_due Z a1 q1 q2 h0 n0 _ T1017.heap _
      rw [e1017]
      exact ⟨1, rfl, N0, rfl, fun _ => rfl, fun z => absurd z h6⟩
theorem ef_law (m : MethodId) (x0 : Int64) (x1 : Int64) (x2 : Int32) (x3 : Int64) : entryFrame m #[(.long x0), (.long x1), (.int x2), (.long x3)] maxLocals = mkF m 0 #[.val (.long x0), .second, .val (.long x1), .second, .val (.int x2), .val (.long x3), .second, .unset, .unset, .unset, .unset] [] := by first | (simp [entryFrame, mkF, argsToLocals, Value.category, maxLocals]; done) | rfl
def Q_law (Z : State) (q1 : Int64) (q2 : Int64) (u1 : Int32) (q3 : Int64) (h0 : Heap) (n0 : Nat) (v : Option Value) (h : Heap) (L : List Loc) : Prop := v = some (.int 1) ∧ Fr n0 L
theorem pn_2 : plainName "com/example/hardy_cache/hardycache/store/EntryIsDueAtPinLaw" = true := by first | (simp [plainName, overriddenIn]; done) | decide +kernel
theorem pd_1 : parseMethodDescriptor "(I[BJJ)V" = some ⟨[.int, (.array .byte), .long, .long], none⟩ := by decide +kernel
theorem pd_2 : parseMethodDescriptor "(J)Z" = some ⟨[.long], some .boolean⟩ := by decide +kernel
set_option maxRecDepth 65536 in
set_option maxHeartbeats 40000000 in
theorem rm_law (l : Launch) (Z : State) (a0 : Array Value) (hw : ∀ d ∈ tables_1, d.before a0 Z = true) (ws : List Jvm.Cond) (q1 : Int64) (q2 : Int64) (u1 : Int32) (q3 : Int64) (h0 : Heap) (n0 : Nat) (Z0 : n0 ≤ h0.size) :
    MetFree l x (head1 (Jvm.Cond.code x code maxLocals ret :: ws) room_1) (fun a U => a = #[(.long q1), (.long q2), (.int u1), (.long q3)] ∧ Z.Warmed39 U.vm ∧ U.heap = h0) (fun _ _ _ _ _ => True) (fun _ U o U' => ∃ v L, o = .returned v ∧ Q_law Z q1 q2 u1 q3 h0 n0 v U'.heap L ∧ ReturnedEndW U o U' L room_1.cells room_1.slots) := by
  refine MetFree.of_bodySF (plainFor_of_name pn_2) hisR ?_
  intro p e s m args below meth c s₁ Bd hml0 hP hK
  obtain ⟨rfl, hZ, hh⟩ := hP
  have hx := Bd.exec
  have hby := Bd.bytes
  have hml : c.maxLocals = 11 := hml0
  have hown : s.vm.findClass "com/example/hardy_cache/hardycache/store/EntryIsDueAtPinLaw" = some m.cls := findClass_of_methodNamed Bd.named
  have hnm := (name_of_methodNamed Bd.named Bd.method).1
  have X0 : Stand p l e room_1 s m #[(.long q1), (.long q2), (.int u1), (.long q3)] below meth c s₁ [] 0 0 := Stand.of_body Bd
  have e0 : s₁.heap = h0 := by rw [← hh, Bd.state]; rfl
  have N0 := Fr.nil n0
  have K0 : Keep h0 h0 [] := Keep.refl h0 []
  have P0 : ∀ t, Steps p.tables e below (s₁.setTop (mkF m 0 #[.val (.long q1), .second, .val (.long q2), .second, .val (.int u1), .val (.long q3), .second, .unset, .unset, .unset, .unset] [])) t → Steps p.tables e below (s₁.setTop (entryFrame m #[(.long q1), (.long q2), (.int u1), (.long q3)] maxLocals)) t := fun t k => castTop (ef_law m q1 q2 u1 q3) k
  have hS0 : s.Since s.vm h0.size := (State.WarmedH.refl s).since _
  have hk0 := Nat.le_refl h0.size
  obtain ⟨T1021, h1021, X1021, e1021, E1021, A1021, D1021, -, st1021⟩ := newO X0 hx hZ hown (hw _ (List.mem_of_getElem? (i := 0) rfl)) (hw _ (List.mem_of_getElem? (i := 1) rfl)) (hw _ (List.mem_of_getElem? (i := 2) rfl)) e0 (g := (mkF m 0 #[.val (.long q1), .second, .val (.long q2), .second, .val (.int u1), .val (.long q3), .second, .unset, .unset, .unset, .unset] [])) rfl (hb hby at_0) (by decide) (by decide)
  obtain ⟨b1021, g1021⟩ : ∃ z, z = h0.size := ⟨_, rfl⟩
  rw [← g1021] at A1021 D1021 st1021
  have g_b1021 : n0 ≤ b1021 := Nat.le_trans Z0 (Nat.le_of_eq g1021.symm)
  have sz_b1021 : h0.size ≤ b1021 := Nat.le_trans K0.1 (Nat.le_of_eq g1021.symm)
  have hk1021 := Nat.le_trans hk0 E1021.1
  have Z1021 : n0 ≤ h1021.size := Nat.le_trans Z0 E1021.1
  have K1021 : Keep h0 h1021 [] := K0.ext E1021
  have F1021_flags : Fld Z h1021 b1021 "com/example/hardy_cache/hardycache/store/Entry" "flags" "I" (.int (0 : Int32)) := D1021 (Or.inr (hw _ (List.mem_of_getElem? (i := 11) rfl))) (ty := .int) (by decide)
  have F1021_value : Fld Z h1021 b1021 "com/example/hardy_cache/hardycache/store/Entry" "value" "[B" .null := D1021 (Or.inr (hw _ (List.mem_of_getElem? (i := 26) rfl))) (ty := (.array .byte)) (by decide)
  have F1021_casUnique : Fld Z h1021 b1021 "com/example/hardy_cache/hardycache/store/Entry" "casUnique" "J" (.long (0 : Int64)) := D1021 (Or.inr (hw _ (List.mem_of_getElem? (i := 28) rfl))) (ty := .long) (by decide)
  have F1021_deadlineMillis : Fld Z h1021 b1021 "com/example/hardy_cache/hardycache/store/Entry" "deadlineMillis" "J" (.long (0 : Int64)) := D1021 (Or.inr (hw _ (List.mem_of_getElem? (i := 30) rfl))) (ty := .long) (by decide)
  obtain ⟨T1023, h1023, k1023, X1023, e1023, E1023, A1023, B1023, st1023⟩ := own_newB X1021 hx hZ (hw _ (List.mem_of_getElem? (i := 3) rfl)) e1021 (g := (mkF m 7 #[.val (.long q1), .second, .val (.long q2), .second, .val (.int u1), .val (.long q3), .second, .unset, .unset, .unset, .unset] [(.int (0 : Int32)), (.int u1), (.ref b1021), (.ref b1021)])) rfl (hb hby at_7) rfl (by decide) (cap := 0) (by decide) (by decide) (by decide) (by decide)
  obtain ⟨b1023, g1023⟩ : ∃ z, z = h1021.size := ⟨_, rfl⟩
  rw [← g1023] at A1023 B1023 st1023
  have ne_b1021_b1023 : b1021 ≠ b1023 := Nat.ne_of_lt (Nat.lt_of_lt_of_le A1021.lt (Nat.le_of_eq g1023.symm))
  have g_b1023 : n0 ≤ b1023 := Nat.le_trans Z1021 (Nat.le_of_eq g1023.symm)
  have sz_b1023 : h0.size ≤ b1023 := Nat.le_trans K1021.1 (Nat.le_of_eq g1023.symm)
  have c1024_0 := A1021.ext E1023
  have c1024_1 := F1021_flags.ext E1023
  have c1024_2 := F1021_value.ext E1023
  have c1024_3 := F1021_casUnique.ext E1023
  have c1024_4 := F1021_deadlineMillis.ext E1023
  have hk1023 := Nat.le_trans hk1021 E1023.1
  have Z1023 : n0 ≤ h1023.size := Nat.le_trans Z1021 E1023.1
  have K1023 : Keep h0 h1023 [] := K1021.ext E1023
  have V1023 : Arv Z h1023 b1023 k1023 .byte (0 : Int32) [] (.int (0 : Int32)) := (Arv.new A1023 (by decide)).pad (pad_rep [] (.int (0 : Int32)) 0)
  have P1025 : ∀ t, Steps p.tables e below (T1023.setTop (mkF m 12 #[.val (.long q1), .second, .val (.long q2), .second, .val (.int u1), .val (.long q3), .second, .unset, .unset, .unset, .unset] [(.long q1), (.long q3), (.ref b1023), (.int u1), (.ref b1021), (.ref b1021)])) t → Steps p.tables e below (s₁.setTop (entryFrame m #[(.long q1), (.long q2), (.int u1), (.long q3)] maxLocals)) t := fun t k => P0 t (by
    refine st1021 _ ?_
    show Steps p.tables e below (T1021.setTop (mkF m 3 #[.val (.long q1), .second, .val (.long q2), .second, .val (.int u1), .val (.long q3), .second, .unset, .unset, .unset, .unset] [(.ref b1021)])) _
    refine XS.dup X1021.here hx rfl (hb hby at_3) rfl rfl ?_
    show Steps p.tables e below (T1021.setTop (mkF m 4 #[.val (.long q1), .second, .val (.long q2), .second, .val (.int u1), .val (.long q3), .second, .unset, .unset, .unset, .unset] [(.ref b1021), (.ref b1021)])) _
    refine XS.iload X1021.here hx rfl (hb hby at_4) rfl ?_
    show Steps p.tables e below (T1021.setTop (mkF m 6 #[.val (.long q1), .second, .val (.long q2), .second, .val (.int u1), .val (.long q3), .second, .unset, .unset, .unset, .unset] [(.int u1), (.ref b1021), (.ref b1021)])) _
    refine XS.iconst X1021.here hx rfl (hb hby at_6) ?_
    show Steps p.tables e below (T1021.setTop (mkF m 7 #[.val (.long q1), .second, .val (.long q2), .second, .val (.int u1), .val (.long q3), .second, .unset, .unset, .unset, .unset] [(.int (0 : Int32)), (.int u1), (.ref b1021), (.ref b1021)])) _
    refine st1023 _ ?_
    show Steps p.tables e below (T1023.setTop (mkF m 9 #[.val (.long q1), .second, .val (.long q2), .second, .val (.int u1), .val (.long q3), .second, .unset, .unset, .unset, .unset] [(.ref b1023), (.int u1), (.ref b1021), (.ref b1021)])) _
    refine XS.lload X1023.here hx rfl (hb hby at_9) rfl ?_
    show Steps p.tables e below (T1023.setTop (mkF m 11 #[.val (.long q1), .second, .val (.long q2), .second, .val (.int u1), .val (.long q3), .second, .unset, .unset, .unset, .unset] [(.long q3), (.ref b1023), (.int u1), (.ref b1021), (.ref b1021)])) _
    refine XS.lloadN X1023.here hx rfl (hb hby at_11) rfl ?_
    show Steps p.tables e below (T1023.setTop (mkF m 12 #[.val (.long q1), .second, .val (.long q2), .second, .val (.int u1), .val (.long q3), .second, .unset, .unset, .unset, .unset] [(.long q1), (.long q3), (.ref b1023), (.int u1), (.ref b1021), (.ref b1021)])) _
    exact k)
  obtain ⟨_, _, ⟨T1026, L1026, k1026, n1026⟩, -, X1026, S1026, gr1026, ⟨Lc1026, hQ1026, l1026, y1026, z1026⟩, st1026⟩ := X1023.specialBackS hx (y := (⟨"com/example/hardy_cache/hardycache/store/Entry", "<init>", "(I[BJJ)V"⟩ : MethodName)) rfl hown (mvT hZ (hw _ (List.mem_of_getElem? (i := 4) rfl))) (mvT hZ (hw _ (List.mem_of_getElem? (i := 5) rfl))) (mvT hZ (hw _ (List.mem_of_getElem? (i := 6) rfl))) (by decide) (backOfS (W := 1) (rm_init l Z a0 hw [] b1021 u1 b1023 q3 q1 h1023 n0 Z1023 c1024_0 B1023 c1024_1 c1024_2 c1024_3 c1024_4 g_b1021) hZ (hw _ (List.mem_of_getElem? (i := 6) rfl)) (hw _ (List.mem_of_getElem? (i := 2) rfl)) (by decide) (by decide)) (g := (mkF m 12 #[.val (.long q1), .second, .val (.long q2), .second, .val (.int u1), .val (.long q3), .second, .unset, .unset, .unset, .unset] [(.long q1), (.long q3), (.ref b1023), (.int u1), (.ref b1021), (.ref b1021)])) rfl (by rw [hml]; rfl) (Steps.refl _) (a := b1021) (argsL := [(.int u1), (.ref b1023), (.long q3), (.long q1)]) (rest := [(.ref b1021)]) (lenOf pd_1 rfl) rfl (by show 2 * 0 + _ ≤ _; exact Nat.le_of_eq rfl) (hb hby at_12) (fun _ _ => ⟨rfl, e1023, (by decide : 2 + 2 ≤ _), (by decide : 4 + 24 ≤ _)⟩)
  dsimp only [Pt.U, Pt.locs, Pt.cells, Pt.slots] at X1026 l1026 y1026 z1026 st1026 hQ1026 S1026 gr1026
  subst l1026 y1026 z1026
  obtain ⟨rfl, N1026q, Ki, Ei, Fi⟩ := hQ1026
  have N1026 := Fr.app N0 N1026q
  obtain ⟨X1026, S1026, hZ, hown⟩ := rebS (s := s) (vm0 := s.vm) hS0 (show _ ≤ T1023.heap.size by rw [e1023]; exact hk1023) X1026 S1026 gr1026 hZ hown
  have hk1026 := Nat.le_refl T1026.heap.size
  have c1027_0 := B1023.keep Ki
  have c1027_1 := V1023.keep Ki (ninS (Ne.symm ne_b1021_b1023) nin0)
  have Z1026 : n0 ≤ T1026.heap.size := Nat.le_trans Z1023 Ki.1
  have K1026 : Keep h0 T1026.heap [] := K1023.trans Ki (allS (Or.inr sz_b1021) all0)
  obtain ⟨cq1028, kq1028, q1028a, q1028b, q1028c⟩ := isOf hZ rfl Ei
  obtain ⟨_, _, ⟨T1028, L1028, k1028, n1028⟩, -, X1028, ⟨Lc1028, hQ1028, l1028, y1028, z1028⟩, st1028⟩ := X1026.virtualBack hx (y := (⟨"com/example/hardy_cache/hardycache/store/Entry", "isDueAt", "(J)Z"⟩ : MethodName)) (z := (⟨"com/example/hardy_cache/hardycache/store/Entry", "isDueAt", "(J)Z"⟩ : MethodName)) hown (mvT hZ (hw _ (List.mem_of_getElem? (i := 31) rfl))) (mvT hZ (hw _ (List.mem_of_getElem? (i := 32) rfl))) (notFace_of_selects (args := #[]) (mvT hZ (hw _ (List.mem_of_getElem? (i := 34) rfl)))) (mvT hZ (hw _ (List.mem_of_getElem? (i := 34) rfl))) (mvT hZ (hw _ (List.mem_of_getElem? (i := 33) rfl))) (by decide) (backOf (W := 0) (rm_due l Z a0 hw [] b1021 q1 q1 T1026.heap n0 Z1026 Fi) hZ (hw _ (List.mem_of_getElem? (i := 35) rfl)) (hw _ (List.mem_of_getElem? (i := 2) rfl)) (by decide) (by decide)) q1028a q1028c (g := (mkF m 20 #[.val (.long q1), .second, .val (.long q2), .second, .val (.int u1), .val (.long q3), .second, .val (.ref b1021), .unset, .unset, .unset] [(.long q1), (.ref b1021)])) rfl (by rw [hml]; rfl) (Steps.refl _) (argsL := [(.long q1)]) (rest := []) (lenOf pd_2 rfl) rfl (by show 2 * 0 + _ ≤ _; exact Nat.le_of_eq rfl) (hb hby at_20) (fun _ _ => ⟨rfl, rfl, (by decide : 4 + 0 ≤ _), (by decide : 28 + 0 ≤ _)⟩)
  dsimp only [Pt.U, Pt.locs, Pt.cells, Pt.slots] at X1028 l1028 y1028 z1028 st1028 hQ1028
  subst l1028 y1028 z1028
  obtain ⟨ra, rfl, N1028q, eda, hpa, hna⟩ := hQ1028
  have N1028 := Fr.app N1026 N1028q
  have P1029 : ∀ t, Steps p.tables e below (T1028.setTop (mkF m 30 #[.val (.long q1), .second, .val (.long q2), .second, .val (.int u1), .val (.long q3), .second, .val (.ref b1021), .val (.int ra), .unset, .unset] [(.int (lcmpW q1 (-9223372036854775808 : Int64)))])) t → Steps p.tables e below (s₁.setTop (entryFrame m #[(.long q1), (.long q2), (.int u1), (.long q3)] maxLocals)) t := fun t k => P1025 t (by
    refine st1026.trans ?_
    show Steps p.tables e below (T1026.setTop (mkF m 15 #[.val (.long q1), .second, .val (.long q2), .second, .val (.int u1), .val (.long q3), .second, .unset, .unset, .unset, .unset] [(.ref b1021)])) _
    refine XS.astore X1026.here hx rfl (hb hby at_15) rfl rfl (l' := #[.val (.long q1), .second, .val (.long q2), .second, .val (.int u1), .val (.long q3), .second, .val (.ref b1021), .unset, .unset, .unset]) rfl ?_
    show Steps p.tables e below (T1026.setTop (mkF m 17 #[.val (.long q1), .second, .val (.long q2), .second, .val (.int u1), .val (.long q3), .second, .val (.ref b1021), .unset, .unset, .unset] [])) _
    refine XS.aload X1026.here hx rfl (hb hby at_17) rfl rfl ?_
    show Steps p.tables e below (T1026.setTop (mkF m 19 #[.val (.long q1), .second, .val (.long q2), .second, .val (.int u1), .val (.long q3), .second, .val (.ref b1021), .unset, .unset, .unset] [(.ref b1021)])) _
    refine XS.lloadN X1026.here hx rfl (hb hby at_19) rfl ?_
    show Steps p.tables e below (T1026.setTop (mkF m 20 #[.val (.long q1), .second, .val (.long q2), .second, .val (.int u1), .val (.long q3), .second, .val (.ref b1021), .unset, .unset, .unset] [(.long q1), (.ref b1021)])) _
    refine st1028.trans ?_
    show Steps p.tables e below (T1028.setTop (mkF m 23 #[.val (.long q1), .second, .val (.long q2), .second, .val (.int u1), .val (.long q3), .second, .val (.ref b1021), .unset, .unset, .unset] [(.int ra)])) _
    refine XS.istore X1028.here hx rfl (hb hby at_23) rfl (l' := #[.val (.long q1), .second, .val (.long q2), .second, .val (.int u1), .val (.long q3), .second, .val (.ref b1021), .val (.int ra), .unset, .unset]) rfl ?_
    show Steps p.tables e below (T1028.setTop (mkF m 25 #[.val (.long q1), .second, .val (.long q2), .second, .val (.int u1), .val (.long q3), .second, .val (.ref b1021), .val (.int ra), .unset, .unset] [])) _
    refine XS.lloadN X1028.here hx rfl (hb hby at_25) rfl ?_
    show Steps p.tables e below (T1028.setTop (mkF m 26 #[.val (.long q1), .second, .val (.long q2), .second, .val (.int u1), .val (.long q3), .second, .val (.ref b1021), .val (.int ra), .unset, .unset] [(.long q1)])) _
    refine X1028.ldc2Long hx hown (mvT hZ (hw _ (List.mem_of_getElem? (i := 36) rfl))) (g := (mkF m 26 #[.val (.long q1), .second, .val (.long q2), .second, .val (.int u1), .val (.long q3), .second, .val (.ref b1021), .val (.int ra), .unset, .unset] [(.long q1)])) rfl (hb hby at_26) _ ?_
    show Steps p.tables e below (T1028.setTop (mkF m 29 #[.val (.long q1), .second, .val (.long q2), .second, .val (.int u1), .val (.long q3), .second, .val (.ref b1021), .val (.int ra), .unset, .unset] [(.long (-9223372036854775808 : Int64)), (.long q1)])) _
    refine XS.lcmp X1028.here hx rfl (hb hby at_29) rfl ?_
    show Steps p.tables e below (T1028.setTop (mkF m 30 #[.val (.long q1), .second, .val (.long q2), .second, .val (.int u1), .val (.long q3), .second, .val (.ref b1021), .val (.int ra), .unset, .unset] [(.int (lcmpW q1 (-9223372036854775808 : Int64)))])) _
    exact k)
  by_cases h30 : q1 = (-9223372036854775808 : Int64)
  · have P1030 : ∀ t, Steps p.tables e below (T1028.setTop (mkF m 56 #[.val (.long q1), .second, .val (.long q2), .second, .val (.int u1), .val (.long q3), .second, .val (.ref b1021), .val (.int ra), .val (.int (1 : Int32)), .unset] [(.int (lcmpW q2 (9223372036854775807 : Int64)))])) t → Steps p.tables e below (s₁.setTop (entryFrame m #[(.long q1), (.long q2), (.int u1), (.long q3)] maxLocals)) t := fun t k => P1029 t (by
      refine XS.ifYes X1028.here hx rfl (pc0 := 30) (pc' := 44) rfl (hb hby at_30) rfl ((if0 _ _).trans (teq ((lw_eq q1 (-9223372036854775808 : Int64)).mpr h30)).1) (by decide) (by decide) ?_
      show Steps p.tables e below (T1028.setTop (mkF m 44 #[.val (.long q1), .second, .val (.long q2), .second, .val (.int u1), .val (.long q3), .second, .val (.ref b1021), .val (.int ra), .unset, .unset] [])) _
      refine XS.iconst X1028.here hx rfl (hb hby at_44) ?_
      show Steps p.tables e below (T1028.setTop (mkF m 45 #[.val (.long q1), .second, .val (.long q2), .second, .val (.int u1), .val (.long q3), .second, .val (.ref b1021), .val (.int ra), .unset, .unset] [(.int (1 : Int32))])) _
      refine XS.goto X1028.here hx rfl (pc0 := 45) (pc' := 49) rfl (hb hby at_45) (by decide) (by decide) ?_
      show Steps p.tables e below (T1028.setTop (mkF m 49 #[.val (.long q1), .second, .val (.long q2), .second, .val (.int u1), .val (.long q3), .second, .val (.ref b1021), .val (.int ra), .unset, .unset] [(.int (1 : Int32))])) _
      refine XS.istore X1028.here hx rfl (hb hby at_49) rfl (l' := #[.val (.long q1), .second, .val (.long q2), .second, .val (.int u1), .val (.long q3), .second, .val (.ref b1021), .val (.int ra), .val (.int (1 : Int32)), .unset]) rfl ?_
      show Steps p.tables e below (T1028.setTop (mkF m 51 #[.val (.long q1), .second, .val (.long q2), .second, .val (.int u1), .val (.long q3), .second, .val (.ref b1021), .val (.int ra), .val (.int (1 : Int32)), .unset] [])) _
      refine XS.lloadN X1028.here hx rfl (hb hby at_51) rfl ?_
      show Steps p.tables e below (T1028.setTop (mkF m 52 #[.val (.long q1), .second, .val (.long q2), .second, .val (.int u1), .val (.long q3), .second, .val (.ref b1021), .val (.int ra), .val (.int (1 : Int32)), .unset] [(.long q2)])) _
      refine X1028.ldc2Long hx hown (mvT hZ (hw _ (List.mem_of_getElem? (i := 37) rfl))) (g := (mkF m 52 #[.val (.long q1), .second, .val (.long q2), .second, .val (.int u1), .val (.long q3), .second, .val (.ref b1021), .val (.int ra), .val (.int (1 : Int32)), .unset] [(.long q2)])) rfl (hb hby at_52) _ ?_
      show Steps p.tables e below (T1028.setTop (mkF m 55 #[.val (.long q1), .second, .val (.long q2), .second, .val (.int u1), .val (.long q3), .second, .val (.ref b1021), .val (.int ra), .val (.int (1 : Int32)), .unset] [(.long (9223372036854775807 : Int64)), (.long q2)])) _
      refine XS.lcmp X1028.here hx rfl (hb hby at_55) rfl ?_
      show Steps p.tables e below (T1028.setTop (mkF m 56 #[.val (.long q1), .second, .val (.long q2), .second, .val (.int u1), .val (.long q3), .second, .val (.ref b1021), .val (.int ra), .val (.int (1 : Int32)), .unset] [(.int (lcmpW q2 (9223372036854775807 : Int64)))])) _
      exact k)
    by_cases h56 : q2 = (9223372036854775807 : Int64)
    · have P1031 : ∀ t, Steps p.tables e below (T1028.setTop (mkF m 106 #[.val (.long q1), .second, .val (.long q2), .second, .val (.int u1), .val (.long q3), .second, .val (.ref b1021), .val (.int ra), .val (.int (1 : Int32)), .val (.int (1 : Int32))] [(.int (1 : Int32))])) t → Steps p.tables e below (s₁.setTop (entryFrame m #[(.long q1), (.long q2), (.int u1), (.long q3)] maxLocals)) t := fun t k => P1030 t (by
        refine XS.ifYes X1028.here hx rfl (pc0 := 56) (pc' := 79) rfl (hb hby at_56) rfl ((if0 _ _).trans (teq ((lw_eq q2 (9223372036854775807 : Int64)).mpr h56)).1) (by decide) (by decide) ?_
        show Steps p.tables e below (T1028.setTop (mkF m 79 #[.val (.long q1), .second, .val (.long q2), .second, .val (.int u1), .val (.long q3), .second, .val (.ref b1021), .val (.int ra), .val (.int (1 : Int32)), .unset] [])) _
        refine XS.iconst X1028.here hx rfl (hb hby at_79) ?_
        show Steps p.tables e below (T1028.setTop (mkF m 80 #[.val (.long q1), .second, .val (.long q2), .second, .val (.int u1), .val (.long q3), .second, .val (.ref b1021), .val (.int ra), .val (.int (1 : Int32)), .unset] [(.int (1 : Int32))])) _
        refine XS.goto X1028.here hx rfl (pc0 := 80) (pc' := 84) rfl (hb hby at_80) (by decide) (by decide) ?_
        show Steps p.tables e below (T1028.setTop (mkF m 84 #[.val (.long q1), .second, .val (.long q2), .second, .val (.int u1), .val (.long q3), .second, .val (.ref b1021), .val (.int ra), .val (.int (1 : Int32)), .unset] [(.int (1 : Int32))])) _
        refine XS.istore X1028.here hx rfl (hb hby at_84) rfl (l' := #[.val (.long q1), .second, .val (.long q2), .second, .val (.int u1), .val (.long q3), .second, .val (.ref b1021), .val (.int ra), .val (.int (1 : Int32)), .val (.int (1 : Int32))]) rfl ?_
        show Steps p.tables e below (T1028.setTop (mkF m 86 #[.val (.long q1), .second, .val (.long q2), .second, .val (.int u1), .val (.long q3), .second, .val (.ref b1021), .val (.int ra), .val (.int (1 : Int32)), .val (.int (1 : Int32))] [])) _
        refine XS.iload X1028.here hx rfl (hb hby at_86) rfl ?_
        show Steps p.tables e below (T1028.setTop (mkF m 88 #[.val (.long q1), .second, .val (.long q2), .second, .val (.int u1), .val (.long q3), .second, .val (.ref b1021), .val (.int ra), .val (.int (1 : Int32)), .val (.int (1 : Int32))] [(.int ra)])) _
        refine XS.ifNo X1028.here hx rfl (hb hby at_88) rfl ((if0 _ _).trans (feq (own_ne (hpa (own_irr q1)))).1) ?_
        show Steps p.tables e below (T1028.setTop (mkF m 91 #[.val (.long q1), .second, .val (.long q2), .second, .val (.int u1), .val (.long q3), .second, .val (.ref b1021), .val (.int ra), .val (.int (1 : Int32)), .val (.int (1 : Int32))] [])) _
        refine XS.iload X1028.here hx rfl (hb hby at_91) rfl ?_
        show Steps p.tables e below (T1028.setTop (mkF m 93 #[.val (.long q1), .second, .val (.long q2), .second, .val (.int u1), .val (.long q3), .second, .val (.ref b1021), .val (.int ra), .val (.int (1 : Int32)), .val (.int (1 : Int32))] [(.int (1 : Int32))])) _
        refine XS.ifNo X1028.here hx rfl (hb hby at_93) rfl ((if0 _ _).trans (feq (by decide)).1) ?_
        show Steps p.tables e below (T1028.setTop (mkF m 96 #[.val (.long q1), .second, .val (.long q2), .second, .val (.int u1), .val (.long q3), .second, .val (.ref b1021), .val (.int ra), .val (.int (1 : Int32)), .val (.int (1 : Int32))] [])) _
        refine XS.iload X1028.here hx rfl (hb hby at_96) rfl ?_
        show Steps p.tables e below (T1028.setTop (mkF m 98 #[.val (.long q1), .second, .val (.long q2), .second, .val (.int u1), .val (.long q3), .second, .val (.ref b1021), .val (.int ra), .val (.int (1 : Int32)), .val (.int (1 : Int32))] [(.int (1 : Int32))])) _
        refine XS.ifNo X1028.here hx rfl (hb hby at_98) rfl ((if0 _ _).trans (feq (by decide)).1) ?_
        show Steps p.tables e below (T1028.setTop (mkF m 101 #[.val (.long q1), .second, .val (.long q2), .second, .val (.int u1), .val (.long q3), .second, .val (.ref b1021), .val (.int ra), .val (.int (1 : Int32)), .val (.int (1 : Int32))] [])) _
        refine XS.iconst X1028.here hx rfl (hb hby at_101) ?_
        show Steps p.tables e below (T1028.setTop (mkF m 102 #[.val (.long q1), .second, .val (.long q2), .second, .val (.int u1), .val (.long q3), .second, .val (.ref b1021), .val (.int ra), .val (.int (1 : Int32)), .val (.int (1 : Int32))] [(.int (1 : Int32))])) _
        refine XS.goto X1028.here hx rfl (pc0 := 102) (pc' := 106) rfl (hb hby at_102) (by decide) (by decide) ?_
        show Steps p.tables e below (T1028.setTop (mkF m 106 #[.val (.long q1), .second, .val (.long q2), .second, .val (.int u1), .val (.long q3), .second, .val (.ref b1021), .val (.int ra), .val (.int (1 : Int32)), .val (.int (1 : Int32))] [(.int (1 : Int32))])) _
        exact k)
      obtain ⟨fs, hr, hrun, hended, hRW⟩ := Jvm.Stand.leaveW (s := s) (vm₁ := T1026.vm) X1028 S1026 (show _ ≤ T1028.heap.size by rw [eda]; exact hk1026) (v := some (.int (1 : Int32))) (fun h => by rw [Bd.returns] at h; cases h)
      refine ⟨_, _, P1031 _ ?_, hrun, hended, _, _, rfl, ?_, hRW.1, hRW.2.1, hRW.2.2.1, hRW.2.2.2.mono (by decide) (by decide)⟩
      · exact retN X1028 hx (t := .boolean) Bd.returns (by simp) (hb hby at_106) hr
      · show Q_law Z q1 q2 u1 q3 h0 n0 _ T1028.heap _
        rw [eda]
        exact ⟨rfl, N1028⟩
    · obtain ⟨cq1032, kq1032, q1032a, q1032b, q1032c⟩ := isOf hZ eda Ei
      obtain ⟨_, _, ⟨T1032, L1032, k1032, n1032⟩, -, X1032, ⟨Lc1032, hQ1032, l1032, y1032, z1032⟩, st1032⟩ := X1028.virtualBack hx (y := (⟨"com/example/hardy_cache/hardycache/store/Entry", "isDueAt", "(J)Z"⟩ : MethodName)) (z := (⟨"com/example/hardy_cache/hardycache/store/Entry", "isDueAt", "(J)Z"⟩ : MethodName)) hown (mvT hZ (hw _ (List.mem_of_getElem? (i := 31) rfl))) (mvT hZ (hw _ (List.mem_of_getElem? (i := 32) rfl))) (notFace_of_selects (args := #[]) (mvT hZ (hw _ (List.mem_of_getElem? (i := 34) rfl)))) (mvT hZ (hw _ (List.mem_of_getElem? (i := 34) rfl))) (mvT hZ (hw _ (List.mem_of_getElem? (i := 33) rfl))) (by decide) (backOf (W := 0) (rm_due l Z a0 hw [] b1021 q2 q1 T1026.heap n0 Z1026 Fi) hZ (hw _ (List.mem_of_getElem? (i := 35) rfl)) (hw _ (List.mem_of_getElem? (i := 2) rfl)) (by decide) (by decide)) q1032a q1032c (g := (mkF m 62 #[.val (.long q1), .second, .val (.long q2), .second, .val (.int u1), .val (.long q3), .second, .val (.ref b1021), .val (.int ra), .val (.int (1 : Int32)), .unset] [(.long q2), (.ref b1021)])) rfl (by rw [hml]; rfl) (Steps.refl _) (argsL := [(.long q2)]) (rest := []) (lenOf pd_2 rfl) rfl (by show 2 * 0 + _ ≤ _; exact Nat.le_of_eq rfl) (hb hby at_62) (fun _ _ => ⟨rfl, eda, (by decide : 4 + 0 ≤ _), (by decide : 28 + 0 ≤ _)⟩)
      dsimp only [Pt.U, Pt.locs, Pt.cells, Pt.slots] at X1032 l1032 y1032 z1032 st1032 hQ1032
      subst l1032 y1032 z1032
      obtain ⟨rc, rfl, N1032q, edc, hpc, hnc⟩ := hQ1032
      have N1032 := Fr.app N1028 N1032q
      have P1033 : ∀ t, Steps p.tables e below (T1032.setTop (mkF m 65 #[.val (.long q1), .second, .val (.long q2), .second, .val (.int u1), .val (.long q3), .second, .val (.ref b1021), .val (.int ra), .val (.int (1 : Int32)), .unset] [(.int rc)])) t → Steps p.tables e below (s₁.setTop (entryFrame m #[(.long q1), (.long q2), (.int u1), (.long q3)] maxLocals)) t := fun t k => P1030 t (by
        refine XS.ifNo X1028.here hx rfl (hb hby at_56) rfl ((if0 _ _).trans (feq (fun q => h56 ((lw_eq q2 (9223372036854775807 : Int64)).mp q))).1) ?_
        show Steps p.tables e below (T1028.setTop (mkF m 59 #[.val (.long q1), .second, .val (.long q2), .second, .val (.int u1), .val (.long q3), .second, .val (.ref b1021), .val (.int ra), .val (.int (1 : Int32)), .unset] [])) _
        refine XS.aload X1028.here hx rfl (hb hby at_59) rfl rfl ?_
        show Steps p.tables e below (T1028.setTop (mkF m 61 #[.val (.long q1), .second, .val (.long q2), .second, .val (.int u1), .val (.long q3), .second, .val (.ref b1021), .val (.int ra), .val (.int (1 : Int32)), .unset] [(.ref b1021)])) _
        refine XS.lloadN X1028.here hx rfl (hb hby at_61) rfl ?_
        show Steps p.tables e below (T1028.setTop (mkF m 62 #[.val (.long q1), .second, .val (.long q2), .second, .val (.int u1), .val (.long q3), .second, .val (.ref b1021), .val (.int ra), .val (.int (1 : Int32)), .unset] [(.long q2), (.ref b1021)])) _
        refine st1032.trans ?_
        show Steps p.tables e below (T1032.setTop (mkF m 65 #[.val (.long q1), .second, .val (.long q2), .second, .val (.int u1), .val (.long q3), .second, .val (.ref b1021), .val (.int ra), .val (.int (1 : Int32)), .unset] [(.int rc)])) _
        exact k)
      by_cases h65 : rc = (0 : Int32)
      · have P1034 : ∀ t, Steps p.tables e below (T1032.setTop (mkF m 106 #[.val (.long q1), .second, .val (.long q2), .second, .val (.int u1), .val (.long q3), .second, .val (.ref b1021), .val (.int ra), .val (.int (1 : Int32)), .val (.int (1 : Int32))] [(.int (1 : Int32))])) t → Steps p.tables e below (s₁.setTop (entryFrame m #[(.long q1), (.long q2), (.int u1), (.long q3)] maxLocals)) t := fun t k => P1033 t (by
          refine XS.ifYes X1032.here hx rfl (pc0 := 65) (pc' := 79) rfl (hb hby at_65) rfl ((if0 _ _).trans (teq h65).1) (by decide) (by decide) ?_
          show Steps p.tables e below (T1032.setTop (mkF m 79 #[.val (.long q1), .second, .val (.long q2), .second, .val (.int u1), .val (.long q3), .second, .val (.ref b1021), .val (.int ra), .val (.int (1 : Int32)), .unset] [])) _
          refine XS.iconst X1032.here hx rfl (hb hby at_79) ?_
          show Steps p.tables e below (T1032.setTop (mkF m 80 #[.val (.long q1), .second, .val (.long q2), .second, .val (.int u1), .val (.long q3), .second, .val (.ref b1021), .val (.int ra), .val (.int (1 : Int32)), .unset] [(.int (1 : Int32))])) _
          refine XS.goto X1032.here hx rfl (pc0 := 80) (pc' := 84) rfl (hb hby at_80) (by decide) (by decide) ?_
          show Steps p.tables e below (T1032.setTop (mkF m 84 #[.val (.long q1), .second, .val (.long q2), .second, .val (.int u1), .val (.long q3), .second, .val (.ref b1021), .val (.int ra), .val (.int (1 : Int32)), .unset] [(.int (1 : Int32))])) _
          refine XS.istore X1032.here hx rfl (hb hby at_84) rfl (l' := #[.val (.long q1), .second, .val (.long q2), .second, .val (.int u1), .val (.long q3), .second, .val (.ref b1021), .val (.int ra), .val (.int (1 : Int32)), .val (.int (1 : Int32))]) rfl ?_
          show Steps p.tables e below (T1032.setTop (mkF m 86 #[.val (.long q1), .second, .val (.long q2), .second, .val (.int u1), .val (.long q3), .second, .val (.ref b1021), .val (.int ra), .val (.int (1 : Int32)), .val (.int (1 : Int32))] [])) _
          refine XS.iload X1032.here hx rfl (hb hby at_86) rfl ?_
          show Steps p.tables e below (T1032.setTop (mkF m 88 #[.val (.long q1), .second, .val (.long q2), .second, .val (.int u1), .val (.long q3), .second, .val (.ref b1021), .val (.int ra), .val (.int (1 : Int32)), .val (.int (1 : Int32))] [(.int ra)])) _
          refine XS.ifNo X1032.here hx rfl (hb hby at_88) rfl ((if0 _ _).trans (feq (own_ne (hpa (own_irr q1)))).1) ?_
          show Steps p.tables e below (T1032.setTop (mkF m 91 #[.val (.long q1), .second, .val (.long q2), .second, .val (.int u1), .val (.long q3), .second, .val (.ref b1021), .val (.int ra), .val (.int (1 : Int32)), .val (.int (1 : Int32))] [])) _
          refine XS.iload X1032.here hx rfl (hb hby at_91) rfl ?_
          show Steps p.tables e below (T1032.setTop (mkF m 93 #[.val (.long q1), .second, .val (.long q2), .second, .val (.int u1), .val (.long q3), .second, .val (.ref b1021), .val (.int ra), .val (.int (1 : Int32)), .val (.int (1 : Int32))] [(.int (1 : Int32))])) _
          refine XS.ifNo X1032.here hx rfl (hb hby at_93) rfl ((if0 _ _).trans (feq (by decide)).1) ?_
          show Steps p.tables e below (T1032.setTop (mkF m 96 #[.val (.long q1), .second, .val (.long q2), .second, .val (.int u1), .val (.long q3), .second, .val (.ref b1021), .val (.int ra), .val (.int (1 : Int32)), .val (.int (1 : Int32))] [])) _
          refine XS.iload X1032.here hx rfl (hb hby at_96) rfl ?_
          show Steps p.tables e below (T1032.setTop (mkF m 98 #[.val (.long q1), .second, .val (.long q2), .second, .val (.int u1), .val (.long q3), .second, .val (.ref b1021), .val (.int ra), .val (.int (1 : Int32)), .val (.int (1 : Int32))] [(.int (1 : Int32))])) _
          refine XS.ifNo X1032.here hx rfl (hb hby at_98) rfl ((if0 _ _).trans (feq (by decide)).1) ?_
          show Steps p.tables e below (T1032.setTop (mkF m 101 #[.val (.long q1), .second, .val (.long q2), .second, .val (.int u1), .val (.long q3), .second, .val (.ref b1021), .val (.int ra), .val (.int (1 : Int32)), .val (.int (1 : Int32))] [])) _
          refine XS.iconst X1032.here hx rfl (hb hby at_101) ?_
          show Steps p.tables e below (T1032.setTop (mkF m 102 #[.val (.long q1), .second, .val (.long q2), .second, .val (.int u1), .val (.long q3), .second, .val (.ref b1021), .val (.int ra), .val (.int (1 : Int32)), .val (.int (1 : Int32))] [(.int (1 : Int32))])) _
          refine XS.goto X1032.here hx rfl (pc0 := 102) (pc' := 106) rfl (hb hby at_102) (by decide) (by decide) ?_
          show Steps p.tables e below (T1032.setTop (mkF m 106 #[.val (.long q1), .second, .val (.long q2), .second, .val (.int u1), .val (.long q3), .second, .val (.ref b1021), .val (.int ra), .val (.int (1 : Int32)), .val (.int (1 : Int32))] [(.int (1 : Int32))])) _
          exact k)
        obtain ⟨fs, hr, hrun, hended, hRW⟩ := Jvm.Stand.leaveW (s := s) (vm₁ := T1026.vm) X1032 S1026 (show _ ≤ T1032.heap.size by rw [edc]; exact hk1026) (v := some (.int (1 : Int32))) (fun h => by rw [Bd.returns] at h; cases h)
        refine ⟨_, _, P1034 _ ?_, hrun, hended, _, _, rfl, ?_, hRW.1, hRW.2.1, hRW.2.2.1, hRW.2.2.2.mono (by decide) (by decide)⟩
        · exact retN X1032 hx (t := .boolean) Bd.returns (by simp) (hb hby at_106) hr
        · show Q_law Z q1 q2 u1 q3 h0 n0 _ T1032.heap _
          rw [edc]
          exact ⟨rfl, N1032⟩
      · obtain ⟨cq1035, kq1035, q1035a, q1035b, q1035c⟩ := isOf hZ edc Ei
        obtain ⟨_, _, ⟨T1035, L1035, k1035, n1035⟩, -, X1035, ⟨Lc1035, hQ1035, l1035, y1035, z1035⟩, st1035⟩ := X1032.virtualBack hx (y := (⟨"com/example/hardy_cache/hardycache/store/Entry", "isDueAt", "(J)Z"⟩ : MethodName)) (z := (⟨"com/example/hardy_cache/hardycache/store/Entry", "isDueAt", "(J)Z"⟩ : MethodName)) hown (mvT hZ (hw _ (List.mem_of_getElem? (i := 31) rfl))) (mvT hZ (hw _ (List.mem_of_getElem? (i := 32) rfl))) (notFace_of_selects (args := #[]) (mvT hZ (hw _ (List.mem_of_getElem? (i := 34) rfl)))) (mvT hZ (hw _ (List.mem_of_getElem? (i := 34) rfl))) (mvT hZ (hw _ (List.mem_of_getElem? (i := 33) rfl))) (by decide) (backOf (W := 0) (rm_due l Z a0 hw [] b1021 (q2 + (1 : Int64)) q1 T1026.heap n0 Z1026 Fi) hZ (hw _ (List.mem_of_getElem? (i := 35) rfl)) (hw _ (List.mem_of_getElem? (i := 2) rfl)) (by decide) (by decide)) q1035a q1035c (g := (mkF m 73 #[.val (.long q1), .second, .val (.long q2), .second, .val (.int u1), .val (.long q3), .second, .val (.ref b1021), .val (.int ra), .val (.int (1 : Int32)), .unset] [(.long (q2 + (1 : Int64))), (.ref b1021)])) rfl (by rw [hml]; rfl) (Steps.refl _) (argsL := [(.long (q2 + (1 : Int64)))]) (rest := []) (lenOf pd_2 rfl) rfl (by show 2 * 0 + _ ≤ _; exact Nat.le_of_eq rfl) (hb hby at_73) (fun _ _ => ⟨rfl, edc, (by decide : 4 + 0 ≤ _), (by decide : 28 + 0 ≤ _)⟩)
        dsimp only [Pt.U, Pt.locs, Pt.cells, Pt.slots] at X1035 l1035 y1035 z1035 st1035 hQ1035
        subst l1035 y1035 z1035
        obtain ⟨rd, rfl, N1035q, edd, hpd, hnd⟩ := hQ1035
        have N1035 := Fr.app N1032 N1035q
        have P1036 : ∀ t, Steps p.tables e below (T1035.setTop (mkF m 106 #[.val (.long q1), .second, .val (.long q2), .second, .val (.int u1), .val (.long q3), .second, .val (.ref b1021), .val (.int ra), .val (.int (1 : Int32)), .val (.int (1 : Int32))] [(.int (1 : Int32))])) t → Steps p.tables e below (s₁.setTop (entryFrame m #[(.long q1), (.long q2), (.int u1), (.long q3)] maxLocals)) t := fun t k => P1033 t (by
          refine XS.ifNo X1032.here hx rfl (hb hby at_65) rfl ((if0 _ _).trans (feq h65).1) ?_
          show Steps p.tables e below (T1032.setTop (mkF m 68 #[.val (.long q1), .second, .val (.long q2), .second, .val (.int u1), .val (.long q3), .second, .val (.ref b1021), .val (.int ra), .val (.int (1 : Int32)), .unset] [])) _
          refine XS.aload X1032.here hx rfl (hb hby at_68) rfl rfl ?_
          show Steps p.tables e below (T1032.setTop (mkF m 70 #[.val (.long q1), .second, .val (.long q2), .second, .val (.int u1), .val (.long q3), .second, .val (.ref b1021), .val (.int ra), .val (.int (1 : Int32)), .unset] [(.ref b1021)])) _
          refine XS.lloadN X1032.here hx rfl (hb hby at_70) rfl ?_
          show Steps p.tables e below (T1032.setTop (mkF m 71 #[.val (.long q1), .second, .val (.long q2), .second, .val (.int u1), .val (.long q3), .second, .val (.ref b1021), .val (.int ra), .val (.int (1 : Int32)), .unset] [(.long q2), (.ref b1021)])) _
          refine XS.lconst X1032.here hx rfl (hb hby at_71) ?_
          show Steps p.tables e below (T1032.setTop (mkF m 72 #[.val (.long q1), .second, .val (.long q2), .second, .val (.int u1), .val (.long q3), .second, .val (.ref b1021), .val (.int ra), .val (.int (1 : Int32)), .unset] [(.long (1 : Int64)), (.long q2), (.ref b1021)])) _
          refine XS.ladd X1032.here hx rfl (hb hby at_72) rfl ?_
          show Steps p.tables e below (T1032.setTop (mkF m 73 #[.val (.long q1), .second, .val (.long q2), .second, .val (.int u1), .val (.long q3), .second, .val (.ref b1021), .val (.int ra), .val (.int (1 : Int32)), .unset] [(.long (q2 + (1 : Int64))), (.ref b1021)])) _
          refine st1035.trans ?_
          show Steps p.tables e below (T1035.setTop (mkF m 76 #[.val (.long q1), .second, .val (.long q2), .second, .val (.int u1), .val (.long q3), .second, .val (.ref b1021), .val (.int ra), .val (.int (1 : Int32)), .unset] [(.int rd)])) _
          refine XS.ifNo X1035.here hx rfl (hb hby at_76) rfl ((if0 _ _).trans (feq (own_ne (hpd (own_up h56 (fun z => h65 (hnc z)))))).1) ?_
          show Steps p.tables e below (T1035.setTop (mkF m 79 #[.val (.long q1), .second, .val (.long q2), .second, .val (.int u1), .val (.long q3), .second, .val (.ref b1021), .val (.int ra), .val (.int (1 : Int32)), .unset] [])) _
          refine XS.iconst X1035.here hx rfl (hb hby at_79) ?_
          show Steps p.tables e below (T1035.setTop (mkF m 80 #[.val (.long q1), .second, .val (.long q2), .second, .val (.int u1), .val (.long q3), .second, .val (.ref b1021), .val (.int ra), .val (.int (1 : Int32)), .unset] [(.int (1 : Int32))])) _
          refine XS.goto X1035.here hx rfl (pc0 := 80) (pc' := 84) rfl (hb hby at_80) (by decide) (by decide) ?_
          show Steps p.tables e below (T1035.setTop (mkF m 84 #[.val (.long q1), .second, .val (.long q2), .second, .val (.int u1), .val (.long q3), .second, .val (.ref b1021), .val (.int ra), .val (.int (1 : Int32)), .unset] [(.int (1 : Int32))])) _
          refine XS.istore X1035.here hx rfl (hb hby at_84) rfl (l' := #[.val (.long q1), .second, .val (.long q2), .second, .val (.int u1), .val (.long q3), .second, .val (.ref b1021), .val (.int ra), .val (.int (1 : Int32)), .val (.int (1 : Int32))]) rfl ?_
          show Steps p.tables e below (T1035.setTop (mkF m 86 #[.val (.long q1), .second, .val (.long q2), .second, .val (.int u1), .val (.long q3), .second, .val (.ref b1021), .val (.int ra), .val (.int (1 : Int32)), .val (.int (1 : Int32))] [])) _
          refine XS.iload X1035.here hx rfl (hb hby at_86) rfl ?_
          show Steps p.tables e below (T1035.setTop (mkF m 88 #[.val (.long q1), .second, .val (.long q2), .second, .val (.int u1), .val (.long q3), .second, .val (.ref b1021), .val (.int ra), .val (.int (1 : Int32)), .val (.int (1 : Int32))] [(.int ra)])) _
          refine XS.ifNo X1035.here hx rfl (hb hby at_88) rfl ((if0 _ _).trans (feq (own_ne (hpa (own_irr q1)))).1) ?_
          show Steps p.tables e below (T1035.setTop (mkF m 91 #[.val (.long q1), .second, .val (.long q2), .second, .val (.int u1), .val (.long q3), .second, .val (.ref b1021), .val (.int ra), .val (.int (1 : Int32)), .val (.int (1 : Int32))] [])) _
          refine XS.iload X1035.here hx rfl (hb hby at_91) rfl ?_
          show Steps p.tables e below (T1035.setTop (mkF m 93 #[.val (.long q1), .second, .val (.long q2), .second, .val (.int u1), .val (.long q3), .second, .val (.ref b1021), .val (.int ra), .val (.int (1 : Int32)), .val (.int (1 : Int32))] [(.int (1 : Int32))])) _
          refine XS.ifNo X1035.here hx rfl (hb hby at_93) rfl ((if0 _ _).trans (feq (by decide)).1) ?_
          show Steps p.tables e below (T1035.setTop (mkF m 96 #[.val (.long q1), .second, .val (.long q2), .second, .val (.int u1), .val (.long q3), .second, .val (.ref b1021), .val (.int ra), .val (.int (1 : Int32)), .val (.int (1 : Int32))] [])) _
          refine XS.iload X1035.here hx rfl (hb hby at_96) rfl ?_
          show Steps p.tables e below (T1035.setTop (mkF m 98 #[.val (.long q1), .second, .val (.long q2), .second, .val (.int u1), .val (.long q3), .second, .val (.ref b1021), .val (.int ra), .val (.int (1 : Int32)), .val (.int (1 : Int32))] [(.int (1 : Int32))])) _
          refine XS.ifNo X1035.here hx rfl (hb hby at_98) rfl ((if0 _ _).trans (feq (by decide)).1) ?_
          show Steps p.tables e below (T1035.setTop (mkF m 101 #[.val (.long q1), .second, .val (.long q2), .second, .val (.int u1), .val (.long q3), .second, .val (.ref b1021), .val (.int ra), .val (.int (1 : Int32)), .val (.int (1 : Int32))] [])) _
          refine XS.iconst X1035.here hx rfl (hb hby at_101) ?_
          show Steps p.tables e below (T1035.setTop (mkF m 102 #[.val (.long q1), .second, .val (.long q2), .second, .val (.int u1), .val (.long q3), .second, .val (.ref b1021), .val (.int ra), .val (.int (1 : Int32)), .val (.int (1 : Int32))] [(.int (1 : Int32))])) _
          refine XS.goto X1035.here hx rfl (pc0 := 102) (pc' := 106) rfl (hb hby at_102) (by decide) (by decide) ?_
          show Steps p.tables e below (T1035.setTop (mkF m 106 #[.val (.long q1), .second, .val (.long q2), .second, .val (.int u1), .val (.long q3), .second, .val (.ref b1021), .val (.int ra), .val (.int (1 : Int32)), .val (.int (1 : Int32))] [(.int (1 : Int32))])) _
          exact k)
        obtain ⟨fs, hr, hrun, hended, hRW⟩ := Jvm.Stand.leaveW (s := s) (vm₁ := T1026.vm) X1035 S1026 (show _ ≤ T1035.heap.size by rw [edd]; exact hk1026) (v := some (.int (1 : Int32))) (fun h => by rw [Bd.returns] at h; cases h)
        refine ⟨_, _, P1036 _ ?_, hrun, hended, _, _, rfl, ?_, hRW.1, hRW.2.1, hRW.2.2.1, hRW.2.2.2.mono (by decide) (by decide)⟩
        · exact retN X1035 hx (t := .boolean) Bd.returns (by simp) (hb hby at_106) hr
        · show Q_law Z q1 q2 u1 q3 h0 n0 _ T1035.heap _
          rw [edd]
          exact ⟨rfl, N1035⟩
  · obtain ⟨cq1037, kq1037, q1037a, q1037b, q1037c⟩ := isOf hZ eda Ei
    obtain ⟨_, _, ⟨T1037, L1037, k1037, n1037⟩, -, X1037, ⟨Lc1037, hQ1037, l1037, y1037, z1037⟩, st1037⟩ := X1028.virtualBack hx (y := (⟨"com/example/hardy_cache/hardycache/store/Entry", "isDueAt", "(J)Z"⟩ : MethodName)) (z := (⟨"com/example/hardy_cache/hardycache/store/Entry", "isDueAt", "(J)Z"⟩ : MethodName)) hown (mvT hZ (hw _ (List.mem_of_getElem? (i := 31) rfl))) (mvT hZ (hw _ (List.mem_of_getElem? (i := 32) rfl))) (notFace_of_selects (args := #[]) (mvT hZ (hw _ (List.mem_of_getElem? (i := 34) rfl)))) (mvT hZ (hw _ (List.mem_of_getElem? (i := 34) rfl))) (mvT hZ (hw _ (List.mem_of_getElem? (i := 33) rfl))) (by decide) (backOf (W := 0) (rm_due l Z a0 hw [] b1021 (q1 - (1 : Int64)) q1 T1026.heap n0 Z1026 Fi) hZ (hw _ (List.mem_of_getElem? (i := 35) rfl)) (hw _ (List.mem_of_getElem? (i := 2) rfl)) (by decide) (by decide)) q1037a q1037c (g := (mkF m 38 #[.val (.long q1), .second, .val (.long q2), .second, .val (.int u1), .val (.long q3), .second, .val (.ref b1021), .val (.int ra), .unset, .unset] [(.long (q1 - (1 : Int64))), (.ref b1021)])) rfl (by rw [hml]; rfl) (Steps.refl _) (argsL := [(.long (q1 - (1 : Int64)))]) (rest := []) (lenOf pd_2 rfl) rfl (by show 2 * 0 + _ ≤ _; exact Nat.le_of_eq rfl) (hb hby at_38) (fun _ _ => ⟨rfl, eda, (by decide : 4 + 0 ≤ _), (by decide : 28 + 0 ≤ _)⟩)
    dsimp only [Pt.U, Pt.locs, Pt.cells, Pt.slots] at X1037 l1037 y1037 z1037 st1037 hQ1037
    subst l1037 y1037 z1037
    obtain ⟨rb, rfl, N1037q, edb, hpb, hnb⟩ := hQ1037
    have N1037 := Fr.app N1028 N1037q
    have P1038 : ∀ t, Steps p.tables e below (T1037.setTop (mkF m 56 #[.val (.long q1), .second, .val (.long q2), .second, .val (.int u1), .val (.long q3), .second, .val (.ref b1021), .val (.int ra), .val (.int (1 : Int32)), .unset] [(.int (lcmpW q2 (9223372036854775807 : Int64)))])) t → Steps p.tables e below (s₁.setTop (entryFrame m #[(.long q1), (.long q2), (.int u1), (.long q3)] maxLocals)) t := fun t k => P1029 t (by
      refine XS.ifNo X1028.here hx rfl (hb hby at_30) rfl ((if0 _ _).trans (feq (fun q => h30 ((lw_eq q1 (-9223372036854775808 : Int64)).mp q))).1) ?_
      show Steps p.tables e below (T1028.setTop (mkF m 33 #[.val (.long q1), .second, .val (.long q2), .second, .val (.int u1), .val (.long q3), .second, .val (.ref b1021), .val (.int ra), .unset, .unset] [])) _
      refine XS.aload X1028.here hx rfl (hb hby at_33) rfl rfl ?_
      show Steps p.tables e below (T1028.setTop (mkF m 35 #[.val (.long q1), .second, .val (.long q2), .second, .val (.int u1), .val (.long q3), .second, .val (.ref b1021), .val (.int ra), .unset, .unset] [(.ref b1021)])) _
      refine XS.lloadN X1028.here hx rfl (hb hby at_35) rfl ?_
      show Steps p.tables e below (T1028.setTop (mkF m 36 #[.val (.long q1), .second, .val (.long q2), .second, .val (.int u1), .val (.long q3), .second, .val (.ref b1021), .val (.int ra), .unset, .unset] [(.long q1), (.ref b1021)])) _
      refine XS.lconst X1028.here hx rfl (hb hby at_36) ?_
      show Steps p.tables e below (T1028.setTop (mkF m 37 #[.val (.long q1), .second, .val (.long q2), .second, .val (.int u1), .val (.long q3), .second, .val (.ref b1021), .val (.int ra), .unset, .unset] [(.long (1 : Int64)), (.long q1), (.ref b1021)])) _
      refine XS.lsub X1028.here hx rfl (hb hby at_37) rfl ?_
      show Steps p.tables e below (T1028.setTop (mkF m 38 #[.val (.long q1), .second, .val (.long q2), .second, .val (.int u1), .val (.long q3), .second, .val (.ref b1021), .val (.int ra), .unset, .unset] [(.long (q1 - (1 : Int64))), (.ref b1021)])) _
      refine st1037.trans ?_
      show Steps p.tables e below (T1037.setTop (mkF m 41 #[.val (.long q1), .second, .val (.long q2), .second, .val (.int u1), .val (.long q3), .second, .val (.ref b1021), .val (.int ra), .unset, .unset] [(.int rb)])) _
      refine XS.ifNo X1037.here hx rfl (hb hby at_41) rfl ((if0 _ _).trans (teq (hnb (own_lt h30))).2) ?_
      show Steps p.tables e below (T1037.setTop (mkF m 44 #[.val (.long q1), .second, .val (.long q2), .second, .val (.int u1), .val (.long q3), .second, .val (.ref b1021), .val (.int ra), .unset, .unset] [])) _
      refine XS.iconst X1037.here hx rfl (hb hby at_44) ?_
      show Steps p.tables e below (T1037.setTop (mkF m 45 #[.val (.long q1), .second, .val (.long q2), .second, .val (.int u1), .val (.long q3), .second, .val (.ref b1021), .val (.int ra), .unset, .unset] [(.int (1 : Int32))])) _
      refine XS.goto X1037.here hx rfl (pc0 := 45) (pc' := 49) rfl (hb hby at_45) (by decide) (by decide) ?_
      show Steps p.tables e below (T1037.setTop (mkF m 49 #[.val (.long q1), .second, .val (.long q2), .second, .val (.int u1), .val (.long q3), .second, .val (.ref b1021), .val (.int ra), .unset, .unset] [(.int (1 : Int32))])) _
      refine XS.istore X1037.here hx rfl (hb hby at_49) rfl (l' := #[.val (.long q1), .second, .val (.long q2), .second, .val (.int u1), .val (.long q3), .second, .val (.ref b1021), .val (.int ra), .val (.int (1 : Int32)), .unset]) rfl ?_
      show Steps p.tables e below (T1037.setTop (mkF m 51 #[.val (.long q1), .second, .val (.long q2), .second, .val (.int u1), .val (.long q3), .second, .val (.ref b1021), .val (.int ra), .val (.int (1 : Int32)), .unset] [])) _
      refine XS.lloadN X1037.here hx rfl (hb hby at_51) rfl ?_
      show Steps p.tables e below (T1037.setTop (mkF m 52 #[.val (.long q1), .second, .val (.long q2), .second, .val (.int u1), .val (.long q3), .second, .val (.ref b1021), .val (.int ra), .val (.int (1 : Int32)), .unset] [(.long q2)])) _
      refine X1037.ldc2Long hx hown (mvT hZ (hw _ (List.mem_of_getElem? (i := 37) rfl))) (g := (mkF m 52 #[.val (.long q1), .second, .val (.long q2), .second, .val (.int u1), .val (.long q3), .second, .val (.ref b1021), .val (.int ra), .val (.int (1 : Int32)), .unset] [(.long q2)])) rfl (hb hby at_52) _ ?_
      show Steps p.tables e below (T1037.setTop (mkF m 55 #[.val (.long q1), .second, .val (.long q2), .second, .val (.int u1), .val (.long q3), .second, .val (.ref b1021), .val (.int ra), .val (.int (1 : Int32)), .unset] [(.long (9223372036854775807 : Int64)), (.long q2)])) _
      refine XS.lcmp X1037.here hx rfl (hb hby at_55) rfl ?_
      show Steps p.tables e below (T1037.setTop (mkF m 56 #[.val (.long q1), .second, .val (.long q2), .second, .val (.int u1), .val (.long q3), .second, .val (.ref b1021), .val (.int ra), .val (.int (1 : Int32)), .unset] [(.int (lcmpW q2 (9223372036854775807 : Int64)))])) _
      exact k)
    by_cases h56 : q2 = (9223372036854775807 : Int64)
    · have P1039 : ∀ t, Steps p.tables e below (T1037.setTop (mkF m 106 #[.val (.long q1), .second, .val (.long q2), .second, .val (.int u1), .val (.long q3), .second, .val (.ref b1021), .val (.int ra), .val (.int (1 : Int32)), .val (.int (1 : Int32))] [(.int (1 : Int32))])) t → Steps p.tables e below (s₁.setTop (entryFrame m #[(.long q1), (.long q2), (.int u1), (.long q3)] maxLocals)) t := fun t k => P1038 t (by
        refine XS.ifYes X1037.here hx rfl (pc0 := 56) (pc' := 79) rfl (hb hby at_56) rfl ((if0 _ _).trans (teq ((lw_eq q2 (9223372036854775807 : Int64)).mpr h56)).1) (by decide) (by decide) ?_
        show Steps p.tables e below (T1037.setTop (mkF m 79 #[.val (.long q1), .second, .val (.long q2), .second, .val (.int u1), .val (.long q3), .second, .val (.ref b1021), .val (.int ra), .val (.int (1 : Int32)), .unset] [])) _
        refine XS.iconst X1037.here hx rfl (hb hby at_79) ?_
        show Steps p.tables e below (T1037.setTop (mkF m 80 #[.val (.long q1), .second, .val (.long q2), .second, .val (.int u1), .val (.long q3), .second, .val (.ref b1021), .val (.int ra), .val (.int (1 : Int32)), .unset] [(.int (1 : Int32))])) _
        refine XS.goto X1037.here hx rfl (pc0 := 80) (pc' := 84) rfl (hb hby at_80) (by decide) (by decide) ?_
        show Steps p.tables e below (T1037.setTop (mkF m 84 #[.val (.long q1), .second, .val (.long q2), .second, .val (.int u1), .val (.long q3), .second, .val (.ref b1021), .val (.int ra), .val (.int (1 : Int32)), .unset] [(.int (1 : Int32))])) _
        refine XS.istore X1037.here hx rfl (hb hby at_84) rfl (l' := #[.val (.long q1), .second, .val (.long q2), .second, .val (.int u1), .val (.long q3), .second, .val (.ref b1021), .val (.int ra), .val (.int (1 : Int32)), .val (.int (1 : Int32))]) rfl ?_
        show Steps p.tables e below (T1037.setTop (mkF m 86 #[.val (.long q1), .second, .val (.long q2), .second, .val (.int u1), .val (.long q3), .second, .val (.ref b1021), .val (.int ra), .val (.int (1 : Int32)), .val (.int (1 : Int32))] [])) _
        refine XS.iload X1037.here hx rfl (hb hby at_86) rfl ?_
        show Steps p.tables e below (T1037.setTop (mkF m 88 #[.val (.long q1), .second, .val (.long q2), .second, .val (.int u1), .val (.long q3), .second, .val (.ref b1021), .val (.int ra), .val (.int (1 : Int32)), .val (.int (1 : Int32))] [(.int ra)])) _
        refine XS.ifNo X1037.here hx rfl (hb hby at_88) rfl ((if0 _ _).trans (feq (own_ne (hpa (own_irr q1)))).1) ?_
        show Steps p.tables e below (T1037.setTop (mkF m 91 #[.val (.long q1), .second, .val (.long q2), .second, .val (.int u1), .val (.long q3), .second, .val (.ref b1021), .val (.int ra), .val (.int (1 : Int32)), .val (.int (1 : Int32))] [])) _
        refine XS.iload X1037.here hx rfl (hb hby at_91) rfl ?_
        show Steps p.tables e below (T1037.setTop (mkF m 93 #[.val (.long q1), .second, .val (.long q2), .second, .val (.int u1), .val (.long q3), .second, .val (.ref b1021), .val (.int ra), .val (.int (1 : Int32)), .val (.int (1 : Int32))] [(.int (1 : Int32))])) _
        refine XS.ifNo X1037.here hx rfl (hb hby at_93) rfl ((if0 _ _).trans (feq (by decide)).1) ?_
        show Steps p.tables e below (T1037.setTop (mkF m 96 #[.val (.long q1), .second, .val (.long q2), .second, .val (.int u1), .val (.long q3), .second, .val (.ref b1021), .val (.int ra), .val (.int (1 : Int32)), .val (.int (1 : Int32))] [])) _
        refine XS.iload X1037.here hx rfl (hb hby at_96) rfl ?_
        show Steps p.tables e below (T1037.setTop (mkF m 98 #[.val (.long q1), .second, .val (.long q2), .second, .val (.int u1), .val (.long q3), .second, .val (.ref b1021), .val (.int ra), .val (.int (1 : Int32)), .val (.int (1 : Int32))] [(.int (1 : Int32))])) _
        refine XS.ifNo X1037.here hx rfl (hb hby at_98) rfl ((if0 _ _).trans (feq (by decide)).1) ?_
        show Steps p.tables e below (T1037.setTop (mkF m 101 #[.val (.long q1), .second, .val (.long q2), .second, .val (.int u1), .val (.long q3), .second, .val (.ref b1021), .val (.int ra), .val (.int (1 : Int32)), .val (.int (1 : Int32))] [])) _
        refine XS.iconst X1037.here hx rfl (hb hby at_101) ?_
        show Steps p.tables e below (T1037.setTop (mkF m 102 #[.val (.long q1), .second, .val (.long q2), .second, .val (.int u1), .val (.long q3), .second, .val (.ref b1021), .val (.int ra), .val (.int (1 : Int32)), .val (.int (1 : Int32))] [(.int (1 : Int32))])) _
        refine XS.goto X1037.here hx rfl (pc0 := 102) (pc' := 106) rfl (hb hby at_102) (by decide) (by decide) ?_
        show Steps p.tables e below (T1037.setTop (mkF m 106 #[.val (.long q1), .second, .val (.long q2), .second, .val (.int u1), .val (.long q3), .second, .val (.ref b1021), .val (.int ra), .val (.int (1 : Int32)), .val (.int (1 : Int32))] [(.int (1 : Int32))])) _
        exact k)
      obtain ⟨fs, hr, hrun, hended, hRW⟩ := Jvm.Stand.leaveW (s := s) (vm₁ := T1026.vm) X1037 S1026 (show _ ≤ T1037.heap.size by rw [edb]; exact hk1026) (v := some (.int (1 : Int32))) (fun h => by rw [Bd.returns] at h; cases h)
      refine ⟨_, _, P1039 _ ?_, hrun, hended, _, _, rfl, ?_, hRW.1, hRW.2.1, hRW.2.2.1, hRW.2.2.2.mono (by decide) (by decide)⟩
      · exact retN X1037 hx (t := .boolean) Bd.returns (by simp) (hb hby at_106) hr
      · show Q_law Z q1 q2 u1 q3 h0 n0 _ T1037.heap _
        rw [edb]
        exact ⟨rfl, N1037⟩
    · obtain ⟨cq1040, kq1040, q1040a, q1040b, q1040c⟩ := isOf hZ edb Ei
      obtain ⟨_, _, ⟨T1040, L1040, k1040, n1040⟩, -, X1040, ⟨Lc1040, hQ1040, l1040, y1040, z1040⟩, st1040⟩ := X1037.virtualBack hx (y := (⟨"com/example/hardy_cache/hardycache/store/Entry", "isDueAt", "(J)Z"⟩ : MethodName)) (z := (⟨"com/example/hardy_cache/hardycache/store/Entry", "isDueAt", "(J)Z"⟩ : MethodName)) hown (mvT hZ (hw _ (List.mem_of_getElem? (i := 31) rfl))) (mvT hZ (hw _ (List.mem_of_getElem? (i := 32) rfl))) (notFace_of_selects (args := #[]) (mvT hZ (hw _ (List.mem_of_getElem? (i := 34) rfl)))) (mvT hZ (hw _ (List.mem_of_getElem? (i := 34) rfl))) (mvT hZ (hw _ (List.mem_of_getElem? (i := 33) rfl))) (by decide) (backOf (W := 0) (rm_due l Z a0 hw [] b1021 q2 q1 T1026.heap n0 Z1026 Fi) hZ (hw _ (List.mem_of_getElem? (i := 35) rfl)) (hw _ (List.mem_of_getElem? (i := 2) rfl)) (by decide) (by decide)) q1040a q1040c (g := (mkF m 62 #[.val (.long q1), .second, .val (.long q2), .second, .val (.int u1), .val (.long q3), .second, .val (.ref b1021), .val (.int ra), .val (.int (1 : Int32)), .unset] [(.long q2), (.ref b1021)])) rfl (by rw [hml]; rfl) (Steps.refl _) (argsL := [(.long q2)]) (rest := []) (lenOf pd_2 rfl) rfl (by show 2 * 0 + _ ≤ _; exact Nat.le_of_eq rfl) (hb hby at_62) (fun _ _ => ⟨rfl, edb, (by decide : 4 + 0 ≤ _), (by decide : 28 + 0 ≤ _)⟩)
      dsimp only [Pt.U, Pt.locs, Pt.cells, Pt.slots] at X1040 l1040 y1040 z1040 st1040 hQ1040
      subst l1040 y1040 z1040
      obtain ⟨rc, rfl, N1040q, edc, hpc, hnc⟩ := hQ1040
      have N1040 := Fr.app N1037 N1040q
      have P1041 : ∀ t, Steps p.tables e below (T1040.setTop (mkF m 65 #[.val (.long q1), .second, .val (.long q2), .second, .val (.int u1), .val (.long q3), .second, .val (.ref b1021), .val (.int ra), .val (.int (1 : Int32)), .unset] [(.int rc)])) t → Steps p.tables e below (s₁.setTop (entryFrame m #[(.long q1), (.long q2), (.int u1), (.long q3)] maxLocals)) t := fun t k => P1038 t (by
        refine XS.ifNo X1037.here hx rfl (hb hby at_56) rfl ((if0 _ _).trans (feq (fun q => h56 ((lw_eq q2 (9223372036854775807 : Int64)).mp q))).1) ?_
        show Steps p.tables e below (T1037.setTop (mkF m 59 #[.val (.long q1), .second, .val (.long q2), .second, .val (.int u1), .val (.long q3), .second, .val (.ref b1021), .val (.int ra), .val (.int (1 : Int32)), .unset] [])) _
        refine XS.aload X1037.here hx rfl (hb hby at_59) rfl rfl ?_
        show Steps p.tables e below (T1037.setTop (mkF m 61 #[.val (.long q1), .second, .val (.long q2), .second, .val (.int u1), .val (.long q3), .second, .val (.ref b1021), .val (.int ra), .val (.int (1 : Int32)), .unset] [(.ref b1021)])) _
        refine XS.lloadN X1037.here hx rfl (hb hby at_61) rfl ?_
        show Steps p.tables e below (T1037.setTop (mkF m 62 #[.val (.long q1), .second, .val (.long q2), .second, .val (.int u1), .val (.long q3), .second, .val (.ref b1021), .val (.int ra), .val (.int (1 : Int32)), .unset] [(.long q2), (.ref b1021)])) _
        refine st1040.trans ?_
        show Steps p.tables e below (T1040.setTop (mkF m 65 #[.val (.long q1), .second, .val (.long q2), .second, .val (.int u1), .val (.long q3), .second, .val (.ref b1021), .val (.int ra), .val (.int (1 : Int32)), .unset] [(.int rc)])) _
        exact k)
      by_cases h65 : rc = (0 : Int32)
      · have P1042 : ∀ t, Steps p.tables e below (T1040.setTop (mkF m 106 #[.val (.long q1), .second, .val (.long q2), .second, .val (.int u1), .val (.long q3), .second, .val (.ref b1021), .val (.int ra), .val (.int (1 : Int32)), .val (.int (1 : Int32))] [(.int (1 : Int32))])) t → Steps p.tables e below (s₁.setTop (entryFrame m #[(.long q1), (.long q2), (.int u1), (.long q3)] maxLocals)) t := fun t k => P1041 t (by
          refine XS.ifYes X1040.here hx rfl (pc0 := 65) (pc' := 79) rfl (hb hby at_65) rfl ((if0 _ _).trans (teq h65).1) (by decide) (by decide) ?_
          show Steps p.tables e below (T1040.setTop (mkF m 79 #[.val (.long q1), .second, .val (.long q2), .second, .val (.int u1), .val (.long q3), .second, .val (.ref b1021), .val (.int ra), .val (.int (1 : Int32)), .unset] [])) _
          refine XS.iconst X1040.here hx rfl (hb hby at_79) ?_
          show Steps p.tables e below (T1040.setTop (mkF m 80 #[.val (.long q1), .second, .val (.long q2), .second, .val (.int u1), .val (.long q3), .second, .val (.ref b1021), .val (.int ra), .val (.int (1 : Int32)), .unset] [(.int (1 : Int32))])) _
          refine XS.goto X1040.here hx rfl (pc0 := 80) (pc' := 84) rfl (hb hby at_80) (by decide) (by decide) ?_
          show Steps p.tables e below (T1040.setTop (mkF m 84 #[.val (.long q1), .second, .val (.long q2), .second, .val (.int u1), .val (.long q3), .second, .val (.ref b1021), .val (.int ra), .val (.int (1 : Int32)), .unset] [(.int (1 : Int32))])) _
          refine XS.istore X1040.here hx rfl (hb hby at_84) rfl (l' := #[.val (.long q1), .second, .val (.long q2), .second, .val (.int u1), .val (.long q3), .second, .val (.ref b1021), .val (.int ra), .val (.int (1 : Int32)), .val (.int (1 : Int32))]) rfl ?_
          show Steps p.tables e below (T1040.setTop (mkF m 86 #[.val (.long q1), .second, .val (.long q2), .second, .val (.int u1), .val (.long q3), .second, .val (.ref b1021), .val (.int ra), .val (.int (1 : Int32)), .val (.int (1 : Int32))] [])) _
          refine XS.iload X1040.here hx rfl (hb hby at_86) rfl ?_
          show Steps p.tables e below (T1040.setTop (mkF m 88 #[.val (.long q1), .second, .val (.long q2), .second, .val (.int u1), .val (.long q3), .second, .val (.ref b1021), .val (.int ra), .val (.int (1 : Int32)), .val (.int (1 : Int32))] [(.int ra)])) _
          refine XS.ifNo X1040.here hx rfl (hb hby at_88) rfl ((if0 _ _).trans (feq (own_ne (hpa (own_irr q1)))).1) ?_
          show Steps p.tables e below (T1040.setTop (mkF m 91 #[.val (.long q1), .second, .val (.long q2), .second, .val (.int u1), .val (.long q3), .second, .val (.ref b1021), .val (.int ra), .val (.int (1 : Int32)), .val (.int (1 : Int32))] [])) _
          refine XS.iload X1040.here hx rfl (hb hby at_91) rfl ?_
          show Steps p.tables e below (T1040.setTop (mkF m 93 #[.val (.long q1), .second, .val (.long q2), .second, .val (.int u1), .val (.long q3), .second, .val (.ref b1021), .val (.int ra), .val (.int (1 : Int32)), .val (.int (1 : Int32))] [(.int (1 : Int32))])) _
          refine XS.ifNo X1040.here hx rfl (hb hby at_93) rfl ((if0 _ _).trans (feq (by decide)).1) ?_
          show Steps p.tables e below (T1040.setTop (mkF m 96 #[.val (.long q1), .second, .val (.long q2), .second, .val (.int u1), .val (.long q3), .second, .val (.ref b1021), .val (.int ra), .val (.int (1 : Int32)), .val (.int (1 : Int32))] [])) _
          refine XS.iload X1040.here hx rfl (hb hby at_96) rfl ?_
          show Steps p.tables e below (T1040.setTop (mkF m 98 #[.val (.long q1), .second, .val (.long q2), .second, .val (.int u1), .val (.long q3), .second, .val (.ref b1021), .val (.int ra), .val (.int (1 : Int32)), .val (.int (1 : Int32))] [(.int (1 : Int32))])) _
          refine XS.ifNo X1040.here hx rfl (hb hby at_98) rfl ((if0 _ _).trans (feq (by decide)).1) ?_
          show Steps p.tables e below (T1040.setTop (mkF m 101 #[.val (.long q1), .second, .val (.long q2), .second, .val (.int u1), .val (.long q3), .second, .val (.ref b1021), .val (.int ra), .val (.int (1 : Int32)), .val (.int (1 : Int32))] [])) _
          refine XS.iconst X1040.here hx rfl (hb hby at_101) ?_
          show Steps p.tables e below (T1040.setTop (mkF m 102 #[.val (.long q1), .second, .val (.long q2), .second, .val (.int u1), .val (.long q3), .second, .val (.ref b1021), .val (.int ra), .val (.int (1 : Int32)), .val (.int (1 : Int32))] [(.int (1 : Int32))])) _
          refine XS.goto X1040.here hx rfl (pc0 := 102) (pc' := 106) rfl (hb hby at_102) (by decide) (by decide) ?_
          show Steps p.tables e below (T1040.setTop (mkF m 106 #[.val (.long q1), .second, .val (.long q2), .second, .val (.int u1), .val (.long q3), .second, .val (.ref b1021), .val (.int ra), .val (.int (1 : Int32)), .val (.int (1 : Int32))] [(.int (1 : Int32))])) _
          exact k)
        obtain ⟨fs, hr, hrun, hended, hRW⟩ := Jvm.Stand.leaveW (s := s) (vm₁ := T1026.vm) X1040 S1026 (show _ ≤ T1040.heap.size by rw [edc]; exact hk1026) (v := some (.int (1 : Int32))) (fun h => by rw [Bd.returns] at h; cases h)
        refine ⟨_, _, P1042 _ ?_, hrun, hended, _, _, rfl, ?_, hRW.1, hRW.2.1, hRW.2.2.1, hRW.2.2.2.mono (by decide) (by decide)⟩
        · exact retN X1040 hx (t := .boolean) Bd.returns (by simp) (hb hby at_106) hr
        · show Q_law Z q1 q2 u1 q3 h0 n0 _ T1040.heap _
          rw [edc]
          exact ⟨rfl, N1040⟩
      · obtain ⟨cq1043, kq1043, q1043a, q1043b, q1043c⟩ := isOf hZ edc Ei
        obtain ⟨_, _, ⟨T1043, L1043, k1043, n1043⟩, -, X1043, ⟨Lc1043, hQ1043, l1043, y1043, z1043⟩, st1043⟩ := X1040.virtualBack hx (y := (⟨"com/example/hardy_cache/hardycache/store/Entry", "isDueAt", "(J)Z"⟩ : MethodName)) (z := (⟨"com/example/hardy_cache/hardycache/store/Entry", "isDueAt", "(J)Z"⟩ : MethodName)) hown (mvT hZ (hw _ (List.mem_of_getElem? (i := 31) rfl))) (mvT hZ (hw _ (List.mem_of_getElem? (i := 32) rfl))) (notFace_of_selects (args := #[]) (mvT hZ (hw _ (List.mem_of_getElem? (i := 34) rfl)))) (mvT hZ (hw _ (List.mem_of_getElem? (i := 34) rfl))) (mvT hZ (hw _ (List.mem_of_getElem? (i := 33) rfl))) (by decide) (backOf (W := 0) (rm_due l Z a0 hw [] b1021 (q2 + (1 : Int64)) q1 T1026.heap n0 Z1026 Fi) hZ (hw _ (List.mem_of_getElem? (i := 35) rfl)) (hw _ (List.mem_of_getElem? (i := 2) rfl)) (by decide) (by decide)) q1043a q1043c (g := (mkF m 73 #[.val (.long q1), .second, .val (.long q2), .second, .val (.int u1), .val (.long q3), .second, .val (.ref b1021), .val (.int ra), .val (.int (1 : Int32)), .unset] [(.long (q2 + (1 : Int64))), (.ref b1021)])) rfl (by rw [hml]; rfl) (Steps.refl _) (argsL := [(.long (q2 + (1 : Int64)))]) (rest := []) (lenOf pd_2 rfl) rfl (by show 2 * 0 + _ ≤ _; exact Nat.le_of_eq rfl) (hb hby at_73) (fun _ _ => ⟨rfl, edc, (by decide : 4 + 0 ≤ _), (by decide : 28 + 0 ≤ _)⟩)
        dsimp only [Pt.U, Pt.locs, Pt.cells, Pt.slots] at X1043 l1043 y1043 z1043 st1043 hQ1043
        subst l1043 y1043 z1043
        obtain ⟨rd, rfl, N1043q, edd, hpd, hnd⟩ := hQ1043
        have N1043 := Fr.app N1040 N1043q
        have P1044 : ∀ t, Steps p.tables e below (T1043.setTop (mkF m 106 #[.val (.long q1), .second, .val (.long q2), .second, .val (.int u1), .val (.long q3), .second, .val (.ref b1021), .val (.int ra), .val (.int (1 : Int32)), .val (.int (1 : Int32))] [(.int (1 : Int32))])) t → Steps p.tables e below (s₁.setTop (entryFrame m #[(.long q1), (.long q2), (.int u1), (.long q3)] maxLocals)) t := fun t k => P1041 t (by
          refine XS.ifNo X1040.here hx rfl (hb hby at_65) rfl ((if0 _ _).trans (feq h65).1) ?_
          show Steps p.tables e below (T1040.setTop (mkF m 68 #[.val (.long q1), .second, .val (.long q2), .second, .val (.int u1), .val (.long q3), .second, .val (.ref b1021), .val (.int ra), .val (.int (1 : Int32)), .unset] [])) _
          refine XS.aload X1040.here hx rfl (hb hby at_68) rfl rfl ?_
          show Steps p.tables e below (T1040.setTop (mkF m 70 #[.val (.long q1), .second, .val (.long q2), .second, .val (.int u1), .val (.long q3), .second, .val (.ref b1021), .val (.int ra), .val (.int (1 : Int32)), .unset] [(.ref b1021)])) _
          refine XS.lloadN X1040.here hx rfl (hb hby at_70) rfl ?_
          show Steps p.tables e below (T1040.setTop (mkF m 71 #[.val (.long q1), .second, .val (.long q2), .second, .val (.int u1), .val (.long q3), .second, .val (.ref b1021), .val (.int ra), .val (.int (1 : Int32)), .unset] [(.long q2), (.ref b1021)])) _
          refine XS.lconst X1040.here hx rfl (hb hby at_71) ?_
          show Steps p.tables e below (T1040.setTop (mkF m 72 #[.val (.long q1), .second, .val (.long q2), .second, .val (.int u1), .val (.long q3), .second, .val (.ref b1021), .val (.int ra), .val (.int (1 : Int32)), .unset] [(.long (1 : Int64)), (.long q2), (.ref b1021)])) _
          refine XS.ladd X1040.here hx rfl (hb hby at_72) rfl ?_
          show Steps p.tables e below (T1040.setTop (mkF m 73 #[.val (.long q1), .second, .val (.long q2), .second, .val (.int u1), .val (.long q3), .second, .val (.ref b1021), .val (.int ra), .val (.int (1 : Int32)), .unset] [(.long (q2 + (1 : Int64))), (.ref b1021)])) _
          refine st1043.trans ?_
          show Steps p.tables e below (T1043.setTop (mkF m 76 #[.val (.long q1), .second, .val (.long q2), .second, .val (.int u1), .val (.long q3), .second, .val (.ref b1021), .val (.int ra), .val (.int (1 : Int32)), .unset] [(.int rd)])) _
          refine XS.ifNo X1043.here hx rfl (hb hby at_76) rfl ((if0 _ _).trans (feq (own_ne (hpd (own_up h56 (fun z => h65 (hnc z)))))).1) ?_
          show Steps p.tables e below (T1043.setTop (mkF m 79 #[.val (.long q1), .second, .val (.long q2), .second, .val (.int u1), .val (.long q3), .second, .val (.ref b1021), .val (.int ra), .val (.int (1 : Int32)), .unset] [])) _
          refine XS.iconst X1043.here hx rfl (hb hby at_79) ?_
          show Steps p.tables e below (T1043.setTop (mkF m 80 #[.val (.long q1), .second, .val (.long q2), .second, .val (.int u1), .val (.long q3), .second, .val (.ref b1021), .val (.int ra), .val (.int (1 : Int32)), .unset] [(.int (1 : Int32))])) _
          refine XS.goto X1043.here hx rfl (pc0 := 80) (pc' := 84) rfl (hb hby at_80) (by decide) (by decide) ?_
          show Steps p.tables e below (T1043.setTop (mkF m 84 #[.val (.long q1), .second, .val (.long q2), .second, .val (.int u1), .val (.long q3), .second, .val (.ref b1021), .val (.int ra), .val (.int (1 : Int32)), .unset] [(.int (1 : Int32))])) _
          refine XS.istore X1043.here hx rfl (hb hby at_84) rfl (l' := #[.val (.long q1), .second, .val (.long q2), .second, .val (.int u1), .val (.long q3), .second, .val (.ref b1021), .val (.int ra), .val (.int (1 : Int32)), .val (.int (1 : Int32))]) rfl ?_
          show Steps p.tables e below (T1043.setTop (mkF m 86 #[.val (.long q1), .second, .val (.long q2), .second, .val (.int u1), .val (.long q3), .second, .val (.ref b1021), .val (.int ra), .val (.int (1 : Int32)), .val (.int (1 : Int32))] [])) _
          refine XS.iload X1043.here hx rfl (hb hby at_86) rfl ?_
          show Steps p.tables e below (T1043.setTop (mkF m 88 #[.val (.long q1), .second, .val (.long q2), .second, .val (.int u1), .val (.long q3), .second, .val (.ref b1021), .val (.int ra), .val (.int (1 : Int32)), .val (.int (1 : Int32))] [(.int ra)])) _
          refine XS.ifNo X1043.here hx rfl (hb hby at_88) rfl ((if0 _ _).trans (feq (own_ne (hpa (own_irr q1)))).1) ?_
          show Steps p.tables e below (T1043.setTop (mkF m 91 #[.val (.long q1), .second, .val (.long q2), .second, .val (.int u1), .val (.long q3), .second, .val (.ref b1021), .val (.int ra), .val (.int (1 : Int32)), .val (.int (1 : Int32))] [])) _
          refine XS.iload X1043.here hx rfl (hb hby at_91) rfl ?_
          show Steps p.tables e below (T1043.setTop (mkF m 93 #[.val (.long q1), .second, .val (.long q2), .second, .val (.int u1), .val (.long q3), .second, .val (.ref b1021), .val (.int ra), .val (.int (1 : Int32)), .val (.int (1 : Int32))] [(.int (1 : Int32))])) _
          refine XS.ifNo X1043.here hx rfl (hb hby at_93) rfl ((if0 _ _).trans (feq (by decide)).1) ?_
          show Steps p.tables e below (T1043.setTop (mkF m 96 #[.val (.long q1), .second, .val (.long q2), .second, .val (.int u1), .val (.long q3), .second, .val (.ref b1021), .val (.int ra), .val (.int (1 : Int32)), .val (.int (1 : Int32))] [])) _
          refine XS.iload X1043.here hx rfl (hb hby at_96) rfl ?_
          show Steps p.tables e below (T1043.setTop (mkF m 98 #[.val (.long q1), .second, .val (.long q2), .second, .val (.int u1), .val (.long q3), .second, .val (.ref b1021), .val (.int ra), .val (.int (1 : Int32)), .val (.int (1 : Int32))] [(.int (1 : Int32))])) _
          refine XS.ifNo X1043.here hx rfl (hb hby at_98) rfl ((if0 _ _).trans (feq (by decide)).1) ?_
          show Steps p.tables e below (T1043.setTop (mkF m 101 #[.val (.long q1), .second, .val (.long q2), .second, .val (.int u1), .val (.long q3), .second, .val (.ref b1021), .val (.int ra), .val (.int (1 : Int32)), .val (.int (1 : Int32))] [])) _
          refine XS.iconst X1043.here hx rfl (hb hby at_101) ?_
          show Steps p.tables e below (T1043.setTop (mkF m 102 #[.val (.long q1), .second, .val (.long q2), .second, .val (.int u1), .val (.long q3), .second, .val (.ref b1021), .val (.int ra), .val (.int (1 : Int32)), .val (.int (1 : Int32))] [(.int (1 : Int32))])) _
          refine XS.goto X1043.here hx rfl (pc0 := 102) (pc' := 106) rfl (hb hby at_102) (by decide) (by decide) ?_
          show Steps p.tables e below (T1043.setTop (mkF m 106 #[.val (.long q1), .second, .val (.long q2), .second, .val (.int u1), .val (.long q3), .second, .val (.ref b1021), .val (.int ra), .val (.int (1 : Int32)), .val (.int (1 : Int32))] [(.int (1 : Int32))])) _
          exact k)
        obtain ⟨fs, hr, hrun, hended, hRW⟩ := Jvm.Stand.leaveW (s := s) (vm₁ := T1026.vm) X1043 S1026 (show _ ≤ T1043.heap.size by rw [edd]; exact hk1026) (v := some (.int (1 : Int32))) (fun h => by rw [Bd.returns] at h; cases h)
        refine ⟨_, _, P1044 _ ?_, hrun, hended, _, _, rfl, ?_, hRW.1, hRW.2.1, hRW.2.2.1, hRW.2.2.2.mono (by decide) (by decide)⟩
        · exact retN X1043 hx (t := .boolean) Bd.returns (by simp) (hb hby at_106) hr
        · show Q_law Z q1 q2 u1 q3 h0 n0 _ T1043.heap _
          rw [edd]
          exact ⟨rfl, N1043⟩
set_option maxRecDepth 65536 in
set_option maxHeartbeats 40000000 in
theorem comes_1 {Post : Tables → Env → Array Value → State → Outcome → State → Prop} (hpost : ∀ tb e args s v u, (limb_1_1.after args s (.returned v) u = true ∧ limb_1_2.after args s (.returned v) u = true ∧ True) → ReturnedEndW s (.returned v) u (Jvm.fieldLocs frame_1_writes args s ++ Jvm.arrayLocs frame_1_arrays args s ++ Jvm.staticLocs frame_1_statics s) 16 1152 → Post tb e args s (.returned v) u) :
    ArmFor flags0 classFile x code maxLocals ret World_1 tables_1 room_1 Calls_1 rest_1 Pre_1 Post := by
  intro l hfl _ _ p e ha hc hk s m args below hf hA hF happ hP
  obtain ⟨hcalls, hrest, hpre⟩ := hP
  obtain ⟨-, -, -, hnamed, -, -, -, hat⟩ := (Spec.applies_iff hf).mp happ
  obtain ⟨hg, hn⟩ := and_e (Cond.before_iff.mp (show (Jvm.Cond.and given_1 narrow_1).before args s = true from hpre))
  obtain ⟨g1, g2⟩ := and_e hg
  obtain ⟨g3, g4⟩ := and_e g2
  obtain ⟨g5, g6⟩ := and_e g4
  obtain ⟨g7, g8⟩ := and_e g6
  obtain ⟨w0, w1, w2, w3, rfl⟩ : ∃ w0 w1 w2 w3 : Value, args = #[w0, w1, w2, w3] := by
    have hs : args.size = 4 := by simpa [Cond.value, given_1] using g1
    obtain ⟨L⟩ := args
    match L, hs with
    | [w0, w1, w2, w3], _ => exact ⟨w0, w1, w2, w3, rfl⟩
  have hw := fun d (hd : d ∈ tables_1) => atoms_spec (ws := Jvm.Cond.code x code maxLocals ret :: tables_1) hat d (List.mem_cons_of_mem _ hd)
  have hfit : Fit s := fun {y c} hc i hi => by
    obtain ⟨ha, rfl⟩ := Array.getElem?_eq_some_iff.mp hc
    have q := List.all_eq_true.mp ((Array.all_eq_true_iff_forall_mem.mp hF) _ (Array.getElem_mem ha)) i (List.mem_range.mpr hi)
    simpa [Array.getElem?_eq_getElem hi] using q
  obtain ⟨i0, ei0⟩ := isL_v g3
  obtain rfl : w0 = (.long i0) := Option.some.inj ei0
  obtain ⟨i1, ei1⟩ := isL_v g5
  obtain rfl : w1 = (.long i1) := Option.some.inj ei1
  obtain ⟨i2, ei2⟩ := is_v g7
  obtain rfl : w2 = (.int i2) := Option.some.inj ei2
  obtain ⟨i3, ei3⟩ := isL_v g8
  obtain rfl : w3 = (.long i3) := Option.some.inj ei3
  obtain ⟨n, o, h1, h2, h3, _, L, rfl, ⟨rfl, N⟩, hq⟩ := rm_law l s _ hw tables_1 i0 i1 i2 i3 s.heap s.heap.size (Nat.le_refl _)  p e ha hc hk s m _ below hf ((Spec.applies_iff_loose hf).mp happ).1 ⟨rfl, State.Warmed39.refl s, rfl⟩ trivial
  refine ⟨n, _, h1, h2, h3, hpost _ _ _ _ _ _ ⟨Cond.after_iff.mpr rfl, Cond.after_iff.mpr (eq_i res_at (Term.int_eval (1)) rfl), trivial⟩ ⟨hq.1, hq.2.1, hq.2.2.1, (hq.2.2.2.sift fun y hy => Or.inr (N y hy)).mono (by decide) (by decide)⟩⟩
theorem main_1_1 : Claimed_1_1 := comes_1 fun _ _ _ _ _ _ h hF => ⟨h.1, hF⟩
theorem main_1_2 : Claimed_1_2 := comes_1 fun _ _ _ _ _ _ h hF => ⟨h.2.1, hF⟩
end Jvm.Pilot.@@N@@
namespace Jvm.Pilot.@@N@@
open Jvm Jvm.ClassFile Sem Op Lib Jvm.Free Jvm.Stand Jvm.Pilot.@@N@@.Jvm.D
/-! MADE BY PROGRAM (witnessworld.py) out of the Statement's table words and the real class files: 15 classes; the members and pool entries that the words name. The judged class is class 1, her method 1. -/
namespace start1
open Jvm.ClassFile
def u (s : String) : CpInfo := .utf8 (stringToUtf16 s)
/-- a pool by its gaps: so many unusable entries, then the entry; so many at the end -/
def gap : Nat → List CpInfo → List CpInfo
  | 0, r => r
  | n + 1, r => .unusable :: gap n r
def poolList (es : List (Nat × CpInfo)) (last : Nat) : List CpInfo := es.foldr (fun e r => gap e.1 (e.2 :: r)) (gap last [])
def pool (es : List (Nat × CpInfo)) (last : Nat) : Array CpInfo := ⟨poolList es last⟩
def fileOf (pool : Array CpInfo) (this : Nat) (attrs : Array Attribute := #[]) (ms : Array MethodInfo := #[]) (fl : Nat := 33) (sup : Nat := 0) (ifs : Array Nat := #[]) (fds : Array FieldInfo := #[]) : ClassFile where
  minorVersion := 0
  majorVersion := 65
  constantPool := pool
  accessFlags := fl
  thisClass := this
  superClass := sup
  interfaces := ifs
  fields := fds
  methods := ms
  attributes := attrs
def plain (name : String) (sup : Option ClassId) : Class where
  name := name
  kind := .ordinary
  loader := none
  accessFlags := 33
  super := sup
  interfaces := #[]
  cf := none
  fields := #[]
  methods := #[]
  instanceTypes := #[]
  staticTypes := #[]
  resolved := #[]
  callSites := []
  init := .initialized
  statics := none
  mirror := none

def pool0 : Array CpInfo := pool [(5, u "<init>"), (0, u "()V"), (1, .class_ 10), (1, u "java/lang/Object")] 113

def k0c0 : Code := { maxStack := 0, maxLocals := 1, code := object_method_1_code, exceptionTable := #[], attributes := #[] }
def k0m0 : Method := { name := "<init>", desc := "()V", sig := { parameters := [], returnType := none }, accessFlags := 1, code := some k0c0 }
/-- java/lang/Object -/
def k0 : Class := { plain "java/lang/Object" none with
  accessFlags := 33
  interfaces := #[]
  cf := some (fileOf pool0 8 #[] #[{ accessFlags := 1, nameIndex := 5, descriptorIndex := 6, attributes := #[] }] 33 0 #[] #[])
  fields := #[]
  methods := #[k0m0]
  instanceTypes := #[]
  staticTypes := #[]
  resolved := Array.replicate 124 none
  statics := none }

def pool1 : Array CpInfo := pool [(2, .class_ 4), (1, u "java/lang/Object"), (0, u "<init>"), (0, u "()V"), (0, .class_ 8), (0, u "com/example/hardy_cache/hardycache/store/Entry"), (0, .methodref 7 10), (0, .nameAndType 5 11), (0, u "(I[BJJ)V"), (0, .methodref 7 13), (0, .nameAndType 14 15), (0, u "isDueAt"), (0, u "(J)Z"), (2, .long 9223372036854775808), (1, .long 9223372036854775807), (1, .class_ 23), (0, u "com/example/hardy_cache/hardycache/store/EntryIsDueAtPinLaw"), (2, u "law"), (0, u "(JJIJ)Z")] 3

def k1m0 : Method := { name := "<init>", desc := "()V", sig := { parameters := [], returnType := none }, accessFlags := 1, code := none }
def k1c1 : Code := { maxStack := 8, maxLocals := 11, code := code, exceptionTable := #[], attributes := #[] }
def k1m1 : Method := { name := "law", desc := "(JJIJ)Z", sig := { parameters := [.long, .long, .int, .long], returnType := some .boolean }, accessFlags := 9, code := some k1c1 }
/-- com/example/hardy_cache/hardycache/store/EntryIsDueAtPinLaw -/
def k1 : Class := { plain "com/example/hardy_cache/hardycache/store/EntryIsDueAtPinLaw" (some 0) with
  accessFlags := 49
  interfaces := #[]
  cf := some (fileOf pool1 22 #[] #[{ accessFlags := 1, nameIndex := 5, descriptorIndex := 6, attributes := #[] }, { accessFlags := 9, nameIndex := 26, descriptorIndex := 27, attributes := #[] }] 49 2 #[] #[])
  fields := #[]
  methods := #[k1m0, k1m1]
  instanceTypes := #[]
  staticTypes := #[]
  resolved := Array.replicate 31 none
  statics := none }

def pool2 : Array CpInfo := pool [(5, .methodref 6 7), (0, .class_ 8), (0, .nameAndType 9 10), (0, u "java/lang/Object"), (0, u "<init>"), (0, u "()V"), (0, .fieldref 12 13), (0, .class_ 14), (0, .nameAndType 15 16), (0, u "com/example/hardy_cache/hardycache/store/Entry"), (0, u "flags"), (0, u "I"), (0, .string 18), (0, u "value"), (0, .methodref 20 21), (0, .class_ 22), (0, .nameAndType 23 24), (0, u "java/util/Objects"), (0, u "requireNonNull"), (0, u "(Ljava/lang/Object;Ljava/lang/String;)Ljava/lang/Object;"), (0, .class_ 26), (0, u "[B"), (0, .fieldref 12 28), (0, .nameAndType 18 26), (0, .fieldref 12 30), (0, .nameAndType 31 32), (0, u "casUnique"), (0, u "J"), (0, .fieldref 12 34), (0, .nameAndType 35 32), (0, u "deadlineMillis"), (2, u "(I[BJJ)V"), (39, u "NEVER"), (3, u "HEADER_BYTES"), (10, u "isDueAt"), (0, u "(J)Z")] 23

def k2c0 : Code := { maxStack := 3, maxLocals := 7, code := prog_19_method_1_code, exceptionTable := #[], attributes := #[] }
def k2m0 : Method := { name := "<init>", desc := "(I[BJJ)V", sig := { parameters := [.int, (.array .byte), .long, .long], returnType := none }, accessFlags := 1, code := some k2c0 }
def k2c1 : Code := { maxStack := 4, maxLocals := 3, code := prog_19_method_7_code, exceptionTable := #[], attributes := #[] }
def k2m1 : Method := { name := "isDueAt", desc := "(J)Z", sig := { parameters := [.long], returnType := some .boolean }, accessFlags := 0, code := some k2c1 }
/-- com/example/hardy_cache/hardycache/store/Entry -/
def k2 : Class := { plain "com/example/hardy_cache/hardycache/store/Entry" (some 0) with
  accessFlags := 49
  interfaces := #[]
  cf := some (fileOf pool2 12 #[] #[{ accessFlags := 1, nameIndex := 9, descriptorIndex := 38, attributes := #[] }, { accessFlags := 0, nameIndex := 93, descriptorIndex := 94, attributes := #[] }] 49 6 #[] #[{ accessFlags := 25, nameIndex := 78, descriptorIndex := 32, attributes := #[] }, { accessFlags := 26, nameIndex := 82, descriptorIndex := 16, attributes := #[] }, { accessFlags := 18, nameIndex := 15, descriptorIndex := 16, attributes := #[] }, { accessFlags := 18, nameIndex := 18, descriptorIndex := 26, attributes := #[] }, { accessFlags := 18, nameIndex := 31, descriptorIndex := 32, attributes := #[] }, { accessFlags := 18, nameIndex := 35, descriptorIndex := 32, attributes := #[] }])
  fields := #[{ name := "NEVER", type := .long, accessFlags := 25, slot := 0, constantValue := 0 }, { name := "HEADER_BYTES", type := .int, accessFlags := 26, slot := 1, constantValue := 0 }, { name := "flags", type := .int, accessFlags := 18, slot := 0, constantValue := 0 }, { name := "value", type := (.array .byte), accessFlags := 18, slot := 1, constantValue := 0 }, { name := "casUnique", type := .long, accessFlags := 18, slot := 2, constantValue := 0 }, { name := "deadlineMillis", type := .long, accessFlags := 18, slot := 3, constantValue := 0 }]
  methods := #[k2m0, k2m1]
  instanceTypes := #[.int, (.array .byte), .long, .long]
  staticTypes := #[.long, .int]
  resolved := Array.replicate 118 none
  statics := none }

def pool3 : Array CpInfo := pool [(1, .class_ 2), (0, u "java/io/Serializable"), (0, .class_ 4), (0, u "java/lang/Object")] 2

/-- java/io/Serializable -/
def k3 : Class := { plain "java/io/Serializable" (some 0) with
  accessFlags := 1537
  interfaces := #[]
  cf := some (fileOf pool3 1 #[] #[] 1537 3 #[] #[])
  fields := #[]
  methods := #[]
  instanceTypes := #[]
  staticTypes := #[]
  resolved := Array.replicate 7 none
  statics := none }

def pool4 : Array CpInfo := pool [(1, .class_ 2), (0, u "java/lang/Comparable"), (0, .class_ 4), (0, u "java/lang/Object")] 7

/-- java/lang/Comparable -/
def k4 : Class := { plain "java/lang/Comparable" (some 0) with
  accessFlags := 1537
  interfaces := #[]
  cf := some (fileOf pool4 1 #[] #[] 1537 3 #[] #[])
  fields := #[]
  methods := #[]
  instanceTypes := #[]
  staticTypes := #[]
  resolved := Array.replicate 12 none
  statics := none }

def pool5 : Array CpInfo := pool [(2, .class_ 4), (1, u "java/lang/CharSequence"), (42, .class_ 48), (0, u "java/lang/CharSequence$1CodePointIterator"), (10, .class_ 60), (0, u "java/lang/CharSequence$1CharIterator"), (5, .class_ 67), (0, u "java/lang/Object")] 63

/-- java/lang/CharSequence -/
def k5 : Class := { plain "java/lang/CharSequence" (some 0) with
  accessFlags := 1537
  interfaces := #[]
  cf := some (fileOf pool5 2 #[.nestMembers #[47, 59]] #[] 1537 66 #[] #[])
  fields := #[]
  methods := #[]
  instanceTypes := #[]
  staticTypes := #[]
  resolved := Array.replicate 131 none
  statics := none }

def pool6 : Array CpInfo := pool [(1, .class_ 2), (0, u "java/lang/constant/Constable"), (0, .class_ 4), (0, u "java/lang/Object")] 6

/-- java/lang/constant/Constable -/
def k6 : Class := { plain "java/lang/constant/Constable" (some 0) with
  accessFlags := 1537
  interfaces := #[]
  cf := some (fileOf pool6 1 #[] #[] 1537 3 #[] #[])
  fields := #[]
  methods := #[]
  instanceTypes := #[]
  staticTypes := #[]
  resolved := Array.replicate 11 none
  statics := none }

def pool7 : Array CpInfo := pool [(1, .class_ 2), (0, u "java/lang/constant/ConstantDesc"), (0, .class_ 4), (0, u "java/lang/Object")] 32

/-- java/lang/constant/ConstantDesc -/
def k7 : Class := { plain "java/lang/constant/ConstantDesc" (some 0) with
  accessFlags := 1537
  interfaces := #[]
  cf := some (fileOf pool7 1 #[] #[] 1537 3 #[] #[])
  fields := #[]
  methods := #[]
  instanceTypes := #[]
  staticTypes := #[]
  resolved := Array.replicate 37 none
  statics := none }

def pool8 : Array CpInfo := pool [(2, .class_ 4), (1, u "java/lang/Object"), (0, u "<init>"), (0, u "()V"), (3, .class_ 12), (1, u "java/lang/String"), (0, u "value"), (0, u "[B"), (2, u "coder"), (0, u "B"), (2, u "hash"), (0, u "I"), (2, u "hashIsZero"), (0, u "Z"), (13, u "COMPACT_STRINGS"), (534, .class_ 576), (0, u "java/lang/CharSequence"), (22, u "CASE_INSENSITIVE_ORDER"), (0, u "Ljava/util/Comparator;"), (500, u "serialPersistentFields"), (0, u "[Ljava/io/ObjectStreamField;"), (0, .class_ 1104), (0, u "java/lang/String$CaseInsensitiveComparator"), (1, .class_ 1107), (0, u "java/io/Serializable"), (0, .class_ 1109), (0, u "java/lang/Comparable"), (0, .class_ 1111), (0, u "java/lang/constant/Constable"), (0, .class_ 1113), (0, u "java/lang/constant/ConstantDesc"), (2, u "serialVersionUID"), (0, u "J"), (3, u "REPL"), (0, u "C"), (2, u "LATIN1"), (1, u "UTF16")] 323

def k8m0 : Method := { name := "<init>", desc := "()V", sig := { parameters := [], returnType := none }, accessFlags := 1, code := none }
/-- java/lang/String -/
def k8 : Class := { plain "java/lang/String" (some 0) with
  accessFlags := 49
  interfaces := #[3, 4, 5, 6, 7]
  cf := some (fileOf pool8 10 #[.nestMembers #[1103]] #[{ accessFlags := 1, nameIndex := 5, descriptorIndex := 6, attributes := #[] }] 49 2 #[1106, 1108, 575, 1110, 1112] #[{ accessFlags := 18, nameIndex := 13, descriptorIndex := 14, attributes := #[] }, { accessFlags := 18, nameIndex := 17, descriptorIndex := 18, attributes := #[] }, { accessFlags := 2, nameIndex := 21, descriptorIndex := 22, attributes := #[] }, { accessFlags := 2, nameIndex := 25, descriptorIndex := 26, attributes := #[] }, { accessFlags := 26, nameIndex := 1116, descriptorIndex := 1117, attributes := #[] }, { accessFlags := 24, nameIndex := 40, descriptorIndex := 26, attributes := #[] }, { accessFlags := 26, nameIndex := 1101, descriptorIndex := 1102, attributes := #[] }, { accessFlags := 26, nameIndex := 1121, descriptorIndex := 1122, attributes := #[] }, { accessFlags := 25, nameIndex := 599, descriptorIndex := 600, attributes := #[] }, { accessFlags := 24, nameIndex := 1125, descriptorIndex := 18, attributes := #[] }, { accessFlags := 24, nameIndex := 1127, descriptorIndex := 18, attributes := #[] }])
  fields := #[{ name := "value", type := (.array .byte), accessFlags := 18, slot := 0, constantValue := 0 }, { name := "coder", type := .byte, accessFlags := 18, slot := 1, constantValue := 0 }, { name := "hash", type := .int, accessFlags := 2, slot := 2, constantValue := 0 }, { name := "hashIsZero", type := .boolean, accessFlags := 2, slot := 3, constantValue := 0 }, { name := "serialVersionUID", type := .long, accessFlags := 26, slot := 0, constantValue := 0 }, { name := "COMPACT_STRINGS", type := .boolean, accessFlags := 24, slot := 1, constantValue := 0 }, { name := "serialPersistentFields", type := (.array (.object "java/io/ObjectStreamField")), accessFlags := 26, slot := 2, constantValue := 0 }, { name := "REPL", type := .char, accessFlags := 26, slot := 3, constantValue := 0 }, { name := "CASE_INSENSITIVE_ORDER", type := (.object "java/util/Comparator"), accessFlags := 25, slot := 4, constantValue := 0 }, { name := "LATIN1", type := .byte, accessFlags := 24, slot := 5, constantValue := 0 }, { name := "UTF16", type := .byte, accessFlags := 24, slot := 6, constantValue := 0 }]
  methods := #[k8m0]
  instanceTypes := #[(.array .byte), .byte, .int, .boolean]
  staticTypes := #[.long, .boolean, (.array (.object "java/io/ObjectStreamField")), .char, (.object "java/util/Comparator"), .byte, .byte]
  resolved := Array.replicate 1451 none
  statics := none }

def pool9 : Array CpInfo := pool [(2, .class_ 4), (1, u "java/lang/Object"), (0, u "<init>"), (0, u "()V"), (35, .class_ 44), (1, u "java/util/Objects"), (0, u "requireNonNull"), (48, u "(Ljava/lang/Object;Ljava/lang/String;)Ljava/lang/Object;")] 89

def k9m0 : Method := { name := "<init>", desc := "()V", sig := { parameters := [], returnType := none }, accessFlags := 2, code := none }
def k9c1 : Code := { maxStack := 3, maxLocals := 2, code := jdk_31_method_11_code, exceptionTable := #[], attributes := #[] }
def k9m1 : Method := { name := "requireNonNull", desc := "(Ljava/lang/Object;Ljava/lang/String;)Ljava/lang/Object;", sig := { parameters := [(.object "java/lang/Object"), (.object "java/lang/String")], returnType := some (.object "java/lang/Object") }, accessFlags := 9, code := some k9c1 }
/-- java/util/Objects -/
def k9 : Class := { plain "java/util/Objects" (some 0) with
  accessFlags := 49
  interfaces := #[]
  cf := some (fileOf pool9 42 #[] #[{ accessFlags := 2, nameIndex := 5, descriptorIndex := 6, attributes := #[] }, { accessFlags := 9, nameIndex := 45, descriptorIndex := 94, attributes := #[] }] 49 2 #[] #[])
  fields := #[]
  methods := #[k9m0, k9m1]
  instanceTypes := #[]
  staticTypes := #[]
  resolved := Array.replicate 184 none
  statics := none }

def pool10 : Array CpInfo := pool [(1, u "java/lang/Cloneable"), (0, .class_ 1), (0, u "java/lang/Object"), (0, .class_ 3)] 3

/-- java/lang/Cloneable -/
def k10 : Class := { plain "java/lang/Cloneable" (some 0) with
  accessFlags := 1537
  interfaces := #[]
  cf := some (fileOf pool10 2 #[] #[] 1537 4 #[] #[])
  fields := #[]
  methods := #[]
  instanceTypes := #[]
  staticTypes := #[]
  resolved := Array.replicate 8 none
  statics := none }

/-- the primitive byte -/
def k11 : Class := { plain "byte" none with kind := .primitive 'B', accessFlags := 0x411 }
/-- [B -/
def k12 : Class := { plain "[B" (some 0) with kind := .array 11 .byte, interfaces := #[10, 3], accessFlags := 1041 }

/-- the primitive int -/
def k13 : Class := { plain "int" none with kind := .primitive 'I', accessFlags := 0x411 }
/-- [I -/
def k14 : Class := { plain "[I" (some 0) with kind := .array 13 .int, interfaces := #[10, 3], accessFlags := 1041 }

def heap : Heap := #[]
def classes : Array Class := #[k0, k1, k2, k3, k4, k5, k6, k7, k8, k9, k10, k11, k12, k13, k14]
def interned : List (Array UInt16 × Addr) := []
def slotsUsed : Nat := 0
def theMethod : MethodId := ⟨1, 1⟩
def args0 : Array Value := #[.long 5, .long 9, .int 1, .long 3]
def aboutOver (below : List Frame) : State where
  vm := { classes := classes, interned := interned.toArray }
  heap := heap
  slotsUsed := slotsUsed
  threads := #[{ frames := .invoking theMethod args0 :: below }]
def below0 : List Frame := [.native { method := ⟨0, 0⟩, args := #[] }]
def about1 : State := aboutOver below0
def p0 : Program := .bare "" "" ""
def e0 : Env := launch0.env 0 0 0
theorem w_frames : about1.frames = Frame.invoking theMethod args0 :: below0 := rfl
set_option maxRecDepth 65536 in
theorem w_args : argsFit about1.vm theMethod args0 = true := by decide +kernel
set_option maxRecDepth 65536 in
theorem w_heap : heapFits about1 = true := by decide +kernel
set_option maxRecDepth 65536 in
theorem w_runnable : about1.curStatus? = some .runnable := by decide +kernel
set_option maxRecDepth 65536 in
theorem w_alone : about1.alone = true := by decide +kernel
set_option maxRecDepth 65536 in
theorem w_named : about1.methodNamed? x = some theMethod := by decide +kernel
set_option maxRecDepth 65536 in
theorem w_hears : about1.hears theMethod below0 = true := by decide +kernel
set_option maxRecDepth 65536 in
theorem w_ripe : about1.ripe theMethod args0 below0 = true := by decide +kernel
theorem w_running : about1.status = .running := rfl
set_option maxRecDepth 65536 in
theorem w_room : about1.hasRoom e0.platform room_1 = true :=
  launch0.hasRoom_least _ room_1 (by decide +kernel) (by decide +kernel) (by decide +kernel) (by decide +kernel) (by decide +kernel) (by decide +kernel)
theorem allAtoms_all (ts : List Jvm.Cond) (a : Array Jvm.Value) (st : Jvm.State) : (allAtoms ts).before a st = ts.all (fun c => c.before a st) := by
  induction ts with
  | nil => rfl
  | cons c t ih =>
    show (Jvm.Cond.and c (allAtoms t)).before a st = _
    rw [Jvm.Cond.before_and, ih, List.all_cons]
def words1 : List Jvm.Cond := Jvm.Cond.code x code maxLocals ret :: tables_1
/-- a 'code' word, met by the world's own term for the bytes: nothing is compared byte by byte -/
theorem code_word {y : MethodName} {bytes : ByteArray} {mx : Nat} {rt : Option FieldType} {a : Array Value} {s : State} {m : MethodId} {meth : Method} {c : Code} (h1 : s.methodNamed? y = some m) (h2 : s.vm.method? m = some meth) (h3 : meth.code = some c) (h4 : c.code = bytes)
    (h5 : (c.maxLocals == mx && c.exceptionTable.isEmpty && decide (c.maxStack ≤ mostOperands) && decide (meth.sig.returnType = rt) && !meth.locks && decide (parseMethodDescriptor y.desc = some meth.sig)) = true) : (Jvm.Cond.code y bytes mx rt).before a s = true := by
  simp only [Bool.and_eq_true, beq_iff_eq, Bool.not_eq_true', decide_eq_true_eq] at h5
  obtain ⟨⟨⟨⟨⟨g1, g2⟩, g3⟩, g4⟩, g5⟩, g6⟩ := h5
  simp [Cond.before, Cond.holds, Cond.value, h1, h2, h3, h4, g1, g2, g3, g4, g5, g6]
def isCode : Jvm.Cond → Bool
  | .code _ _ _ _ => true
  | _ => false
theorem all_split {L : List Jvm.Cond} {P : Jvm.Cond → Bool} (h1 : L.all (fun c => isCode c || P c) = true) (h2 : ∀ c ∈ L.filter isCode, P c = true) : L.all P = true := by
  refine List.all_eq_true.mpr fun c hc => ?_
  have h := List.all_eq_true.mp h1 c hc
  rcases Bool.eq_false_or_eq_true (isCode c) with hi | hi
  · exact h2 c (List.mem_filter.mpr ⟨hc, hi⟩)
  · simpa [hi] using h
set_option maxRecDepth 65536 in
theorem w_c0 : (Jvm.Cond.code x code maxLocals ret).before args0 about1 = true := code_word (m := ⟨1, 1⟩) (meth := k1m1) (c := k1c1) (by decide +kernel) rfl rfl rfl (by decide +kernel)
set_option maxRecDepth 65536 in
theorem w_c1 : (Jvm.Cond.code ({ cls := "com/example/hardy_cache/hardycache/store/Entry", name := "<init>", desc := "(I[BJJ)V" } : Jvm.MethodName) prog_19_method_1_code (7 : Nat) (Option.none : Option Jvm.ClassFile.FieldType)).before args0 about1 = true := code_word (m := ⟨2, 0⟩) (meth := k2m0) (c := k2c0) (by decide +kernel) rfl rfl rfl (by decide +kernel)
set_option maxRecDepth 65536 in
theorem w_c2 : (Jvm.Cond.code ({ cls := "java/lang/Object", name := "<init>", desc := "()V" } : Jvm.MethodName) object_method_1_code (1 : Nat) (Option.none : Option Jvm.ClassFile.FieldType)).before args0 about1 = true := code_word (m := ⟨0, 0⟩) (meth := k0m0) (c := k0c0) (by decide +kernel) rfl rfl rfl (by decide +kernel)
set_option maxRecDepth 65536 in
theorem w_c3 : (Jvm.Cond.code ({ cls := "java/util/Objects", name := "requireNonNull", desc := "(Ljava/lang/Object;Ljava/lang/String;)Ljava/lang/Object;" } : Jvm.MethodName) jdk_31_method_11_code (2 : Nat) (Option.some (Jvm.ClassFile.FieldType.object "java/lang/Object"))).before args0 about1 = true := code_word (m := ⟨9, 1⟩) (meth := k9m1) (c := k9c1) (by decide +kernel) rfl rfl rfl (by decide +kernel)
set_option maxRecDepth 65536 in
theorem w_c4 : (Jvm.Cond.code ({ cls := "com/example/hardy_cache/hardycache/store/Entry", name := "isDueAt", desc := "(J)Z" } : Jvm.MethodName) prog_19_method_7_code (3 : Nat) (Option.some Jvm.ClassFile.FieldType.boolean)).before args0 about1 = true := code_word (m := ⟨2, 1⟩) (meth := k2m1) (c := k2c1) (by decide +kernel) rfl rfl rfl (by decide +kernel)
def codes1 : List Jvm.Cond := [Jvm.Cond.code x code maxLocals ret, Jvm.Cond.code ({ cls := "com/example/hardy_cache/hardycache/store/Entry", name := "<init>", desc := "(I[BJJ)V" } : Jvm.MethodName) prog_19_method_1_code (7 : Nat) (Option.none : Option Jvm.ClassFile.FieldType), Jvm.Cond.code ({ cls := "java/lang/Object", name := "<init>", desc := "()V" } : Jvm.MethodName) object_method_1_code (1 : Nat) (Option.none : Option Jvm.ClassFile.FieldType), Jvm.Cond.code ({ cls := "java/util/Objects", name := "requireNonNull", desc := "(Ljava/lang/Object;Ljava/lang/String;)Ljava/lang/Object;" } : Jvm.MethodName) jdk_31_method_11_code (2 : Nat) (Option.some (Jvm.ClassFile.FieldType.object "java/lang/Object")), Jvm.Cond.code ({ cls := "com/example/hardy_cache/hardycache/store/Entry", name := "isDueAt", desc := "(J)Z" } : Jvm.MethodName) prog_19_method_7_code (3 : Nat) (Option.some Jvm.ClassFile.FieldType.boolean)]
set_option maxRecDepth 65536 in
theorem codes_eq : words1.filter isCode = codes1 := rfl
theorem w_codes : ∀ c ∈ words1.filter isCode, c.before args0 about1 = true := by
  rw [codes_eq]
  intro c hc
  simp only [codes1, List.mem_cons, List.not_mem_nil, or_false] at hc
  rcases hc with rfl | rfl | rfl | rfl | rfl
  · exact w_c0
  · exact w_c1
  · exact w_c2
  · exact w_c3
  · exact w_c4
set_option maxRecDepth 65536 in
theorem w_t1 : (words1.take 24).all (fun c => isCode c || c.before args0 about1) = true := by decide +kernel
set_option maxRecDepth 65536 in
theorem w_t2 : (words1.drop 24).all (fun c => isCode c || c.before args0 about1) = true := by decide +kernel
theorem w_tables : (allAtoms (Jvm.Cond.code x code maxLocals ret :: tables_1)).before args0 about1 = true := by
  rw [allAtoms_all]
  show words1.all (fun c => c.before args0 about1) = true
  refine all_split ?_ w_codes
  rw [← List.take_append_drop 24 words1, List.all_append, w_t1, w_t2]
  rfl
set_option maxRecDepth 65536 in
theorem w_case : (Jvm.Cond.and given_1 narrow_1).before args0 about1 = true := by decide +kernel
theorem w_applies : (headSpec (Jvm.Cond.code x code maxLocals ret :: tables_1) room_1).applies x e0.platform about1 = true :=
  (Spec.applies_iff w_frames).mpr ⟨w_running, w_runnable, w_alone, w_named, w_hears, w_ripe, w_room, w_tables⟩
theorem atStart : AtStart classFile x code maxLocals ret World_1 tables_1 room_1 Calls_1 rest_1 Pre_1 launch0 p0 e0 about1 theMethod args0 below0 :=
  ⟨lists_1, trivial, launch0.admits_env _ _ _, launch0.least_env, fairChoices_fair.cas, fairChoices_fair.clock, w_frames, w_args, w_heap, w_applies, trivial, trivial, w_case⟩
end start1
theorem witness_1 : WitnessClaimed_1 := ⟨start1.p0, start1.e0, start1.about1, start1.theMethod, start1.args0, start1.below0, start1.atStart⟩
end Jvm.Pilot.@@N@@
