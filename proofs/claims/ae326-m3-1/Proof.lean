import JvmDerived
import JvmDerived.Pilot.@@N@@Statement
import JvmDerived.Pilot.@@N@@Code
set_option linter.unusedVariables false
set_option linter.unusedSimpArgs false
namespace Jvm.RoadKit
open Sem ClassFile Op Lib Jvm.Stand Jvm.Free Jvm.LawKit
section New
variable {p : Program} {l : Launch} {e : Env} {R : Room} {s : State} {m : MethodId} {args : Array Value} {below : List Frame} {meth : Method} {c : Code} {T : State} {locs : List Loc} {cells slots : Nat}
theorem retI (X : Stand p l e R s m args below meth c T locs cells slots) (hx : p.tables.exec = Jvm.exec) {pc : Nat} {Ls : Array Slot} {z : Int32} {rest : List Value} (hret : meth.sig.returnType = some .int) (hd : decode c.code pc = .ok (.ireturn, 1)) {fs : List Frame}
    (hl : ∀ (f : JFrame) (acts : List Action), f.method = m → f.locked = none → f.entered = [] → (doReturn e (T.setTop f) acts (some (.int z))).1 = T.setFrames fs) : Steps p.tables e below (T.setTop (mkF m pc Ls (.int z :: rest))) (T.setFrames fs) := by
  have hm' : T.vm.method? m = some meth := X.method'
  have hn : narrow .int (.int z) = .int z := rfl
  show Steps p.tables e below (T.setTop { method := m, pc := pc, locals := Ls, stack := _ :: rest, locked := none }) _
  jvm_step X.here [X.here.top, hx, hd, hm', hret, hn]
  first | (intro acts; rw [hl _ acts rfl rfl rfl]) | rw [hl _ _ rfl rfl rfl]
  exact Steps.refl _
end New
end Jvm.RoadKit
namespace Jvm.Pilot.@@N@@
open Jvm Jvm.ClassFile Sem Op Lib Jvm.Free Jvm.Stand Jvm.LawKit Jvm.RoadKit Bundle Jvm.Pilot.@@N@@.Jvm.D
theorem own_newB {p : Program} {l : Launch} {e : Env} {R : Room} {s : State} {m : MethodId} {args : Array Value} {below : List Frame} {meth : Method} {c : Code} {T : State} {locs : List Loc} {cells slots : Nat} {Z : State} {a0 : Array Value} {h : Heap}
    (X : Stand p l e R s m args below meth c T locs cells slots) (hx : p.tables.exec = Jvm.exec) (hZ : Z.Warmed39 s.vm) (w : (Jvm.Cond.arrayClass .byte).before a0 Z = true) (eT : T.heap = h) {g : JFrame} (hg : g.method = m) (hd : decode c.code g.pc = .ok (.newarray .byte, 2)) {n : Int32} {rest : List Value} (hs : g.stack = .int n :: rest)
    (hn : ¬ n < 0) {cap : Nat} (hcap : n.toNatClampNeg ≤ cap) (hb : cap * 8 ≤ 536870912) (hc : cells + 1 ≤ R.cells) (hl : slots + cap ≤ R.slots) :
    ∃ (T' : State) (h' : Heap) (cA : ClassId), Stand p l e R s m args below meth c T' locs (cells + 1) (slots + cap) ∧ T'.heap = h' ∧ Ext h h' ∧ Arr Z h' h.size (newA cA .byte n) .byte ∧ Exa Z h' h.size "[B" ∧
      ∀ target, Steps p.tables e below (T'.setTop { g with pc := g.pc + 2, stack := .ref h.size :: rest }) target → Steps p.tables e below (T.setTop g) target := by
  have hcb : componentBytes (newarray.typeOf .byte) ≤ 8 := by decide
  obtain ⟨cA, kA, comp, h1, h2, h3, X', st⟩ := X.newarrayPrim hx (atype := .byte) (mvA hZ w) hg hd hs hn (Nat.le_trans (Nat.mul_le_mul hcap hcb) hb) hc (by omega)
  subst eT
  have h1' : s.vm.findClass "[B" = some cA := h1
  rw [hZ.alike.findClass] at h1'
  obtain ⟨kZ, z1, -⟩ := Vm.findClass_spec h1'
  obtain ⟨k', z2, z3⟩ := hZ.alike.2.2 _ _ z1
  cases h2.symm.trans z2
  have hk : kZ.kind = .array comp .byte := by have q : kA.kind = .array comp .byte := h3; rw [← q, z3]
  have hN : (T.heap.push (newA cA .byte n))[T.heap.size]? = some (newA cA .byte n) := by simp
  refine ⟨_, _, cA, X'.more (Nat.le_refl _) (by omega), rfl, ⟨by show T.heap.size ≤ (T.heap.push _).size; simp, fun a c q => ?_⟩, ⟨hN, ⟨by simp [newA], kZ, z1, comp, hk⟩, by simp [newA]⟩, ⟨_, kZ, hN, h1', z1, rfl, fun q => by rw [hk] at q; cases q⟩, st⟩
  show (T.heap.push _)[a]? = _
  rw [Array.getElem?_push_lt (Array.getElem?_eq_some_iff.mp q).1]; exact (Array.getElem?_eq_getElem _).symm.trans q
theorem own_b8 (x : Int32) : (x.toInt8.toInt32).toInt8.toInt32 = x.toInt8.toInt32 := by
  have h := c_i2b x
  have k := c_i2b x.toInt8.toInt32
  apply Int32.toInt_inj.mp
  omega
theorem ef_pick (m : MethodId) (x0 : Int32) : entryFrame m #[(.int x0)] 1 = mkF m 0 #[.val (.int x0)] [] := by first | (simp [entryFrame, mkF, argsToLocals, Value.category]; done) | rfl
def Q_pick (Z : State) (u1 : Int32) (c0 : Addr) (c1 : Addr) (c2 : Addr) (c3 : Addr) (c4 : Addr) (c5 : Addr) (h0 : Heap) (n0 : Nat) (v : Option Value) (h : Heap) (L : List Loc) : Prop := ∃ r : Addr, v = some (.ref r) ∧ Fr n0 L ∧ h = h0
theorem pn_0 : plainName "com/example/hardy_cache/hardycache/server/RequestStoragePinLaw" = true := by first | (simp [plainName, overriddenIn]; done) | decide +kernel
theorem d1_0 : decode method_2_code 0 = .ok (.iload_n 0, 1) := by decide +kernel
theorem d1_1 : decode method_2_code 1 = .ok (.ifCond .ne 7, 3) := by decide +kernel
theorem d1_4 : decode method_2_code 4 = .ok (.getstatic 7, 3) := by decide +kernel
theorem d1_7 : decode method_2_code 7 = .ok (.areturn, 1) := by decide +kernel
theorem d1_8 : decode method_2_code 8 = .ok (.iload_n 0, 1) := by decide +kernel
theorem d1_9 : decode method_2_code 9 = .ok (.iconst 1, 1) := by decide +kernel
theorem d1_10 : decode method_2_code 10 = .ok (.if_icmp .ne 7, 3) := by decide +kernel
theorem d1_13 : decode method_2_code 13 = .ok (.getstatic 13, 3) := by decide +kernel
theorem d1_16 : decode method_2_code 16 = .ok (.areturn, 1) := by decide +kernel
theorem d1_17 : decode method_2_code 17 = .ok (.iload_n 0, 1) := by decide +kernel
theorem d1_18 : decode method_2_code 18 = .ok (.iconst 2, 1) := by decide +kernel
theorem d1_19 : decode method_2_code 19 = .ok (.if_icmp .ne 7, 3) := by decide +kernel
theorem d1_22 : decode method_2_code 22 = .ok (.getstatic 16, 3) := by decide +kernel
theorem d1_25 : decode method_2_code 25 = .ok (.areturn, 1) := by decide +kernel
theorem d1_26 : decode method_2_code 26 = .ok (.iload_n 0, 1) := by decide +kernel
theorem d1_27 : decode method_2_code 27 = .ok (.iconst 3, 1) := by decide +kernel
theorem d1_28 : decode method_2_code 28 = .ok (.if_icmp .ne 7, 3) := by decide +kernel
theorem d1_31 : decode method_2_code 31 = .ok (.getstatic 19, 3) := by decide +kernel
theorem d1_34 : decode method_2_code 34 = .ok (.areturn, 1) := by decide +kernel
theorem d1_35 : decode method_2_code 35 = .ok (.iload_n 0, 1) := by decide +kernel
theorem d1_36 : decode method_2_code 36 = .ok (.iconst 4, 1) := by decide +kernel
theorem d1_37 : decode method_2_code 37 = .ok (.if_icmp .ne 7, 3) := by decide +kernel
theorem d1_40 : decode method_2_code 40 = .ok (.getstatic 22, 3) := by decide +kernel
theorem d1_43 : decode method_2_code 43 = .ok (.areturn, 1) := by decide +kernel
theorem d1_44 : decode method_2_code 44 = .ok (.getstatic 25, 3) := by decide +kernel
theorem d1_47 : decode method_2_code 47 = .ok (.areturn, 1) := by decide +kernel
set_option maxRecDepth 65536 in
set_option maxHeartbeats 40000000 in
theorem rm_pick (l : Launch) (Z : State) (a0 : Array Value) (hw : ∀ d ∈ tables_1, d.before a0 Z = true) (ws : List Jvm.Cond) (u1 : Int32) (c0 : Addr) (c1 : Addr) (c2 : Addr) (c3 : Addr) (c4 : Addr) (c5 : Addr) (h0 : Heap) (n0 : Nat) (Z0 : n0 ≤ h0.size) (S0 : Sta Z Z.heap "com/example/hardy_cache/hardycache/server/Request$Command" "SET" "Lcom/example/hardy_cache/hardycache/server/Request$Command;" (.ref c0)) (S1 : Sta Z Z.heap "com/example/hardy_cache/hardycache/server/Request$Command" "ADD" "Lcom/example/hardy_cache/hardycache/server/Request$Command;" (.ref c1)) (S2 : Sta Z Z.heap "com/example/hardy_cache/hardycache/server/Request$Command" "REPLACE" "Lcom/example/hardy_cache/hardycache/server/Request$Command;" (.ref c2)) (S3 : Sta Z Z.heap "com/example/hardy_cache/hardycache/server/Request$Command" "APPEND" "Lcom/example/hardy_cache/hardycache/server/Request$Command;" (.ref c3)) (S4 : Sta Z Z.heap "com/example/hardy_cache/hardycache/server/Request$Command" "PREPEND" "Lcom/example/hardy_cache/hardycache/server/Request$Command;" (.ref c4)) (S5 : Sta Z Z.heap "com/example/hardy_cache/hardycache/server/Request$Command" "CAS" "Lcom/example/hardy_cache/hardycache/server/Request$Command;" (.ref c5)) (O1 : Old Z n0 h0) :
    MetFree l (⟨"com/example/hardy_cache/hardycache/server/RequestStoragePinLaw", "pick", "(I)Lcom/example/hardy_cache/hardycache/server/Request$Command;"⟩ : MethodName) (head1 (Jvm.Cond.code (⟨"com/example/hardy_cache/hardycache/server/RequestStoragePinLaw", "pick", "(I)Lcom/example/hardy_cache/hardycache/server/Request$Command;"⟩ : MethodName) method_2_code 1 (some (.object "com/example/hardy_cache/hardycache/server/Request$Command")) :: ws) ({ frames := 0, cells := 0, slots := 0, locals := 0 } : Room)) (fun a U => a = #[(.int u1)] ∧ Z.Warmed39 U.vm ∧ U.heap = h0) (fun _ _ _ _ _ => True) (fun _ U o U' => ∃ v L, o = .returned v ∧ Q_pick Z u1 c0 c1 c2 c3 c4 c5 h0 n0 v U'.heap L ∧ FrameEnd U o U' L ({ frames := 0, cells := 0, slots := 0, locals := 0 } : Room).cells ({ frames := 0, cells := 0, slots := 0, locals := 0 } : Room).slots) := by
  refine MetFree.of_bodySF (plainFor_of_name pn_0) hisR ?_
  intro p e s m args below meth c s₁ Bd hml0 hP hK
  obtain ⟨rfl, hZ, hh⟩ := hP
  have hx := Bd.exec
  have hby := Bd.bytes
  have hml : c.maxLocals = 1 := hml0
  have hown : s.vm.findClass "com/example/hardy_cache/hardycache/server/RequestStoragePinLaw" = some m.cls := findClass_of_methodNamed Bd.named
  have hnm := (name_of_methodNamed Bd.named Bd.method).1
  have X0 : Stand p l e ({ frames := 0, cells := 0, slots := 0, locals := 0 } : Room) s m #[(.int u1)] below meth c s₁ [] 0 0 := Stand.of_body Bd
  have e0 : s₁.heap = h0 := by rw [← hh, Bd.state]; rfl
  have N0 := Fr.nil n0
  have K0 : Keep h0 h0 [] := Keep.refl h0 []
  have P0 : ∀ t, Steps p.tables e below (s₁.setTop (mkF m 0 #[.val (.int u1)] [])) t → Steps p.tables e below (s₁.setTop (entryFrame m #[(.int u1)] 1)) t := fun t k => castTop (ef_pick m u1) k
  have P1001 : ∀ t, Steps p.tables e below (s₁.setTop (mkF m 1 #[.val (.int u1)] [(.int u1)])) t → Steps p.tables e below (s₁.setTop (entryFrame m #[(.int u1)] 1)) t := fun t k => P0 t (by
    refine XS.iloadN X0.here hx rfl (hb hby d1_0) rfl ?_
    show Steps p.tables e below (s₁.setTop (mkF m 1 #[.val (.int u1)] [(.int u1)])) _
    exact k)
  by_cases hp0 : u1 = (0 : Int32)
  · obtain ⟨T1002, X1002, e1002, st1002⟩ := getS2 X0 hx hZ hown (host := "") (Or.inl (hw _ (List.mem_of_getElem? (i := 4) rfl))) Via.refl e0 (S0.ext O1.2) (g := (mkF m 4 #[.val (.int u1)] [])) rfl (hb hby d1_4)
    have P1003 : ∀ t, Steps p.tables e below (T1002.setTop (mkF m 7 #[.val (.int u1)] [(.ref c0)])) t → Steps p.tables e below (s₁.setTop (entryFrame m #[(.int u1)] 1)) t := fun t k => P1001 t (by
      refine XS.ifNo X0.here hx rfl (hb hby d1_1) rfl ((if0 _ _).trans (teq hp0).2) ?_
      show Steps p.tables e below (s₁.setTop (mkF m 4 #[.val (.int u1)] [])) _
      refine st1002 _ ?_
      show Steps p.tables e below (T1002.setTop (mkF m 7 #[.val (.int u1)] [(.ref c0)])) _
      exact k)
    obtain ⟨fs, hr, hrun, hended, hW, hsame⟩ := X1002.leave (v := some (.ref c0)) (fun h => by rw [Bd.returns] at h; cases h)
    refine ⟨_, _, P1003 _ ?_, hrun, hended, _, _, rfl, ?_, ⟨_, rfl⟩, hW, hsame.mono (by decide) (by decide)⟩
    · jvm_step X1002.here [X1002.here.top, hx, (hb hby d1_7), X1002.method', Bd.returns, Value.isRef, FieldType.isReference]
      first | (intro acts; rw [hr _ acts rfl rfl rfl]) | rw [hr _ _ rfl rfl rfl]
      exact Steps.refl _
    · show Q_pick Z u1 c0 c1 c2 c3 c4 c5 h0 n0 _ T1002.heap _
      rw [e1002]
      exact ⟨_, rfl, N0, rfl⟩
  · have P1004 : ∀ t, Steps p.tables e below (s₁.setTop (mkF m 10 #[.val (.int u1)] [(.int (1 : Int32)), (.int u1)])) t → Steps p.tables e below (s₁.setTop (entryFrame m #[(.int u1)] 1)) t := fun t k => P1001 t (by
      refine XS.ifYes X0.here hx rfl (pc0 := 1) (pc' := 8) rfl (hb hby d1_1) rfl ((if0 _ _).trans (feq hp0).2) (by decide) (by decide) ?_
      show Steps p.tables e below (s₁.setTop (mkF m 8 #[.val (.int u1)] [])) _
      refine XS.iloadN X0.here hx rfl (hb hby d1_8) rfl ?_
      show Steps p.tables e below (s₁.setTop (mkF m 9 #[.val (.int u1)] [(.int u1)])) _
      refine XS.iconst X0.here hx rfl (hb hby d1_9) ?_
      show Steps p.tables e below (s₁.setTop (mkF m 10 #[.val (.int u1)] [(.int (1 : Int32)), (.int u1)])) _
      exact k)
    by_cases hp1 : u1 = (1 : Int32)
    · obtain ⟨T1005, X1005, e1005, st1005⟩ := getS2 X0 hx hZ hown (host := "") (Or.inl (hw _ (List.mem_of_getElem? (i := 134) rfl))) Via.refl e0 (S1.ext O1.2) (g := (mkF m 13 #[.val (.int u1)] [])) rfl (hb hby d1_13)
      have P1006 : ∀ t, Steps p.tables e below (T1005.setTop (mkF m 16 #[.val (.int u1)] [(.ref c1)])) t → Steps p.tables e below (s₁.setTop (entryFrame m #[(.int u1)] 1)) t := fun t k => P1004 t (by
        refine XS.icmpNo X0.here hx rfl (hb hby d1_10) rfl (teq hp1).2 ?_
        show Steps p.tables e below (s₁.setTop (mkF m 13 #[.val (.int u1)] [])) _
        refine st1005 _ ?_
        show Steps p.tables e below (T1005.setTop (mkF m 16 #[.val (.int u1)] [(.ref c1)])) _
        exact k)
      obtain ⟨fs, hr, hrun, hended, hW, hsame⟩ := X1005.leave (v := some (.ref c1)) (fun h => by rw [Bd.returns] at h; cases h)
      refine ⟨_, _, P1006 _ ?_, hrun, hended, _, _, rfl, ?_, ⟨_, rfl⟩, hW, hsame.mono (by decide) (by decide)⟩
      · jvm_step X1005.here [X1005.here.top, hx, (hb hby d1_16), X1005.method', Bd.returns, Value.isRef, FieldType.isReference]
        first | (intro acts; rw [hr _ acts rfl rfl rfl]) | rw [hr _ _ rfl rfl rfl]
        exact Steps.refl _
      · show Q_pick Z u1 c0 c1 c2 c3 c4 c5 h0 n0 _ T1005.heap _
        rw [e1005]
        exact ⟨_, rfl, N0, rfl⟩
    · have P1007 : ∀ t, Steps p.tables e below (s₁.setTop (mkF m 19 #[.val (.int u1)] [(.int (2 : Int32)), (.int u1)])) t → Steps p.tables e below (s₁.setTop (entryFrame m #[(.int u1)] 1)) t := fun t k => P1004 t (by
        refine XS.icmpYes X0.here hx rfl (pc0 := 10) (pc' := 17) rfl (hb hby d1_10) rfl (feq hp1).2 (by decide) (by decide) ?_
        show Steps p.tables e below (s₁.setTop (mkF m 17 #[.val (.int u1)] [])) _
        refine XS.iloadN X0.here hx rfl (hb hby d1_17) rfl ?_
        show Steps p.tables e below (s₁.setTop (mkF m 18 #[.val (.int u1)] [(.int u1)])) _
        refine XS.iconst X0.here hx rfl (hb hby d1_18) ?_
        show Steps p.tables e below (s₁.setTop (mkF m 19 #[.val (.int u1)] [(.int (2 : Int32)), (.int u1)])) _
        exact k)
      by_cases hp2 : u1 = (2 : Int32)
      · obtain ⟨T1008, X1008, e1008, st1008⟩ := getS2 X0 hx hZ hown (host := "") (Or.inl (hw _ (List.mem_of_getElem? (i := 141) rfl))) Via.refl e0 (S2.ext O1.2) (g := (mkF m 22 #[.val (.int u1)] [])) rfl (hb hby d1_22)
        have P1009 : ∀ t, Steps p.tables e below (T1008.setTop (mkF m 25 #[.val (.int u1)] [(.ref c2)])) t → Steps p.tables e below (s₁.setTop (entryFrame m #[(.int u1)] 1)) t := fun t k => P1007 t (by
          refine XS.icmpNo X0.here hx rfl (hb hby d1_19) rfl (teq hp2).2 ?_
          show Steps p.tables e below (s₁.setTop (mkF m 22 #[.val (.int u1)] [])) _
          refine st1008 _ ?_
          show Steps p.tables e below (T1008.setTop (mkF m 25 #[.val (.int u1)] [(.ref c2)])) _
          exact k)
        obtain ⟨fs, hr, hrun, hended, hW, hsame⟩ := X1008.leave (v := some (.ref c2)) (fun h => by rw [Bd.returns] at h; cases h)
        refine ⟨_, _, P1009 _ ?_, hrun, hended, _, _, rfl, ?_, ⟨_, rfl⟩, hW, hsame.mono (by decide) (by decide)⟩
        · jvm_step X1008.here [X1008.here.top, hx, (hb hby d1_25), X1008.method', Bd.returns, Value.isRef, FieldType.isReference]
          first | (intro acts; rw [hr _ acts rfl rfl rfl]) | rw [hr _ _ rfl rfl rfl]
          exact Steps.refl _
        · show Q_pick Z u1 c0 c1 c2 c3 c4 c5 h0 n0 _ T1008.heap _
          rw [e1008]
          exact ⟨_, rfl, N0, rfl⟩
      · have P1010 : ∀ t, Steps p.tables e below (s₁.setTop (mkF m 28 #[.val (.int u1)] [(.int (3 : Int32)), (.int u1)])) t → Steps p.tables e below (s₁.setTop (entryFrame m #[(.int u1)] 1)) t := fun t k => P1007 t (by
          refine XS.icmpYes X0.here hx rfl (pc0 := 19) (pc' := 26) rfl (hb hby d1_19) rfl (feq hp2).2 (by decide) (by decide) ?_
          show Steps p.tables e below (s₁.setTop (mkF m 26 #[.val (.int u1)] [])) _
          refine XS.iloadN X0.here hx rfl (hb hby d1_26) rfl ?_
          show Steps p.tables e below (s₁.setTop (mkF m 27 #[.val (.int u1)] [(.int u1)])) _
          refine XS.iconst X0.here hx rfl (hb hby d1_27) ?_
          show Steps p.tables e below (s₁.setTop (mkF m 28 #[.val (.int u1)] [(.int (3 : Int32)), (.int u1)])) _
          exact k)
        by_cases hp3 : u1 = (3 : Int32)
        · obtain ⟨T1011, X1011, e1011, st1011⟩ := getS2 X0 hx hZ hown (host := "") (Or.inl (hw _ (List.mem_of_getElem? (i := 143) rfl))) Via.refl e0 (S3.ext O1.2) (g := (mkF m 31 #[.val (.int u1)] [])) rfl (hb hby d1_31)
          have P1012 : ∀ t, Steps p.tables e below (T1011.setTop (mkF m 34 #[.val (.int u1)] [(.ref c3)])) t → Steps p.tables e below (s₁.setTop (entryFrame m #[(.int u1)] 1)) t := fun t k => P1010 t (by
            refine XS.icmpNo X0.here hx rfl (hb hby d1_28) rfl (teq hp3).2 ?_
            show Steps p.tables e below (s₁.setTop (mkF m 31 #[.val (.int u1)] [])) _
            refine st1011 _ ?_
            show Steps p.tables e below (T1011.setTop (mkF m 34 #[.val (.int u1)] [(.ref c3)])) _
            exact k)
          obtain ⟨fs, hr, hrun, hended, hW, hsame⟩ := X1011.leave (v := some (.ref c3)) (fun h => by rw [Bd.returns] at h; cases h)
          refine ⟨_, _, P1012 _ ?_, hrun, hended, _, _, rfl, ?_, ⟨_, rfl⟩, hW, hsame.mono (by decide) (by decide)⟩
          · jvm_step X1011.here [X1011.here.top, hx, (hb hby d1_34), X1011.method', Bd.returns, Value.isRef, FieldType.isReference]
            first | (intro acts; rw [hr _ acts rfl rfl rfl]) | rw [hr _ _ rfl rfl rfl]
            exact Steps.refl _
          · show Q_pick Z u1 c0 c1 c2 c3 c4 c5 h0 n0 _ T1011.heap _
            rw [e1011]
            exact ⟨_, rfl, N0, rfl⟩
        · have P1013 : ∀ t, Steps p.tables e below (s₁.setTop (mkF m 37 #[.val (.int u1)] [(.int (4 : Int32)), (.int u1)])) t → Steps p.tables e below (s₁.setTop (entryFrame m #[(.int u1)] 1)) t := fun t k => P1010 t (by
            refine XS.icmpYes X0.here hx rfl (pc0 := 28) (pc' := 35) rfl (hb hby d1_28) rfl (feq hp3).2 (by decide) (by decide) ?_
            show Steps p.tables e below (s₁.setTop (mkF m 35 #[.val (.int u1)] [])) _
            refine XS.iloadN X0.here hx rfl (hb hby d1_35) rfl ?_
            show Steps p.tables e below (s₁.setTop (mkF m 36 #[.val (.int u1)] [(.int u1)])) _
            refine XS.iconst X0.here hx rfl (hb hby d1_36) ?_
            show Steps p.tables e below (s₁.setTop (mkF m 37 #[.val (.int u1)] [(.int (4 : Int32)), (.int u1)])) _
            exact k)
          by_cases hp4 : u1 = (4 : Int32)
          · obtain ⟨T1014, X1014, e1014, st1014⟩ := getS2 X0 hx hZ hown (host := "") (Or.inl (hw _ (List.mem_of_getElem? (i := 145) rfl))) Via.refl e0 (S4.ext O1.2) (g := (mkF m 40 #[.val (.int u1)] [])) rfl (hb hby d1_40)
            have P1015 : ∀ t, Steps p.tables e below (T1014.setTop (mkF m 43 #[.val (.int u1)] [(.ref c4)])) t → Steps p.tables e below (s₁.setTop (entryFrame m #[(.int u1)] 1)) t := fun t k => P1013 t (by
              refine XS.icmpNo X0.here hx rfl (hb hby d1_37) rfl (teq hp4).2 ?_
              show Steps p.tables e below (s₁.setTop (mkF m 40 #[.val (.int u1)] [])) _
              refine st1014 _ ?_
              show Steps p.tables e below (T1014.setTop (mkF m 43 #[.val (.int u1)] [(.ref c4)])) _
              exact k)
            obtain ⟨fs, hr, hrun, hended, hW, hsame⟩ := X1014.leave (v := some (.ref c4)) (fun h => by rw [Bd.returns] at h; cases h)
            refine ⟨_, _, P1015 _ ?_, hrun, hended, _, _, rfl, ?_, ⟨_, rfl⟩, hW, hsame.mono (by decide) (by decide)⟩
            · jvm_step X1014.here [X1014.here.top, hx, (hb hby d1_43), X1014.method', Bd.returns, Value.isRef, FieldType.isReference]
              first | (intro acts; rw [hr _ acts rfl rfl rfl]) | rw [hr _ _ rfl rfl rfl]
              exact Steps.refl _
            · show Q_pick Z u1 c0 c1 c2 c3 c4 c5 h0 n0 _ T1014.heap _
              rw [e1014]
              exact ⟨_, rfl, N0, rfl⟩
          · obtain ⟨T1016, X1016, e1016, st1016⟩ := getS2 X0 hx hZ hown (host := "") (Or.inl (hw _ (List.mem_of_getElem? (i := 132) rfl))) Via.refl e0 (S5.ext O1.2) (g := (mkF m 44 #[.val (.int u1)] [])) rfl (hb hby d1_44)
            have P1017 : ∀ t, Steps p.tables e below (T1016.setTop (mkF m 47 #[.val (.int u1)] [(.ref c5)])) t → Steps p.tables e below (s₁.setTop (entryFrame m #[(.int u1)] 1)) t := fun t k => P1013 t (by
              refine XS.icmpYes X0.here hx rfl (pc0 := 37) (pc' := 44) rfl (hb hby d1_37) rfl (feq hp4).2 (by decide) (by decide) ?_
              show Steps p.tables e below (s₁.setTop (mkF m 44 #[.val (.int u1)] [])) _
              refine st1016 _ ?_
              show Steps p.tables e below (T1016.setTop (mkF m 47 #[.val (.int u1)] [(.ref c5)])) _
              exact k)
            obtain ⟨fs, hr, hrun, hended, hW, hsame⟩ := X1016.leave (v := some (.ref c5)) (fun h => by rw [Bd.returns] at h; cases h)
            refine ⟨_, _, P1017 _ ?_, hrun, hended, _, _, rfl, ?_, ⟨_, rfl⟩, hW, hsame.mono (by decide) (by decide)⟩
            · jvm_step X1016.here [X1016.here.top, hx, (hb hby d1_47), X1016.method', Bd.returns, Value.isRef, FieldType.isReference]
              first | (intro acts; rw [hr _ acts rfl rfl rfl]) | rw [hr _ _ rfl rfl rfl]
              exact Steps.refl _
            · show Q_pick Z u1 c0 c1 c2 c3 c4 c5 h0 n0 _ T1016.heap _
              rw [e1016]
              exact ⟨_, rfl, N0, rfl⟩
theorem ef_in1 (m : MethodId) (x0 : Addr) : entryFrame m #[(.ref x0)] 1 = mkF m 0 #[.val (.ref x0)] [] := by first | (simp [entryFrame, mkF, argsToLocals, Value.category]; done) | rfl
def Q_in1 (Z : State) (a1 : Addr) (h0 : Heap) (n0 : Nat) (v : Option Value) (h : Heap) (L : List Loc) : Prop := v = none ∧ Fr n0 L ∧ h = h0
theorem pn_1 : plainName "java/util/AbstractCollection" = true := by first | (simp [plainName, overriddenIn]; done) | decide +kernel
theorem d7_0 : decode jdk_22_method_1_code 0 = .ok (.aload_n 0, 1) := by decide +kernel
theorem d7_1 : decode jdk_22_method_1_code 1 = .ok (.invokespecial 1, 3) := by decide +kernel
theorem d7_4 : decode jdk_22_method_1_code 4 = .ok (.return_, 1) := by decide +kernel
set_option maxRecDepth 65536 in
set_option maxHeartbeats 40000000 in
theorem rm_in1 (l : Launch) (Z : State) (a0 : Array Value) (hw : ∀ d ∈ tables_1, d.before a0 Z = true) (ws : List Jvm.Cond) (a1 : Addr) (h0 : Heap) (n0 : Nat) (Z0 : n0 ≤ h0.size) :
    MetFree l (⟨"java/util/AbstractCollection", "<init>", "()V"⟩ : MethodName) (head1 (Jvm.Cond.code (⟨"java/util/AbstractCollection", "<init>", "()V"⟩ : MethodName) jdk_22_method_1_code 1 none :: ws) ({ frames := 1, cells := 0, slots := 0, locals := 12 } : Room)) (fun a U => a = #[(.ref a1)] ∧ Z.Warmed39 U.vm ∧ U.heap = h0) (fun _ _ _ _ _ => True) (fun _ U o U' => ∃ v L, o = .returned v ∧ Q_in1 Z a1 h0 n0 v U'.heap L ∧ FrameEnd U o U' L ({ frames := 1, cells := 0, slots := 0, locals := 12 } : Room).cells ({ frames := 1, cells := 0, slots := 0, locals := 12 } : Room).slots) := by
  refine MetFree.of_bodySF (plainFor_of_name pn_1) hisR ?_
  intro p e s m args below meth c s₁ Bd hml0 hP hK
  obtain ⟨rfl, hZ, hh⟩ := hP
  have hx := Bd.exec
  have hby := Bd.bytes
  have hml : c.maxLocals = 1 := hml0
  have hown : s.vm.findClass "java/util/AbstractCollection" = some m.cls := findClass_of_methodNamed Bd.named
  have hnm := (name_of_methodNamed Bd.named Bd.method).1
  have X0 : Stand p l e ({ frames := 1, cells := 0, slots := 0, locals := 12 } : Room) s m #[(.ref a1)] below meth c s₁ [] 0 0 := Stand.of_body Bd
  have e0 : s₁.heap = h0 := by rw [← hh, Bd.state]; rfl
  have N0 := Fr.nil n0
  have K0 : Keep h0 h0 [] := Keep.refl h0 []
  have P0 : ∀ t, Steps p.tables e below (s₁.setTop (mkF m 0 #[.val (.ref a1)] [])) t → Steps p.tables e below (s₁.setTop (entryFrame m #[(.ref a1)] 1)) t := fun t k => castTop (ef_in1 m a1) k
  obtain ⟨T1018, X1018, e1018, st1018⟩ := initO X0 hx hZ hown (hw _ (List.mem_of_getElem? (i := 43) rfl)) (hw _ (List.mem_of_getElem? (i := 44) rfl)) (hw _ (List.mem_of_getElem? (i := 45) rfl)) e0 (g := (mkF m 1 #[.val (.ref a1)] [(.ref a1)])) rfl (by rw [hml]; rfl) rfl (hb hby d7_1) (by decide) (W := 0) (by show 2 * 0 + _ ≤ _; exact Nat.le_of_eq rfl) (by decide)
  have P1019 : ∀ t, Steps p.tables e below (T1018.setTop (mkF m 4 #[.val (.ref a1)] [])) t → Steps p.tables e below (s₁.setTop (entryFrame m #[(.ref a1)] 1)) t := fun t k => P0 t (by
    refine XS.aloadN X0.here hx rfl (hb hby d7_0) rfl rfl ?_
    show Steps p.tables e below (s₁.setTop (mkF m 1 #[.val (.ref a1)] [(.ref a1)])) _
    refine st1018 _ ?_
    show Steps p.tables e below (T1018.setTop (mkF m 4 #[.val (.ref a1)] [])) _
    exact k)
  obtain ⟨fs, hr, hrun, hended, hW, hsame⟩ := X1018.leave (v := none) (fun _ => rfl)
  refine ⟨_, _, P1019 _ ?_, hrun, hended, _, _, rfl, ?_, ⟨_, rfl⟩, hW, hsame.mono (by decide) (by decide)⟩
  · exact X1018.returnOut hx Bd.returns (hb hby d7_4) hr
  · show Q_in1 Z a1 h0 n0 _ T1018.heap _
    rw [e1018]
    exact ⟨rfl, N0, rfl⟩
theorem ef_in2 (m : MethodId) (x0 : Addr) : entryFrame m #[(.ref x0)] 1 = mkF m 0 #[.val (.ref x0)] [] := by first | (simp [entryFrame, mkF, argsToLocals, Value.category]; done) | rfl
def Q_in2 (Z : State) (a1 : Addr) (h0 : Heap) (n0 : Nat) (v : Option Value) (h : Heap) (L : List Loc) : Prop := v = none ∧ Fr n0 L ∧ h = h0
theorem pn_2 : plainName "java/util/ImmutableCollections$AbstractImmutableCollection" = true := by first | (simp [plainName, overriddenIn]; done) | decide +kernel
theorem d6_0 : decode jdk_47_method_1_code 0 = .ok (.aload_n 0, 1) := by decide +kernel
theorem d6_1 : decode jdk_47_method_1_code 1 = .ok (.invokespecial 1, 3) := by decide +kernel
theorem pd_0 : parseMethodDescriptor "()V" = some ⟨[], none⟩ := by decide +kernel
theorem d6_4 : decode jdk_47_method_1_code 4 = .ok (.return_, 1) := by decide +kernel
set_option maxRecDepth 65536 in
set_option maxHeartbeats 40000000 in
theorem rm_in2 (l : Launch) (Z : State) (a0 : Array Value) (hw : ∀ d ∈ tables_1, d.before a0 Z = true) (ws : List Jvm.Cond) (a1 : Addr) (h0 : Heap) (n0 : Nat) (Z0 : n0 ≤ h0.size) :
    MetFree l (⟨"java/util/ImmutableCollections$AbstractImmutableCollection", "<init>", "()V"⟩ : MethodName) (head1 (Jvm.Cond.code (⟨"java/util/ImmutableCollections$AbstractImmutableCollection", "<init>", "()V"⟩ : MethodName) jdk_47_method_1_code 1 none :: ws) ({ frames := 2, cells := 0, slots := 0, locals := 24 } : Room)) (fun a U => a = #[(.ref a1)] ∧ Z.Warmed39 U.vm ∧ U.heap = h0) (fun _ _ _ _ _ => True) (fun _ U o U' => ∃ v L, o = .returned v ∧ Q_in2 Z a1 h0 n0 v U'.heap L ∧ FrameEnd U o U' L ({ frames := 2, cells := 0, slots := 0, locals := 24 } : Room).cells ({ frames := 2, cells := 0, slots := 0, locals := 24 } : Room).slots) := by
  refine MetFree.of_bodySF (plainFor_of_name pn_2) hisR ?_
  intro p e s m args below meth c s₁ Bd hml0 hP hK
  obtain ⟨rfl, hZ, hh⟩ := hP
  have hx := Bd.exec
  have hby := Bd.bytes
  have hml : c.maxLocals = 1 := hml0
  have hown : s.vm.findClass "java/util/ImmutableCollections$AbstractImmutableCollection" = some m.cls := findClass_of_methodNamed Bd.named
  have hnm := (name_of_methodNamed Bd.named Bd.method).1
  have X0 : Stand p l e ({ frames := 2, cells := 0, slots := 0, locals := 24 } : Room) s m #[(.ref a1)] below meth c s₁ [] 0 0 := Stand.of_body Bd
  have e0 : s₁.heap = h0 := by rw [← hh, Bd.state]; rfl
  have N0 := Fr.nil n0
  have K0 : Keep h0 h0 [] := Keep.refl h0 []
  have P0 : ∀ t, Steps p.tables e below (s₁.setTop (mkF m 0 #[.val (.ref a1)] [])) t → Steps p.tables e below (s₁.setTop (entryFrame m #[(.ref a1)] 1)) t := fun t k => castTop (ef_in2 m a1) k
  obtain ⟨_, _, ⟨T1020, L1020, k1020, n1020⟩, -, X1020, ⟨Lc1020, hQ1020, l1020, y1020, z1020⟩, st1020⟩ := X0.specialBack hx (y := (⟨"java/util/AbstractCollection", "<init>", "()V"⟩ : MethodName)) rfl hown (mvT hZ (hw _ (List.mem_of_getElem? (i := 37) rfl))) (mvT hZ (hw _ (List.mem_of_getElem? (i := 38) rfl))) (mvT hZ (hw _ (List.mem_of_getElem? (i := 42) rfl))) (by decide) (backOf (W := 0) (rm_in1 l Z a0 hw [] a1 h0 n0 Z0 ) hZ (hw _ (List.mem_of_getElem? (i := 42) rfl)) (hw _ (List.mem_of_getElem? (i := 41) rfl)) (by decide) (by decide)) (g := (mkF m 1 #[.val (.ref a1)] [(.ref a1)])) rfl (by rw [hml]; rfl) (Steps.refl _) (a := a1) (argsL := []) (rest := []) (lenOf pd_0 rfl) rfl (by show 2 * 0 + _ ≤ _; exact Nat.le_of_eq rfl) (hb hby d6_1) (fun _ _ => ⟨rfl, e0, (by decide : 0 + 0 ≤ _), (by decide : 0 + 0 ≤ _)⟩)
  dsimp only [Pt.U, Pt.locs, Pt.cells, Pt.slots] at X1020 l1020 y1020 z1020 st1020 hQ1020
  subst l1020 y1020 z1020
  obtain ⟨rfl, N1020q, e1⟩ := hQ1020
  have N1020 := Fr.app N0 N1020q
  have P1021 : ∀ t, Steps p.tables e below (T1020.setTop (mkF m 4 #[.val (.ref a1)] [])) t → Steps p.tables e below (s₁.setTop (entryFrame m #[(.ref a1)] 1)) t := fun t k => P0 t (by
    refine XS.aloadN X0.here hx rfl (hb hby d6_0) rfl rfl ?_
    show Steps p.tables e below (s₁.setTop (mkF m 1 #[.val (.ref a1)] [(.ref a1)])) _
    refine st1020.trans ?_
    show Steps p.tables e below (T1020.setTop (mkF m 4 #[.val (.ref a1)] [])) _
    exact k)
  obtain ⟨fs, hr, hrun, hended, hW, hsame⟩ := X1020.leave (v := none) (fun _ => rfl)
  refine ⟨_, _, P1021 _ ?_, hrun, hended, _, _, rfl, ?_, ⟨_, rfl⟩, hW, hsame.mono (by decide) (by decide)⟩
  · exact X1020.returnOut hx Bd.returns (hb hby d6_4) hr
  · show Q_in2 Z a1 h0 n0 _ T1020.heap _
    rw [e1]
    exact ⟨rfl, N1020, rfl⟩
theorem ef_in3 (m : MethodId) (x0 : Addr) : entryFrame m #[(.ref x0)] 1 = mkF m 0 #[.val (.ref x0)] [] := by first | (simp [entryFrame, mkF, argsToLocals, Value.category]; done) | rfl
def Q_in3 (Z : State) (a1 : Addr) (h0 : Heap) (n0 : Nat) (v : Option Value) (h : Heap) (L : List Loc) : Prop := v = none ∧ Fr n0 L ∧ h = h0
theorem pn_3 : plainName "java/util/ImmutableCollections$AbstractImmutableList" = true := by first | (simp [plainName, overriddenIn]; done) | decide +kernel
theorem d5_0 : decode jdk_46_method_1_code 0 = .ok (.aload_n 0, 1) := by decide +kernel
theorem d5_1 : decode jdk_46_method_1_code 1 = .ok (.invokespecial 1, 3) := by decide +kernel
theorem d5_4 : decode jdk_46_method_1_code 4 = .ok (.return_, 1) := by decide +kernel
set_option maxRecDepth 65536 in
set_option maxHeartbeats 40000000 in
theorem rm_in3 (l : Launch) (Z : State) (a0 : Array Value) (hw : ∀ d ∈ tables_1, d.before a0 Z = true) (ws : List Jvm.Cond) (a1 : Addr) (h0 : Heap) (n0 : Nat) (Z0 : n0 ≤ h0.size) :
    MetFree l (⟨"java/util/ImmutableCollections$AbstractImmutableList", "<init>", "()V"⟩ : MethodName) (head1 (Jvm.Cond.code (⟨"java/util/ImmutableCollections$AbstractImmutableList", "<init>", "()V"⟩ : MethodName) jdk_46_method_1_code 1 none :: ws) ({ frames := 3, cells := 0, slots := 0, locals := 36 } : Room)) (fun a U => a = #[(.ref a1)] ∧ Z.Warmed39 U.vm ∧ U.heap = h0) (fun _ _ _ _ _ => True) (fun _ U o U' => ∃ v L, o = .returned v ∧ Q_in3 Z a1 h0 n0 v U'.heap L ∧ FrameEnd U o U' L ({ frames := 3, cells := 0, slots := 0, locals := 36 } : Room).cells ({ frames := 3, cells := 0, slots := 0, locals := 36 } : Room).slots) := by
  refine MetFree.of_bodySF (plainFor_of_name pn_3) hisR ?_
  intro p e s m args below meth c s₁ Bd hml0 hP hK
  obtain ⟨rfl, hZ, hh⟩ := hP
  have hx := Bd.exec
  have hby := Bd.bytes
  have hml : c.maxLocals = 1 := hml0
  have hown : s.vm.findClass "java/util/ImmutableCollections$AbstractImmutableList" = some m.cls := findClass_of_methodNamed Bd.named
  have hnm := (name_of_methodNamed Bd.named Bd.method).1
  have X0 : Stand p l e ({ frames := 3, cells := 0, slots := 0, locals := 36 } : Room) s m #[(.ref a1)] below meth c s₁ [] 0 0 := Stand.of_body Bd
  have e0 : s₁.heap = h0 := by rw [← hh, Bd.state]; rfl
  have N0 := Fr.nil n0
  have K0 : Keep h0 h0 [] := Keep.refl h0 []
  have P0 : ∀ t, Steps p.tables e below (s₁.setTop (mkF m 0 #[.val (.ref a1)] [])) t → Steps p.tables e below (s₁.setTop (entryFrame m #[(.ref a1)] 1)) t := fun t k => castTop (ef_in3 m a1) k
  obtain ⟨_, _, ⟨T1022, L1022, k1022, n1022⟩, -, X1022, ⟨Lc1022, hQ1022, l1022, y1022, z1022⟩, st1022⟩ := X0.specialBack hx (y := (⟨"java/util/ImmutableCollections$AbstractImmutableCollection", "<init>", "()V"⟩ : MethodName)) rfl hown (mvT hZ (hw _ (List.mem_of_getElem? (i := 31) rfl))) (mvT hZ (hw _ (List.mem_of_getElem? (i := 32) rfl))) (mvT hZ (hw _ (List.mem_of_getElem? (i := 36) rfl))) (by decide) (backOf (W := 0) (rm_in2 l Z a0 hw [] a1 h0 n0 Z0 ) hZ (hw _ (List.mem_of_getElem? (i := 36) rfl)) (hw _ (List.mem_of_getElem? (i := 35) rfl)) (by decide) (by decide)) (g := (mkF m 1 #[.val (.ref a1)] [(.ref a1)])) rfl (by rw [hml]; rfl) (Steps.refl _) (a := a1) (argsL := []) (rest := []) (lenOf pd_0 rfl) rfl (by show 2 * 0 + _ ≤ _; exact Nat.le_of_eq rfl) (hb hby d5_1) (fun _ _ => ⟨rfl, e0, (by decide : 0 + 0 ≤ _), (by decide : 0 + 0 ≤ _)⟩)
  dsimp only [Pt.U, Pt.locs, Pt.cells, Pt.slots] at X1022 l1022 y1022 z1022 st1022 hQ1022
  subst l1022 y1022 z1022
  obtain ⟨rfl, N1022q, e1⟩ := hQ1022
  have N1022 := Fr.app N0 N1022q
  have P1023 : ∀ t, Steps p.tables e below (T1022.setTop (mkF m 4 #[.val (.ref a1)] [])) t → Steps p.tables e below (s₁.setTop (entryFrame m #[(.ref a1)] 1)) t := fun t k => P0 t (by
    refine XS.aloadN X0.here hx rfl (hb hby d5_0) rfl rfl ?_
    show Steps p.tables e below (s₁.setTop (mkF m 1 #[.val (.ref a1)] [(.ref a1)])) _
    refine st1022.trans ?_
    show Steps p.tables e below (T1022.setTop (mkF m 4 #[.val (.ref a1)] [])) _
    exact k)
  obtain ⟨fs, hr, hrun, hended, hW, hsame⟩ := X1022.leave (v := none) (fun _ => rfl)
  refine ⟨_, _, P1023 _ ?_, hrun, hended, _, _, rfl, ?_, ⟨_, rfl⟩, hW, hsame.mono (by decide) (by decide)⟩
  · exact X1022.returnOut hx Bd.returns (hb hby d5_4) hr
  · show Q_in3 Z a1 h0 n0 _ T1022.heap _
    rw [e1]
    exact ⟨rfl, N1022, rfl⟩
theorem ef_rnn (m : MethodId) (x0 : Addr) : entryFrame m #[(.ref x0)] 1 = mkF m 0 #[.val (.ref x0)] [] := by first | (simp [entryFrame, mkF, argsToLocals, Value.category]; done) | rfl
def Q_rnn (Z : State) (a1 : Addr) (h0 : Heap) (n0 : Nat) (v : Option Value) (h : Heap) (L : List Loc) : Prop := v = some (.ref a1) ∧ Fr n0 L ∧ h = h0
theorem pn_4 : plainName "java/util/Objects" = true := by first | (simp [plainName, overriddenIn]; done) | decide +kernel
theorem d9_0 : decode jdk_31_method_10_code 0 = .ok (.aload_n 0, 1) := by decide +kernel
theorem d9_1 : decode jdk_31_method_10_code 1 = .ok (.ifnonnull 11, 3) := by decide +kernel
theorem d9_12 : decode jdk_31_method_10_code 12 = .ok (.aload_n 0, 1) := by decide +kernel
theorem d9_13 : decode jdk_31_method_10_code 13 = .ok (.areturn, 1) := by decide +kernel
set_option maxRecDepth 65536 in
set_option maxHeartbeats 40000000 in
theorem rm_rnn (l : Launch) (Z : State) (a0 : Array Value) (hw : ∀ d ∈ tables_1, d.before a0 Z = true) (ws : List Jvm.Cond) (a1 : Addr) (h0 : Heap) (n0 : Nat) (Z0 : n0 ≤ h0.size) :
    MetFree l (⟨"java/util/Objects", "requireNonNull", "(Ljava/lang/Object;)Ljava/lang/Object;"⟩ : MethodName) (head1 (Jvm.Cond.code (⟨"java/util/Objects", "requireNonNull", "(Ljava/lang/Object;)Ljava/lang/Object;"⟩ : MethodName) jdk_31_method_10_code 1 (some (.object "java/lang/Object")) :: ws) ({ frames := 0, cells := 0, slots := 0, locals := 0 } : Room)) (fun a U => a = #[(.ref a1)] ∧ Z.Warmed39 U.vm ∧ U.heap = h0) (fun _ _ _ _ _ => True) (fun _ U o U' => ∃ v L, o = .returned v ∧ Q_rnn Z a1 h0 n0 v U'.heap L ∧ FrameEnd U o U' L ({ frames := 0, cells := 0, slots := 0, locals := 0 } : Room).cells ({ frames := 0, cells := 0, slots := 0, locals := 0 } : Room).slots) := by
  refine MetFree.of_bodySF (plainFor_of_name pn_4) hisR ?_
  intro p e s m args below meth c s₁ Bd hml0 hP hK
  obtain ⟨rfl, hZ, hh⟩ := hP
  have hx := Bd.exec
  have hby := Bd.bytes
  have hml : c.maxLocals = 1 := hml0
  have hown : s.vm.findClass "java/util/Objects" = some m.cls := findClass_of_methodNamed Bd.named
  have hnm := (name_of_methodNamed Bd.named Bd.method).1
  have X0 : Stand p l e ({ frames := 0, cells := 0, slots := 0, locals := 0 } : Room) s m #[(.ref a1)] below meth c s₁ [] 0 0 := Stand.of_body Bd
  have e0 : s₁.heap = h0 := by rw [← hh, Bd.state]; rfl
  have N0 := Fr.nil n0
  have K0 : Keep h0 h0 [] := Keep.refl h0 []
  have P0 : ∀ t, Steps p.tables e below (s₁.setTop (mkF m 0 #[.val (.ref a1)] [])) t → Steps p.tables e below (s₁.setTop (entryFrame m #[(.ref a1)] 1)) t := fun t k => castTop (ef_rnn m a1) k
  have P1024 : ∀ t, Steps p.tables e below (s₁.setTop (mkF m 13 #[.val (.ref a1)] [(.ref a1)])) t → Steps p.tables e below (s₁.setTop (entryFrame m #[(.ref a1)] 1)) t := fun t k => P0 t (by
    refine XS.aloadN X0.here hx rfl (hb hby d9_0) rfl rfl ?_
    show Steps p.tables e below (s₁.setTop (mkF m 1 #[.val (.ref a1)] [(.ref a1)])) _
    refine XS.ifnonnullYes X0.here hx rfl (pc0 := 1) (pc' := 12) rfl (hb hby d9_1) rfl (by decide) (by decide) ?_
    show Steps p.tables e below (s₁.setTop (mkF m 12 #[.val (.ref a1)] [])) _
    refine XS.aloadN X0.here hx rfl (hb hby d9_12) rfl rfl ?_
    show Steps p.tables e below (s₁.setTop (mkF m 13 #[.val (.ref a1)] [(.ref a1)])) _
    exact k)
  obtain ⟨fs, hr, hrun, hended, hW, hsame⟩ := X0.leave (v := some (.ref a1)) (fun h => by rw [Bd.returns] at h; cases h)
  refine ⟨_, _, P1024 _ ?_, hrun, hended, _, _, rfl, ?_, ⟨_, rfl⟩, hW, hsame.mono (by decide) (by decide)⟩
  · jvm_step X0.here [X0.here.top, hx, (hb hby d9_13), X0.method', Bd.returns, Value.isRef, FieldType.isReference]
    first | (intro acts; rw [hr _ acts rfl rfl rfl]) | rw [hr _ _ rfl rfl rfl]
    exact Steps.refl _
  · show Q_rnn Z a1 h0 n0 _ s₁.heap _
    rw [e0]
    exact ⟨rfl, N0, rfl⟩
theorem ef_linit (m : MethodId) (x0 : Addr) (x1 : Addr) : entryFrame m #[(.ref x0), (.ref x1)] 2 = mkF m 0 #[.val (.ref x0), .val (.ref x1)] [] := by first | (simp [entryFrame, mkF, argsToLocals, Value.category]; done) | rfl
def Q_linit (Z : State) (a1 : Addr) (a2 : Addr) (em : Addr) (h0 : Heap) (n0 : Nat) (v : Option Value) (h : Heap) (L : List Loc) : Prop := v = none ∧ Fr n0 L ∧ Keep h0 h [a1] ∧ Exa Z h a1 "java/util/ImmutableCollections$List12" ∧ Fld Z h a1 "java/util/ImmutableCollections$List12" "e0" "Ljava/lang/Object;" (.ref a2) ∧ Fld Z h a1 "java/util/ImmutableCollections$List12" "e1" "Ljava/lang/Object;" (.ref em)
theorem pn_5 : plainName "java/util/ImmutableCollections$List12" = true := by first | (simp [plainName, overriddenIn]; done) | decide +kernel
theorem d4_0 : decode jdk_44_method_1_code 0 = .ok (.aload_n 0, 1) := by decide +kernel
theorem d4_1 : decode jdk_44_method_1_code 1 = .ok (.invokespecial 1, 3) := by decide +kernel
theorem d4_4 : decode jdk_44_method_1_code 4 = .ok (.aload_n 0, 1) := by decide +kernel
theorem d4_5 : decode jdk_44_method_1_code 5 = .ok (.aload_n 1, 1) := by decide +kernel
theorem d4_6 : decode jdk_44_method_1_code 6 = .ok (.invokestatic 7, 3) := by decide +kernel
theorem pd_1 : parseMethodDescriptor "(Ljava/lang/Object;)Ljava/lang/Object;" = some ⟨[(.object "java/lang/Object")], some (.object "java/lang/Object")⟩ := by decide +kernel
theorem d4_9 : decode jdk_44_method_1_code 9 = .ok (.putfield 13, 3) := by decide +kernel
theorem d4_12 : decode jdk_44_method_1_code 12 = .ok (.aload_n 0, 1) := by decide +kernel
theorem d4_13 : decode jdk_44_method_1_code 13 = .ok (.getstatic 19, 3) := by decide +kernel
theorem d4_16 : decode jdk_44_method_1_code 16 = .ok (.putfield 24, 3) := by decide +kernel
theorem d4_19 : decode jdk_44_method_1_code 19 = .ok (.return_, 1) := by decide +kernel
set_option maxRecDepth 65536 in
set_option maxHeartbeats 40000000 in
theorem rm_linit (l : Launch) (Z : State) (a0 : Array Value) (hw : ∀ d ∈ tables_1, d.before a0 Z = true) (ws : List Jvm.Cond) (a1 : Addr) (a2 : Addr) (em : Addr) (h0 : Heap) (n0 : Nat) (Z0 : n0 ≤ h0.size) (E1 : Exa Z h0 a1 "java/util/ImmutableCollections$List12") (F1 : Fld Z h0 a1 "java/util/ImmutableCollections$List12" "e0" "Ljava/lang/Object;" .null) (F2 : Fld Z h0 a1 "java/util/ImmutableCollections$List12" "e1" "Ljava/lang/Object;" .null) (g1 : n0 ≤ a1) (SE : Sta Z Z.heap "java/util/ImmutableCollections" "EMPTY" "Ljava/lang/Object;" (.ref em)) (O1 : Old Z n0 h0) :
    MetFree l (⟨"java/util/ImmutableCollections$List12", "<init>", "(Ljava/lang/Object;)V"⟩ : MethodName) (head1 (Jvm.Cond.code (⟨"java/util/ImmutableCollections$List12", "<init>", "(Ljava/lang/Object;)V"⟩ : MethodName) jdk_44_method_1_code 2 none :: ws) ({ frames := 4, cells := 0, slots := 0, locals := 48 } : Room)) (fun a U => a = #[(.ref a1), (.ref a2)] ∧ Z.Warmed39 U.vm ∧ U.heap = h0) (fun _ _ _ _ _ => True) (fun _ U o U' => ∃ v L, o = .returned v ∧ Q_linit Z a1 a2 em h0 n0 v U'.heap L ∧ FrameEnd U o U' L ({ frames := 4, cells := 0, slots := 0, locals := 48 } : Room).cells ({ frames := 4, cells := 0, slots := 0, locals := 48 } : Room).slots) := by
  refine MetFree.of_bodySF (plainFor_of_name pn_5) hisR ?_
  intro p e s m args below meth c s₁ Bd hml0 hP hK
  obtain ⟨rfl, hZ, hh⟩ := hP
  have hx := Bd.exec
  have hby := Bd.bytes
  have hml : c.maxLocals = 2 := hml0
  have hown : s.vm.findClass "java/util/ImmutableCollections$List12" = some m.cls := findClass_of_methodNamed Bd.named
  have hnm := (name_of_methodNamed Bd.named Bd.method).1
  have X0 : Stand p l e ({ frames := 4, cells := 0, slots := 0, locals := 48 } : Room) s m #[(.ref a1), (.ref a2)] below meth c s₁ [] 0 0 := Stand.of_body Bd
  have e0 : s₁.heap = h0 := by rw [← hh, Bd.state]; rfl
  have N0 := Fr.nil n0
  have K0 : Keep h0 h0 [a1] := Keep.refl h0 [a1]
  have P0 : ∀ t, Steps p.tables e below (s₁.setTop (mkF m 0 #[.val (.ref a1), .val (.ref a2)] [])) t → Steps p.tables e below (s₁.setTop (entryFrame m #[(.ref a1), (.ref a2)] 2)) t := fun t k => castTop (ef_linit m a1 a2) k
  obtain ⟨_, _, ⟨T1025, L1025, k1025, n1025⟩, -, X1025, ⟨Lc1025, hQ1025, l1025, y1025, z1025⟩, st1025⟩ := X0.specialBack hx (y := (⟨"java/util/ImmutableCollections$AbstractImmutableList", "<init>", "()V"⟩ : MethodName)) rfl hown (mvT hZ (hw _ (List.mem_of_getElem? (i := 25) rfl))) (mvT hZ (hw _ (List.mem_of_getElem? (i := 26) rfl))) (mvT hZ (hw _ (List.mem_of_getElem? (i := 30) rfl))) (by decide) (backOf (W := 0) (rm_in3 l Z a0 hw [] a1 h0 n0 Z0 ) hZ (hw _ (List.mem_of_getElem? (i := 30) rfl)) (hw _ (List.mem_of_getElem? (i := 29) rfl)) (by decide) (by decide)) (g := (mkF m 1 #[.val (.ref a1), .val (.ref a2)] [(.ref a1)])) rfl (by rw [hml]; rfl) (Steps.refl _) (a := a1) (argsL := []) (rest := []) (lenOf pd_0 rfl) rfl (by show 2 * 0 + _ ≤ _; exact Nat.le_of_eq rfl) (hb hby d4_1) (fun _ _ => ⟨rfl, e0, (by decide : 0 + 0 ≤ _), (by decide : 0 + 0 ≤ _)⟩)
  dsimp only [Pt.U, Pt.locs, Pt.cells, Pt.slots] at X1025 l1025 y1025 z1025 st1025 hQ1025
  subst l1025 y1025 z1025
  obtain ⟨rfl, N1025q, e1⟩ := hQ1025
  have N1025 := Fr.app N0 N1025q
  obtain ⟨_, _, ⟨T1026, L1026, k1026, n1026⟩, -, X1026, ⟨Lc1026, hQ1026, l1026, y1026, z1026⟩, st1026⟩ := Jvm.LawKit.callS X1025 hx (y := (⟨"java/util/Objects", "requireNonNull", "(Ljava/lang/Object;)Ljava/lang/Object;"⟩ : MethodName)) hown (mvT hZ (hw _ (List.mem_of_getElem? (i := 46) rfl))) (mvT hZ (hw _ (List.mem_of_getElem? (i := 47) rfl))) (mvT hZ (hw _ (List.mem_of_getElem? (i := 48) rfl))) (mvT hZ (hw _ (List.mem_of_getElem? (i := 49) rfl))) (by decide) (backOf (W := 1) (rm_rnn l Z a0 hw [] a2 h0 n0 Z0 ) hZ (hw _ (List.mem_of_getElem? (i := 49) rfl)) (hw _ (List.mem_of_getElem? (i := 48) rfl)) (by decide) (by decide)) (g := (mkF m 6 #[.val (.ref a1), .val (.ref a2)] [(.ref a2), (.ref a1)])) rfl (by rw [hml]; rfl) (argsL := [(.ref a2)]) (rest := [(.ref a1)]) (lenOf pd_1 rfl) rfl (by show 2 * 0 + _ ≤ _; exact Nat.le_of_eq rfl) (hb hby d4_6) (fun _ _ => ⟨rfl, e1, (by decide : 0 + 0 ≤ _), (by decide : 0 + 0 ≤ _)⟩)
  dsimp only [Pt.U, Pt.locs, Pt.cells, Pt.slots] at X1026 l1026 y1026 z1026 st1026 hQ1026
  subst l1026 y1026 z1026
  obtain ⟨rfl, N1026q, e6⟩ := hQ1026
  have N1026 := Fr.app N1025 N1026q
  obtain ⟨T1027, h1027, X1027, e1027, W1027, st1027⟩ := putF X1026 hx hZ hown (host := "") (Or.inl (hw _ (List.mem_of_getElem? (i := 50) rfl))) Via.refl e6 F1 E1 (Or.inr ⟨(hw _ (List.mem_of_getElem? (i := 51) rfl)), rfl, hnm⟩) (hw _ (List.mem_of_getElem? (i := 19) rfl)) (ty := (.object "java/lang/Object")) (by decide) rfl rfl (g := (mkF m 9 #[.val (.ref a1), .val (.ref a2)] [(.ref a2), (.ref a1)])) rfl rfl (hb hby d4_9)
  have Fw1027 := F1.same W1027
  have c1028_0 := E1.wr W1027
  have c1028_2 := F2.other W1027 (Or.inr (slot_ne (Or.inr (hw _ (List.mem_of_getElem? (i := 55) rfl))) (Or.inr (hw _ (List.mem_of_getElem? (i := 51) rfl))) (by decide) (t := (.object "java/lang/Object")) (t' := (.object "java/lang/Object")) (by decide) (by decide)))
  have c1028_3 := O1.wr W1027 g1
  have Z1027 : n0 ≤ h1027.size := Nat.le_trans Z0 (Nat.le_of_eq W1027.size.symm)
  have K1027 : Keep h0 h1027 [a1] := K0.wr W1027 (Or.inl (List.mem_of_getElem? (i := 0) rfl))
  have N1027 := Fr.snoc X1027 N1026 g1
  obtain ⟨T1029, X1029, e1029, st1029⟩ := getS2 X1027 hx hZ hown (Or.inr (hw _ (List.mem_of_getElem? (i := 52) rfl))) Via.refl e1027 (SE.ext c1028_3.2) (g := (mkF m 13 #[.val (.ref a1), .val (.ref a2)] [(.ref a1)])) rfl (hb hby d4_13)
  obtain ⟨T1030, h1030, X1030, e1030, W1030, st1030⟩ := putF X1029 hx hZ hown (host := "") (Or.inl (hw _ (List.mem_of_getElem? (i := 54) rfl))) Via.refl e1029 c1028_2 c1028_0 (Or.inr ⟨(hw _ (List.mem_of_getElem? (i := 55) rfl)), rfl, hnm⟩) (hw _ (List.mem_of_getElem? (i := 19) rfl)) (ty := (.object "java/lang/Object")) (by decide) rfl rfl (g := (mkF m 16 #[.val (.ref a1), .val (.ref a2)] [(.ref em), (.ref a1)])) rfl rfl (hb hby d4_16)
  have Fw1030 := c1028_2.same W1030
  have c1031_0 := c1028_0.wr W1030
  have c1031_1 := Fw1027.other W1030 (Or.inr (slot_ne (Or.inr (hw _ (List.mem_of_getElem? (i := 51) rfl))) (Or.inr (hw _ (List.mem_of_getElem? (i := 55) rfl))) (by decide) (t := (.object "java/lang/Object")) (t' := (.object "java/lang/Object")) (by decide) (by decide)))
  have c1031_3 := c1028_3.wr W1030 g1
  have Z1030 : n0 ≤ h1030.size := Nat.le_trans Z1027 (Nat.le_of_eq W1030.size.symm)
  have K1030 : Keep h0 h1030 [a1] := K1027.wr W1030 (Or.inl (List.mem_of_getElem? (i := 0) rfl))
  have N1030 := Fr.snoc X1030 N1027 g1
  have P1032 : ∀ t, Steps p.tables e below (T1030.setTop (mkF m 19 #[.val (.ref a1), .val (.ref a2)] [])) t → Steps p.tables e below (s₁.setTop (entryFrame m #[(.ref a1), (.ref a2)] 2)) t := fun t k => P0 t (by
    refine XS.aloadN X0.here hx rfl (hb hby d4_0) rfl rfl ?_
    show Steps p.tables e below (s₁.setTop (mkF m 1 #[.val (.ref a1), .val (.ref a2)] [(.ref a1)])) _
    refine st1025.trans ?_
    show Steps p.tables e below (T1025.setTop (mkF m 4 #[.val (.ref a1), .val (.ref a2)] [])) _
    refine XS.aloadN X1025.here hx rfl (hb hby d4_4) rfl rfl ?_
    show Steps p.tables e below (T1025.setTop (mkF m 5 #[.val (.ref a1), .val (.ref a2)] [(.ref a1)])) _
    refine XS.aloadN X1025.here hx rfl (hb hby d4_5) rfl rfl ?_
    show Steps p.tables e below (T1025.setTop (mkF m 6 #[.val (.ref a1), .val (.ref a2)] [(.ref a2), (.ref a1)])) _
    refine st1026 _ ?_
    show Steps p.tables e below (T1026.setTop (mkF m 9 #[.val (.ref a1), .val (.ref a2)] [(.ref a2), (.ref a1)])) _
    refine st1027 _ ?_
    show Steps p.tables e below (T1027.setTop (mkF m 12 #[.val (.ref a1), .val (.ref a2)] [])) _
    refine XS.aloadN X1027.here hx rfl (hb hby d4_12) rfl rfl ?_
    show Steps p.tables e below (T1027.setTop (mkF m 13 #[.val (.ref a1), .val (.ref a2)] [(.ref a1)])) _
    refine st1029 _ ?_
    show Steps p.tables e below (T1029.setTop (mkF m 16 #[.val (.ref a1), .val (.ref a2)] [(.ref em), (.ref a1)])) _
    refine st1030 _ ?_
    show Steps p.tables e below (T1030.setTop (mkF m 19 #[.val (.ref a1), .val (.ref a2)] [])) _
    exact k)
  obtain ⟨fs, hr, hrun, hended, hW, hsame⟩ := X1030.leave (v := none) (fun _ => rfl)
  refine ⟨_, _, P1032 _ ?_, hrun, hended, _, _, rfl, ?_, ⟨_, rfl⟩, hW, hsame.mono (by decide) (by decide)⟩
  · exact X1030.returnOut hx Bd.returns (hb hby d4_19) hr
  · show Q_linit Z a1 a2 em h0 n0 _ T1030.heap _
    rw [e1030]
    exact ⟨rfl, N1030, K1030, c1031_0, c1031_1, Fw1030⟩
theorem ef_lof (m : MethodId) (x0 : Addr) : entryFrame m #[(.ref x0)] 1 = mkF m 0 #[.val (.ref x0)] [] := by first | (simp [entryFrame, mkF, argsToLocals, Value.category]; done) | rfl
def Q_lof (Z : State) (a2 : Addr) (em : Addr) (h0 : Heap) (n0 : Nat) (v : Option Value) (h : Heap) (L : List Loc) : Prop := ∃ r : Addr, v = some (.ref r) ∧ Fr n0 L ∧ Keep h0 h [] ∧ h0.size ≤ r ∧ Exa Z h r "java/util/ImmutableCollections$List12" ∧ Fld Z h r "java/util/ImmutableCollections$List12" "e0" "Ljava/lang/Object;" (.ref a2) ∧ Fld Z h r "java/util/ImmutableCollections$List12" "e1" "Ljava/lang/Object;" (.ref em)
theorem pn_6 : plainName "java/util/List" = true := by first | (simp [plainName, overriddenIn]; done) | decide +kernel
theorem d3_0 : decode jdk_40_method_37_code 0 = .ok (.new 96, 3) := by decide +kernel
theorem d3_3 : decode jdk_40_method_37_code 3 = .ok (.dup, 1) := by decide +kernel
theorem d3_4 : decode jdk_40_method_37_code 4 = .ok (.aload_n 0, 1) := by decide +kernel
theorem d3_5 : decode jdk_40_method_37_code 5 = .ok (.invokespecial 98, 3) := by decide +kernel
theorem pd_2 : parseMethodDescriptor "(Ljava/lang/Object;)V" = some ⟨[(.object "java/lang/Object")], none⟩ := by decide +kernel
theorem d3_8 : decode jdk_40_method_37_code 8 = .ok (.areturn, 1) := by decide +kernel
set_option maxRecDepth 65536 in
set_option maxHeartbeats 40000000 in
theorem rm_lof (l : Launch) (Z : State) (a0 : Array Value) (hw : ∀ d ∈ tables_1, d.before a0 Z = true) (ws : List Jvm.Cond) (a2 : Addr) (em : Addr) (h0 : Heap) (n0 : Nat) (Z0 : n0 ≤ h0.size) (SE : Sta Z Z.heap "java/util/ImmutableCollections" "EMPTY" "Ljava/lang/Object;" (.ref em)) (O1 : Old Z n0 h0) :
    MetFree l (⟨"java/util/List", "of", "(Ljava/lang/Object;)Ljava/util/List;"⟩ : MethodName) (head1 (Jvm.Cond.code (⟨"java/util/List", "of", "(Ljava/lang/Object;)Ljava/util/List;"⟩ : MethodName) jdk_40_method_37_code 1 (some (.object "java/util/List")) :: ws) ({ frames := 5, cells := 1, slots := 2, locals := 62 } : Room)) (fun a U => a = #[(.ref a2)] ∧ Z.Warmed39 U.vm ∧ U.heap = h0) (fun _ _ _ _ _ => True) (fun _ U o U' => ∃ v L, o = .returned v ∧ Q_lof Z a2 em h0 n0 v U'.heap L ∧ FrameEnd U o U' L ({ frames := 5, cells := 1, slots := 2, locals := 62 } : Room).cells ({ frames := 5, cells := 1, slots := 2, locals := 62 } : Room).slots) := by
  refine MetFree.of_bodySF (plainFor_of_name pn_6) hisR ?_
  intro p e s m args below meth c s₁ Bd hml0 hP hK
  obtain ⟨rfl, hZ, hh⟩ := hP
  have hx := Bd.exec
  have hby := Bd.bytes
  have hml : c.maxLocals = 1 := hml0
  have hown : s.vm.findClass "java/util/List" = some m.cls := findClass_of_methodNamed Bd.named
  have hnm := (name_of_methodNamed Bd.named Bd.method).1
  have X0 : Stand p l e ({ frames := 5, cells := 1, slots := 2, locals := 62 } : Room) s m #[(.ref a2)] below meth c s₁ [] 0 0 := Stand.of_body Bd
  have e0 : s₁.heap = h0 := by rw [← hh, Bd.state]; rfl
  have N0 := Fr.nil n0
  have K0 : Keep h0 h0 [] := Keep.refl h0 []
  have P0 : ∀ t, Steps p.tables e below (s₁.setTop (mkF m 0 #[.val (.ref a2)] [])) t → Steps p.tables e below (s₁.setTop (entryFrame m #[(.ref a2)] 1)) t := fun t k => castTop (ef_lof m a2) k
  obtain ⟨T1033, h1033, X1033, e1033, E1033, A1033, D1033, -, st1033⟩ := newO X0 hx hZ hown (hw _ (List.mem_of_getElem? (i := 18) rfl)) (hw _ (List.mem_of_getElem? (i := 19) rfl)) (hw _ (List.mem_of_getElem? (i := 20) rfl)) e0 (g := (mkF m 0 #[.val (.ref a2)] [])) rfl (hb hby d3_0) (by decide) (by decide)
  obtain ⟨b1033, g1033⟩ : ∃ z, z = h0.size := ⟨_, rfl⟩
  rw [← g1033] at A1033 D1033 st1033
  have g_b1033 : n0 ≤ b1033 := Nat.le_trans Z0 (Nat.le_of_eq g1033.symm)
  have sz_b1033 : h0.size ≤ b1033 := Nat.le_trans K0.1 (Nat.le_of_eq g1033.symm)
  have c1034_0 := O1.ext E1033
  have Z1033 : n0 ≤ h1033.size := Nat.le_trans Z0 E1033.1
  have K1033 : Keep h0 h1033 [] := K0.ext E1033
  have F1033_e0 : Fld Z h1033 b1033 "java/util/ImmutableCollections$List12" "e0" "Ljava/lang/Object;" .null := D1033 (Or.inr (hw _ (List.mem_of_getElem? (i := 51) rfl))) (ty := (.object "java/lang/Object")) (by decide)
  have F1033_e1 : Fld Z h1033 b1033 "java/util/ImmutableCollections$List12" "e1" "Ljava/lang/Object;" .null := D1033 (Or.inr (hw _ (List.mem_of_getElem? (i := 55) rfl))) (ty := (.object "java/lang/Object")) (by decide)
  obtain ⟨_, _, ⟨T1035, L1035, k1035, n1035⟩, -, X1035, ⟨Lc1035, hQ1035, l1035, y1035, z1035⟩, st1035⟩ := X1033.specialBack hx (y := (⟨"java/util/ImmutableCollections$List12", "<init>", "(Ljava/lang/Object;)V"⟩ : MethodName)) rfl hown (mvT hZ (hw _ (List.mem_of_getElem? (i := 21) rfl))) (mvT hZ (hw _ (List.mem_of_getElem? (i := 22) rfl))) (mvT hZ (hw _ (List.mem_of_getElem? (i := 24) rfl))) (by decide) (backOf (W := 1) (rm_linit l Z a0 hw [] b1033 a2 em h1033 n0 Z1033 A1033 F1033_e0 F1033_e1 g_b1033 SE c1034_0) hZ (hw _ (List.mem_of_getElem? (i := 24) rfl)) (hw _ (List.mem_of_getElem? (i := 20) rfl)) (by decide) (by decide)) (g := (mkF m 5 #[.val (.ref a2)] [(.ref a2), (.ref b1033), (.ref b1033)])) rfl (by rw [hml]; rfl) (Steps.refl _) (a := b1033) (argsL := [(.ref a2)]) (rest := [(.ref b1033)]) (lenOf pd_2 rfl) rfl (by show 2 * 0 + _ ≤ _; exact Nat.le_of_eq rfl) (hb hby d3_5) (fun _ _ => ⟨rfl, e1033, (by decide : 1 + 0 ≤ _), (by decide : 2 + 0 ≤ _)⟩)
  dsimp only [Pt.U, Pt.locs, Pt.cells, Pt.slots] at X1035 l1035 y1035 z1035 st1035 hQ1035
  subst l1035 y1035 z1035
  obtain ⟨rfl, N1035q, Ki, Ei, Fi0, Fi1⟩ := hQ1035
  have N1035 := Fr.app N0 N1035q
  have c1036_0 := c1034_0.keep Ki (allS g_b1033 all0)
  have Z1035 : n0 ≤ T1035.heap.size := Nat.le_trans Z1033 Ki.1
  have K1035 : Keep h0 T1035.heap [] := K1033.trans Ki (allS (Or.inr sz_b1033) all0)
  have P1037 : ∀ t, Steps p.tables e below (T1035.setTop (mkF m 8 #[.val (.ref a2)] [(.ref b1033)])) t → Steps p.tables e below (s₁.setTop (entryFrame m #[(.ref a2)] 1)) t := fun t k => P0 t (by
    refine st1033 _ ?_
    show Steps p.tables e below (T1033.setTop (mkF m 3 #[.val (.ref a2)] [(.ref b1033)])) _
    refine XS.dup X1033.here hx rfl (hb hby d3_3) rfl rfl ?_
    show Steps p.tables e below (T1033.setTop (mkF m 4 #[.val (.ref a2)] [(.ref b1033), (.ref b1033)])) _
    refine XS.aloadN X1033.here hx rfl (hb hby d3_4) rfl rfl ?_
    show Steps p.tables e below (T1033.setTop (mkF m 5 #[.val (.ref a2)] [(.ref a2), (.ref b1033), (.ref b1033)])) _
    refine st1035.trans ?_
    show Steps p.tables e below (T1035.setTop (mkF m 8 #[.val (.ref a2)] [(.ref b1033)])) _
    exact k)
  obtain ⟨fs, hr, hrun, hended, hW, hsame⟩ := X1035.leave (v := some (.ref b1033)) (fun h => by rw [Bd.returns] at h; cases h)
  refine ⟨_, _, P1037 _ ?_, hrun, hended, _, _, rfl, ?_, ⟨_, rfl⟩, hW, hsame.mono (by decide) (by decide)⟩
  · jvm_step X1035.here [X1035.here.top, hx, (hb hby d3_8), X1035.method', Bd.returns, Value.isRef, FieldType.isReference]
    first | (intro acts; rw [hr _ acts rfl rfl rfl]) | rw [hr _ _ rfl rfl rfl]
    exact Steps.refl _
  · show Q_lof Z a2 em h0 n0 _ T1035.heap _
    exact ⟨b1033, rfl, N1035, K1035, sz_b1033, Ei, Fi0, Fi1⟩
theorem ef_rinit (m : MethodId) (x0 : Addr) (x1 : Addr) (x2 : Addr) (x3 : Int32) (x4 : Int64) (x5 : Addr) (x6 : Int64) (x7 : Int64) (x8 : Int32) : entryFrame m #[(.ref x0), (.ref x1), (.ref x2), (.int x3), (.long x4), (.ref x5), (.long x6), (.long x7), (.int x8), .null] 13 = mkF m 0 #[.val (.ref x0), .val (.ref x1), .val (.ref x2), .val (.int x3), .val (.long x4), .second, .val (.ref x5), .val (.long x6), .second, .val (.long x7), .second, .val (.int x8), .val .null] [] := by first | (simp [entryFrame, mkF, argsToLocals, Value.category]; done) | rfl
def Q_rinit (Z : State) (a1 : Addr) (a2 : Addr) (a3 : Addr) (u1 : Int32) (u2 : Int64) (a4 : Addr) (u3 : Int64) (u4 : Int32) (h0 : Heap) (n0 : Nat) (v : Option Value) (h : Heap) (L : List Loc) : Prop := v = none ∧ Fr n0 L ∧ Keep h0 h [a1] ∧ Exa Z h a1 "com/example/hardy_cache/hardycache/server/Request" ∧ Fld Z h a1 "com/example/hardy_cache/hardycache/server/Request" "command" "Lcom/example/hardy_cache/hardycache/server/Request$Command;" (.ref a2) ∧ Fld Z h a1 "com/example/hardy_cache/hardycache/server/Request" "keys" "Ljava/util/List;" (.ref a3) ∧ Fld Z h a1 "com/example/hardy_cache/hardycache/server/Request" "flags" "I" (.int u1) ∧ Fld Z h a1 "com/example/hardy_cache/hardycache/server/Request" "exptime" "J" (.long u2) ∧ Fld Z h a1 "com/example/hardy_cache/hardycache/server/Request" "value" "[B" (.ref a4) ∧ Fld Z h a1 "com/example/hardy_cache/hardycache/server/Request" "casUnique" "J" (.long u3) ∧ Fld Z h a1 "com/example/hardy_cache/hardycache/server/Request" "noreply" "Z" (.int u4)
theorem pn_7 : plainName "com/example/hardy_cache/hardycache/server/Request" = true := by first | (simp [plainName, overriddenIn]; done) | decide +kernel
theorem d10_0 : decode prog_11_method_1_code 0 = .ok (.aload_n 0, 1) := by decide +kernel
theorem d10_1 : decode prog_11_method_1_code 1 = .ok (.invokespecial 1, 3) := by decide +kernel
theorem d10_4 : decode prog_11_method_1_code 4 = .ok (.aload_n 0, 1) := by decide +kernel
theorem d10_5 : decode prog_11_method_1_code 5 = .ok (.aload_n 1, 1) := by decide +kernel
theorem d10_6 : decode prog_11_method_1_code 6 = .ok (.putfield 7, 3) := by decide +kernel
theorem d10_9 : decode prog_11_method_1_code 9 = .ok (.aload_n 0, 1) := by decide +kernel
theorem d10_10 : decode prog_11_method_1_code 10 = .ok (.aload_n 2, 1) := by decide +kernel
theorem d10_11 : decode prog_11_method_1_code 11 = .ok (.putfield 13, 3) := by decide +kernel
theorem d10_14 : decode prog_11_method_1_code 14 = .ok (.aload_n 0, 1) := by decide +kernel
theorem d10_15 : decode prog_11_method_1_code 15 = .ok (.iload_n 3, 1) := by decide +kernel
theorem d10_16 : decode prog_11_method_1_code 16 = .ok (.putfield 17, 3) := by decide +kernel
theorem d10_19 : decode prog_11_method_1_code 19 = .ok (.aload_n 0, 1) := by decide +kernel
theorem d10_20 : decode prog_11_method_1_code 20 = .ok (.lload 4, 2) := by decide +kernel
theorem d10_22 : decode prog_11_method_1_code 22 = .ok (.putfield 21, 3) := by decide +kernel
theorem d10_25 : decode prog_11_method_1_code 25 = .ok (.aload_n 0, 1) := by decide +kernel
theorem d10_26 : decode prog_11_method_1_code 26 = .ok (.aload 6, 2) := by decide +kernel
theorem d10_28 : decode prog_11_method_1_code 28 = .ok (.putfield 25, 3) := by decide +kernel
theorem d10_31 : decode prog_11_method_1_code 31 = .ok (.aload_n 0, 1) := by decide +kernel
theorem d10_32 : decode prog_11_method_1_code 32 = .ok (.lload 7, 2) := by decide +kernel
theorem d10_34 : decode prog_11_method_1_code 34 = .ok (.putfield 29, 3) := by decide +kernel
theorem d10_37 : decode prog_11_method_1_code 37 = .ok (.aload_n 0, 1) := by decide +kernel
theorem d10_38 : decode prog_11_method_1_code 38 = .ok (.lload 9, 2) := by decide +kernel
theorem d10_40 : decode prog_11_method_1_code 40 = .ok (.putfield 32, 3) := by decide +kernel
theorem d10_43 : decode prog_11_method_1_code 43 = .ok (.aload_n 0, 1) := by decide +kernel
theorem d10_44 : decode prog_11_method_1_code 44 = .ok (.iload 11, 2) := by decide +kernel
theorem d10_46 : decode prog_11_method_1_code 46 = .ok (.putfield 35, 3) := by decide +kernel
theorem d10_49 : decode prog_11_method_1_code 49 = .ok (.aload_n 0, 1) := by decide +kernel
theorem d10_50 : decode prog_11_method_1_code 50 = .ok (.aload 12, 2) := by decide +kernel
theorem d10_52 : decode prog_11_method_1_code 52 = .ok (.putfield 39, 3) := by decide +kernel
theorem d10_55 : decode prog_11_method_1_code 55 = .ok (.return_, 1) := by decide +kernel
set_option maxRecDepth 65536 in
set_option maxHeartbeats 40000000 in
theorem rm_rinit (l : Launch) (Z : State) (a0 : Array Value) (hw : ∀ d ∈ tables_1, d.before a0 Z = true) (ws : List Jvm.Cond) (a1 : Addr) (a2 : Addr) (a3 : Addr) (u1 : Int32) (u2 : Int64) (a4 : Addr) (u3 : Int64) (u4 : Int32) (h0 : Heap) (n0 : Nat) (Z0 : n0 ≤ h0.size) (E1 : Exa Z h0 a1 "com/example/hardy_cache/hardycache/server/Request") (F0 : Fld Z h0 a1 "com/example/hardy_cache/hardycache/server/Request" "command" "Lcom/example/hardy_cache/hardycache/server/Request$Command;" .null) (F1 : Fld Z h0 a1 "com/example/hardy_cache/hardycache/server/Request" "keys" "Ljava/util/List;" .null) (F2 : Fld Z h0 a1 "com/example/hardy_cache/hardycache/server/Request" "flags" "I" (.int (0 : Int32))) (F3 : Fld Z h0 a1 "com/example/hardy_cache/hardycache/server/Request" "exptime" "J" (.long (0 : Int64))) (F4 : Fld Z h0 a1 "com/example/hardy_cache/hardycache/server/Request" "value" "[B" .null) (F5 : Fld Z h0 a1 "com/example/hardy_cache/hardycache/server/Request" "casUnique" "J" (.long (0 : Int64))) (F6 : Fld Z h0 a1 "com/example/hardy_cache/hardycache/server/Request" "delta" "J" (.long (0 : Int64))) (F7 : Fld Z h0 a1 "com/example/hardy_cache/hardycache/server/Request" "noreply" "Z" (.int (0 : Int32))) (F8 : Fld Z h0 a1 "com/example/hardy_cache/hardycache/server/Request" "statsGroup" "Ljava/lang/String;" .null) (g1 : n0 ≤ a1) (hn : nar .boolean u4 = u4) :
    MetFree l (⟨"com/example/hardy_cache/hardycache/server/Request", "<init>", "(Lcom/example/hardy_cache/hardycache/server/Request$Command;Ljava/util/List;IJ[BJJZLjava/lang/String;)V"⟩ : MethodName) (head1 (Jvm.Cond.code (⟨"com/example/hardy_cache/hardycache/server/Request", "<init>", "(Lcom/example/hardy_cache/hardycache/server/Request$Command;Ljava/util/List;IJ[BJJZLjava/lang/String;)V"⟩ : MethodName) prog_11_method_1_code 13 none :: ws) ({ frames := 1, cells := 0, slots := 0, locals := 12 } : Room)) (fun a U => a = #[(.ref a1), (.ref a2), (.ref a3), (.int u1), (.long u2), (.ref a4), (.long u3), (.long (0 : Int64)), (.int u4), .null] ∧ Z.Warmed39 U.vm ∧ U.heap = h0) (fun _ _ _ _ _ => True) (fun _ U o U' => ∃ v L, o = .returned v ∧ Q_rinit Z a1 a2 a3 u1 u2 a4 u3 u4 h0 n0 v U'.heap L ∧ FrameEnd U o U' L ({ frames := 1, cells := 0, slots := 0, locals := 12 } : Room).cells ({ frames := 1, cells := 0, slots := 0, locals := 12 } : Room).slots) := by
  refine MetFree.of_bodySF (plainFor_of_name pn_7) hisR ?_
  intro p e s m args below meth c s₁ Bd hml0 hP hK
  obtain ⟨rfl, hZ, hh⟩ := hP
  have hx := Bd.exec
  have hby := Bd.bytes
  have hml : c.maxLocals = 13 := hml0
  have hown : s.vm.findClass "com/example/hardy_cache/hardycache/server/Request" = some m.cls := findClass_of_methodNamed Bd.named
  have hnm := (name_of_methodNamed Bd.named Bd.method).1
  have X0 : Stand p l e ({ frames := 1, cells := 0, slots := 0, locals := 12 } : Room) s m #[(.ref a1), (.ref a2), (.ref a3), (.int u1), (.long u2), (.ref a4), (.long u3), (.long (0 : Int64)), (.int u4), .null] below meth c s₁ [] 0 0 := Stand.of_body Bd
  have e0 : s₁.heap = h0 := by rw [← hh, Bd.state]; rfl
  have N0 := Fr.nil n0
  have K0 : Keep h0 h0 [a1] := Keep.refl h0 [a1]
  have P0 : ∀ t, Steps p.tables e below (s₁.setTop (mkF m 0 #[.val (.ref a1), .val (.ref a2), .val (.ref a3), .val (.int u1), .val (.long u2), .second, .val (.ref a4), .val (.long u3), .second, .val (.long (0 : Int64)), .second, .val (.int u4), .val .null] [])) t → Steps p.tables e below (s₁.setTop (entryFrame m #[(.ref a1), (.ref a2), (.ref a3), (.int u1), (.long u2), (.ref a4), (.long u3), (.long (0 : Int64)), (.int u4), .null] 13)) t := fun t k => castTop (ef_rinit m a1 a2 a3 u1 u2 a4 u3 (0 : Int64) u4) k
  obtain ⟨T1038, X1038, e1038, st1038⟩ := initO X0 hx hZ hown (hw _ (List.mem_of_getElem? (i := 59) rfl)) (hw _ (List.mem_of_getElem? (i := 44) rfl)) (hw _ (List.mem_of_getElem? (i := 45) rfl)) e0 (g := (mkF m 1 #[.val (.ref a1), .val (.ref a2), .val (.ref a3), .val (.int u1), .val (.long u2), .second, .val (.ref a4), .val (.long u3), .second, .val (.long (0 : Int64)), .second, .val (.int u4), .val .null] [(.ref a1)])) rfl (by rw [hml]; rfl) rfl (hb hby d10_1) (by decide) (W := 0) (by show 2 * 0 + _ ≤ _; exact Nat.le_of_eq rfl) (by decide)
  obtain ⟨T1039, h1039, X1039, e1039, W1039, st1039⟩ := putF X1038 hx hZ hown (host := "") (Or.inl (hw _ (List.mem_of_getElem? (i := 60) rfl))) Via.refl e1038 F0 E1 (Or.inr ⟨(hw _ (List.mem_of_getElem? (i := 61) rfl)), rfl, hnm⟩) (hw _ (List.mem_of_getElem? (i := 13) rfl)) (ty := (.object "com/example/hardy_cache/hardycache/server/Request$Command")) (by decide) rfl rfl (g := (mkF m 6 #[.val (.ref a1), .val (.ref a2), .val (.ref a3), .val (.int u1), .val (.long u2), .second, .val (.ref a4), .val (.long u3), .second, .val (.long (0 : Int64)), .second, .val (.int u4), .val .null] [(.ref a2), (.ref a1)])) rfl rfl (hb hby d10_6)
  have Fw1039 := F0.same W1039
  have c1040_0 := E1.wr W1039
  have c1040_2 := F1.other W1039 (Or.inr (slot_ne (Or.inr (hw _ (List.mem_of_getElem? (i := 63) rfl))) (Or.inr (hw _ (List.mem_of_getElem? (i := 61) rfl))) (by decide) (t := (.object "java/util/List")) (t' := (.object "com/example/hardy_cache/hardycache/server/Request$Command")) (by decide) (by decide)))
  have c1040_3 := F2.other W1039 (Or.inr (slot_ne (Or.inr (hw _ (List.mem_of_getElem? (i := 65) rfl))) (Or.inr (hw _ (List.mem_of_getElem? (i := 61) rfl))) (by decide) (t := .int) (t' := (.object "com/example/hardy_cache/hardycache/server/Request$Command")) (by decide) (by decide)))
  have c1040_4 := F3.other W1039 (Or.inr (slot_ne (Or.inr (hw _ (List.mem_of_getElem? (i := 67) rfl))) (Or.inr (hw _ (List.mem_of_getElem? (i := 61) rfl))) (by decide) (t := .long) (t' := (.object "com/example/hardy_cache/hardycache/server/Request$Command")) (by decide) (by decide)))
  have c1040_5 := F4.other W1039 (Or.inr (slot_ne (Or.inr (hw _ (List.mem_of_getElem? (i := 69) rfl))) (Or.inr (hw _ (List.mem_of_getElem? (i := 61) rfl))) (by decide) (t := (.array .byte)) (t' := (.object "com/example/hardy_cache/hardycache/server/Request$Command")) (by decide) (by decide)))
  have c1040_6 := F5.other W1039 (Or.inr (slot_ne (Or.inr (hw _ (List.mem_of_getElem? (i := 71) rfl))) (Or.inr (hw _ (List.mem_of_getElem? (i := 61) rfl))) (by decide) (t := .long) (t' := (.object "com/example/hardy_cache/hardycache/server/Request$Command")) (by decide) (by decide)))
  have c1040_7 := F6.other W1039 (Or.inr (slot_ne (Or.inr (hw _ (List.mem_of_getElem? (i := 73) rfl))) (Or.inr (hw _ (List.mem_of_getElem? (i := 61) rfl))) (by decide) (t := .long) (t' := (.object "com/example/hardy_cache/hardycache/server/Request$Command")) (by decide) (by decide)))
  have c1040_8 := F7.other W1039 (Or.inr (slot_ne (Or.inr (hw _ (List.mem_of_getElem? (i := 75) rfl))) (Or.inr (hw _ (List.mem_of_getElem? (i := 61) rfl))) (by decide) (t := .boolean) (t' := (.object "com/example/hardy_cache/hardycache/server/Request$Command")) (by decide) (by decide)))
  have c1040_9 := F8.other W1039 (Or.inr (slot_ne (Or.inr (hw _ (List.mem_of_getElem? (i := 77) rfl))) (Or.inr (hw _ (List.mem_of_getElem? (i := 61) rfl))) (by decide) (t := (.object "java/lang/String")) (t' := (.object "com/example/hardy_cache/hardycache/server/Request$Command")) (by decide) (by decide)))
  have Z1039 : n0 ≤ h1039.size := Nat.le_trans Z0 (Nat.le_of_eq W1039.size.symm)
  have K1039 : Keep h0 h1039 [a1] := K0.wr W1039 (Or.inl (List.mem_of_getElem? (i := 0) rfl))
  have N1039 := Fr.snoc X1039 N0 g1
  obtain ⟨T1041, h1041, X1041, e1041, W1041, st1041⟩ := putF X1039 hx hZ hown (host := "") (Or.inl (hw _ (List.mem_of_getElem? (i := 62) rfl))) Via.refl e1039 c1040_2 c1040_0 (Or.inr ⟨(hw _ (List.mem_of_getElem? (i := 63) rfl)), rfl, hnm⟩) (hw _ (List.mem_of_getElem? (i := 13) rfl)) (ty := (.object "java/util/List")) (by decide) rfl rfl (g := (mkF m 11 #[.val (.ref a1), .val (.ref a2), .val (.ref a3), .val (.int u1), .val (.long u2), .second, .val (.ref a4), .val (.long u3), .second, .val (.long (0 : Int64)), .second, .val (.int u4), .val .null] [(.ref a3), (.ref a1)])) rfl rfl (hb hby d10_11)
  have Fw1041 := c1040_2.same W1041
  have c1042_0 := c1040_0.wr W1041
  have c1042_1 := Fw1039.other W1041 (Or.inr (slot_ne (Or.inr (hw _ (List.mem_of_getElem? (i := 61) rfl))) (Or.inr (hw _ (List.mem_of_getElem? (i := 63) rfl))) (by decide) (t := (.object "com/example/hardy_cache/hardycache/server/Request$Command")) (t' := (.object "java/util/List")) (by decide) (by decide)))
  have c1042_3 := c1040_3.other W1041 (Or.inr (slot_ne (Or.inr (hw _ (List.mem_of_getElem? (i := 65) rfl))) (Or.inr (hw _ (List.mem_of_getElem? (i := 63) rfl))) (by decide) (t := .int) (t' := (.object "java/util/List")) (by decide) (by decide)))
  have c1042_4 := c1040_4.other W1041 (Or.inr (slot_ne (Or.inr (hw _ (List.mem_of_getElem? (i := 67) rfl))) (Or.inr (hw _ (List.mem_of_getElem? (i := 63) rfl))) (by decide) (t := .long) (t' := (.object "java/util/List")) (by decide) (by decide)))
  have c1042_5 := c1040_5.other W1041 (Or.inr (slot_ne (Or.inr (hw _ (List.mem_of_getElem? (i := 69) rfl))) (Or.inr (hw _ (List.mem_of_getElem? (i := 63) rfl))) (by decide) (t := (.array .byte)) (t' := (.object "java/util/List")) (by decide) (by decide)))
  have c1042_6 := c1040_6.other W1041 (Or.inr (slot_ne (Or.inr (hw _ (List.mem_of_getElem? (i := 71) rfl))) (Or.inr (hw _ (List.mem_of_getElem? (i := 63) rfl))) (by decide) (t := .long) (t' := (.object "java/util/List")) (by decide) (by decide)))
  have c1042_7 := c1040_7.other W1041 (Or.inr (slot_ne (Or.inr (hw _ (List.mem_of_getElem? (i := 73) rfl))) (Or.inr (hw _ (List.mem_of_getElem? (i := 63) rfl))) (by decide) (t := .long) (t' := (.object "java/util/List")) (by decide) (by decide)))
  have c1042_8 := c1040_8.other W1041 (Or.inr (slot_ne (Or.inr (hw _ (List.mem_of_getElem? (i := 75) rfl))) (Or.inr (hw _ (List.mem_of_getElem? (i := 63) rfl))) (by decide) (t := .boolean) (t' := (.object "java/util/List")) (by decide) (by decide)))
  have c1042_9 := c1040_9.other W1041 (Or.inr (slot_ne (Or.inr (hw _ (List.mem_of_getElem? (i := 77) rfl))) (Or.inr (hw _ (List.mem_of_getElem? (i := 63) rfl))) (by decide) (t := (.object "java/lang/String")) (t' := (.object "java/util/List")) (by decide) (by decide)))
  have Z1041 : n0 ≤ h1041.size := Nat.le_trans Z1039 (Nat.le_of_eq W1041.size.symm)
  have K1041 : Keep h0 h1041 [a1] := K1039.wr W1041 (Or.inl (List.mem_of_getElem? (i := 0) rfl))
  have N1041 := Fr.snoc X1041 N1039 g1
  obtain ⟨T1043, h1043, X1043, e1043, W1043, st1043⟩ := putF X1041 hx hZ hown (host := "") (Or.inl (hw _ (List.mem_of_getElem? (i := 64) rfl))) Via.refl e1041 c1042_3 c1042_0 (Or.inr ⟨(hw _ (List.mem_of_getElem? (i := 65) rfl)), rfl, hnm⟩) (hw _ (List.mem_of_getElem? (i := 13) rfl)) (ty := .int) (by decide) rfl rfl (g := (mkF m 16 #[.val (.ref a1), .val (.ref a2), .val (.ref a3), .val (.int u1), .val (.long u2), .second, .val (.ref a4), .val (.long u3), .second, .val (.long (0 : Int64)), .second, .val (.int u4), .val .null] [(.int u1), (.ref a1)])) rfl rfl (hb hby d10_16)
  have Fw1043 := c1042_3.same W1043
  have c1044_0 := c1042_0.wr W1043
  have c1044_1 := c1042_1.other W1043 (Or.inr (slot_ne (Or.inr (hw _ (List.mem_of_getElem? (i := 61) rfl))) (Or.inr (hw _ (List.mem_of_getElem? (i := 65) rfl))) (by decide) (t := (.object "com/example/hardy_cache/hardycache/server/Request$Command")) (t' := .int) (by decide) (by decide)))
  have c1044_2 := Fw1041.other W1043 (Or.inr (slot_ne (Or.inr (hw _ (List.mem_of_getElem? (i := 63) rfl))) (Or.inr (hw _ (List.mem_of_getElem? (i := 65) rfl))) (by decide) (t := (.object "java/util/List")) (t' := .int) (by decide) (by decide)))
  have c1044_4 := c1042_4.other W1043 (Or.inr (slot_ne (Or.inr (hw _ (List.mem_of_getElem? (i := 67) rfl))) (Or.inr (hw _ (List.mem_of_getElem? (i := 65) rfl))) (by decide) (t := .long) (t' := .int) (by decide) (by decide)))
  have c1044_5 := c1042_5.other W1043 (Or.inr (slot_ne (Or.inr (hw _ (List.mem_of_getElem? (i := 69) rfl))) (Or.inr (hw _ (List.mem_of_getElem? (i := 65) rfl))) (by decide) (t := (.array .byte)) (t' := .int) (by decide) (by decide)))
  have c1044_6 := c1042_6.other W1043 (Or.inr (slot_ne (Or.inr (hw _ (List.mem_of_getElem? (i := 71) rfl))) (Or.inr (hw _ (List.mem_of_getElem? (i := 65) rfl))) (by decide) (t := .long) (t' := .int) (by decide) (by decide)))
  have c1044_7 := c1042_7.other W1043 (Or.inr (slot_ne (Or.inr (hw _ (List.mem_of_getElem? (i := 73) rfl))) (Or.inr (hw _ (List.mem_of_getElem? (i := 65) rfl))) (by decide) (t := .long) (t' := .int) (by decide) (by decide)))
  have c1044_8 := c1042_8.other W1043 (Or.inr (slot_ne (Or.inr (hw _ (List.mem_of_getElem? (i := 75) rfl))) (Or.inr (hw _ (List.mem_of_getElem? (i := 65) rfl))) (by decide) (t := .boolean) (t' := .int) (by decide) (by decide)))
  have c1044_9 := c1042_9.other W1043 (Or.inr (slot_ne (Or.inr (hw _ (List.mem_of_getElem? (i := 77) rfl))) (Or.inr (hw _ (List.mem_of_getElem? (i := 65) rfl))) (by decide) (t := (.object "java/lang/String")) (t' := .int) (by decide) (by decide)))
  have Z1043 : n0 ≤ h1043.size := Nat.le_trans Z1041 (Nat.le_of_eq W1043.size.symm)
  have K1043 : Keep h0 h1043 [a1] := K1041.wr W1043 (Or.inl (List.mem_of_getElem? (i := 0) rfl))
  have N1043 := Fr.snoc X1043 N1041 g1
  obtain ⟨T1045, h1045, X1045, e1045, W1045, st1045⟩ := putF X1043 hx hZ hown (host := "") (Or.inl (hw _ (List.mem_of_getElem? (i := 66) rfl))) Via.refl e1043 c1044_4 c1044_0 (Or.inr ⟨(hw _ (List.mem_of_getElem? (i := 67) rfl)), rfl, hnm⟩) (hw _ (List.mem_of_getElem? (i := 13) rfl)) (ty := .long) (by decide) rfl rfl (g := (mkF m 22 #[.val (.ref a1), .val (.ref a2), .val (.ref a3), .val (.int u1), .val (.long u2), .second, .val (.ref a4), .val (.long u3), .second, .val (.long (0 : Int64)), .second, .val (.int u4), .val .null] [(.long u2), (.ref a1)])) rfl rfl (hb hby d10_22)
  have Fw1045 := c1044_4.same W1045
  have c1046_0 := c1044_0.wr W1045
  have c1046_1 := c1044_1.other W1045 (Or.inr (slot_ne (Or.inr (hw _ (List.mem_of_getElem? (i := 61) rfl))) (Or.inr (hw _ (List.mem_of_getElem? (i := 67) rfl))) (by decide) (t := (.object "com/example/hardy_cache/hardycache/server/Request$Command")) (t' := .long) (by decide) (by decide)))
  have c1046_2 := c1044_2.other W1045 (Or.inr (slot_ne (Or.inr (hw _ (List.mem_of_getElem? (i := 63) rfl))) (Or.inr (hw _ (List.mem_of_getElem? (i := 67) rfl))) (by decide) (t := (.object "java/util/List")) (t' := .long) (by decide) (by decide)))
  have c1046_3 := Fw1043.other W1045 (Or.inr (slot_ne (Or.inr (hw _ (List.mem_of_getElem? (i := 65) rfl))) (Or.inr (hw _ (List.mem_of_getElem? (i := 67) rfl))) (by decide) (t := .int) (t' := .long) (by decide) (by decide)))
  have c1046_5 := c1044_5.other W1045 (Or.inr (slot_ne (Or.inr (hw _ (List.mem_of_getElem? (i := 69) rfl))) (Or.inr (hw _ (List.mem_of_getElem? (i := 67) rfl))) (by decide) (t := (.array .byte)) (t' := .long) (by decide) (by decide)))
  have c1046_6 := c1044_6.other W1045 (Or.inr (slot_ne (Or.inr (hw _ (List.mem_of_getElem? (i := 71) rfl))) (Or.inr (hw _ (List.mem_of_getElem? (i := 67) rfl))) (by decide) (t := .long) (t' := .long) (by decide) (by decide)))
  have c1046_7 := c1044_7.other W1045 (Or.inr (slot_ne (Or.inr (hw _ (List.mem_of_getElem? (i := 73) rfl))) (Or.inr (hw _ (List.mem_of_getElem? (i := 67) rfl))) (by decide) (t := .long) (t' := .long) (by decide) (by decide)))
  have c1046_8 := c1044_8.other W1045 (Or.inr (slot_ne (Or.inr (hw _ (List.mem_of_getElem? (i := 75) rfl))) (Or.inr (hw _ (List.mem_of_getElem? (i := 67) rfl))) (by decide) (t := .boolean) (t' := .long) (by decide) (by decide)))
  have c1046_9 := c1044_9.other W1045 (Or.inr (slot_ne (Or.inr (hw _ (List.mem_of_getElem? (i := 77) rfl))) (Or.inr (hw _ (List.mem_of_getElem? (i := 67) rfl))) (by decide) (t := (.object "java/lang/String")) (t' := .long) (by decide) (by decide)))
  have Z1045 : n0 ≤ h1045.size := Nat.le_trans Z1043 (Nat.le_of_eq W1045.size.symm)
  have K1045 : Keep h0 h1045 [a1] := K1043.wr W1045 (Or.inl (List.mem_of_getElem? (i := 0) rfl))
  have N1045 := Fr.snoc X1045 N1043 g1
  obtain ⟨T1047, h1047, X1047, e1047, W1047, st1047⟩ := putF X1045 hx hZ hown (host := "") (Or.inl (hw _ (List.mem_of_getElem? (i := 68) rfl))) Via.refl e1045 c1046_5 c1046_0 (Or.inr ⟨(hw _ (List.mem_of_getElem? (i := 69) rfl)), rfl, hnm⟩) (hw _ (List.mem_of_getElem? (i := 13) rfl)) (ty := (.array .byte)) (by decide) rfl rfl (g := (mkF m 28 #[.val (.ref a1), .val (.ref a2), .val (.ref a3), .val (.int u1), .val (.long u2), .second, .val (.ref a4), .val (.long u3), .second, .val (.long (0 : Int64)), .second, .val (.int u4), .val .null] [(.ref a4), (.ref a1)])) rfl rfl (hb hby d10_28)
  have Fw1047 := c1046_5.same W1047
  have c1048_0 := c1046_0.wr W1047
  have c1048_1 := c1046_1.other W1047 (Or.inr (slot_ne (Or.inr (hw _ (List.mem_of_getElem? (i := 61) rfl))) (Or.inr (hw _ (List.mem_of_getElem? (i := 69) rfl))) (by decide) (t := (.object "com/example/hardy_cache/hardycache/server/Request$Command")) (t' := (.array .byte)) (by decide) (by decide)))
  have c1048_2 := c1046_2.other W1047 (Or.inr (slot_ne (Or.inr (hw _ (List.mem_of_getElem? (i := 63) rfl))) (Or.inr (hw _ (List.mem_of_getElem? (i := 69) rfl))) (by decide) (t := (.object "java/util/List")) (t' := (.array .byte)) (by decide) (by decide)))
  have c1048_3 := c1046_3.other W1047 (Or.inr (slot_ne (Or.inr (hw _ (List.mem_of_getElem? (i := 65) rfl))) (Or.inr (hw _ (List.mem_of_getElem? (i := 69) rfl))) (by decide) (t := .int) (t' := (.array .byte)) (by decide) (by decide)))
  have c1048_4 := Fw1045.other W1047 (Or.inr (slot_ne (Or.inr (hw _ (List.mem_of_getElem? (i := 67) rfl))) (Or.inr (hw _ (List.mem_of_getElem? (i := 69) rfl))) (by decide) (t := .long) (t' := (.array .byte)) (by decide) (by decide)))
  have c1048_6 := c1046_6.other W1047 (Or.inr (slot_ne (Or.inr (hw _ (List.mem_of_getElem? (i := 71) rfl))) (Or.inr (hw _ (List.mem_of_getElem? (i := 69) rfl))) (by decide) (t := .long) (t' := (.array .byte)) (by decide) (by decide)))
  have c1048_7 := c1046_7.other W1047 (Or.inr (slot_ne (Or.inr (hw _ (List.mem_of_getElem? (i := 73) rfl))) (Or.inr (hw _ (List.mem_of_getElem? (i := 69) rfl))) (by decide) (t := .long) (t' := (.array .byte)) (by decide) (by decide)))
  have c1048_8 := c1046_8.other W1047 (Or.inr (slot_ne (Or.inr (hw _ (List.mem_of_getElem? (i := 75) rfl))) (Or.inr (hw _ (List.mem_of_getElem? (i := 69) rfl))) (by decide) (t := .boolean) (t' := (.array .byte)) (by decide) (by decide)))
  have c1048_9 := c1046_9.other W1047 (Or.inr (slot_ne (Or.inr (hw _ (List.mem_of_getElem? (i := 77) rfl))) (Or.inr (hw _ (List.mem_of_getElem? (i := 69) rfl))) (by decide) (t := (.object "java/lang/String")) (t' := (.array .byte)) (by decide) (by decide)))
  have Z1047 : n0 ≤ h1047.size := Nat.le_trans Z1045 (Nat.le_of_eq W1047.size.symm)
  have K1047 : Keep h0 h1047 [a1] := K1045.wr W1047 (Or.inl (List.mem_of_getElem? (i := 0) rfl))
  have N1047 := Fr.snoc X1047 N1045 g1
  obtain ⟨T1049, h1049, X1049, e1049, W1049, st1049⟩ := putF X1047 hx hZ hown (host := "") (Or.inl (hw _ (List.mem_of_getElem? (i := 70) rfl))) Via.refl e1047 c1048_6 c1048_0 (Or.inr ⟨(hw _ (List.mem_of_getElem? (i := 71) rfl)), rfl, hnm⟩) (hw _ (List.mem_of_getElem? (i := 13) rfl)) (ty := .long) (by decide) rfl rfl (g := (mkF m 34 #[.val (.ref a1), .val (.ref a2), .val (.ref a3), .val (.int u1), .val (.long u2), .second, .val (.ref a4), .val (.long u3), .second, .val (.long (0 : Int64)), .second, .val (.int u4), .val .null] [(.long u3), (.ref a1)])) rfl rfl (hb hby d10_34)
  have Fw1049 := c1048_6.same W1049
  have c1050_0 := c1048_0.wr W1049
  have c1050_1 := c1048_1.other W1049 (Or.inr (slot_ne (Or.inr (hw _ (List.mem_of_getElem? (i := 61) rfl))) (Or.inr (hw _ (List.mem_of_getElem? (i := 71) rfl))) (by decide) (t := (.object "com/example/hardy_cache/hardycache/server/Request$Command")) (t' := .long) (by decide) (by decide)))
  have c1050_2 := c1048_2.other W1049 (Or.inr (slot_ne (Or.inr (hw _ (List.mem_of_getElem? (i := 63) rfl))) (Or.inr (hw _ (List.mem_of_getElem? (i := 71) rfl))) (by decide) (t := (.object "java/util/List")) (t' := .long) (by decide) (by decide)))
  have c1050_3 := c1048_3.other W1049 (Or.inr (slot_ne (Or.inr (hw _ (List.mem_of_getElem? (i := 65) rfl))) (Or.inr (hw _ (List.mem_of_getElem? (i := 71) rfl))) (by decide) (t := .int) (t' := .long) (by decide) (by decide)))
  have c1050_4 := c1048_4.other W1049 (Or.inr (slot_ne (Or.inr (hw _ (List.mem_of_getElem? (i := 67) rfl))) (Or.inr (hw _ (List.mem_of_getElem? (i := 71) rfl))) (by decide) (t := .long) (t' := .long) (by decide) (by decide)))
  have c1050_5 := Fw1047.other W1049 (Or.inr (slot_ne (Or.inr (hw _ (List.mem_of_getElem? (i := 69) rfl))) (Or.inr (hw _ (List.mem_of_getElem? (i := 71) rfl))) (by decide) (t := (.array .byte)) (t' := .long) (by decide) (by decide)))
  have c1050_7 := c1048_7.other W1049 (Or.inr (slot_ne (Or.inr (hw _ (List.mem_of_getElem? (i := 73) rfl))) (Or.inr (hw _ (List.mem_of_getElem? (i := 71) rfl))) (by decide) (t := .long) (t' := .long) (by decide) (by decide)))
  have c1050_8 := c1048_8.other W1049 (Or.inr (slot_ne (Or.inr (hw _ (List.mem_of_getElem? (i := 75) rfl))) (Or.inr (hw _ (List.mem_of_getElem? (i := 71) rfl))) (by decide) (t := .boolean) (t' := .long) (by decide) (by decide)))
  have c1050_9 := c1048_9.other W1049 (Or.inr (slot_ne (Or.inr (hw _ (List.mem_of_getElem? (i := 77) rfl))) (Or.inr (hw _ (List.mem_of_getElem? (i := 71) rfl))) (by decide) (t := (.object "java/lang/String")) (t' := .long) (by decide) (by decide)))
  have Z1049 : n0 ≤ h1049.size := Nat.le_trans Z1047 (Nat.le_of_eq W1049.size.symm)
  have K1049 : Keep h0 h1049 [a1] := K1047.wr W1049 (Or.inl (List.mem_of_getElem? (i := 0) rfl))
  have N1049 := Fr.snoc X1049 N1047 g1
  obtain ⟨T1051, h1051, X1051, e1051, W1051, st1051⟩ := putF X1049 hx hZ hown (host := "") (Or.inl (hw _ (List.mem_of_getElem? (i := 72) rfl))) Via.refl e1049 c1050_7 c1050_0 (Or.inr ⟨(hw _ (List.mem_of_getElem? (i := 73) rfl)), rfl, hnm⟩) (hw _ (List.mem_of_getElem? (i := 13) rfl)) (ty := .long) (by decide) rfl rfl (g := (mkF m 40 #[.val (.ref a1), .val (.ref a2), .val (.ref a3), .val (.int u1), .val (.long u2), .second, .val (.ref a4), .val (.long u3), .second, .val (.long (0 : Int64)), .second, .val (.int u4), .val .null] [(.long (0 : Int64)), (.ref a1)])) rfl rfl (hb hby d10_40)
  have Fw1051 := c1050_7.same W1051
  have c1052_0 := c1050_0.wr W1051
  have c1052_1 := c1050_1.other W1051 (Or.inr (slot_ne (Or.inr (hw _ (List.mem_of_getElem? (i := 61) rfl))) (Or.inr (hw _ (List.mem_of_getElem? (i := 73) rfl))) (by decide) (t := (.object "com/example/hardy_cache/hardycache/server/Request$Command")) (t' := .long) (by decide) (by decide)))
  have c1052_2 := c1050_2.other W1051 (Or.inr (slot_ne (Or.inr (hw _ (List.mem_of_getElem? (i := 63) rfl))) (Or.inr (hw _ (List.mem_of_getElem? (i := 73) rfl))) (by decide) (t := (.object "java/util/List")) (t' := .long) (by decide) (by decide)))
  have c1052_3 := c1050_3.other W1051 (Or.inr (slot_ne (Or.inr (hw _ (List.mem_of_getElem? (i := 65) rfl))) (Or.inr (hw _ (List.mem_of_getElem? (i := 73) rfl))) (by decide) (t := .int) (t' := .long) (by decide) (by decide)))
  have c1052_4 := c1050_4.other W1051 (Or.inr (slot_ne (Or.inr (hw _ (List.mem_of_getElem? (i := 67) rfl))) (Or.inr (hw _ (List.mem_of_getElem? (i := 73) rfl))) (by decide) (t := .long) (t' := .long) (by decide) (by decide)))
  have c1052_5 := c1050_5.other W1051 (Or.inr (slot_ne (Or.inr (hw _ (List.mem_of_getElem? (i := 69) rfl))) (Or.inr (hw _ (List.mem_of_getElem? (i := 73) rfl))) (by decide) (t := (.array .byte)) (t' := .long) (by decide) (by decide)))
  have c1052_6 := Fw1049.other W1051 (Or.inr (slot_ne (Or.inr (hw _ (List.mem_of_getElem? (i := 71) rfl))) (Or.inr (hw _ (List.mem_of_getElem? (i := 73) rfl))) (by decide) (t := .long) (t' := .long) (by decide) (by decide)))
  have c1052_8 := c1050_8.other W1051 (Or.inr (slot_ne (Or.inr (hw _ (List.mem_of_getElem? (i := 75) rfl))) (Or.inr (hw _ (List.mem_of_getElem? (i := 73) rfl))) (by decide) (t := .boolean) (t' := .long) (by decide) (by decide)))
  have c1052_9 := c1050_9.other W1051 (Or.inr (slot_ne (Or.inr (hw _ (List.mem_of_getElem? (i := 77) rfl))) (Or.inr (hw _ (List.mem_of_getElem? (i := 73) rfl))) (by decide) (t := (.object "java/lang/String")) (t' := .long) (by decide) (by decide)))
  have Z1051 : n0 ≤ h1051.size := Nat.le_trans Z1049 (Nat.le_of_eq W1051.size.symm)
  have K1051 : Keep h0 h1051 [a1] := K1049.wr W1051 (Or.inl (List.mem_of_getElem? (i := 0) rfl))
  have N1051 := Fr.snoc X1051 N1049 g1
  obtain ⟨T1053, h1053, X1053, e1053, W1053, st1053⟩ := putFN X1051 hx hZ hown (hw _ (List.mem_of_getElem? (i := 74) rfl)) Via.refl e1051 c1052_8 c1052_0 (Or.inr ⟨(hw _ (List.mem_of_getElem? (i := 75) rfl)), rfl, hnm⟩) (hw _ (List.mem_of_getElem? (i := 13) rfl)) (ty := .boolean) (v := (.int u4)) (v' := (.int u4)) (by decide) (congrArg Value.int hn) (by have := fits_nar_bool u4; rwa [hn] at this) (g := (mkF m 46 #[.val (.ref a1), .val (.ref a2), .val (.ref a3), .val (.int u1), .val (.long u2), .second, .val (.ref a4), .val (.long u3), .second, .val (.long (0 : Int64)), .second, .val (.int u4), .val .null] [(.int u4), (.ref a1)])) rfl rfl (hb hby d10_46)
  have Fw1053 := c1052_8.same W1053
  have c1054_0 := c1052_0.wr W1053
  have c1054_1 := c1052_1.other W1053 (Or.inr (slot_ne (Or.inr (hw _ (List.mem_of_getElem? (i := 61) rfl))) (Or.inr (hw _ (List.mem_of_getElem? (i := 75) rfl))) (by decide) (t := (.object "com/example/hardy_cache/hardycache/server/Request$Command")) (t' := .boolean) (by decide) (by decide)))
  have c1054_2 := c1052_2.other W1053 (Or.inr (slot_ne (Or.inr (hw _ (List.mem_of_getElem? (i := 63) rfl))) (Or.inr (hw _ (List.mem_of_getElem? (i := 75) rfl))) (by decide) (t := (.object "java/util/List")) (t' := .boolean) (by decide) (by decide)))
  have c1054_3 := c1052_3.other W1053 (Or.inr (slot_ne (Or.inr (hw _ (List.mem_of_getElem? (i := 65) rfl))) (Or.inr (hw _ (List.mem_of_getElem? (i := 75) rfl))) (by decide) (t := .int) (t' := .boolean) (by decide) (by decide)))
  have c1054_4 := c1052_4.other W1053 (Or.inr (slot_ne (Or.inr (hw _ (List.mem_of_getElem? (i := 67) rfl))) (Or.inr (hw _ (List.mem_of_getElem? (i := 75) rfl))) (by decide) (t := .long) (t' := .boolean) (by decide) (by decide)))
  have c1054_5 := c1052_5.other W1053 (Or.inr (slot_ne (Or.inr (hw _ (List.mem_of_getElem? (i := 69) rfl))) (Or.inr (hw _ (List.mem_of_getElem? (i := 75) rfl))) (by decide) (t := (.array .byte)) (t' := .boolean) (by decide) (by decide)))
  have c1054_6 := c1052_6.other W1053 (Or.inr (slot_ne (Or.inr (hw _ (List.mem_of_getElem? (i := 71) rfl))) (Or.inr (hw _ (List.mem_of_getElem? (i := 75) rfl))) (by decide) (t := .long) (t' := .boolean) (by decide) (by decide)))
  have c1054_7 := Fw1051.other W1053 (Or.inr (slot_ne (Or.inr (hw _ (List.mem_of_getElem? (i := 73) rfl))) (Or.inr (hw _ (List.mem_of_getElem? (i := 75) rfl))) (by decide) (t := .long) (t' := .boolean) (by decide) (by decide)))
  have c1054_9 := c1052_9.other W1053 (Or.inr (slot_ne (Or.inr (hw _ (List.mem_of_getElem? (i := 77) rfl))) (Or.inr (hw _ (List.mem_of_getElem? (i := 75) rfl))) (by decide) (t := (.object "java/lang/String")) (t' := .boolean) (by decide) (by decide)))
  have Z1053 : n0 ≤ h1053.size := Nat.le_trans Z1051 (Nat.le_of_eq W1053.size.symm)
  have K1053 : Keep h0 h1053 [a1] := K1051.wr W1053 (Or.inl (List.mem_of_getElem? (i := 0) rfl))
  have N1053 := Fr.snoc X1053 N1051 g1
  obtain ⟨T1055, h1055, X1055, e1055, W1055, st1055⟩ := putF X1053 hx hZ hown (host := "") (Or.inl (hw _ (List.mem_of_getElem? (i := 76) rfl))) Via.refl e1053 c1054_9 c1054_0 (Or.inr ⟨(hw _ (List.mem_of_getElem? (i := 77) rfl)), rfl, hnm⟩) (hw _ (List.mem_of_getElem? (i := 13) rfl)) (ty := (.object "java/lang/String")) (by decide) rfl rfl (g := (mkF m 52 #[.val (.ref a1), .val (.ref a2), .val (.ref a3), .val (.int u1), .val (.long u2), .second, .val (.ref a4), .val (.long u3), .second, .val (.long (0 : Int64)), .second, .val (.int u4), .val .null] [.null, (.ref a1)])) rfl rfl (hb hby d10_52)
  have Fw1055 := c1054_9.same W1055
  have c1056_0 := c1054_0.wr W1055
  have c1056_1 := c1054_1.other W1055 (Or.inr (slot_ne (Or.inr (hw _ (List.mem_of_getElem? (i := 61) rfl))) (Or.inr (hw _ (List.mem_of_getElem? (i := 77) rfl))) (by decide) (t := (.object "com/example/hardy_cache/hardycache/server/Request$Command")) (t' := (.object "java/lang/String")) (by decide) (by decide)))
  have c1056_2 := c1054_2.other W1055 (Or.inr (slot_ne (Or.inr (hw _ (List.mem_of_getElem? (i := 63) rfl))) (Or.inr (hw _ (List.mem_of_getElem? (i := 77) rfl))) (by decide) (t := (.object "java/util/List")) (t' := (.object "java/lang/String")) (by decide) (by decide)))
  have c1056_3 := c1054_3.other W1055 (Or.inr (slot_ne (Or.inr (hw _ (List.mem_of_getElem? (i := 65) rfl))) (Or.inr (hw _ (List.mem_of_getElem? (i := 77) rfl))) (by decide) (t := .int) (t' := (.object "java/lang/String")) (by decide) (by decide)))
  have c1056_4 := c1054_4.other W1055 (Or.inr (slot_ne (Or.inr (hw _ (List.mem_of_getElem? (i := 67) rfl))) (Or.inr (hw _ (List.mem_of_getElem? (i := 77) rfl))) (by decide) (t := .long) (t' := (.object "java/lang/String")) (by decide) (by decide)))
  have c1056_5 := c1054_5.other W1055 (Or.inr (slot_ne (Or.inr (hw _ (List.mem_of_getElem? (i := 69) rfl))) (Or.inr (hw _ (List.mem_of_getElem? (i := 77) rfl))) (by decide) (t := (.array .byte)) (t' := (.object "java/lang/String")) (by decide) (by decide)))
  have c1056_6 := c1054_6.other W1055 (Or.inr (slot_ne (Or.inr (hw _ (List.mem_of_getElem? (i := 71) rfl))) (Or.inr (hw _ (List.mem_of_getElem? (i := 77) rfl))) (by decide) (t := .long) (t' := (.object "java/lang/String")) (by decide) (by decide)))
  have c1056_7 := c1054_7.other W1055 (Or.inr (slot_ne (Or.inr (hw _ (List.mem_of_getElem? (i := 73) rfl))) (Or.inr (hw _ (List.mem_of_getElem? (i := 77) rfl))) (by decide) (t := .long) (t' := (.object "java/lang/String")) (by decide) (by decide)))
  have c1056_8 := Fw1053.other W1055 (Or.inr (slot_ne (Or.inr (hw _ (List.mem_of_getElem? (i := 75) rfl))) (Or.inr (hw _ (List.mem_of_getElem? (i := 77) rfl))) (by decide) (t := .boolean) (t' := (.object "java/lang/String")) (by decide) (by decide)))
  have Z1055 : n0 ≤ h1055.size := Nat.le_trans Z1053 (Nat.le_of_eq W1055.size.symm)
  have K1055 : Keep h0 h1055 [a1] := K1053.wr W1055 (Or.inl (List.mem_of_getElem? (i := 0) rfl))
  have N1055 := Fr.snoc X1055 N1053 g1
  have P1057 : ∀ t, Steps p.tables e below (T1055.setTop (mkF m 55 #[.val (.ref a1), .val (.ref a2), .val (.ref a3), .val (.int u1), .val (.long u2), .second, .val (.ref a4), .val (.long u3), .second, .val (.long (0 : Int64)), .second, .val (.int u4), .val .null] [])) t → Steps p.tables e below (s₁.setTop (entryFrame m #[(.ref a1), (.ref a2), (.ref a3), (.int u1), (.long u2), (.ref a4), (.long u3), (.long (0 : Int64)), (.int u4), .null] 13)) t := fun t k => P0 t (by
    refine XS.aloadN X0.here hx rfl (hb hby d10_0) rfl rfl ?_
    show Steps p.tables e below (s₁.setTop (mkF m 1 #[.val (.ref a1), .val (.ref a2), .val (.ref a3), .val (.int u1), .val (.long u2), .second, .val (.ref a4), .val (.long u3), .second, .val (.long (0 : Int64)), .second, .val (.int u4), .val .null] [(.ref a1)])) _
    refine st1038 _ ?_
    show Steps p.tables e below (T1038.setTop (mkF m 4 #[.val (.ref a1), .val (.ref a2), .val (.ref a3), .val (.int u1), .val (.long u2), .second, .val (.ref a4), .val (.long u3), .second, .val (.long (0 : Int64)), .second, .val (.int u4), .val .null] [])) _
    refine XS.aloadN X1038.here hx rfl (hb hby d10_4) rfl rfl ?_
    show Steps p.tables e below (T1038.setTop (mkF m 5 #[.val (.ref a1), .val (.ref a2), .val (.ref a3), .val (.int u1), .val (.long u2), .second, .val (.ref a4), .val (.long u3), .second, .val (.long (0 : Int64)), .second, .val (.int u4), .val .null] [(.ref a1)])) _
    refine XS.aloadN X1038.here hx rfl (hb hby d10_5) rfl rfl ?_
    show Steps p.tables e below (T1038.setTop (mkF m 6 #[.val (.ref a1), .val (.ref a2), .val (.ref a3), .val (.int u1), .val (.long u2), .second, .val (.ref a4), .val (.long u3), .second, .val (.long (0 : Int64)), .second, .val (.int u4), .val .null] [(.ref a2), (.ref a1)])) _
    refine st1039 _ ?_
    show Steps p.tables e below (T1039.setTop (mkF m 9 #[.val (.ref a1), .val (.ref a2), .val (.ref a3), .val (.int u1), .val (.long u2), .second, .val (.ref a4), .val (.long u3), .second, .val (.long (0 : Int64)), .second, .val (.int u4), .val .null] [])) _
    refine XS.aloadN X1039.here hx rfl (hb hby d10_9) rfl rfl ?_
    show Steps p.tables e below (T1039.setTop (mkF m 10 #[.val (.ref a1), .val (.ref a2), .val (.ref a3), .val (.int u1), .val (.long u2), .second, .val (.ref a4), .val (.long u3), .second, .val (.long (0 : Int64)), .second, .val (.int u4), .val .null] [(.ref a1)])) _
    refine XS.aloadN X1039.here hx rfl (hb hby d10_10) rfl rfl ?_
    show Steps p.tables e below (T1039.setTop (mkF m 11 #[.val (.ref a1), .val (.ref a2), .val (.ref a3), .val (.int u1), .val (.long u2), .second, .val (.ref a4), .val (.long u3), .second, .val (.long (0 : Int64)), .second, .val (.int u4), .val .null] [(.ref a3), (.ref a1)])) _
    refine st1041 _ ?_
    show Steps p.tables e below (T1041.setTop (mkF m 14 #[.val (.ref a1), .val (.ref a2), .val (.ref a3), .val (.int u1), .val (.long u2), .second, .val (.ref a4), .val (.long u3), .second, .val (.long (0 : Int64)), .second, .val (.int u4), .val .null] [])) _
    refine XS.aloadN X1041.here hx rfl (hb hby d10_14) rfl rfl ?_
    show Steps p.tables e below (T1041.setTop (mkF m 15 #[.val (.ref a1), .val (.ref a2), .val (.ref a3), .val (.int u1), .val (.long u2), .second, .val (.ref a4), .val (.long u3), .second, .val (.long (0 : Int64)), .second, .val (.int u4), .val .null] [(.ref a1)])) _
    refine XS.iloadN X1041.here hx rfl (hb hby d10_15) rfl ?_
    show Steps p.tables e below (T1041.setTop (mkF m 16 #[.val (.ref a1), .val (.ref a2), .val (.ref a3), .val (.int u1), .val (.long u2), .second, .val (.ref a4), .val (.long u3), .second, .val (.long (0 : Int64)), .second, .val (.int u4), .val .null] [(.int u1), (.ref a1)])) _
    refine st1043 _ ?_
    show Steps p.tables e below (T1043.setTop (mkF m 19 #[.val (.ref a1), .val (.ref a2), .val (.ref a3), .val (.int u1), .val (.long u2), .second, .val (.ref a4), .val (.long u3), .second, .val (.long (0 : Int64)), .second, .val (.int u4), .val .null] [])) _
    refine XS.aloadN X1043.here hx rfl (hb hby d10_19) rfl rfl ?_
    show Steps p.tables e below (T1043.setTop (mkF m 20 #[.val (.ref a1), .val (.ref a2), .val (.ref a3), .val (.int u1), .val (.long u2), .second, .val (.ref a4), .val (.long u3), .second, .val (.long (0 : Int64)), .second, .val (.int u4), .val .null] [(.ref a1)])) _
    refine XS.lload X1043.here hx rfl (hb hby d10_20) rfl ?_
    show Steps p.tables e below (T1043.setTop (mkF m 22 #[.val (.ref a1), .val (.ref a2), .val (.ref a3), .val (.int u1), .val (.long u2), .second, .val (.ref a4), .val (.long u3), .second, .val (.long (0 : Int64)), .second, .val (.int u4), .val .null] [(.long u2), (.ref a1)])) _
    refine st1045 _ ?_
    show Steps p.tables e below (T1045.setTop (mkF m 25 #[.val (.ref a1), .val (.ref a2), .val (.ref a3), .val (.int u1), .val (.long u2), .second, .val (.ref a4), .val (.long u3), .second, .val (.long (0 : Int64)), .second, .val (.int u4), .val .null] [])) _
    refine XS.aloadN X1045.here hx rfl (hb hby d10_25) rfl rfl ?_
    show Steps p.tables e below (T1045.setTop (mkF m 26 #[.val (.ref a1), .val (.ref a2), .val (.ref a3), .val (.int u1), .val (.long u2), .second, .val (.ref a4), .val (.long u3), .second, .val (.long (0 : Int64)), .second, .val (.int u4), .val .null] [(.ref a1)])) _
    refine XS.aload X1045.here hx rfl (hb hby d10_26) rfl rfl ?_
    show Steps p.tables e below (T1045.setTop (mkF m 28 #[.val (.ref a1), .val (.ref a2), .val (.ref a3), .val (.int u1), .val (.long u2), .second, .val (.ref a4), .val (.long u3), .second, .val (.long (0 : Int64)), .second, .val (.int u4), .val .null] [(.ref a4), (.ref a1)])) _
    refine st1047 _ ?_
    show Steps p.tables e below (T1047.setTop (mkF m 31 #[.val (.ref a1), .val (.ref a2), .val (.ref a3), .val (.int u1), .val (.long u2), .second, .val (.ref a4), .val (.long u3), .second, .val (.long (0 : Int64)), .second, .val (.int u4), .val .null] [])) _
    refine XS.aloadN X1047.here hx rfl (hb hby d10_31) rfl rfl ?_
    show Steps p.tables e below (T1047.setTop (mkF m 32 #[.val (.ref a1), .val (.ref a2), .val (.ref a3), .val (.int u1), .val (.long u2), .second, .val (.ref a4), .val (.long u3), .second, .val (.long (0 : Int64)), .second, .val (.int u4), .val .null] [(.ref a1)])) _
    refine XS.lload X1047.here hx rfl (hb hby d10_32) rfl ?_
    show Steps p.tables e below (T1047.setTop (mkF m 34 #[.val (.ref a1), .val (.ref a2), .val (.ref a3), .val (.int u1), .val (.long u2), .second, .val (.ref a4), .val (.long u3), .second, .val (.long (0 : Int64)), .second, .val (.int u4), .val .null] [(.long u3), (.ref a1)])) _
    refine st1049 _ ?_
    show Steps p.tables e below (T1049.setTop (mkF m 37 #[.val (.ref a1), .val (.ref a2), .val (.ref a3), .val (.int u1), .val (.long u2), .second, .val (.ref a4), .val (.long u3), .second, .val (.long (0 : Int64)), .second, .val (.int u4), .val .null] [])) _
    refine XS.aloadN X1049.here hx rfl (hb hby d10_37) rfl rfl ?_
    show Steps p.tables e below (T1049.setTop (mkF m 38 #[.val (.ref a1), .val (.ref a2), .val (.ref a3), .val (.int u1), .val (.long u2), .second, .val (.ref a4), .val (.long u3), .second, .val (.long (0 : Int64)), .second, .val (.int u4), .val .null] [(.ref a1)])) _
    refine XS.lload X1049.here hx rfl (hb hby d10_38) rfl ?_
    show Steps p.tables e below (T1049.setTop (mkF m 40 #[.val (.ref a1), .val (.ref a2), .val (.ref a3), .val (.int u1), .val (.long u2), .second, .val (.ref a4), .val (.long u3), .second, .val (.long (0 : Int64)), .second, .val (.int u4), .val .null] [(.long (0 : Int64)), (.ref a1)])) _
    refine st1051 _ ?_
    show Steps p.tables e below (T1051.setTop (mkF m 43 #[.val (.ref a1), .val (.ref a2), .val (.ref a3), .val (.int u1), .val (.long u2), .second, .val (.ref a4), .val (.long u3), .second, .val (.long (0 : Int64)), .second, .val (.int u4), .val .null] [])) _
    refine XS.aloadN X1051.here hx rfl (hb hby d10_43) rfl rfl ?_
    show Steps p.tables e below (T1051.setTop (mkF m 44 #[.val (.ref a1), .val (.ref a2), .val (.ref a3), .val (.int u1), .val (.long u2), .second, .val (.ref a4), .val (.long u3), .second, .val (.long (0 : Int64)), .second, .val (.int u4), .val .null] [(.ref a1)])) _
    refine XS.iload X1051.here hx rfl (hb hby d10_44) rfl ?_
    show Steps p.tables e below (T1051.setTop (mkF m 46 #[.val (.ref a1), .val (.ref a2), .val (.ref a3), .val (.int u1), .val (.long u2), .second, .val (.ref a4), .val (.long u3), .second, .val (.long (0 : Int64)), .second, .val (.int u4), .val .null] [(.int u4), (.ref a1)])) _
    refine st1053 _ ?_
    show Steps p.tables e below (T1053.setTop (mkF m 49 #[.val (.ref a1), .val (.ref a2), .val (.ref a3), .val (.int u1), .val (.long u2), .second, .val (.ref a4), .val (.long u3), .second, .val (.long (0 : Int64)), .second, .val (.int u4), .val .null] [])) _
    refine XS.aloadN X1053.here hx rfl (hb hby d10_49) rfl rfl ?_
    show Steps p.tables e below (T1053.setTop (mkF m 50 #[.val (.ref a1), .val (.ref a2), .val (.ref a3), .val (.int u1), .val (.long u2), .second, .val (.ref a4), .val (.long u3), .second, .val (.long (0 : Int64)), .second, .val (.int u4), .val .null] [(.ref a1)])) _
    refine XS.aload X1053.here hx rfl (hb hby d10_50) rfl rfl ?_
    show Steps p.tables e below (T1053.setTop (mkF m 52 #[.val (.ref a1), .val (.ref a2), .val (.ref a3), .val (.int u1), .val (.long u2), .second, .val (.ref a4), .val (.long u3), .second, .val (.long (0 : Int64)), .second, .val (.int u4), .val .null] [.null, (.ref a1)])) _
    refine st1055 _ ?_
    show Steps p.tables e below (T1055.setTop (mkF m 55 #[.val (.ref a1), .val (.ref a2), .val (.ref a3), .val (.int u1), .val (.long u2), .second, .val (.ref a4), .val (.long u3), .second, .val (.long (0 : Int64)), .second, .val (.int u4), .val .null] [])) _
    exact k)
  obtain ⟨fs, hr, hrun, hended, hW, hsame⟩ := X1055.leave (v := none) (fun _ => rfl)
  refine ⟨_, _, P1057 _ ?_, hrun, hended, _, _, rfl, ?_, ⟨_, rfl⟩, hW, hsame.mono (by decide) (by decide)⟩
  · exact X1055.returnOut hx Bd.returns (hb hby d10_55) hr
  · show Q_rinit Z a1 a2 a3 u1 u2 a4 u3 u4 h0 n0 _ T1055.heap _
    rw [e1055]
    exact ⟨rfl, N1055, K1055, c1056_0, c1056_1, c1056_2, c1056_3, c1056_4, c1056_5, c1056_6, c1056_8⟩
theorem ef_stor (m : MethodId) (x0 : Addr) (x1 : Addr) (x2 : Int32) (x3 : Int64) (x4 : Addr) (x5 : Int64) (x6 : Int32) : entryFrame m #[(.ref x0), (.ref x1), (.int x2), (.long x3), (.ref x4), (.long x5), (.int x6)] 9 = mkF m 0 #[.val (.ref x0), .val (.ref x1), .val (.int x2), .val (.long x3), .second, .val (.ref x4), .val (.long x5), .second, .val (.int x6)] [] := by first | (simp [entryFrame, mkF, argsToLocals, Value.category]; done) | rfl
def Q_stor (Z : State) (a2 : Addr) (a5 : Addr) (u1 : Int32) (u2 : Int64) (a4 : Addr) (u3 : Int64) (u4 : Int32) (em : Addr) (h0 : Heap) (n0 : Nat) (v : Option Value) (h : Heap) (L : List Loc) : Prop := ∃ (r a3 : Addr), v = some (.ref r) ∧ Fr n0 L ∧ Keep h0 h [] ∧ h0.size ≤ r ∧ h0.size ≤ a3 ∧ Exa Z h r "com/example/hardy_cache/hardycache/server/Request" ∧ Fld Z h r "com/example/hardy_cache/hardycache/server/Request" "command" "Lcom/example/hardy_cache/hardycache/server/Request$Command;" (.ref a2) ∧ Fld Z h r "com/example/hardy_cache/hardycache/server/Request" "keys" "Ljava/util/List;" (.ref a3) ∧ Fld Z h r "com/example/hardy_cache/hardycache/server/Request" "flags" "I" (.int u1) ∧ Fld Z h r "com/example/hardy_cache/hardycache/server/Request" "exptime" "J" (.long u2) ∧ Fld Z h r "com/example/hardy_cache/hardycache/server/Request" "value" "[B" (.ref a4) ∧ Fld Z h r "com/example/hardy_cache/hardycache/server/Request" "casUnique" "J" (.long u3) ∧ Fld Z h r "com/example/hardy_cache/hardycache/server/Request" "noreply" "Z" (.int u4) ∧ Exa Z h a3 "java/util/ImmutableCollections$List12" ∧ Fld Z h a3 "java/util/ImmutableCollections$List12" "e0" "Ljava/lang/Object;" (.ref a5) ∧ Fld Z h a3 "java/util/ImmutableCollections$List12" "e1" "Ljava/lang/Object;" (.ref em)
theorem d2_0 : decode prog_11_method_3_code 0 = .ok (.new 8, 3) := by decide +kernel
theorem d2_3 : decode prog_11_method_3_code 3 = .ok (.dup, 1) := by decide +kernel
theorem d2_4 : decode prog_11_method_3_code 4 = .ok (.aload_n 0, 1) := by decide +kernel
theorem d2_5 : decode prog_11_method_3_code 5 = .ok (.aload_n 1, 1) := by decide +kernel
theorem d2_6 : decode prog_11_method_3_code 6 = .ok (.invokestatic 52, 3) := by decide +kernel
theorem pd_3 : parseMethodDescriptor "(Ljava/lang/Object;)Ljava/util/List;" = some ⟨[(.object "java/lang/Object")], some (.object "java/util/List")⟩ := by decide +kernel
theorem d2_9 : decode prog_11_method_3_code 9 = .ok (.iload_n 2, 1) := by decide +kernel
theorem d2_10 : decode prog_11_method_3_code 10 = .ok (.lload_n 3, 1) := by decide +kernel
theorem d2_11 : decode prog_11_method_3_code 11 = .ok (.aload 5, 2) := by decide +kernel
theorem d2_13 : decode prog_11_method_3_code 13 = .ok (.lload 6, 2) := by decide +kernel
theorem d2_15 : decode prog_11_method_3_code 15 = .ok (.lconst 0, 1) := by decide +kernel
theorem d2_16 : decode prog_11_method_3_code 16 = .ok (.iload 8, 2) := by decide +kernel
theorem d2_18 : decode prog_11_method_3_code 18 = .ok (.aconst_null, 1) := by decide +kernel
theorem d2_19 : decode prog_11_method_3_code 19 = .ok (.invokespecial 49, 3) := by decide +kernel
theorem pd_4 : parseMethodDescriptor "(Lcom/example/hardy_cache/hardycache/server/Request$Command;Ljava/util/List;IJ[BJJZLjava/lang/String;)V" = some ⟨[(.object "com/example/hardy_cache/hardycache/server/Request$Command"), (.object "java/util/List"), .int, .long, (.array .byte), .long, .long, .boolean, (.object "java/lang/String")], none⟩ := by decide +kernel
theorem d2_22 : decode prog_11_method_3_code 22 = .ok (.areturn, 1) := by decide +kernel
set_option maxRecDepth 65536 in
set_option maxHeartbeats 40000000 in
theorem rm_stor (l : Launch) (Z : State) (a0 : Array Value) (hw : ∀ d ∈ tables_1, d.before a0 Z = true) (ws : List Jvm.Cond) (a2 : Addr) (a5 : Addr) (u1 : Int32) (u2 : Int64) (a4 : Addr) (u3 : Int64) (u4 : Int32) (em : Addr) (h0 : Heap) (n0 : Nat) (Z0 : n0 ≤ h0.size) (SE : Sta Z Z.heap "java/util/ImmutableCollections" "EMPTY" "Ljava/lang/Object;" (.ref em)) (O1 : Old Z n0 h0) (hn : nar .boolean u4 = u4) :
    MetFree l (⟨"com/example/hardy_cache/hardycache/server/Request", "storage", "(Lcom/example/hardy_cache/hardycache/server/Request$Command;[BIJ[BJZ)Lcom/example/hardy_cache/hardycache/server/Request;"⟩ : MethodName) (head1 (Jvm.Cond.code (⟨"com/example/hardy_cache/hardycache/server/Request", "storage", "(Lcom/example/hardy_cache/hardycache/server/Request$Command;[BIJ[BJZ)Lcom/example/hardy_cache/hardycache/server/Request;"⟩ : MethodName) prog_11_method_3_code 9 (some (.object "com/example/hardy_cache/hardycache/server/Request")) :: ws) ({ frames := 6, cells := 2, slots := 11, locals := 77 } : Room)) (fun a U => a = #[(.ref a2), (.ref a5), (.int u1), (.long u2), (.ref a4), (.long u3), (.int u4)] ∧ Z.Warmed39 U.vm ∧ U.heap = h0) (fun _ _ _ _ _ => True) (fun _ U o U' => ∃ v L, o = .returned v ∧ Q_stor Z a2 a5 u1 u2 a4 u3 u4 em h0 n0 v U'.heap L ∧ FrameEnd U o U' L ({ frames := 6, cells := 2, slots := 11, locals := 77 } : Room).cells ({ frames := 6, cells := 2, slots := 11, locals := 77 } : Room).slots) := by
  refine MetFree.of_bodySF (plainFor_of_name pn_7) hisR ?_
  intro p e s m args below meth c s₁ Bd hml0 hP hK
  obtain ⟨rfl, hZ, hh⟩ := hP
  have hx := Bd.exec
  have hby := Bd.bytes
  have hml : c.maxLocals = 9 := hml0
  have hown : s.vm.findClass "com/example/hardy_cache/hardycache/server/Request" = some m.cls := findClass_of_methodNamed Bd.named
  have hnm := (name_of_methodNamed Bd.named Bd.method).1
  have X0 : Stand p l e ({ frames := 6, cells := 2, slots := 11, locals := 77 } : Room) s m #[(.ref a2), (.ref a5), (.int u1), (.long u2), (.ref a4), (.long u3), (.int u4)] below meth c s₁ [] 0 0 := Stand.of_body Bd
  have e0 : s₁.heap = h0 := by rw [← hh, Bd.state]; rfl
  have N0 := Fr.nil n0
  have K0 : Keep h0 h0 [] := Keep.refl h0 []
  have P0 : ∀ t, Steps p.tables e below (s₁.setTop (mkF m 0 #[.val (.ref a2), .val (.ref a5), .val (.int u1), .val (.long u2), .second, .val (.ref a4), .val (.long u3), .second, .val (.int u4)] [])) t → Steps p.tables e below (s₁.setTop (entryFrame m #[(.ref a2), (.ref a5), (.int u1), (.long u2), (.ref a4), (.long u3), (.int u4)] 9)) t := fun t k => castTop (ef_stor m a2 a5 u1 u2 a4 u3 u4) k
  obtain ⟨T1058, h1058, X1058, e1058, E1058, A1058, D1058, -, st1058⟩ := newO X0 hx hZ hown (hw _ (List.mem_of_getElem? (i := 12) rfl)) (hw _ (List.mem_of_getElem? (i := 13) rfl)) (hw _ (List.mem_of_getElem? (i := 10) rfl)) e0 (g := (mkF m 0 #[.val (.ref a2), .val (.ref a5), .val (.int u1), .val (.long u2), .second, .val (.ref a4), .val (.long u3), .second, .val (.int u4)] [])) rfl (hb hby d2_0) (by decide) (by decide)
  obtain ⟨b1058, g1058⟩ : ∃ z, z = h0.size := ⟨_, rfl⟩
  rw [← g1058] at A1058 D1058 st1058
  have g_b1058 : n0 ≤ b1058 := Nat.le_trans Z0 (Nat.le_of_eq g1058.symm)
  have sz_b1058 : h0.size ≤ b1058 := Nat.le_trans K0.1 (Nat.le_of_eq g1058.symm)
  have c1059_0 := O1.ext E1058
  have Z1058 : n0 ≤ h1058.size := Nat.le_trans Z0 E1058.1
  have K1058 : Keep h0 h1058 [] := K0.ext E1058
  have F1058_command : Fld Z h1058 b1058 "com/example/hardy_cache/hardycache/server/Request" "command" "Lcom/example/hardy_cache/hardycache/server/Request$Command;" .null := D1058 (Or.inr (hw _ (List.mem_of_getElem? (i := 61) rfl))) (ty := (.object "com/example/hardy_cache/hardycache/server/Request$Command")) (by decide)
  have F1058_keys : Fld Z h1058 b1058 "com/example/hardy_cache/hardycache/server/Request" "keys" "Ljava/util/List;" .null := D1058 (Or.inr (hw _ (List.mem_of_getElem? (i := 63) rfl))) (ty := (.object "java/util/List")) (by decide)
  have F1058_flags : Fld Z h1058 b1058 "com/example/hardy_cache/hardycache/server/Request" "flags" "I" (.int (0 : Int32)) := D1058 (Or.inr (hw _ (List.mem_of_getElem? (i := 65) rfl))) (ty := .int) (by decide)
  have F1058_exptime : Fld Z h1058 b1058 "com/example/hardy_cache/hardycache/server/Request" "exptime" "J" (.long (0 : Int64)) := D1058 (Or.inr (hw _ (List.mem_of_getElem? (i := 67) rfl))) (ty := .long) (by decide)
  have F1058_value : Fld Z h1058 b1058 "com/example/hardy_cache/hardycache/server/Request" "value" "[B" .null := D1058 (Or.inr (hw _ (List.mem_of_getElem? (i := 69) rfl))) (ty := (.array .byte)) (by decide)
  have F1058_casUnique : Fld Z h1058 b1058 "com/example/hardy_cache/hardycache/server/Request" "casUnique" "J" (.long (0 : Int64)) := D1058 (Or.inr (hw _ (List.mem_of_getElem? (i := 71) rfl))) (ty := .long) (by decide)
  have F1058_delta : Fld Z h1058 b1058 "com/example/hardy_cache/hardycache/server/Request" "delta" "J" (.long (0 : Int64)) := D1058 (Or.inr (hw _ (List.mem_of_getElem? (i := 73) rfl))) (ty := .long) (by decide)
  have F1058_noreply : Fld Z h1058 b1058 "com/example/hardy_cache/hardycache/server/Request" "noreply" "Z" (.int (0 : Int32)) := D1058 (Or.inr (hw _ (List.mem_of_getElem? (i := 75) rfl))) (ty := .boolean) (by decide)
  have F1058_statsGroup : Fld Z h1058 b1058 "com/example/hardy_cache/hardycache/server/Request" "statsGroup" "Ljava/lang/String;" .null := D1058 (Or.inr (hw _ (List.mem_of_getElem? (i := 77) rfl))) (ty := (.object "java/lang/String")) (by decide)
  obtain ⟨_, _, ⟨T1060, L1060, k1060, n1060⟩, -, X1060, ⟨Lc1060, hQ1060, l1060, y1060, z1060⟩, st1060⟩ := Jvm.LawKit.callS X1058 hx (y := (⟨"java/util/List", "of", "(Ljava/lang/Object;)Ljava/util/List;"⟩ : MethodName)) hown (mvT hZ (hw _ (List.mem_of_getElem? (i := 14) rfl))) (mvT hZ (hw _ (List.mem_of_getElem? (i := 15) rfl))) (mvT hZ (hw _ (List.mem_of_getElem? (i := 16) rfl))) (mvT hZ (hw _ (List.mem_of_getElem? (i := 17) rfl))) (by decide) (backOf (W := 3) (rm_lof l Z a0 hw [] a5 em h1058 n0 Z1058 SE c1059_0) hZ (hw _ (List.mem_of_getElem? (i := 17) rfl)) (hw _ (List.mem_of_getElem? (i := 16) rfl)) (by decide) (by decide)) (g := (mkF m 6 #[.val (.ref a2), .val (.ref a5), .val (.int u1), .val (.long u2), .second, .val (.ref a4), .val (.long u3), .second, .val (.int u4)] [(.ref a5), (.ref a2), (.ref b1058), (.ref b1058)])) rfl (by rw [hml]; rfl) (argsL := [(.ref a5)]) (rest := [(.ref a2), (.ref b1058), (.ref b1058)]) (lenOf pd_3 rfl) rfl (by show 2 * 0 + _ ≤ _; exact Nat.le_of_eq rfl) (hb hby d2_6) (fun _ _ => ⟨rfl, e1058, (by decide : 1 + 1 ≤ _), (by decide : 9 + 2 ≤ _)⟩)
  dsimp only [Pt.U, Pt.locs, Pt.cells, Pt.slots] at X1060 l1060 y1060 z1060 st1060 hQ1060
  subst l1060 y1060 z1060
  obtain ⟨a3, rfl, N1060q, Kl, hl3, El, Fl0, Fl1⟩ := hQ1060
  have N1060 := Fr.app N0 N1060q
  have ne_b1058_a3 : b1058 ≠ a3 := Nat.ne_of_lt (Nat.lt_of_lt_of_le A1058.lt hl3)
  have g_a3 : n0 ≤ a3 := Nat.le_trans Z1058 hl3
  have sz_a3 : h0.size ≤ a3 := Nat.le_trans K1058.1 hl3
  have c1061_0 := c1059_0.keep Kl all0
  have c1061_1 := A1058.keep Kl
  have c1061_2 := F1058_command.keep Kl nin0
  have c1061_3 := F1058_keys.keep Kl nin0
  have c1061_4 := F1058_flags.keep Kl nin0
  have c1061_5 := F1058_exptime.keep Kl nin0
  have c1061_6 := F1058_value.keep Kl nin0
  have c1061_7 := F1058_casUnique.keep Kl nin0
  have c1061_8 := F1058_delta.keep Kl nin0
  have c1061_9 := F1058_noreply.keep Kl nin0
  have c1061_10 := F1058_statsGroup.keep Kl nin0
  have Z1060 : n0 ≤ T1060.heap.size := Nat.le_trans Z1058 Kl.1
  have K1060 : Keep h0 T1060.heap [] := K1058.trans Kl all0
  obtain ⟨_, _, ⟨T1062, L1062, k1062, n1062⟩, -, X1062, ⟨Lc1062, hQ1062, l1062, y1062, z1062⟩, st1062⟩ := X1060.specialBack hx (y := (⟨"com/example/hardy_cache/hardycache/server/Request", "<init>", "(Lcom/example/hardy_cache/hardycache/server/Request$Command;Ljava/util/List;IJ[BJJZLjava/lang/String;)V"⟩ : MethodName)) rfl hown (mvT hZ (hw _ (List.mem_of_getElem? (i := 56) rfl))) (mvT hZ (hw _ (List.mem_of_getElem? (i := 57) rfl))) (mvT hZ (hw _ (List.mem_of_getElem? (i := 58) rfl))) (by decide) (backOf (W := 1) (rm_rinit l Z a0 hw [] b1058 a2 a3 u1 u2 a4 u3 u4 T1060.heap n0 Z1060 c1061_1 c1061_2 c1061_3 c1061_4 c1061_5 c1061_6 c1061_7 c1061_8 c1061_9 c1061_10 g_b1058 hn) hZ (hw _ (List.mem_of_getElem? (i := 58) rfl)) (hw _ (List.mem_of_getElem? (i := 10) rfl)) (by decide) (by decide)) (g := (mkF m 19 #[.val (.ref a2), .val (.ref a5), .val (.int u1), .val (.long u2), .second, .val (.ref a4), .val (.long u3), .second, .val (.int u4)] [.null, (.int u4), (.long (0 : Int64)), (.long u3), (.ref a4), (.long u2), (.int u1), (.ref a3), (.ref a2), (.ref b1058), (.ref b1058)])) rfl (by rw [hml]; rfl) (Steps.refl _) (a := b1058) (argsL := [(.ref a2), (.ref a3), (.int u1), (.long u2), (.ref a4), (.long u3), (.long (0 : Int64)), (.int u4), .null]) (rest := [(.ref b1058)]) (lenOf pd_4 rfl) rfl (by show 2 * 0 + _ ≤ _; exact Nat.le_of_eq rfl) (hb hby d2_19) (fun _ _ => ⟨rfl, rfl, (by decide : 2 + 0 ≤ _), (by decide : 11 + 0 ≤ _)⟩)
  dsimp only [Pt.U, Pt.locs, Pt.cells, Pt.slots] at X1062 l1062 y1062 z1062 st1062 hQ1062
  subst l1062 y1062 z1062
  obtain ⟨rfl, N1062q, Kr, Er, Fr_command, Fr_keys, Fr_flags, Fr_exptime, Fr_value, Fr_casUnique, Fr_noreply⟩ := hQ1062
  have N1062 := Fr.app N1060 N1062q
  have c1063_0 := c1061_0.keep Kr (allS g_b1058 all0)
  have c1063_1 := El.keep Kr
  have c1063_2 := Fl0.keep Kr (ninS (Ne.symm ne_b1058_a3) nin0)
  have c1063_3 := Fl1.keep Kr (ninS (Ne.symm ne_b1058_a3) nin0)
  have Z1062 : n0 ≤ T1062.heap.size := Nat.le_trans Z1060 Kr.1
  have K1062 : Keep h0 T1062.heap [] := K1060.trans Kr (allS (Or.inr sz_b1058) all0)
  have P1064 : ∀ t, Steps p.tables e below (T1062.setTop (mkF m 22 #[.val (.ref a2), .val (.ref a5), .val (.int u1), .val (.long u2), .second, .val (.ref a4), .val (.long u3), .second, .val (.int u4)] [(.ref b1058)])) t → Steps p.tables e below (s₁.setTop (entryFrame m #[(.ref a2), (.ref a5), (.int u1), (.long u2), (.ref a4), (.long u3), (.int u4)] 9)) t := fun t k => P0 t (by
    refine st1058 _ ?_
    show Steps p.tables e below (T1058.setTop (mkF m 3 #[.val (.ref a2), .val (.ref a5), .val (.int u1), .val (.long u2), .second, .val (.ref a4), .val (.long u3), .second, .val (.int u4)] [(.ref b1058)])) _
    refine XS.dup X1058.here hx rfl (hb hby d2_3) rfl rfl ?_
    show Steps p.tables e below (T1058.setTop (mkF m 4 #[.val (.ref a2), .val (.ref a5), .val (.int u1), .val (.long u2), .second, .val (.ref a4), .val (.long u3), .second, .val (.int u4)] [(.ref b1058), (.ref b1058)])) _
    refine XS.aloadN X1058.here hx rfl (hb hby d2_4) rfl rfl ?_
    show Steps p.tables e below (T1058.setTop (mkF m 5 #[.val (.ref a2), .val (.ref a5), .val (.int u1), .val (.long u2), .second, .val (.ref a4), .val (.long u3), .second, .val (.int u4)] [(.ref a2), (.ref b1058), (.ref b1058)])) _
    refine XS.aloadN X1058.here hx rfl (hb hby d2_5) rfl rfl ?_
    show Steps p.tables e below (T1058.setTop (mkF m 6 #[.val (.ref a2), .val (.ref a5), .val (.int u1), .val (.long u2), .second, .val (.ref a4), .val (.long u3), .second, .val (.int u4)] [(.ref a5), (.ref a2), (.ref b1058), (.ref b1058)])) _
    refine st1060 _ ?_
    show Steps p.tables e below (T1060.setTop (mkF m 9 #[.val (.ref a2), .val (.ref a5), .val (.int u1), .val (.long u2), .second, .val (.ref a4), .val (.long u3), .second, .val (.int u4)] [(.ref a3), (.ref a2), (.ref b1058), (.ref b1058)])) _
    refine XS.iloadN X1060.here hx rfl (hb hby d2_9) rfl ?_
    show Steps p.tables e below (T1060.setTop (mkF m 10 #[.val (.ref a2), .val (.ref a5), .val (.int u1), .val (.long u2), .second, .val (.ref a4), .val (.long u3), .second, .val (.int u4)] [(.int u1), (.ref a3), (.ref a2), (.ref b1058), (.ref b1058)])) _
    refine XS.lloadN X1060.here hx rfl (hb hby d2_10) rfl ?_
    show Steps p.tables e below (T1060.setTop (mkF m 11 #[.val (.ref a2), .val (.ref a5), .val (.int u1), .val (.long u2), .second, .val (.ref a4), .val (.long u3), .second, .val (.int u4)] [(.long u2), (.int u1), (.ref a3), (.ref a2), (.ref b1058), (.ref b1058)])) _
    refine XS.aload X1060.here hx rfl (hb hby d2_11) rfl rfl ?_
    show Steps p.tables e below (T1060.setTop (mkF m 13 #[.val (.ref a2), .val (.ref a5), .val (.int u1), .val (.long u2), .second, .val (.ref a4), .val (.long u3), .second, .val (.int u4)] [(.ref a4), (.long u2), (.int u1), (.ref a3), (.ref a2), (.ref b1058), (.ref b1058)])) _
    refine XS.lload X1060.here hx rfl (hb hby d2_13) rfl ?_
    show Steps p.tables e below (T1060.setTop (mkF m 15 #[.val (.ref a2), .val (.ref a5), .val (.int u1), .val (.long u2), .second, .val (.ref a4), .val (.long u3), .second, .val (.int u4)] [(.long u3), (.ref a4), (.long u2), (.int u1), (.ref a3), (.ref a2), (.ref b1058), (.ref b1058)])) _
    refine XS.lconst X1060.here hx rfl (hb hby d2_15) ?_
    show Steps p.tables e below (T1060.setTop (mkF m 16 #[.val (.ref a2), .val (.ref a5), .val (.int u1), .val (.long u2), .second, .val (.ref a4), .val (.long u3), .second, .val (.int u4)] [(.long (0 : Int64)), (.long u3), (.ref a4), (.long u2), (.int u1), (.ref a3), (.ref a2), (.ref b1058), (.ref b1058)])) _
    refine XS.iload X1060.here hx rfl (hb hby d2_16) rfl ?_
    show Steps p.tables e below (T1060.setTop (mkF m 18 #[.val (.ref a2), .val (.ref a5), .val (.int u1), .val (.long u2), .second, .val (.ref a4), .val (.long u3), .second, .val (.int u4)] [(.int u4), (.long (0 : Int64)), (.long u3), (.ref a4), (.long u2), (.int u1), (.ref a3), (.ref a2), (.ref b1058), (.ref b1058)])) _
    refine XS.aconstNull X1060.here hx rfl (hb hby d2_18) ?_
    show Steps p.tables e below (T1060.setTop (mkF m 19 #[.val (.ref a2), .val (.ref a5), .val (.int u1), .val (.long u2), .second, .val (.ref a4), .val (.long u3), .second, .val (.int u4)] [.null, (.int u4), (.long (0 : Int64)), (.long u3), (.ref a4), (.long u2), (.int u1), (.ref a3), (.ref a2), (.ref b1058), (.ref b1058)])) _
    refine st1062.trans ?_
    show Steps p.tables e below (T1062.setTop (mkF m 22 #[.val (.ref a2), .val (.ref a5), .val (.int u1), .val (.long u2), .second, .val (.ref a4), .val (.long u3), .second, .val (.int u4)] [(.ref b1058)])) _
    exact k)
  obtain ⟨fs, hr, hrun, hended, hW, hsame⟩ := X1062.leave (v := some (.ref b1058)) (fun h => by rw [Bd.returns] at h; cases h)
  refine ⟨_, _, P1064 _ ?_, hrun, hended, _, _, rfl, ?_, ⟨_, rfl⟩, hW, hsame.mono (by decide) (by decide)⟩
  · jvm_step X1062.here [X1062.here.top, hx, (hb hby d2_22), X1062.method', Bd.returns, Value.isRef, FieldType.isReference]
    first | (intro acts; rw [hr _ acts rfl rfl rfl]) | rw [hr _ _ rfl rfl rfl]
    exact Steps.refl _
  · show Q_stor Z a2 a5 u1 u2 a4 u3 u4 em h0 n0 _ T1062.heap _
    exact ⟨b1058, a3, rfl, N1062, K1062, sz_b1058, sz_a3, Er, Fr_command, Fr_keys, Fr_flags, Fr_exptime, Fr_value, Fr_casUnique, Fr_noreply, c1063_1, c1063_2, c1063_3⟩
theorem ef_getCommand (m : MethodId) (x0 : Addr) : entryFrame m #[(.ref x0)] 1 = mkF m 0 #[.val (.ref x0)] [] := by first | (simp [entryFrame, mkF, argsToLocals, Value.category]; done) | rfl
def Q_getCommand (Z : State) (a1 : Addr) (u1 : Addr) (h0 : Heap) (n0 : Nat) (v : Option Value) (h : Heap) (L : List Loc) : Prop := v = some (.ref u1) ∧ Fr n0 L ∧ h = h0
theorem d11_0 : decode prog_11_method_10_code 0 = .ok (.aload_n 0, 1) := by decide +kernel
theorem d11_1 : decode prog_11_method_10_code 1 = .ok (.getfield 7, 3) := by decide +kernel
theorem d11_4 : decode prog_11_method_10_code 4 = .ok (.areturn, 1) := by decide +kernel
set_option maxRecDepth 65536 in
set_option maxHeartbeats 40000000 in
theorem rm_getCommand (l : Launch) (Z : State) (a0 : Array Value) (hw : ∀ d ∈ tables_1, d.before a0 Z = true) (ws : List Jvm.Cond) (a1 : Addr) (u1 : Addr) (h0 : Heap) (n0 : Nat) (Z0 : n0 ≤ h0.size) (F1 : Fld Z h0 a1 "com/example/hardy_cache/hardycache/server/Request" "command" "Lcom/example/hardy_cache/hardycache/server/Request$Command;" (.ref u1)) :
    MetFree l (⟨"com/example/hardy_cache/hardycache/server/Request", "getCommand", "()Lcom/example/hardy_cache/hardycache/server/Request$Command;"⟩ : MethodName) (head1 (Jvm.Cond.code (⟨"com/example/hardy_cache/hardycache/server/Request", "getCommand", "()Lcom/example/hardy_cache/hardycache/server/Request$Command;"⟩ : MethodName) prog_11_method_10_code 1 (some (.object "com/example/hardy_cache/hardycache/server/Request$Command")) :: ws) ({ frames := 0, cells := 0, slots := 0, locals := 0 } : Room)) (fun a U => a = #[(.ref a1)] ∧ Z.Warmed39 U.vm ∧ U.heap = h0) (fun _ _ _ _ _ => True) (fun _ U o U' => ∃ v L, o = .returned v ∧ Q_getCommand Z a1 u1 h0 n0 v U'.heap L ∧ FrameEnd U o U' L ({ frames := 0, cells := 0, slots := 0, locals := 0 } : Room).cells ({ frames := 0, cells := 0, slots := 0, locals := 0 } : Room).slots) := by
  refine MetFree.of_bodySF (plainFor_of_name pn_7) hisR ?_
  intro p e s m args below meth c s₁ Bd hml0 hP hK
  obtain ⟨rfl, hZ, hh⟩ := hP
  have hx := Bd.exec
  have hby := Bd.bytes
  have hml : c.maxLocals = 1 := hml0
  have hown : s.vm.findClass "com/example/hardy_cache/hardycache/server/Request" = some m.cls := findClass_of_methodNamed Bd.named
  have hnm := (name_of_methodNamed Bd.named Bd.method).1
  have X0 : Stand p l e ({ frames := 0, cells := 0, slots := 0, locals := 0 } : Room) s m #[(.ref a1)] below meth c s₁ [] 0 0 := Stand.of_body Bd
  have e0 : s₁.heap = h0 := by rw [← hh, Bd.state]; rfl
  have N0 := Fr.nil n0
  have K0 : Keep h0 h0 [] := Keep.refl h0 []
  have P0 : ∀ t, Steps p.tables e below (s₁.setTop (mkF m 0 #[.val (.ref a1)] [])) t → Steps p.tables e below (s₁.setTop (entryFrame m #[(.ref a1)] 1)) t := fun t k => castTop (ef_getCommand m a1) k
  obtain ⟨T1065, X1065, e1065, st1065⟩ := getF X0 hx hZ hown (host := "") (Or.inl (hw _ (List.mem_of_getElem? (i := 60) rfl))) Via.refl e0 F1 (g := (mkF m 1 #[.val (.ref a1)] [(.ref a1)])) rfl rfl (hb hby d11_1)
  have P1066 : ∀ t, Steps p.tables e below (T1065.setTop (mkF m 4 #[.val (.ref a1)] [(.ref u1)])) t → Steps p.tables e below (s₁.setTop (entryFrame m #[(.ref a1)] 1)) t := fun t k => P0 t (by
    refine XS.aloadN X0.here hx rfl (hb hby d11_0) rfl rfl ?_
    show Steps p.tables e below (s₁.setTop (mkF m 1 #[.val (.ref a1)] [(.ref a1)])) _
    refine st1065 _ ?_
    show Steps p.tables e below (T1065.setTop (mkF m 4 #[.val (.ref a1)] [(.ref u1)])) _
    exact k)
  obtain ⟨fs, hr, hrun, hended, hW, hsame⟩ := X1065.leave (v := some (.ref u1)) (fun h => by rw [Bd.returns] at h; cases h)
  refine ⟨_, _, P1066 _ ?_, hrun, hended, _, _, rfl, ?_, ⟨_, rfl⟩, hW, hsame.mono (by decide) (by decide)⟩
  · jvm_step X1065.here [X1065.here.top, hx, (hb hby d11_4), X1065.method', Bd.returns, Value.isRef, FieldType.isReference]
    first | (intro acts; rw [hr _ acts rfl rfl rfl]) | rw [hr _ _ rfl rfl rfl]
    exact Steps.refl _
  · show Q_getCommand Z a1 u1 h0 n0 _ T1065.heap _
    rw [e1065]
    exact ⟨rfl, N0, rfl⟩
theorem ef_getKeys (m : MethodId) (x0 : Addr) : entryFrame m #[(.ref x0)] 1 = mkF m 0 #[.val (.ref x0)] [] := by first | (simp [entryFrame, mkF, argsToLocals, Value.category]; done) | rfl
def Q_getKeys (Z : State) (a1 : Addr) (u1 : Addr) (h0 : Heap) (n0 : Nat) (v : Option Value) (h : Heap) (L : List Loc) : Prop := v = some (.ref u1) ∧ Fr n0 L ∧ h = h0
theorem d12_0 : decode prog_11_method_11_code 0 = .ok (.aload_n 0, 1) := by decide +kernel
theorem d12_1 : decode prog_11_method_11_code 1 = .ok (.getfield 13, 3) := by decide +kernel
theorem d12_4 : decode prog_11_method_11_code 4 = .ok (.areturn, 1) := by decide +kernel
set_option maxRecDepth 65536 in
set_option maxHeartbeats 40000000 in
theorem rm_getKeys (l : Launch) (Z : State) (a0 : Array Value) (hw : ∀ d ∈ tables_1, d.before a0 Z = true) (ws : List Jvm.Cond) (a1 : Addr) (u1 : Addr) (h0 : Heap) (n0 : Nat) (Z0 : n0 ≤ h0.size) (F1 : Fld Z h0 a1 "com/example/hardy_cache/hardycache/server/Request" "keys" "Ljava/util/List;" (.ref u1)) :
    MetFree l (⟨"com/example/hardy_cache/hardycache/server/Request", "getKeys", "()Ljava/util/List;"⟩ : MethodName) (head1 (Jvm.Cond.code (⟨"com/example/hardy_cache/hardycache/server/Request", "getKeys", "()Ljava/util/List;"⟩ : MethodName) prog_11_method_11_code 1 (some (.object "java/util/List")) :: ws) ({ frames := 0, cells := 0, slots := 0, locals := 0 } : Room)) (fun a U => a = #[(.ref a1)] ∧ Z.Warmed39 U.vm ∧ U.heap = h0) (fun _ _ _ _ _ => True) (fun _ U o U' => ∃ v L, o = .returned v ∧ Q_getKeys Z a1 u1 h0 n0 v U'.heap L ∧ FrameEnd U o U' L ({ frames := 0, cells := 0, slots := 0, locals := 0 } : Room).cells ({ frames := 0, cells := 0, slots := 0, locals := 0 } : Room).slots) := by
  refine MetFree.of_bodySF (plainFor_of_name pn_7) hisR ?_
  intro p e s m args below meth c s₁ Bd hml0 hP hK
  obtain ⟨rfl, hZ, hh⟩ := hP
  have hx := Bd.exec
  have hby := Bd.bytes
  have hml : c.maxLocals = 1 := hml0
  have hown : s.vm.findClass "com/example/hardy_cache/hardycache/server/Request" = some m.cls := findClass_of_methodNamed Bd.named
  have hnm := (name_of_methodNamed Bd.named Bd.method).1
  have X0 : Stand p l e ({ frames := 0, cells := 0, slots := 0, locals := 0 } : Room) s m #[(.ref a1)] below meth c s₁ [] 0 0 := Stand.of_body Bd
  have e0 : s₁.heap = h0 := by rw [← hh, Bd.state]; rfl
  have N0 := Fr.nil n0
  have K0 : Keep h0 h0 [] := Keep.refl h0 []
  have P0 : ∀ t, Steps p.tables e below (s₁.setTop (mkF m 0 #[.val (.ref a1)] [])) t → Steps p.tables e below (s₁.setTop (entryFrame m #[(.ref a1)] 1)) t := fun t k => castTop (ef_getKeys m a1) k
  obtain ⟨T1067, X1067, e1067, st1067⟩ := getF X0 hx hZ hown (host := "") (Or.inl (hw _ (List.mem_of_getElem? (i := 62) rfl))) Via.refl e0 F1 (g := (mkF m 1 #[.val (.ref a1)] [(.ref a1)])) rfl rfl (hb hby d12_1)
  have P1068 : ∀ t, Steps p.tables e below (T1067.setTop (mkF m 4 #[.val (.ref a1)] [(.ref u1)])) t → Steps p.tables e below (s₁.setTop (entryFrame m #[(.ref a1)] 1)) t := fun t k => P0 t (by
    refine XS.aloadN X0.here hx rfl (hb hby d12_0) rfl rfl ?_
    show Steps p.tables e below (s₁.setTop (mkF m 1 #[.val (.ref a1)] [(.ref a1)])) _
    refine st1067 _ ?_
    show Steps p.tables e below (T1067.setTop (mkF m 4 #[.val (.ref a1)] [(.ref u1)])) _
    exact k)
  obtain ⟨fs, hr, hrun, hended, hW, hsame⟩ := X1067.leave (v := some (.ref u1)) (fun h => by rw [Bd.returns] at h; cases h)
  refine ⟨_, _, P1068 _ ?_, hrun, hended, _, _, rfl, ?_, ⟨_, rfl⟩, hW, hsame.mono (by decide) (by decide)⟩
  · jvm_step X1067.here [X1067.here.top, hx, (hb hby d12_4), X1067.method', Bd.returns, Value.isRef, FieldType.isReference]
    first | (intro acts; rw [hr _ acts rfl rfl rfl]) | rw [hr _ _ rfl rfl rfl]
    exact Steps.refl _
  · show Q_getKeys Z a1 u1 h0 n0 _ T1067.heap _
    rw [e1067]
    exact ⟨rfl, N0, rfl⟩
theorem ef_getFlags (m : MethodId) (x0 : Addr) : entryFrame m #[(.ref x0)] 1 = mkF m 0 #[.val (.ref x0)] [] := by first | (simp [entryFrame, mkF, argsToLocals, Value.category]; done) | rfl
def Q_getFlags (Z : State) (a1 : Addr) (u1 : Int32) (h0 : Heap) (n0 : Nat) (v : Option Value) (h : Heap) (L : List Loc) : Prop := v = some (.int u1) ∧ Fr n0 L ∧ h = h0
theorem d16_0 : decode prog_11_method_14_code 0 = .ok (.aload_n 0, 1) := by decide +kernel
theorem d16_1 : decode prog_11_method_14_code 1 = .ok (.getfield 17, 3) := by decide +kernel
theorem d16_4 : decode prog_11_method_14_code 4 = .ok (.ireturn, 1) := by decide +kernel
set_option maxRecDepth 65536 in
set_option maxHeartbeats 40000000 in
theorem rm_getFlags (l : Launch) (Z : State) (a0 : Array Value) (hw : ∀ d ∈ tables_1, d.before a0 Z = true) (ws : List Jvm.Cond) (a1 : Addr) (u1 : Int32) (h0 : Heap) (n0 : Nat) (Z0 : n0 ≤ h0.size) (F1 : Fld Z h0 a1 "com/example/hardy_cache/hardycache/server/Request" "flags" "I" (.int u1)) :
    MetFree l (⟨"com/example/hardy_cache/hardycache/server/Request", "getFlags", "()I"⟩ : MethodName) (head1 (Jvm.Cond.code (⟨"com/example/hardy_cache/hardycache/server/Request", "getFlags", "()I"⟩ : MethodName) prog_11_method_14_code 1 (some .int) :: ws) ({ frames := 0, cells := 0, slots := 0, locals := 0 } : Room)) (fun a U => a = #[(.ref a1)] ∧ Z.Warmed39 U.vm ∧ U.heap = h0) (fun _ _ _ _ _ => True) (fun _ U o U' => ∃ v L, o = .returned v ∧ Q_getFlags Z a1 u1 h0 n0 v U'.heap L ∧ FrameEnd U o U' L ({ frames := 0, cells := 0, slots := 0, locals := 0 } : Room).cells ({ frames := 0, cells := 0, slots := 0, locals := 0 } : Room).slots) := by
  refine MetFree.of_bodySF (plainFor_of_name pn_7) hisR ?_
  intro p e s m args below meth c s₁ Bd hml0 hP hK
  obtain ⟨rfl, hZ, hh⟩ := hP
  have hx := Bd.exec
  have hby := Bd.bytes
  have hml : c.maxLocals = 1 := hml0
  have hown : s.vm.findClass "com/example/hardy_cache/hardycache/server/Request" = some m.cls := findClass_of_methodNamed Bd.named
  have hnm := (name_of_methodNamed Bd.named Bd.method).1
  have X0 : Stand p l e ({ frames := 0, cells := 0, slots := 0, locals := 0 } : Room) s m #[(.ref a1)] below meth c s₁ [] 0 0 := Stand.of_body Bd
  have e0 : s₁.heap = h0 := by rw [← hh, Bd.state]; rfl
  have N0 := Fr.nil n0
  have K0 : Keep h0 h0 [] := Keep.refl h0 []
  have P0 : ∀ t, Steps p.tables e below (s₁.setTop (mkF m 0 #[.val (.ref a1)] [])) t → Steps p.tables e below (s₁.setTop (entryFrame m #[(.ref a1)] 1)) t := fun t k => castTop (ef_getFlags m a1) k
  obtain ⟨T1069, X1069, e1069, st1069⟩ := getF X0 hx hZ hown (host := "") (Or.inl (hw _ (List.mem_of_getElem? (i := 64) rfl))) Via.refl e0 F1 (g := (mkF m 1 #[.val (.ref a1)] [(.ref a1)])) rfl rfl (hb hby d16_1)
  have P1070 : ∀ t, Steps p.tables e below (T1069.setTop (mkF m 4 #[.val (.ref a1)] [(.int u1)])) t → Steps p.tables e below (s₁.setTop (entryFrame m #[(.ref a1)] 1)) t := fun t k => P0 t (by
    refine XS.aloadN X0.here hx rfl (hb hby d16_0) rfl rfl ?_
    show Steps p.tables e below (s₁.setTop (mkF m 1 #[.val (.ref a1)] [(.ref a1)])) _
    refine st1069 _ ?_
    show Steps p.tables e below (T1069.setTop (mkF m 4 #[.val (.ref a1)] [(.int u1)])) _
    exact k)
  obtain ⟨fs, hr, hrun, hended, hW, hsame⟩ := X1069.leave (v := some (.int u1)) (fun h => by rw [Bd.returns] at h; cases h)
  refine ⟨_, _, P1070 _ ?_, hrun, hended, _, _, rfl, ?_, ⟨_, rfl⟩, hW, hsame.mono (by decide) (by decide)⟩
  · exact retI X1069 hx Bd.returns (hb hby d16_4) hr
  · show Q_getFlags Z a1 u1 h0 n0 _ T1069.heap _
    rw [e1069]
    exact ⟨rfl, N0, rfl⟩
theorem ef_getExptime (m : MethodId) (x0 : Addr) : entryFrame m #[(.ref x0)] 1 = mkF m 0 #[.val (.ref x0)] [] := by first | (simp [entryFrame, mkF, argsToLocals, Value.category]; done) | rfl
def Q_getExptime (Z : State) (a1 : Addr) (u1 : Int64) (h0 : Heap) (n0 : Nat) (v : Option Value) (h : Heap) (L : List Loc) : Prop := v = some (.long u1) ∧ Fr n0 L ∧ h = h0
theorem d17_0 : decode prog_11_method_15_code 0 = .ok (.aload_n 0, 1) := by decide +kernel
theorem d17_1 : decode prog_11_method_15_code 1 = .ok (.getfield 21, 3) := by decide +kernel
theorem d17_4 : decode prog_11_method_15_code 4 = .ok (.lreturn, 1) := by decide +kernel
set_option maxRecDepth 65536 in
set_option maxHeartbeats 40000000 in
theorem rm_getExptime (l : Launch) (Z : State) (a0 : Array Value) (hw : ∀ d ∈ tables_1, d.before a0 Z = true) (ws : List Jvm.Cond) (a1 : Addr) (u1 : Int64) (h0 : Heap) (n0 : Nat) (Z0 : n0 ≤ h0.size) (F1 : Fld Z h0 a1 "com/example/hardy_cache/hardycache/server/Request" "exptime" "J" (.long u1)) :
    MetFree l (⟨"com/example/hardy_cache/hardycache/server/Request", "getExptime", "()J"⟩ : MethodName) (head1 (Jvm.Cond.code (⟨"com/example/hardy_cache/hardycache/server/Request", "getExptime", "()J"⟩ : MethodName) prog_11_method_15_code 1 (some .long) :: ws) ({ frames := 0, cells := 0, slots := 0, locals := 0 } : Room)) (fun a U => a = #[(.ref a1)] ∧ Z.Warmed39 U.vm ∧ U.heap = h0) (fun _ _ _ _ _ => True) (fun _ U o U' => ∃ v L, o = .returned v ∧ Q_getExptime Z a1 u1 h0 n0 v U'.heap L ∧ FrameEnd U o U' L ({ frames := 0, cells := 0, slots := 0, locals := 0 } : Room).cells ({ frames := 0, cells := 0, slots := 0, locals := 0 } : Room).slots) := by
  refine MetFree.of_bodySF (plainFor_of_name pn_7) hisR ?_
  intro p e s m args below meth c s₁ Bd hml0 hP hK
  obtain ⟨rfl, hZ, hh⟩ := hP
  have hx := Bd.exec
  have hby := Bd.bytes
  have hml : c.maxLocals = 1 := hml0
  have hown : s.vm.findClass "com/example/hardy_cache/hardycache/server/Request" = some m.cls := findClass_of_methodNamed Bd.named
  have hnm := (name_of_methodNamed Bd.named Bd.method).1
  have X0 : Stand p l e ({ frames := 0, cells := 0, slots := 0, locals := 0 } : Room) s m #[(.ref a1)] below meth c s₁ [] 0 0 := Stand.of_body Bd
  have e0 : s₁.heap = h0 := by rw [← hh, Bd.state]; rfl
  have N0 := Fr.nil n0
  have K0 : Keep h0 h0 [] := Keep.refl h0 []
  have P0 : ∀ t, Steps p.tables e below (s₁.setTop (mkF m 0 #[.val (.ref a1)] [])) t → Steps p.tables e below (s₁.setTop (entryFrame m #[(.ref a1)] 1)) t := fun t k => castTop (ef_getExptime m a1) k
  obtain ⟨T1071, X1071, e1071, st1071⟩ := getF X0 hx hZ hown (host := "") (Or.inl (hw _ (List.mem_of_getElem? (i := 66) rfl))) Via.refl e0 F1 (g := (mkF m 1 #[.val (.ref a1)] [(.ref a1)])) rfl rfl (hb hby d17_1)
  have P1072 : ∀ t, Steps p.tables e below (T1071.setTop (mkF m 4 #[.val (.ref a1)] [(.long u1)])) t → Steps p.tables e below (s₁.setTop (entryFrame m #[(.ref a1)] 1)) t := fun t k => P0 t (by
    refine XS.aloadN X0.here hx rfl (hb hby d17_0) rfl rfl ?_
    show Steps p.tables e below (s₁.setTop (mkF m 1 #[.val (.ref a1)] [(.ref a1)])) _
    refine st1071 _ ?_
    show Steps p.tables e below (T1071.setTop (mkF m 4 #[.val (.ref a1)] [(.long u1)])) _
    exact k)
  obtain ⟨fs, hr, hrun, hended, hW, hsame⟩ := X1071.leave (v := some (.long u1)) (fun h => by rw [Bd.returns] at h; cases h)
  refine ⟨_, _, P1072 _ ?_, hrun, hended, _, _, rfl, ?_, ⟨_, rfl⟩, hW, hsame.mono (by decide) (by decide)⟩
  · exact X1071.lreturnOut hx Bd.returns (hb hby d17_4) hr
  · show Q_getExptime Z a1 u1 h0 n0 _ T1071.heap _
    rw [e1071]
    exact ⟨rfl, N0, rfl⟩
theorem ef_getValue (m : MethodId) (x0 : Addr) : entryFrame m #[(.ref x0)] 1 = mkF m 0 #[.val (.ref x0)] [] := by first | (simp [entryFrame, mkF, argsToLocals, Value.category]; done) | rfl
def Q_getValue (Z : State) (a1 : Addr) (u1 : Addr) (h0 : Heap) (n0 : Nat) (v : Option Value) (h : Heap) (L : List Loc) : Prop := v = some (.ref u1) ∧ Fr n0 L ∧ h = h0
theorem d18_0 : decode prog_11_method_16_code 0 = .ok (.aload_n 0, 1) := by decide +kernel
theorem d18_1 : decode prog_11_method_16_code 1 = .ok (.getfield 25, 3) := by decide +kernel
theorem d18_4 : decode prog_11_method_16_code 4 = .ok (.areturn, 1) := by decide +kernel
set_option maxRecDepth 65536 in
set_option maxHeartbeats 40000000 in
theorem rm_getValue (l : Launch) (Z : State) (a0 : Array Value) (hw : ∀ d ∈ tables_1, d.before a0 Z = true) (ws : List Jvm.Cond) (a1 : Addr) (u1 : Addr) (h0 : Heap) (n0 : Nat) (Z0 : n0 ≤ h0.size) (F1 : Fld Z h0 a1 "com/example/hardy_cache/hardycache/server/Request" "value" "[B" (.ref u1)) :
    MetFree l (⟨"com/example/hardy_cache/hardycache/server/Request", "getValue", "()[B"⟩ : MethodName) (head1 (Jvm.Cond.code (⟨"com/example/hardy_cache/hardycache/server/Request", "getValue", "()[B"⟩ : MethodName) prog_11_method_16_code 1 (some (.array .byte)) :: ws) ({ frames := 0, cells := 0, slots := 0, locals := 0 } : Room)) (fun a U => a = #[(.ref a1)] ∧ Z.Warmed39 U.vm ∧ U.heap = h0) (fun _ _ _ _ _ => True) (fun _ U o U' => ∃ v L, o = .returned v ∧ Q_getValue Z a1 u1 h0 n0 v U'.heap L ∧ FrameEnd U o U' L ({ frames := 0, cells := 0, slots := 0, locals := 0 } : Room).cells ({ frames := 0, cells := 0, slots := 0, locals := 0 } : Room).slots) := by
  refine MetFree.of_bodySF (plainFor_of_name pn_7) hisR ?_
  intro p e s m args below meth c s₁ Bd hml0 hP hK
  obtain ⟨rfl, hZ, hh⟩ := hP
  have hx := Bd.exec
  have hby := Bd.bytes
  have hml : c.maxLocals = 1 := hml0
  have hown : s.vm.findClass "com/example/hardy_cache/hardycache/server/Request" = some m.cls := findClass_of_methodNamed Bd.named
  have hnm := (name_of_methodNamed Bd.named Bd.method).1
  have X0 : Stand p l e ({ frames := 0, cells := 0, slots := 0, locals := 0 } : Room) s m #[(.ref a1)] below meth c s₁ [] 0 0 := Stand.of_body Bd
  have e0 : s₁.heap = h0 := by rw [← hh, Bd.state]; rfl
  have N0 := Fr.nil n0
  have K0 : Keep h0 h0 [] := Keep.refl h0 []
  have P0 : ∀ t, Steps p.tables e below (s₁.setTop (mkF m 0 #[.val (.ref a1)] [])) t → Steps p.tables e below (s₁.setTop (entryFrame m #[(.ref a1)] 1)) t := fun t k => castTop (ef_getValue m a1) k
  obtain ⟨T1073, X1073, e1073, st1073⟩ := getF X0 hx hZ hown (host := "") (Or.inl (hw _ (List.mem_of_getElem? (i := 68) rfl))) Via.refl e0 F1 (g := (mkF m 1 #[.val (.ref a1)] [(.ref a1)])) rfl rfl (hb hby d18_1)
  have P1074 : ∀ t, Steps p.tables e below (T1073.setTop (mkF m 4 #[.val (.ref a1)] [(.ref u1)])) t → Steps p.tables e below (s₁.setTop (entryFrame m #[(.ref a1)] 1)) t := fun t k => P0 t (by
    refine XS.aloadN X0.here hx rfl (hb hby d18_0) rfl rfl ?_
    show Steps p.tables e below (s₁.setTop (mkF m 1 #[.val (.ref a1)] [(.ref a1)])) _
    refine st1073 _ ?_
    show Steps p.tables e below (T1073.setTop (mkF m 4 #[.val (.ref a1)] [(.ref u1)])) _
    exact k)
  obtain ⟨fs, hr, hrun, hended, hW, hsame⟩ := X1073.leave (v := some (.ref u1)) (fun h => by rw [Bd.returns] at h; cases h)
  refine ⟨_, _, P1074 _ ?_, hrun, hended, _, _, rfl, ?_, ⟨_, rfl⟩, hW, hsame.mono (by decide) (by decide)⟩
  · jvm_step X1073.here [X1073.here.top, hx, (hb hby d18_4), X1073.method', Bd.returns, Value.isRef, FieldType.isReference]
    first | (intro acts; rw [hr _ acts rfl rfl rfl]) | rw [hr _ _ rfl rfl rfl]
    exact Steps.refl _
  · show Q_getValue Z a1 u1 h0 n0 _ T1073.heap _
    rw [e1073]
    exact ⟨rfl, N0, rfl⟩
theorem ef_isNoreply (m : MethodId) (x0 : Addr) : entryFrame m #[(.ref x0)] 1 = mkF m 0 #[.val (.ref x0)] [] := by first | (simp [entryFrame, mkF, argsToLocals, Value.category]; done) | rfl
def Q_isNoreply (Z : State) (a1 : Addr) (u1 : Int32) (h0 : Heap) (n0 : Nat) (v : Option Value) (h : Heap) (L : List Loc) : Prop := v = some (.int u1) ∧ Fr n0 L ∧ h = h0
theorem d19_0 : decode prog_11_method_19_code 0 = .ok (.aload_n 0, 1) := by decide +kernel
theorem d19_1 : decode prog_11_method_19_code 1 = .ok (.getfield 35, 3) := by decide +kernel
theorem d19_4 : decode prog_11_method_19_code 4 = .ok (.ireturn, 1) := by decide +kernel
set_option maxRecDepth 65536 in
set_option maxHeartbeats 40000000 in
theorem rm_isNoreply (l : Launch) (Z : State) (a0 : Array Value) (hw : ∀ d ∈ tables_1, d.before a0 Z = true) (ws : List Jvm.Cond) (a1 : Addr) (u1 : Int32) (h0 : Heap) (n0 : Nat) (Z0 : n0 ≤ h0.size) (F1 : Fld Z h0 a1 "com/example/hardy_cache/hardycache/server/Request" "noreply" "Z" (.int u1)) (hn : nar .boolean u1 = u1) :
    MetFree l (⟨"com/example/hardy_cache/hardycache/server/Request", "isNoreply", "()Z"⟩ : MethodName) (head1 (Jvm.Cond.code (⟨"com/example/hardy_cache/hardycache/server/Request", "isNoreply", "()Z"⟩ : MethodName) prog_11_method_19_code 1 (some .boolean) :: ws) ({ frames := 0, cells := 0, slots := 0, locals := 0 } : Room)) (fun a U => a = #[(.ref a1)] ∧ Z.Warmed39 U.vm ∧ U.heap = h0) (fun _ _ _ _ _ => True) (fun _ U o U' => ∃ v L, o = .returned v ∧ Q_isNoreply Z a1 u1 h0 n0 v U'.heap L ∧ FrameEnd U o U' L ({ frames := 0, cells := 0, slots := 0, locals := 0 } : Room).cells ({ frames := 0, cells := 0, slots := 0, locals := 0 } : Room).slots) := by
  refine MetFree.of_bodySF (plainFor_of_name pn_7) hisR ?_
  intro p e s m args below meth c s₁ Bd hml0 hP hK
  obtain ⟨rfl, hZ, hh⟩ := hP
  have hx := Bd.exec
  have hby := Bd.bytes
  have hml : c.maxLocals = 1 := hml0
  have hown : s.vm.findClass "com/example/hardy_cache/hardycache/server/Request" = some m.cls := findClass_of_methodNamed Bd.named
  have hnm := (name_of_methodNamed Bd.named Bd.method).1
  have X0 : Stand p l e ({ frames := 0, cells := 0, slots := 0, locals := 0 } : Room) s m #[(.ref a1)] below meth c s₁ [] 0 0 := Stand.of_body Bd
  have e0 : s₁.heap = h0 := by rw [← hh, Bd.state]; rfl
  have N0 := Fr.nil n0
  have K0 : Keep h0 h0 [] := Keep.refl h0 []
  have P0 : ∀ t, Steps p.tables e below (s₁.setTop (mkF m 0 #[.val (.ref a1)] [])) t → Steps p.tables e below (s₁.setTop (entryFrame m #[(.ref a1)] 1)) t := fun t k => castTop (ef_isNoreply m a1) k
  obtain ⟨T1075, X1075, e1075, st1075⟩ := getF X0 hx hZ hown (host := "") (Or.inl (hw _ (List.mem_of_getElem? (i := 74) rfl))) Via.refl e0 F1 (g := (mkF m 1 #[.val (.ref a1)] [(.ref a1)])) rfl rfl (hb hby d19_1)
  have P1076 : ∀ t, Steps p.tables e below (T1075.setTop (mkF m 4 #[.val (.ref a1)] [(.int u1)])) t → Steps p.tables e below (s₁.setTop (entryFrame m #[(.ref a1)] 1)) t := fun t k => P0 t (by
    refine XS.aloadN X0.here hx rfl (hb hby d19_0) rfl rfl ?_
    show Steps p.tables e below (s₁.setTop (mkF m 1 #[.val (.ref a1)] [(.ref a1)])) _
    refine st1075 _ ?_
    show Steps p.tables e below (T1075.setTop (mkF m 4 #[.val (.ref a1)] [(.int u1)])) _
    exact k)
  obtain ⟨fs, hr, hrun, hended, hW, hsame⟩ := X1075.leave (v := some (.int u1)) (fun h => by rw [Bd.returns] at h; cases h)
  refine ⟨_, _, P1076 _ ?_, hrun, hended, _, _, rfl, ?_, ⟨_, rfl⟩, hW, hsame.mono (by decide) (by decide)⟩
  · exact retN X1075 hx (t := .boolean) Bd.returns (by simp) (hb hby d19_4) (by rw [hn]; exact hr)
  · show Q_isNoreply Z a1 u1 h0 n0 _ T1075.heap _
    rw [e1075]
    exact ⟨rfl, N0, rfl⟩
theorem ef_getCasUnique (m : MethodId) (x0 : Addr) : entryFrame m #[(.ref x0)] 1 = mkF m 0 #[.val (.ref x0)] [] := by first | (simp [entryFrame, mkF, argsToLocals, Value.category]; done) | rfl
def Q_getCasUnique (Z : State) (a1 : Addr) (u1 : Int64) (h0 : Heap) (n0 : Nat) (v : Option Value) (h : Heap) (L : List Loc) : Prop := v = some (.long u1) ∧ Fr n0 L ∧ h = h0
theorem d20_0 : decode prog_11_method_17_code 0 = .ok (.aload_n 0, 1) := by decide +kernel
theorem d20_1 : decode prog_11_method_17_code 1 = .ok (.getfield 29, 3) := by decide +kernel
theorem d20_4 : decode prog_11_method_17_code 4 = .ok (.lreturn, 1) := by decide +kernel
set_option maxRecDepth 65536 in
set_option maxHeartbeats 40000000 in
theorem rm_getCasUnique (l : Launch) (Z : State) (a0 : Array Value) (hw : ∀ d ∈ tables_1, d.before a0 Z = true) (ws : List Jvm.Cond) (a1 : Addr) (u1 : Int64) (h0 : Heap) (n0 : Nat) (Z0 : n0 ≤ h0.size) (F1 : Fld Z h0 a1 "com/example/hardy_cache/hardycache/server/Request" "casUnique" "J" (.long u1)) :
    MetFree l (⟨"com/example/hardy_cache/hardycache/server/Request", "getCasUnique", "()J"⟩ : MethodName) (head1 (Jvm.Cond.code (⟨"com/example/hardy_cache/hardycache/server/Request", "getCasUnique", "()J"⟩ : MethodName) prog_11_method_17_code 1 (some .long) :: ws) ({ frames := 0, cells := 0, slots := 0, locals := 0 } : Room)) (fun a U => a = #[(.ref a1)] ∧ Z.Warmed39 U.vm ∧ U.heap = h0) (fun _ _ _ _ _ => True) (fun _ U o U' => ∃ v L, o = .returned v ∧ Q_getCasUnique Z a1 u1 h0 n0 v U'.heap L ∧ FrameEnd U o U' L ({ frames := 0, cells := 0, slots := 0, locals := 0 } : Room).cells ({ frames := 0, cells := 0, slots := 0, locals := 0 } : Room).slots) := by
  refine MetFree.of_bodySF (plainFor_of_name pn_7) hisR ?_
  intro p e s m args below meth c s₁ Bd hml0 hP hK
  obtain ⟨rfl, hZ, hh⟩ := hP
  have hx := Bd.exec
  have hby := Bd.bytes
  have hml : c.maxLocals = 1 := hml0
  have hown : s.vm.findClass "com/example/hardy_cache/hardycache/server/Request" = some m.cls := findClass_of_methodNamed Bd.named
  have hnm := (name_of_methodNamed Bd.named Bd.method).1
  have X0 : Stand p l e ({ frames := 0, cells := 0, slots := 0, locals := 0 } : Room) s m #[(.ref a1)] below meth c s₁ [] 0 0 := Stand.of_body Bd
  have e0 : s₁.heap = h0 := by rw [← hh, Bd.state]; rfl
  have N0 := Fr.nil n0
  have K0 : Keep h0 h0 [] := Keep.refl h0 []
  have P0 : ∀ t, Steps p.tables e below (s₁.setTop (mkF m 0 #[.val (.ref a1)] [])) t → Steps p.tables e below (s₁.setTop (entryFrame m #[(.ref a1)] 1)) t := fun t k => castTop (ef_getCasUnique m a1) k
  obtain ⟨T1077, X1077, e1077, st1077⟩ := getF X0 hx hZ hown (host := "") (Or.inl (hw _ (List.mem_of_getElem? (i := 70) rfl))) Via.refl e0 F1 (g := (mkF m 1 #[.val (.ref a1)] [(.ref a1)])) rfl rfl (hb hby d20_1)
  have P1078 : ∀ t, Steps p.tables e below (T1077.setTop (mkF m 4 #[.val (.ref a1)] [(.long u1)])) t → Steps p.tables e below (s₁.setTop (entryFrame m #[(.ref a1)] 1)) t := fun t k => P0 t (by
    refine XS.aloadN X0.here hx rfl (hb hby d20_0) rfl rfl ?_
    show Steps p.tables e below (s₁.setTop (mkF m 1 #[.val (.ref a1)] [(.ref a1)])) _
    refine st1077 _ ?_
    show Steps p.tables e below (T1077.setTop (mkF m 4 #[.val (.ref a1)] [(.long u1)])) _
    exact k)
  obtain ⟨fs, hr, hrun, hended, hW, hsame⟩ := X1077.leave (v := some (.long u1)) (fun h => by rw [Bd.returns] at h; cases h)
  refine ⟨_, _, P1078 _ ?_, hrun, hended, _, _, rfl, ?_, ⟨_, rfl⟩, hW, hsame.mono (by decide) (by decide)⟩
  · exact X1077.lreturnOut hx Bd.returns (hb hby d20_4) hr
  · show Q_getCasUnique Z a1 u1 h0 n0 _ T1077.heap _
    rw [e1077]
    exact ⟨rfl, N0, rfl⟩
theorem ef_size (m : MethodId) (x0 : Addr) : entryFrame m #[(.ref x0)] 1 = mkF m 0 #[.val (.ref x0)] [] := by first | (simp [entryFrame, mkF, argsToLocals, Value.category]; done) | rfl
def Q_size (Z : State) (a1 : Addr) (em : Addr) (h0 : Heap) (n0 : Nat) (v : Option Value) (h : Heap) (L : List Loc) : Prop := v = some (.int (1 : Int32)) ∧ Fr n0 L ∧ h = h0
theorem d13_0 : decode jdk_44_method_3_code 0 = .ok (.aload_n 0, 1) := by decide +kernel
theorem d13_1 : decode jdk_44_method_3_code 1 = .ok (.getfield 24, 3) := by decide +kernel
theorem d13_4 : decode jdk_44_method_3_code 4 = .ok (.getstatic 19, 3) := by decide +kernel
theorem d13_7 : decode jdk_44_method_3_code 7 = .ok (.if_acmp .eq 7, 3) := by decide +kernel
theorem d13_14 : decode jdk_44_method_3_code 14 = .ok (.iconst 1, 1) := by decide +kernel
theorem d13_15 : decode jdk_44_method_3_code 15 = .ok (.ireturn, 1) := by decide +kernel
set_option maxRecDepth 65536 in
set_option maxHeartbeats 40000000 in
theorem rm_size (l : Launch) (Z : State) (a0 : Array Value) (hw : ∀ d ∈ tables_1, d.before a0 Z = true) (ws : List Jvm.Cond) (a1 : Addr) (em : Addr) (h0 : Heap) (n0 : Nat) (Z0 : n0 ≤ h0.size) (F1 : Fld Z h0 a1 "java/util/ImmutableCollections$List12" "e1" "Ljava/lang/Object;" (.ref em)) (SE : Sta Z Z.heap "java/util/ImmutableCollections" "EMPTY" "Ljava/lang/Object;" (.ref em)) (O1 : Old Z n0 h0) :
    MetFree l (⟨"java/util/ImmutableCollections$List12", "size", "()I"⟩ : MethodName) (head1 (Jvm.Cond.code (⟨"java/util/ImmutableCollections$List12", "size", "()I"⟩ : MethodName) jdk_44_method_3_code 1 (some .int) :: ws) ({ frames := 0, cells := 0, slots := 0, locals := 0 } : Room)) (fun a U => a = #[(.ref a1)] ∧ Z.Warmed39 U.vm ∧ U.heap = h0) (fun _ _ _ _ _ => True) (fun _ U o U' => ∃ v L, o = .returned v ∧ Q_size Z a1 em h0 n0 v U'.heap L ∧ FrameEnd U o U' L ({ frames := 0, cells := 0, slots := 0, locals := 0 } : Room).cells ({ frames := 0, cells := 0, slots := 0, locals := 0 } : Room).slots) := by
  refine MetFree.of_bodySF (plainFor_of_name pn_5) hisR ?_
  intro p e s m args below meth c s₁ Bd hml0 hP hK
  obtain ⟨rfl, hZ, hh⟩ := hP
  have hx := Bd.exec
  have hby := Bd.bytes
  have hml : c.maxLocals = 1 := hml0
  have hown : s.vm.findClass "java/util/ImmutableCollections$List12" = some m.cls := findClass_of_methodNamed Bd.named
  have hnm := (name_of_methodNamed Bd.named Bd.method).1
  have X0 : Stand p l e ({ frames := 0, cells := 0, slots := 0, locals := 0 } : Room) s m #[(.ref a1)] below meth c s₁ [] 0 0 := Stand.of_body Bd
  have e0 : s₁.heap = h0 := by rw [← hh, Bd.state]; rfl
  have N0 := Fr.nil n0
  have K0 : Keep h0 h0 [] := Keep.refl h0 []
  have P0 : ∀ t, Steps p.tables e below (s₁.setTop (mkF m 0 #[.val (.ref a1)] [])) t → Steps p.tables e below (s₁.setTop (entryFrame m #[(.ref a1)] 1)) t := fun t k => castTop (ef_size m a1) k
  obtain ⟨T1079, X1079, e1079, st1079⟩ := getF X0 hx hZ hown (host := "") (Or.inl (hw _ (List.mem_of_getElem? (i := 54) rfl))) Via.refl e0 F1 (g := (mkF m 1 #[.val (.ref a1)] [(.ref a1)])) rfl rfl (hb hby d13_1)
  obtain ⟨T1080, X1080, e1080, st1080⟩ := getS2 X1079 hx hZ hown (Or.inr (hw _ (List.mem_of_getElem? (i := 52) rfl))) Via.refl e1079 (SE.ext O1.2) (g := (mkF m 4 #[.val (.ref a1)] [(.ref em)])) rfl (hb hby d13_4)
  have P1081 : ∀ t, Steps p.tables e below (T1080.setTop (mkF m 15 #[.val (.ref a1)] [(.int (1 : Int32))])) t → Steps p.tables e below (s₁.setTop (entryFrame m #[(.ref a1)] 1)) t := fun t k => P0 t (by
    refine XS.aloadN X0.here hx rfl (hb hby d13_0) rfl rfl ?_
    show Steps p.tables e below (s₁.setTop (mkF m 1 #[.val (.ref a1)] [(.ref a1)])) _
    refine st1079 _ ?_
    show Steps p.tables e below (T1079.setTop (mkF m 4 #[.val (.ref a1)] [(.ref em)])) _
    refine st1080 _ ?_
    show Steps p.tables e below (T1080.setTop (mkF m 7 #[.val (.ref a1)] [(.ref em), (.ref em)])) _
    refine Jvm.RoadKit.acmp (g := (mkF m 7 #[.val (.ref a1)] [(.ref em), (.ref em)])) X1080 hx rfl rfl rfl (pc0 := 7) (pc' := 14) (same := true) rfl (hb hby d13_7) rfl (decide_eq_true rfl) (by decide) (by decide) ?_
    show Steps p.tables e below (T1080.setTop (mkF m 14 #[.val (.ref a1)] [])) _
    refine XS.iconst X1080.here hx rfl (hb hby d13_14) ?_
    show Steps p.tables e below (T1080.setTop (mkF m 15 #[.val (.ref a1)] [(.int (1 : Int32))])) _
    exact k)
  obtain ⟨fs, hr, hrun, hended, hW, hsame⟩ := X1080.leave (v := some (.int (1 : Int32))) (fun h => by rw [Bd.returns] at h; cases h)
  refine ⟨_, _, P1081 _ ?_, hrun, hended, _, _, rfl, ?_, ⟨_, rfl⟩, hW, hsame.mono (by decide) (by decide)⟩
  · exact retI X1080 hx Bd.returns (hb hby d13_15) hr
  · show Q_size Z a1 em h0 n0 _ T1080.heap _
    rw [e1080]
    exact ⟨rfl, N0, rfl⟩
theorem ef_get (m : MethodId) (x0 : Addr) (x1 : Int32) : entryFrame m #[(.ref x0), (.int x1)] 2 = mkF m 0 #[.val (.ref x0), .val (.int x1)] [] := by first | (simp [entryFrame, mkF, argsToLocals, Value.category]; done) | rfl
def Q_get (Z : State) (a1 : Addr) (a2 : Addr) (h0 : Heap) (n0 : Nat) (v : Option Value) (h : Heap) (L : List Loc) : Prop := v = some (.ref a2) ∧ Fr n0 L ∧ h = h0
theorem d15_0 : decode jdk_44_method_5_code 0 = .ok (.iload_n 1, 1) := by decide +kernel
theorem d15_1 : decode jdk_44_method_5_code 1 = .ok (.ifCond .ne 8, 3) := by decide +kernel
theorem d15_4 : decode jdk_44_method_5_code 4 = .ok (.aload_n 0, 1) := by decide +kernel
theorem d15_5 : decode jdk_44_method_5_code 5 = .ok (.getfield 13, 3) := by decide +kernel
theorem d15_8 : decode jdk_44_method_5_code 8 = .ok (.areturn, 1) := by decide +kernel
set_option maxRecDepth 65536 in
set_option maxHeartbeats 40000000 in
theorem rm_get (l : Launch) (Z : State) (a0 : Array Value) (hw : ∀ d ∈ tables_1, d.before a0 Z = true) (ws : List Jvm.Cond) (a1 : Addr) (a2 : Addr) (h0 : Heap) (n0 : Nat) (Z0 : n0 ≤ h0.size) (F1 : Fld Z h0 a1 "java/util/ImmutableCollections$List12" "e0" "Ljava/lang/Object;" (.ref a2)) :
    MetFree l (⟨"java/util/ImmutableCollections$List12", "get", "(I)Ljava/lang/Object;"⟩ : MethodName) (head1 (Jvm.Cond.code (⟨"java/util/ImmutableCollections$List12", "get", "(I)Ljava/lang/Object;"⟩ : MethodName) jdk_44_method_5_code 2 (some (.object "java/lang/Object")) :: ws) ({ frames := 0, cells := 0, slots := 0, locals := 0 } : Room)) (fun a U => a = #[(.ref a1), (.int (0 : Int32))] ∧ Z.Warmed39 U.vm ∧ U.heap = h0) (fun _ _ _ _ _ => True) (fun _ U o U' => ∃ v L, o = .returned v ∧ Q_get Z a1 a2 h0 n0 v U'.heap L ∧ FrameEnd U o U' L ({ frames := 0, cells := 0, slots := 0, locals := 0 } : Room).cells ({ frames := 0, cells := 0, slots := 0, locals := 0 } : Room).slots) := by
  refine MetFree.of_bodySF (plainFor_of_name pn_5) hisR ?_
  intro p e s m args below meth c s₁ Bd hml0 hP hK
  obtain ⟨rfl, hZ, hh⟩ := hP
  have hx := Bd.exec
  have hby := Bd.bytes
  have hml : c.maxLocals = 2 := hml0
  have hown : s.vm.findClass "java/util/ImmutableCollections$List12" = some m.cls := findClass_of_methodNamed Bd.named
  have hnm := (name_of_methodNamed Bd.named Bd.method).1
  have X0 : Stand p l e ({ frames := 0, cells := 0, slots := 0, locals := 0 } : Room) s m #[(.ref a1), (.int (0 : Int32))] below meth c s₁ [] 0 0 := Stand.of_body Bd
  have e0 : s₁.heap = h0 := by rw [← hh, Bd.state]; rfl
  have N0 := Fr.nil n0
  have K0 : Keep h0 h0 [] := Keep.refl h0 []
  have P0 : ∀ t, Steps p.tables e below (s₁.setTop (mkF m 0 #[.val (.ref a1), .val (.int (0 : Int32))] [])) t → Steps p.tables e below (s₁.setTop (entryFrame m #[(.ref a1), (.int (0 : Int32))] 2)) t := fun t k => castTop (ef_get m a1 (0 : Int32)) k
  obtain ⟨T1082, X1082, e1082, st1082⟩ := getF X0 hx hZ hown (host := "") (Or.inl (hw _ (List.mem_of_getElem? (i := 50) rfl))) Via.refl e0 F1 (g := (mkF m 5 #[.val (.ref a1), .val (.int (0 : Int32))] [(.ref a1)])) rfl rfl (hb hby d15_5)
  have P1083 : ∀ t, Steps p.tables e below (T1082.setTop (mkF m 8 #[.val (.ref a1), .val (.int (0 : Int32))] [(.ref a2)])) t → Steps p.tables e below (s₁.setTop (entryFrame m #[(.ref a1), (.int (0 : Int32))] 2)) t := fun t k => P0 t (by
    refine XS.iloadN X0.here hx rfl (hb hby d15_0) rfl ?_
    show Steps p.tables e below (s₁.setTop (mkF m 1 #[.val (.ref a1), .val (.int (0 : Int32))] [(.int (0 : Int32))])) _
    refine XS.ifNo X0.here hx rfl (hb hby d15_1) rfl ((if0 _ _).trans (teq rfl).2) ?_
    show Steps p.tables e below (s₁.setTop (mkF m 4 #[.val (.ref a1), .val (.int (0 : Int32))] [])) _
    refine XS.aloadN X0.here hx rfl (hb hby d15_4) rfl rfl ?_
    show Steps p.tables e below (s₁.setTop (mkF m 5 #[.val (.ref a1), .val (.int (0 : Int32))] [(.ref a1)])) _
    refine st1082 _ ?_
    show Steps p.tables e below (T1082.setTop (mkF m 8 #[.val (.ref a1), .val (.int (0 : Int32))] [(.ref a2)])) _
    exact k)
  obtain ⟨fs, hr, hrun, hended, hW, hsame⟩ := X1082.leave (v := some (.ref a2)) (fun h => by rw [Bd.returns] at h; cases h)
  refine ⟨_, _, P1083 _ ?_, hrun, hended, _, _, rfl, ?_, ⟨_, rfl⟩, hW, hsame.mono (by decide) (by decide)⟩
  · jvm_step X1082.here [X1082.here.top, hx, (hb hby d15_8), X1082.method', Bd.returns, Value.isRef, FieldType.isReference]
    first | (intro acts; rw [hr _ acts rfl rfl rfl]) | rw [hr _ _ rfl rfl rfl]
    exact Steps.refl _
  · show Q_get Z a1 a2 h0 n0 _ T1082.heap _
    rw [e1082]
    exact ⟨rfl, N0, rfl⟩
theorem ef_getKey (m : MethodId) (x0 : Addr) : entryFrame m #[(.ref x0)] 1 = mkF m 0 #[.val (.ref x0)] [] := by first | (simp [entryFrame, mkF, argsToLocals, Value.category]; done) | rfl
def Q_getKey (Z : State) (a1 : Addr) (a3 : Addr) (a2 : Addr) (h0 : Heap) (n0 : Nat) (v : Option Value) (h : Heap) (L : List Loc) : Prop := v = some (.ref a2) ∧ Fr n0 L ∧ h = h0
theorem d14_0 : decode prog_11_method_12_code 0 = .ok (.aload_n 0, 1) := by decide +kernel
theorem d14_1 : decode prog_11_method_12_code 1 = .ok (.getfield 13, 3) := by decide +kernel
theorem d14_4 : decode prog_11_method_12_code 4 = .ok (.iconst 0, 1) := by decide +kernel
theorem d14_5 : decode prog_11_method_12_code 5 = .ok (.invokeinterface 73 2, 5) := by decide +kernel
theorem pd_5 : parseMethodDescriptor "(I)Ljava/lang/Object;" = some ⟨[.int], some (.object "java/lang/Object")⟩ := by decide +kernel
theorem d14_10 : decode prog_11_method_12_code 10 = .ok (.checkcast 77, 3) := by decide +kernel
theorem d14_13 : decode prog_11_method_12_code 13 = .ok (.areturn, 1) := by decide +kernel
set_option maxRecDepth 65536 in
set_option maxHeartbeats 40000000 in
theorem rm_getKey (l : Launch) (Z : State) (a0 : Array Value) (hw : ∀ d ∈ tables_1, d.before a0 Z = true) (ws : List Jvm.Cond) (a1 : Addr) (a3 : Addr) (a2 : Addr) (h0 : Heap) (n0 : Nat) (Z0 : n0 ≤ h0.size) (F1 : Fld Z h0 a1 "com/example/hardy_cache/hardycache/server/Request" "keys" "Ljava/util/List;" (.ref a3)) (E3 : Exa Z h0 a3 "java/util/ImmutableCollections$List12") (F3 : Fld Z h0 a3 "java/util/ImmutableCollections$List12" "e0" "Ljava/lang/Object;" (.ref a2)) (E2 : Exa Z h0 a2 "[B") :
    MetFree l (⟨"com/example/hardy_cache/hardycache/server/Request", "getKey", "()[B"⟩ : MethodName) (head1 (Jvm.Cond.code (⟨"com/example/hardy_cache/hardycache/server/Request", "getKey", "()[B"⟩ : MethodName) prog_11_method_12_code 1 (some (.array .byte)) :: ws) ({ frames := 1, cells := 0, slots := 0, locals := 13 } : Room)) (fun a U => a = #[(.ref a1)] ∧ Z.Warmed39 U.vm ∧ U.heap = h0) (fun _ _ _ _ _ => True) (fun _ U o U' => ∃ v L, o = .returned v ∧ Q_getKey Z a1 a3 a2 h0 n0 v U'.heap L ∧ FrameEnd U o U' L ({ frames := 1, cells := 0, slots := 0, locals := 13 } : Room).cells ({ frames := 1, cells := 0, slots := 0, locals := 13 } : Room).slots) := by
  refine MetFree.of_bodySF (plainFor_of_name pn_7) hisR ?_
  intro p e s m args below meth c s₁ Bd hml0 hP hK
  obtain ⟨rfl, hZ, hh⟩ := hP
  have hx := Bd.exec
  have hby := Bd.bytes
  have hml : c.maxLocals = 1 := hml0
  have hown : s.vm.findClass "com/example/hardy_cache/hardycache/server/Request" = some m.cls := findClass_of_methodNamed Bd.named
  have hnm := (name_of_methodNamed Bd.named Bd.method).1
  have X0 : Stand p l e ({ frames := 1, cells := 0, slots := 0, locals := 13 } : Room) s m #[(.ref a1)] below meth c s₁ [] 0 0 := Stand.of_body Bd
  have e0 : s₁.heap = h0 := by rw [← hh, Bd.state]; rfl
  have N0 := Fr.nil n0
  have K0 : Keep h0 h0 [] := Keep.refl h0 []
  have P0 : ∀ t, Steps p.tables e below (s₁.setTop (mkF m 0 #[.val (.ref a1)] [])) t → Steps p.tables e below (s₁.setTop (entryFrame m #[(.ref a1)] 1)) t := fun t k => castTop (ef_getKey m a1) k
  obtain ⟨T1084, X1084, e1084, st1084⟩ := getF X0 hx hZ hown (host := "") (Or.inl (hw _ (List.mem_of_getElem? (i := 62) rfl))) Via.refl e0 F1 (g := (mkF m 1 #[.val (.ref a1)] [(.ref a1)])) rfl rfl (hb hby d14_1)
  obtain ⟨cq1085, kq1085, q1085a, q1085b, q1085c⟩ := isOf hZ e1084 E3
  obtain ⟨_, _, ⟨T1085, L1085, k1085, n1085⟩, -, X1085, ⟨Lc1085, hQ1085, l1085, y1085, z1085⟩, st1085⟩ := X1084.interfaceBack hx (xi := (⟨"java/util/List", "get", "(I)Ljava/lang/Object;"⟩ : MethodName)) (y := (⟨"java/util/ImmutableCollections$List12", "get", "(I)Ljava/lang/Object;"⟩ : MethodName)) hown (mvT hZ (hw _ (List.mem_of_getElem? (i := 102) rfl))) (mvT hZ (hw _ (List.mem_of_getElem? (i := 103) rfl))) (mvT hZ (hw _ (List.mem_of_getElem? (i := 104) rfl))) (mvT hZ (hw _ (List.mem_of_getElem? (i := 105) rfl))) (mvT hZ (hw _ (List.mem_of_getElem? (i := 106) rfl))) (mvT hZ (hw _ (List.mem_of_getElem? (i := 107) rfl))) (mvT hZ (hw _ (List.mem_of_getElem? (i := 108) rfl))) (mvT hZ (hw _ (List.mem_of_getElem? (i := 95) rfl))) (by decide) (backOf (W := 0) (rm_get l Z a0 hw [] a3 a2 h0 n0 Z0 F3) hZ (hw _ (List.mem_of_getElem? (i := 109) rfl)) (hw _ (List.mem_of_getElem? (i := 20) rfl)) (by decide) (by decide)) q1085a q1085b q1085c (g := (mkF m 5 #[.val (.ref a1)] [(.int (0 : Int32)), (.ref a3)])) rfl (by rw [hml]; rfl) (Steps.refl _) (argsL := [(.int (0 : Int32))]) (rest := []) (lenOf pd_5 rfl) rfl (by show 2 * 0 + _ ≤ _; exact Nat.le_of_eq rfl) (hb hby d14_5) (fun _ _ => ⟨rfl, e1084, (by decide : 0 + 0 ≤ _), (by decide : 0 + 0 ≤ _)⟩)
  dsimp only [Pt.U, Pt.locs, Pt.cells, Pt.slots] at X1085 l1085 y1085 z1085 st1085 hQ1085
  subst l1085 y1085 z1085
  obtain ⟨rfl, N1085q, e5⟩ := hQ1085
  have N1085 := Fr.app N0 N1085q
  obtain ⟨T1086, X1086, e1086, st1086⟩ := castY X1085 hx hZ hown (hw _ (List.mem_of_getElem? (i := 110) rfl)) e5 (Ins.self E2) (g := (mkF m 10 #[.val (.ref a1)] [(.ref a2)])) rfl rfl (hb hby d14_10)
  have P1087 : ∀ t, Steps p.tables e below (T1086.setTop (mkF m 13 #[.val (.ref a1)] [(.ref a2)])) t → Steps p.tables e below (s₁.setTop (entryFrame m #[(.ref a1)] 1)) t := fun t k => P0 t (by
    refine XS.aloadN X0.here hx rfl (hb hby d14_0) rfl rfl ?_
    show Steps p.tables e below (s₁.setTop (mkF m 1 #[.val (.ref a1)] [(.ref a1)])) _
    refine st1084 _ ?_
    show Steps p.tables e below (T1084.setTop (mkF m 4 #[.val (.ref a1)] [(.ref a3)])) _
    refine XS.iconst X1084.here hx rfl (hb hby d14_4) ?_
    show Steps p.tables e below (T1084.setTop (mkF m 5 #[.val (.ref a1)] [(.int (0 : Int32)), (.ref a3)])) _
    refine st1085.trans ?_
    show Steps p.tables e below (T1085.setTop (mkF m 10 #[.val (.ref a1)] [(.ref a2)])) _
    refine st1086 _ ?_
    show Steps p.tables e below (T1086.setTop (mkF m 13 #[.val (.ref a1)] [(.ref a2)])) _
    exact k)
  obtain ⟨fs, hr, hrun, hended, hW, hsame⟩ := X1086.leave (v := some (.ref a2)) (fun h => by rw [Bd.returns] at h; cases h)
  refine ⟨_, _, P1087 _ ?_, hrun, hended, _, _, rfl, ?_, ⟨_, rfl⟩, hW, hsame.mono (by decide) (by decide)⟩
  · jvm_step X1086.here [X1086.here.top, hx, (hb hby d14_13), X1086.method', Bd.returns, Value.isRef, FieldType.isReference]
    first | (intro acts; rw [hr _ acts rfl rfl rfl]) | rw [hr _ _ rfl rfl rfl]
    exact Steps.refl _
  · show Q_getKey Z a1 a3 a2 h0 n0 _ T1086.heap _
    rw [e1086]
    exact ⟨rfl, N1085, rfl⟩
theorem ef_law (m : MethodId) (x0 : Int32) (x1 : Int32) (x2 : Int64) (x3 : Int64) (x4 : Int32) (x5 : Int32) : entryFrame m #[(.int x0), (.int x1), (.long x2), (.long x3), (.int x4), (.int x5)] maxLocals = mkF m 0 #[.val (.int x0), .val (.int x1), .val (.long x2), .second, .val (.long x3), .second, .val (.int x4), .val (.int x5), .unset, .unset, .unset, .unset, .unset, .unset, .unset, .unset] [] := by first | (simp [entryFrame, mkF, argsToLocals, Value.category, maxLocals]; done) | rfl
def Q_law (Z : State) (u1 : Int32) (u2 : Int32) (u3 : Int64) (u4 : Int64) (u5 : Int32) (u6 : Int32) (c0 : Addr) (c1 : Addr) (c2 : Addr) (c3 : Addr) (c4 : Addr) (c5 : Addr) (em : Addr) (h0 : Heap) (n0 : Nat) (v : Option Value) (h : Heap) (L : List Loc) : Prop := v = some (.int 1) ∧ Fr n0 L
theorem pd_6 : parseMethodDescriptor "(I)Lcom/example/hardy_cache/hardycache/server/Request$Command;" = some ⟨[.int], some (.object "com/example/hardy_cache/hardycache/server/Request$Command")⟩ := by decide +kernel
theorem pd_7 : parseMethodDescriptor "(Lcom/example/hardy_cache/hardycache/server/Request$Command;[BIJ[BJZ)Lcom/example/hardy_cache/hardycache/server/Request;" = some ⟨[(.object "com/example/hardy_cache/hardycache/server/Request$Command"), (.array .byte), .int, .long, (.array .byte), .long, .boolean], some (.object "com/example/hardy_cache/hardycache/server/Request")⟩ := by decide +kernel
theorem pd_8 : parseMethodDescriptor "()Lcom/example/hardy_cache/hardycache/server/Request$Command;" = some ⟨[], some (.object "com/example/hardy_cache/hardycache/server/Request$Command")⟩ := by decide +kernel
theorem pd_9 : parseMethodDescriptor "()Ljava/util/List;" = some ⟨[], some (.object "java/util/List")⟩ := by decide +kernel
theorem pd_10 : parseMethodDescriptor "()I" = some ⟨[], some .int⟩ := by decide +kernel
theorem pd_11 : parseMethodDescriptor "()[B" = some ⟨[], some (.array .byte)⟩ := by decide +kernel
theorem pd_12 : parseMethodDescriptor "()J" = some ⟨[], some .long⟩ := by decide +kernel
theorem pd_13 : parseMethodDescriptor "()Z" = some ⟨[], some .boolean⟩ := by decide +kernel
set_option maxRecDepth 65536 in
set_option maxHeartbeats 40000000 in
theorem rm_law (l : Launch) (Z : State) (a0 : Array Value) (hw : ∀ d ∈ tables_1, d.before a0 Z = true) (ws : List Jvm.Cond) (u1 : Int32) (u2 : Int32) (u3 : Int64) (u4 : Int64) (u5 : Int32) (u6 : Int32) (c0 : Addr) (c1 : Addr) (c2 : Addr) (c3 : Addr) (c4 : Addr) (c5 : Addr) (em : Addr) (h0 : Heap) (n0 : Nat) (Z0 : n0 ≤ h0.size) (S0 : Sta Z Z.heap "com/example/hardy_cache/hardycache/server/Request$Command" "SET" "Lcom/example/hardy_cache/hardycache/server/Request$Command;" (.ref c0)) (S1 : Sta Z Z.heap "com/example/hardy_cache/hardycache/server/Request$Command" "ADD" "Lcom/example/hardy_cache/hardycache/server/Request$Command;" (.ref c1)) (S2 : Sta Z Z.heap "com/example/hardy_cache/hardycache/server/Request$Command" "REPLACE" "Lcom/example/hardy_cache/hardycache/server/Request$Command;" (.ref c2)) (S3 : Sta Z Z.heap "com/example/hardy_cache/hardycache/server/Request$Command" "APPEND" "Lcom/example/hardy_cache/hardycache/server/Request$Command;" (.ref c3)) (S4 : Sta Z Z.heap "com/example/hardy_cache/hardycache/server/Request$Command" "PREPEND" "Lcom/example/hardy_cache/hardycache/server/Request$Command;" (.ref c4)) (S5 : Sta Z Z.heap "com/example/hardy_cache/hardycache/server/Request$Command" "CAS" "Lcom/example/hardy_cache/hardycache/server/Request$Command;" (.ref c5)) (SE : Sta Z Z.heap "java/util/ImmutableCollections" "EMPTY" "Ljava/lang/Object;" (.ref em)) (O1 : Old Z n0 h0) :
    MetFree l x (head1 (Jvm.Cond.code x code maxLocals ret :: ws) room_1) (fun a U => a = #[(.int u1), (.int u2), (.long u3), (.long u4), (.int u5), (.int u6)] ∧ Z.Warmed39 U.vm ∧ U.heap = h0) (fun _ _ _ _ _ => True) (fun _ U o U' => ∃ v L, o = .returned v ∧ Q_law Z u1 u2 u3 u4 u5 u6 c0 c1 c2 c3 c4 c5 em h0 n0 v U'.heap L ∧ FrameEnd U o U' L room_1.cells room_1.slots) := by
  refine MetFree.of_bodySF (plainFor_of_name pn_0) hisR ?_
  intro p e s m args below meth c s₁ Bd hml0 hP hK
  obtain ⟨rfl, hZ, hh⟩ := hP
  have hx := Bd.exec
  have hby := Bd.bytes
  have hml : c.maxLocals = 16 := hml0
  have hown : s.vm.findClass "com/example/hardy_cache/hardycache/server/RequestStoragePinLaw" = some m.cls := findClass_of_methodNamed Bd.named
  have hnm := (name_of_methodNamed Bd.named Bd.method).1
  have X0 : Stand p l e room_1 s m #[(.int u1), (.int u2), (.long u3), (.long u4), (.int u5), (.int u6)] below meth c s₁ [] 0 0 := Stand.of_body Bd
  have e0 : s₁.heap = h0 := by rw [← hh, Bd.state]; rfl
  have N0 := Fr.nil n0
  have K0 : Keep h0 h0 [] := Keep.refl h0 []
  have P0 : ∀ t, Steps p.tables e below (s₁.setTop (mkF m 0 #[.val (.int u1), .val (.int u2), .val (.long u3), .second, .val (.long u4), .second, .val (.int u5), .val (.int u6), .unset, .unset, .unset, .unset, .unset, .unset, .unset, .unset] [])) t → Steps p.tables e below (s₁.setTop (entryFrame m #[(.int u1), (.int u2), (.long u3), (.long u4), (.int u5), (.int u6)] maxLocals)) t := fun t k => castTop (ef_law m u1 u2 u3 u4 u5 u6) k
  have P1088 : ∀ t, Steps p.tables e below (s₁.setTop (mkF m 10 #[.val (.int u1), .val (.int u2), .val (.long u3), .second, .val (.long u4), .second, .val (.int u5), .val (.int u6), .val (.int (u1 &&& (7 : Int32))), .unset, .unset, .unset, .unset, .unset, .unset, .unset] [(.int (6 : Int32)), (.int (u1 &&& (7 : Int32)))])) t → Steps p.tables e below (s₁.setTop (entryFrame m #[(.int u1), (.int u2), (.long u3), (.long u4), (.int u5), (.int u6)] maxLocals)) t := fun t k => P0 t (by
    refine XS.iloadN X0.here hx rfl (hb hby at_0) rfl ?_
    show Steps p.tables e below (s₁.setTop (mkF m 1 #[.val (.int u1), .val (.int u2), .val (.long u3), .second, .val (.long u4), .second, .val (.int u5), .val (.int u6), .unset, .unset, .unset, .unset, .unset, .unset, .unset, .unset] [(.int u1)])) _
    refine XS.bipush X0.here hx rfl (hb hby at_1) ?_
    show Steps p.tables e below (s₁.setTop (mkF m 3 #[.val (.int u1), .val (.int u2), .val (.long u3), .second, .val (.long u4), .second, .val (.int u5), .val (.int u6), .unset, .unset, .unset, .unset, .unset, .unset, .unset, .unset] [(.int (7 : Int32)), (.int u1)])) _
    refine XS.iand X0.here hx rfl (hb hby at_3) rfl ?_
    show Steps p.tables e below (s₁.setTop (mkF m 4 #[.val (.int u1), .val (.int u2), .val (.long u3), .second, .val (.long u4), .second, .val (.int u5), .val (.int u6), .unset, .unset, .unset, .unset, .unset, .unset, .unset, .unset] [(.int (u1 &&& (7 : Int32)))])) _
    refine XS.istore X0.here hx rfl (hb hby at_4) rfl (l' := #[.val (.int u1), .val (.int u2), .val (.long u3), .second, .val (.long u4), .second, .val (.int u5), .val (.int u6), .val (.int (u1 &&& (7 : Int32))), .unset, .unset, .unset, .unset, .unset, .unset, .unset]) rfl ?_
    show Steps p.tables e below (s₁.setTop (mkF m 6 #[.val (.int u1), .val (.int u2), .val (.long u3), .second, .val (.long u4), .second, .val (.int u5), .val (.int u6), .val (.int (u1 &&& (7 : Int32))), .unset, .unset, .unset, .unset, .unset, .unset, .unset] [])) _
    refine XS.iload X0.here hx rfl (hb hby at_6) rfl ?_
    show Steps p.tables e below (s₁.setTop (mkF m 8 #[.val (.int u1), .val (.int u2), .val (.long u3), .second, .val (.long u4), .second, .val (.int u5), .val (.int u6), .val (.int (u1 &&& (7 : Int32))), .unset, .unset, .unset, .unset, .unset, .unset, .unset] [(.int (u1 &&& (7 : Int32)))])) _
    refine XS.bipush X0.here hx rfl (hb hby at_8) ?_
    show Steps p.tables e below (s₁.setTop (mkF m 10 #[.val (.int u1), .val (.int u2), .val (.long u3), .second, .val (.long u4), .second, .val (.int u5), .val (.int u6), .val (.int (u1 &&& (7 : Int32))), .unset, .unset, .unset, .unset, .unset, .unset, .unset] [(.int (6 : Int32)), (.int (u1 &&& (7 : Int32)))])) _
    exact k)
  obtain ⟨d8, P1089⟩ : ∃ (d8 : Int32), (∀ t, Steps p.tables e below (s₁.setTop (mkF m 20 #[.val (.int u1), .val (.int u2), .val (.long u3), .second, .val (.long u4), .second, .val (.int u5), .val (.int u6), .val (.int d8), .unset, .unset, .unset, .unset, .unset, .unset, .unset] [])) t → Steps p.tables e below (s₁.setTop (entryFrame m #[(.int u1), (.int u2), (.long u3), (.long u4), (.int u5), (.int u6)] maxLocals)) t) := by
    by_cases h10 : (u1 &&& (7 : Int32)) < (6 : Int32)
    · have P1090 : ∀ t, Steps p.tables e below (s₁.setTop (mkF m 20 #[.val (.int u1), .val (.int u2), .val (.long u3), .second, .val (.long u4), .second, .val (.int u5), .val (.int u6), .val (.int (u1 &&& (7 : Int32))), .unset, .unset, .unset, .unset, .unset, .unset, .unset] [])) t → Steps p.tables e below (s₁.setTop (entryFrame m #[(.int u1), (.int u2), (.long u3), (.long u4), (.int u5), (.int u6)] maxLocals)) t := fun t k => P1088 t (by
        refine XS.icmpYes X0.here hx rfl (pc0 := 10) (pc' := 20) rfl (hb hby at_10) rfl (tlt h10).1 (by decide) (by decide) ?_
        show Steps p.tables e below (s₁.setTop (mkF m 20 #[.val (.int u1), .val (.int u2), .val (.long u3), .second, .val (.long u4), .second, .val (.int u5), .val (.int u6), .val (.int (u1 &&& (7 : Int32))), .unset, .unset, .unset, .unset, .unset, .unset, .unset] [])) _
        exact k)
      exact ⟨_, P1090⟩
    · have P1091 : ∀ t, Steps p.tables e below (s₁.setTop (mkF m 20 #[.val (.int u1), .val (.int u2), .val (.long u3), .second, .val (.long u4), .second, .val (.int u5), .val (.int u6), .val (.int ((u1 &&& (7 : Int32)) - (6 : Int32))), .unset, .unset, .unset, .unset, .unset, .unset, .unset] [])) t → Steps p.tables e below (s₁.setTop (entryFrame m #[(.int u1), (.int u2), (.long u3), (.long u4), (.int u5), (.int u6)] maxLocals)) t := fun t k => P1088 t (by
        refine XS.icmpNo X0.here hx rfl (hb hby at_10) rfl (flt h10).1 ?_
        show Steps p.tables e below (s₁.setTop (mkF m 13 #[.val (.int u1), .val (.int u2), .val (.long u3), .second, .val (.long u4), .second, .val (.int u5), .val (.int u6), .val (.int (u1 &&& (7 : Int32))), .unset, .unset, .unset, .unset, .unset, .unset, .unset] [])) _
        refine XS.iload X0.here hx rfl (hb hby at_13) rfl ?_
        show Steps p.tables e below (s₁.setTop (mkF m 15 #[.val (.int u1), .val (.int u2), .val (.long u3), .second, .val (.long u4), .second, .val (.int u5), .val (.int u6), .val (.int (u1 &&& (7 : Int32))), .unset, .unset, .unset, .unset, .unset, .unset, .unset] [(.int (u1 &&& (7 : Int32)))])) _
        refine XS.bipush X0.here hx rfl (hb hby at_15) ?_
        show Steps p.tables e below (s₁.setTop (mkF m 17 #[.val (.int u1), .val (.int u2), .val (.long u3), .second, .val (.long u4), .second, .val (.int u5), .val (.int u6), .val (.int (u1 &&& (7 : Int32))), .unset, .unset, .unset, .unset, .unset, .unset, .unset] [(.int (6 : Int32)), (.int (u1 &&& (7 : Int32)))])) _
        refine XS.isub X0.here hx rfl (hb hby at_17) rfl ?_
        show Steps p.tables e below (s₁.setTop (mkF m 18 #[.val (.int u1), .val (.int u2), .val (.long u3), .second, .val (.long u4), .second, .val (.int u5), .val (.int u6), .val (.int (u1 &&& (7 : Int32))), .unset, .unset, .unset, .unset, .unset, .unset, .unset] [(.int ((u1 &&& (7 : Int32)) - (6 : Int32)))])) _
        refine XS.istore X0.here hx rfl (hb hby at_18) rfl (l' := #[.val (.int u1), .val (.int u2), .val (.long u3), .second, .val (.long u4), .second, .val (.int u5), .val (.int u6), .val (.int ((u1 &&& (7 : Int32)) - (6 : Int32))), .unset, .unset, .unset, .unset, .unset, .unset, .unset]) rfl ?_
        show Steps p.tables e below (s₁.setTop (mkF m 20 #[.val (.int u1), .val (.int u2), .val (.long u3), .second, .val (.long u4), .second, .val (.int u5), .val (.int u6), .val (.int ((u1 &&& (7 : Int32)) - (6 : Int32))), .unset, .unset, .unset, .unset, .unset, .unset, .unset] [])) _
        exact k)
      exact ⟨_, P1091⟩
  obtain ⟨_, _, ⟨T1092, L1092, k1092, n1092⟩, -, X1092, ⟨Lc1092, hQ1092, l1092, y1092, z1092⟩, st1092⟩ := Jvm.LawKit.callS X0 hx (y := (⟨"com/example/hardy_cache/hardycache/server/RequestStoragePinLaw", "pick", "(I)Lcom/example/hardy_cache/hardycache/server/Request$Command;"⟩ : MethodName)) hown (mvT hZ (hw _ (List.mem_of_getElem? (i := 0) rfl))) (mvT hZ (hw _ (List.mem_of_getElem? (i := 1) rfl))) (mvT hZ (hw _ (List.mem_of_getElem? (i := 2) rfl))) (mvT hZ (hw _ (List.mem_of_getElem? (i := 3) rfl))) (by decide) (backOf (W := 0) (rm_pick l Z a0 hw [] d8 c0 c1 c2 c3 c4 c5 h0 n0 Z0 S0 S1 S2 S3 S4 S5 O1) hZ (hw _ (List.mem_of_getElem? (i := 3) rfl)) (hw _ (List.mem_of_getElem? (i := 2) rfl)) (by decide) (by decide)) (g := (mkF m 22 #[.val (.int u1), .val (.int u2), .val (.long u3), .second, .val (.long u4), .second, .val (.int u5), .val (.int u6), .val (.int d8), .unset, .unset, .unset, .unset, .unset, .unset, .unset] [(.int d8)])) rfl (by rw [hml]; rfl) (argsL := [(.int d8)]) (rest := []) (lenOf pd_6 rfl) rfl (by show 2 * 0 + _ ≤ _; exact Nat.le_of_eq rfl) (hb hby at_22) (fun _ _ => ⟨rfl, e0, (by decide : 0 + 0 ≤ _), (by decide : 0 + 0 ≤ _)⟩)
  dsimp only [Pt.U, Pt.locs, Pt.cells, Pt.slots] at X1092 l1092 y1092 z1092 st1092 hQ1092
  subst l1092 y1092 z1092
  obtain ⟨cr, rfl, N1092q, e22⟩ := hQ1092
  have N1092 := Fr.app N0 N1092q
  have P1093 : ∀ t, Steps p.tables e below (T1092.setTop (mkF m 31 #[.val (.int u1), .val (.int u2), .val (.long u3), .second, .val (.long u4), .second, .val (.int u5), .val (.int u6), .val (.int d8), .val (.ref cr), .unset, .unset, .unset, .unset, .unset, .unset] [(.int (u1 &&& (8 : Int32)))])) t → Steps p.tables e below (s₁.setTop (entryFrame m #[(.int u1), (.int u2), (.long u3), (.long u4), (.int u5), (.int u6)] maxLocals)) t := fun t k => P1089 t (by
    refine XS.iload X0.here hx rfl (hb hby at_20) rfl ?_
    show Steps p.tables e below (s₁.setTop (mkF m 22 #[.val (.int u1), .val (.int u2), .val (.long u3), .second, .val (.long u4), .second, .val (.int u5), .val (.int u6), .val (.int d8), .unset, .unset, .unset, .unset, .unset, .unset, .unset] [(.int d8)])) _
    refine st1092 _ ?_
    show Steps p.tables e below (T1092.setTop (mkF m 25 #[.val (.int u1), .val (.int u2), .val (.long u3), .second, .val (.long u4), .second, .val (.int u5), .val (.int u6), .val (.int d8), .unset, .unset, .unset, .unset, .unset, .unset, .unset] [(.ref cr)])) _
    refine XS.astore X1092.here hx rfl (hb hby at_25) rfl rfl (l' := #[.val (.int u1), .val (.int u2), .val (.long u3), .second, .val (.long u4), .second, .val (.int u5), .val (.int u6), .val (.int d8), .val (.ref cr), .unset, .unset, .unset, .unset, .unset, .unset]) rfl ?_
    show Steps p.tables e below (T1092.setTop (mkF m 27 #[.val (.int u1), .val (.int u2), .val (.long u3), .second, .val (.long u4), .second, .val (.int u5), .val (.int u6), .val (.int d8), .val (.ref cr), .unset, .unset, .unset, .unset, .unset, .unset] [])) _
    refine XS.iloadN X1092.here hx rfl (hb hby at_27) rfl ?_
    show Steps p.tables e below (T1092.setTop (mkF m 28 #[.val (.int u1), .val (.int u2), .val (.long u3), .second, .val (.long u4), .second, .val (.int u5), .val (.int u6), .val (.int d8), .val (.ref cr), .unset, .unset, .unset, .unset, .unset, .unset] [(.int u1)])) _
    refine XS.bipush X1092.here hx rfl (hb hby at_28) ?_
    show Steps p.tables e below (T1092.setTop (mkF m 30 #[.val (.int u1), .val (.int u2), .val (.long u3), .second, .val (.long u4), .second, .val (.int u5), .val (.int u6), .val (.int d8), .val (.ref cr), .unset, .unset, .unset, .unset, .unset, .unset] [(.int (8 : Int32)), (.int u1)])) _
    refine XS.iand X1092.here hx rfl (hb hby at_30) rfl ?_
    show Steps p.tables e below (T1092.setTop (mkF m 31 #[.val (.int u1), .val (.int u2), .val (.long u3), .second, .val (.long u4), .second, .val (.int u5), .val (.int u6), .val (.int d8), .val (.ref cr), .unset, .unset, .unset, .unset, .unset, .unset] [(.int (u1 &&& (8 : Int32)))])) _
    exact k)
  obtain ⟨nr, hnr, P1094⟩ : ∃ (nr : Int32), (nar .boolean nr = nr) ∧ (∀ t, Steps p.tables e below (T1092.setTop (mkF m 39 #[.val (.int u1), .val (.int u2), .val (.long u3), .second, .val (.long u4), .second, .val (.int u5), .val (.int u6), .val (.int d8), .val (.ref cr), .unset, .unset, .unset, .unset, .unset, .unset] [(.int nr)])) t → Steps p.tables e below (s₁.setTop (entryFrame m #[(.int u1), (.int u2), (.long u3), (.long u4), (.int u5), (.int u6)] maxLocals)) t) := by
    by_cases h31 : (u1 &&& (8 : Int32)) = (0 : Int32)
    · have P1095 : ∀ t, Steps p.tables e below (T1092.setTop (mkF m 39 #[.val (.int u1), .val (.int u2), .val (.long u3), .second, .val (.long u4), .second, .val (.int u5), .val (.int u6), .val (.int d8), .val (.ref cr), .unset, .unset, .unset, .unset, .unset, .unset] [(.int (0 : Int32))])) t → Steps p.tables e below (s₁.setTop (entryFrame m #[(.int u1), (.int u2), (.long u3), (.long u4), (.int u5), (.int u6)] maxLocals)) t := fun t k => P1093 t (by
        refine XS.ifYes X1092.here hx rfl (pc0 := 31) (pc' := 38) rfl (hb hby at_31) rfl ((if0 _ _).trans (teq h31).1) (by decide) (by decide) ?_
        show Steps p.tables e below (T1092.setTop (mkF m 38 #[.val (.int u1), .val (.int u2), .val (.long u3), .second, .val (.long u4), .second, .val (.int u5), .val (.int u6), .val (.int d8), .val (.ref cr), .unset, .unset, .unset, .unset, .unset, .unset] [])) _
        refine XS.iconst X1092.here hx rfl (hb hby at_38) ?_
        show Steps p.tables e below (T1092.setTop (mkF m 39 #[.val (.int u1), .val (.int u2), .val (.long u3), .second, .val (.long u4), .second, .val (.int u5), .val (.int u6), .val (.int d8), .val (.ref cr), .unset, .unset, .unset, .unset, .unset, .unset] [(.int (0 : Int32))])) _
        exact k)
      exact ⟨_, (by decide), P1095⟩
    · have P1096 : ∀ t, Steps p.tables e below (T1092.setTop (mkF m 39 #[.val (.int u1), .val (.int u2), .val (.long u3), .second, .val (.long u4), .second, .val (.int u5), .val (.int u6), .val (.int d8), .val (.ref cr), .unset, .unset, .unset, .unset, .unset, .unset] [(.int (1 : Int32))])) t → Steps p.tables e below (s₁.setTop (entryFrame m #[(.int u1), (.int u2), (.long u3), (.long u4), (.int u5), (.int u6)] maxLocals)) t := fun t k => P1093 t (by
        refine XS.ifNo X1092.here hx rfl (hb hby at_31) rfl ((if0 _ _).trans (feq h31).1) ?_
        show Steps p.tables e below (T1092.setTop (mkF m 34 #[.val (.int u1), .val (.int u2), .val (.long u3), .second, .val (.long u4), .second, .val (.int u5), .val (.int u6), .val (.int d8), .val (.ref cr), .unset, .unset, .unset, .unset, .unset, .unset] [])) _
        refine XS.iconst X1092.here hx rfl (hb hby at_34) ?_
        show Steps p.tables e below (T1092.setTop (mkF m 35 #[.val (.int u1), .val (.int u2), .val (.long u3), .second, .val (.long u4), .second, .val (.int u5), .val (.int u6), .val (.int d8), .val (.ref cr), .unset, .unset, .unset, .unset, .unset, .unset] [(.int (1 : Int32))])) _
        refine XS.goto X1092.here hx rfl (pc0 := 35) (pc' := 39) rfl (hb hby at_35) (by decide) (by decide) ?_
        show Steps p.tables e below (T1092.setTop (mkF m 39 #[.val (.int u1), .val (.int u2), .val (.long u3), .second, .val (.long u4), .second, .val (.int u5), .val (.int u6), .val (.int d8), .val (.ref cr), .unset, .unset, .unset, .unset, .unset, .unset] [(.int (1 : Int32))])) _
        exact k)
      exact ⟨_, (by decide), P1096⟩
  obtain ⟨T1097, h1097, k1097, X1097, e1097, E1097, A1097, B1097, st1097⟩ := own_newB X1092 hx hZ (hw _ (List.mem_of_getElem? (i := 7) rfl)) e22 (g := (mkF m 42 #[.val (.int u1), .val (.int u2), .val (.long u3), .second, .val (.long u4), .second, .val (.int u5), .val (.int u6), .val (.int d8), .val (.ref cr), .val (.int nr), .unset, .unset, .unset, .unset, .unset] [(.int (2 : Int32))])) rfl (hb hby at_42) rfl (by decide) (cap := 2) (by decide) (by decide) (by decide) (by decide)
  obtain ⟨b1097, g1097⟩ : ∃ z, z = h0.size := ⟨_, rfl⟩
  rw [← g1097] at A1097 B1097 st1097
  have g_b1097 : n0 ≤ b1097 := Nat.le_trans Z0 (Nat.le_of_eq g1097.symm)
  have sz_b1097 : h0.size ≤ b1097 := Nat.le_trans K0.1 (Nat.le_of_eq g1097.symm)
  have c1098_0 := O1.ext E1097
  have Z1097 : n0 ≤ h1097.size := Nat.le_trans Z0 E1097.1
  have K1097 : Keep h0 h1097 [] := K0.ext E1097
  have V1097 : Arv Z h1097 b1097 k1097 .byte (2 : Int32) [(.int (0 : Int32)), (.int (0 : Int32))] (.int (0 : Int32)) := (Arv.new A1097 (by decide)).pad (pad_rep [] (.int (0 : Int32)) 2)
  obtain ⟨cl1099, Ar1099, q1099, S1099, M1099, H1099, G1099⟩ := id V1097
  have hin1099 : ¬ ((0 : Int32) < 0 ∨ cl1099.slots.size ≤ ((0 : Int32)).toNatClampNeg) := inb_of S1099 ⟨by decide, by decide⟩
  obtain ⟨T1099, h1099, X1099, e1099, W1099, st1099⟩ := stB X1097 hx hZ e1097 Ar1099 (j := (0 : Int32)) hin1099 (g := (mkF m 49 #[.val (.int u1), .val (.int u2), .val (.long u3), .second, .val (.long u4), .second, .val (.int u5), .val (.int u6), .val (.int d8), .val (.ref cr), .val (.int nr), .unset, .unset, .unset, .unset, .unset] [(.int (u5.toInt8.toInt32)), (.int (0 : Int32)), (.ref b1097), (.ref b1097)])) rfl rfl (hb hby at_49)
  have V1099 := Arv.set Ar1099 q1099 S1099 M1099 H1099 G1099 (fits_nar_byte _) W1099 0 rfl (Nat.le_of_ble_eq_true rfl)
  have c1100_0 := c1098_0.wr W1099 g_b1097
  have c1100_1 := B1097.wr W1099
  have Z1099 : n0 ≤ h1099.size := Nat.le_trans Z1097 (Nat.le_of_eq W1099.size.symm)
  have K1099 : Keep h0 h1099 [] := K1097.wr W1099 (Or.inr sz_b1097)
  have N1099 := Fr.snoc X1099 N1092 g_b1097
  obtain ⟨cl1101, Ar1101, q1101, S1101, M1101, H1101, G1101⟩ := id V1099
  have hin1101 : ¬ ((1 : Int32) < 0 ∨ cl1101.slots.size ≤ ((1 : Int32)).toNatClampNeg) := inb_of S1101 ⟨by decide, by decide⟩
  obtain ⟨T1101, h1101, X1101, e1101, W1101, st1101⟩ := stB X1099 hx hZ e1099 Ar1101 (j := (1 : Int32)) hin1101 (g := (mkF m 58 #[.val (.int u1), .val (.int u2), .val (.long u3), .second, .val (.long u4), .second, .val (.int u5), .val (.int u6), .val (.int d8), .val (.ref cr), .val (.int nr), .unset, .unset, .unset, .unset, .unset] [(.int (((u5.toUInt32 >>> ((8 : Int32) &&& 31).toUInt32).toInt32).toInt8.toInt32)), (.int (1 : Int32)), (.ref b1097), (.ref b1097)])) rfl rfl (hb hby at_58)
  have V1101 := Arv.set Ar1101 q1101 S1101 M1101 H1101 G1101 (fits_nar_byte _) W1101 1 rfl (Nat.le_of_ble_eq_true rfl)
  have c1102_0 := c1100_0.wr W1101 g_b1097
  have c1102_1 := c1100_1.wr W1101
  have Z1101 : n0 ≤ h1101.size := Nat.le_trans Z1099 (Nat.le_of_eq W1101.size.symm)
  have K1101 : Keep h0 h1101 [] := K1099.wr W1101 (Or.inr sz_b1097)
  have N1101 := Fr.snoc X1101 N1099 g_b1097
  obtain ⟨T1103, h1103, k1103, X1103, e1103, E1103, A1103, B1103, st1103⟩ := own_newB X1101 hx hZ (hw _ (List.mem_of_getElem? (i := 7) rfl)) e1101 (g := (mkF m 62 #[.val (.int u1), .val (.int u2), .val (.long u3), .second, .val (.long u4), .second, .val (.int u5), .val (.int u6), .val (.int d8), .val (.ref cr), .val (.int nr), .val (.ref b1097), .unset, .unset, .unset, .unset] [(.int (3 : Int32))])) rfl (hb hby at_62) rfl (by decide) (cap := 3) (by decide) (by decide) (by decide) (by decide)
  obtain ⟨b1103, g1103⟩ : ∃ z, z = h1101.size := ⟨_, rfl⟩
  rw [← g1103] at A1103 B1103 st1103
  have ne_b1097_b1103 : b1097 ≠ b1103 := Nat.ne_of_lt (Nat.lt_of_lt_of_le c1102_1.lt (Nat.le_of_eq g1103.symm))
  have g_b1103 : n0 ≤ b1103 := Nat.le_trans Z1101 (Nat.le_of_eq g1103.symm)
  have sz_b1103 : h0.size ≤ b1103 := Nat.le_trans K1101.1 (Nat.le_of_eq g1103.symm)
  have c1104_0 := c1102_0.ext E1103
  have c1104_1 := c1102_1.ext E1103
  have c1104_2 := V1101.ext E1103
  have Z1103 : n0 ≤ h1103.size := Nat.le_trans Z1101 E1103.1
  have K1103 : Keep h0 h1103 [] := K1101.ext E1103
  have V1103 : Arv Z h1103 b1103 k1103 .byte (3 : Int32) [(.int (0 : Int32)), (.int (0 : Int32)), (.int (0 : Int32))] (.int (0 : Int32)) := (Arv.new A1103 (by decide)).pad (pad_rep [] (.int (0 : Int32)) 3)
  obtain ⟨cl1105, Ar1105, q1105, S1105, M1105, H1105, G1105⟩ := id V1103
  have hin1105 : ¬ ((0 : Int32) < 0 ∨ cl1105.slots.size ≤ ((0 : Int32)).toNatClampNeg) := inb_of S1105 ⟨by decide, by decide⟩
  obtain ⟨T1105, h1105, X1105, e1105, W1105, st1105⟩ := stB X1103 hx hZ e1103 Ar1105 (j := (0 : Int32)) hin1105 (g := (mkF m 69 #[.val (.int u1), .val (.int u2), .val (.long u3), .second, .val (.long u4), .second, .val (.int u5), .val (.int u6), .val (.int d8), .val (.ref cr), .val (.int nr), .val (.ref b1097), .unset, .unset, .unset, .unset] [(.int (u6.toInt8.toInt32)), (.int (0 : Int32)), (.ref b1103), (.ref b1103)])) rfl rfl (hb hby at_69)
  have V1105 := Arv.set Ar1105 q1105 S1105 M1105 H1105 G1105 (fits_nar_byte _) W1105 0 rfl (Nat.le_of_ble_eq_true rfl)
  have c1106_0 := c1104_0.wr W1105 g_b1103
  have c1106_1 := c1104_1.wr W1105
  have c1106_2 := c1104_2.other W1105 ne_b1097_b1103
  have c1106_3 := B1103.wr W1105
  have Z1105 : n0 ≤ h1105.size := Nat.le_trans Z1103 (Nat.le_of_eq W1105.size.symm)
  have K1105 : Keep h0 h1105 [] := K1103.wr W1105 (Or.inr sz_b1103)
  have N1105 := Fr.snoc X1105 N1101 g_b1103
  obtain ⟨cl1107, Ar1107, q1107, S1107, M1107, H1107, G1107⟩ := id V1105
  have hin1107 : ¬ ((1 : Int32) < 0 ∨ cl1107.slots.size ≤ ((1 : Int32)).toNatClampNeg) := inb_of S1107 ⟨by decide, by decide⟩
  obtain ⟨T1107, h1107, X1107, e1107, W1107, st1107⟩ := stB X1105 hx hZ e1105 Ar1107 (j := (1 : Int32)) hin1107 (g := (mkF m 78 #[.val (.int u1), .val (.int u2), .val (.long u3), .second, .val (.long u4), .second, .val (.int u5), .val (.int u6), .val (.int d8), .val (.ref cr), .val (.int nr), .val (.ref b1097), .unset, .unset, .unset, .unset] [(.int (((u6.toUInt32 >>> ((8 : Int32) &&& 31).toUInt32).toInt32).toInt8.toInt32)), (.int (1 : Int32)), (.ref b1103), (.ref b1103)])) rfl rfl (hb hby at_78)
  have V1107 := Arv.set Ar1107 q1107 S1107 M1107 H1107 G1107 (fits_nar_byte _) W1107 1 rfl (Nat.le_of_ble_eq_true rfl)
  have c1108_0 := c1106_0.wr W1107 g_b1103
  have c1108_1 := c1106_1.wr W1107
  have c1108_2 := c1106_2.other W1107 ne_b1097_b1103
  have c1108_3 := c1106_3.wr W1107
  have Z1107 : n0 ≤ h1107.size := Nat.le_trans Z1105 (Nat.le_of_eq W1107.size.symm)
  have K1107 : Keep h0 h1107 [] := K1105.wr W1107 (Or.inr sz_b1103)
  have N1107 := Fr.snoc X1107 N1105 g_b1103
  obtain ⟨cl1109, Ar1109, q1109, S1109, M1109, H1109, G1109⟩ := id V1107
  have hin1109 : ¬ ((2 : Int32) < 0 ∨ cl1109.slots.size ≤ ((2 : Int32)).toNatClampNeg) := inb_of S1109 ⟨by decide, by decide⟩
  obtain ⟨T1109, h1109, X1109, e1109, W1109, st1109⟩ := stB X1107 hx hZ e1107 Ar1109 (j := (2 : Int32)) hin1109 (g := (mkF m 87 #[.val (.int u1), .val (.int u2), .val (.long u3), .second, .val (.long u4), .second, .val (.int u5), .val (.int u6), .val (.int d8), .val (.ref cr), .val (.int nr), .val (.ref b1097), .unset, .unset, .unset, .unset] [(.int (((u6.toUInt32 >>> ((16 : Int32) &&& 31).toUInt32).toInt32).toInt8.toInt32)), (.int (2 : Int32)), (.ref b1103), (.ref b1103)])) rfl rfl (hb hby at_87)
  have V1109 := Arv.set Ar1109 q1109 S1109 M1109 H1109 G1109 (fits_nar_byte _) W1109 2 rfl (Nat.le_of_ble_eq_true rfl)
  have c1110_0 := c1108_0.wr W1109 g_b1103
  have c1110_1 := c1108_1.wr W1109
  have c1110_2 := c1108_2.other W1109 ne_b1097_b1103
  have c1110_3 := c1108_3.wr W1109
  have Z1109 : n0 ≤ h1109.size := Nat.le_trans Z1107 (Nat.le_of_eq W1109.size.symm)
  have K1109 : Keep h0 h1109 [] := K1107.wr W1109 (Or.inr sz_b1103)
  have N1109 := Fr.snoc X1109 N1107 g_b1103
  obtain ⟨_, _, ⟨T1111, L1111, k1111, n1111⟩, -, X1111, ⟨Lc1111, hQ1111, l1111, y1111, z1111⟩, st1111⟩ := Jvm.LawKit.callS X1109 hx (y := (⟨"com/example/hardy_cache/hardycache/server/Request", "storage", "(Lcom/example/hardy_cache/hardycache/server/Request$Command;[BIJ[BJZ)Lcom/example/hardy_cache/hardycache/server/Request;"⟩ : MethodName)) hown (mvT hZ (hw _ (List.mem_of_getElem? (i := 8) rfl))) (mvT hZ (hw _ (List.mem_of_getElem? (i := 9) rfl))) (mvT hZ (hw _ (List.mem_of_getElem? (i := 10) rfl))) (mvT hZ (hw _ (List.mem_of_getElem? (i := 11) rfl))) (by decide) (backOf (W := 0) (rm_stor l Z a0 hw [] cr b1097 u2 u3 b1103 u4 nr em h1109 n0 Z1109 SE c1110_0 hnr) hZ (hw _ (List.mem_of_getElem? (i := 11) rfl)) (hw _ (List.mem_of_getElem? (i := 10) rfl)) (by decide) (by decide)) (g := (mkF m 102 #[.val (.int u1), .val (.int u2), .val (.long u3), .second, .val (.long u4), .second, .val (.int u5), .val (.int u6), .val (.int d8), .val (.ref cr), .val (.int nr), .val (.ref b1097), .val (.ref b1103), .unset, .unset, .unset] [(.int nr), (.long u4), (.ref b1103), (.long u3), (.int u2), (.ref b1097), (.ref cr)])) rfl (by rw [hml]; rfl) (argsL := [(.ref cr), (.ref b1097), (.int u2), (.long u3), (.ref b1103), (.long u4), (.int nr)]) (rest := []) (lenOf pd_7 rfl) rfl (by show 2 * 0 + _ ≤ _; exact Nat.le_of_eq rfl) (hb hby at_102) (fun _ _ => ⟨rfl, e1109, (by decide : 2 + 2 ≤ _), (by decide : 5 + 11 ≤ _)⟩)
  dsimp only [Pt.U, Pt.locs, Pt.cells, Pt.slots] at X1111 l1111 y1111 z1111 st1111 hQ1111
  subst l1111 y1111 z1111
  obtain ⟨rq, ls, rfl, N1111q, Ks, hs1, hs2, Er, Fr_command, Fr_keys, Fr_flags, Fr_exptime, Fr_value, Fr_casUnique, Fr_noreply, Els, Fl0, Fl1⟩ := hQ1111
  have N1111 := Fr.app N1109 N1111q
  have ne_b1097_rq : b1097 ≠ rq := Nat.ne_of_lt (Nat.lt_of_lt_of_le c1110_1.lt hs1)
  have ne_b1103_rq : b1103 ≠ rq := Nat.ne_of_lt (Nat.lt_of_lt_of_le c1110_3.lt hs1)
  have g_rq : n0 ≤ rq := Nat.le_trans Z1109 hs1
  have sz_rq : h0.size ≤ rq := Nat.le_trans K1109.1 hs1
  have c1112_0 := c1110_0.keep Ks all0
  have c1112_1 := c1110_1.keep Ks
  have c1112_2 := c1110_2.keep Ks nin0
  have c1112_3 := c1110_3.keep Ks
  have c1112_4 := V1109.keep Ks nin0
  have Z1111 : n0 ≤ T1111.heap.size := Nat.le_trans Z1109 Ks.1
  have K1111 : Keep h0 T1111.heap [] := K1109.trans Ks all0
  obtain ⟨cq1113, kq1113, q1113a, q1113b, q1113c⟩ := isOf hZ rfl Er
  obtain ⟨_, _, ⟨T1113, L1113, k1113, n1113⟩, -, X1113, ⟨Lc1113, hQ1113, l1113, y1113, z1113⟩, st1113⟩ := X1111.virtualBack hx (y := (⟨"com/example/hardy_cache/hardycache/server/Request", "getCommand", "()Lcom/example/hardy_cache/hardycache/server/Request$Command;"⟩ : MethodName)) (z := (⟨"com/example/hardy_cache/hardycache/server/Request", "getCommand", "()Lcom/example/hardy_cache/hardycache/server/Request$Command;"⟩ : MethodName)) hown (mvT hZ (hw _ (List.mem_of_getElem? (i := 78) rfl))) (mvT hZ (hw _ (List.mem_of_getElem? (i := 79) rfl))) (notFace_of_selects (args := #[]) (mvT hZ (hw _ (List.mem_of_getElem? (i := 81) rfl)))) (mvT hZ (hw _ (List.mem_of_getElem? (i := 81) rfl))) (mvT hZ (hw _ (List.mem_of_getElem? (i := 80) rfl))) (by decide) (backOf (W := 0) (rm_getCommand l Z a0 hw [] rq cr T1111.heap n0 Z1111 Fr_command) hZ (hw _ (List.mem_of_getElem? (i := 82) rfl)) (hw _ (List.mem_of_getElem? (i := 10) rfl)) (by decide) (by decide)) q1113a q1113c (g := (mkF m 109 #[.val (.int u1), .val (.int u2), .val (.long u3), .second, .val (.long u4), .second, .val (.int u5), .val (.int u6), .val (.int d8), .val (.ref cr), .val (.int nr), .val (.ref b1097), .val (.ref b1103), .val (.ref rq), .unset, .unset] [(.ref rq)])) rfl (by rw [hml]; rfl) (Steps.refl _) (argsL := []) (rest := []) (lenOf pd_8 rfl) rfl (by show 2 * 0 + _ ≤ _; exact Nat.le_of_eq rfl) (hb hby at_109) (fun _ _ => ⟨rfl, rfl, (by decide : 4 + 0 ≤ _), (by decide : 16 + 0 ≤ _)⟩)
  dsimp only [Pt.U, Pt.locs, Pt.cells, Pt.slots] at X1113 l1113 y1113 z1113 st1113 hQ1113
  subst l1113 y1113 z1113
  obtain ⟨rfl, N1113q, eggetCommand⟩ := hQ1113
  have N1113 := Fr.app N1111 N1113q
  obtain ⟨cq1114, kq1114, q1114a, q1114b, q1114c⟩ := isOf hZ eggetCommand Er
  obtain ⟨_, _, ⟨T1114, L1114, k1114, n1114⟩, -, X1114, ⟨Lc1114, hQ1114, l1114, y1114, z1114⟩, st1114⟩ := X1113.virtualBack hx (y := (⟨"com/example/hardy_cache/hardycache/server/Request", "getKeys", "()Ljava/util/List;"⟩ : MethodName)) (z := (⟨"com/example/hardy_cache/hardycache/server/Request", "getKeys", "()Ljava/util/List;"⟩ : MethodName)) hown (mvT hZ (hw _ (List.mem_of_getElem? (i := 83) rfl))) (mvT hZ (hw _ (List.mem_of_getElem? (i := 84) rfl))) (notFace_of_selects (args := #[]) (mvT hZ (hw _ (List.mem_of_getElem? (i := 86) rfl)))) (mvT hZ (hw _ (List.mem_of_getElem? (i := 86) rfl))) (mvT hZ (hw _ (List.mem_of_getElem? (i := 85) rfl))) (by decide) (backOf (W := 0) (rm_getKeys l Z a0 hw [] rq ls T1111.heap n0 Z1111 Fr_keys) hZ (hw _ (List.mem_of_getElem? (i := 87) rfl)) (hw _ (List.mem_of_getElem? (i := 10) rfl)) (by decide) (by decide)) q1114a q1114c (g := (mkF m 121 #[.val (.int u1), .val (.int u2), .val (.long u3), .second, .val (.long u4), .second, .val (.int u5), .val (.int u6), .val (.int d8), .val (.ref cr), .val (.int nr), .val (.ref b1097), .val (.ref b1103), .val (.ref rq), .unset, .unset] [(.ref rq)])) rfl (by rw [hml]; rfl) (Steps.refl _) (argsL := []) (rest := []) (lenOf pd_9 rfl) rfl (by show 2 * 0 + _ ≤ _; exact Nat.le_of_eq rfl) (hb hby at_121) (fun _ _ => ⟨rfl, eggetCommand, (by decide : 4 + 0 ≤ _), (by decide : 16 + 0 ≤ _)⟩)
  dsimp only [Pt.U, Pt.locs, Pt.cells, Pt.slots] at X1114 l1114 y1114 z1114 st1114 hQ1114
  subst l1114 y1114 z1114
  obtain ⟨rfl, N1114q, eggetKeys⟩ := hQ1114
  have N1114 := Fr.app N1113 N1114q
  obtain ⟨cq1115, kq1115, q1115a, q1115b, q1115c⟩ := isOf hZ eggetKeys Els
  obtain ⟨_, _, ⟨T1115, L1115, k1115, n1115⟩, -, X1115, ⟨Lc1115, hQ1115, l1115, y1115, z1115⟩, st1115⟩ := X1114.interfaceBack hx (xi := (⟨"java/util/List", "size", "()I"⟩ : MethodName)) (y := (⟨"java/util/ImmutableCollections$List12", "size", "()I"⟩ : MethodName)) hown (mvT hZ (hw _ (List.mem_of_getElem? (i := 88) rfl))) (mvT hZ (hw _ (List.mem_of_getElem? (i := 89) rfl))) (mvT hZ (hw _ (List.mem_of_getElem? (i := 90) rfl))) (mvT hZ (hw _ (List.mem_of_getElem? (i := 91) rfl))) (mvT hZ (hw _ (List.mem_of_getElem? (i := 92) rfl))) (mvT hZ (hw _ (List.mem_of_getElem? (i := 93) rfl))) (mvT hZ (hw _ (List.mem_of_getElem? (i := 94) rfl))) (mvT hZ (hw _ (List.mem_of_getElem? (i := 95) rfl))) (by decide) (backOf (W := 0) (rm_size l Z a0 hw [] ls em T1111.heap n0 Z1111 Fl1 SE c1112_0) hZ (hw _ (List.mem_of_getElem? (i := 96) rfl)) (hw _ (List.mem_of_getElem? (i := 20) rfl)) (by decide) (by decide)) q1115a q1115b q1115c (g := (mkF m 124 #[.val (.int u1), .val (.int u2), .val (.long u3), .second, .val (.long u4), .second, .val (.int u5), .val (.int u6), .val (.int d8), .val (.ref cr), .val (.int nr), .val (.ref b1097), .val (.ref b1103), .val (.ref rq), .unset, .unset] [(.ref ls)])) rfl (by rw [hml]; rfl) (Steps.refl _) (argsL := []) (rest := []) (lenOf pd_10 rfl) rfl (by show 2 * 0 + _ ≤ _; exact Nat.le_of_eq rfl) (hb hby at_124) (fun _ _ => ⟨rfl, eggetKeys, (by decide : 4 + 0 ≤ _), (by decide : 16 + 0 ≤ _)⟩)
  dsimp only [Pt.U, Pt.locs, Pt.cells, Pt.slots] at X1115 l1115 y1115 z1115 st1115 hQ1115
  subst l1115 y1115 z1115
  obtain ⟨rfl, N1115q, e124⟩ := hQ1115
  have N1115 := Fr.app N1114 N1115q
  obtain ⟨cq1116, kq1116, q1116a, q1116b, q1116c⟩ := isOf hZ e124 Er
  obtain ⟨_, _, ⟨T1116, L1116, k1116, n1116⟩, -, X1116, ⟨Lc1116, hQ1116, l1116, y1116, z1116⟩, st1116⟩ := X1115.virtualBack hx (y := (⟨"com/example/hardy_cache/hardycache/server/Request", "getKey", "()[B"⟩ : MethodName)) (z := (⟨"com/example/hardy_cache/hardycache/server/Request", "getKey", "()[B"⟩ : MethodName)) hown (mvT hZ (hw _ (List.mem_of_getElem? (i := 97) rfl))) (mvT hZ (hw _ (List.mem_of_getElem? (i := 98) rfl))) (notFace_of_selects (args := #[]) (mvT hZ (hw _ (List.mem_of_getElem? (i := 100) rfl)))) (mvT hZ (hw _ (List.mem_of_getElem? (i := 100) rfl))) (mvT hZ (hw _ (List.mem_of_getElem? (i := 99) rfl))) (by decide) (backOf (W := 0) (rm_getKey l Z a0 hw [] rq ls b1097 T1111.heap n0 Z1111 Fr_keys Els Fl0 c1112_1) hZ (hw _ (List.mem_of_getElem? (i := 101) rfl)) (hw _ (List.mem_of_getElem? (i := 10) rfl)) (by decide) (by decide)) q1116a q1116c (g := (mkF m 137 #[.val (.int u1), .val (.int u2), .val (.long u3), .second, .val (.long u4), .second, .val (.int u5), .val (.int u6), .val (.int d8), .val (.ref cr), .val (.int nr), .val (.ref b1097), .val (.ref b1103), .val (.ref rq), .unset, .unset] [(.ref rq)])) rfl (by rw [hml]; rfl) (Steps.refl _) (argsL := []) (rest := []) (lenOf pd_11 rfl) rfl (by show 2 * 0 + _ ≤ _; exact Nat.le_of_eq rfl) (hb hby at_137) (fun _ _ => ⟨rfl, e124, (by decide : 4 + 0 ≤ _), (by decide : 16 + 0 ≤ _)⟩)
  dsimp only [Pt.U, Pt.locs, Pt.cells, Pt.slots] at X1116 l1116 y1116 z1116 st1116 hQ1116
  subst l1116 y1116 z1116
  obtain ⟨rfl, N1116q, e137⟩ := hQ1116
  have N1116 := Fr.app N1115 N1116q
  obtain ⟨cl1117, Ar1117, q1117, S1117, M1117, -, -⟩ := id c1112_2
  obtain ⟨cl1118, Ar1118, q1118, S1118, M1118, H1118, G1118⟩ := id c1112_2
  have hin1118 : ¬ ((0 : Int32) < 0 ∨ cl1118.slots.size ≤ ((0 : Int32)).toNatClampNeg) := inb_of S1118 ⟨by decide, by decide⟩
  have hat1118 : cl1118.slots[((0 : Int32)).toNatClampNeg]? = some (.int (u5.toInt8.toInt32).toInt8.toInt32) := Has.at H1118 hin1118 rfl
  obtain ⟨cl1119, Ar1119, q1119, S1119, M1119, H1119, G1119⟩ := id c1112_2
  have hin1119 : ¬ ((1 : Int32) < 0 ∨ cl1119.slots.size ≤ ((1 : Int32)).toNatClampNeg) := inb_of S1119 ⟨by decide, by decide⟩
  have hat1119 : cl1119.slots[((1 : Int32)).toNatClampNeg]? = some (.int (((u5.toUInt32 >>> ((8 : Int32) &&& 31).toUInt32).toInt32).toInt8.toInt32).toInt8.toInt32) := Has.at H1119 hin1119 rfl
  obtain ⟨cq1120, kq1120, q1120a, q1120b, q1120c⟩ := isOf hZ e137 Er
  obtain ⟨_, _, ⟨T1120, L1120, k1120, n1120⟩, -, X1120, ⟨Lc1120, hQ1120, l1120, y1120, z1120⟩, st1120⟩ := X1116.virtualBack hx (y := (⟨"com/example/hardy_cache/hardycache/server/Request", "getFlags", "()I"⟩ : MethodName)) (z := (⟨"com/example/hardy_cache/hardycache/server/Request", "getFlags", "()I"⟩ : MethodName)) hown (mvT hZ (hw _ (List.mem_of_getElem? (i := 112) rfl))) (mvT hZ (hw _ (List.mem_of_getElem? (i := 113) rfl))) (notFace_of_selects (args := #[]) (mvT hZ (hw _ (List.mem_of_getElem? (i := 115) rfl)))) (mvT hZ (hw _ (List.mem_of_getElem? (i := 115) rfl))) (mvT hZ (hw _ (List.mem_of_getElem? (i := 114) rfl))) (by decide) (backOf (W := 0) (rm_getFlags l Z a0 hw [] rq u2 T1111.heap n0 Z1111 Fr_flags) hZ (hw _ (List.mem_of_getElem? (i := 116) rfl)) (hw _ (List.mem_of_getElem? (i := 10) rfl)) (by decide) (by decide)) q1120a q1120c (g := (mkF m 181 #[.val (.int u1), .val (.int u2), .val (.long u3), .second, .val (.long u4), .second, .val (.int u5), .val (.int u6), .val (.int d8), .val (.ref cr), .val (.int nr), .val (.ref b1097), .val (.ref b1103), .val (.ref rq), .val (.ref b1097), .unset] [(.ref rq)])) rfl (by rw [hml]; rfl) (Steps.refl _) (argsL := []) (rest := []) (lenOf pd_10 rfl) rfl (by show 2 * 0 + _ ≤ _; exact Nat.le_of_eq rfl) (hb hby at_181) (fun _ _ => ⟨rfl, e137, (by decide : 4 + 0 ≤ _), (by decide : 16 + 0 ≤ _)⟩)
  dsimp only [Pt.U, Pt.locs, Pt.cells, Pt.slots] at X1120 l1120 y1120 z1120 st1120 hQ1120
  subst l1120 y1120 z1120
  obtain ⟨rfl, N1120q, eggetFlags⟩ := hQ1120
  have N1120 := Fr.app N1116 N1120q
  obtain ⟨cq1121, kq1121, q1121a, q1121b, q1121c⟩ := isOf hZ eggetFlags Er
  obtain ⟨_, _, ⟨T1121, L1121, k1121, n1121⟩, -, X1121, ⟨Lc1121, hQ1121, l1121, y1121, z1121⟩, st1121⟩ := X1120.virtualBack hx (y := (⟨"com/example/hardy_cache/hardycache/server/Request", "getExptime", "()J"⟩ : MethodName)) (z := (⟨"com/example/hardy_cache/hardycache/server/Request", "getExptime", "()J"⟩ : MethodName)) hown (mvT hZ (hw _ (List.mem_of_getElem? (i := 117) rfl))) (mvT hZ (hw _ (List.mem_of_getElem? (i := 118) rfl))) (notFace_of_selects (args := #[]) (mvT hZ (hw _ (List.mem_of_getElem? (i := 120) rfl)))) (mvT hZ (hw _ (List.mem_of_getElem? (i := 120) rfl))) (mvT hZ (hw _ (List.mem_of_getElem? (i := 119) rfl))) (by decide) (backOf (W := 0) (rm_getExptime l Z a0 hw [] rq u3 T1111.heap n0 Z1111 Fr_exptime) hZ (hw _ (List.mem_of_getElem? (i := 121) rfl)) (hw _ (List.mem_of_getElem? (i := 10) rfl)) (by decide) (by decide)) q1121a q1121c (g := (mkF m 192 #[.val (.int u1), .val (.int u2), .val (.long u3), .second, .val (.long u4), .second, .val (.int u5), .val (.int u6), .val (.int d8), .val (.ref cr), .val (.int nr), .val (.ref b1097), .val (.ref b1103), .val (.ref rq), .val (.ref b1097), .unset] [(.ref rq)])) rfl (by rw [hml]; rfl) (Steps.refl _) (argsL := []) (rest := []) (lenOf pd_12 rfl) rfl (by show 2 * 0 + _ ≤ _; exact Nat.le_of_eq rfl) (hb hby at_192) (fun _ _ => ⟨rfl, eggetFlags, (by decide : 4 + 0 ≤ _), (by decide : 16 + 0 ≤ _)⟩)
  dsimp only [Pt.U, Pt.locs, Pt.cells, Pt.slots] at X1121 l1121 y1121 z1121 st1121 hQ1121
  subst l1121 y1121 z1121
  obtain ⟨rfl, N1121q, eggetExptime⟩ := hQ1121
  have N1121 := Fr.app N1120 N1121q
  obtain ⟨cq1122, kq1122, q1122a, q1122b, q1122c⟩ := isOf hZ eggetExptime Er
  obtain ⟨_, _, ⟨T1122, L1122, k1122, n1122⟩, -, X1122, ⟨Lc1122, hQ1122, l1122, y1122, z1122⟩, st1122⟩ := X1121.virtualBack hx (y := (⟨"com/example/hardy_cache/hardycache/server/Request", "getValue", "()[B"⟩ : MethodName)) (z := (⟨"com/example/hardy_cache/hardycache/server/Request", "getValue", "()[B"⟩ : MethodName)) hown (mvT hZ (hw _ (List.mem_of_getElem? (i := 122) rfl))) (mvT hZ (hw _ (List.mem_of_getElem? (i := 123) rfl))) (notFace_of_selects (args := #[]) (mvT hZ (hw _ (List.mem_of_getElem? (i := 125) rfl)))) (mvT hZ (hw _ (List.mem_of_getElem? (i := 125) rfl))) (mvT hZ (hw _ (List.mem_of_getElem? (i := 124) rfl))) (by decide) (backOf (W := 0) (rm_getValue l Z a0 hw [] rq b1103 T1111.heap n0 Z1111 Fr_value) hZ (hw _ (List.mem_of_getElem? (i := 126) rfl)) (hw _ (List.mem_of_getElem? (i := 10) rfl)) (by decide) (by decide)) q1122a q1122c (g := (mkF m 204 #[.val (.int u1), .val (.int u2), .val (.long u3), .second, .val (.long u4), .second, .val (.int u5), .val (.int u6), .val (.int d8), .val (.ref cr), .val (.int nr), .val (.ref b1097), .val (.ref b1103), .val (.ref rq), .val (.ref b1097), .unset] [(.ref rq)])) rfl (by rw [hml]; rfl) (Steps.refl _) (argsL := []) (rest := []) (lenOf pd_11 rfl) rfl (by show 2 * 0 + _ ≤ _; exact Nat.le_of_eq rfl) (hb hby at_204) (fun _ _ => ⟨rfl, eggetExptime, (by decide : 4 + 0 ≤ _), (by decide : 16 + 0 ≤ _)⟩)
  dsimp only [Pt.U, Pt.locs, Pt.cells, Pt.slots] at X1122 l1122 y1122 z1122 st1122 hQ1122
  subst l1122 y1122 z1122
  obtain ⟨rfl, N1122q, eggetValue⟩ := hQ1122
  have N1122 := Fr.app N1121 N1122q
  obtain ⟨cl1123, Ar1123, q1123, S1123, M1123, -, -⟩ := id c1112_4
  obtain ⟨cl1124, Ar1124, q1124, S1124, M1124, H1124, G1124⟩ := id c1112_4
  have hin1124 : ¬ ((0 : Int32) < 0 ∨ cl1124.slots.size ≤ ((0 : Int32)).toNatClampNeg) := inb_of S1124 ⟨by decide, by decide⟩
  have hat1124 : cl1124.slots[((0 : Int32)).toNatClampNeg]? = some (.int (u6.toInt8.toInt32).toInt8.toInt32) := Has.at H1124 hin1124 rfl
  obtain ⟨cl1125, Ar1125, q1125, S1125, M1125, H1125, G1125⟩ := id c1112_4
  have hin1125 : ¬ ((1 : Int32) < 0 ∨ cl1125.slots.size ≤ ((1 : Int32)).toNatClampNeg) := inb_of S1125 ⟨by decide, by decide⟩
  have hat1125 : cl1125.slots[((1 : Int32)).toNatClampNeg]? = some (.int (((u6.toUInt32 >>> ((8 : Int32) &&& 31).toUInt32).toInt32).toInt8.toInt32).toInt8.toInt32) := Has.at H1125 hin1125 rfl
  obtain ⟨cl1126, Ar1126, q1126, S1126, M1126, H1126, G1126⟩ := id c1112_4
  have hin1126 : ¬ ((2 : Int32) < 0 ∨ cl1126.slots.size ≤ ((2 : Int32)).toNatClampNeg) := inb_of S1126 ⟨by decide, by decide⟩
  have hat1126 : cl1126.slots[((2 : Int32)).toNatClampNeg]? = some (.int (((u6.toUInt32 >>> ((16 : Int32) &&& 31).toUInt32).toInt32).toInt8.toInt32).toInt8.toInt32) := Has.at H1126 hin1126 rfl
  obtain ⟨cq1127, kq1127, q1127a, q1127b, q1127c⟩ := isOf hZ eggetValue Er
  obtain ⟨_, _, ⟨T1127, L1127, k1127, n1127⟩, -, X1127, ⟨Lc1127, hQ1127, l1127, y1127, z1127⟩, st1127⟩ := X1122.virtualBack hx (y := (⟨"com/example/hardy_cache/hardycache/server/Request", "isNoreply", "()Z"⟩ : MethodName)) (z := (⟨"com/example/hardy_cache/hardycache/server/Request", "isNoreply", "()Z"⟩ : MethodName)) hown (mvT hZ (hw _ (List.mem_of_getElem? (i := 127) rfl))) (mvT hZ (hw _ (List.mem_of_getElem? (i := 128) rfl))) (notFace_of_selects (args := #[]) (mvT hZ (hw _ (List.mem_of_getElem? (i := 130) rfl)))) (mvT hZ (hw _ (List.mem_of_getElem? (i := 130) rfl))) (mvT hZ (hw _ (List.mem_of_getElem? (i := 129) rfl))) (by decide) (backOf (W := 0) (rm_isNoreply l Z a0 hw [] rq nr T1111.heap n0 Z1111 Fr_noreply hnr) hZ (hw _ (List.mem_of_getElem? (i := 131) rfl)) (hw _ (List.mem_of_getElem? (i := 10) rfl)) (by decide) (by decide)) q1127a q1127c (g := (mkF m 261 #[.val (.int u1), .val (.int u2), .val (.long u3), .second, .val (.long u4), .second, .val (.int u5), .val (.int u6), .val (.int d8), .val (.ref cr), .val (.int nr), .val (.ref b1097), .val (.ref b1103), .val (.ref rq), .val (.ref b1097), .val (.ref b1103)] [(.ref rq)])) rfl (by rw [hml]; rfl) (Steps.refl _) (argsL := []) (rest := []) (lenOf pd_13 rfl) rfl (by show 2 * 0 + _ ≤ _; exact Nat.le_of_eq rfl) (hb hby at_261) (fun _ _ => ⟨rfl, eggetValue, (by decide : 4 + 0 ≤ _), (by decide : 16 + 0 ≤ _)⟩)
  dsimp only [Pt.U, Pt.locs, Pt.cells, Pt.slots] at X1127 l1127 y1127 z1127 st1127 hQ1127
  subst l1127 y1127 z1127
  obtain ⟨rfl, N1127q, egisNoreply⟩ := hQ1127
  have N1127 := Fr.app N1122 N1127q
  obtain ⟨T1128, X1128, e1128, st1128⟩ := getS2 X1127 hx hZ hown (host := "") (Or.inl (hw _ (List.mem_of_getElem? (i := 132) rfl))) Via.refl egisNoreply (S5.ext c1112_0.2) (g := (mkF m 273 #[.val (.int u1), .val (.int u2), .val (.long u3), .second, .val (.long u4), .second, .val (.int u5), .val (.int u6), .val (.int d8), .val (.ref cr), .val (.int nr), .val (.ref b1097), .val (.ref b1103), .val (.ref rq), .val (.ref b1097), .val (.ref b1103)] [(.ref cr)])) rfl (hb hby at_273)
  have P1129 : ∀ t, Steps p.tables e below (T1128.setTop (mkF m 276 #[.val (.int u1), .val (.int u2), .val (.long u3), .second, .val (.long u4), .second, .val (.int u5), .val (.int u6), .val (.int d8), .val (.ref cr), .val (.int nr), .val (.ref b1097), .val (.ref b1103), .val (.ref rq), .val (.ref b1097), .val (.ref b1103)] [(.ref c5), (.ref cr)])) t → Steps p.tables e below (s₁.setTop (entryFrame m #[(.int u1), (.int u2), (.long u3), (.long u4), (.int u5), (.int u6)] maxLocals)) t := fun t k => P1094 t (by
    refine XS.istore X1092.here hx rfl (hb hby at_39) rfl (l' := #[.val (.int u1), .val (.int u2), .val (.long u3), .second, .val (.long u4), .second, .val (.int u5), .val (.int u6), .val (.int d8), .val (.ref cr), .val (.int nr), .unset, .unset, .unset, .unset, .unset]) rfl ?_
    show Steps p.tables e below (T1092.setTop (mkF m 41 #[.val (.int u1), .val (.int u2), .val (.long u3), .second, .val (.long u4), .second, .val (.int u5), .val (.int u6), .val (.int d8), .val (.ref cr), .val (.int nr), .unset, .unset, .unset, .unset, .unset] [])) _
    refine XS.iconst X1092.here hx rfl (hb hby at_41) ?_
    show Steps p.tables e below (T1092.setTop (mkF m 42 #[.val (.int u1), .val (.int u2), .val (.long u3), .second, .val (.long u4), .second, .val (.int u5), .val (.int u6), .val (.int d8), .val (.ref cr), .val (.int nr), .unset, .unset, .unset, .unset, .unset] [(.int (2 : Int32))])) _
    refine st1097 _ ?_
    show Steps p.tables e below (T1097.setTop (mkF m 44 #[.val (.int u1), .val (.int u2), .val (.long u3), .second, .val (.long u4), .second, .val (.int u5), .val (.int u6), .val (.int d8), .val (.ref cr), .val (.int nr), .unset, .unset, .unset, .unset, .unset] [(.ref b1097)])) _
    refine XS.dup X1097.here hx rfl (hb hby at_44) rfl rfl ?_
    show Steps p.tables e below (T1097.setTop (mkF m 45 #[.val (.int u1), .val (.int u2), .val (.long u3), .second, .val (.long u4), .second, .val (.int u5), .val (.int u6), .val (.int d8), .val (.ref cr), .val (.int nr), .unset, .unset, .unset, .unset, .unset] [(.ref b1097), (.ref b1097)])) _
    refine XS.iconst X1097.here hx rfl (hb hby at_45) ?_
    show Steps p.tables e below (T1097.setTop (mkF m 46 #[.val (.int u1), .val (.int u2), .val (.long u3), .second, .val (.long u4), .second, .val (.int u5), .val (.int u6), .val (.int d8), .val (.ref cr), .val (.int nr), .unset, .unset, .unset, .unset, .unset] [(.int (0 : Int32)), (.ref b1097), (.ref b1097)])) _
    refine XS.iload X1097.here hx rfl (hb hby at_46) rfl ?_
    show Steps p.tables e below (T1097.setTop (mkF m 48 #[.val (.int u1), .val (.int u2), .val (.long u3), .second, .val (.long u4), .second, .val (.int u5), .val (.int u6), .val (.int d8), .val (.ref cr), .val (.int nr), .unset, .unset, .unset, .unset, .unset] [(.int u5), (.int (0 : Int32)), (.ref b1097), (.ref b1097)])) _
    refine XS.i2b X1097.here hx rfl (hb hby at_48) rfl ?_
    show Steps p.tables e below (T1097.setTop (mkF m 49 #[.val (.int u1), .val (.int u2), .val (.long u3), .second, .val (.long u4), .second, .val (.int u5), .val (.int u6), .val (.int d8), .val (.ref cr), .val (.int nr), .unset, .unset, .unset, .unset, .unset] [(.int (u5.toInt8.toInt32)), (.int (0 : Int32)), (.ref b1097), (.ref b1097)])) _
    refine st1099 _ ?_
    show Steps p.tables e below (T1099.setTop (mkF m 50 #[.val (.int u1), .val (.int u2), .val (.long u3), .second, .val (.long u4), .second, .val (.int u5), .val (.int u6), .val (.int d8), .val (.ref cr), .val (.int nr), .unset, .unset, .unset, .unset, .unset] [(.ref b1097)])) _
    refine XS.dup X1099.here hx rfl (hb hby at_50) rfl rfl ?_
    show Steps p.tables e below (T1099.setTop (mkF m 51 #[.val (.int u1), .val (.int u2), .val (.long u3), .second, .val (.long u4), .second, .val (.int u5), .val (.int u6), .val (.int d8), .val (.ref cr), .val (.int nr), .unset, .unset, .unset, .unset, .unset] [(.ref b1097), (.ref b1097)])) _
    refine XS.iconst X1099.here hx rfl (hb hby at_51) ?_
    show Steps p.tables e below (T1099.setTop (mkF m 52 #[.val (.int u1), .val (.int u2), .val (.long u3), .second, .val (.long u4), .second, .val (.int u5), .val (.int u6), .val (.int d8), .val (.ref cr), .val (.int nr), .unset, .unset, .unset, .unset, .unset] [(.int (1 : Int32)), (.ref b1097), (.ref b1097)])) _
    refine XS.iload X1099.here hx rfl (hb hby at_52) rfl ?_
    show Steps p.tables e below (T1099.setTop (mkF m 54 #[.val (.int u1), .val (.int u2), .val (.long u3), .second, .val (.long u4), .second, .val (.int u5), .val (.int u6), .val (.int d8), .val (.ref cr), .val (.int nr), .unset, .unset, .unset, .unset, .unset] [(.int u5), (.int (1 : Int32)), (.ref b1097), (.ref b1097)])) _
    refine XS.bipush X1099.here hx rfl (hb hby at_54) ?_
    show Steps p.tables e below (T1099.setTop (mkF m 56 #[.val (.int u1), .val (.int u2), .val (.long u3), .second, .val (.long u4), .second, .val (.int u5), .val (.int u6), .val (.int d8), .val (.ref cr), .val (.int nr), .unset, .unset, .unset, .unset, .unset] [(.int (8 : Int32)), (.int u5), (.int (1 : Int32)), (.ref b1097), (.ref b1097)])) _
    refine XS.iushr X1099.here hx rfl (hb hby at_56) rfl ?_
    show Steps p.tables e below (T1099.setTop (mkF m 57 #[.val (.int u1), .val (.int u2), .val (.long u3), .second, .val (.long u4), .second, .val (.int u5), .val (.int u6), .val (.int d8), .val (.ref cr), .val (.int nr), .unset, .unset, .unset, .unset, .unset] [(.int ((u5.toUInt32 >>> ((8 : Int32) &&& 31).toUInt32).toInt32)), (.int (1 : Int32)), (.ref b1097), (.ref b1097)])) _
    refine XS.i2b X1099.here hx rfl (hb hby at_57) rfl ?_
    show Steps p.tables e below (T1099.setTop (mkF m 58 #[.val (.int u1), .val (.int u2), .val (.long u3), .second, .val (.long u4), .second, .val (.int u5), .val (.int u6), .val (.int d8), .val (.ref cr), .val (.int nr), .unset, .unset, .unset, .unset, .unset] [(.int (((u5.toUInt32 >>> ((8 : Int32) &&& 31).toUInt32).toInt32).toInt8.toInt32)), (.int (1 : Int32)), (.ref b1097), (.ref b1097)])) _
    refine st1101 _ ?_
    show Steps p.tables e below (T1101.setTop (mkF m 59 #[.val (.int u1), .val (.int u2), .val (.long u3), .second, .val (.long u4), .second, .val (.int u5), .val (.int u6), .val (.int d8), .val (.ref cr), .val (.int nr), .unset, .unset, .unset, .unset, .unset] [(.ref b1097)])) _
    refine XS.astore X1101.here hx rfl (hb hby at_59) rfl rfl (l' := #[.val (.int u1), .val (.int u2), .val (.long u3), .second, .val (.long u4), .second, .val (.int u5), .val (.int u6), .val (.int d8), .val (.ref cr), .val (.int nr), .val (.ref b1097), .unset, .unset, .unset, .unset]) rfl ?_
    show Steps p.tables e below (T1101.setTop (mkF m 61 #[.val (.int u1), .val (.int u2), .val (.long u3), .second, .val (.long u4), .second, .val (.int u5), .val (.int u6), .val (.int d8), .val (.ref cr), .val (.int nr), .val (.ref b1097), .unset, .unset, .unset, .unset] [])) _
    refine XS.iconst X1101.here hx rfl (hb hby at_61) ?_
    show Steps p.tables e below (T1101.setTop (mkF m 62 #[.val (.int u1), .val (.int u2), .val (.long u3), .second, .val (.long u4), .second, .val (.int u5), .val (.int u6), .val (.int d8), .val (.ref cr), .val (.int nr), .val (.ref b1097), .unset, .unset, .unset, .unset] [(.int (3 : Int32))])) _
    refine st1103 _ ?_
    show Steps p.tables e below (T1103.setTop (mkF m 64 #[.val (.int u1), .val (.int u2), .val (.long u3), .second, .val (.long u4), .second, .val (.int u5), .val (.int u6), .val (.int d8), .val (.ref cr), .val (.int nr), .val (.ref b1097), .unset, .unset, .unset, .unset] [(.ref b1103)])) _
    refine XS.dup X1103.here hx rfl (hb hby at_64) rfl rfl ?_
    show Steps p.tables e below (T1103.setTop (mkF m 65 #[.val (.int u1), .val (.int u2), .val (.long u3), .second, .val (.long u4), .second, .val (.int u5), .val (.int u6), .val (.int d8), .val (.ref cr), .val (.int nr), .val (.ref b1097), .unset, .unset, .unset, .unset] [(.ref b1103), (.ref b1103)])) _
    refine XS.iconst X1103.here hx rfl (hb hby at_65) ?_
    show Steps p.tables e below (T1103.setTop (mkF m 66 #[.val (.int u1), .val (.int u2), .val (.long u3), .second, .val (.long u4), .second, .val (.int u5), .val (.int u6), .val (.int d8), .val (.ref cr), .val (.int nr), .val (.ref b1097), .unset, .unset, .unset, .unset] [(.int (0 : Int32)), (.ref b1103), (.ref b1103)])) _
    refine XS.iload X1103.here hx rfl (hb hby at_66) rfl ?_
    show Steps p.tables e below (T1103.setTop (mkF m 68 #[.val (.int u1), .val (.int u2), .val (.long u3), .second, .val (.long u4), .second, .val (.int u5), .val (.int u6), .val (.int d8), .val (.ref cr), .val (.int nr), .val (.ref b1097), .unset, .unset, .unset, .unset] [(.int u6), (.int (0 : Int32)), (.ref b1103), (.ref b1103)])) _
    refine XS.i2b X1103.here hx rfl (hb hby at_68) rfl ?_
    show Steps p.tables e below (T1103.setTop (mkF m 69 #[.val (.int u1), .val (.int u2), .val (.long u3), .second, .val (.long u4), .second, .val (.int u5), .val (.int u6), .val (.int d8), .val (.ref cr), .val (.int nr), .val (.ref b1097), .unset, .unset, .unset, .unset] [(.int (u6.toInt8.toInt32)), (.int (0 : Int32)), (.ref b1103), (.ref b1103)])) _
    refine st1105 _ ?_
    show Steps p.tables e below (T1105.setTop (mkF m 70 #[.val (.int u1), .val (.int u2), .val (.long u3), .second, .val (.long u4), .second, .val (.int u5), .val (.int u6), .val (.int d8), .val (.ref cr), .val (.int nr), .val (.ref b1097), .unset, .unset, .unset, .unset] [(.ref b1103)])) _
    refine XS.dup X1105.here hx rfl (hb hby at_70) rfl rfl ?_
    show Steps p.tables e below (T1105.setTop (mkF m 71 #[.val (.int u1), .val (.int u2), .val (.long u3), .second, .val (.long u4), .second, .val (.int u5), .val (.int u6), .val (.int d8), .val (.ref cr), .val (.int nr), .val (.ref b1097), .unset, .unset, .unset, .unset] [(.ref b1103), (.ref b1103)])) _
    refine XS.iconst X1105.here hx rfl (hb hby at_71) ?_
    show Steps p.tables e below (T1105.setTop (mkF m 72 #[.val (.int u1), .val (.int u2), .val (.long u3), .second, .val (.long u4), .second, .val (.int u5), .val (.int u6), .val (.int d8), .val (.ref cr), .val (.int nr), .val (.ref b1097), .unset, .unset, .unset, .unset] [(.int (1 : Int32)), (.ref b1103), (.ref b1103)])) _
    refine XS.iload X1105.here hx rfl (hb hby at_72) rfl ?_
    show Steps p.tables e below (T1105.setTop (mkF m 74 #[.val (.int u1), .val (.int u2), .val (.long u3), .second, .val (.long u4), .second, .val (.int u5), .val (.int u6), .val (.int d8), .val (.ref cr), .val (.int nr), .val (.ref b1097), .unset, .unset, .unset, .unset] [(.int u6), (.int (1 : Int32)), (.ref b1103), (.ref b1103)])) _
    refine XS.bipush X1105.here hx rfl (hb hby at_74) ?_
    show Steps p.tables e below (T1105.setTop (mkF m 76 #[.val (.int u1), .val (.int u2), .val (.long u3), .second, .val (.long u4), .second, .val (.int u5), .val (.int u6), .val (.int d8), .val (.ref cr), .val (.int nr), .val (.ref b1097), .unset, .unset, .unset, .unset] [(.int (8 : Int32)), (.int u6), (.int (1 : Int32)), (.ref b1103), (.ref b1103)])) _
    refine XS.iushr X1105.here hx rfl (hb hby at_76) rfl ?_
    show Steps p.tables e below (T1105.setTop (mkF m 77 #[.val (.int u1), .val (.int u2), .val (.long u3), .second, .val (.long u4), .second, .val (.int u5), .val (.int u6), .val (.int d8), .val (.ref cr), .val (.int nr), .val (.ref b1097), .unset, .unset, .unset, .unset] [(.int ((u6.toUInt32 >>> ((8 : Int32) &&& 31).toUInt32).toInt32)), (.int (1 : Int32)), (.ref b1103), (.ref b1103)])) _
    refine XS.i2b X1105.here hx rfl (hb hby at_77) rfl ?_
    show Steps p.tables e below (T1105.setTop (mkF m 78 #[.val (.int u1), .val (.int u2), .val (.long u3), .second, .val (.long u4), .second, .val (.int u5), .val (.int u6), .val (.int d8), .val (.ref cr), .val (.int nr), .val (.ref b1097), .unset, .unset, .unset, .unset] [(.int (((u6.toUInt32 >>> ((8 : Int32) &&& 31).toUInt32).toInt32).toInt8.toInt32)), (.int (1 : Int32)), (.ref b1103), (.ref b1103)])) _
    refine st1107 _ ?_
    show Steps p.tables e below (T1107.setTop (mkF m 79 #[.val (.int u1), .val (.int u2), .val (.long u3), .second, .val (.long u4), .second, .val (.int u5), .val (.int u6), .val (.int d8), .val (.ref cr), .val (.int nr), .val (.ref b1097), .unset, .unset, .unset, .unset] [(.ref b1103)])) _
    refine XS.dup X1107.here hx rfl (hb hby at_79) rfl rfl ?_
    show Steps p.tables e below (T1107.setTop (mkF m 80 #[.val (.int u1), .val (.int u2), .val (.long u3), .second, .val (.long u4), .second, .val (.int u5), .val (.int u6), .val (.int d8), .val (.ref cr), .val (.int nr), .val (.ref b1097), .unset, .unset, .unset, .unset] [(.ref b1103), (.ref b1103)])) _
    refine XS.iconst X1107.here hx rfl (hb hby at_80) ?_
    show Steps p.tables e below (T1107.setTop (mkF m 81 #[.val (.int u1), .val (.int u2), .val (.long u3), .second, .val (.long u4), .second, .val (.int u5), .val (.int u6), .val (.int d8), .val (.ref cr), .val (.int nr), .val (.ref b1097), .unset, .unset, .unset, .unset] [(.int (2 : Int32)), (.ref b1103), (.ref b1103)])) _
    refine XS.iload X1107.here hx rfl (hb hby at_81) rfl ?_
    show Steps p.tables e below (T1107.setTop (mkF m 83 #[.val (.int u1), .val (.int u2), .val (.long u3), .second, .val (.long u4), .second, .val (.int u5), .val (.int u6), .val (.int d8), .val (.ref cr), .val (.int nr), .val (.ref b1097), .unset, .unset, .unset, .unset] [(.int u6), (.int (2 : Int32)), (.ref b1103), (.ref b1103)])) _
    refine XS.bipush X1107.here hx rfl (hb hby at_83) ?_
    show Steps p.tables e below (T1107.setTop (mkF m 85 #[.val (.int u1), .val (.int u2), .val (.long u3), .second, .val (.long u4), .second, .val (.int u5), .val (.int u6), .val (.int d8), .val (.ref cr), .val (.int nr), .val (.ref b1097), .unset, .unset, .unset, .unset] [(.int (16 : Int32)), (.int u6), (.int (2 : Int32)), (.ref b1103), (.ref b1103)])) _
    refine XS.iushr X1107.here hx rfl (hb hby at_85) rfl ?_
    show Steps p.tables e below (T1107.setTop (mkF m 86 #[.val (.int u1), .val (.int u2), .val (.long u3), .second, .val (.long u4), .second, .val (.int u5), .val (.int u6), .val (.int d8), .val (.ref cr), .val (.int nr), .val (.ref b1097), .unset, .unset, .unset, .unset] [(.int ((u6.toUInt32 >>> ((16 : Int32) &&& 31).toUInt32).toInt32)), (.int (2 : Int32)), (.ref b1103), (.ref b1103)])) _
    refine XS.i2b X1107.here hx rfl (hb hby at_86) rfl ?_
    show Steps p.tables e below (T1107.setTop (mkF m 87 #[.val (.int u1), .val (.int u2), .val (.long u3), .second, .val (.long u4), .second, .val (.int u5), .val (.int u6), .val (.int d8), .val (.ref cr), .val (.int nr), .val (.ref b1097), .unset, .unset, .unset, .unset] [(.int (((u6.toUInt32 >>> ((16 : Int32) &&& 31).toUInt32).toInt32).toInt8.toInt32)), (.int (2 : Int32)), (.ref b1103), (.ref b1103)])) _
    refine st1109 _ ?_
    show Steps p.tables e below (T1109.setTop (mkF m 88 #[.val (.int u1), .val (.int u2), .val (.long u3), .second, .val (.long u4), .second, .val (.int u5), .val (.int u6), .val (.int d8), .val (.ref cr), .val (.int nr), .val (.ref b1097), .unset, .unset, .unset, .unset] [(.ref b1103)])) _
    refine XS.astore X1109.here hx rfl (hb hby at_88) rfl rfl (l' := #[.val (.int u1), .val (.int u2), .val (.long u3), .second, .val (.long u4), .second, .val (.int u5), .val (.int u6), .val (.int d8), .val (.ref cr), .val (.int nr), .val (.ref b1097), .val (.ref b1103), .unset, .unset, .unset]) rfl ?_
    show Steps p.tables e below (T1109.setTop (mkF m 90 #[.val (.int u1), .val (.int u2), .val (.long u3), .second, .val (.long u4), .second, .val (.int u5), .val (.int u6), .val (.int d8), .val (.ref cr), .val (.int nr), .val (.ref b1097), .val (.ref b1103), .unset, .unset, .unset] [])) _
    refine XS.aload X1109.here hx rfl (hb hby at_90) rfl rfl ?_
    show Steps p.tables e below (T1109.setTop (mkF m 92 #[.val (.int u1), .val (.int u2), .val (.long u3), .second, .val (.long u4), .second, .val (.int u5), .val (.int u6), .val (.int d8), .val (.ref cr), .val (.int nr), .val (.ref b1097), .val (.ref b1103), .unset, .unset, .unset] [(.ref cr)])) _
    refine XS.aload X1109.here hx rfl (hb hby at_92) rfl rfl ?_
    show Steps p.tables e below (T1109.setTop (mkF m 94 #[.val (.int u1), .val (.int u2), .val (.long u3), .second, .val (.long u4), .second, .val (.int u5), .val (.int u6), .val (.int d8), .val (.ref cr), .val (.int nr), .val (.ref b1097), .val (.ref b1103), .unset, .unset, .unset] [(.ref b1097), (.ref cr)])) _
    refine XS.iloadN X1109.here hx rfl (hb hby at_94) rfl ?_
    show Steps p.tables e below (T1109.setTop (mkF m 95 #[.val (.int u1), .val (.int u2), .val (.long u3), .second, .val (.long u4), .second, .val (.int u5), .val (.int u6), .val (.int d8), .val (.ref cr), .val (.int nr), .val (.ref b1097), .val (.ref b1103), .unset, .unset, .unset] [(.int u2), (.ref b1097), (.ref cr)])) _
    refine XS.lloadN X1109.here hx rfl (hb hby at_95) rfl ?_
    show Steps p.tables e below (T1109.setTop (mkF m 96 #[.val (.int u1), .val (.int u2), .val (.long u3), .second, .val (.long u4), .second, .val (.int u5), .val (.int u6), .val (.int d8), .val (.ref cr), .val (.int nr), .val (.ref b1097), .val (.ref b1103), .unset, .unset, .unset] [(.long u3), (.int u2), (.ref b1097), (.ref cr)])) _
    refine XS.aload X1109.here hx rfl (hb hby at_96) rfl rfl ?_
    show Steps p.tables e below (T1109.setTop (mkF m 98 #[.val (.int u1), .val (.int u2), .val (.long u3), .second, .val (.long u4), .second, .val (.int u5), .val (.int u6), .val (.int d8), .val (.ref cr), .val (.int nr), .val (.ref b1097), .val (.ref b1103), .unset, .unset, .unset] [(.ref b1103), (.long u3), (.int u2), (.ref b1097), (.ref cr)])) _
    refine XS.lload X1109.here hx rfl (hb hby at_98) rfl ?_
    show Steps p.tables e below (T1109.setTop (mkF m 100 #[.val (.int u1), .val (.int u2), .val (.long u3), .second, .val (.long u4), .second, .val (.int u5), .val (.int u6), .val (.int d8), .val (.ref cr), .val (.int nr), .val (.ref b1097), .val (.ref b1103), .unset, .unset, .unset] [(.long u4), (.ref b1103), (.long u3), (.int u2), (.ref b1097), (.ref cr)])) _
    refine XS.iload X1109.here hx rfl (hb hby at_100) rfl ?_
    show Steps p.tables e below (T1109.setTop (mkF m 102 #[.val (.int u1), .val (.int u2), .val (.long u3), .second, .val (.long u4), .second, .val (.int u5), .val (.int u6), .val (.int d8), .val (.ref cr), .val (.int nr), .val (.ref b1097), .val (.ref b1103), .unset, .unset, .unset] [(.int nr), (.long u4), (.ref b1103), (.long u3), (.int u2), (.ref b1097), (.ref cr)])) _
    refine st1111 _ ?_
    show Steps p.tables e below (T1111.setTop (mkF m 105 #[.val (.int u1), .val (.int u2), .val (.long u3), .second, .val (.long u4), .second, .val (.int u5), .val (.int u6), .val (.int d8), .val (.ref cr), .val (.int nr), .val (.ref b1097), .val (.ref b1103), .unset, .unset, .unset] [(.ref rq)])) _
    refine XS.astore X1111.here hx rfl (hb hby at_105) rfl rfl (l' := #[.val (.int u1), .val (.int u2), .val (.long u3), .second, .val (.long u4), .second, .val (.int u5), .val (.int u6), .val (.int d8), .val (.ref cr), .val (.int nr), .val (.ref b1097), .val (.ref b1103), .val (.ref rq), .unset, .unset]) rfl ?_
    show Steps p.tables e below (T1111.setTop (mkF m 107 #[.val (.int u1), .val (.int u2), .val (.long u3), .second, .val (.long u4), .second, .val (.int u5), .val (.int u6), .val (.int d8), .val (.ref cr), .val (.int nr), .val (.ref b1097), .val (.ref b1103), .val (.ref rq), .unset, .unset] [])) _
    refine XS.aload X1111.here hx rfl (hb hby at_107) rfl rfl ?_
    show Steps p.tables e below (T1111.setTop (mkF m 109 #[.val (.int u1), .val (.int u2), .val (.long u3), .second, .val (.long u4), .second, .val (.int u5), .val (.int u6), .val (.int d8), .val (.ref cr), .val (.int nr), .val (.ref b1097), .val (.ref b1103), .val (.ref rq), .unset, .unset] [(.ref rq)])) _
    refine st1113.trans ?_
    show Steps p.tables e below (T1113.setTop (mkF m 112 #[.val (.int u1), .val (.int u2), .val (.long u3), .second, .val (.long u4), .second, .val (.int u5), .val (.int u6), .val (.int d8), .val (.ref cr), .val (.int nr), .val (.ref b1097), .val (.ref b1103), .val (.ref rq), .unset, .unset] [(.ref cr)])) _
    refine XS.aload X1113.here hx rfl (hb hby at_112) rfl rfl ?_
    show Steps p.tables e below (T1113.setTop (mkF m 114 #[.val (.int u1), .val (.int u2), .val (.long u3), .second, .val (.long u4), .second, .val (.int u5), .val (.int u6), .val (.int d8), .val (.ref cr), .val (.int nr), .val (.ref b1097), .val (.ref b1103), .val (.ref rq), .unset, .unset] [(.ref cr), (.ref cr)])) _
    refine Jvm.RoadKit.acmp (g := (mkF m 114 #[.val (.int u1), .val (.int u2), .val (.long u3), .second, .val (.long u4), .second, .val (.int u5), .val (.int u6), .val (.int d8), .val (.ref cr), .val (.int nr), .val (.ref b1097), .val (.ref b1103), .val (.ref rq), .unset, .unset] [(.ref cr), (.ref cr)])) X1113 hx rfl rfl rfl (pc0 := 114) (pc' := 119) (same := true) rfl (hb hby at_114) rfl (decide_eq_true rfl) (by decide) (by decide) ?_
    show Steps p.tables e below (T1113.setTop (mkF m 119 #[.val (.int u1), .val (.int u2), .val (.long u3), .second, .val (.long u4), .second, .val (.int u5), .val (.int u6), .val (.int d8), .val (.ref cr), .val (.int nr), .val (.ref b1097), .val (.ref b1103), .val (.ref rq), .unset, .unset] [])) _
    refine XS.aload X1113.here hx rfl (hb hby at_119) rfl rfl ?_
    show Steps p.tables e below (T1113.setTop (mkF m 121 #[.val (.int u1), .val (.int u2), .val (.long u3), .second, .val (.long u4), .second, .val (.int u5), .val (.int u6), .val (.int d8), .val (.ref cr), .val (.int nr), .val (.ref b1097), .val (.ref b1103), .val (.ref rq), .unset, .unset] [(.ref rq)])) _
    refine st1114.trans ?_
    show Steps p.tables e below (T1114.setTop (mkF m 124 #[.val (.int u1), .val (.int u2), .val (.long u3), .second, .val (.long u4), .second, .val (.int u5), .val (.int u6), .val (.int d8), .val (.ref cr), .val (.int nr), .val (.ref b1097), .val (.ref b1103), .val (.ref rq), .unset, .unset] [(.ref ls)])) _
    refine st1115.trans ?_
    show Steps p.tables e below (T1115.setTop (mkF m 129 #[.val (.int u1), .val (.int u2), .val (.long u3), .second, .val (.long u4), .second, .val (.int u5), .val (.int u6), .val (.int d8), .val (.ref cr), .val (.int nr), .val (.ref b1097), .val (.ref b1103), .val (.ref rq), .unset, .unset] [(.int (1 : Int32))])) _
    refine XS.iconst X1115.here hx rfl (hb hby at_129) ?_
    show Steps p.tables e below (T1115.setTop (mkF m 130 #[.val (.int u1), .val (.int u2), .val (.long u3), .second, .val (.long u4), .second, .val (.int u5), .val (.int u6), .val (.int d8), .val (.ref cr), .val (.int nr), .val (.ref b1097), .val (.ref b1103), .val (.ref rq), .unset, .unset] [(.int (1 : Int32)), (.int (1 : Int32))])) _
    refine XS.icmpYes X1115.here hx rfl (pc0 := 130) (pc' := 135) rfl (hb hby at_130) rfl (teq rfl).1 (by decide) (by decide) ?_
    show Steps p.tables e below (T1115.setTop (mkF m 135 #[.val (.int u1), .val (.int u2), .val (.long u3), .second, .val (.long u4), .second, .val (.int u5), .val (.int u6), .val (.int d8), .val (.ref cr), .val (.int nr), .val (.ref b1097), .val (.ref b1103), .val (.ref rq), .unset, .unset] [])) _
    refine XS.aload X1115.here hx rfl (hb hby at_135) rfl rfl ?_
    show Steps p.tables e below (T1115.setTop (mkF m 137 #[.val (.int u1), .val (.int u2), .val (.long u3), .second, .val (.long u4), .second, .val (.int u5), .val (.int u6), .val (.int d8), .val (.ref cr), .val (.int nr), .val (.ref b1097), .val (.ref b1103), .val (.ref rq), .unset, .unset] [(.ref rq)])) _
    refine st1116.trans ?_
    show Steps p.tables e below (T1116.setTop (mkF m 140 #[.val (.int u1), .val (.int u2), .val (.long u3), .second, .val (.long u4), .second, .val (.int u5), .val (.int u6), .val (.int d8), .val (.ref cr), .val (.int nr), .val (.ref b1097), .val (.ref b1103), .val (.ref rq), .unset, .unset] [(.ref b1097)])) _
    refine XS.astore X1116.here hx rfl (hb hby at_140) rfl rfl (l' := #[.val (.int u1), .val (.int u2), .val (.long u3), .second, .val (.long u4), .second, .val (.int u5), .val (.int u6), .val (.int d8), .val (.ref cr), .val (.int nr), .val (.ref b1097), .val (.ref b1103), .val (.ref rq), .val (.ref b1097), .unset]) rfl ?_
    show Steps p.tables e below (T1116.setTop (mkF m 142 #[.val (.int u1), .val (.int u2), .val (.long u3), .second, .val (.long u4), .second, .val (.int u5), .val (.int u6), .val (.int d8), .val (.ref cr), .val (.int nr), .val (.ref b1097), .val (.ref b1103), .val (.ref rq), .val (.ref b1097), .unset] [])) _
    refine XS.aload X1116.here hx rfl (hb hby at_142) rfl rfl ?_
    show Steps p.tables e below (T1116.setTop (mkF m 144 #[.val (.int u1), .val (.int u2), .val (.long u3), .second, .val (.long u4), .second, .val (.int u5), .val (.int u6), .val (.int d8), .val (.ref cr), .val (.int nr), .val (.ref b1097), .val (.ref b1103), .val (.ref rq), .val (.ref b1097), .unset] [(.ref b1097)])) _
    refine XS.ifnullNo X1116.here hx rfl (hb hby at_144) rfl ?_
    show Steps p.tables e below (T1116.setTop (mkF m 147 #[.val (.int u1), .val (.int u2), .val (.long u3), .second, .val (.long u4), .second, .val (.int u5), .val (.int u6), .val (.int d8), .val (.ref cr), .val (.int nr), .val (.ref b1097), .val (.ref b1103), .val (.ref rq), .val (.ref b1097), .unset] [])) _
    refine XS.aload X1116.here hx rfl (hb hby at_147) rfl rfl ?_
    show Steps p.tables e below (T1116.setTop (mkF m 149 #[.val (.int u1), .val (.int u2), .val (.long u3), .second, .val (.long u4), .second, .val (.int u5), .val (.int u6), .val (.int d8), .val (.ref cr), .val (.int nr), .val (.ref b1097), .val (.ref b1103), .val (.ref rq), .val (.ref b1097), .unset] [(.ref b1097)])) _
    refine X1116.arraylength hx (by rw [e137]; exact Ar1117.1) (State.isArrayOf_alike hZ.alike Ar1117.2.1) (g := (mkF m 149 #[.val (.int u1), .val (.int u2), .val (.long u3), .second, .val (.long u4), .second, .val (.int u5), .val (.int u6), .val (.int d8), .val (.ref cr), .val (.int nr), .val (.ref b1097), .val (.ref b1103), .val (.ref rq), .val (.ref b1097), .unset] [(.ref b1097)])) rfl rfl (hb hby at_149) _ ?_
    rw [len_of S1117 M1117]
    show Steps p.tables e below (T1116.setTop (mkF m 150 #[.val (.int u1), .val (.int u2), .val (.long u3), .second, .val (.long u4), .second, .val (.int u5), .val (.int u6), .val (.int d8), .val (.ref cr), .val (.int nr), .val (.ref b1097), .val (.ref b1103), .val (.ref rq), .val (.ref b1097), .unset] [(.int (2 : Int32))])) _
    refine XS.iconst X1116.here hx rfl (hb hby at_150) ?_
    show Steps p.tables e below (T1116.setTop (mkF m 151 #[.val (.int u1), .val (.int u2), .val (.long u3), .second, .val (.long u4), .second, .val (.int u5), .val (.int u6), .val (.int d8), .val (.ref cr), .val (.int nr), .val (.ref b1097), .val (.ref b1103), .val (.ref rq), .val (.ref b1097), .unset] [(.int (2 : Int32)), (.int (2 : Int32))])) _
    refine XS.icmpNo X1116.here hx rfl (hb hby at_151) rfl (teq rfl).2 ?_
    show Steps p.tables e below (T1116.setTop (mkF m 154 #[.val (.int u1), .val (.int u2), .val (.long u3), .second, .val (.long u4), .second, .val (.int u5), .val (.int u6), .val (.int d8), .val (.ref cr), .val (.int nr), .val (.ref b1097), .val (.ref b1103), .val (.ref rq), .val (.ref b1097), .unset] [])) _
    refine XS.aload X1116.here hx rfl (hb hby at_154) rfl rfl ?_
    show Steps p.tables e below (T1116.setTop (mkF m 156 #[.val (.int u1), .val (.int u2), .val (.long u3), .second, .val (.long u4), .second, .val (.int u5), .val (.int u6), .val (.int d8), .val (.ref cr), .val (.int nr), .val (.ref b1097), .val (.ref b1103), .val (.ref rq), .val (.ref b1097), .unset] [(.ref b1097)])) _
    refine XS.iconst X1116.here hx rfl (hb hby at_156) ?_
    show Steps p.tables e below (T1116.setTop (mkF m 157 #[.val (.int u1), .val (.int u2), .val (.long u3), .second, .val (.long u4), .second, .val (.int u5), .val (.int u6), .val (.int d8), .val (.ref cr), .val (.int nr), .val (.ref b1097), .val (.ref b1103), .val (.ref rq), .val (.ref b1097), .unset] [(.int (0 : Int32)), (.ref b1097)])) _
    refine X1116.baloadBytes hx (j := (0 : Int32)) (v := (.int (u5.toInt8.toInt32).toInt8.toInt32)) (by rw [e137]; exact Ar1118.1) (State.isArrayOf_alike hZ.alike Ar1118.2.1) Ar1118.2.2 hin1118 hat1118 (g := (mkF m 157 #[.val (.int u1), .val (.int u2), .val (.long u3), .second, .val (.long u4), .second, .val (.int u5), .val (.int u6), .val (.int d8), .val (.ref cr), .val (.int nr), .val (.ref b1097), .val (.ref b1103), .val (.ref rq), .val (.ref b1097), .unset] [(.int (0 : Int32)), (.ref b1097)])) rfl rfl (hb hby at_157) _ ?_
    show Steps p.tables e below (T1116.setTop (mkF m 158 #[.val (.int u1), .val (.int u2), .val (.long u3), .second, .val (.long u4), .second, .val (.int u5), .val (.int u6), .val (.int d8), .val (.ref cr), .val (.int nr), .val (.ref b1097), .val (.ref b1103), .val (.ref rq), .val (.ref b1097), .unset] [(.int (u5.toInt8.toInt32).toInt8.toInt32)])) _
    refine XS.iload X1116.here hx rfl (hb hby at_158) rfl ?_
    show Steps p.tables e below (T1116.setTop (mkF m 160 #[.val (.int u1), .val (.int u2), .val (.long u3), .second, .val (.long u4), .second, .val (.int u5), .val (.int u6), .val (.int d8), .val (.ref cr), .val (.int nr), .val (.ref b1097), .val (.ref b1103), .val (.ref rq), .val (.ref b1097), .unset] [(.int u5), (.int (u5.toInt8.toInt32).toInt8.toInt32)])) _
    refine XS.i2b X1116.here hx rfl (hb hby at_160) rfl ?_
    show Steps p.tables e below (T1116.setTop (mkF m 161 #[.val (.int u1), .val (.int u2), .val (.long u3), .second, .val (.long u4), .second, .val (.int u5), .val (.int u6), .val (.int d8), .val (.ref cr), .val (.int nr), .val (.ref b1097), .val (.ref b1103), .val (.ref rq), .val (.ref b1097), .unset] [(.int (u5.toInt8.toInt32)), (.int (u5.toInt8.toInt32).toInt8.toInt32)])) _
    refine XS.icmpNo X1116.here hx rfl (hb hby at_161) rfl (teq (own_b8 _)).2 ?_
    show Steps p.tables e below (T1116.setTop (mkF m 164 #[.val (.int u1), .val (.int u2), .val (.long u3), .second, .val (.long u4), .second, .val (.int u5), .val (.int u6), .val (.int d8), .val (.ref cr), .val (.int nr), .val (.ref b1097), .val (.ref b1103), .val (.ref rq), .val (.ref b1097), .unset] [])) _
    refine XS.aload X1116.here hx rfl (hb hby at_164) rfl rfl ?_
    show Steps p.tables e below (T1116.setTop (mkF m 166 #[.val (.int u1), .val (.int u2), .val (.long u3), .second, .val (.long u4), .second, .val (.int u5), .val (.int u6), .val (.int d8), .val (.ref cr), .val (.int nr), .val (.ref b1097), .val (.ref b1103), .val (.ref rq), .val (.ref b1097), .unset] [(.ref b1097)])) _
    refine XS.iconst X1116.here hx rfl (hb hby at_166) ?_
    show Steps p.tables e below (T1116.setTop (mkF m 167 #[.val (.int u1), .val (.int u2), .val (.long u3), .second, .val (.long u4), .second, .val (.int u5), .val (.int u6), .val (.int d8), .val (.ref cr), .val (.int nr), .val (.ref b1097), .val (.ref b1103), .val (.ref rq), .val (.ref b1097), .unset] [(.int (1 : Int32)), (.ref b1097)])) _
    refine X1116.baloadBytes hx (j := (1 : Int32)) (v := (.int (((u5.toUInt32 >>> ((8 : Int32) &&& 31).toUInt32).toInt32).toInt8.toInt32).toInt8.toInt32)) (by rw [e137]; exact Ar1119.1) (State.isArrayOf_alike hZ.alike Ar1119.2.1) Ar1119.2.2 hin1119 hat1119 (g := (mkF m 167 #[.val (.int u1), .val (.int u2), .val (.long u3), .second, .val (.long u4), .second, .val (.int u5), .val (.int u6), .val (.int d8), .val (.ref cr), .val (.int nr), .val (.ref b1097), .val (.ref b1103), .val (.ref rq), .val (.ref b1097), .unset] [(.int (1 : Int32)), (.ref b1097)])) rfl rfl (hb hby at_167) _ ?_
    show Steps p.tables e below (T1116.setTop (mkF m 168 #[.val (.int u1), .val (.int u2), .val (.long u3), .second, .val (.long u4), .second, .val (.int u5), .val (.int u6), .val (.int d8), .val (.ref cr), .val (.int nr), .val (.ref b1097), .val (.ref b1103), .val (.ref rq), .val (.ref b1097), .unset] [(.int (((u5.toUInt32 >>> ((8 : Int32) &&& 31).toUInt32).toInt32).toInt8.toInt32).toInt8.toInt32)])) _
    refine XS.iload X1116.here hx rfl (hb hby at_168) rfl ?_
    show Steps p.tables e below (T1116.setTop (mkF m 170 #[.val (.int u1), .val (.int u2), .val (.long u3), .second, .val (.long u4), .second, .val (.int u5), .val (.int u6), .val (.int d8), .val (.ref cr), .val (.int nr), .val (.ref b1097), .val (.ref b1103), .val (.ref rq), .val (.ref b1097), .unset] [(.int u5), (.int (((u5.toUInt32 >>> ((8 : Int32) &&& 31).toUInt32).toInt32).toInt8.toInt32).toInt8.toInt32)])) _
    refine XS.bipush X1116.here hx rfl (hb hby at_170) ?_
    show Steps p.tables e below (T1116.setTop (mkF m 172 #[.val (.int u1), .val (.int u2), .val (.long u3), .second, .val (.long u4), .second, .val (.int u5), .val (.int u6), .val (.int d8), .val (.ref cr), .val (.int nr), .val (.ref b1097), .val (.ref b1103), .val (.ref rq), .val (.ref b1097), .unset] [(.int (8 : Int32)), (.int u5), (.int (((u5.toUInt32 >>> ((8 : Int32) &&& 31).toUInt32).toInt32).toInt8.toInt32).toInt8.toInt32)])) _
    refine XS.iushr X1116.here hx rfl (hb hby at_172) rfl ?_
    show Steps p.tables e below (T1116.setTop (mkF m 173 #[.val (.int u1), .val (.int u2), .val (.long u3), .second, .val (.long u4), .second, .val (.int u5), .val (.int u6), .val (.int d8), .val (.ref cr), .val (.int nr), .val (.ref b1097), .val (.ref b1103), .val (.ref rq), .val (.ref b1097), .unset] [(.int ((u5.toUInt32 >>> ((8 : Int32) &&& 31).toUInt32).toInt32)), (.int (((u5.toUInt32 >>> ((8 : Int32) &&& 31).toUInt32).toInt32).toInt8.toInt32).toInt8.toInt32)])) _
    refine XS.i2b X1116.here hx rfl (hb hby at_173) rfl ?_
    show Steps p.tables e below (T1116.setTop (mkF m 174 #[.val (.int u1), .val (.int u2), .val (.long u3), .second, .val (.long u4), .second, .val (.int u5), .val (.int u6), .val (.int d8), .val (.ref cr), .val (.int nr), .val (.ref b1097), .val (.ref b1103), .val (.ref rq), .val (.ref b1097), .unset] [(.int (((u5.toUInt32 >>> ((8 : Int32) &&& 31).toUInt32).toInt32).toInt8.toInt32)), (.int (((u5.toUInt32 >>> ((8 : Int32) &&& 31).toUInt32).toInt32).toInt8.toInt32).toInt8.toInt32)])) _
    refine XS.icmpYes X1116.here hx rfl (pc0 := 174) (pc' := 179) rfl (hb hby at_174) rfl (teq (own_b8 _)).1 (by decide) (by decide) ?_
    show Steps p.tables e below (T1116.setTop (mkF m 179 #[.val (.int u1), .val (.int u2), .val (.long u3), .second, .val (.long u4), .second, .val (.int u5), .val (.int u6), .val (.int d8), .val (.ref cr), .val (.int nr), .val (.ref b1097), .val (.ref b1103), .val (.ref rq), .val (.ref b1097), .unset] [])) _
    refine XS.aload X1116.here hx rfl (hb hby at_179) rfl rfl ?_
    show Steps p.tables e below (T1116.setTop (mkF m 181 #[.val (.int u1), .val (.int u2), .val (.long u3), .second, .val (.long u4), .second, .val (.int u5), .val (.int u6), .val (.int d8), .val (.ref cr), .val (.int nr), .val (.ref b1097), .val (.ref b1103), .val (.ref rq), .val (.ref b1097), .unset] [(.ref rq)])) _
    refine st1120.trans ?_
    show Steps p.tables e below (T1120.setTop (mkF m 184 #[.val (.int u1), .val (.int u2), .val (.long u3), .second, .val (.long u4), .second, .val (.int u5), .val (.int u6), .val (.int d8), .val (.ref cr), .val (.int nr), .val (.ref b1097), .val (.ref b1103), .val (.ref rq), .val (.ref b1097), .unset] [(.int u2)])) _
    refine XS.iloadN X1120.here hx rfl (hb hby at_184) rfl ?_
    show Steps p.tables e below (T1120.setTop (mkF m 185 #[.val (.int u1), .val (.int u2), .val (.long u3), .second, .val (.long u4), .second, .val (.int u5), .val (.int u6), .val (.int d8), .val (.ref cr), .val (.int nr), .val (.ref b1097), .val (.ref b1103), .val (.ref rq), .val (.ref b1097), .unset] [(.int u2), (.int u2)])) _
    refine XS.icmpYes X1120.here hx rfl (pc0 := 185) (pc' := 190) rfl (hb hby at_185) rfl (teq rfl).1 (by decide) (by decide) ?_
    show Steps p.tables e below (T1120.setTop (mkF m 190 #[.val (.int u1), .val (.int u2), .val (.long u3), .second, .val (.long u4), .second, .val (.int u5), .val (.int u6), .val (.int d8), .val (.ref cr), .val (.int nr), .val (.ref b1097), .val (.ref b1103), .val (.ref rq), .val (.ref b1097), .unset] [])) _
    refine XS.aload X1120.here hx rfl (hb hby at_190) rfl rfl ?_
    show Steps p.tables e below (T1120.setTop (mkF m 192 #[.val (.int u1), .val (.int u2), .val (.long u3), .second, .val (.long u4), .second, .val (.int u5), .val (.int u6), .val (.int d8), .val (.ref cr), .val (.int nr), .val (.ref b1097), .val (.ref b1103), .val (.ref rq), .val (.ref b1097), .unset] [(.ref rq)])) _
    refine st1121.trans ?_
    show Steps p.tables e below (T1121.setTop (mkF m 195 #[.val (.int u1), .val (.int u2), .val (.long u3), .second, .val (.long u4), .second, .val (.int u5), .val (.int u6), .val (.int d8), .val (.ref cr), .val (.int nr), .val (.ref b1097), .val (.ref b1103), .val (.ref rq), .val (.ref b1097), .unset] [(.long u3)])) _
    refine XS.lloadN X1121.here hx rfl (hb hby at_195) rfl ?_
    show Steps p.tables e below (T1121.setTop (mkF m 196 #[.val (.int u1), .val (.int u2), .val (.long u3), .second, .val (.long u4), .second, .val (.int u5), .val (.int u6), .val (.int d8), .val (.ref cr), .val (.int nr), .val (.ref b1097), .val (.ref b1103), .val (.ref rq), .val (.ref b1097), .unset] [(.long u3), (.long u3)])) _
    refine XS.lcmp X1121.here hx rfl (hb hby at_196) rfl ?_
    show Steps p.tables e below (T1121.setTop (mkF m 197 #[.val (.int u1), .val (.int u2), .val (.long u3), .second, .val (.long u4), .second, .val (.int u5), .val (.int u6), .val (.int d8), .val (.ref cr), .val (.int nr), .val (.ref b1097), .val (.ref b1103), .val (.ref rq), .val (.ref b1097), .unset] [(.int (lcmpW u3 u3))])) _
    refine XS.ifYes X1121.here hx rfl (pc0 := 197) (pc' := 202) rfl (hb hby at_197) rfl ((if0 _ _).trans (teq ((lw_eq u3 u3).mpr rfl)).1) (by decide) (by decide) ?_
    show Steps p.tables e below (T1121.setTop (mkF m 202 #[.val (.int u1), .val (.int u2), .val (.long u3), .second, .val (.long u4), .second, .val (.int u5), .val (.int u6), .val (.int d8), .val (.ref cr), .val (.int nr), .val (.ref b1097), .val (.ref b1103), .val (.ref rq), .val (.ref b1097), .unset] [])) _
    refine XS.aload X1121.here hx rfl (hb hby at_202) rfl rfl ?_
    show Steps p.tables e below (T1121.setTop (mkF m 204 #[.val (.int u1), .val (.int u2), .val (.long u3), .second, .val (.long u4), .second, .val (.int u5), .val (.int u6), .val (.int d8), .val (.ref cr), .val (.int nr), .val (.ref b1097), .val (.ref b1103), .val (.ref rq), .val (.ref b1097), .unset] [(.ref rq)])) _
    refine st1122.trans ?_
    show Steps p.tables e below (T1122.setTop (mkF m 207 #[.val (.int u1), .val (.int u2), .val (.long u3), .second, .val (.long u4), .second, .val (.int u5), .val (.int u6), .val (.int d8), .val (.ref cr), .val (.int nr), .val (.ref b1097), .val (.ref b1103), .val (.ref rq), .val (.ref b1097), .unset] [(.ref b1103)])) _
    refine XS.astore X1122.here hx rfl (hb hby at_207) rfl rfl (l' := #[.val (.int u1), .val (.int u2), .val (.long u3), .second, .val (.long u4), .second, .val (.int u5), .val (.int u6), .val (.int d8), .val (.ref cr), .val (.int nr), .val (.ref b1097), .val (.ref b1103), .val (.ref rq), .val (.ref b1097), .val (.ref b1103)]) rfl ?_
    show Steps p.tables e below (T1122.setTop (mkF m 209 #[.val (.int u1), .val (.int u2), .val (.long u3), .second, .val (.long u4), .second, .val (.int u5), .val (.int u6), .val (.int d8), .val (.ref cr), .val (.int nr), .val (.ref b1097), .val (.ref b1103), .val (.ref rq), .val (.ref b1097), .val (.ref b1103)] [])) _
    refine XS.aload X1122.here hx rfl (hb hby at_209) rfl rfl ?_
    show Steps p.tables e below (T1122.setTop (mkF m 211 #[.val (.int u1), .val (.int u2), .val (.long u3), .second, .val (.long u4), .second, .val (.int u5), .val (.int u6), .val (.int d8), .val (.ref cr), .val (.int nr), .val (.ref b1097), .val (.ref b1103), .val (.ref rq), .val (.ref b1097), .val (.ref b1103)] [(.ref b1103)])) _
    refine XS.ifnullNo X1122.here hx rfl (hb hby at_211) rfl ?_
    show Steps p.tables e below (T1122.setTop (mkF m 214 #[.val (.int u1), .val (.int u2), .val (.long u3), .second, .val (.long u4), .second, .val (.int u5), .val (.int u6), .val (.int d8), .val (.ref cr), .val (.int nr), .val (.ref b1097), .val (.ref b1103), .val (.ref rq), .val (.ref b1097), .val (.ref b1103)] [])) _
    refine XS.aload X1122.here hx rfl (hb hby at_214) rfl rfl ?_
    show Steps p.tables e below (T1122.setTop (mkF m 216 #[.val (.int u1), .val (.int u2), .val (.long u3), .second, .val (.long u4), .second, .val (.int u5), .val (.int u6), .val (.int d8), .val (.ref cr), .val (.int nr), .val (.ref b1097), .val (.ref b1103), .val (.ref rq), .val (.ref b1097), .val (.ref b1103)] [(.ref b1103)])) _
    refine X1122.arraylength hx (by rw [eggetValue]; exact Ar1123.1) (State.isArrayOf_alike hZ.alike Ar1123.2.1) (g := (mkF m 216 #[.val (.int u1), .val (.int u2), .val (.long u3), .second, .val (.long u4), .second, .val (.int u5), .val (.int u6), .val (.int d8), .val (.ref cr), .val (.int nr), .val (.ref b1097), .val (.ref b1103), .val (.ref rq), .val (.ref b1097), .val (.ref b1103)] [(.ref b1103)])) rfl rfl (hb hby at_216) _ ?_
    rw [len_of S1123 M1123]
    show Steps p.tables e below (T1122.setTop (mkF m 217 #[.val (.int u1), .val (.int u2), .val (.long u3), .second, .val (.long u4), .second, .val (.int u5), .val (.int u6), .val (.int d8), .val (.ref cr), .val (.int nr), .val (.ref b1097), .val (.ref b1103), .val (.ref rq), .val (.ref b1097), .val (.ref b1103)] [(.int (3 : Int32))])) _
    refine XS.iconst X1122.here hx rfl (hb hby at_217) ?_
    show Steps p.tables e below (T1122.setTop (mkF m 218 #[.val (.int u1), .val (.int u2), .val (.long u3), .second, .val (.long u4), .second, .val (.int u5), .val (.int u6), .val (.int d8), .val (.ref cr), .val (.int nr), .val (.ref b1097), .val (.ref b1103), .val (.ref rq), .val (.ref b1097), .val (.ref b1103)] [(.int (3 : Int32)), (.int (3 : Int32))])) _
    refine XS.icmpNo X1122.here hx rfl (hb hby at_218) rfl (teq rfl).2 ?_
    show Steps p.tables e below (T1122.setTop (mkF m 221 #[.val (.int u1), .val (.int u2), .val (.long u3), .second, .val (.long u4), .second, .val (.int u5), .val (.int u6), .val (.int d8), .val (.ref cr), .val (.int nr), .val (.ref b1097), .val (.ref b1103), .val (.ref rq), .val (.ref b1097), .val (.ref b1103)] [])) _
    refine XS.aload X1122.here hx rfl (hb hby at_221) rfl rfl ?_
    show Steps p.tables e below (T1122.setTop (mkF m 223 #[.val (.int u1), .val (.int u2), .val (.long u3), .second, .val (.long u4), .second, .val (.int u5), .val (.int u6), .val (.int d8), .val (.ref cr), .val (.int nr), .val (.ref b1097), .val (.ref b1103), .val (.ref rq), .val (.ref b1097), .val (.ref b1103)] [(.ref b1103)])) _
    refine XS.iconst X1122.here hx rfl (hb hby at_223) ?_
    show Steps p.tables e below (T1122.setTop (mkF m 224 #[.val (.int u1), .val (.int u2), .val (.long u3), .second, .val (.long u4), .second, .val (.int u5), .val (.int u6), .val (.int d8), .val (.ref cr), .val (.int nr), .val (.ref b1097), .val (.ref b1103), .val (.ref rq), .val (.ref b1097), .val (.ref b1103)] [(.int (0 : Int32)), (.ref b1103)])) _
    refine X1122.baloadBytes hx (j := (0 : Int32)) (v := (.int (u6.toInt8.toInt32).toInt8.toInt32)) (by rw [eggetValue]; exact Ar1124.1) (State.isArrayOf_alike hZ.alike Ar1124.2.1) Ar1124.2.2 hin1124 hat1124 (g := (mkF m 224 #[.val (.int u1), .val (.int u2), .val (.long u3), .second, .val (.long u4), .second, .val (.int u5), .val (.int u6), .val (.int d8), .val (.ref cr), .val (.int nr), .val (.ref b1097), .val (.ref b1103), .val (.ref rq), .val (.ref b1097), .val (.ref b1103)] [(.int (0 : Int32)), (.ref b1103)])) rfl rfl (hb hby at_224) _ ?_
    show Steps p.tables e below (T1122.setTop (mkF m 225 #[.val (.int u1), .val (.int u2), .val (.long u3), .second, .val (.long u4), .second, .val (.int u5), .val (.int u6), .val (.int d8), .val (.ref cr), .val (.int nr), .val (.ref b1097), .val (.ref b1103), .val (.ref rq), .val (.ref b1097), .val (.ref b1103)] [(.int (u6.toInt8.toInt32).toInt8.toInt32)])) _
    refine XS.iload X1122.here hx rfl (hb hby at_225) rfl ?_
    show Steps p.tables e below (T1122.setTop (mkF m 227 #[.val (.int u1), .val (.int u2), .val (.long u3), .second, .val (.long u4), .second, .val (.int u5), .val (.int u6), .val (.int d8), .val (.ref cr), .val (.int nr), .val (.ref b1097), .val (.ref b1103), .val (.ref rq), .val (.ref b1097), .val (.ref b1103)] [(.int u6), (.int (u6.toInt8.toInt32).toInt8.toInt32)])) _
    refine XS.i2b X1122.here hx rfl (hb hby at_227) rfl ?_
    show Steps p.tables e below (T1122.setTop (mkF m 228 #[.val (.int u1), .val (.int u2), .val (.long u3), .second, .val (.long u4), .second, .val (.int u5), .val (.int u6), .val (.int d8), .val (.ref cr), .val (.int nr), .val (.ref b1097), .val (.ref b1103), .val (.ref rq), .val (.ref b1097), .val (.ref b1103)] [(.int (u6.toInt8.toInt32)), (.int (u6.toInt8.toInt32).toInt8.toInt32)])) _
    refine XS.icmpNo X1122.here hx rfl (hb hby at_228) rfl (teq (own_b8 _)).2 ?_
    show Steps p.tables e below (T1122.setTop (mkF m 231 #[.val (.int u1), .val (.int u2), .val (.long u3), .second, .val (.long u4), .second, .val (.int u5), .val (.int u6), .val (.int d8), .val (.ref cr), .val (.int nr), .val (.ref b1097), .val (.ref b1103), .val (.ref rq), .val (.ref b1097), .val (.ref b1103)] [])) _
    refine XS.aload X1122.here hx rfl (hb hby at_231) rfl rfl ?_
    show Steps p.tables e below (T1122.setTop (mkF m 233 #[.val (.int u1), .val (.int u2), .val (.long u3), .second, .val (.long u4), .second, .val (.int u5), .val (.int u6), .val (.int d8), .val (.ref cr), .val (.int nr), .val (.ref b1097), .val (.ref b1103), .val (.ref rq), .val (.ref b1097), .val (.ref b1103)] [(.ref b1103)])) _
    refine XS.iconst X1122.here hx rfl (hb hby at_233) ?_
    show Steps p.tables e below (T1122.setTop (mkF m 234 #[.val (.int u1), .val (.int u2), .val (.long u3), .second, .val (.long u4), .second, .val (.int u5), .val (.int u6), .val (.int d8), .val (.ref cr), .val (.int nr), .val (.ref b1097), .val (.ref b1103), .val (.ref rq), .val (.ref b1097), .val (.ref b1103)] [(.int (1 : Int32)), (.ref b1103)])) _
    refine X1122.baloadBytes hx (j := (1 : Int32)) (v := (.int (((u6.toUInt32 >>> ((8 : Int32) &&& 31).toUInt32).toInt32).toInt8.toInt32).toInt8.toInt32)) (by rw [eggetValue]; exact Ar1125.1) (State.isArrayOf_alike hZ.alike Ar1125.2.1) Ar1125.2.2 hin1125 hat1125 (g := (mkF m 234 #[.val (.int u1), .val (.int u2), .val (.long u3), .second, .val (.long u4), .second, .val (.int u5), .val (.int u6), .val (.int d8), .val (.ref cr), .val (.int nr), .val (.ref b1097), .val (.ref b1103), .val (.ref rq), .val (.ref b1097), .val (.ref b1103)] [(.int (1 : Int32)), (.ref b1103)])) rfl rfl (hb hby at_234) _ ?_
    show Steps p.tables e below (T1122.setTop (mkF m 235 #[.val (.int u1), .val (.int u2), .val (.long u3), .second, .val (.long u4), .second, .val (.int u5), .val (.int u6), .val (.int d8), .val (.ref cr), .val (.int nr), .val (.ref b1097), .val (.ref b1103), .val (.ref rq), .val (.ref b1097), .val (.ref b1103)] [(.int (((u6.toUInt32 >>> ((8 : Int32) &&& 31).toUInt32).toInt32).toInt8.toInt32).toInt8.toInt32)])) _
    refine XS.iload X1122.here hx rfl (hb hby at_235) rfl ?_
    show Steps p.tables e below (T1122.setTop (mkF m 237 #[.val (.int u1), .val (.int u2), .val (.long u3), .second, .val (.long u4), .second, .val (.int u5), .val (.int u6), .val (.int d8), .val (.ref cr), .val (.int nr), .val (.ref b1097), .val (.ref b1103), .val (.ref rq), .val (.ref b1097), .val (.ref b1103)] [(.int u6), (.int (((u6.toUInt32 >>> ((8 : Int32) &&& 31).toUInt32).toInt32).toInt8.toInt32).toInt8.toInt32)])) _
    refine XS.bipush X1122.here hx rfl (hb hby at_237) ?_
    show Steps p.tables e below (T1122.setTop (mkF m 239 #[.val (.int u1), .val (.int u2), .val (.long u3), .second, .val (.long u4), .second, .val (.int u5), .val (.int u6), .val (.int d8), .val (.ref cr), .val (.int nr), .val (.ref b1097), .val (.ref b1103), .val (.ref rq), .val (.ref b1097), .val (.ref b1103)] [(.int (8 : Int32)), (.int u6), (.int (((u6.toUInt32 >>> ((8 : Int32) &&& 31).toUInt32).toInt32).toInt8.toInt32).toInt8.toInt32)])) _
    refine XS.iushr X1122.here hx rfl (hb hby at_239) rfl ?_
    show Steps p.tables e below (T1122.setTop (mkF m 240 #[.val (.int u1), .val (.int u2), .val (.long u3), .second, .val (.long u4), .second, .val (.int u5), .val (.int u6), .val (.int d8), .val (.ref cr), .val (.int nr), .val (.ref b1097), .val (.ref b1103), .val (.ref rq), .val (.ref b1097), .val (.ref b1103)] [(.int ((u6.toUInt32 >>> ((8 : Int32) &&& 31).toUInt32).toInt32)), (.int (((u6.toUInt32 >>> ((8 : Int32) &&& 31).toUInt32).toInt32).toInt8.toInt32).toInt8.toInt32)])) _
    refine XS.i2b X1122.here hx rfl (hb hby at_240) rfl ?_
    show Steps p.tables e below (T1122.setTop (mkF m 241 #[.val (.int u1), .val (.int u2), .val (.long u3), .second, .val (.long u4), .second, .val (.int u5), .val (.int u6), .val (.int d8), .val (.ref cr), .val (.int nr), .val (.ref b1097), .val (.ref b1103), .val (.ref rq), .val (.ref b1097), .val (.ref b1103)] [(.int (((u6.toUInt32 >>> ((8 : Int32) &&& 31).toUInt32).toInt32).toInt8.toInt32)), (.int (((u6.toUInt32 >>> ((8 : Int32) &&& 31).toUInt32).toInt32).toInt8.toInt32).toInt8.toInt32)])) _
    refine XS.icmpNo X1122.here hx rfl (hb hby at_241) rfl (teq (own_b8 _)).2 ?_
    show Steps p.tables e below (T1122.setTop (mkF m 244 #[.val (.int u1), .val (.int u2), .val (.long u3), .second, .val (.long u4), .second, .val (.int u5), .val (.int u6), .val (.int d8), .val (.ref cr), .val (.int nr), .val (.ref b1097), .val (.ref b1103), .val (.ref rq), .val (.ref b1097), .val (.ref b1103)] [])) _
    refine XS.aload X1122.here hx rfl (hb hby at_244) rfl rfl ?_
    show Steps p.tables e below (T1122.setTop (mkF m 246 #[.val (.int u1), .val (.int u2), .val (.long u3), .second, .val (.long u4), .second, .val (.int u5), .val (.int u6), .val (.int d8), .val (.ref cr), .val (.int nr), .val (.ref b1097), .val (.ref b1103), .val (.ref rq), .val (.ref b1097), .val (.ref b1103)] [(.ref b1103)])) _
    refine XS.iconst X1122.here hx rfl (hb hby at_246) ?_
    show Steps p.tables e below (T1122.setTop (mkF m 247 #[.val (.int u1), .val (.int u2), .val (.long u3), .second, .val (.long u4), .second, .val (.int u5), .val (.int u6), .val (.int d8), .val (.ref cr), .val (.int nr), .val (.ref b1097), .val (.ref b1103), .val (.ref rq), .val (.ref b1097), .val (.ref b1103)] [(.int (2 : Int32)), (.ref b1103)])) _
    refine X1122.baloadBytes hx (j := (2 : Int32)) (v := (.int (((u6.toUInt32 >>> ((16 : Int32) &&& 31).toUInt32).toInt32).toInt8.toInt32).toInt8.toInt32)) (by rw [eggetValue]; exact Ar1126.1) (State.isArrayOf_alike hZ.alike Ar1126.2.1) Ar1126.2.2 hin1126 hat1126 (g := (mkF m 247 #[.val (.int u1), .val (.int u2), .val (.long u3), .second, .val (.long u4), .second, .val (.int u5), .val (.int u6), .val (.int d8), .val (.ref cr), .val (.int nr), .val (.ref b1097), .val (.ref b1103), .val (.ref rq), .val (.ref b1097), .val (.ref b1103)] [(.int (2 : Int32)), (.ref b1103)])) rfl rfl (hb hby at_247) _ ?_
    show Steps p.tables e below (T1122.setTop (mkF m 248 #[.val (.int u1), .val (.int u2), .val (.long u3), .second, .val (.long u4), .second, .val (.int u5), .val (.int u6), .val (.int d8), .val (.ref cr), .val (.int nr), .val (.ref b1097), .val (.ref b1103), .val (.ref rq), .val (.ref b1097), .val (.ref b1103)] [(.int (((u6.toUInt32 >>> ((16 : Int32) &&& 31).toUInt32).toInt32).toInt8.toInt32).toInt8.toInt32)])) _
    refine XS.iload X1122.here hx rfl (hb hby at_248) rfl ?_
    show Steps p.tables e below (T1122.setTop (mkF m 250 #[.val (.int u1), .val (.int u2), .val (.long u3), .second, .val (.long u4), .second, .val (.int u5), .val (.int u6), .val (.int d8), .val (.ref cr), .val (.int nr), .val (.ref b1097), .val (.ref b1103), .val (.ref rq), .val (.ref b1097), .val (.ref b1103)] [(.int u6), (.int (((u6.toUInt32 >>> ((16 : Int32) &&& 31).toUInt32).toInt32).toInt8.toInt32).toInt8.toInt32)])) _
    refine XS.bipush X1122.here hx rfl (hb hby at_250) ?_
    show Steps p.tables e below (T1122.setTop (mkF m 252 #[.val (.int u1), .val (.int u2), .val (.long u3), .second, .val (.long u4), .second, .val (.int u5), .val (.int u6), .val (.int d8), .val (.ref cr), .val (.int nr), .val (.ref b1097), .val (.ref b1103), .val (.ref rq), .val (.ref b1097), .val (.ref b1103)] [(.int (16 : Int32)), (.int u6), (.int (((u6.toUInt32 >>> ((16 : Int32) &&& 31).toUInt32).toInt32).toInt8.toInt32).toInt8.toInt32)])) _
    refine XS.iushr X1122.here hx rfl (hb hby at_252) rfl ?_
    show Steps p.tables e below (T1122.setTop (mkF m 253 #[.val (.int u1), .val (.int u2), .val (.long u3), .second, .val (.long u4), .second, .val (.int u5), .val (.int u6), .val (.int d8), .val (.ref cr), .val (.int nr), .val (.ref b1097), .val (.ref b1103), .val (.ref rq), .val (.ref b1097), .val (.ref b1103)] [(.int ((u6.toUInt32 >>> ((16 : Int32) &&& 31).toUInt32).toInt32)), (.int (((u6.toUInt32 >>> ((16 : Int32) &&& 31).toUInt32).toInt32).toInt8.toInt32).toInt8.toInt32)])) _
    refine XS.i2b X1122.here hx rfl (hb hby at_253) rfl ?_
    show Steps p.tables e below (T1122.setTop (mkF m 254 #[.val (.int u1), .val (.int u2), .val (.long u3), .second, .val (.long u4), .second, .val (.int u5), .val (.int u6), .val (.int d8), .val (.ref cr), .val (.int nr), .val (.ref b1097), .val (.ref b1103), .val (.ref rq), .val (.ref b1097), .val (.ref b1103)] [(.int (((u6.toUInt32 >>> ((16 : Int32) &&& 31).toUInt32).toInt32).toInt8.toInt32)), (.int (((u6.toUInt32 >>> ((16 : Int32) &&& 31).toUInt32).toInt32).toInt8.toInt32).toInt8.toInt32)])) _
    refine XS.icmpYes X1122.here hx rfl (pc0 := 254) (pc' := 259) rfl (hb hby at_254) rfl (teq (own_b8 _)).1 (by decide) (by decide) ?_
    show Steps p.tables e below (T1122.setTop (mkF m 259 #[.val (.int u1), .val (.int u2), .val (.long u3), .second, .val (.long u4), .second, .val (.int u5), .val (.int u6), .val (.int d8), .val (.ref cr), .val (.int nr), .val (.ref b1097), .val (.ref b1103), .val (.ref rq), .val (.ref b1097), .val (.ref b1103)] [])) _
    refine XS.aload X1122.here hx rfl (hb hby at_259) rfl rfl ?_
    show Steps p.tables e below (T1122.setTop (mkF m 261 #[.val (.int u1), .val (.int u2), .val (.long u3), .second, .val (.long u4), .second, .val (.int u5), .val (.int u6), .val (.int d8), .val (.ref cr), .val (.int nr), .val (.ref b1097), .val (.ref b1103), .val (.ref rq), .val (.ref b1097), .val (.ref b1103)] [(.ref rq)])) _
    refine st1127.trans ?_
    show Steps p.tables e below (T1127.setTop (mkF m 264 #[.val (.int u1), .val (.int u2), .val (.long u3), .second, .val (.long u4), .second, .val (.int u5), .val (.int u6), .val (.int d8), .val (.ref cr), .val (.int nr), .val (.ref b1097), .val (.ref b1103), .val (.ref rq), .val (.ref b1097), .val (.ref b1103)] [(.int nr)])) _
    refine XS.iload X1127.here hx rfl (hb hby at_264) rfl ?_
    show Steps p.tables e below (T1127.setTop (mkF m 266 #[.val (.int u1), .val (.int u2), .val (.long u3), .second, .val (.long u4), .second, .val (.int u5), .val (.int u6), .val (.int d8), .val (.ref cr), .val (.int nr), .val (.ref b1097), .val (.ref b1103), .val (.ref rq), .val (.ref b1097), .val (.ref b1103)] [(.int nr), (.int nr)])) _
    refine XS.icmpYes X1127.here hx rfl (pc0 := 266) (pc' := 271) rfl (hb hby at_266) rfl (teq rfl).1 (by decide) (by decide) ?_
    show Steps p.tables e below (T1127.setTop (mkF m 271 #[.val (.int u1), .val (.int u2), .val (.long u3), .second, .val (.long u4), .second, .val (.int u5), .val (.int u6), .val (.int d8), .val (.ref cr), .val (.int nr), .val (.ref b1097), .val (.ref b1103), .val (.ref rq), .val (.ref b1097), .val (.ref b1103)] [])) _
    refine XS.aload X1127.here hx rfl (hb hby at_271) rfl rfl ?_
    show Steps p.tables e below (T1127.setTop (mkF m 273 #[.val (.int u1), .val (.int u2), .val (.long u3), .second, .val (.long u4), .second, .val (.int u5), .val (.int u6), .val (.int d8), .val (.ref cr), .val (.int nr), .val (.ref b1097), .val (.ref b1103), .val (.ref rq), .val (.ref b1097), .val (.ref b1103)] [(.ref cr)])) _
    refine st1128 _ ?_
    show Steps p.tables e below (T1128.setTop (mkF m 276 #[.val (.int u1), .val (.int u2), .val (.long u3), .second, .val (.long u4), .second, .val (.int u5), .val (.int u6), .val (.int d8), .val (.ref cr), .val (.int nr), .val (.ref b1097), .val (.ref b1103), .val (.ref rq), .val (.ref b1097), .val (.ref b1103)] [(.ref c5), (.ref cr)])) _
    exact k)
  by_cases hcas : cr = c5
  · obtain ⟨cq1130, kq1130, q1130a, q1130b, q1130c⟩ := isOf hZ e1128 Er
    obtain ⟨_, _, ⟨T1130, L1130, k1130, n1130⟩, -, X1130, ⟨Lc1130, hQ1130, l1130, y1130, z1130⟩, st1130⟩ := X1128.virtualBack hx (y := (⟨"com/example/hardy_cache/hardycache/server/Request", "getCasUnique", "()J"⟩ : MethodName)) (z := (⟨"com/example/hardy_cache/hardycache/server/Request", "getCasUnique", "()J"⟩ : MethodName)) hown (mvT hZ (hw _ (List.mem_of_getElem? (i := 136) rfl))) (mvT hZ (hw _ (List.mem_of_getElem? (i := 137) rfl))) (notFace_of_selects (args := #[]) (mvT hZ (hw _ (List.mem_of_getElem? (i := 139) rfl)))) (mvT hZ (hw _ (List.mem_of_getElem? (i := 139) rfl))) (mvT hZ (hw _ (List.mem_of_getElem? (i := 138) rfl))) (by decide) (backOf (W := 0) (rm_getCasUnique l Z a0 hw [] rq u4 T1111.heap n0 Z1111 Fr_casUnique) hZ (hw _ (List.mem_of_getElem? (i := 140) rfl)) (hw _ (List.mem_of_getElem? (i := 10) rfl)) (by decide) (by decide)) q1130a q1130c (g := (mkF m 281 #[.val (.int u1), .val (.int u2), .val (.long u3), .second, .val (.long u4), .second, .val (.int u5), .val (.int u6), .val (.int d8), .val (.ref cr), .val (.int nr), .val (.ref b1097), .val (.ref b1103), .val (.ref rq), .val (.ref b1097), .val (.ref b1103)] [(.ref rq)])) rfl (by rw [hml]; rfl) (Steps.refl _) (argsL := []) (rest := []) (lenOf pd_12 rfl) rfl (by show 2 * 0 + _ ≤ _; exact Nat.le_of_eq rfl) (hb hby at_281) (fun _ _ => ⟨rfl, e1128, (by decide : 4 + 0 ≤ _), (by decide : 16 + 0 ≤ _)⟩)
    dsimp only [Pt.U, Pt.locs, Pt.cells, Pt.slots] at X1130 l1130 y1130 z1130 st1130 hQ1130
    subst l1130 y1130 z1130
    obtain ⟨rfl, N1130q, eggetCasUnique⟩ := hQ1130
    have N1130 := Fr.app N1127 N1130q
    have P1131 : ∀ t, Steps p.tables e below (T1130.setTop (mkF m 293 #[.val (.int u1), .val (.int u2), .val (.long u3), .second, .val (.long u4), .second, .val (.int u5), .val (.int u6), .val (.int d8), .val (.ref cr), .val (.int nr), .val (.ref b1097), .val (.ref b1103), .val (.ref rq), .val (.ref b1097), .val (.ref b1103)] [(.int (1 : Int32))])) t → Steps p.tables e below (s₁.setTop (entryFrame m #[(.int u1), (.int u2), (.long u3), (.long u4), (.int u5), (.int u6)] maxLocals)) t := fun t k => P1129 t (by
      refine Jvm.RoadKit.acmp (g := (mkF m 276 #[.val (.int u1), .val (.int u2), .val (.long u3), .second, .val (.long u4), .second, .val (.int u5), .val (.int u6), .val (.int d8), .val (.ref cr), .val (.int nr), .val (.ref b1097), .val (.ref b1103), .val (.ref rq), .val (.ref b1097), .val (.ref b1103)] [(.ref c5), (.ref cr)])) X1128 hx rfl rfl rfl (pc0 := 276) (pc' := 279) (same := true) rfl (hb hby at_276) rfl (decide_eq_true (congrArg Value.ref hcas)) (by decide) (by decide) ?_
      show Steps p.tables e below (T1128.setTop (mkF m 279 #[.val (.int u1), .val (.int u2), .val (.long u3), .second, .val (.long u4), .second, .val (.int u5), .val (.int u6), .val (.int d8), .val (.ref cr), .val (.int nr), .val (.ref b1097), .val (.ref b1103), .val (.ref rq), .val (.ref b1097), .val (.ref b1103)] [])) _
      refine XS.aload X1128.here hx rfl (hb hby at_279) rfl rfl ?_
      show Steps p.tables e below (T1128.setTop (mkF m 281 #[.val (.int u1), .val (.int u2), .val (.long u3), .second, .val (.long u4), .second, .val (.int u5), .val (.int u6), .val (.int d8), .val (.ref cr), .val (.int nr), .val (.ref b1097), .val (.ref b1103), .val (.ref rq), .val (.ref b1097), .val (.ref b1103)] [(.ref rq)])) _
      refine st1130.trans ?_
      show Steps p.tables e below (T1130.setTop (mkF m 284 #[.val (.int u1), .val (.int u2), .val (.long u3), .second, .val (.long u4), .second, .val (.int u5), .val (.int u6), .val (.int d8), .val (.ref cr), .val (.int nr), .val (.ref b1097), .val (.ref b1103), .val (.ref rq), .val (.ref b1097), .val (.ref b1103)] [(.long u4)])) _
      refine XS.lload X1130.here hx rfl (hb hby at_284) rfl ?_
      show Steps p.tables e below (T1130.setTop (mkF m 286 #[.val (.int u1), .val (.int u2), .val (.long u3), .second, .val (.long u4), .second, .val (.int u5), .val (.int u6), .val (.int d8), .val (.ref cr), .val (.int nr), .val (.ref b1097), .val (.ref b1103), .val (.ref rq), .val (.ref b1097), .val (.ref b1103)] [(.long u4), (.long u4)])) _
      refine XS.lcmp X1130.here hx rfl (hb hby at_286) rfl ?_
      show Steps p.tables e below (T1130.setTop (mkF m 287 #[.val (.int u1), .val (.int u2), .val (.long u3), .second, .val (.long u4), .second, .val (.int u5), .val (.int u6), .val (.int d8), .val (.ref cr), .val (.int nr), .val (.ref b1097), .val (.ref b1103), .val (.ref rq), .val (.ref b1097), .val (.ref b1103)] [(.int (lcmpW u4 u4))])) _
      refine XS.ifYes X1130.here hx rfl (pc0 := 287) (pc' := 292) rfl (hb hby at_287) rfl ((if0 _ _).trans (teq ((lw_eq u4 u4).mpr rfl)).1) (by decide) (by decide) ?_
      show Steps p.tables e below (T1130.setTop (mkF m 292 #[.val (.int u1), .val (.int u2), .val (.long u3), .second, .val (.long u4), .second, .val (.int u5), .val (.int u6), .val (.int d8), .val (.ref cr), .val (.int nr), .val (.ref b1097), .val (.ref b1103), .val (.ref rq), .val (.ref b1097), .val (.ref b1103)] [])) _
      refine XS.iconst X1130.here hx rfl (hb hby at_292) ?_
      show Steps p.tables e below (T1130.setTop (mkF m 293 #[.val (.int u1), .val (.int u2), .val (.long u3), .second, .val (.long u4), .second, .val (.int u5), .val (.int u6), .val (.int d8), .val (.ref cr), .val (.int nr), .val (.ref b1097), .val (.ref b1103), .val (.ref rq), .val (.ref b1097), .val (.ref b1103)] [(.int (1 : Int32))])) _
      exact k)
    obtain ⟨fs, hr, hrun, hended, hW, hsame⟩ := X1130.leave (v := some (.int (1 : Int32))) (fun h => by rw [Bd.returns] at h; cases h)
    refine ⟨_, _, P1131 _ ?_, hrun, hended, _, _, rfl, ?_, ⟨_, rfl⟩, hW, hsame.mono (by decide) (by decide)⟩
    · exact retN X1130 hx (t := .boolean) Bd.returns (by simp) (hb hby at_293) hr
    · show Q_law Z u1 u2 u3 u4 u5 u6 c0 c1 c2 c3 c4 c5 em h0 n0 _ T1130.heap _
      rw [eggetCasUnique]
      exact ⟨rfl, N1130⟩
  · have P1132 : ∀ t, Steps p.tables e below (T1128.setTop (mkF m 293 #[.val (.int u1), .val (.int u2), .val (.long u3), .second, .val (.long u4), .second, .val (.int u5), .val (.int u6), .val (.int d8), .val (.ref cr), .val (.int nr), .val (.ref b1097), .val (.ref b1103), .val (.ref rq), .val (.ref b1097), .val (.ref b1103)] [(.int (1 : Int32))])) t → Steps p.tables e below (s₁.setTop (entryFrame m #[(.int u1), (.int u2), (.long u3), (.long u4), (.int u5), (.int u6)] maxLocals)) t := fun t k => P1129 t (by
      refine Jvm.RoadKit.acmp (g := (mkF m 276 #[.val (.int u1), .val (.int u2), .val (.long u3), .second, .val (.long u4), .second, .val (.int u5), .val (.int u6), .val (.int d8), .val (.ref cr), .val (.int nr), .val (.ref b1097), .val (.ref b1103), .val (.ref rq), .val (.ref b1097), .val (.ref b1103)] [(.ref c5), (.ref cr)])) X1128 hx rfl rfl rfl (pc0 := 276) (pc' := 292) (same := false) rfl (hb hby at_276) rfl (decide_eq_false (fun q => hcas (Value.ref.inj q))) (by decide) (by decide) ?_
      show Steps p.tables e below (T1128.setTop (mkF m 292 #[.val (.int u1), .val (.int u2), .val (.long u3), .second, .val (.long u4), .second, .val (.int u5), .val (.int u6), .val (.int d8), .val (.ref cr), .val (.int nr), .val (.ref b1097), .val (.ref b1103), .val (.ref rq), .val (.ref b1097), .val (.ref b1103)] [])) _
      refine XS.iconst X1128.here hx rfl (hb hby at_292) ?_
      show Steps p.tables e below (T1128.setTop (mkF m 293 #[.val (.int u1), .val (.int u2), .val (.long u3), .second, .val (.long u4), .second, .val (.int u5), .val (.int u6), .val (.int d8), .val (.ref cr), .val (.int nr), .val (.ref b1097), .val (.ref b1103), .val (.ref rq), .val (.ref b1097), .val (.ref b1103)] [(.int (1 : Int32))])) _
      exact k)
    obtain ⟨fs, hr, hrun, hended, hW, hsame⟩ := X1128.leave (v := some (.int (1 : Int32))) (fun h => by rw [Bd.returns] at h; cases h)
    refine ⟨_, _, P1132 _ ?_, hrun, hended, _, _, rfl, ?_, ⟨_, rfl⟩, hW, hsame.mono (by decide) (by decide)⟩
    · exact retN X1128 hx (t := .boolean) Bd.returns (by simp) (hb hby at_293) hr
    · show Q_law Z u1 u2 u3 u4 u5 u6 c0 c1 c2 c3 c4 c5 em h0 n0 _ T1128.heap _
      rw [e1128]
      exact ⟨rfl, N1127⟩
set_option maxRecDepth 65536 in
set_option maxHeartbeats 40000000 in
theorem comes_1 {Post : Tables → Env → Array Value → State → Outcome → State → Prop} (hpost : ∀ tb e args s v u, (limb_1_1.after args s (.returned v) u = true ∧ limb_1_2.after args s (.returned v) u = true ∧ True) → FrameEnd s (.returned v) u (Jvm.fieldLocs frame_1_writes args s ++ Jvm.arrayLocs frame_1_arrays args s ++ Jvm.staticLocs frame_1_statics s) 16 128 → Post tb e args s (.returned v) u) :
    ArmFor flags0 classFile x code maxLocals ret World_1 tables_1 room_1 Calls_1 rest_1 Pre_1 Post := by
  intro l hfl _ _ p e ha hc hk s m args below hf hA hF happ hP
  obtain ⟨hcalls, hrest, hpre⟩ := hP
  obtain ⟨-, -, -, hnamed, -, -, -, hat⟩ := (Spec.applies_iff hf).mp happ
  obtain ⟨hg, hn⟩ := and_e (Cond.before_iff.mp (show (Jvm.Cond.and given_1 narrow_1).before args s = true from hpre))
  obtain ⟨g1, g2⟩ := and_e hg
  obtain ⟨g3, g4⟩ := and_e g2
  obtain ⟨g5, g6⟩ := and_e g4
  obtain ⟨g7, g8⟩ := and_e g6
  obtain ⟨g9, g10⟩ := and_e g8
  obtain ⟨g11, g12⟩ := and_e g10
  obtain ⟨w0, w1, w2, w3, w4, w5, rfl⟩ : ∃ w0 w1 w2 w3 w4 w5 : Value, args = #[w0, w1, w2, w3, w4, w5] := by
    have hs : args.size = 6 := by simpa [Cond.value, given_1] using g1
    obtain ⟨L⟩ := args
    match L, hs with
    | [w0, w1, w2, w3, w4, w5], _ => exact ⟨w0, w1, w2, w3, w4, w5, rfl⟩
  have hw := fun d (hd : d ∈ tables_1) => atoms_spec (ws := Jvm.Cond.code x code maxLocals ret :: tables_1) hat d (List.mem_cons_of_mem _ hd)
  have hfit : Fit s := fun {y c} hc i hi => by
    obtain ⟨ha, rfl⟩ := Array.getElem?_eq_some_iff.mp hc
    have q := List.all_eq_true.mp ((Array.all_eq_true_iff_forall_mem.mp hF) _ (Array.getElem_mem ha)) i (List.mem_range.mpr hi)
    simpa [Array.getElem?_eq_getElem hi] using q
  obtain ⟨hsets, hown0⟩ := atoms_of _ (rest_1_c_eq ▸ (show rest_1_c.before _ s = true from hrest))
  obtain ⟨i0, ei0⟩ := is_v g3
  obtain rfl : w0 = (.int i0) := Option.some.inj ei0
  obtain ⟨i1, ei1⟩ := is_v g5
  obtain rfl : w1 = (.int i1) := Option.some.inj ei1
  obtain ⟨i2, ei2⟩ := isL_v g7
  obtain rfl : w2 = (.long i2) := Option.some.inj ei2
  obtain ⟨i3, ei3⟩ := isL_v g9
  obtain rfl : w3 = (.long i3) := Option.some.inj ei3
  obtain ⟨i4, ei4⟩ := is_v g11
  obtain rfl : w4 = (.int i4) := Option.some.inj ei4
  obtain ⟨i5, ei5⟩ := is_v g12
  obtain rfl : w5 = (.int i5) := Option.some.inj ei5
  obtain ⟨gn1, gn2⟩ := and_e hn
  obtain ⟨gn3, gn4⟩ := and_e gn2
  obtain ⟨gn5, gn6⟩ := and_e gn4
  obtain ⟨gn7, gn8⟩ := and_e gn6
  obtain ⟨gn9, gn10⟩ := and_e gn8
  obtain ⟨gn11, gn12⟩ := and_e gn10
  obtain ⟨gn13, gn14⟩ := and_e gn12
  obtain ⟨gn15, gn16⟩ := and_e gn14
  obtain ⟨gn17, gn18⟩ := and_e gn16
  obtain ⟨gn19, gn20⟩ := and_e gn18
  obtain ⟨gn21, gn22⟩ := and_e gn20
  obtain ⟨c0, ec0⟩ := exa_v gn1
  have S0 : Sta s s.heap "com/example/hardy_cache/hardycache/server/Request$Command" "SET" "Lcom/example/hardy_cache/hardycache/server/Request$Command;" (.ref c0) := Sta.start ec0 (Or.inr ⟨(hw _ (List.mem_of_getElem? (i := 5) rfl)), (hw _ (List.mem_of_getElem? (i := 6) rfl))⟩)
  obtain ⟨c1, ec1⟩ := exa_v gn9
  have S1 : Sta s s.heap "com/example/hardy_cache/hardycache/server/Request$Command" "ADD" "Lcom/example/hardy_cache/hardycache/server/Request$Command;" (.ref c1) := Sta.start ec1 (Or.inr ⟨(hw _ (List.mem_of_getElem? (i := 5) rfl)), (hw _ (List.mem_of_getElem? (i := 135) rfl))⟩)
  obtain ⟨c2, ec2⟩ := exa_v gn13
  have S2 : Sta s s.heap "com/example/hardy_cache/hardycache/server/Request$Command" "REPLACE" "Lcom/example/hardy_cache/hardycache/server/Request$Command;" (.ref c2) := Sta.start ec2 (Or.inr ⟨(hw _ (List.mem_of_getElem? (i := 5) rfl)), (hw _ (List.mem_of_getElem? (i := 142) rfl))⟩)
  obtain ⟨c3, ec3⟩ := exa_v gn17
  have S3 : Sta s s.heap "com/example/hardy_cache/hardycache/server/Request$Command" "APPEND" "Lcom/example/hardy_cache/hardycache/server/Request$Command;" (.ref c3) := Sta.start ec3 (Or.inr ⟨(hw _ (List.mem_of_getElem? (i := 5) rfl)), (hw _ (List.mem_of_getElem? (i := 144) rfl))⟩)
  obtain ⟨c4, ec4⟩ := exa_v gn21
  have S4 : Sta s s.heap "com/example/hardy_cache/hardycache/server/Request$Command" "PREPEND" "Lcom/example/hardy_cache/hardycache/server/Request$Command;" (.ref c4) := Sta.start ec4 (Or.inr ⟨(hw _ (List.mem_of_getElem? (i := 5) rfl)), (hw _ (List.mem_of_getElem? (i := 146) rfl))⟩)
  obtain ⟨c5, ec5⟩ := exa_v gn3
  have S5 : Sta s s.heap "com/example/hardy_cache/hardycache/server/Request$Command" "CAS" "Lcom/example/hardy_cache/hardycache/server/Request$Command;" (.ref c5) := Sta.start ec5 (Or.inr ⟨(hw _ (List.mem_of_getElem? (i := 5) rfl)), (hw _ (List.mem_of_getElem? (i := 133) rfl))⟩)
  obtain ⟨em, eem⟩ := exa_v (Cond.before_iff.mp (hsets _ (List.mem_of_getElem? (i := 2) rfl)))
  have SE : Sta s s.heap "java/util/ImmutableCollections" "EMPTY" "Ljava/lang/Object;" (.ref em) := Sta.start eem (Or.inl (hsets _ (List.mem_of_getElem? (i := 1) rfl)))
  obtain ⟨n, o, h1, h2, h3, _, L, rfl, ⟨rfl, N⟩, hq⟩ := rm_law l s _ hw tables_1 i0 i1 i2 i3 i4 i5 c0 c1 c2 c3 c4 c5 em s.heap s.heap.size (Nat.le_refl _) S0 S1 S2 S3 S4 S5 SE (Old.start s) p e ha hc hk s m _ below hf ((Spec.applies_iff_loose hf).mp happ).1 ⟨rfl, State.Warmed39.refl s, rfl⟩ trivial
  refine ⟨n, _, h1, h2, h3, hpost _ _ _ _ _ _ ⟨Cond.after_iff.mpr rfl, Cond.after_iff.mpr (eq_i res_at (Term.int_eval (1)) rfl), trivial⟩ ⟨hq.1, hq.2.1, (hq.2.2.sift fun y hy => Or.inr (N y hy)).mono (by decide) (by decide)⟩⟩
theorem main_1_1 : Claimed_1_1 := comes_1 fun _ _ _ _ _ _ h hF => ⟨h.1, hF⟩
theorem main_1_2 : Claimed_1_2 := comes_1 fun _ _ _ _ _ _ h hF => ⟨h.2.1, hF⟩
end Jvm.Pilot.@@N@@
namespace Jvm.Pilot.@@N@@
open Jvm Jvm.ClassFile Sem Op Lib Jvm.Free Jvm.Stand Jvm.Pilot.@@N@@.Jvm.D
/-! MADE BY PROGRAM (witnessworld.py) out of the Statement's table words and the real class files: 25 classes; the members and pool entries that the words name. The judged class is class 1, her method 2. -/
namespace start1
open Jvm.ClassFile
def u (s : String) : CpInfo := .utf8 (stringToUtf16 s)
/-- a pool by its gaps: so many unusable entries, then the entry; so many at the end -/
def gap : Nat → List CpInfo → List CpInfo
  | 0, r => r
  | n + 1, r => .unusable :: gap n r
def poolList (es : List (Nat × CpInfo)) (last : Nat) : List CpInfo := es.foldr (fun e r => gap e.1 (e.2 :: r)) (gap last [])
def pool (es : List (Nat × CpInfo)) (last : Nat) : Array CpInfo := ⟨poolList es last⟩
def fileOf (pool : Array CpInfo) (this : Nat) (attrs : Array Attribute := #[]) (ms : Array MethodInfo := #[]) (fl : Nat := 33) (sup : Nat := 0) (ifs : Array Nat := #[]) (fds : Array FieldInfo := #[]) : ClassFile where
  minorVersion := 0
  majorVersion := 65
  constantPool := pool
  accessFlags := fl
  thisClass := this
  superClass := sup
  interfaces := ifs
  fields := fds
  methods := ms
  attributes := attrs
def plain (name : String) (sup : Option ClassId) : Class where
  name := name
  kind := .ordinary
  loader := none
  accessFlags := 33
  super := sup
  interfaces := #[]
  cf := none
  fields := #[]
  methods := #[]
  instanceTypes := #[]
  staticTypes := #[]
  resolved := #[]
  callSites := []
  init := .initialized
  statics := none
  mirror := none

def pool0 : Array CpInfo := pool [(5, u "<init>"), (0, u "()V"), (1, .class_ 10), (1, u "java/lang/Object")] 113

def k0c0 : Code := { maxStack := 0, maxLocals := 1, code := object_method_1_code, exceptionTable := #[], attributes := #[] }
def k0m0 : Method := { name := "<init>", desc := "()V", sig := { parameters := [], returnType := none }, accessFlags := 1, code := some k0c0 }
/-- java/lang/Object -/
def k0 : Class := { plain "java/lang/Object" none with
  accessFlags := 33
  interfaces := #[]
  cf := some (fileOf pool0 8 #[] #[{ accessFlags := 1, nameIndex := 5, descriptorIndex := 6, attributes := #[] }] 33 0 #[] #[])
  fields := #[]
  methods := #[k0m0]
  instanceTypes := #[]
  staticTypes := #[]
  resolved := Array.replicate 124 none
  statics := none }

def pool1 : Array CpInfo := pool [(2, .class_ 4), (1, u "java/lang/Object"), (0, u "<init>"), (0, u "()V"), (0, .fieldref 8 9), (0, .class_ 10), (0, .nameAndType 11 12), (0, u "com/example/hardy_cache/hardycache/server/Request$Command"), (0, u "SET"), (0, u "Lcom/example/hardy_cache/hardycache/server/Request$Command;"), (0, .fieldref 8 14), (0, .nameAndType 15 12), (0, u "ADD"), (0, .fieldref 8 17), (0, .nameAndType 18 12), (0, u "REPLACE"), (0, .fieldref 8 20), (0, .nameAndType 21 12), (0, u "APPEND"), (0, .fieldref 8 23), (0, .nameAndType 24 12), (0, u "PREPEND"), (0, .fieldref 8 26), (0, .nameAndType 27 12), (0, u "CAS"), (0, .methodref 29 30), (0, .class_ 31), (0, .nameAndType 32 33), (0, u "com/example/hardy_cache/hardycache/server/RequestStoragePinLaw"), (0, u "pick"), (0, u "(I)Lcom/example/hardy_cache/hardycache/server/Request$Command;"), (0, .methodref 35 36), (0, .class_ 37), (0, .nameAndType 38 39), (0, u "com/example/hardy_cache/hardycache/server/Request"), (0, u "storage"), (0, u "(Lcom/example/hardy_cache/hardycache/server/Request$Command;[BIJ[BJZ)Lcom/example/hardy_cache/hardycache/server/Request;"), (0, .methodref 35 41), (0, .nameAndType 42 43), (0, u "getCommand"), (0, u "()Lcom/example/hardy_cache/hardycache/server/Request$Command;"), (0, .methodref 35 45), (0, .nameAndType 46 47), (0, u "getKeys"), (0, u "()Ljava/util/List;"), (0, .interfaceMethodref 49 50), (0, .class_ 51), (0, .nameAndType 52 53), (0, u "java/util/List"), (0, u "size"), (0, u "()I"), (0, .methodref 35 55), (0, .nameAndType 56 57), (0, u "getKey"), (0, u "()[B"), (0, .methodref 35 59), (0, .nameAndType 60 53), (0, u "getFlags"), (0, .methodref 35 62), (0, .nameAndType 63 64), (0, u "getExptime"), (0, u "()J"), (0, .methodref 35 66), (0, .nameAndType 67 57), (0, u "getValue"), (0, .methodref 35 69), (0, .nameAndType 70 71), (0, u "isNoreply"), (0, u "()Z"), (0, .methodref 35 73), (0, .nameAndType 74 64), (0, u "getCasUnique"), (3, u "law"), (0, u "(IIJJII)Z")] 6

def k1m0 : Method := { name := "<init>", desc := "()V", sig := { parameters := [], returnType := none }, accessFlags := 1, code := none }
def k1c1 : Code := { maxStack := 2, maxLocals := 1, code := method_2_code, exceptionTable := #[], attributes := #[] }
def k1m1 : Method := { name := "pick", desc := "(I)Lcom/example/hardy_cache/hardycache/server/Request$Command;", sig := { parameters := [.int], returnType := some (.object "com/example/hardy_cache/hardycache/server/Request$Command") }, accessFlags := 10, code := some k1c1 }
def k1c2 : Code := { maxStack := 9, maxLocals := 16, code := code, exceptionTable := #[], attributes := #[] }
def k1m2 : Method := { name := "law", desc := "(IIJJII)Z", sig := { parameters := [.int, .int, .long, .long, .int, .int], returnType := some .boolean }, accessFlags := 9, code := some k1c2 }
/-- com/example/hardy_cache/hardycache/server/RequestStoragePinLaw -/
def k1 : Class := { plain "com/example/hardy_cache/hardycache/server/RequestStoragePinLaw" (some 0) with
  accessFlags := 49
  interfaces := #[]
  cf := some (fileOf pool1 29 #[] #[{ accessFlags := 1, nameIndex := 5, descriptorIndex := 6, attributes := #[] }, { accessFlags := 10, nameIndex := 32, descriptorIndex := 33, attributes := #[] }, { accessFlags := 9, nameIndex := 78, descriptorIndex := 79, attributes := #[] }] 49 2 #[] #[])
  fields := #[]
  methods := #[k1m0, k1m1, k1m2]
  instanceTypes := #[]
  staticTypes := #[]
  resolved := Array.replicate 86 none
  statics := none }

def pool2 : Array CpInfo := pool [(1, .class_ 2), (0, u "java/lang/constant/Constable"), (0, .class_ 4), (0, u "java/lang/Object")] 6

/-- java/lang/constant/Constable -/
def k2 : Class := { plain "java/lang/constant/Constable" (some 0) with
  accessFlags := 1537
  interfaces := #[]
  cf := some (fileOf pool2 1 #[] #[] 1537 3 #[] #[])
  fields := #[]
  methods := #[]
  instanceTypes := #[]
  staticTypes := #[]
  resolved := Array.replicate 11 none
  statics := none }

def pool3 : Array CpInfo := pool [(1, .class_ 2), (0, u "java/lang/Comparable"), (0, .class_ 4), (0, u "java/lang/Object")] 7

/-- java/lang/Comparable -/
def k3 : Class := { plain "java/lang/Comparable" (some 0) with
  accessFlags := 1537
  interfaces := #[]
  cf := some (fileOf pool3 1 #[] #[] 1537 3 #[] #[])
  fields := #[]
  methods := #[]
  instanceTypes := #[]
  staticTypes := #[]
  resolved := Array.replicate 12 none
  statics := none }

def pool4 : Array CpInfo := pool [(1, .class_ 2), (0, u "java/io/Serializable"), (0, .class_ 4), (0, u "java/lang/Object")] 2

/-- java/io/Serializable -/
def k4 : Class := { plain "java/io/Serializable" (some 0) with
  accessFlags := 1537
  interfaces := #[]
  cf := some (fileOf pool4 1 #[] #[] 1537 3 #[] #[])
  fields := #[]
  methods := #[]
  instanceTypes := #[]
  staticTypes := #[]
  resolved := Array.replicate 7 none
  statics := none }

def pool5 : Array CpInfo := pool [(2, .class_ 4), (1, u "java/lang/Enum"), (0, u "name"), (0, u "Ljava/lang/String;"), (2, u "ordinal"), (0, u "I"), (1, .class_ 14), (1, u "java/lang/Object"), (4, u "hash"), (86, .class_ 108), (1, u "java/lang/Enum$EnumDesc"), (2, .class_ 112), (0, u "java/lang/constant/Constable"), (0, .class_ 114), (0, u "java/lang/Comparable"), (0, .class_ 116), (0, u "java/io/Serializable")] 87

/-- java/lang/Enum -/
def k5 : Class := { plain "java/lang/Enum" (some 0) with
  accessFlags := 1057
  interfaces := #[2, 3, 4]
  cf := some (fileOf pool5 2 #[.nestMembers #[106]] #[] 1057 12 #[111, 113, 115] #[{ accessFlags := 18, nameIndex := 5, descriptorIndex := 6, attributes := #[] }, { accessFlags := 18, nameIndex := 9, descriptorIndex := 10, attributes := #[] }, { accessFlags := 2, nameIndex := 19, descriptorIndex := 10, attributes := #[] }])
  fields := #[{ name := "name", type := (.object "java/lang/String"), accessFlags := 18, slot := 0, constantValue := 0 }, { name := "ordinal", type := .int, accessFlags := 18, slot := 1, constantValue := 0 }, { name := "hash", type := .int, accessFlags := 2, slot := 2, constantValue := 0 }]
  methods := #[]
  instanceTypes := #[(.object "java/lang/String"), .int, .int]
  staticTypes := #[]
  resolved := Array.replicate 204 none
  statics := none }

def pool6 : Array CpInfo := pool [(1, .class_ 2), (0, u "com/example/hardy_cache/hardycache/server/Request$Command"), (2, u "GET"), (0, u "Lcom/example/hardy_cache/hardycache/server/Request$Command;"), (2, u "GETS"), (2, u "GAT"), (2, u "GATS"), (2, u "SET"), (2, u "ADD"), (2, u "REPLACE"), (2, u "APPEND"), (2, u "PREPEND"), (2, u "CAS"), (2, u "DELETE"), (2, u "TOUCH"), (2, u "INCR"), (2, u "DECR"), (2, u "STATS"), (2, u "FLUSH_ALL"), (2, u "VERBOSITY"), (2, u "VERSION"), (2, u "QUIT"), (2, u "$VALUES"), (0, u "[Lcom/example/hardy_cache/hardycache/server/Request$Command;"), (6, .class_ 73), (1, u "java/lang/Enum"), (8, u "syn"), (0, u "Lcom/example/hardy_cache/hardycache/server/Request$Syntax;"), (18, u "wireName"), (0, u "Ljava/lang/String;"), (2, u "BY_NAME"), (0, u "Ljava/util/Map;"), (92, .class_ 201), (0, u "com/example/hardy_cache/hardycache/server/Request")] 3

/-- com/example/hardy_cache/hardycache/server/Request$Command -/
def k6 : Class := { plain "com/example/hardy_cache/hardycache/server/Request$Command" (some 5) with
  accessFlags := 16432
  interfaces := #[]
  cf := some (fileOf pool6 1 #[.nestHost 200] #[] 16432 71 #[] #[{ accessFlags := 16409, nameIndex := 5, descriptorIndex := 6, attributes := #[] }, { accessFlags := 16409, nameIndex := 9, descriptorIndex := 6, attributes := #[] }, { accessFlags := 16409, nameIndex := 12, descriptorIndex := 6, attributes := #[] }, { accessFlags := 16409, nameIndex := 15, descriptorIndex := 6, attributes := #[] }, { accessFlags := 16409, nameIndex := 18, descriptorIndex := 6, attributes := #[] }, { accessFlags := 16409, nameIndex := 21, descriptorIndex := 6, attributes := #[] }, { accessFlags := 16409, nameIndex := 24, descriptorIndex := 6, attributes := #[] }, { accessFlags := 16409, nameIndex := 27, descriptorIndex := 6, attributes := #[] }, { accessFlags := 16409, nameIndex := 30, descriptorIndex := 6, attributes := #[] }, { accessFlags := 16409, nameIndex := 33, descriptorIndex := 6, attributes := #[] }, { accessFlags := 16409, nameIndex := 36, descriptorIndex := 6, attributes := #[] }, { accessFlags := 16409, nameIndex := 39, descriptorIndex := 6, attributes := #[] }, { accessFlags := 16409, nameIndex := 42, descriptorIndex := 6, attributes := #[] }, { accessFlags := 16409, nameIndex := 45, descriptorIndex := 6, attributes := #[] }, { accessFlags := 16409, nameIndex := 48, descriptorIndex := 6, attributes := #[] }, { accessFlags := 16409, nameIndex := 51, descriptorIndex := 6, attributes := #[] }, { accessFlags := 16409, nameIndex := 54, descriptorIndex := 6, attributes := #[] }, { accessFlags := 16409, nameIndex := 57, descriptorIndex := 6, attributes := #[] }, { accessFlags := 16409, nameIndex := 60, descriptorIndex := 6, attributes := #[] }, { accessFlags := 26, nameIndex := 106, descriptorIndex := 107, attributes := #[] }, { accessFlags := 18, nameIndex := 82, descriptorIndex := 83, attributes := #[] }, { accessFlags := 18, nameIndex := 102, descriptorIndex := 103, attributes := #[] }, { accessFlags := 4122, nameIndex := 63, descriptorIndex := 64, attributes := #[] }])
  fields := #[{ name := "GET", type := (.object "com/example/hardy_cache/hardycache/server/Request$Command"), accessFlags := 16409, slot := 0, constantValue := 0 }, { name := "GETS", type := (.object "com/example/hardy_cache/hardycache/server/Request$Command"), accessFlags := 16409, slot := 1, constantValue := 0 }, { name := "GAT", type := (.object "com/example/hardy_cache/hardycache/server/Request$Command"), accessFlags := 16409, slot := 2, constantValue := 0 }, { name := "GATS", type := (.object "com/example/hardy_cache/hardycache/server/Request$Command"), accessFlags := 16409, slot := 3, constantValue := 0 }, { name := "SET", type := (.object "com/example/hardy_cache/hardycache/server/Request$Command"), accessFlags := 16409, slot := 4, constantValue := 0 }, { name := "ADD", type := (.object "com/example/hardy_cache/hardycache/server/Request$Command"), accessFlags := 16409, slot := 5, constantValue := 0 }, { name := "REPLACE", type := (.object "com/example/hardy_cache/hardycache/server/Request$Command"), accessFlags := 16409, slot := 6, constantValue := 0 }, { name := "APPEND", type := (.object "com/example/hardy_cache/hardycache/server/Request$Command"), accessFlags := 16409, slot := 7, constantValue := 0 }, { name := "PREPEND", type := (.object "com/example/hardy_cache/hardycache/server/Request$Command"), accessFlags := 16409, slot := 8, constantValue := 0 }, { name := "CAS", type := (.object "com/example/hardy_cache/hardycache/server/Request$Command"), accessFlags := 16409, slot := 9, constantValue := 0 }, { name := "DELETE", type := (.object "com/example/hardy_cache/hardycache/server/Request$Command"), accessFlags := 16409, slot := 10, constantValue := 0 }, { name := "TOUCH", type := (.object "com/example/hardy_cache/hardycache/server/Request$Command"), accessFlags := 16409, slot := 11, constantValue := 0 }, { name := "INCR", type := (.object "com/example/hardy_cache/hardycache/server/Request$Command"), accessFlags := 16409, slot := 12, constantValue := 0 }, { name := "DECR", type := (.object "com/example/hardy_cache/hardycache/server/Request$Command"), accessFlags := 16409, slot := 13, constantValue := 0 }, { name := "STATS", type := (.object "com/example/hardy_cache/hardycache/server/Request$Command"), accessFlags := 16409, slot := 14, constantValue := 0 }, { name := "FLUSH_ALL", type := (.object "com/example/hardy_cache/hardycache/server/Request$Command"), accessFlags := 16409, slot := 15, constantValue := 0 }, { name := "VERBOSITY", type := (.object "com/example/hardy_cache/hardycache/server/Request$Command"), accessFlags := 16409, slot := 16, constantValue := 0 }, { name := "VERSION", type := (.object "com/example/hardy_cache/hardycache/server/Request$Command"), accessFlags := 16409, slot := 17, constantValue := 0 }, { name := "QUIT", type := (.object "com/example/hardy_cache/hardycache/server/Request$Command"), accessFlags := 16409, slot := 18, constantValue := 0 }, { name := "BY_NAME", type := (.object "java/util/Map"), accessFlags := 26, slot := 19, constantValue := 0 }, { name := "syn", type := (.object "com/example/hardy_cache/hardycache/server/Request$Syntax"), accessFlags := 18, slot := 3, constantValue := 0 }, { name := "wireName", type := (.object "java/lang/String"), accessFlags := 18, slot := 4, constantValue := 0 }, { name := "$VALUES", type := (.array (.object "com/example/hardy_cache/hardycache/server/Request$Command")), accessFlags := 4122, slot := 20, constantValue := 0 }]
  methods := #[]
  instanceTypes := #[(.object "java/lang/String"), .int, .int, (.object "com/example/hardy_cache/hardycache/server/Request$Syntax"), (.object "java/lang/String")]
  staticTypes := #[(.object "com/example/hardy_cache/hardycache/server/Request$Command"), (.object "com/example/hardy_cache/hardycache/server/Request$Command"), (.object "com/example/hardy_cache/hardycache/server/Request$Command"), (.object "com/example/hardy_cache/hardycache/server/Request$Command"), (.object "com/example/hardy_cache/hardycache/server/Request$Command"), (.object "com/example/hardy_cache/hardycache/server/Request$Command"), (.object "com/example/hardy_cache/hardycache/server/Request$Command"), (.object "com/example/hardy_cache/hardycache/server/Request$Command"), (.object "com/example/hardy_cache/hardycache/server/Request$Command"), (.object "com/example/hardy_cache/hardycache/server/Request$Command"), (.object "com/example/hardy_cache/hardycache/server/Request$Command"), (.object "com/example/hardy_cache/hardycache/server/Request$Command"), (.object "com/example/hardy_cache/hardycache/server/Request$Command"), (.object "com/example/hardy_cache/hardycache/server/Request$Command"), (.object "com/example/hardy_cache/hardycache/server/Request$Command"), (.object "com/example/hardy_cache/hardycache/server/Request$Command"), (.object "com/example/hardy_cache/hardycache/server/Request$Command"), (.object "com/example/hardy_cache/hardycache/server/Request$Command"), (.object "com/example/hardy_cache/hardycache/server/Request$Command"), (.object "java/util/Map"), (.array (.object "com/example/hardy_cache/hardycache/server/Request$Command"))]
  resolved := Array.replicate 205 none
  statics := some 0 }

def pool7 : Array CpInfo := pool [(1, .methodref 2 3), (0, .class_ 4), (0, .nameAndType 5 6), (0, u "java/lang/Object"), (0, u "<init>"), (0, u "()V"), (0, .fieldref 8 9), (0, .class_ 10), (0, .nameAndType 11 12), (0, u "com/example/hardy_cache/hardycache/server/Request"), (0, u "command"), (0, u "Lcom/example/hardy_cache/hardycache/server/Request$Command;"), (0, .fieldref 8 14), (0, .nameAndType 15 16), (0, u "keys"), (0, u "Ljava/util/List;"), (0, .fieldref 8 18), (0, .nameAndType 19 20), (0, u "flags"), (0, u "I"), (0, .fieldref 8 22), (0, .nameAndType 23 24), (0, u "exptime"), (0, u "J"), (0, .fieldref 8 26), (0, .nameAndType 27 28), (0, u "value"), (0, u "[B"), (0, .fieldref 8 30), (0, .nameAndType 31 24), (0, u "casUnique"), (0, .fieldref 8 33), (0, .nameAndType 34 24), (0, u "delta"), (0, .fieldref 8 36), (0, .nameAndType 37 38), (0, u "noreply"), (0, u "Z"), (0, .fieldref 8 40), (0, .nameAndType 41 42), (0, u "statsGroup"), (0, u "Ljava/lang/String;"), (1, .class_ 46), (1, u "java/util/List"), (2, .methodref 8 50), (0, .nameAndType 5 51), (0, u "(Lcom/example/hardy_cache/hardycache/server/Request$Command;Ljava/util/List;IJ[BJJZLjava/lang/String;)V"), (0, .interfaceMethodref 44 53), (0, .nameAndType 54 55), (0, u "of"), (0, u "(Ljava/lang/Object;)Ljava/util/List;"), (1, .class_ 59), (1, u "com/example/hardy_cache/hardycache/server/Request$Command"), (9, u "()Ljava/util/List;"), (3, .interfaceMethodref 44 74), (0, .nameAndType 75 76), (0, u "get"), (0, u "(I)Ljava/lang/Object;"), (0, .class_ 28), (5, .class_ 85), (1, u "com/example/hardy_cache/hardycache/server/Request$Syntax"), (3, .class_ 91), (1, u "com/example/hardy_cache/hardycache/server/Request$Scope"), (5, u "()I"), (36, u "getKey"), (0, u "()[B"), (51, u "storage"), (0, u "(Lcom/example/hardy_cache/hardycache/server/Request$Command;[BIJ[BJZ)Lcom/example/hardy_cache/hardycache/server/Request;"), (12, u "getCommand"), (0, u "()Lcom/example/hardy_cache/hardycache/server/Request$Command;"), (0, u "getKeys"), (3, u "getFlags"), (0, u "getExptime"), (0, u "()J"), (0, u "getValue"), (0, u "getCasUnique"), (1, u "isNoreply"), (0, u "()Z")] 32

def k7c0 : Code := { maxStack := 3, maxLocals := 13, code := prog_11_method_1_code, exceptionTable := #[], attributes := #[] }
def k7m0 : Method := { name := "<init>", desc := "(Lcom/example/hardy_cache/hardycache/server/Request$Command;Ljava/util/List;IJ[BJJZLjava/lang/String;)V", sig := { parameters := [(.object "com/example/hardy_cache/hardycache/server/Request$Command"), (.object "java/util/List"), .int, .long, (.array .byte), .long, .long, .boolean, (.object "java/lang/String")], returnType := none }, accessFlags := 2, code := some k7c0 }
def k7c1 : Code := { maxStack := 14, maxLocals := 9, code := prog_11_method_3_code, exceptionTable := #[], attributes := #[] }
def k7m1 : Method := { name := "storage", desc := "(Lcom/example/hardy_cache/hardycache/server/Request$Command;[BIJ[BJZ)Lcom/example/hardy_cache/hardycache/server/Request;", sig := { parameters := [(.object "com/example/hardy_cache/hardycache/server/Request$Command"), (.array .byte), .int, .long, (.array .byte), .long, .boolean], returnType := some (.object "com/example/hardy_cache/hardycache/server/Request") }, accessFlags := 8, code := some k7c1 }
def k7c2 : Code := { maxStack := 1, maxLocals := 1, code := prog_11_method_10_code, exceptionTable := #[], attributes := #[] }
def k7m2 : Method := { name := "getCommand", desc := "()Lcom/example/hardy_cache/hardycache/server/Request$Command;", sig := { parameters := [], returnType := some (.object "com/example/hardy_cache/hardycache/server/Request$Command") }, accessFlags := 0, code := some k7c2 }
def k7c3 : Code := { maxStack := 1, maxLocals := 1, code := prog_11_method_11_code, exceptionTable := #[], attributes := #[] }
def k7m3 : Method := { name := "getKeys", desc := "()Ljava/util/List;", sig := { parameters := [], returnType := some (.object "java/util/List") }, accessFlags := 0, code := some k7c3 }
def k7c4 : Code := { maxStack := 2, maxLocals := 1, code := prog_11_method_12_code, exceptionTable := #[], attributes := #[] }
def k7m4 : Method := { name := "getKey", desc := "()[B", sig := { parameters := [], returnType := some (.array .byte) }, accessFlags := 0, code := some k7c4 }
def k7c5 : Code := { maxStack := 1, maxLocals := 1, code := prog_11_method_14_code, exceptionTable := #[], attributes := #[] }
def k7m5 : Method := { name := "getFlags", desc := "()I", sig := { parameters := [], returnType := some .int }, accessFlags := 0, code := some k7c5 }
def k7c6 : Code := { maxStack := 2, maxLocals := 1, code := prog_11_method_15_code, exceptionTable := #[], attributes := #[] }
def k7m6 : Method := { name := "getExptime", desc := "()J", sig := { parameters := [], returnType := some .long }, accessFlags := 0, code := some k7c6 }
def k7c7 : Code := { maxStack := 1, maxLocals := 1, code := prog_11_method_16_code, exceptionTable := #[], attributes := #[] }
def k7m7 : Method := { name := "getValue", desc := "()[B", sig := { parameters := [], returnType := some (.array .byte) }, accessFlags := 0, code := some k7c7 }
def k7c8 : Code := { maxStack := 2, maxLocals := 1, code := prog_11_method_17_code, exceptionTable := #[], attributes := #[] }
def k7m8 : Method := { name := "getCasUnique", desc := "()J", sig := { parameters := [], returnType := some .long }, accessFlags := 0, code := some k7c8 }
def k7c9 : Code := { maxStack := 1, maxLocals := 1, code := prog_11_method_19_code, exceptionTable := #[], attributes := #[] }
def k7m9 : Method := { name := "isNoreply", desc := "()Z", sig := { parameters := [], returnType := some .boolean }, accessFlags := 0, code := some k7c9 }
/-- com/example/hardy_cache/hardycache/server/Request -/
def k7 : Class := { plain "com/example/hardy_cache/hardycache/server/Request" (some 0) with
  accessFlags := 48
  interfaces := #[]
  cf := some (fileOf pool7 8 #[.nestMembers #[57, 83, 89]] #[{ accessFlags := 2, nameIndex := 5, descriptorIndex := 51, attributes := #[] }, { accessFlags := 8, nameIndex := 187, descriptorIndex := 188, attributes := #[] }, { accessFlags := 0, nameIndex := 201, descriptorIndex := 202, attributes := #[] }, { accessFlags := 0, nameIndex := 203, descriptorIndex := 69, attributes := #[] }, { accessFlags := 0, nameIndex := 134, descriptorIndex := 135, attributes := #[] }, { accessFlags := 0, nameIndex := 207, descriptorIndex := 97, attributes := #[] }, { accessFlags := 0, nameIndex := 208, descriptorIndex := 209, attributes := #[] }, { accessFlags := 0, nameIndex := 210, descriptorIndex := 135, attributes := #[] }, { accessFlags := 0, nameIndex := 211, descriptorIndex := 209, attributes := #[] }, { accessFlags := 0, nameIndex := 213, descriptorIndex := 214, attributes := #[] }] 48 2 #[] #[{ accessFlags := 18, nameIndex := 11, descriptorIndex := 12, attributes := #[] }, { accessFlags := 18, nameIndex := 15, descriptorIndex := 16, attributes := #[] }, { accessFlags := 18, nameIndex := 19, descriptorIndex := 20, attributes := #[] }, { accessFlags := 18, nameIndex := 23, descriptorIndex := 24, attributes := #[] }, { accessFlags := 18, nameIndex := 27, descriptorIndex := 28, attributes := #[] }, { accessFlags := 18, nameIndex := 31, descriptorIndex := 24, attributes := #[] }, { accessFlags := 18, nameIndex := 34, descriptorIndex := 24, attributes := #[] }, { accessFlags := 18, nameIndex := 37, descriptorIndex := 38, attributes := #[] }, { accessFlags := 18, nameIndex := 41, descriptorIndex := 42, attributes := #[] }])
  fields := #[{ name := "command", type := (.object "com/example/hardy_cache/hardycache/server/Request$Command"), accessFlags := 18, slot := 0, constantValue := 0 }, { name := "keys", type := (.object "java/util/List"), accessFlags := 18, slot := 1, constantValue := 0 }, { name := "flags", type := .int, accessFlags := 18, slot := 2, constantValue := 0 }, { name := "exptime", type := .long, accessFlags := 18, slot := 3, constantValue := 0 }, { name := "value", type := (.array .byte), accessFlags := 18, slot := 4, constantValue := 0 }, { name := "casUnique", type := .long, accessFlags := 18, slot := 5, constantValue := 0 }, { name := "delta", type := .long, accessFlags := 18, slot := 6, constantValue := 0 }, { name := "noreply", type := .boolean, accessFlags := 18, slot := 7, constantValue := 0 }, { name := "statsGroup", type := (.object "java/lang/String"), accessFlags := 18, slot := 8, constantValue := 0 }]
  methods := #[k7m0, k7m1, k7m2, k7m3, k7m4, k7m5, k7m6, k7m7, k7m8, k7m9]
  instanceTypes := #[(.object "com/example/hardy_cache/hardycache/server/Request$Command"), (.object "java/util/List"), .int, .long, (.array .byte), .long, .long, .boolean, (.object "java/lang/String")]
  staticTypes := #[]
  resolved := Array.replicate 247 none
  statics := none }

def pool8 : Array CpInfo := pool [(8, .class_ 10), (1, u "java/lang/Iterable"), (24, .class_ 36), (0, u "java/lang/Object")] 25

/-- java/lang/Iterable -/
def k8 : Class := { plain "java/lang/Iterable" (some 0) with
  accessFlags := 1537
  interfaces := #[]
  cf := some (fileOf pool8 8 #[] #[] 1537 35 #[] #[])
  fields := #[]
  methods := #[]
  instanceTypes := #[]
  staticTypes := #[]
  resolved := Array.replicate 62 none
  statics := none }

def pool9 : Array CpInfo := pool [(10, .class_ 12), (1, u "java/util/Collection"), (47, .class_ 61), (0, u "java/lang/Object"), (0, .class_ 63), (0, u "java/lang/Iterable")] 51

/-- java/util/Collection -/
def k9 : Class := { plain "java/util/Collection" (some 0) with
  accessFlags := 1537
  interfaces := #[8]
  cf := some (fileOf pool9 10 #[] #[] 1537 60 #[62] #[])
  fields := #[]
  methods := #[]
  instanceTypes := #[]
  staticTypes := #[]
  resolved := Array.replicate 115 none
  statics := none }

def pool10 : Array CpInfo := pool [(8, .class_ 10), (1, u "java/util/SequencedCollection"), (15, .class_ 27), (0, u "java/lang/Object"), (0, .class_ 29), (0, u "java/util/Collection")] 27

/-- java/util/SequencedCollection -/
def k10 : Class := { plain "java/util/SequencedCollection" (some 0) with
  accessFlags := 1537
  interfaces := #[9]
  cf := some (fileOf pool10 8 #[] #[] 1537 26 #[28] #[])
  fields := #[]
  methods := #[]
  instanceTypes := #[]
  staticTypes := #[]
  resolved := Array.replicate 57 none
  statics := none }

def pool11 : Array CpInfo := pool [(8, .class_ 10), (1, u "java/util/List"), (20, u "(Ljava/lang/Object;)V"), (16, u "<init>"), (26, u "get"), (0, u "(I)Ljava/lang/Object;"), (2, u "size"), (0, u "()I"), (7, u "of"), (7, .class_ 97), (0, u "java/util/ImmutableCollections$List12"), (0, .methodref 96 99), (0, .nameAndType 48 31), (3, .class_ 104), (0, u "java/lang/Object"), (15, .class_ 121), (0, u "java/util/SequencedCollection"), (76, u "(Ljava/lang/Object;)Ljava/util/List;")] 52

def k11m0 : Method := { name := "size", desc := "()I", sig := { parameters := [], returnType := some .int }, accessFlags := 1025, code := none }
def k11m1 : Method := { name := "get", desc := "(I)Ljava/lang/Object;", sig := { parameters := [.int], returnType := some (.object "java/lang/Object") }, accessFlags := 1025, code := none }
def k11c2 : Code := { maxStack := 3, maxLocals := 1, code := jdk_40_method_37_code, exceptionTable := #[], attributes := #[] }
def k11m2 : Method := { name := "of", desc := "(Ljava/lang/Object;)Ljava/util/List;", sig := { parameters := [(.object "java/lang/Object")], returnType := some (.object "java/util/List") }, accessFlags := 9, code := some k11c2 }
/-- java/util/List -/
def k11 : Class := { plain "java/util/List" (some 0) with
  accessFlags := 1537
  interfaces := #[10]
  cf := some (fileOf pool11 8 #[] #[{ accessFlags := 1025, nameIndex := 79, descriptorIndex := 80, attributes := #[] }, { accessFlags := 1025, nameIndex := 75, descriptorIndex := 76, attributes := #[] }, { accessFlags := 9, nameIndex := 88, descriptorIndex := 198, attributes := #[] }] 1537 103 #[120] #[])
  fields := #[]
  methods := #[k11m0, k11m1, k11m2]
  instanceTypes := #[]
  staticTypes := #[]
  resolved := Array.replicate 251 none
  statics := none }

def pool12 : Array CpInfo := pool [(1, .methodref 2 3), (0, .class_ 4), (0, .nameAndType 5 6), (0, u "java/lang/Object"), (0, u "<init>"), (0, u "()V"), (1, .class_ 10), (1, u "java/util/AbstractCollection"), (66, .class_ 78), (0, u "java/util/Collection")] 81

def k12c0 : Code := { maxStack := 1, maxLocals := 1, code := jdk_22_method_1_code, exceptionTable := #[], attributes := #[] }
def k12m0 : Method := { name := "<init>", desc := "()V", sig := { parameters := [], returnType := none }, accessFlags := 4, code := some k12c0 }
/-- java/util/AbstractCollection -/
def k12 : Class := { plain "java/util/AbstractCollection" (some 0) with
  accessFlags := 1057
  interfaces := #[9]
  cf := some (fileOf pool12 8 #[] #[{ accessFlags := 4, nameIndex := 5, descriptorIndex := 6, attributes := #[] }] 1057 2 #[77] #[])
  fields := #[]
  methods := #[k12m0]
  instanceTypes := #[]
  staticTypes := #[]
  resolved := Array.replicate 160 none
  statics := none }

def pool13 : Array CpInfo := pool [(1, .methodref 2 3), (0, .class_ 4), (0, .nameAndType 5 6), (0, u "java/util/AbstractCollection"), (0, u "<init>"), (0, u "()V"), (1, .class_ 10), (1, u "java/util/ImmutableCollections"), (2, .class_ 14), (0, u "java/util/ImmutableCollections$AbstractImmutableCollection")] 41

def k13c0 : Code := { maxStack := 1, maxLocals := 1, code := jdk_47_method_1_code, exceptionTable := #[], attributes := #[] }
def k13m0 : Method := { name := "<init>", desc := "()V", sig := { parameters := [], returnType := none }, accessFlags := 0, code := some k13c0 }
/-- java/util/ImmutableCollections$AbstractImmutableCollection -/
def k13 : Class := { plain "java/util/ImmutableCollections$AbstractImmutableCollection" (some 12) with
  accessFlags := 1056
  interfaces := #[]
  cf := some (fileOf pool13 13 #[.nestHost 8] #[{ accessFlags := 0, nameIndex := 5, descriptorIndex := 6, attributes := #[] }] 1056 2 #[] #[])
  fields := #[]
  methods := #[k13m0]
  instanceTypes := #[]
  staticTypes := #[]
  resolved := Array.replicate 56 none
  statics := none }

def pool14 : Array CpInfo := pool [(1, .class_ 2), (0, u "java/util/RandomAccess"), (0, .class_ 4), (0, u "java/lang/Object")] 2

/-- java/util/RandomAccess -/
def k14 : Class := { plain "java/util/RandomAccess" (some 0) with
  accessFlags := 1537
  interfaces := #[]
  cf := some (fileOf pool14 1 #[] #[] 1537 3 #[] #[])
  fields := #[]
  methods := #[]
  instanceTypes := #[]
  staticTypes := #[]
  resolved := Array.replicate 7 none
  statics := none }

def pool15 : Array CpInfo := pool [(1, .methodref 2 3), (0, .class_ 4), (0, .nameAndType 5 6), (0, u "java/util/ImmutableCollections$AbstractImmutableCollection"), (0, u "<init>"), (0, u "()V"), (1, .class_ 10), (1, u "java/util/ImmutableCollections"), (3, .class_ 16), (1, u "java/util/ImmutableCollections$AbstractImmutableList"), (60, .class_ 78), (0, u "java/util/List"), (45, .class_ 125), (0, u "java/util/RandomAccess")] 70

def k15c0 : Code := { maxStack := 1, maxLocals := 1, code := jdk_46_method_1_code, exceptionTable := #[], attributes := #[] }
def k15m0 : Method := { name := "<init>", desc := "()V", sig := { parameters := [], returnType := none }, accessFlags := 0, code := some k15c0 }
/-- java/util/ImmutableCollections$AbstractImmutableList -/
def k15 : Class := { plain "java/util/ImmutableCollections$AbstractImmutableList" (some 13) with
  accessFlags := 1056
  interfaces := #[11, 14]
  cf := some (fileOf pool15 14 #[.nestHost 8] #[{ accessFlags := 0, nameIndex := 5, descriptorIndex := 6, attributes := #[] }] 1056 2 #[77, 124] #[])
  fields := #[]
  methods := #[k15m0]
  instanceTypes := #[]
  staticTypes := #[]
  resolved := Array.replicate 196 none
  statics := none }

def pool16 : Array CpInfo := pool [(1, .methodref 2 3), (0, .class_ 4), (0, .nameAndType 5 6), (0, u "java/util/ImmutableCollections$AbstractImmutableList"), (0, u "<init>"), (0, u "()V"), (0, .methodref 8 9), (0, .class_ 10), (0, .nameAndType 11 12), (0, u "java/util/Objects"), (0, u "requireNonNull"), (0, u "(Ljava/lang/Object;)Ljava/lang/Object;"), (0, .fieldref 14 15), (0, .class_ 16), (0, .nameAndType 17 18), (0, u "java/util/ImmutableCollections$List12"), (0, u "e0"), (0, u "Ljava/lang/Object;"), (0, .fieldref 20 21), (0, .class_ 22), (0, .nameAndType 23 18), (0, u "java/util/ImmutableCollections"), (0, u "EMPTY"), (0, .fieldref 14 25), (0, .nameAndType 26 18), (0, u "e1"), (24, u "size"), (0, u "()I"), (17, .class_ 71), (0, u "java/io/Serializable"), (4, u "(Ljava/lang/Object;)V"), (13, u "get"), (0, u "(I)Ljava/lang/Object;")] 33

def k16c0 : Code := { maxStack := 2, maxLocals := 2, code := jdk_44_method_1_code, exceptionTable := #[], attributes := #[] }
def k16m0 : Method := { name := "<init>", desc := "(Ljava/lang/Object;)V", sig := { parameters := [(.object "java/lang/Object")], returnType := none }, accessFlags := 0, code := some k16c0 }
def k16c1 : Code := { maxStack := 2, maxLocals := 1, code := jdk_44_method_3_code, exceptionTable := #[], attributes := #[] }
def k16m1 : Method := { name := "size", desc := "()I", sig := { parameters := [], returnType := some .int }, accessFlags := 1, code := some k16c1 }
def k16c2 : Code := { maxStack := 2, maxLocals := 2, code := jdk_44_method_5_code, exceptionTable := #[], attributes := #[] }
def k16m2 : Method := { name := "get", desc := "(I)Ljava/lang/Object;", sig := { parameters := [.int], returnType := some (.object "java/lang/Object") }, accessFlags := 1, code := some k16c2 }
/-- java/util/ImmutableCollections$List12 -/
def k16 : Class := { plain "java/util/ImmutableCollections$List12" (some 15) with
  accessFlags := 48
  interfaces := #[4]
  cf := some (fileOf pool16 14 #[.nestHost 20] #[{ accessFlags := 0, nameIndex := 5, descriptorIndex := 76, attributes := #[] }, { accessFlags := 1, nameIndex := 51, descriptorIndex := 52, attributes := #[] }, { accessFlags := 1, nameIndex := 90, descriptorIndex := 91, attributes := #[] }] 48 2 #[70] #[{ accessFlags := 18, nameIndex := 17, descriptorIndex := 18, attributes := #[] }, { accessFlags := 18, nameIndex := 26, descriptorIndex := 18, attributes := #[] }])
  fields := #[{ name := "e0", type := (.object "java/lang/Object"), accessFlags := 18, slot := 0, constantValue := 0 }, { name := "e1", type := (.object "java/lang/Object"), accessFlags := 18, slot := 1, constantValue := 0 }]
  methods := #[k16m0, k16m1, k16m2]
  instanceTypes := #[(.object "java/lang/Object"), (.object "java/lang/Object")]
  staticTypes := #[]
  resolved := Array.replicate 125 none
  statics := none }

def pool17 : Array CpInfo := pool [(2, .class_ 4), (1, u "java/lang/Object"), (0, u "<init>"), (0, u "()V"), (35, .class_ 44), (1, u "java/util/Objects"), (0, u "requireNonNull"), (0, u "(Ljava/lang/Object;)Ljava/lang/Object;")] 137

def k17m0 : Method := { name := "<init>", desc := "()V", sig := { parameters := [], returnType := none }, accessFlags := 2, code := none }
def k17c1 : Code := { maxStack := 2, maxLocals := 1, code := jdk_31_method_10_code, exceptionTable := #[], attributes := #[] }
def k17m1 : Method := { name := "requireNonNull", desc := "(Ljava/lang/Object;)Ljava/lang/Object;", sig := { parameters := [(.object "java/lang/Object")], returnType := some (.object "java/lang/Object") }, accessFlags := 9, code := some k17c1 }
/-- java/util/Objects -/
def k17 : Class := { plain "java/util/Objects" (some 0) with
  accessFlags := 49
  interfaces := #[]
  cf := some (fileOf pool17 42 #[] #[{ accessFlags := 2, nameIndex := 5, descriptorIndex := 6, attributes := #[] }, { accessFlags := 9, nameIndex := 45, descriptorIndex := 46, attributes := #[] }] 49 2 #[] #[])
  fields := #[]
  methods := #[k17m0, k17m1]
  instanceTypes := #[]
  staticTypes := #[]
  resolved := Array.replicate 184 none
  statics := none }

def pool18 : Array CpInfo := pool [(2, .class_ 4), (1, u "java/lang/Object"), (0, u "<init>"), (0, u "()V"), (3, .class_ 11), (0, u "java/util/ImmutableCollections$List12"), (0, .class_ 13), (0, u "java/util/ImmutableCollections$ListN"), (3, u "Z"), (29, .class_ 49), (1, u "java/util/ImmutableCollections"), (0, u "$assertionsDisabled"), (5, u "[Ljava/lang/Object;"), (5, u "EMPTY_LIST"), (0, u "Ljava/util/ImmutableCollections$ListN;"), (8, u "EMPTY_LIST_NULLS"), (22, u "SALT32L"), (0, u "J"), (2, u "REVERSE"), (6, u "archivedObjects"), (2, u "EMPTY"), (0, u "Ljava/lang/Object;"), (0, .class_ 112), (0, u "java/util/ImmutableCollections$SetN"), (5, u "EMPTY_SET"), (0, u "Ljava/util/ImmutableCollections$SetN;"), (0, .class_ 121), (0, u "java/util/ImmutableCollections$MapN"), (3, u "EMPTY_MAP"), (0, u "Ljava/util/ImmutableCollections$MapN;"), (4, u "EXPAND_FACTOR"), (0, u "I"), (36, .class_ 170), (0, u "java/util/ImmutableCollections$MapN$MapNIterator"), (0, .class_ 172), (0, u "java/util/ImmutableCollections$MapN$1"), (0, .class_ 174), (0, u "java/util/ImmutableCollections$Map1"), (0, .class_ 176), (0, u "java/util/ImmutableCollections$AbstractImmutableMap"), (0, .class_ 178), (0, u "java/util/ImmutableCollections$SetN$SetNIterator"), (0, .class_ 180), (0, u "java/util/ImmutableCollections$Set12"), (0, .class_ 182), (0, u "java/util/ImmutableCollections$Set12$1"), (0, .class_ 184), (0, u "java/util/ImmutableCollections$AbstractImmutableSet"), (0, .class_ 186), (0, u "java/util/ImmutableCollections$SubList"), (0, .class_ 188), (0, u "java/util/ImmutableCollections$ListItr"), (0, .class_ 190), (0, u "java/util/ImmutableCollections$AbstractImmutableList"), (0, .class_ 192), (0, u "java/util/ImmutableCollections$AbstractImmutableCollection"), (0, .class_ 194), (0, u "java/util/ImmutableCollections$Access"), (0, .class_ 196), (0, u "java/util/ImmutableCollections$Access$1")] 16

def k18m0 : Method := { name := "<init>", desc := "()V", sig := { parameters := [], returnType := none }, accessFlags := 2, code := none }
/-- java/util/ImmutableCollections -/
def k18 : Class := { plain "java/util/ImmutableCollections" (some 0) with
  accessFlags := 32
  interfaces := #[]
  cf := some (fileOf pool18 47 #[.nestMembers #[120, 169, 171, 173, 175, 111, 177, 179, 181, 183, 12, 10, 185, 187, 189, 191, 193, 195]] #[{ accessFlags := 2, nameIndex := 5, descriptorIndex := 6, attributes := #[] }] 32 2 #[] #[{ accessFlags := 26, nameIndex := 95, descriptorIndex := 96, attributes := #[] }, { accessFlags := 26, nameIndex := 99, descriptorIndex := 17, attributes := #[] }, { accessFlags := 10, nameIndex := 106, descriptorIndex := 56, attributes := #[] }, { accessFlags := 26, nameIndex := 109, descriptorIndex := 110, attributes := #[] }, { accessFlags := 24, nameIndex := 62, descriptorIndex := 63, attributes := #[] }, { accessFlags := 24, nameIndex := 72, descriptorIndex := 63, attributes := #[] }, { accessFlags := 24, nameIndex := 118, descriptorIndex := 119, attributes := #[] }, { accessFlags := 24, nameIndex := 125, descriptorIndex := 126, attributes := #[] }, { accessFlags := 24, nameIndex := 131, descriptorIndex := 132, attributes := #[] }, { accessFlags := 4120, nameIndex := 50, descriptorIndex := 17, attributes := #[] }])
  fields := #[{ name := "SALT32L", type := .long, accessFlags := 26, slot := 0, constantValue := 0 }, { name := "REVERSE", type := .boolean, accessFlags := 26, slot := 1, constantValue := 0 }, { name := "archivedObjects", type := (.array (.object "java/lang/Object")), accessFlags := 10, slot := 2, constantValue := 0 }, { name := "EMPTY", type := (.object "java/lang/Object"), accessFlags := 26, slot := 3, constantValue := 0 }, { name := "EMPTY_LIST", type := (.object "java/util/ImmutableCollections$ListN"), accessFlags := 24, slot := 4, constantValue := 0 }, { name := "EMPTY_LIST_NULLS", type := (.object "java/util/ImmutableCollections$ListN"), accessFlags := 24, slot := 5, constantValue := 0 }, { name := "EMPTY_SET", type := (.object "java/util/ImmutableCollections$SetN"), accessFlags := 24, slot := 6, constantValue := 0 }, { name := "EMPTY_MAP", type := (.object "java/util/ImmutableCollections$MapN"), accessFlags := 24, slot := 7, constantValue := 0 }, { name := "EXPAND_FACTOR", type := .int, accessFlags := 24, slot := 8, constantValue := 0 }, { name := "$assertionsDisabled", type := .boolean, accessFlags := 4120, slot := 9, constantValue := 0 }]
  methods := #[k18m0]
  instanceTypes := #[]
  staticTypes := #[.long, .boolean, (.array (.object "java/lang/Object")), (.object "java/lang/Object"), (.object "java/util/ImmutableCollections$ListN"), (.object "java/util/ImmutableCollections$ListN"), (.object "java/util/ImmutableCollections$SetN"), (.object "java/util/ImmutableCollections$MapN"), .int, .boolean]
  resolved := Array.replicate 213 none
  statics := some 1 }

def pool19 : Array CpInfo := pool [(2, .class_ 4), (1, u "java/util/ImmutableCollections$AbstractImmutableList"), (3, .class_ 10), (1, u "java/util/ImmutableCollections$ListN"), (0, u "elements"), (0, u "[Ljava/lang/Object;"), (2, u "allowNulls"), (0, u "Z"), (42, .class_ 60), (0, u "java/io/Serializable"), (53, .class_ 115), (0, u "java/util/ImmutableCollections")] 3

/-- java/util/ImmutableCollections$ListN -/
def k19 : Class := { plain "java/util/ImmutableCollections$ListN" (some 15) with
  accessFlags := 48
  interfaces := #[4]
  cf := some (fileOf pool19 8 #[.nestHost 114] #[] 48 2 #[59] #[{ accessFlags := 18, nameIndex := 11, descriptorIndex := 12, attributes := #[] }, { accessFlags := 18, nameIndex := 15, descriptorIndex := 16, attributes := #[] }])
  fields := #[{ name := "elements", type := (.array (.object "java/lang/Object")), accessFlags := 18, slot := 0, constantValue := 0 }, { name := "allowNulls", type := .boolean, accessFlags := 18, slot := 1, constantValue := 0 }]
  methods := #[]
  instanceTypes := #[(.array (.object "java/lang/Object")), .boolean]
  staticTypes := #[]
  resolved := Array.replicate 119 none
  statics := none }

def pool20 : Array CpInfo := pool [(1, u "java/lang/Cloneable"), (0, .class_ 1), (0, u "java/lang/Object"), (0, .class_ 3)] 3

/-- java/lang/Cloneable -/
def k20 : Class := { plain "java/lang/Cloneable" (some 0) with
  accessFlags := 1537
  interfaces := #[]
  cf := some (fileOf pool20 2 #[] #[] 1537 4 #[] #[])
  fields := #[]
  methods := #[]
  instanceTypes := #[]
  staticTypes := #[]
  resolved := Array.replicate 8 none
  statics := none }

/-- the primitive byte -/
def k21 : Class := { plain "byte" none with kind := .primitive 'B', accessFlags := 0x411 }
/-- [B -/
def k22 : Class := { plain "[B" (some 0) with kind := .array 21 .byte, interfaces := #[20, 4], accessFlags := 1041 }

/-- the primitive int -/
def k23 : Class := { plain "int" none with kind := .primitive 'I', accessFlags := 0x411 }
/-- [I -/
def k24 : Class := { plain "[I" (some 0) with kind := .array 23 .int, interfaces := #[20, 4], accessFlags := 1041 }

def heap : Heap := #[{ cls := 6, slots := #[.null, .null, .null, .null, .ref 2, .ref 3, .ref 4, .ref 5, .ref 6, .ref 7, .null, .null, .null, .null, .null, .null, .null, .null, .null, .null, .null], vm := .statics 6 },
  { cls := 18, slots := #[.long 0, .int 0, .null, .ref 8, .ref 9, .null, .null, .null, .int 0, .int 1], vm := .statics 18 },
  { cls := 6, slots := #[.null, .int 4, .int 0, .null, .null], vm := .none },
  { cls := 6, slots := #[.null, .int 5, .int 0, .null, .null], vm := .none },
  { cls := 6, slots := #[.null, .int 6, .int 0, .null, .null], vm := .none },
  { cls := 6, slots := #[.null, .int 7, .int 0, .null, .null], vm := .none },
  { cls := 6, slots := #[.null, .int 8, .int 0, .null, .null], vm := .none },
  { cls := 6, slots := #[.null, .int 9, .int 0, .null, .null], vm := .none },
  { cls := 0, slots := #[], vm := .none },
  { cls := 19, slots := #[.null, .int 0], vm := .none }]
def classes : Array Class := #[k0, k1, k2, k3, k4, k5, k6, k7, k8, k9, k10, k11, k12, k13, k14, k15, k16, k17, k18, k19, k20, k21, k22, k23, k24]
def interned : List (Array UInt16 × Addr) := []
def slotsUsed : Nat := 63
def theMethod : MethodId := ⟨1, 2⟩
def args0 : Array Value := #[.int 5, .int 3, .long 1, .long 2, .int 3, .int 4]
def aboutOver (below : List Frame) : State where
  vm := { classes := classes, interned := interned.toArray }
  heap := heap
  slotsUsed := slotsUsed
  threads := #[{ frames := .invoking theMethod args0 :: below }]
def below0 : List Frame := [.native { method := ⟨0, 0⟩, args := #[] }]
def about1 : State := aboutOver below0
def p0 : Program := .bare "" "" ""
def e0 : Env := launch0.env 0 0 0
theorem w_frames : about1.frames = Frame.invoking theMethod args0 :: below0 := rfl
set_option maxRecDepth 65536 in
theorem w_args : argsFit about1.vm theMethod args0 = true := by decide +kernel
set_option maxRecDepth 65536 in
theorem w_heap : heapFits about1 = true := by decide +kernel
set_option maxRecDepth 65536 in
theorem w_runnable : about1.curStatus? = some .runnable := by decide +kernel
set_option maxRecDepth 65536 in
theorem w_alone : about1.alone = true := by decide +kernel
set_option maxRecDepth 65536 in
theorem w_named : about1.methodNamed? x = some theMethod := by decide +kernel
set_option maxRecDepth 65536 in
theorem w_hears : about1.hears theMethod below0 = true := by decide +kernel
set_option maxRecDepth 65536 in
theorem w_ripe : about1.ripe theMethod args0 below0 = true := by decide +kernel
theorem w_running : about1.status = .running := rfl
set_option maxRecDepth 65536 in
theorem w_room : about1.hasRoom e0.platform room_1 = true :=
  launch0.hasRoom_least _ room_1 (by decide +kernel) (by decide +kernel) (by decide +kernel) (by decide +kernel) (by decide +kernel) (by decide +kernel)
theorem allAtoms_all (ts : List Jvm.Cond) (a : Array Jvm.Value) (st : Jvm.State) : (allAtoms ts).before a st = ts.all (fun c => c.before a st) := by
  induction ts with
  | nil => rfl
  | cons c t ih =>
    show (Jvm.Cond.and c (allAtoms t)).before a st = _
    rw [Jvm.Cond.before_and, ih, List.all_cons]
def words1 : List Jvm.Cond := Jvm.Cond.code x code maxLocals ret :: tables_1
/-- a 'code' word, met by the world's own term for the bytes: nothing is compared byte by byte -/
theorem code_word {y : MethodName} {bytes : ByteArray} {mx : Nat} {rt : Option FieldType} {a : Array Value} {s : State} {m : MethodId} {meth : Method} {c : Code} (h1 : s.methodNamed? y = some m) (h2 : s.vm.method? m = some meth) (h3 : meth.code = some c) (h4 : c.code = bytes)
    (h5 : (c.maxLocals == mx && c.exceptionTable.isEmpty && decide (c.maxStack ≤ mostOperands) && decide (meth.sig.returnType = rt) && !meth.locks && decide (parseMethodDescriptor y.desc = some meth.sig)) = true) : (Jvm.Cond.code y bytes mx rt).before a s = true := by
  simp only [Bool.and_eq_true, beq_iff_eq, Bool.not_eq_true', decide_eq_true_eq] at h5
  obtain ⟨⟨⟨⟨⟨g1, g2⟩, g3⟩, g4⟩, g5⟩, g6⟩ := h5
  simp [Cond.before, Cond.holds, Cond.value, h1, h2, h3, h4, g1, g2, g3, g4, g5, g6]
def isCode : Jvm.Cond → Bool
  | .code _ _ _ _ => true
  | _ => false
theorem all_split {L : List Jvm.Cond} {P : Jvm.Cond → Bool} (h1 : L.all (fun c => isCode c || P c) = true) (h2 : ∀ c ∈ L.filter isCode, P c = true) : L.all P = true := by
  refine List.all_eq_true.mpr fun c hc => ?_
  have h := List.all_eq_true.mp h1 c hc
  rcases Bool.eq_false_or_eq_true (isCode c) with hi | hi
  · exact h2 c (List.mem_filter.mpr ⟨hc, hi⟩)
  · simpa [hi] using h
set_option maxRecDepth 65536 in
theorem w_c0 : (Jvm.Cond.code x code maxLocals ret).before args0 about1 = true := code_word (m := ⟨1, 2⟩) (meth := k1m2) (c := k1c2) (by decide +kernel) rfl rfl rfl (by decide +kernel)
set_option maxRecDepth 65536 in
theorem w_c1 : (Jvm.Cond.code ({ cls := "com/example/hardy_cache/hardycache/server/RequestStoragePinLaw", name := "pick", desc := "(I)Lcom/example/hardy_cache/hardycache/server/Request$Command;" } : Jvm.MethodName) method_2_code (1 : Nat) (Option.some (Jvm.ClassFile.FieldType.object "com/example/hardy_cache/hardycache/server/Request$Command"))).before args0 about1 = true := code_word (m := ⟨1, 1⟩) (meth := k1m1) (c := k1c1) (by decide +kernel) rfl rfl rfl (by decide +kernel)
set_option maxRecDepth 65536 in
theorem w_c2 : (Jvm.Cond.code ({ cls := "com/example/hardy_cache/hardycache/server/Request", name := "storage", desc := "(Lcom/example/hardy_cache/hardycache/server/Request$Command;[BIJ[BJZ)Lcom/example/hardy_cache/hardycache/server/Request;" } : Jvm.MethodName) prog_11_method_3_code (9 : Nat) (Option.some (Jvm.ClassFile.FieldType.object "com/example/hardy_cache/hardycache/server/Request"))).before args0 about1 = true := code_word (m := ⟨7, 1⟩) (meth := k7m1) (c := k7c1) (by decide +kernel) rfl rfl rfl (by decide +kernel)
set_option maxRecDepth 65536 in
theorem w_c3 : (Jvm.Cond.code ({ cls := "java/util/List", name := "of", desc := "(Ljava/lang/Object;)Ljava/util/List;" } : Jvm.MethodName) jdk_40_method_37_code (1 : Nat) (Option.some (Jvm.ClassFile.FieldType.object "java/util/List"))).before args0 about1 = true := code_word (m := ⟨11, 2⟩) (meth := k11m2) (c := k11c2) (by decide +kernel) rfl rfl rfl (by decide +kernel)
set_option maxRecDepth 65536 in
theorem w_c4 : (Jvm.Cond.code ({ cls := "java/util/ImmutableCollections$List12", name := "<init>", desc := "(Ljava/lang/Object;)V" } : Jvm.MethodName) jdk_44_method_1_code (2 : Nat) (Option.none : Option Jvm.ClassFile.FieldType)).before args0 about1 = true := code_word (m := ⟨16, 0⟩) (meth := k16m0) (c := k16c0) (by decide +kernel) rfl rfl rfl (by decide +kernel)
set_option maxRecDepth 65536 in
theorem w_c5 : (Jvm.Cond.code ({ cls := "java/util/ImmutableCollections$AbstractImmutableList", name := "<init>", desc := "()V" } : Jvm.MethodName) jdk_46_method_1_code (1 : Nat) (Option.none : Option Jvm.ClassFile.FieldType)).before args0 about1 = true := code_word (m := ⟨15, 0⟩) (meth := k15m0) (c := k15c0) (by decide +kernel) rfl rfl rfl (by decide +kernel)
set_option maxRecDepth 65536 in
theorem w_c6 : (Jvm.Cond.code ({ cls := "java/util/ImmutableCollections$AbstractImmutableCollection", name := "<init>", desc := "()V" } : Jvm.MethodName) jdk_47_method_1_code (1 : Nat) (Option.none : Option Jvm.ClassFile.FieldType)).before args0 about1 = true := code_word (m := ⟨13, 0⟩) (meth := k13m0) (c := k13c0) (by decide +kernel) rfl rfl rfl (by decide +kernel)
set_option maxRecDepth 65536 in
theorem w_c7 : (Jvm.Cond.code ({ cls := "java/util/AbstractCollection", name := "<init>", desc := "()V" } : Jvm.MethodName) jdk_22_method_1_code (1 : Nat) (Option.none : Option Jvm.ClassFile.FieldType)).before args0 about1 = true := code_word (m := ⟨12, 0⟩) (meth := k12m0) (c := k12c0) (by decide +kernel) rfl rfl rfl (by decide +kernel)
set_option maxRecDepth 65536 in
theorem w_c8 : (Jvm.Cond.code ({ cls := "java/lang/Object", name := "<init>", desc := "()V" } : Jvm.MethodName) object_method_1_code (1 : Nat) (Option.none : Option Jvm.ClassFile.FieldType)).before args0 about1 = true := code_word (m := ⟨0, 0⟩) (meth := k0m0) (c := k0c0) (by decide +kernel) rfl rfl rfl (by decide +kernel)
set_option maxRecDepth 65536 in
theorem w_c9 : (Jvm.Cond.code ({ cls := "java/util/Objects", name := "requireNonNull", desc := "(Ljava/lang/Object;)Ljava/lang/Object;" } : Jvm.MethodName) jdk_31_method_10_code (1 : Nat) (Option.some (Jvm.ClassFile.FieldType.object "java/lang/Object"))).before args0 about1 = true := code_word (m := ⟨17, 1⟩) (meth := k17m1) (c := k17c1) (by decide +kernel) rfl rfl rfl (by decide +kernel)
set_option maxRecDepth 65536 in
theorem w_c10 : (Jvm.Cond.code ({ cls := "com/example/hardy_cache/hardycache/server/Request", name := "<init>", desc := "(Lcom/example/hardy_cache/hardycache/server/Request$Command;Ljava/util/List;IJ[BJJZLjava/lang/String;)V" } : Jvm.MethodName) prog_11_method_1_code (13 : Nat) (Option.none : Option Jvm.ClassFile.FieldType)).before args0 about1 = true := code_word (m := ⟨7, 0⟩) (meth := k7m0) (c := k7c0) (by decide +kernel) rfl rfl rfl (by decide +kernel)
set_option maxRecDepth 65536 in
theorem w_c11 : (Jvm.Cond.code ({ cls := "com/example/hardy_cache/hardycache/server/Request", name := "getCommand", desc := "()Lcom/example/hardy_cache/hardycache/server/Request$Command;" } : Jvm.MethodName) prog_11_method_10_code (1 : Nat) (Option.some (Jvm.ClassFile.FieldType.object "com/example/hardy_cache/hardycache/server/Request$Command"))).before args0 about1 = true := code_word (m := ⟨7, 2⟩) (meth := k7m2) (c := k7c2) (by decide +kernel) rfl rfl rfl (by decide +kernel)
set_option maxRecDepth 65536 in
theorem w_c12 : (Jvm.Cond.code ({ cls := "com/example/hardy_cache/hardycache/server/Request", name := "getKeys", desc := "()Ljava/util/List;" } : Jvm.MethodName) prog_11_method_11_code (1 : Nat) (Option.some (Jvm.ClassFile.FieldType.object "java/util/List"))).before args0 about1 = true := code_word (m := ⟨7, 3⟩) (meth := k7m3) (c := k7c3) (by decide +kernel) rfl rfl rfl (by decide +kernel)
set_option maxRecDepth 65536 in
theorem w_c13 : (Jvm.Cond.code ({ cls := "java/util/ImmutableCollections$List12", name := "size", desc := "()I" } : Jvm.MethodName) jdk_44_method_3_code (1 : Nat) (Option.some Jvm.ClassFile.FieldType.int)).before args0 about1 = true := code_word (m := ⟨16, 1⟩) (meth := k16m1) (c := k16c1) (by decide +kernel) rfl rfl rfl (by decide +kernel)
set_option maxRecDepth 65536 in
theorem w_c14 : (Jvm.Cond.code ({ cls := "com/example/hardy_cache/hardycache/server/Request", name := "getKey", desc := "()[B" } : Jvm.MethodName) prog_11_method_12_code (1 : Nat) (Option.some (Jvm.ClassFile.FieldType.array Jvm.ClassFile.FieldType.byte))).before args0 about1 = true := code_word (m := ⟨7, 4⟩) (meth := k7m4) (c := k7c4) (by decide +kernel) rfl rfl rfl (by decide +kernel)
set_option maxRecDepth 65536 in
theorem w_c15 : (Jvm.Cond.code ({ cls := "java/util/ImmutableCollections$List12", name := "get", desc := "(I)Ljava/lang/Object;" } : Jvm.MethodName) jdk_44_method_5_code (2 : Nat) (Option.some (Jvm.ClassFile.FieldType.object "java/lang/Object"))).before args0 about1 = true := code_word (m := ⟨16, 2⟩) (meth := k16m2) (c := k16c2) (by decide +kernel) rfl rfl rfl (by decide +kernel)
set_option maxRecDepth 65536 in
theorem w_c16 : (Jvm.Cond.code ({ cls := "com/example/hardy_cache/hardycache/server/Request", name := "getFlags", desc := "()I" } : Jvm.MethodName) prog_11_method_14_code (1 : Nat) (Option.some Jvm.ClassFile.FieldType.int)).before args0 about1 = true := code_word (m := ⟨7, 5⟩) (meth := k7m5) (c := k7c5) (by decide +kernel) rfl rfl rfl (by decide +kernel)
set_option maxRecDepth 65536 in
theorem w_c17 : (Jvm.Cond.code ({ cls := "com/example/hardy_cache/hardycache/server/Request", name := "getExptime", desc := "()J" } : Jvm.MethodName) prog_11_method_15_code (1 : Nat) (Option.some Jvm.ClassFile.FieldType.long)).before args0 about1 = true := code_word (m := ⟨7, 6⟩) (meth := k7m6) (c := k7c6) (by decide +kernel) rfl rfl rfl (by decide +kernel)
set_option maxRecDepth 65536 in
theorem w_c18 : (Jvm.Cond.code ({ cls := "com/example/hardy_cache/hardycache/server/Request", name := "getValue", desc := "()[B" } : Jvm.MethodName) prog_11_method_16_code (1 : Nat) (Option.some (Jvm.ClassFile.FieldType.array Jvm.ClassFile.FieldType.byte))).before args0 about1 = true := code_word (m := ⟨7, 7⟩) (meth := k7m7) (c := k7c7) (by decide +kernel) rfl rfl rfl (by decide +kernel)
set_option maxRecDepth 65536 in
theorem w_c19 : (Jvm.Cond.code ({ cls := "com/example/hardy_cache/hardycache/server/Request", name := "isNoreply", desc := "()Z" } : Jvm.MethodName) prog_11_method_19_code (1 : Nat) (Option.some Jvm.ClassFile.FieldType.boolean)).before args0 about1 = true := code_word (m := ⟨7, 9⟩) (meth := k7m9) (c := k7c9) (by decide +kernel) rfl rfl rfl (by decide +kernel)
set_option maxRecDepth 65536 in
theorem w_c20 : (Jvm.Cond.code ({ cls := "com/example/hardy_cache/hardycache/server/Request", name := "getCasUnique", desc := "()J" } : Jvm.MethodName) prog_11_method_17_code (1 : Nat) (Option.some Jvm.ClassFile.FieldType.long)).before args0 about1 = true := code_word (m := ⟨7, 8⟩) (meth := k7m8) (c := k7c8) (by decide +kernel) rfl rfl rfl (by decide +kernel)
def codes1 : List Jvm.Cond := [Jvm.Cond.code x code maxLocals ret, Jvm.Cond.code ({ cls := "com/example/hardy_cache/hardycache/server/RequestStoragePinLaw", name := "pick", desc := "(I)Lcom/example/hardy_cache/hardycache/server/Request$Command;" } : Jvm.MethodName) method_2_code (1 : Nat) (Option.some (Jvm.ClassFile.FieldType.object "com/example/hardy_cache/hardycache/server/Request$Command")), Jvm.Cond.code ({ cls := "com/example/hardy_cache/hardycache/server/Request", name := "storage", desc := "(Lcom/example/hardy_cache/hardycache/server/Request$Command;[BIJ[BJZ)Lcom/example/hardy_cache/hardycache/server/Request;" } : Jvm.MethodName) prog_11_method_3_code (9 : Nat) (Option.some (Jvm.ClassFile.FieldType.object "com/example/hardy_cache/hardycache/server/Request")), Jvm.Cond.code ({ cls := "java/util/List", name := "of", desc := "(Ljava/lang/Object;)Ljava/util/List;" } : Jvm.MethodName) jdk_40_method_37_code (1 : Nat) (Option.some (Jvm.ClassFile.FieldType.object "java/util/List")), Jvm.Cond.code ({ cls := "java/util/ImmutableCollections$List12", name := "<init>", desc := "(Ljava/lang/Object;)V" } : Jvm.MethodName) jdk_44_method_1_code (2 : Nat) (Option.none : Option Jvm.ClassFile.FieldType), Jvm.Cond.code ({ cls := "java/util/ImmutableCollections$AbstractImmutableList", name := "<init>", desc := "()V" } : Jvm.MethodName) jdk_46_method_1_code (1 : Nat) (Option.none : Option Jvm.ClassFile.FieldType), Jvm.Cond.code ({ cls := "java/util/ImmutableCollections$AbstractImmutableCollection", name := "<init>", desc := "()V" } : Jvm.MethodName) jdk_47_method_1_code (1 : Nat) (Option.none : Option Jvm.ClassFile.FieldType), Jvm.Cond.code ({ cls := "java/util/AbstractCollection", name := "<init>", desc := "()V" } : Jvm.MethodName) jdk_22_method_1_code (1 : Nat) (Option.none : Option Jvm.ClassFile.FieldType), Jvm.Cond.code ({ cls := "java/lang/Object", name := "<init>", desc := "()V" } : Jvm.MethodName) object_method_1_code (1 : Nat) (Option.none : Option Jvm.ClassFile.FieldType), Jvm.Cond.code ({ cls := "java/util/Objects", name := "requireNonNull", desc := "(Ljava/lang/Object;)Ljava/lang/Object;" } : Jvm.MethodName) jdk_31_method_10_code (1 : Nat) (Option.some (Jvm.ClassFile.FieldType.object "java/lang/Object")), Jvm.Cond.code ({ cls := "com/example/hardy_cache/hardycache/server/Request", name := "<init>", desc := "(Lcom/example/hardy_cache/hardycache/server/Request$Command;Ljava/util/List;IJ[BJJZLjava/lang/String;)V" } : Jvm.MethodName) prog_11_method_1_code (13 : Nat) (Option.none : Option Jvm.ClassFile.FieldType), Jvm.Cond.code ({ cls := "com/example/hardy_cache/hardycache/server/Request", name := "getCommand", desc := "()Lcom/example/hardy_cache/hardycache/server/Request$Command;" } : Jvm.MethodName) prog_11_method_10_code (1 : Nat) (Option.some (Jvm.ClassFile.FieldType.object "com/example/hardy_cache/hardycache/server/Request$Command")), Jvm.Cond.code ({ cls := "com/example/hardy_cache/hardycache/server/Request", name := "getKeys", desc := "()Ljava/util/List;" } : Jvm.MethodName) prog_11_method_11_code (1 : Nat) (Option.some (Jvm.ClassFile.FieldType.object "java/util/List")), Jvm.Cond.code ({ cls := "java/util/ImmutableCollections$List12", name := "size", desc := "()I" } : Jvm.MethodName) jdk_44_method_3_code (1 : Nat) (Option.some Jvm.ClassFile.FieldType.int), Jvm.Cond.code ({ cls := "com/example/hardy_cache/hardycache/server/Request", name := "getKey", desc := "()[B" } : Jvm.MethodName) prog_11_method_12_code (1 : Nat) (Option.some (Jvm.ClassFile.FieldType.array Jvm.ClassFile.FieldType.byte)), Jvm.Cond.code ({ cls := "java/util/ImmutableCollections$List12", name := "get", desc := "(I)Ljava/lang/Object;" } : Jvm.MethodName) jdk_44_method_5_code (2 : Nat) (Option.some (Jvm.ClassFile.FieldType.object "java/lang/Object")), Jvm.Cond.code ({ cls := "com/example/hardy_cache/hardycache/server/Request", name := "getFlags", desc := "()I" } : Jvm.MethodName) prog_11_method_14_code (1 : Nat) (Option.some Jvm.ClassFile.FieldType.int), Jvm.Cond.code ({ cls := "com/example/hardy_cache/hardycache/server/Request", name := "getExptime", desc := "()J" } : Jvm.MethodName) prog_11_method_15_code (1 : Nat) (Option.some Jvm.ClassFile.FieldType.long), Jvm.Cond.code ({ cls := "com/example/hardy_cache/hardycache/server/Request", name := "getValue", desc := "()[B" } : Jvm.MethodName) prog_11_method_16_code (1 : Nat) (Option.some (Jvm.ClassFile.FieldType.array Jvm.ClassFile.FieldType.byte)), Jvm.Cond.code ({ cls := "com/example/hardy_cache/hardycache/server/Request", name := "isNoreply", desc := "()Z" } : Jvm.MethodName) prog_11_method_19_code (1 : Nat) (Option.some Jvm.ClassFile.FieldType.boolean), Jvm.Cond.code ({ cls := "com/example/hardy_cache/hardycache/server/Request", name := "getCasUnique", desc := "()J" } : Jvm.MethodName) prog_11_method_17_code (1 : Nat) (Option.some Jvm.ClassFile.FieldType.long)]
set_option maxRecDepth 65536 in
theorem codes_eq : words1.filter isCode = codes1 := rfl
theorem w_codes : ∀ c ∈ words1.filter isCode, c.before args0 about1 = true := by
  rw [codes_eq]
  intro c hc
  simp only [codes1, List.mem_cons, List.not_mem_nil, or_false] at hc
  rcases hc with rfl | rfl | rfl | rfl | rfl | rfl | rfl | rfl | rfl | rfl | rfl | rfl | rfl | rfl | rfl | rfl | rfl | rfl | rfl | rfl | rfl
  · exact w_c0
  · exact w_c1
  · exact w_c2
  · exact w_c3
  · exact w_c4
  · exact w_c5
  · exact w_c6
  · exact w_c7
  · exact w_c8
  · exact w_c9
  · exact w_c10
  · exact w_c11
  · exact w_c12
  · exact w_c13
  · exact w_c14
  · exact w_c15
  · exact w_c16
  · exact w_c17
  · exact w_c18
  · exact w_c19
  · exact w_c20
set_option maxRecDepth 65536 in
theorem w_t1 : (words1.take 24).all (fun c => isCode c || c.before args0 about1) = true := by decide +kernel
set_option maxRecDepth 65536 in
theorem w_t2 : ((words1.drop 24).take 24).all (fun c => isCode c || c.before args0 about1) = true := by decide +kernel
set_option maxRecDepth 65536 in
theorem w_t3 : (((words1.drop 24).drop 24).take 24).all (fun c => isCode c || c.before args0 about1) = true := by decide +kernel
set_option maxRecDepth 65536 in
theorem w_t4 : ((((words1.drop 24).drop 24).drop 24).take 24).all (fun c => isCode c || c.before args0 about1) = true := by decide +kernel
set_option maxRecDepth 65536 in
theorem w_t5 : (((((words1.drop 24).drop 24).drop 24).drop 24).take 24).all (fun c => isCode c || c.before args0 about1) = true := by decide +kernel
set_option maxRecDepth 65536 in
theorem w_t6 : ((((((words1.drop 24).drop 24).drop 24).drop 24).drop 24).take 24).all (fun c => isCode c || c.before args0 about1) = true := by decide +kernel
set_option maxRecDepth 65536 in
theorem w_t7 : ((((((words1.drop 24).drop 24).drop 24).drop 24).drop 24).drop 24).all (fun c => isCode c || c.before args0 about1) = true := by decide +kernel
theorem w_tables : (allAtoms (Jvm.Cond.code x code maxLocals ret :: tables_1)).before args0 about1 = true := by
  rw [allAtoms_all]
  show words1.all (fun c => c.before args0 about1) = true
  refine all_split ?_ w_codes
  rw [← List.take_append_drop 24 words1, List.all_append, w_t1, ← List.take_append_drop 24 (words1.drop 24), List.all_append, w_t2, ← List.take_append_drop 24 ((words1.drop 24).drop 24), List.all_append, w_t3, ← List.take_append_drop 24 (((words1.drop 24).drop 24).drop 24), List.all_append, w_t4, ← List.take_append_drop 24 ((((words1.drop 24).drop 24).drop 24).drop 24), List.all_append, w_t5, ← List.take_append_drop 24 (((((words1.drop 24).drop 24).drop 24).drop 24).drop 24), List.all_append, w_t6, w_t7]
  rfl
set_option maxRecDepth 65536 in
theorem w_rest : rest_1_c.before args0 about1 = true := by decide +kernel
set_option maxRecDepth 65536 in
theorem w_case : (Jvm.Cond.and given_1 narrow_1).before args0 about1 = true := by decide +kernel
theorem w_applies : (headSpec (Jvm.Cond.code x code maxLocals ret :: tables_1) room_1).applies x e0.platform about1 = true :=
  (Spec.applies_iff w_frames).mpr ⟨w_running, w_runnable, w_alone, w_named, w_hears, w_ripe, w_room, w_tables⟩
theorem atStart : AtStart classFile x code maxLocals ret World_1 tables_1 room_1 Calls_1 rest_1 Pre_1 launch0 p0 e0 about1 theMethod args0 below0 :=
  ⟨lists_1, trivial, launch0.admits_env _ _ _, launch0.least_env, fairChoices_fair.cas, fairChoices_fair.clock, w_frames, w_args, w_heap, w_applies, trivial, w_rest, w_case⟩
end start1
theorem witness_1 : WitnessClaimed_1 := ⟨start1.p0, start1.e0, start1.about1, start1.theMethod, start1.args0, start1.below0, start1.atStart⟩
end Jvm.Pilot.@@N@@
