import JvmDerived
import JvmDerived.Pilot.@@N@@Statement
import JvmDerived.Pilot.@@N@@Code
set_option linter.unusedVariables false
set_option linter.unusedSimpArgs false
namespace Jvm.RoadKit
open Sem ClassFile Op Lib Jvm.Stand Jvm.Free Jvm.LawKit
section New
variable {p : Program} {l : Launch} {e : Env} {R : Room} {s : State} {m : MethodId} {args : Array Value} {below : List Frame} {meth : Method} {c : Code} {T : State} {locs : List Loc} {cells slots : Nat}
theorem retI (X : Stand p l e R s m args below meth c T locs cells slots) (hx : p.tables.exec = Jvm.exec) {pc : Nat} {Ls : Array Slot} {z : Int32} {rest : List Value} (hret : meth.sig.returnType = some .int) (hd : decode c.code pc = .ok (.ireturn, 1)) {fs : List Frame}
    (hl : ∀ (f : JFrame) (acts : List Action), f.method = m → f.locked = none → f.entered = [] → (doReturn e (T.setTop f) acts (some (.int z))).1 = T.setFrames fs) : Steps p.tables e below (T.setTop (mkF m pc Ls (.int z :: rest))) (T.setFrames fs) := by
  have hm' : T.vm.method? m = some meth := X.method'
  have hn : narrow .int (.int z) = .int z := rfl
  show Steps p.tables e below (T.setTop { method := m, pc := pc, locals := Ls, stack := _ :: rest, locked := none }) _
  jvm_step X.here [X.here.top, hx, hd, hm', hret, hn]
  first | (intro acts; rw [hl _ acts rfl rfl rfl]) | rw [hl _ _ rfl rfl rfl]
  exact Steps.refl _
end New
end Jvm.RoadKit
namespace Jvm.Pilot.@@N@@
open Jvm Jvm.ClassFile Sem Op Lib Jvm.Free Jvm.Stand Jvm.LawKit Jvm.RoadKit Bundle Jvm.Pilot.@@N@@.Jvm.D
def own_vals (xs : List Nat) : List Value := xs.map fun n => Value.int (Int32.ofNat n)
/-- an index set c of closed places, and a table of pointers that skip closed places alone -/
def own_Inv (c : Nat → Prop) (xs : List Nat) : Prop := xs.length = 6 ∧ ∀ i, i < 6 → i ≤ xs.getD i 0 ∧ xs.getD i 0 ≤ 5 ∧ (xs.getD i 0 = i ↔ ¬ c i) ∧ ∀ j, i ≤ j → j < xs.getD i 0 → c j
def own_FO (c : Nat → Prop) (i r : Nat) : Prop := i ≤ r ∧ r ≤ 5 ∧ ¬ c r ∧ ∀ j, i ≤ j → j < r → c j
def own_cl (b : Prop) (k : Nat) (c : Nat → Prop) : Nat → Prop := fun j => c j ∨ (b ∧ j = k)
def own_cm (m : Int32) (c : Nat → Prop) : Nat → Prop := own_cl (¬ (m &&& (16 : Int32)) = (0 : Int32)) 4 (own_cl (¬ (m &&& (8 : Int32)) = (0 : Int32)) 3 (own_cl (¬ (m &&& (4 : Int32)) = (0 : Int32)) 2 (own_cl (¬ (m &&& (2 : Int32)) = (0 : Int32)) 1 (own_cl (¬ (m &&& (1 : Int32)) = (0 : Int32)) 0 c))))
theorem own_get (xs : List Nat) (i : Nat) : (own_vals xs).getD i (.int 0) = .int (Int32.ofNat (xs.getD i 0)) := by
  simp only [own_vals, List.getD_eq_getElem?_getD, List.getElem?_map]
  cases xs[i]? <;> rfl
theorem own_vset (xs : List Nat) (i y : Nat) : (own_vals xs).set i (.int (Int32.ofNat y)) = own_vals (xs.set i y) := by simp only [own_vals, List.map_set]
theorem own_len (xs : List Nat) : (own_vals xs).length = xs.length := by simp [own_vals]
theorem own_setV {Z : State} {h : Heap} {a : Addr} {k : ClassId} {xs : List Nat} {i y : Nat} {v : Int32} (hv : v = Int32.ofNat y) (F : Arv Z h a k .int 6 ((own_vals xs).set i (.int v)) (.int 0)) : Arv Z h a k .int 6 (own_vals (xs.set i y)) (.int 0) := by
  subst hv; rw [← own_vset]; exact F
theorem own_tn : ∀ i, i < 6 → (Int32.ofNat i).toNatClampNeg = i := by decide
theorem own_nn : ∀ i, i < 6 → ¬ Int32.ofNat i < 0 := by decide
theorem own_inj : ∀ i, i < 6 → ∀ j, j < 6 → Int32.ofNat i = Int32.ofNat j → i = j := by decide
theorem own_ltI : ∀ i, i < 6 → ∀ j, j < 6 → (Int32.ofNat i < Int32.ofNat j ↔ i < j) := by decide
theorem own_succ : ∀ i, i < 6 → Int32.ofNat i + (1 : Int32) = Int32.ofNat (i + 1) := by decide
theorem own_in {c : Cell} {i : Nat} (S : c.slots.size = (6 : Int32).toNatClampNeg) (h : i < 6) : ¬ (Int32.ofNat i < 0 ∨ c.slots.size ≤ (Int32.ofNat i).toNatClampNeg) := by
  rw [S, own_tn i h]
  have e : (6 : Int32).toNatClampNeg = 6 := by decide
  rw [e]
  exact fun q => q.elim (own_nn i h) (by omega)
theorem own_at {c : Cell} {xs : List Nat} {i : Nat} (H : Has c (own_vals xs) (.int 0)) (S : c.slots.size = (6 : Int32).toNatClampNeg) (h : i < 6) : c.slots[(Int32.ofNat i).toNatClampNeg]? = some (.int (Int32.ofNat (xs.getD i 0))) := Has.at H (own_in S h) (by rw [own_tn i h, own_get])
theorem own_getset (xs : List Nat) (k y i : Nat) (hk : k < xs.length) : (xs.set k y).getD i 0 = if k = i then y else xs.getD i 0 := by
  simp only [List.getD_eq_getElem?_getD, List.getElem?_set]
  by_cases e : k = i
  · subst e; simp [hk]
  · simp [e]
theorem own_Inv_congr {c c' : Nat → Prop} {xs : List Nat} (h : ∀ j, c j ↔ c' j) (I : own_Inv c xs) : own_Inv c' xs := by
  have : c = c' := funext fun j => propext (h j)
  exact this ▸ I
theorem own_Inv_set {c : Nat → Prop} {xs : List Nat} (I : own_Inv c xs) {k r : Nat} (hk : k < r) (hr : r ≤ 5) (hc : ∀ j, k ≤ j → j < r → c j) : own_Inv c (xs.set k r) := by
  refine ⟨by rw [List.length_set]; exact I.1, fun i hi => ?_⟩
  rw [own_getset xs k r i (by rw [I.1]; omega)]
  by_cases e : k = i
  · subst e
    rw [if_pos rfl]
    exact ⟨by omega, hr, ⟨fun q => by omega, fun q => absurd (hc k (Nat.le_refl _) hk) q⟩, hc⟩
  · rw [if_neg e]; exact I.2 i hi
theorem own_Inv_close {c : Nat → Prop} {xs : List Nat} (I : own_Inv c xs) {k : Nat} (hk : k < 5) : own_Inv (fun j => c j ∨ j = k) (xs.set k (k + 1)) := by
  refine ⟨by rw [List.length_set]; exact I.1, fun i hi => ?_⟩
  rw [own_getset xs k (k + 1) i (by rw [I.1]; omega)]
  by_cases e : k = i
  · subst e
    rw [if_pos rfl]
    exact ⟨by omega, by omega, ⟨fun q => by omega, fun q => absurd (Or.inr rfl) q⟩, fun j h1 h2 => Or.inr (by omega)⟩
  · rw [if_neg e]
    obtain ⟨a1, a2, a3, a4⟩ := I.2 i hi
    refine ⟨a1, a2, a3.trans ⟨fun q z => z.elim q (fun w => e w.symm), fun q z => q (Or.inl z)⟩, fun j h1 h2 => Or.inl (a4 j h1 h2)⟩
theorem own_cl_no {b : Prop} {k : Nat} {c : Nat → Prop} {xs : List Nat} (h : ¬ b) (I : own_Inv c xs) : own_Inv (own_cl b k c) xs := own_Inv_congr (fun j => ⟨Or.inl, fun z => z.elim id fun w => absurd w.1 h⟩) I
theorem own_cl_yes {b : Prop} {k : Nat} {c : Nat → Prop} {xs : List Nat} (h : b) (I : own_Inv (fun j => c j ∨ j = k) xs) : own_Inv (own_cl b k c) xs := own_Inv_congr (fun j => ⟨fun z => z.elim Or.inl fun w => Or.inr ⟨h, w⟩, fun z => z.elim Or.inl fun w => Or.inr w.2⟩) I
theorem own_FO_uniq {c : Nat → Prop} {i r r' : Nat} (h : own_FO c i r) (h' : own_FO c i r') : r = r' := by
  obtain ⟨a1, a2, a3, a4⟩ := h
  obtain ⟨b1, b2, b3, b4⟩ := h'
  rcases Nat.lt_trichotomy r r' with q | q | q
  · exact absurd (b4 r a1 q) a3
  · exact q
  · exact absurd (a4 r' b1 q) b3
theorem own_start : own_Inv (fun _ => False) [0, 1, 2, 3, 4, 5] := by
  refine ⟨rfl, fun i hi => ?_⟩
  have e : [0, 1, 2, 3, 4, 5].getD i 0 = i := by
    revert i; decide
  rw [e]
  exact ⟨Nat.le_refl _, by omega, ⟨fun _ => id, fun _ => rfl⟩, fun j h1 h2 => absurd h2 (by omega)⟩
theorem own_ix (a : Int32) : ∃ i, i < 6 ∧ (a &&& (2147483647 : Int32)) % (6 : Int32) = Int32.ofNat i := by
  have m := c_mask a 2147483647 31 (by decide) (by decide)
  have q := (c_irem (a &&& 2147483647) 6 6 (by decide)).1 (by omega)
  refine ⟨((a &&& 2147483647) % 6).toInt.toNat, by omega, Int32.toInt_inj.mp ?_⟩
  rw [Int32.toInt_ofNat_small (by omega)]
  omega
theorem own_or (f s k : Int32) : ((f ||| s) &&& k) = 0 ↔ (f &&& k) = 0 ∧ (s &&& k) = 0 := by
  have e : (f ||| s) &&& k = (f &&& k) ||| (s &&& k) := by
    apply Int32.toBitVec_inj.mp
    show (f.toBitVec ||| s.toBitVec) &&& k.toBitVec = (f.toBitVec &&& k.toBitVec) ||| (s.toBitVec &&& k.toBitVec)
    apply BitVec.eq_of_getLsbD_eq
    intro i hi
    simp only [BitVec.getLsbD_and, BitVec.getLsbD_or, Bool.and_or_distrib_right]
  rw [e]
  constructor
  · intro h
    have h' : (f &&& k).toBitVec ||| (s &&& k).toBitVec = 0#32 := congrArg Int32.toBitVec h
    rw [BitVec.or_eq_zero_iff] at h'
    exact ⟨Int32.toBitVec_inj.mp h'.1, Int32.toBitVec_inj.mp h'.2⟩
  · rintro ⟨h1, h2⟩; rw [h1, h2]; rfl
theorem own_cm_or (f s : Int32) (j : Nat) : own_cm s (own_cm f fun _ => False) j ↔ own_cm (f ||| s) (fun _ => False) j := by
  simp only [own_cm, own_cl, own_or]

  by_cases a1 : (f &&& (1 : Int32)) = (0 : Int32) <;> by_cases a2 : (f &&& (2 : Int32)) = (0 : Int32) <;> by_cases a3 : (f &&& (4 : Int32)) = (0 : Int32) <;> by_cases a4 : (f &&& (8 : Int32)) = (0 : Int32) <;> by_cases a5 : (f &&& (16 : Int32)) = (0 : Int32) <;> simp only [a1, a2, a3, a4, a5, not_true_eq_false, not_false_eq_true, true_and, false_and, and_false, or_false, false_or, and_true] <;> grind
theorem own_FO_or {f s : Int32} {i r : Nat} (h : own_FO (own_cm s (own_cm f fun _ => False)) i r) : own_FO (own_cm (f ||| s) fun _ => False) i r := by
  have e : own_cm s (own_cm f fun _ => False) = own_cm (f ||| s) fun _ => False := funext fun j => propext (own_cm_or f s j)
  exact e ▸ h
theorem own_fo {m : Int32} {i k : Nat} (hi : i ≤ k) (hk : k ≤ 5) (hc : ¬ own_cm m (fun _ => False) k) (h : ∀ j, j < k → j < i ∨ own_cm m (fun _ => False) j) : own_FO (own_cm m fun _ => False) i k := ⟨hi, hk, hc, fun j h1 h2 => (h j h2).elim (fun q => absurd q (by omega)) id⟩
theorem ef_init (m : MethodId) (x0 : Addr) (x1 : Int32) : entryFrame m #[(.ref x0), (.int x1)] 3 = mkF m 0 #[.val (.ref x0), .val (.int x1), .unset] [] := by first | (simp [entryFrame, mkF, argsToLocals, Value.category]; done) | rfl
def Q_init (Z : State) (a1 : Addr) (h0 : Heap) (n0 : Nat) (v : Option Value) (h : Heap) (L : List Loc) : Prop := v = none ∧ Fr n0 L ∧ ∃ (t1 : Addr) (k1 : ClassId), h0.size ≤ t1 ∧ Keep h0 h [a1] ∧ Exa Z h a1 "com/example/slackline/slackline/solvers/OpenIndices" ∧ Fld Z h a1 "com/example/slackline/slackline/solvers/OpenIndices" "onward" "[I" (.ref t1) ∧ Arv Z h t1 k1 .int 6 (own_vals [0, 1, 2, 3, 4, 5]) (.int 0)
theorem pn_0 : plainName "com/example/slackline/slackline/solvers/OpenIndices" = true := by first | (simp [plainName, overriddenIn]; done) | decide +kernel
theorem d1_0 : decode prog_15_method_1_code 0 = .ok (.aload_n 0, 1) := by decide +kernel
theorem d1_1 : decode prog_15_method_1_code 1 = .ok (.invokespecial 1, 3) := by decide +kernel
theorem d1_4 : decode prog_15_method_1_code 4 = .ok (.aload_n 0, 1) := by decide +kernel
theorem d1_5 : decode prog_15_method_1_code 5 = .ok (.iload_n 1, 1) := by decide +kernel
theorem d1_6 : decode prog_15_method_1_code 6 = .ok (.iconst 1, 1) := by decide +kernel
theorem d1_7 : decode prog_15_method_1_code 7 = .ok (.iadd, 1) := by decide +kernel
theorem d1_8 : decode prog_15_method_1_code 8 = .ok (.newarray .int, 2) := by decide +kernel
theorem d1_10 : decode prog_15_method_1_code 10 = .ok (.putfield 7, 3) := by decide +kernel
theorem d1_13 : decode prog_15_method_1_code 13 = .ok (.iconst 0, 1) := by decide +kernel
theorem d1_14 : decode prog_15_method_1_code 14 = .ok (.istore_n 2, 1) := by decide +kernel
theorem d1_15 : decode prog_15_method_1_code 15 = .ok (.iload_n 2, 1) := by decide +kernel
theorem d1_16 : decode prog_15_method_1_code 16 = .ok (.aload_n 0, 1) := by decide +kernel
theorem d1_17 : decode prog_15_method_1_code 17 = .ok (.getfield 7, 3) := by decide +kernel
theorem d1_20 : decode prog_15_method_1_code 20 = .ok (.arraylength, 1) := by decide +kernel
theorem d1_21 : decode prog_15_method_1_code 21 = .ok (.if_icmp .ge 16, 3) := by decide +kernel
theorem d1_24 : decode prog_15_method_1_code 24 = .ok (.aload_n 0, 1) := by decide +kernel
theorem d1_25 : decode prog_15_method_1_code 25 = .ok (.getfield 7, 3) := by decide +kernel
theorem d1_28 : decode prog_15_method_1_code 28 = .ok (.iload_n 2, 1) := by decide +kernel
theorem d1_29 : decode prog_15_method_1_code 29 = .ok (.iload_n 2, 1) := by decide +kernel
theorem d1_30 : decode prog_15_method_1_code 30 = .ok (.iastore, 1) := by decide +kernel
theorem d1_31 : decode prog_15_method_1_code 31 = .ok (.iinc 2 1, 3) := by decide +kernel
theorem d1_34 : decode prog_15_method_1_code 34 = .ok (.goto (-19), 3) := by decide +kernel
theorem d1_37 : decode prog_15_method_1_code 37 = .ok (.return_, 1) := by decide +kernel
set_option maxRecDepth 65536 in
set_option maxHeartbeats 40000000 in
theorem rm_init (l : Launch) (Z : State) (a0 : Array Value) (hw : ∀ d ∈ tables_1, d.before a0 Z = true) (ws : List Jvm.Cond) (a1 : Addr) (h0 : Heap) (n0 : Nat) (Z0 : n0 ≤ h0.size) (E1 : Exa Z h0 a1 "com/example/slackline/slackline/solvers/OpenIndices") (F1 : Fld Z h0 a1 "com/example/slackline/slackline/solvers/OpenIndices" "onward" "[I" .null) (g1 : n0 ≤ a1) :
    MetFree l (⟨"com/example/slackline/slackline/solvers/OpenIndices", "<init>", "(I)V"⟩ : MethodName) (head1 (Jvm.Cond.code (⟨"com/example/slackline/slackline/solvers/OpenIndices", "<init>", "(I)V"⟩ : MethodName) prog_15_method_1_code 3 none :: ws) ({ frames := 1, cells := 1, slots := 6, locals := 12 } : Room)) (fun a U => a = #[(.ref a1), (.int (5 : Int32))] ∧ Z.Warmed39 U.vm ∧ U.heap = h0) (fun _ _ _ _ _ => True) (fun _ U o U' => ∃ v L, o = .returned v ∧ Q_init Z a1 h0 n0 v U'.heap L ∧ FrameEnd U o U' L ({ frames := 1, cells := 1, slots := 6, locals := 12 } : Room).cells ({ frames := 1, cells := 1, slots := 6, locals := 12 } : Room).slots) := by
  refine MetFree.of_bodySF (plainFor_of_name pn_0) hisR ?_
  intro p e s m args below meth c s₁ Bd hml0 hP hK
  obtain ⟨rfl, hZ, hh⟩ := hP
  have hx := Bd.exec
  have hby := Bd.bytes
  have hml : c.maxLocals = 3 := hml0
  have hown : s.vm.findClass "com/example/slackline/slackline/solvers/OpenIndices" = some m.cls := findClass_of_methodNamed Bd.named
  have hnm := (name_of_methodNamed Bd.named Bd.method).1
  have X0 : Stand p l e ({ frames := 1, cells := 1, slots := 6, locals := 12 } : Room) s m #[(.ref a1), (.int (5 : Int32))] below meth c s₁ [] 0 0 := Stand.of_body Bd
  have e0 : s₁.heap = h0 := by rw [← hh, Bd.state]; rfl
  have N0 := Fr.nil n0
  have K0 : Keep h0 h0 [a1] := Keep.refl h0 [a1]
  have P0 : ∀ t, Steps p.tables e below (s₁.setTop (mkF m 0 #[.val (.ref a1), .val (.int (5 : Int32)), .unset] [])) t → Steps p.tables e below (s₁.setTop (entryFrame m #[(.ref a1), (.int (5 : Int32))] 3)) t := fun t k => castTop (ef_init m a1 (5 : Int32)) k
  obtain ⟨T1001, X1001, e1001, st1001⟩ := initO X0 hx hZ hown (hw _ (List.mem_of_getElem? (i := 7) rfl)) (hw _ (List.mem_of_getElem? (i := 8) rfl)) (hw _ (List.mem_of_getElem? (i := 9) rfl)) e0 (g := (mkF m 1 #[.val (.ref a1), .val (.int (5 : Int32)), .unset] [(.ref a1)])) rfl (by rw [hml]; rfl) rfl (hb hby d1_1) (by decide) (W := 0) (by show 2 * 0 + _ ≤ _; exact Nat.le_of_eq rfl) (by decide)
  obtain ⟨T1002, h1002, k1002, X1002, e1002, E1002, A1002, st1002⟩ := newP X1001 hx hZ (hw _ (List.mem_of_getElem? (i := 10) rfl)) e1001 (g := (mkF m 8 #[.val (.ref a1), .val (.int (5 : Int32)), .unset] [(.int (6 : Int32)), (.ref a1)])) rfl (hb hby d1_8) rfl (by decide) (cap := 6) (by decide) (by decide) (by decide) (by decide)
  obtain ⟨b1002, g1002⟩ : ∃ z, z = h0.size := ⟨_, rfl⟩
  rw [← g1002] at A1002 st1002
  have ne_a1_b1002 : a1 ≠ b1002 := Nat.ne_of_lt (Nat.lt_of_lt_of_le E1.lt (Nat.le_of_eq g1002.symm))
  have g_b1002 : n0 ≤ b1002 := Nat.le_trans Z0 (Nat.le_of_eq g1002.symm)
  have sz_b1002 : h0.size ≤ b1002 := Nat.le_trans K0.1 (Nat.le_of_eq g1002.symm)
  have c1003_0 := E1.ext E1002
  have c1003_1 := F1.ext E1002
  have Z1002 : n0 ≤ h1002.size := Nat.le_trans Z0 E1002.1
  have K1002 : Keep h0 h1002 [a1] := K0.ext E1002
  have V1002 : Arv Z h1002 b1002 k1002 .int (6 : Int32) [(.int (0 : Int32)), (.int (0 : Int32)), (.int (0 : Int32)), (.int (0 : Int32)), (.int (0 : Int32)), (.int (0 : Int32))] (.int (0 : Int32)) := (Arv.new A1002 (by decide)).pad (pad_rep [] (.int (0 : Int32)) 6)
  obtain ⟨T1004, h1004, X1004, e1004, W1004, st1004⟩ := putF X1002 hx hZ hown (host := "") (Or.inl (hw _ (List.mem_of_getElem? (i := 11) rfl))) Via.refl e1002 c1003_1 c1003_0 (Or.inr ⟨(hw _ (List.mem_of_getElem? (i := 12) rfl)), rfl, hnm⟩) (hw _ (List.mem_of_getElem? (i := 2) rfl)) (ty := (.array .int)) (by decide) rfl rfl (g := (mkF m 10 #[.val (.ref a1), .val (.int (5 : Int32)), .unset] [(.ref b1002), (.ref a1)])) rfl rfl (hb hby d1_10)
  have Fw1004 := c1003_1.same W1004
  have c1005_0 := c1003_0.wr W1004
  have c1005_2 := V1002.other W1004 (Ne.symm ne_a1_b1002)
  have Z1004 : n0 ≤ h1004.size := Nat.le_trans Z1002 (Nat.le_of_eq W1004.size.symm)
  have K1004 : Keep h0 h1004 [a1] := K1002.wr W1004 (Or.inl (List.mem_of_getElem? (i := 0) rfl))
  have N1004 := Fr.snoc X1004 N0 g1
  obtain ⟨T1006, X1006, e1006, st1006⟩ := getF X1004 hx hZ hown (host := "") (Or.inl (hw _ (List.mem_of_getElem? (i := 11) rfl))) Via.refl e1004 Fw1004 (g := (mkF m 17 #[.val (.ref a1), .val (.int (5 : Int32)), .val (.int (0 : Int32))] [(.ref a1), (.int (0 : Int32))])) rfl rfl (hb hby d1_17)
  obtain ⟨cl1007, Ar1007, q1007, S1007, M1007, -, -⟩ := id c1005_2
  obtain ⟨T1008, X1008, e1008, st1008⟩ := getF X1006 hx hZ hown (host := "") (Or.inl (hw _ (List.mem_of_getElem? (i := 11) rfl))) Via.refl e1006 Fw1004 (g := (mkF m 25 #[.val (.ref a1), .val (.int (5 : Int32)), .val (.int (0 : Int32))] [(.ref a1)])) rfl rfl (hb hby d1_25)
  obtain ⟨cl1009, Ar1009, q1009, S1009, M1009, H1009, G1009⟩ := id c1005_2
  have hin1009 : ¬ ((0 : Int32) < 0 ∨ cl1009.slots.size ≤ ((0 : Int32)).toNatClampNeg) := inb_of S1009 ⟨by decide, by decide⟩
  obtain ⟨T1009, h1009, X1009, e1009, W1009, st1009⟩ := stI X1008 hx hZ e1008 Ar1009 (j := (0 : Int32)) hin1009 (g := (mkF m 30 #[.val (.ref a1), .val (.int (5 : Int32)), .val (.int (0 : Int32))] [(.int (0 : Int32)), (.int (0 : Int32)), (.ref b1002)])) rfl rfl (hb hby d1_30)
  have V1009 := Arv.set Ar1009 q1009 S1009 M1009 H1009 G1009 rfl W1009 0 rfl (Nat.le_of_ble_eq_true rfl)
  have c1010_0 := c1005_0.wr W1009
  have c1010_1 := Fw1004.other W1009 (Or.inl ne_a1_b1002)
  have Z1009 : n0 ≤ h1009.size := Nat.le_trans Z1004 (Nat.le_of_eq W1009.size.symm)
  have K1009 : Keep h0 h1009 [a1] := K1004.wr W1009 (Or.inr sz_b1002)
  have N1009 := Fr.snoc X1009 N1004 g_b1002
  obtain ⟨T1011, X1011, e1011, st1011⟩ := getF X1009 hx hZ hown (host := "") (Or.inl (hw _ (List.mem_of_getElem? (i := 11) rfl))) Via.refl e1009 c1010_1 (g := (mkF m 17 #[.val (.ref a1), .val (.int (5 : Int32)), .val (.int (1 : Int32))] [(.ref a1), (.int (1 : Int32))])) rfl rfl (hb hby d1_17)
  obtain ⟨cl1012, Ar1012, q1012, S1012, M1012, -, -⟩ := id V1009
  obtain ⟨T1013, X1013, e1013, st1013⟩ := getF X1011 hx hZ hown (host := "") (Or.inl (hw _ (List.mem_of_getElem? (i := 11) rfl))) Via.refl e1011 c1010_1 (g := (mkF m 25 #[.val (.ref a1), .val (.int (5 : Int32)), .val (.int (1 : Int32))] [(.ref a1)])) rfl rfl (hb hby d1_25)
  obtain ⟨cl1014, Ar1014, q1014, S1014, M1014, H1014, G1014⟩ := id V1009
  have hin1014 : ¬ ((1 : Int32) < 0 ∨ cl1014.slots.size ≤ ((1 : Int32)).toNatClampNeg) := inb_of S1014 ⟨by decide, by decide⟩
  obtain ⟨T1014, h1014, X1014, e1014, W1014, st1014⟩ := stI X1013 hx hZ e1013 Ar1014 (j := (1 : Int32)) hin1014 (g := (mkF m 30 #[.val (.ref a1), .val (.int (5 : Int32)), .val (.int (1 : Int32))] [(.int (1 : Int32)), (.int (1 : Int32)), (.ref b1002)])) rfl rfl (hb hby d1_30)
  have V1014 := Arv.set Ar1014 q1014 S1014 M1014 H1014 G1014 rfl W1014 1 rfl (Nat.le_of_ble_eq_true rfl)
  have c1015_0 := c1010_0.wr W1014
  have c1015_1 := c1010_1.other W1014 (Or.inl ne_a1_b1002)
  have Z1014 : n0 ≤ h1014.size := Nat.le_trans Z1009 (Nat.le_of_eq W1014.size.symm)
  have K1014 : Keep h0 h1014 [a1] := K1009.wr W1014 (Or.inr sz_b1002)
  have N1014 := Fr.snoc X1014 N1009 g_b1002
  obtain ⟨T1016, X1016, e1016, st1016⟩ := getF X1014 hx hZ hown (host := "") (Or.inl (hw _ (List.mem_of_getElem? (i := 11) rfl))) Via.refl e1014 c1015_1 (g := (mkF m 17 #[.val (.ref a1), .val (.int (5 : Int32)), .val (.int (2 : Int32))] [(.ref a1), (.int (2 : Int32))])) rfl rfl (hb hby d1_17)
  obtain ⟨cl1017, Ar1017, q1017, S1017, M1017, -, -⟩ := id V1014
  obtain ⟨T1018, X1018, e1018, st1018⟩ := getF X1016 hx hZ hown (host := "") (Or.inl (hw _ (List.mem_of_getElem? (i := 11) rfl))) Via.refl e1016 c1015_1 (g := (mkF m 25 #[.val (.ref a1), .val (.int (5 : Int32)), .val (.int (2 : Int32))] [(.ref a1)])) rfl rfl (hb hby d1_25)
  obtain ⟨cl1019, Ar1019, q1019, S1019, M1019, H1019, G1019⟩ := id V1014
  have hin1019 : ¬ ((2 : Int32) < 0 ∨ cl1019.slots.size ≤ ((2 : Int32)).toNatClampNeg) := inb_of S1019 ⟨by decide, by decide⟩
  obtain ⟨T1019, h1019, X1019, e1019, W1019, st1019⟩ := stI X1018 hx hZ e1018 Ar1019 (j := (2 : Int32)) hin1019 (g := (mkF m 30 #[.val (.ref a1), .val (.int (5 : Int32)), .val (.int (2 : Int32))] [(.int (2 : Int32)), (.int (2 : Int32)), (.ref b1002)])) rfl rfl (hb hby d1_30)
  have V1019 := Arv.set Ar1019 q1019 S1019 M1019 H1019 G1019 rfl W1019 2 rfl (Nat.le_of_ble_eq_true rfl)
  have c1020_0 := c1015_0.wr W1019
  have c1020_1 := c1015_1.other W1019 (Or.inl ne_a1_b1002)
  have Z1019 : n0 ≤ h1019.size := Nat.le_trans Z1014 (Nat.le_of_eq W1019.size.symm)
  have K1019 : Keep h0 h1019 [a1] := K1014.wr W1019 (Or.inr sz_b1002)
  have N1019 := Fr.snoc X1019 N1014 g_b1002
  obtain ⟨T1021, X1021, e1021, st1021⟩ := getF X1019 hx hZ hown (host := "") (Or.inl (hw _ (List.mem_of_getElem? (i := 11) rfl))) Via.refl e1019 c1020_1 (g := (mkF m 17 #[.val (.ref a1), .val (.int (5 : Int32)), .val (.int (3 : Int32))] [(.ref a1), (.int (3 : Int32))])) rfl rfl (hb hby d1_17)
  obtain ⟨cl1022, Ar1022, q1022, S1022, M1022, -, -⟩ := id V1019
  obtain ⟨T1023, X1023, e1023, st1023⟩ := getF X1021 hx hZ hown (host := "") (Or.inl (hw _ (List.mem_of_getElem? (i := 11) rfl))) Via.refl e1021 c1020_1 (g := (mkF m 25 #[.val (.ref a1), .val (.int (5 : Int32)), .val (.int (3 : Int32))] [(.ref a1)])) rfl rfl (hb hby d1_25)
  obtain ⟨cl1024, Ar1024, q1024, S1024, M1024, H1024, G1024⟩ := id V1019
  have hin1024 : ¬ ((3 : Int32) < 0 ∨ cl1024.slots.size ≤ ((3 : Int32)).toNatClampNeg) := inb_of S1024 ⟨by decide, by decide⟩
  obtain ⟨T1024, h1024, X1024, e1024, W1024, st1024⟩ := stI X1023 hx hZ e1023 Ar1024 (j := (3 : Int32)) hin1024 (g := (mkF m 30 #[.val (.ref a1), .val (.int (5 : Int32)), .val (.int (3 : Int32))] [(.int (3 : Int32)), (.int (3 : Int32)), (.ref b1002)])) rfl rfl (hb hby d1_30)
  have V1024 := Arv.set Ar1024 q1024 S1024 M1024 H1024 G1024 rfl W1024 3 rfl (Nat.le_of_ble_eq_true rfl)
  have c1025_0 := c1020_0.wr W1024
  have c1025_1 := c1020_1.other W1024 (Or.inl ne_a1_b1002)
  have Z1024 : n0 ≤ h1024.size := Nat.le_trans Z1019 (Nat.le_of_eq W1024.size.symm)
  have K1024 : Keep h0 h1024 [a1] := K1019.wr W1024 (Or.inr sz_b1002)
  have N1024 := Fr.snoc X1024 N1019 g_b1002
  obtain ⟨T1026, X1026, e1026, st1026⟩ := getF X1024 hx hZ hown (host := "") (Or.inl (hw _ (List.mem_of_getElem? (i := 11) rfl))) Via.refl e1024 c1025_1 (g := (mkF m 17 #[.val (.ref a1), .val (.int (5 : Int32)), .val (.int (4 : Int32))] [(.ref a1), (.int (4 : Int32))])) rfl rfl (hb hby d1_17)
  obtain ⟨cl1027, Ar1027, q1027, S1027, M1027, -, -⟩ := id V1024
  obtain ⟨T1028, X1028, e1028, st1028⟩ := getF X1026 hx hZ hown (host := "") (Or.inl (hw _ (List.mem_of_getElem? (i := 11) rfl))) Via.refl e1026 c1025_1 (g := (mkF m 25 #[.val (.ref a1), .val (.int (5 : Int32)), .val (.int (4 : Int32))] [(.ref a1)])) rfl rfl (hb hby d1_25)
  obtain ⟨cl1029, Ar1029, q1029, S1029, M1029, H1029, G1029⟩ := id V1024
  have hin1029 : ¬ ((4 : Int32) < 0 ∨ cl1029.slots.size ≤ ((4 : Int32)).toNatClampNeg) := inb_of S1029 ⟨by decide, by decide⟩
  obtain ⟨T1029, h1029, X1029, e1029, W1029, st1029⟩ := stI X1028 hx hZ e1028 Ar1029 (j := (4 : Int32)) hin1029 (g := (mkF m 30 #[.val (.ref a1), .val (.int (5 : Int32)), .val (.int (4 : Int32))] [(.int (4 : Int32)), (.int (4 : Int32)), (.ref b1002)])) rfl rfl (hb hby d1_30)
  have V1029 := Arv.set Ar1029 q1029 S1029 M1029 H1029 G1029 rfl W1029 4 rfl (Nat.le_of_ble_eq_true rfl)
  have c1030_0 := c1025_0.wr W1029
  have c1030_1 := c1025_1.other W1029 (Or.inl ne_a1_b1002)
  have Z1029 : n0 ≤ h1029.size := Nat.le_trans Z1024 (Nat.le_of_eq W1029.size.symm)
  have K1029 : Keep h0 h1029 [a1] := K1024.wr W1029 (Or.inr sz_b1002)
  have N1029 := Fr.snoc X1029 N1024 g_b1002
  obtain ⟨T1031, X1031, e1031, st1031⟩ := getF X1029 hx hZ hown (host := "") (Or.inl (hw _ (List.mem_of_getElem? (i := 11) rfl))) Via.refl e1029 c1030_1 (g := (mkF m 17 #[.val (.ref a1), .val (.int (5 : Int32)), .val (.int (5 : Int32))] [(.ref a1), (.int (5 : Int32))])) rfl rfl (hb hby d1_17)
  obtain ⟨cl1032, Ar1032, q1032, S1032, M1032, -, -⟩ := id V1029
  obtain ⟨T1033, X1033, e1033, st1033⟩ := getF X1031 hx hZ hown (host := "") (Or.inl (hw _ (List.mem_of_getElem? (i := 11) rfl))) Via.refl e1031 c1030_1 (g := (mkF m 25 #[.val (.ref a1), .val (.int (5 : Int32)), .val (.int (5 : Int32))] [(.ref a1)])) rfl rfl (hb hby d1_25)
  obtain ⟨cl1034, Ar1034, q1034, S1034, M1034, H1034, G1034⟩ := id V1029
  have hin1034 : ¬ ((5 : Int32) < 0 ∨ cl1034.slots.size ≤ ((5 : Int32)).toNatClampNeg) := inb_of S1034 ⟨by decide, by decide⟩
  obtain ⟨T1034, h1034, X1034, e1034, W1034, st1034⟩ := stI X1033 hx hZ e1033 Ar1034 (j := (5 : Int32)) hin1034 (g := (mkF m 30 #[.val (.ref a1), .val (.int (5 : Int32)), .val (.int (5 : Int32))] [(.int (5 : Int32)), (.int (5 : Int32)), (.ref b1002)])) rfl rfl (hb hby d1_30)
  have V1034 := Arv.set Ar1034 q1034 S1034 M1034 H1034 G1034 rfl W1034 5 rfl (Nat.le_of_ble_eq_true rfl)
  have c1035_0 := c1030_0.wr W1034
  have c1035_1 := c1030_1.other W1034 (Or.inl ne_a1_b1002)
  have Z1034 : n0 ≤ h1034.size := Nat.le_trans Z1029 (Nat.le_of_eq W1034.size.symm)
  have K1034 : Keep h0 h1034 [a1] := K1029.wr W1034 (Or.inr sz_b1002)
  have N1034 := Fr.snoc X1034 N1029 g_b1002
  obtain ⟨T1036, X1036, e1036, st1036⟩ := getF X1034 hx hZ hown (host := "") (Or.inl (hw _ (List.mem_of_getElem? (i := 11) rfl))) Via.refl e1034 c1035_1 (g := (mkF m 17 #[.val (.ref a1), .val (.int (5 : Int32)), .val (.int (6 : Int32))] [(.ref a1), (.int (6 : Int32))])) rfl rfl (hb hby d1_17)
  obtain ⟨cl1037, Ar1037, q1037, S1037, M1037, -, -⟩ := id V1034
  have P1038 : ∀ t, Steps p.tables e below (T1036.setTop (mkF m 37 #[.val (.ref a1), .val (.int (5 : Int32)), .val (.int (6 : Int32))] [])) t → Steps p.tables e below (s₁.setTop (entryFrame m #[(.ref a1), (.int (5 : Int32))] 3)) t := fun t k => P0 t (by
    refine XS.aloadN X0.here hx rfl (hb hby d1_0) rfl rfl ?_
    show Steps p.tables e below (s₁.setTop (mkF m 1 #[.val (.ref a1), .val (.int (5 : Int32)), .unset] [(.ref a1)])) _
    refine st1001 _ ?_
    show Steps p.tables e below (T1001.setTop (mkF m 4 #[.val (.ref a1), .val (.int (5 : Int32)), .unset] [])) _
    refine XS.aloadN X1001.here hx rfl (hb hby d1_4) rfl rfl ?_
    show Steps p.tables e below (T1001.setTop (mkF m 5 #[.val (.ref a1), .val (.int (5 : Int32)), .unset] [(.ref a1)])) _
    refine XS.iloadN X1001.here hx rfl (hb hby d1_5) rfl ?_
    show Steps p.tables e below (T1001.setTop (mkF m 6 #[.val (.ref a1), .val (.int (5 : Int32)), .unset] [(.int (5 : Int32)), (.ref a1)])) _
    refine XS.iconst X1001.here hx rfl (hb hby d1_6) ?_
    show Steps p.tables e below (T1001.setTop (mkF m 7 #[.val (.ref a1), .val (.int (5 : Int32)), .unset] [(.int (1 : Int32)), (.int (5 : Int32)), (.ref a1)])) _
    refine XS.iadd X1001.here hx rfl (hb hby d1_7) rfl ?_
    show Steps p.tables e below (T1001.setTop (mkF m 8 #[.val (.ref a1), .val (.int (5 : Int32)), .unset] [(.int (6 : Int32)), (.ref a1)])) _
    refine st1002 _ ?_
    show Steps p.tables e below (T1002.setTop (mkF m 10 #[.val (.ref a1), .val (.int (5 : Int32)), .unset] [(.ref b1002), (.ref a1)])) _
    refine st1004 _ ?_
    show Steps p.tables e below (T1004.setTop (mkF m 13 #[.val (.ref a1), .val (.int (5 : Int32)), .unset] [])) _
    refine XS.iconst X1004.here hx rfl (hb hby d1_13) ?_
    show Steps p.tables e below (T1004.setTop (mkF m 14 #[.val (.ref a1), .val (.int (5 : Int32)), .unset] [(.int (0 : Int32))])) _
    refine XS.istoreN X1004.here hx rfl (hb hby d1_14) rfl (l' := #[.val (.ref a1), .val (.int (5 : Int32)), .val (.int (0 : Int32))]) rfl ?_
    show Steps p.tables e below (T1004.setTop (mkF m 15 #[.val (.ref a1), .val (.int (5 : Int32)), .val (.int (0 : Int32))] [])) _
    refine XS.iloadN X1004.here hx rfl (hb hby d1_15) rfl ?_
    show Steps p.tables e below (T1004.setTop (mkF m 16 #[.val (.ref a1), .val (.int (5 : Int32)), .val (.int (0 : Int32))] [(.int (0 : Int32))])) _
    refine XS.aloadN X1004.here hx rfl (hb hby d1_16) rfl rfl ?_
    show Steps p.tables e below (T1004.setTop (mkF m 17 #[.val (.ref a1), .val (.int (5 : Int32)), .val (.int (0 : Int32))] [(.ref a1), (.int (0 : Int32))])) _
    refine st1006 _ ?_
    show Steps p.tables e below (T1006.setTop (mkF m 20 #[.val (.ref a1), .val (.int (5 : Int32)), .val (.int (0 : Int32))] [(.ref b1002), (.int (0 : Int32))])) _
    refine X1006.arraylength hx (by rw [e1006]; exact Ar1007.1) (State.isArrayOf_alike hZ.alike Ar1007.2.1) (g := (mkF m 20 #[.val (.ref a1), .val (.int (5 : Int32)), .val (.int (0 : Int32))] [(.ref b1002), (.int (0 : Int32))])) rfl rfl (hb hby d1_20) _ ?_
    rw [len_of S1007 M1007]
    show Steps p.tables e below (T1006.setTop (mkF m 21 #[.val (.ref a1), .val (.int (5 : Int32)), .val (.int (0 : Int32))] [(.int (6 : Int32)), (.int (0 : Int32))])) _
    refine XS.icmpNo X1006.here hx rfl (hb hby d1_21) rfl (tlt (by decide)).2.1 ?_
    show Steps p.tables e below (T1006.setTop (mkF m 24 #[.val (.ref a1), .val (.int (5 : Int32)), .val (.int (0 : Int32))] [])) _
    refine XS.aloadN X1006.here hx rfl (hb hby d1_24) rfl rfl ?_
    show Steps p.tables e below (T1006.setTop (mkF m 25 #[.val (.ref a1), .val (.int (5 : Int32)), .val (.int (0 : Int32))] [(.ref a1)])) _
    refine st1008 _ ?_
    show Steps p.tables e below (T1008.setTop (mkF m 28 #[.val (.ref a1), .val (.int (5 : Int32)), .val (.int (0 : Int32))] [(.ref b1002)])) _
    refine XS.iloadN X1008.here hx rfl (hb hby d1_28) rfl ?_
    show Steps p.tables e below (T1008.setTop (mkF m 29 #[.val (.ref a1), .val (.int (5 : Int32)), .val (.int (0 : Int32))] [(.int (0 : Int32)), (.ref b1002)])) _
    refine XS.iloadN X1008.here hx rfl (hb hby d1_29) rfl ?_
    show Steps p.tables e below (T1008.setTop (mkF m 30 #[.val (.ref a1), .val (.int (5 : Int32)), .val (.int (0 : Int32))] [(.int (0 : Int32)), (.int (0 : Int32)), (.ref b1002)])) _
    refine st1009 _ ?_
    show Steps p.tables e below (T1009.setTop (mkF m 31 #[.val (.ref a1), .val (.int (5 : Int32)), .val (.int (0 : Int32))] [])) _
    refine XS.iinc X1009.here hx rfl (hb hby d1_31) rfl (l' := #[.val (.ref a1), .val (.int (5 : Int32)), .val (.int (1 : Int32))]) rfl ?_
    show Steps p.tables e below (T1009.setTop (mkF m 34 #[.val (.ref a1), .val (.int (5 : Int32)), .val (.int (1 : Int32))] [])) _
    refine XS.goto X1009.here hx rfl (pc0 := 34) (pc' := 15) rfl (hb hby d1_34) (by decide) (by decide) ?_
    show Steps p.tables e below (T1009.setTop (mkF m 15 #[.val (.ref a1), .val (.int (5 : Int32)), .val (.int (1 : Int32))] [])) _
    refine XS.iloadN X1009.here hx rfl (hb hby d1_15) rfl ?_
    show Steps p.tables e below (T1009.setTop (mkF m 16 #[.val (.ref a1), .val (.int (5 : Int32)), .val (.int (1 : Int32))] [(.int (1 : Int32))])) _
    refine XS.aloadN X1009.here hx rfl (hb hby d1_16) rfl rfl ?_
    show Steps p.tables e below (T1009.setTop (mkF m 17 #[.val (.ref a1), .val (.int (5 : Int32)), .val (.int (1 : Int32))] [(.ref a1), (.int (1 : Int32))])) _
    refine st1011 _ ?_
    show Steps p.tables e below (T1011.setTop (mkF m 20 #[.val (.ref a1), .val (.int (5 : Int32)), .val (.int (1 : Int32))] [(.ref b1002), (.int (1 : Int32))])) _
    refine X1011.arraylength hx (by rw [e1011]; exact Ar1012.1) (State.isArrayOf_alike hZ.alike Ar1012.2.1) (g := (mkF m 20 #[.val (.ref a1), .val (.int (5 : Int32)), .val (.int (1 : Int32))] [(.ref b1002), (.int (1 : Int32))])) rfl rfl (hb hby d1_20) _ ?_
    rw [len_of S1012 M1012]
    show Steps p.tables e below (T1011.setTop (mkF m 21 #[.val (.ref a1), .val (.int (5 : Int32)), .val (.int (1 : Int32))] [(.int (6 : Int32)), (.int (1 : Int32))])) _
    refine XS.icmpNo X1011.here hx rfl (hb hby d1_21) rfl (tlt (by decide)).2.1 ?_
    show Steps p.tables e below (T1011.setTop (mkF m 24 #[.val (.ref a1), .val (.int (5 : Int32)), .val (.int (1 : Int32))] [])) _
    refine XS.aloadN X1011.here hx rfl (hb hby d1_24) rfl rfl ?_
    show Steps p.tables e below (T1011.setTop (mkF m 25 #[.val (.ref a1), .val (.int (5 : Int32)), .val (.int (1 : Int32))] [(.ref a1)])) _
    refine st1013 _ ?_
    show Steps p.tables e below (T1013.setTop (mkF m 28 #[.val (.ref a1), .val (.int (5 : Int32)), .val (.int (1 : Int32))] [(.ref b1002)])) _
    refine XS.iloadN X1013.here hx rfl (hb hby d1_28) rfl ?_
    show Steps p.tables e below (T1013.setTop (mkF m 29 #[.val (.ref a1), .val (.int (5 : Int32)), .val (.int (1 : Int32))] [(.int (1 : Int32)), (.ref b1002)])) _
    refine XS.iloadN X1013.here hx rfl (hb hby d1_29) rfl ?_
    show Steps p.tables e below (T1013.setTop (mkF m 30 #[.val (.ref a1), .val (.int (5 : Int32)), .val (.int (1 : Int32))] [(.int (1 : Int32)), (.int (1 : Int32)), (.ref b1002)])) _
    refine st1014 _ ?_
    show Steps p.tables e below (T1014.setTop (mkF m 31 #[.val (.ref a1), .val (.int (5 : Int32)), .val (.int (1 : Int32))] [])) _
    refine XS.iinc X1014.here hx rfl (hb hby d1_31) rfl (l' := #[.val (.ref a1), .val (.int (5 : Int32)), .val (.int (2 : Int32))]) rfl ?_
    show Steps p.tables e below (T1014.setTop (mkF m 34 #[.val (.ref a1), .val (.int (5 : Int32)), .val (.int (2 : Int32))] [])) _
    refine XS.goto X1014.here hx rfl (pc0 := 34) (pc' := 15) rfl (hb hby d1_34) (by decide) (by decide) ?_
    show Steps p.tables e below (T1014.setTop (mkF m 15 #[.val (.ref a1), .val (.int (5 : Int32)), .val (.int (2 : Int32))] [])) _
    refine XS.iloadN X1014.here hx rfl (hb hby d1_15) rfl ?_
    show Steps p.tables e below (T1014.setTop (mkF m 16 #[.val (.ref a1), .val (.int (5 : Int32)), .val (.int (2 : Int32))] [(.int (2 : Int32))])) _
    refine XS.aloadN X1014.here hx rfl (hb hby d1_16) rfl rfl ?_
    show Steps p.tables e below (T1014.setTop (mkF m 17 #[.val (.ref a1), .val (.int (5 : Int32)), .val (.int (2 : Int32))] [(.ref a1), (.int (2 : Int32))])) _
    refine st1016 _ ?_
    show Steps p.tables e below (T1016.setTop (mkF m 20 #[.val (.ref a1), .val (.int (5 : Int32)), .val (.int (2 : Int32))] [(.ref b1002), (.int (2 : Int32))])) _
    refine X1016.arraylength hx (by rw [e1016]; exact Ar1017.1) (State.isArrayOf_alike hZ.alike Ar1017.2.1) (g := (mkF m 20 #[.val (.ref a1), .val (.int (5 : Int32)), .val (.int (2 : Int32))] [(.ref b1002), (.int (2 : Int32))])) rfl rfl (hb hby d1_20) _ ?_
    rw [len_of S1017 M1017]
    show Steps p.tables e below (T1016.setTop (mkF m 21 #[.val (.ref a1), .val (.int (5 : Int32)), .val (.int (2 : Int32))] [(.int (6 : Int32)), (.int (2 : Int32))])) _
    refine XS.icmpNo X1016.here hx rfl (hb hby d1_21) rfl (tlt (by decide)).2.1 ?_
    show Steps p.tables e below (T1016.setTop (mkF m 24 #[.val (.ref a1), .val (.int (5 : Int32)), .val (.int (2 : Int32))] [])) _
    refine XS.aloadN X1016.here hx rfl (hb hby d1_24) rfl rfl ?_
    show Steps p.tables e below (T1016.setTop (mkF m 25 #[.val (.ref a1), .val (.int (5 : Int32)), .val (.int (2 : Int32))] [(.ref a1)])) _
    refine st1018 _ ?_
    show Steps p.tables e below (T1018.setTop (mkF m 28 #[.val (.ref a1), .val (.int (5 : Int32)), .val (.int (2 : Int32))] [(.ref b1002)])) _
    refine XS.iloadN X1018.here hx rfl (hb hby d1_28) rfl ?_
    show Steps p.tables e below (T1018.setTop (mkF m 29 #[.val (.ref a1), .val (.int (5 : Int32)), .val (.int (2 : Int32))] [(.int (2 : Int32)), (.ref b1002)])) _
    refine XS.iloadN X1018.here hx rfl (hb hby d1_29) rfl ?_
    show Steps p.tables e below (T1018.setTop (mkF m 30 #[.val (.ref a1), .val (.int (5 : Int32)), .val (.int (2 : Int32))] [(.int (2 : Int32)), (.int (2 : Int32)), (.ref b1002)])) _
    refine st1019 _ ?_
    show Steps p.tables e below (T1019.setTop (mkF m 31 #[.val (.ref a1), .val (.int (5 : Int32)), .val (.int (2 : Int32))] [])) _
    refine XS.iinc X1019.here hx rfl (hb hby d1_31) rfl (l' := #[.val (.ref a1), .val (.int (5 : Int32)), .val (.int (3 : Int32))]) rfl ?_
    show Steps p.tables e below (T1019.setTop (mkF m 34 #[.val (.ref a1), .val (.int (5 : Int32)), .val (.int (3 : Int32))] [])) _
    refine XS.goto X1019.here hx rfl (pc0 := 34) (pc' := 15) rfl (hb hby d1_34) (by decide) (by decide) ?_
    show Steps p.tables e below (T1019.setTop (mkF m 15 #[.val (.ref a1), .val (.int (5 : Int32)), .val (.int (3 : Int32))] [])) _
    refine XS.iloadN X1019.here hx rfl (hb hby d1_15) rfl ?_
    show Steps p.tables e below (T1019.setTop (mkF m 16 #[.val (.ref a1), .val (.int (5 : Int32)), .val (.int (3 : Int32))] [(.int (3 : Int32))])) _
    refine XS.aloadN X1019.here hx rfl (hb hby d1_16) rfl rfl ?_
    show Steps p.tables e below (T1019.setTop (mkF m 17 #[.val (.ref a1), .val (.int (5 : Int32)), .val (.int (3 : Int32))] [(.ref a1), (.int (3 : Int32))])) _
    refine st1021 _ ?_
    show Steps p.tables e below (T1021.setTop (mkF m 20 #[.val (.ref a1), .val (.int (5 : Int32)), .val (.int (3 : Int32))] [(.ref b1002), (.int (3 : Int32))])) _
    refine X1021.arraylength hx (by rw [e1021]; exact Ar1022.1) (State.isArrayOf_alike hZ.alike Ar1022.2.1) (g := (mkF m 20 #[.val (.ref a1), .val (.int (5 : Int32)), .val (.int (3 : Int32))] [(.ref b1002), (.int (3 : Int32))])) rfl rfl (hb hby d1_20) _ ?_
    rw [len_of S1022 M1022]
    show Steps p.tables e below (T1021.setTop (mkF m 21 #[.val (.ref a1), .val (.int (5 : Int32)), .val (.int (3 : Int32))] [(.int (6 : Int32)), (.int (3 : Int32))])) _
    refine XS.icmpNo X1021.here hx rfl (hb hby d1_21) rfl (tlt (by decide)).2.1 ?_
    show Steps p.tables e below (T1021.setTop (mkF m 24 #[.val (.ref a1), .val (.int (5 : Int32)), .val (.int (3 : Int32))] [])) _
    refine XS.aloadN X1021.here hx rfl (hb hby d1_24) rfl rfl ?_
    show Steps p.tables e below (T1021.setTop (mkF m 25 #[.val (.ref a1), .val (.int (5 : Int32)), .val (.int (3 : Int32))] [(.ref a1)])) _
    refine st1023 _ ?_
    show Steps p.tables e below (T1023.setTop (mkF m 28 #[.val (.ref a1), .val (.int (5 : Int32)), .val (.int (3 : Int32))] [(.ref b1002)])) _
    refine XS.iloadN X1023.here hx rfl (hb hby d1_28) rfl ?_
    show Steps p.tables e below (T1023.setTop (mkF m 29 #[.val (.ref a1), .val (.int (5 : Int32)), .val (.int (3 : Int32))] [(.int (3 : Int32)), (.ref b1002)])) _
    refine XS.iloadN X1023.here hx rfl (hb hby d1_29) rfl ?_
    show Steps p.tables e below (T1023.setTop (mkF m 30 #[.val (.ref a1), .val (.int (5 : Int32)), .val (.int (3 : Int32))] [(.int (3 : Int32)), (.int (3 : Int32)), (.ref b1002)])) _
    refine st1024 _ ?_
    show Steps p.tables e below (T1024.setTop (mkF m 31 #[.val (.ref a1), .val (.int (5 : Int32)), .val (.int (3 : Int32))] [])) _
    refine XS.iinc X1024.here hx rfl (hb hby d1_31) rfl (l' := #[.val (.ref a1), .val (.int (5 : Int32)), .val (.int (4 : Int32))]) rfl ?_
    show Steps p.tables e below (T1024.setTop (mkF m 34 #[.val (.ref a1), .val (.int (5 : Int32)), .val (.int (4 : Int32))] [])) _
    refine XS.goto X1024.here hx rfl (pc0 := 34) (pc' := 15) rfl (hb hby d1_34) (by decide) (by decide) ?_
    show Steps p.tables e below (T1024.setTop (mkF m 15 #[.val (.ref a1), .val (.int (5 : Int32)), .val (.int (4 : Int32))] [])) _
    refine XS.iloadN X1024.here hx rfl (hb hby d1_15) rfl ?_
    show Steps p.tables e below (T1024.setTop (mkF m 16 #[.val (.ref a1), .val (.int (5 : Int32)), .val (.int (4 : Int32))] [(.int (4 : Int32))])) _
    refine XS.aloadN X1024.here hx rfl (hb hby d1_16) rfl rfl ?_
    show Steps p.tables e below (T1024.setTop (mkF m 17 #[.val (.ref a1), .val (.int (5 : Int32)), .val (.int (4 : Int32))] [(.ref a1), (.int (4 : Int32))])) _
    refine st1026 _ ?_
    show Steps p.tables e below (T1026.setTop (mkF m 20 #[.val (.ref a1), .val (.int (5 : Int32)), .val (.int (4 : Int32))] [(.ref b1002), (.int (4 : Int32))])) _
    refine X1026.arraylength hx (by rw [e1026]; exact Ar1027.1) (State.isArrayOf_alike hZ.alike Ar1027.2.1) (g := (mkF m 20 #[.val (.ref a1), .val (.int (5 : Int32)), .val (.int (4 : Int32))] [(.ref b1002), (.int (4 : Int32))])) rfl rfl (hb hby d1_20) _ ?_
    rw [len_of S1027 M1027]
    show Steps p.tables e below (T1026.setTop (mkF m 21 #[.val (.ref a1), .val (.int (5 : Int32)), .val (.int (4 : Int32))] [(.int (6 : Int32)), (.int (4 : Int32))])) _
    refine XS.icmpNo X1026.here hx rfl (hb hby d1_21) rfl (tlt (by decide)).2.1 ?_
    show Steps p.tables e below (T1026.setTop (mkF m 24 #[.val (.ref a1), .val (.int (5 : Int32)), .val (.int (4 : Int32))] [])) _
    refine XS.aloadN X1026.here hx rfl (hb hby d1_24) rfl rfl ?_
    show Steps p.tables e below (T1026.setTop (mkF m 25 #[.val (.ref a1), .val (.int (5 : Int32)), .val (.int (4 : Int32))] [(.ref a1)])) _
    refine st1028 _ ?_
    show Steps p.tables e below (T1028.setTop (mkF m 28 #[.val (.ref a1), .val (.int (5 : Int32)), .val (.int (4 : Int32))] [(.ref b1002)])) _
    refine XS.iloadN X1028.here hx rfl (hb hby d1_28) rfl ?_
    show Steps p.tables e below (T1028.setTop (mkF m 29 #[.val (.ref a1), .val (.int (5 : Int32)), .val (.int (4 : Int32))] [(.int (4 : Int32)), (.ref b1002)])) _
    refine XS.iloadN X1028.here hx rfl (hb hby d1_29) rfl ?_
    show Steps p.tables e below (T1028.setTop (mkF m 30 #[.val (.ref a1), .val (.int (5 : Int32)), .val (.int (4 : Int32))] [(.int (4 : Int32)), (.int (4 : Int32)), (.ref b1002)])) _
    refine st1029 _ ?_
    show Steps p.tables e below (T1029.setTop (mkF m 31 #[.val (.ref a1), .val (.int (5 : Int32)), .val (.int (4 : Int32))] [])) _
    refine XS.iinc X1029.here hx rfl (hb hby d1_31) rfl (l' := #[.val (.ref a1), .val (.int (5 : Int32)), .val (.int (5 : Int32))]) rfl ?_
    show Steps p.tables e below (T1029.setTop (mkF m 34 #[.val (.ref a1), .val (.int (5 : Int32)), .val (.int (5 : Int32))] [])) _
    refine XS.goto X1029.here hx rfl (pc0 := 34) (pc' := 15) rfl (hb hby d1_34) (by decide) (by decide) ?_
    show Steps p.tables e below (T1029.setTop (mkF m 15 #[.val (.ref a1), .val (.int (5 : Int32)), .val (.int (5 : Int32))] [])) _
    refine XS.iloadN X1029.here hx rfl (hb hby d1_15) rfl ?_
    show Steps p.tables e below (T1029.setTop (mkF m 16 #[.val (.ref a1), .val (.int (5 : Int32)), .val (.int (5 : Int32))] [(.int (5 : Int32))])) _
    refine XS.aloadN X1029.here hx rfl (hb hby d1_16) rfl rfl ?_
    show Steps p.tables e below (T1029.setTop (mkF m 17 #[.val (.ref a1), .val (.int (5 : Int32)), .val (.int (5 : Int32))] [(.ref a1), (.int (5 : Int32))])) _
    refine st1031 _ ?_
    show Steps p.tables e below (T1031.setTop (mkF m 20 #[.val (.ref a1), .val (.int (5 : Int32)), .val (.int (5 : Int32))] [(.ref b1002), (.int (5 : Int32))])) _
    refine X1031.arraylength hx (by rw [e1031]; exact Ar1032.1) (State.isArrayOf_alike hZ.alike Ar1032.2.1) (g := (mkF m 20 #[.val (.ref a1), .val (.int (5 : Int32)), .val (.int (5 : Int32))] [(.ref b1002), (.int (5 : Int32))])) rfl rfl (hb hby d1_20) _ ?_
    rw [len_of S1032 M1032]
    show Steps p.tables e below (T1031.setTop (mkF m 21 #[.val (.ref a1), .val (.int (5 : Int32)), .val (.int (5 : Int32))] [(.int (6 : Int32)), (.int (5 : Int32))])) _
    refine XS.icmpNo X1031.here hx rfl (hb hby d1_21) rfl (tlt (by decide)).2.1 ?_
    show Steps p.tables e below (T1031.setTop (mkF m 24 #[.val (.ref a1), .val (.int (5 : Int32)), .val (.int (5 : Int32))] [])) _
    refine XS.aloadN X1031.here hx rfl (hb hby d1_24) rfl rfl ?_
    show Steps p.tables e below (T1031.setTop (mkF m 25 #[.val (.ref a1), .val (.int (5 : Int32)), .val (.int (5 : Int32))] [(.ref a1)])) _
    refine st1033 _ ?_
    show Steps p.tables e below (T1033.setTop (mkF m 28 #[.val (.ref a1), .val (.int (5 : Int32)), .val (.int (5 : Int32))] [(.ref b1002)])) _
    refine XS.iloadN X1033.here hx rfl (hb hby d1_28) rfl ?_
    show Steps p.tables e below (T1033.setTop (mkF m 29 #[.val (.ref a1), .val (.int (5 : Int32)), .val (.int (5 : Int32))] [(.int (5 : Int32)), (.ref b1002)])) _
    refine XS.iloadN X1033.here hx rfl (hb hby d1_29) rfl ?_
    show Steps p.tables e below (T1033.setTop (mkF m 30 #[.val (.ref a1), .val (.int (5 : Int32)), .val (.int (5 : Int32))] [(.int (5 : Int32)), (.int (5 : Int32)), (.ref b1002)])) _
    refine st1034 _ ?_
    show Steps p.tables e below (T1034.setTop (mkF m 31 #[.val (.ref a1), .val (.int (5 : Int32)), .val (.int (5 : Int32))] [])) _
    refine XS.iinc X1034.here hx rfl (hb hby d1_31) rfl (l' := #[.val (.ref a1), .val (.int (5 : Int32)), .val (.int (6 : Int32))]) rfl ?_
    show Steps p.tables e below (T1034.setTop (mkF m 34 #[.val (.ref a1), .val (.int (5 : Int32)), .val (.int (6 : Int32))] [])) _
    refine XS.goto X1034.here hx rfl (pc0 := 34) (pc' := 15) rfl (hb hby d1_34) (by decide) (by decide) ?_
    show Steps p.tables e below (T1034.setTop (mkF m 15 #[.val (.ref a1), .val (.int (5 : Int32)), .val (.int (6 : Int32))] [])) _
    refine XS.iloadN X1034.here hx rfl (hb hby d1_15) rfl ?_
    show Steps p.tables e below (T1034.setTop (mkF m 16 #[.val (.ref a1), .val (.int (5 : Int32)), .val (.int (6 : Int32))] [(.int (6 : Int32))])) _
    refine XS.aloadN X1034.here hx rfl (hb hby d1_16) rfl rfl ?_
    show Steps p.tables e below (T1034.setTop (mkF m 17 #[.val (.ref a1), .val (.int (5 : Int32)), .val (.int (6 : Int32))] [(.ref a1), (.int (6 : Int32))])) _
    refine st1036 _ ?_
    show Steps p.tables e below (T1036.setTop (mkF m 20 #[.val (.ref a1), .val (.int (5 : Int32)), .val (.int (6 : Int32))] [(.ref b1002), (.int (6 : Int32))])) _
    refine X1036.arraylength hx (by rw [e1036]; exact Ar1037.1) (State.isArrayOf_alike hZ.alike Ar1037.2.1) (g := (mkF m 20 #[.val (.ref a1), .val (.int (5 : Int32)), .val (.int (6 : Int32))] [(.ref b1002), (.int (6 : Int32))])) rfl rfl (hb hby d1_20) _ ?_
    rw [len_of S1037 M1037]
    show Steps p.tables e below (T1036.setTop (mkF m 21 #[.val (.ref a1), .val (.int (5 : Int32)), .val (.int (6 : Int32))] [(.int (6 : Int32)), (.int (6 : Int32))])) _
    refine XS.icmpYes X1036.here hx rfl (pc0 := 21) (pc' := 37) rfl (hb hby d1_21) rfl (flt (by decide)).2.1 (by decide) (by decide) ?_
    show Steps p.tables e below (T1036.setTop (mkF m 37 #[.val (.ref a1), .val (.int (5 : Int32)), .val (.int (6 : Int32))] [])) _
    exact k)
  obtain ⟨fs, hr, hrun, hended, hW, hsame⟩ := X1036.leave (v := none) (fun _ => rfl)
  refine ⟨_, _, P1038 _ ?_, hrun, hended, _, _, rfl, ?_, ⟨_, rfl⟩, hW, hsame.mono (by decide) (by decide)⟩
  · exact X1036.returnOut hx Bd.returns (hb hby d1_37) hr
  · show Q_init Z a1 h0 n0 _ T1036.heap _
    rw [e1036]
    exact ⟨rfl, N1034, b1002, k1002, sz_b1002, K1034, c1035_0, c1035_1, V1034⟩
theorem ef_close (m : MethodId) (x0 : Addr) (x1 : Int32) : entryFrame m #[(.ref x0), (.int x1)] 2 = mkF m 0 #[.val (.ref x0), .val (.int x1)] [] := by first | (simp [entryFrame, mkF, argsToLocals, Value.category]; done) | rfl
def Q_close (Z : State) (a1 : Addr) (t1 : Addr) (k1 : ClassId) (xs : List Nat) (cd : Nat → Prop) (kk : Nat) (h0 : Heap) (n0 : Nat) (v : Option Value) (h : Heap) (L : List Loc) : Prop := v = none ∧ Fr n0 L ∧ ∃ xs' : List Nat, Keep h0 h [t1] ∧ Arv Z h t1 k1 .int 6 (own_vals xs') (.int 0) ∧ own_Inv (fun j => cd j ∨ j = kk) xs'
theorem d5_0 : decode prog_15_method_3_code 0 = .ok (.aload_n 0, 1) := by decide +kernel
theorem d5_1 : decode prog_15_method_3_code 1 = .ok (.getfield 7, 3) := by decide +kernel
theorem d5_4 : decode prog_15_method_3_code 4 = .ok (.iload_n 1, 1) := by decide +kernel
theorem d5_5 : decode prog_15_method_3_code 5 = .ok (.iload_n 1, 1) := by decide +kernel
theorem d5_6 : decode prog_15_method_3_code 6 = .ok (.iconst 1, 1) := by decide +kernel
theorem d5_7 : decode prog_15_method_3_code 7 = .ok (.iadd, 1) := by decide +kernel
theorem d5_8 : decode prog_15_method_3_code 8 = .ok (.iastore, 1) := by decide +kernel
theorem d5_9 : decode prog_15_method_3_code 9 = .ok (.return_, 1) := by decide +kernel
set_option maxRecDepth 65536 in
set_option maxHeartbeats 40000000 in
theorem rm_close (l : Launch) (Z : State) (a0 : Array Value) (hw : ∀ d ∈ tables_1, d.before a0 Z = true) (ws : List Jvm.Cond) (a1 : Addr) (t1 : Addr) (k1 : ClassId) (xs : List Nat) (cd : Nat → Prop) (kk : Nat) (h0 : Heap) (n0 : Nat) (Z0 : n0 ≤ h0.size) (F1 : Fld Z h0 a1 "com/example/slackline/slackline/solvers/OpenIndices" "onward" "[I" (.ref t1)) (V1 : Arv Z h0 t1 k1 .int 6 (own_vals xs) (.int 0)) (I1 : own_Inv cd xs) (g1 : n0 ≤ t1) (ne1 : a1 ≠ t1) (hk : kk < 5) :
    MetFree l (⟨"com/example/slackline/slackline/solvers/OpenIndices", "close", "(I)V"⟩ : MethodName) (head1 (Jvm.Cond.code (⟨"com/example/slackline/slackline/solvers/OpenIndices", "close", "(I)V"⟩ : MethodName) prog_15_method_3_code 2 none :: ws) ({ frames := 0, cells := 0, slots := 0, locals := 0 } : Room)) (fun a U => a = #[(.ref a1), (.int (Int32.ofNat kk))] ∧ Z.Warmed39 U.vm ∧ U.heap = h0) (fun _ _ _ _ _ => True) (fun _ U o U' => ∃ v L, o = .returned v ∧ Q_close Z a1 t1 k1 xs cd kk h0 n0 v U'.heap L ∧ FrameEnd U o U' L ({ frames := 0, cells := 0, slots := 0, locals := 0 } : Room).cells ({ frames := 0, cells := 0, slots := 0, locals := 0 } : Room).slots) := by
  refine MetFree.of_bodySF (plainFor_of_name pn_0) hisR ?_
  intro p e s m args below meth c s₁ Bd hml0 hP hK
  obtain ⟨rfl, hZ, hh⟩ := hP
  have hx := Bd.exec
  have hby := Bd.bytes
  have hml : c.maxLocals = 2 := hml0
  have hown : s.vm.findClass "com/example/slackline/slackline/solvers/OpenIndices" = some m.cls := findClass_of_methodNamed Bd.named
  have hnm := (name_of_methodNamed Bd.named Bd.method).1
  have X0 : Stand p l e ({ frames := 0, cells := 0, slots := 0, locals := 0 } : Room) s m #[(.ref a1), (.int (Int32.ofNat kk))] below meth c s₁ [] 0 0 := Stand.of_body Bd
  have e0 : s₁.heap = h0 := by rw [← hh, Bd.state]; rfl
  have N0 := Fr.nil n0
  have K0 : Keep h0 h0 [t1] := Keep.refl h0 [t1]
  have P0 : ∀ t, Steps p.tables e below (s₁.setTop (mkF m 0 #[.val (.ref a1), .val (.int (Int32.ofNat kk))] [])) t → Steps p.tables e below (s₁.setTop (entryFrame m #[(.ref a1), (.int (Int32.ofNat kk))] 2)) t := fun t k => castTop (ef_close m a1 (Int32.ofNat kk)) k
  obtain ⟨T1039, X1039, e1039, st1039⟩ := getF X0 hx hZ hown (host := "") (Or.inl (hw _ (List.mem_of_getElem? (i := 11) rfl))) Via.refl e0 F1 (g := (mkF m 1 #[.val (.ref a1), .val (.int (Int32.ofNat kk))] [(.ref a1)])) rfl rfl (hb hby d5_1)
  obtain ⟨cl1040, Ar1040, q1040, S1040, M1040, H1040, G1040⟩ := id V1
  have hin1040 : ¬ ((Int32.ofNat kk) < 0 ∨ cl1040.slots.size ≤ ((Int32.ofNat kk)).toNatClampNeg) := own_in S1040 (Nat.lt_of_lt_of_le hk (by decide))
  obtain ⟨T1040, h1040, X1040, e1040, W1040, st1040⟩ := stI X1039 hx hZ e1039 Ar1040 (j := (Int32.ofNat kk)) hin1040 (g := (mkF m 8 #[.val (.ref a1), .val (.int (Int32.ofNat kk))] [(.int ((Int32.ofNat kk) + (1 : Int32))), (.int (Int32.ofNat kk)), (.ref t1)])) rfl rfl (hb hby d5_8)
  have V1040 := own_setV (own_succ kk (Nat.lt_of_lt_of_le hk (by decide))) (Arv.set Ar1040 q1040 S1040 M1040 H1040 G1040 rfl W1040 kk (own_tn kk (Nat.lt_of_lt_of_le hk (by decide))) (by rw [own_len, I1.1]; omega))
  have c1041_0 := F1.other W1040 (Or.inl ne1)
  have Z1040 : n0 ≤ h1040.size := Nat.le_trans Z0 (Nat.le_of_eq W1040.size.symm)
  have K1040 : Keep h0 h1040 [t1] := K0.wr W1040 (Or.inl (List.mem_of_getElem? (i := 0) rfl))
  have N1040 := Fr.snoc X1040 N0 g1
  have P1042 : ∀ t, Steps p.tables e below (T1040.setTop (mkF m 9 #[.val (.ref a1), .val (.int (Int32.ofNat kk))] [])) t → Steps p.tables e below (s₁.setTop (entryFrame m #[(.ref a1), (.int (Int32.ofNat kk))] 2)) t := fun t k => P0 t (by
    refine XS.aloadN X0.here hx rfl (hb hby d5_0) rfl rfl ?_
    show Steps p.tables e below (s₁.setTop (mkF m 1 #[.val (.ref a1), .val (.int (Int32.ofNat kk))] [(.ref a1)])) _
    refine st1039 _ ?_
    show Steps p.tables e below (T1039.setTop (mkF m 4 #[.val (.ref a1), .val (.int (Int32.ofNat kk))] [(.ref t1)])) _
    refine XS.iloadN X1039.here hx rfl (hb hby d5_4) rfl ?_
    show Steps p.tables e below (T1039.setTop (mkF m 5 #[.val (.ref a1), .val (.int (Int32.ofNat kk))] [(.int (Int32.ofNat kk)), (.ref t1)])) _
    refine XS.iloadN X1039.here hx rfl (hb hby d5_5) rfl ?_
    show Steps p.tables e below (T1039.setTop (mkF m 6 #[.val (.ref a1), .val (.int (Int32.ofNat kk))] [(.int (Int32.ofNat kk)), (.int (Int32.ofNat kk)), (.ref t1)])) _
    refine XS.iconst X1039.here hx rfl (hb hby d5_6) ?_
    show Steps p.tables e below (T1039.setTop (mkF m 7 #[.val (.ref a1), .val (.int (Int32.ofNat kk))] [(.int (1 : Int32)), (.int (Int32.ofNat kk)), (.int (Int32.ofNat kk)), (.ref t1)])) _
    refine XS.iadd X1039.here hx rfl (hb hby d5_7) rfl ?_
    show Steps p.tables e below (T1039.setTop (mkF m 8 #[.val (.ref a1), .val (.int (Int32.ofNat kk))] [(.int ((Int32.ofNat kk) + (1 : Int32))), (.int (Int32.ofNat kk)), (.ref t1)])) _
    refine st1040 _ ?_
    show Steps p.tables e below (T1040.setTop (mkF m 9 #[.val (.ref a1), .val (.int (Int32.ofNat kk))] [])) _
    exact k)
  obtain ⟨fs, hr, hrun, hended, hW, hsame⟩ := X1040.leave (v := none) (fun _ => rfl)
  refine ⟨_, _, P1042 _ ?_, hrun, hended, _, _, rfl, ?_, ⟨_, rfl⟩, hW, hsame.mono (by decide) (by decide)⟩
  · exact X1040.returnOut hx Bd.returns (hb hby d5_9) hr
  · show Q_close Z a1 t1 k1 xs cd kk h0 n0 _ T1040.heap _
    rw [e1040]
    exact ⟨rfl, N1040, xs.set kk (kk + 1), K1040, V1040, own_Inv_close I1 hk⟩
theorem ef_some (m : MethodId) (x0 : Addr) (x1 : Int32) : entryFrame m #[(.ref x0), (.int x1)] 2 = mkF m 0 #[.val (.ref x0), .val (.int x1)] [] := by first | (simp [entryFrame, mkF, argsToLocals, Value.category]; done) | rfl
def Q_some (Z : State) (a1 : Addr) (t1 : Addr) (k1 : ClassId) (xs : List Nat) (cd : Nat → Prop) (u1 : Int32) (h0 : Heap) (n0 : Nat) (v : Option Value) (h : Heap) (L : List Loc) : Prop := v = none ∧ Fr n0 L ∧ ∃ xs' : List Nat, Keep h0 h [t1] ∧ Arv Z h t1 k1 .int 6 (own_vals xs') (.int 0) ∧ own_Inv (own_cm u1 cd) xs'
theorem pn_1 : plainName "com/example/slackline/slackline/solvers/OpenIndicesNextPinLaw" = true := by first | (simp [plainName, overriddenIn]; done) | decide +kernel
theorem d3_0 : decode method_2_code 0 = .ok (.iload_n 1, 1) := by decide +kernel
theorem d3_1 : decode method_2_code 1 = .ok (.iconst 1, 1) := by decide +kernel
theorem d3_2 : decode method_2_code 2 = .ok (.iand, 1) := by decide +kernel
theorem d3_3 : decode method_2_code 3 = .ok (.ifCond .eq 8, 3) := by decide +kernel
theorem d3_6 : decode method_2_code 6 = .ok (.aload_n 0, 1) := by decide +kernel
theorem d3_7 : decode method_2_code 7 = .ok (.iconst 0, 1) := by decide +kernel
theorem d3_8 : decode method_2_code 8 = .ok (.invokevirtual 7, 3) := by decide +kernel
theorem pd_0 : parseMethodDescriptor "(I)V" = some ⟨[.int], none⟩ := by decide +kernel
theorem d3_11 : decode method_2_code 11 = .ok (.iload_n 1, 1) := by decide +kernel
theorem d3_12 : decode method_2_code 12 = .ok (.iconst 2, 1) := by decide +kernel
theorem d3_13 : decode method_2_code 13 = .ok (.iand, 1) := by decide +kernel
theorem d3_14 : decode method_2_code 14 = .ok (.ifCond .eq 8, 3) := by decide +kernel
theorem d3_17 : decode method_2_code 17 = .ok (.aload_n 0, 1) := by decide +kernel
theorem d3_18 : decode method_2_code 18 = .ok (.iconst 1, 1) := by decide +kernel
theorem d3_19 : decode method_2_code 19 = .ok (.invokevirtual 7, 3) := by decide +kernel
theorem d3_22 : decode method_2_code 22 = .ok (.iload_n 1, 1) := by decide +kernel
theorem d3_23 : decode method_2_code 23 = .ok (.iconst 4, 1) := by decide +kernel
theorem d3_24 : decode method_2_code 24 = .ok (.iand, 1) := by decide +kernel
theorem d3_25 : decode method_2_code 25 = .ok (.ifCond .eq 8, 3) := by decide +kernel
theorem d3_28 : decode method_2_code 28 = .ok (.aload_n 0, 1) := by decide +kernel
theorem d3_29 : decode method_2_code 29 = .ok (.iconst 2, 1) := by decide +kernel
theorem d3_30 : decode method_2_code 30 = .ok (.invokevirtual 7, 3) := by decide +kernel
theorem d3_33 : decode method_2_code 33 = .ok (.iload_n 1, 1) := by decide +kernel
theorem d3_34 : decode method_2_code 34 = .ok (.bipush 8, 2) := by decide +kernel
theorem d3_36 : decode method_2_code 36 = .ok (.iand, 1) := by decide +kernel
theorem d3_37 : decode method_2_code 37 = .ok (.ifCond .eq 8, 3) := by decide +kernel
theorem d3_40 : decode method_2_code 40 = .ok (.aload_n 0, 1) := by decide +kernel
theorem d3_41 : decode method_2_code 41 = .ok (.iconst 3, 1) := by decide +kernel
theorem d3_42 : decode method_2_code 42 = .ok (.invokevirtual 7, 3) := by decide +kernel
theorem d3_45 : decode method_2_code 45 = .ok (.iload_n 1, 1) := by decide +kernel
theorem d3_46 : decode method_2_code 46 = .ok (.bipush 16, 2) := by decide +kernel
theorem d3_48 : decode method_2_code 48 = .ok (.iand, 1) := by decide +kernel
theorem d3_49 : decode method_2_code 49 = .ok (.ifCond .eq 8, 3) := by decide +kernel
theorem d3_52 : decode method_2_code 52 = .ok (.aload_n 0, 1) := by decide +kernel
theorem d3_53 : decode method_2_code 53 = .ok (.iconst 4, 1) := by decide +kernel
theorem d3_54 : decode method_2_code 54 = .ok (.invokevirtual 7, 3) := by decide +kernel
theorem d3_57 : decode method_2_code 57 = .ok (.return_, 1) := by decide +kernel
set_option maxRecDepth 65536 in
set_option maxHeartbeats 40000000 in
theorem rm_some (l : Launch) (Z : State) (a0 : Array Value) (hw : ∀ d ∈ tables_1, d.before a0 Z = true) (ws : List Jvm.Cond) (a1 : Addr) (t1 : Addr) (k1 : ClassId) (xs : List Nat) (cd : Nat → Prop) (u1 : Int32) (h0 : Heap) (n0 : Nat) (Z0 : n0 ≤ h0.size) (F1 : Fld Z h0 a1 "com/example/slackline/slackline/solvers/OpenIndices" "onward" "[I" (.ref t1)) (V1 : Arv Z h0 t1 k1 .int 6 (own_vals xs) (.int 0)) (I1 : own_Inv cd xs) (g1 : n0 ≤ t1) (ne1 : a1 ≠ t1) (E1 : Exa Z h0 a1 "com/example/slackline/slackline/solvers/OpenIndices") :
    MetFree l (⟨"com/example/slackline/slackline/solvers/OpenIndicesNextPinLaw", "closeSome", "(Lcom/example/slackline/slackline/solvers/OpenIndices;I)V"⟩ : MethodName) (head1 (Jvm.Cond.code (⟨"com/example/slackline/slackline/solvers/OpenIndicesNextPinLaw", "closeSome", "(Lcom/example/slackline/slackline/solvers/OpenIndices;I)V"⟩ : MethodName) method_2_code 2 none :: ws) ({ frames := 1, cells := 0, slots := 0, locals := 13 } : Room)) (fun a U => a = #[(.ref a1), (.int u1)] ∧ Z.Warmed39 U.vm ∧ U.heap = h0) (fun _ _ _ _ _ => True) (fun _ U o U' => ∃ v L, o = .returned v ∧ Q_some Z a1 t1 k1 xs cd u1 h0 n0 v U'.heap L ∧ FrameEnd U o U' L ({ frames := 1, cells := 0, slots := 0, locals := 13 } : Room).cells ({ frames := 1, cells := 0, slots := 0, locals := 13 } : Room).slots) := by
  refine MetFree.of_bodySF (plainFor_of_name pn_1) hisR ?_
  intro p e s m args below meth c s₁ Bd hml0 hP hK
  obtain ⟨rfl, hZ, hh⟩ := hP
  have hx := Bd.exec
  have hby := Bd.bytes
  have hml : c.maxLocals = 2 := hml0
  have hown : s.vm.findClass "com/example/slackline/slackline/solvers/OpenIndicesNextPinLaw" = some m.cls := findClass_of_methodNamed Bd.named
  have hnm := (name_of_methodNamed Bd.named Bd.method).1
  have X0 : Stand p l e ({ frames := 1, cells := 0, slots := 0, locals := 13 } : Room) s m #[(.ref a1), (.int u1)] below meth c s₁ [] 0 0 := Stand.of_body Bd
  have e0 : s₁.heap = h0 := by rw [← hh, Bd.state]; rfl
  have N0 := Fr.nil n0
  have K0 : Keep h0 h0 [t1] := Keep.refl h0 [t1]
  have P0 : ∀ t, Steps p.tables e below (s₁.setTop (mkF m 0 #[.val (.ref a1), .val (.int u1)] [])) t → Steps p.tables e below (s₁.setTop (entryFrame m #[(.ref a1), (.int u1)] 2)) t := fun t k => castTop (ef_some m a1 u1) k
  have P1043 : ∀ t, Steps p.tables e below (s₁.setTop (mkF m 3 #[.val (.ref a1), .val (.int u1)] [(.int (u1 &&& (1 : Int32)))])) t → Steps p.tables e below (s₁.setTop (entryFrame m #[(.ref a1), (.int u1)] 2)) t := fun t k => P0 t (by
    refine XS.iloadN X0.here hx rfl (hb hby d3_0) rfl ?_
    show Steps p.tables e below (s₁.setTop (mkF m 1 #[.val (.ref a1), .val (.int u1)] [(.int u1)])) _
    refine XS.iconst X0.here hx rfl (hb hby d3_1) ?_
    show Steps p.tables e below (s₁.setTop (mkF m 2 #[.val (.ref a1), .val (.int u1)] [(.int (1 : Int32)), (.int u1)])) _
    refine XS.iand X0.here hx rfl (hb hby d3_2) rfl ?_
    show Steps p.tables e below (s₁.setTop (mkF m 3 #[.val (.ref a1), .val (.int u1)] [(.int (u1 &&& (1 : Int32)))])) _
    exact k)
  obtain ⟨T1044, h1044, L1044, xs1044, X1044, e1044, N1044, K1044, V1044, I1044, P1044⟩ : ∃ (T' : State) (h' : Heap) (Lc' : List Loc) (xs' : List Nat), Stand p l e ({ frames := 1, cells := 0, slots := 0, locals := 13 } : Room) s m #[(.ref a1), (.int u1)] below meth c T' Lc' 0 0 ∧ T'.heap = h' ∧ Fr n0 Lc' ∧ Keep h0 h' [t1] ∧ Arv Z h' t1 k1 .int 6 (own_vals xs') (.int 0) ∧ own_Inv (own_cl (¬ (u1 &&& (1 : Int32)) = (0 : Int32)) 0 cd) xs' ∧ ∀ t, Steps p.tables e below (T'.setTop (mkF m 11 #[.val (.ref a1), .val (.int u1)] [])) t → Steps p.tables e below (s₁.setTop (entryFrame m #[(.ref a1), (.int u1)] 2)) t := by
    by_cases hb1 : (u1 &&& (1 : Int32)) = (0 : Int32)
    · have P1045 : ∀ t, Steps p.tables e below (s₁.setTop (mkF m 11 #[.val (.ref a1), .val (.int u1)] [])) t → Steps p.tables e below (s₁.setTop (entryFrame m #[(.ref a1), (.int u1)] 2)) t := fun t k => P1043 t (by
        refine XS.ifYes X0.here hx rfl (pc0 := 3) (pc' := 11) rfl (hb hby d3_3) rfl ((if0 _ _).trans (teq hb1).1) (by decide) (by decide) ?_
        show Steps p.tables e below (s₁.setTop (mkF m 11 #[.val (.ref a1), .val (.int u1)] [])) _
        exact k)
      exact ⟨s₁, h0, _, xs, X0, e0, N0, K0, V1, own_cl_no (fun z => z hb1) I1, P1045⟩
    · obtain ⟨cq1046, kq1046, q1046a, q1046b, q1046c⟩ := isOf hZ e0 E1
      obtain ⟨_, _, ⟨T1046, L1046, k1046, n1046⟩, -, X1046, ⟨Lc1046, hQ1046, l1046, y1046, z1046⟩, st1046⟩ := X0.virtualBack hx (y := (⟨"com/example/slackline/slackline/solvers/OpenIndices", "close", "(I)V"⟩ : MethodName)) (z := (⟨"com/example/slackline/slackline/solvers/OpenIndices", "close", "(I)V"⟩ : MethodName)) hown (mvT hZ (hw _ (List.mem_of_getElem? (i := 22) rfl))) (mvT hZ (hw _ (List.mem_of_getElem? (i := 23) rfl))) (notFace_of_selects (args := #[]) (mvT hZ (hw _ (List.mem_of_getElem? (i := 25) rfl)))) (mvT hZ (hw _ (List.mem_of_getElem? (i := 25) rfl))) (mvT hZ (hw _ (List.mem_of_getElem? (i := 24) rfl))) (by decide) (backOf (W := 0) (rm_close l Z a0 hw [] a1 t1 k1 xs cd 0 h0 n0 Z0 F1 V1 I1 g1 ne1 (by decide)) hZ (hw _ (List.mem_of_getElem? (i := 26) rfl)) (hw _ (List.mem_of_getElem? (i := 3) rfl)) (by decide) (by decide)) q1046a q1046c (g := (mkF m 8 #[.val (.ref a1), .val (.int u1)] [(.int (0 : Int32)), (.ref a1)])) rfl (by rw [hml]; rfl) (Steps.refl _) (argsL := [(.int (0 : Int32))]) (rest := []) (lenOf pd_0 rfl) rfl (by show 2 * 0 + _ ≤ _; exact Nat.le_of_eq rfl) (hb hby d3_8) (fun _ _ => ⟨rfl, e0, (by decide : 0 + 0 ≤ _), (by decide : 0 + 0 ≤ _)⟩)
      dsimp only [Pt.U, Pt.locs, Pt.cells, Pt.slots] at X1046 l1046 y1046 z1046 st1046 hQ1046
      subst l1046 y1046 z1046
      obtain ⟨rfl, N1046q, xc, Kc, Vc, Ic⟩ := hQ1046
      have N1046 := Fr.app N0 N1046q
      have c1047_0 := F1.keep Kc (ninS ne1 nin0)
      have c1047_1 := E1.keep Kc
      have Z1046 : n0 ≤ T1046.heap.size := Nat.le_trans Z0 Kc.1
      have K1046 : Keep h0 T1046.heap [t1] := K0.trans Kc (allS (Or.inl (List.mem_of_getElem? (i := 0) rfl)) all0)
      have P1048 : ∀ t, Steps p.tables e below (T1046.setTop (mkF m 11 #[.val (.ref a1), .val (.int u1)] [])) t → Steps p.tables e below (s₁.setTop (entryFrame m #[(.ref a1), (.int u1)] 2)) t := fun t k => P1043 t (by
        refine XS.ifNo X0.here hx rfl (hb hby d3_3) rfl ((if0 _ _).trans (feq hb1).1) ?_
        show Steps p.tables e below (s₁.setTop (mkF m 6 #[.val (.ref a1), .val (.int u1)] [])) _
        refine XS.aloadN X0.here hx rfl (hb hby d3_6) rfl rfl ?_
        show Steps p.tables e below (s₁.setTop (mkF m 7 #[.val (.ref a1), .val (.int u1)] [(.ref a1)])) _
        refine XS.iconst X0.here hx rfl (hb hby d3_7) ?_
        show Steps p.tables e below (s₁.setTop (mkF m 8 #[.val (.ref a1), .val (.int u1)] [(.int (0 : Int32)), (.ref a1)])) _
        refine st1046.trans ?_
        show Steps p.tables e below (T1046.setTop (mkF m 11 #[.val (.ref a1), .val (.int u1)] [])) _
        exact k)
      exact ⟨T1046, _, _, xc, X1046, rfl, N1046, K1046, Vc, own_cl_yes hb1 Ic, P1048⟩
  have Z1044 : n0 ≤ h1044.size := Nat.le_trans Z0 K1044.1
  have F1044 := F1.keep K1044 (ninS ne1 nin0)
  have E1044 := E1.keep K1044
  have P1049 : ∀ t, Steps p.tables e below (T1044.setTop (mkF m 14 #[.val (.ref a1), .val (.int u1)] [(.int (u1 &&& (2 : Int32)))])) t → Steps p.tables e below (s₁.setTop (entryFrame m #[(.ref a1), (.int u1)] 2)) t := fun t k => P1044 t (by
    refine XS.iloadN X1044.here hx rfl (hb hby d3_11) rfl ?_
    show Steps p.tables e below (T1044.setTop (mkF m 12 #[.val (.ref a1), .val (.int u1)] [(.int u1)])) _
    refine XS.iconst X1044.here hx rfl (hb hby d3_12) ?_
    show Steps p.tables e below (T1044.setTop (mkF m 13 #[.val (.ref a1), .val (.int u1)] [(.int (2 : Int32)), (.int u1)])) _
    refine XS.iand X1044.here hx rfl (hb hby d3_13) rfl ?_
    show Steps p.tables e below (T1044.setTop (mkF m 14 #[.val (.ref a1), .val (.int u1)] [(.int (u1 &&& (2 : Int32)))])) _
    exact k)
  obtain ⟨T1050, h1050, L1050, xs1050, X1050, e1050, N1050, K1050, V1050, I1050, P1050⟩ : ∃ (T' : State) (h' : Heap) (Lc' : List Loc) (xs' : List Nat), Stand p l e ({ frames := 1, cells := 0, slots := 0, locals := 13 } : Room) s m #[(.ref a1), (.int u1)] below meth c T' Lc' 0 0 ∧ T'.heap = h' ∧ Fr n0 Lc' ∧ Keep h0 h' [t1] ∧ Arv Z h' t1 k1 .int 6 (own_vals xs') (.int 0) ∧ own_Inv (own_cl (¬ (u1 &&& (2 : Int32)) = (0 : Int32)) 1 (own_cl (¬ (u1 &&& (1 : Int32)) = (0 : Int32)) 0 cd)) xs' ∧ ∀ t, Steps p.tables e below (T'.setTop (mkF m 22 #[.val (.ref a1), .val (.int u1)] [])) t → Steps p.tables e below (s₁.setTop (entryFrame m #[(.ref a1), (.int u1)] 2)) t := by
    by_cases hb2 : (u1 &&& (2 : Int32)) = (0 : Int32)
    · have P1051 : ∀ t, Steps p.tables e below (T1044.setTop (mkF m 22 #[.val (.ref a1), .val (.int u1)] [])) t → Steps p.tables e below (s₁.setTop (entryFrame m #[(.ref a1), (.int u1)] 2)) t := fun t k => P1049 t (by
        refine XS.ifYes X1044.here hx rfl (pc0 := 14) (pc' := 22) rfl (hb hby d3_14) rfl ((if0 _ _).trans (teq hb2).1) (by decide) (by decide) ?_
        show Steps p.tables e below (T1044.setTop (mkF m 22 #[.val (.ref a1), .val (.int u1)] [])) _
        exact k)
      exact ⟨T1044, h1044, _, xs1044, X1044, e1044, N1044, K1044, V1044, own_cl_no (fun z => z hb2) I1044, P1051⟩
    · obtain ⟨cq1052, kq1052, q1052a, q1052b, q1052c⟩ := isOf hZ e1044 E1044
      obtain ⟨_, _, ⟨T1052, L1052, k1052, n1052⟩, -, X1052, ⟨Lc1052, hQ1052, l1052, y1052, z1052⟩, st1052⟩ := X1044.virtualBack hx (y := (⟨"com/example/slackline/slackline/solvers/OpenIndices", "close", "(I)V"⟩ : MethodName)) (z := (⟨"com/example/slackline/slackline/solvers/OpenIndices", "close", "(I)V"⟩ : MethodName)) hown (mvT hZ (hw _ (List.mem_of_getElem? (i := 22) rfl))) (mvT hZ (hw _ (List.mem_of_getElem? (i := 23) rfl))) (notFace_of_selects (args := #[]) (mvT hZ (hw _ (List.mem_of_getElem? (i := 25) rfl)))) (mvT hZ (hw _ (List.mem_of_getElem? (i := 25) rfl))) (mvT hZ (hw _ (List.mem_of_getElem? (i := 24) rfl))) (by decide) (backOf (W := 0) (rm_close l Z a0 hw [] a1 t1 k1 xs1044 (own_cl (¬ (u1 &&& (1 : Int32)) = (0 : Int32)) 0 cd) 1 h1044 n0 Z1044 F1044 V1044 I1044 g1 ne1 (by decide)) hZ (hw _ (List.mem_of_getElem? (i := 26) rfl)) (hw _ (List.mem_of_getElem? (i := 3) rfl)) (by decide) (by decide)) q1052a q1052c (g := (mkF m 19 #[.val (.ref a1), .val (.int u1)] [(.int (1 : Int32)), (.ref a1)])) rfl (by rw [hml]; rfl) (Steps.refl _) (argsL := [(.int (1 : Int32))]) (rest := []) (lenOf pd_0 rfl) rfl (by show 2 * 0 + _ ≤ _; exact Nat.le_of_eq rfl) (hb hby d3_19) (fun _ _ => ⟨rfl, e1044, (by decide : 0 + 0 ≤ _), (by decide : 0 + 0 ≤ _)⟩)
      dsimp only [Pt.U, Pt.locs, Pt.cells, Pt.slots] at X1052 l1052 y1052 z1052 st1052 hQ1052
      subst l1052 y1052 z1052
      obtain ⟨rfl, N1052q, xc, Kc, Vc, Ic⟩ := hQ1052
      have N1052 := Fr.app N1044 N1052q
      have c1053_0 := F1044.keep Kc (ninS ne1 nin0)
      have c1053_1 := E1044.keep Kc
      have Z1052 : n0 ≤ T1052.heap.size := Nat.le_trans Z1044 Kc.1
      have K1052 : Keep h0 T1052.heap [t1] := K1044.trans Kc (allS (Or.inl (List.mem_of_getElem? (i := 0) rfl)) all0)
      have P1054 : ∀ t, Steps p.tables e below (T1052.setTop (mkF m 22 #[.val (.ref a1), .val (.int u1)] [])) t → Steps p.tables e below (s₁.setTop (entryFrame m #[(.ref a1), (.int u1)] 2)) t := fun t k => P1049 t (by
        refine XS.ifNo X1044.here hx rfl (hb hby d3_14) rfl ((if0 _ _).trans (feq hb2).1) ?_
        show Steps p.tables e below (T1044.setTop (mkF m 17 #[.val (.ref a1), .val (.int u1)] [])) _
        refine XS.aloadN X1044.here hx rfl (hb hby d3_17) rfl rfl ?_
        show Steps p.tables e below (T1044.setTop (mkF m 18 #[.val (.ref a1), .val (.int u1)] [(.ref a1)])) _
        refine XS.iconst X1044.here hx rfl (hb hby d3_18) ?_
        show Steps p.tables e below (T1044.setTop (mkF m 19 #[.val (.ref a1), .val (.int u1)] [(.int (1 : Int32)), (.ref a1)])) _
        refine st1052.trans ?_
        show Steps p.tables e below (T1052.setTop (mkF m 22 #[.val (.ref a1), .val (.int u1)] [])) _
        exact k)
      exact ⟨T1052, _, _, xc, X1052, rfl, N1052, K1052, Vc, own_cl_yes hb2 Ic, P1054⟩
  have Z1050 : n0 ≤ h1050.size := Nat.le_trans Z0 K1050.1
  have F1050 := F1.keep K1050 (ninS ne1 nin0)
  have E1050 := E1.keep K1050
  have P1055 : ∀ t, Steps p.tables e below (T1050.setTop (mkF m 25 #[.val (.ref a1), .val (.int u1)] [(.int (u1 &&& (4 : Int32)))])) t → Steps p.tables e below (s₁.setTop (entryFrame m #[(.ref a1), (.int u1)] 2)) t := fun t k => P1050 t (by
    refine XS.iloadN X1050.here hx rfl (hb hby d3_22) rfl ?_
    show Steps p.tables e below (T1050.setTop (mkF m 23 #[.val (.ref a1), .val (.int u1)] [(.int u1)])) _
    refine XS.iconst X1050.here hx rfl (hb hby d3_23) ?_
    show Steps p.tables e below (T1050.setTop (mkF m 24 #[.val (.ref a1), .val (.int u1)] [(.int (4 : Int32)), (.int u1)])) _
    refine XS.iand X1050.here hx rfl (hb hby d3_24) rfl ?_
    show Steps p.tables e below (T1050.setTop (mkF m 25 #[.val (.ref a1), .val (.int u1)] [(.int (u1 &&& (4 : Int32)))])) _
    exact k)
  obtain ⟨T1056, h1056, L1056, xs1056, X1056, e1056, N1056, K1056, V1056, I1056, P1056⟩ : ∃ (T' : State) (h' : Heap) (Lc' : List Loc) (xs' : List Nat), Stand p l e ({ frames := 1, cells := 0, slots := 0, locals := 13 } : Room) s m #[(.ref a1), (.int u1)] below meth c T' Lc' 0 0 ∧ T'.heap = h' ∧ Fr n0 Lc' ∧ Keep h0 h' [t1] ∧ Arv Z h' t1 k1 .int 6 (own_vals xs') (.int 0) ∧ own_Inv (own_cl (¬ (u1 &&& (4 : Int32)) = (0 : Int32)) 2 (own_cl (¬ (u1 &&& (2 : Int32)) = (0 : Int32)) 1 (own_cl (¬ (u1 &&& (1 : Int32)) = (0 : Int32)) 0 cd))) xs' ∧ ∀ t, Steps p.tables e below (T'.setTop (mkF m 33 #[.val (.ref a1), .val (.int u1)] [])) t → Steps p.tables e below (s₁.setTop (entryFrame m #[(.ref a1), (.int u1)] 2)) t := by
    by_cases hb4 : (u1 &&& (4 : Int32)) = (0 : Int32)
    · have P1057 : ∀ t, Steps p.tables e below (T1050.setTop (mkF m 33 #[.val (.ref a1), .val (.int u1)] [])) t → Steps p.tables e below (s₁.setTop (entryFrame m #[(.ref a1), (.int u1)] 2)) t := fun t k => P1055 t (by
        refine XS.ifYes X1050.here hx rfl (pc0 := 25) (pc' := 33) rfl (hb hby d3_25) rfl ((if0 _ _).trans (teq hb4).1) (by decide) (by decide) ?_
        show Steps p.tables e below (T1050.setTop (mkF m 33 #[.val (.ref a1), .val (.int u1)] [])) _
        exact k)
      exact ⟨T1050, h1050, _, xs1050, X1050, e1050, N1050, K1050, V1050, own_cl_no (fun z => z hb4) I1050, P1057⟩
    · obtain ⟨cq1058, kq1058, q1058a, q1058b, q1058c⟩ := isOf hZ e1050 E1050
      obtain ⟨_, _, ⟨T1058, L1058, k1058, n1058⟩, -, X1058, ⟨Lc1058, hQ1058, l1058, y1058, z1058⟩, st1058⟩ := X1050.virtualBack hx (y := (⟨"com/example/slackline/slackline/solvers/OpenIndices", "close", "(I)V"⟩ : MethodName)) (z := (⟨"com/example/slackline/slackline/solvers/OpenIndices", "close", "(I)V"⟩ : MethodName)) hown (mvT hZ (hw _ (List.mem_of_getElem? (i := 22) rfl))) (mvT hZ (hw _ (List.mem_of_getElem? (i := 23) rfl))) (notFace_of_selects (args := #[]) (mvT hZ (hw _ (List.mem_of_getElem? (i := 25) rfl)))) (mvT hZ (hw _ (List.mem_of_getElem? (i := 25) rfl))) (mvT hZ (hw _ (List.mem_of_getElem? (i := 24) rfl))) (by decide) (backOf (W := 0) (rm_close l Z a0 hw [] a1 t1 k1 xs1050 (own_cl (¬ (u1 &&& (2 : Int32)) = (0 : Int32)) 1 (own_cl (¬ (u1 &&& (1 : Int32)) = (0 : Int32)) 0 cd)) 2 h1050 n0 Z1050 F1050 V1050 I1050 g1 ne1 (by decide)) hZ (hw _ (List.mem_of_getElem? (i := 26) rfl)) (hw _ (List.mem_of_getElem? (i := 3) rfl)) (by decide) (by decide)) q1058a q1058c (g := (mkF m 30 #[.val (.ref a1), .val (.int u1)] [(.int (2 : Int32)), (.ref a1)])) rfl (by rw [hml]; rfl) (Steps.refl _) (argsL := [(.int (2 : Int32))]) (rest := []) (lenOf pd_0 rfl) rfl (by show 2 * 0 + _ ≤ _; exact Nat.le_of_eq rfl) (hb hby d3_30) (fun _ _ => ⟨rfl, e1050, (by decide : 0 + 0 ≤ _), (by decide : 0 + 0 ≤ _)⟩)
      dsimp only [Pt.U, Pt.locs, Pt.cells, Pt.slots] at X1058 l1058 y1058 z1058 st1058 hQ1058
      subst l1058 y1058 z1058
      obtain ⟨rfl, N1058q, xc, Kc, Vc, Ic⟩ := hQ1058
      have N1058 := Fr.app N1050 N1058q
      have c1059_0 := F1050.keep Kc (ninS ne1 nin0)
      have c1059_1 := E1050.keep Kc
      have Z1058 : n0 ≤ T1058.heap.size := Nat.le_trans Z1050 Kc.1
      have K1058 : Keep h0 T1058.heap [t1] := K1050.trans Kc (allS (Or.inl (List.mem_of_getElem? (i := 0) rfl)) all0)
      have P1060 : ∀ t, Steps p.tables e below (T1058.setTop (mkF m 33 #[.val (.ref a1), .val (.int u1)] [])) t → Steps p.tables e below (s₁.setTop (entryFrame m #[(.ref a1), (.int u1)] 2)) t := fun t k => P1055 t (by
        refine XS.ifNo X1050.here hx rfl (hb hby d3_25) rfl ((if0 _ _).trans (feq hb4).1) ?_
        show Steps p.tables e below (T1050.setTop (mkF m 28 #[.val (.ref a1), .val (.int u1)] [])) _
        refine XS.aloadN X1050.here hx rfl (hb hby d3_28) rfl rfl ?_
        show Steps p.tables e below (T1050.setTop (mkF m 29 #[.val (.ref a1), .val (.int u1)] [(.ref a1)])) _
        refine XS.iconst X1050.here hx rfl (hb hby d3_29) ?_
        show Steps p.tables e below (T1050.setTop (mkF m 30 #[.val (.ref a1), .val (.int u1)] [(.int (2 : Int32)), (.ref a1)])) _
        refine st1058.trans ?_
        show Steps p.tables e below (T1058.setTop (mkF m 33 #[.val (.ref a1), .val (.int u1)] [])) _
        exact k)
      exact ⟨T1058, _, _, xc, X1058, rfl, N1058, K1058, Vc, own_cl_yes hb4 Ic, P1060⟩
  have Z1056 : n0 ≤ h1056.size := Nat.le_trans Z0 K1056.1
  have F1056 := F1.keep K1056 (ninS ne1 nin0)
  have E1056 := E1.keep K1056
  have P1061 : ∀ t, Steps p.tables e below (T1056.setTop (mkF m 37 #[.val (.ref a1), .val (.int u1)] [(.int (u1 &&& (8 : Int32)))])) t → Steps p.tables e below (s₁.setTop (entryFrame m #[(.ref a1), (.int u1)] 2)) t := fun t k => P1056 t (by
    refine XS.iloadN X1056.here hx rfl (hb hby d3_33) rfl ?_
    show Steps p.tables e below (T1056.setTop (mkF m 34 #[.val (.ref a1), .val (.int u1)] [(.int u1)])) _
    refine XS.bipush X1056.here hx rfl (hb hby d3_34) ?_
    show Steps p.tables e below (T1056.setTop (mkF m 36 #[.val (.ref a1), .val (.int u1)] [(.int (8 : Int32)), (.int u1)])) _
    refine XS.iand X1056.here hx rfl (hb hby d3_36) rfl ?_
    show Steps p.tables e below (T1056.setTop (mkF m 37 #[.val (.ref a1), .val (.int u1)] [(.int (u1 &&& (8 : Int32)))])) _
    exact k)
  obtain ⟨T1062, h1062, L1062, xs1062, X1062, e1062, N1062, K1062, V1062, I1062, P1062⟩ : ∃ (T' : State) (h' : Heap) (Lc' : List Loc) (xs' : List Nat), Stand p l e ({ frames := 1, cells := 0, slots := 0, locals := 13 } : Room) s m #[(.ref a1), (.int u1)] below meth c T' Lc' 0 0 ∧ T'.heap = h' ∧ Fr n0 Lc' ∧ Keep h0 h' [t1] ∧ Arv Z h' t1 k1 .int 6 (own_vals xs') (.int 0) ∧ own_Inv (own_cl (¬ (u1 &&& (8 : Int32)) = (0 : Int32)) 3 (own_cl (¬ (u1 &&& (4 : Int32)) = (0 : Int32)) 2 (own_cl (¬ (u1 &&& (2 : Int32)) = (0 : Int32)) 1 (own_cl (¬ (u1 &&& (1 : Int32)) = (0 : Int32)) 0 cd)))) xs' ∧ ∀ t, Steps p.tables e below (T'.setTop (mkF m 45 #[.val (.ref a1), .val (.int u1)] [])) t → Steps p.tables e below (s₁.setTop (entryFrame m #[(.ref a1), (.int u1)] 2)) t := by
    by_cases hb8 : (u1 &&& (8 : Int32)) = (0 : Int32)
    · have P1063 : ∀ t, Steps p.tables e below (T1056.setTop (mkF m 45 #[.val (.ref a1), .val (.int u1)] [])) t → Steps p.tables e below (s₁.setTop (entryFrame m #[(.ref a1), (.int u1)] 2)) t := fun t k => P1061 t (by
        refine XS.ifYes X1056.here hx rfl (pc0 := 37) (pc' := 45) rfl (hb hby d3_37) rfl ((if0 _ _).trans (teq hb8).1) (by decide) (by decide) ?_
        show Steps p.tables e below (T1056.setTop (mkF m 45 #[.val (.ref a1), .val (.int u1)] [])) _
        exact k)
      exact ⟨T1056, h1056, _, xs1056, X1056, e1056, N1056, K1056, V1056, own_cl_no (fun z => z hb8) I1056, P1063⟩
    · obtain ⟨cq1064, kq1064, q1064a, q1064b, q1064c⟩ := isOf hZ e1056 E1056
      obtain ⟨_, _, ⟨T1064, L1064, k1064, n1064⟩, -, X1064, ⟨Lc1064, hQ1064, l1064, y1064, z1064⟩, st1064⟩ := X1056.virtualBack hx (y := (⟨"com/example/slackline/slackline/solvers/OpenIndices", "close", "(I)V"⟩ : MethodName)) (z := (⟨"com/example/slackline/slackline/solvers/OpenIndices", "close", "(I)V"⟩ : MethodName)) hown (mvT hZ (hw _ (List.mem_of_getElem? (i := 22) rfl))) (mvT hZ (hw _ (List.mem_of_getElem? (i := 23) rfl))) (notFace_of_selects (args := #[]) (mvT hZ (hw _ (List.mem_of_getElem? (i := 25) rfl)))) (mvT hZ (hw _ (List.mem_of_getElem? (i := 25) rfl))) (mvT hZ (hw _ (List.mem_of_getElem? (i := 24) rfl))) (by decide) (backOf (W := 0) (rm_close l Z a0 hw [] a1 t1 k1 xs1056 (own_cl (¬ (u1 &&& (4 : Int32)) = (0 : Int32)) 2 (own_cl (¬ (u1 &&& (2 : Int32)) = (0 : Int32)) 1 (own_cl (¬ (u1 &&& (1 : Int32)) = (0 : Int32)) 0 cd))) 3 h1056 n0 Z1056 F1056 V1056 I1056 g1 ne1 (by decide)) hZ (hw _ (List.mem_of_getElem? (i := 26) rfl)) (hw _ (List.mem_of_getElem? (i := 3) rfl)) (by decide) (by decide)) q1064a q1064c (g := (mkF m 42 #[.val (.ref a1), .val (.int u1)] [(.int (3 : Int32)), (.ref a1)])) rfl (by rw [hml]; rfl) (Steps.refl _) (argsL := [(.int (3 : Int32))]) (rest := []) (lenOf pd_0 rfl) rfl (by show 2 * 0 + _ ≤ _; exact Nat.le_of_eq rfl) (hb hby d3_42) (fun _ _ => ⟨rfl, e1056, (by decide : 0 + 0 ≤ _), (by decide : 0 + 0 ≤ _)⟩)
      dsimp only [Pt.U, Pt.locs, Pt.cells, Pt.slots] at X1064 l1064 y1064 z1064 st1064 hQ1064
      subst l1064 y1064 z1064
      obtain ⟨rfl, N1064q, xc, Kc, Vc, Ic⟩ := hQ1064
      have N1064 := Fr.app N1056 N1064q
      have c1065_0 := F1056.keep Kc (ninS ne1 nin0)
      have c1065_1 := E1056.keep Kc
      have Z1064 : n0 ≤ T1064.heap.size := Nat.le_trans Z1056 Kc.1
      have K1064 : Keep h0 T1064.heap [t1] := K1056.trans Kc (allS (Or.inl (List.mem_of_getElem? (i := 0) rfl)) all0)
      have P1066 : ∀ t, Steps p.tables e below (T1064.setTop (mkF m 45 #[.val (.ref a1), .val (.int u1)] [])) t → Steps p.tables e below (s₁.setTop (entryFrame m #[(.ref a1), (.int u1)] 2)) t := fun t k => P1061 t (by
        refine XS.ifNo X1056.here hx rfl (hb hby d3_37) rfl ((if0 _ _).trans (feq hb8).1) ?_
        show Steps p.tables e below (T1056.setTop (mkF m 40 #[.val (.ref a1), .val (.int u1)] [])) _
        refine XS.aloadN X1056.here hx rfl (hb hby d3_40) rfl rfl ?_
        show Steps p.tables e below (T1056.setTop (mkF m 41 #[.val (.ref a1), .val (.int u1)] [(.ref a1)])) _
        refine XS.iconst X1056.here hx rfl (hb hby d3_41) ?_
        show Steps p.tables e below (T1056.setTop (mkF m 42 #[.val (.ref a1), .val (.int u1)] [(.int (3 : Int32)), (.ref a1)])) _
        refine st1064.trans ?_
        show Steps p.tables e below (T1064.setTop (mkF m 45 #[.val (.ref a1), .val (.int u1)] [])) _
        exact k)
      exact ⟨T1064, _, _, xc, X1064, rfl, N1064, K1064, Vc, own_cl_yes hb8 Ic, P1066⟩
  have Z1062 : n0 ≤ h1062.size := Nat.le_trans Z0 K1062.1
  have F1062 := F1.keep K1062 (ninS ne1 nin0)
  have E1062 := E1.keep K1062
  have P1067 : ∀ t, Steps p.tables e below (T1062.setTop (mkF m 49 #[.val (.ref a1), .val (.int u1)] [(.int (u1 &&& (16 : Int32)))])) t → Steps p.tables e below (s₁.setTop (entryFrame m #[(.ref a1), (.int u1)] 2)) t := fun t k => P1062 t (by
    refine XS.iloadN X1062.here hx rfl (hb hby d3_45) rfl ?_
    show Steps p.tables e below (T1062.setTop (mkF m 46 #[.val (.ref a1), .val (.int u1)] [(.int u1)])) _
    refine XS.bipush X1062.here hx rfl (hb hby d3_46) ?_
    show Steps p.tables e below (T1062.setTop (mkF m 48 #[.val (.ref a1), .val (.int u1)] [(.int (16 : Int32)), (.int u1)])) _
    refine XS.iand X1062.here hx rfl (hb hby d3_48) rfl ?_
    show Steps p.tables e below (T1062.setTop (mkF m 49 #[.val (.ref a1), .val (.int u1)] [(.int (u1 &&& (16 : Int32)))])) _
    exact k)
  obtain ⟨T1068, h1068, L1068, xs1068, X1068, e1068, N1068, K1068, V1068, I1068, P1068⟩ : ∃ (T' : State) (h' : Heap) (Lc' : List Loc) (xs' : List Nat), Stand p l e ({ frames := 1, cells := 0, slots := 0, locals := 13 } : Room) s m #[(.ref a1), (.int u1)] below meth c T' Lc' 0 0 ∧ T'.heap = h' ∧ Fr n0 Lc' ∧ Keep h0 h' [t1] ∧ Arv Z h' t1 k1 .int 6 (own_vals xs') (.int 0) ∧ own_Inv (own_cl (¬ (u1 &&& (16 : Int32)) = (0 : Int32)) 4 (own_cl (¬ (u1 &&& (8 : Int32)) = (0 : Int32)) 3 (own_cl (¬ (u1 &&& (4 : Int32)) = (0 : Int32)) 2 (own_cl (¬ (u1 &&& (2 : Int32)) = (0 : Int32)) 1 (own_cl (¬ (u1 &&& (1 : Int32)) = (0 : Int32)) 0 cd))))) xs' ∧ ∀ t, Steps p.tables e below (T'.setTop (mkF m 57 #[.val (.ref a1), .val (.int u1)] [])) t → Steps p.tables e below (s₁.setTop (entryFrame m #[(.ref a1), (.int u1)] 2)) t := by
    by_cases hb16 : (u1 &&& (16 : Int32)) = (0 : Int32)
    · have P1069 : ∀ t, Steps p.tables e below (T1062.setTop (mkF m 57 #[.val (.ref a1), .val (.int u1)] [])) t → Steps p.tables e below (s₁.setTop (entryFrame m #[(.ref a1), (.int u1)] 2)) t := fun t k => P1067 t (by
        refine XS.ifYes X1062.here hx rfl (pc0 := 49) (pc' := 57) rfl (hb hby d3_49) rfl ((if0 _ _).trans (teq hb16).1) (by decide) (by decide) ?_
        show Steps p.tables e below (T1062.setTop (mkF m 57 #[.val (.ref a1), .val (.int u1)] [])) _
        exact k)
      exact ⟨T1062, h1062, _, xs1062, X1062, e1062, N1062, K1062, V1062, own_cl_no (fun z => z hb16) I1062, P1069⟩
    · obtain ⟨cq1070, kq1070, q1070a, q1070b, q1070c⟩ := isOf hZ e1062 E1062
      obtain ⟨_, _, ⟨T1070, L1070, k1070, n1070⟩, -, X1070, ⟨Lc1070, hQ1070, l1070, y1070, z1070⟩, st1070⟩ := X1062.virtualBack hx (y := (⟨"com/example/slackline/slackline/solvers/OpenIndices", "close", "(I)V"⟩ : MethodName)) (z := (⟨"com/example/slackline/slackline/solvers/OpenIndices", "close", "(I)V"⟩ : MethodName)) hown (mvT hZ (hw _ (List.mem_of_getElem? (i := 22) rfl))) (mvT hZ (hw _ (List.mem_of_getElem? (i := 23) rfl))) (notFace_of_selects (args := #[]) (mvT hZ (hw _ (List.mem_of_getElem? (i := 25) rfl)))) (mvT hZ (hw _ (List.mem_of_getElem? (i := 25) rfl))) (mvT hZ (hw _ (List.mem_of_getElem? (i := 24) rfl))) (by decide) (backOf (W := 0) (rm_close l Z a0 hw [] a1 t1 k1 xs1062 (own_cl (¬ (u1 &&& (8 : Int32)) = (0 : Int32)) 3 (own_cl (¬ (u1 &&& (4 : Int32)) = (0 : Int32)) 2 (own_cl (¬ (u1 &&& (2 : Int32)) = (0 : Int32)) 1 (own_cl (¬ (u1 &&& (1 : Int32)) = (0 : Int32)) 0 cd)))) 4 h1062 n0 Z1062 F1062 V1062 I1062 g1 ne1 (by decide)) hZ (hw _ (List.mem_of_getElem? (i := 26) rfl)) (hw _ (List.mem_of_getElem? (i := 3) rfl)) (by decide) (by decide)) q1070a q1070c (g := (mkF m 54 #[.val (.ref a1), .val (.int u1)] [(.int (4 : Int32)), (.ref a1)])) rfl (by rw [hml]; rfl) (Steps.refl _) (argsL := [(.int (4 : Int32))]) (rest := []) (lenOf pd_0 rfl) rfl (by show 2 * 0 + _ ≤ _; exact Nat.le_of_eq rfl) (hb hby d3_54) (fun _ _ => ⟨rfl, e1062, (by decide : 0 + 0 ≤ _), (by decide : 0 + 0 ≤ _)⟩)
      dsimp only [Pt.U, Pt.locs, Pt.cells, Pt.slots] at X1070 l1070 y1070 z1070 st1070 hQ1070
      subst l1070 y1070 z1070
      obtain ⟨rfl, N1070q, xc, Kc, Vc, Ic⟩ := hQ1070
      have N1070 := Fr.app N1062 N1070q
      have c1071_0 := F1062.keep Kc (ninS ne1 nin0)
      have c1071_1 := E1062.keep Kc
      have Z1070 : n0 ≤ T1070.heap.size := Nat.le_trans Z1062 Kc.1
      have K1070 : Keep h0 T1070.heap [t1] := K1062.trans Kc (allS (Or.inl (List.mem_of_getElem? (i := 0) rfl)) all0)
      have P1072 : ∀ t, Steps p.tables e below (T1070.setTop (mkF m 57 #[.val (.ref a1), .val (.int u1)] [])) t → Steps p.tables e below (s₁.setTop (entryFrame m #[(.ref a1), (.int u1)] 2)) t := fun t k => P1067 t (by
        refine XS.ifNo X1062.here hx rfl (hb hby d3_49) rfl ((if0 _ _).trans (feq hb16).1) ?_
        show Steps p.tables e below (T1062.setTop (mkF m 52 #[.val (.ref a1), .val (.int u1)] [])) _
        refine XS.aloadN X1062.here hx rfl (hb hby d3_52) rfl rfl ?_
        show Steps p.tables e below (T1062.setTop (mkF m 53 #[.val (.ref a1), .val (.int u1)] [(.ref a1)])) _
        refine XS.iconst X1062.here hx rfl (hb hby d3_53) ?_
        show Steps p.tables e below (T1062.setTop (mkF m 54 #[.val (.ref a1), .val (.int u1)] [(.int (4 : Int32)), (.ref a1)])) _
        refine st1070.trans ?_
        show Steps p.tables e below (T1070.setTop (mkF m 57 #[.val (.ref a1), .val (.int u1)] [])) _
        exact k)
      exact ⟨T1070, _, _, xc, X1070, rfl, N1070, K1070, Vc, own_cl_yes hb16 Ic, P1072⟩
  have Z1068 : n0 ≤ h1068.size := Nat.le_trans Z0 K1068.1
  have F1068 := F1.keep K1068 (ninS ne1 nin0)
  have E1068 := E1.keep K1068
  obtain ⟨fs, hr, hrun, hended, hW, hsame⟩ := X1068.leave (v := none) (fun _ => rfl)
  refine ⟨_, _, P1068 _ ?_, hrun, hended, _, _, rfl, ?_, ⟨_, rfl⟩, hW, hsame.mono (by decide) (by decide)⟩
  · exact X1068.returnOut hx Bd.returns (hb hby d3_57) hr
  · show Q_some Z a1 t1 k1 xs cd u1 h0 n0 _ T1068.heap _
    rw [e1068]
    exact ⟨rfl, N1068, xs1068, K1068, V1068, I1068⟩
theorem d4_2 : decode prog_15_method_2_code 2 = .ok (.aload_n 0, 1) := by decide +kernel
theorem d4_3 : decode prog_15_method_2_code 3 = .ok (.getfield 7, 3) := by decide +kernel
theorem d4_6 : decode prog_15_method_2_code 6 = .ok (.iload_n 2, 1) := by decide +kernel
theorem d4_7 : decode prog_15_method_2_code 7 = .ok (.iaload, 1) := by decide +kernel
theorem d4_8 : decode prog_15_method_2_code 8 = .ok (.iload_n 2, 1) := by decide +kernel
theorem d4_9 : decode prog_15_method_2_code 9 = .ok (.if_icmp .eq 13, 3) := by decide +kernel
theorem d4_12 : decode prog_15_method_2_code 12 = .ok (.aload_n 0, 1) := by decide +kernel
theorem d4_13 : decode prog_15_method_2_code 13 = .ok (.getfield 7, 3) := by decide +kernel
theorem d4_16 : decode prog_15_method_2_code 16 = .ok (.iload_n 2, 1) := by decide +kernel
theorem d4_17 : decode prog_15_method_2_code 17 = .ok (.iaload, 1) := by decide +kernel
theorem d4_18 : decode prog_15_method_2_code 18 = .ok (.istore_n 2, 1) := by decide +kernel
theorem d4_19 : decode prog_15_method_2_code 19 = .ok (.goto (-17), 3) := by decide +kernel
set_option maxRecDepth 65536 in
set_option maxHeartbeats 40000000 in
theorem own_loop1 {p : Program} {l : Launch} {e : Env} {R : Room} {s : State} {m : MethodId} {args : Array Value} {below : List Frame} {meth : Method} {c : Code} {cells slots : Nat} {Z : State} {a0 : Array Value} {locs : List Loc} {h0 : Heap} (a1 t1 : Addr) (k1 : ClassId) (xs : List Nat) (cd : Nat → Prop) (i : Nat) (hx : p.tables.exec = Jvm.exec) (hZ : Z.Warmed39 s.vm) (hw : ∀ d ∈ tables_1, d.before a0 Z = true) (hby : c.code = prog_15_method_2_code) (hml : c.maxLocals = 5) (hown : s.vm.findClass "com/example/slackline/slackline/solvers/OpenIndices" = some m.cls) (F1 : Fld Z h0 a1 "com/example/slackline/slackline/solvers/OpenIndices" "onward" "[I" (.ref t1)) (V1 : Arv Z h0 t1 k1 .int 6 (own_vals xs) (.int 0)) (I1 : own_Inv cd xs) :
    ∀ (n cur : Nat) (T0 : State), 5 ≤ cur + n → i ≤ cur → cur ≤ 5 → (∀ j, i ≤ j → j < cur → cd j) → Stand p l e R s m args below meth c T0 locs cells slots → T0.heap = h0 →
    ∃ (T' : State) (r : Nat), Stand p l e R s m args below meth c T' locs cells slots ∧ T'.heap = h0 ∧ own_FO cd i r ∧ ∀ t, Steps p.tables e below (T'.setTop (mkF m 22 #[.val (.ref a1), .val (.int (Int32.ofNat i)), .val (.int (Int32.ofNat r)), .unset, .unset] [])) t → Steps p.tables e below (T0.setTop (mkF m 2 #[.val (.ref a1), .val (.int (Int32.ofNat i)), .val (.int (Int32.ofNat cur)), .unset, .unset] [])) t := by
  intro n cur T0 h0' h1 h2 h3 X0 e0
  have hI := I1.2 cur (by omega)
  have P0 : ∀ t, Steps p.tables e below (T0.setTop (mkF m 2 #[.val (.ref a1), .val (.int (Int32.ofNat i)), .val (.int (Int32.ofNat cur)), .unset, .unset] [])) t → Steps p.tables e below (T0.setTop (mkF m 2 #[.val (.ref a1), .val (.int (Int32.ofNat i)), .val (.int (Int32.ofNat cur)), .unset, .unset] [])) t := fun t k => k
  obtain ⟨T1073, X1073, e1073, st1073⟩ := getF X0 hx hZ hown (host := "") (Or.inl (hw _ (List.mem_of_getElem? (i := 11) rfl))) Via.refl e0 F1 (g := (mkF m 3 #[.val (.ref a1), .val (.int (Int32.ofNat i)), .val (.int (Int32.ofNat cur)), .unset, .unset] [(.ref a1)])) rfl rfl (hb hby d4_3)
  obtain ⟨cl1074, Ar1074, q1074, S1074, M1074, H1074, G1074⟩ := id V1
  have hin1074 : ¬ ((Int32.ofNat cur) < 0 ∨ cl1074.slots.size ≤ ((Int32.ofNat cur)).toNatClampNeg) := own_in S1074 (by omega)
  have hat1074 : cl1074.slots[((Int32.ofNat cur)).toNatClampNeg]? = some (.int (Int32.ofNat (xs.getD cur 0))) := own_at H1074 S1074 (by omega)
  have P1075 : ∀ t, Steps p.tables e below (T1073.setTop (mkF m 9 #[.val (.ref a1), .val (.int (Int32.ofNat i)), .val (.int (Int32.ofNat cur)), .unset, .unset] [(.int (Int32.ofNat cur)), (.int (Int32.ofNat (xs.getD cur 0)))])) t → Steps p.tables e below (T0.setTop (mkF m 2 #[.val (.ref a1), .val (.int (Int32.ofNat i)), .val (.int (Int32.ofNat cur)), .unset, .unset] [])) t := fun t k => P0 t (by
    refine XS.aloadN X0.here hx rfl (hb hby d4_2) rfl rfl ?_
    show Steps p.tables e below (T0.setTop (mkF m 3 #[.val (.ref a1), .val (.int (Int32.ofNat i)), .val (.int (Int32.ofNat cur)), .unset, .unset] [(.ref a1)])) _
    refine st1073 _ ?_
    show Steps p.tables e below (T1073.setTop (mkF m 6 #[.val (.ref a1), .val (.int (Int32.ofNat i)), .val (.int (Int32.ofNat cur)), .unset, .unset] [(.ref t1)])) _
    refine XS.iloadN X1073.here hx rfl (hb hby d4_6) rfl ?_
    show Steps p.tables e below (T1073.setTop (mkF m 7 #[.val (.ref a1), .val (.int (Int32.ofNat i)), .val (.int (Int32.ofNat cur)), .unset, .unset] [(.int (Int32.ofNat cur)), (.ref t1)])) _
    refine X1073.iaload hx (j := (Int32.ofNat cur)) (v := (.int (Int32.ofNat (xs.getD cur 0)))) (by rw [e1073]; exact Ar1074.1) (State.isArrayOf_alike hZ.alike Ar1074.2.1) Ar1074.2.2 hin1074 hat1074 (g := (mkF m 7 #[.val (.ref a1), .val (.int (Int32.ofNat i)), .val (.int (Int32.ofNat cur)), .unset, .unset] [(.int (Int32.ofNat cur)), (.ref t1)])) rfl rfl (hb hby d4_7) _ ?_
    show Steps p.tables e below (T1073.setTop (mkF m 8 #[.val (.ref a1), .val (.int (Int32.ofNat i)), .val (.int (Int32.ofNat cur)), .unset, .unset] [(.int (Int32.ofNat (xs.getD cur 0)))])) _
    refine XS.iloadN X1073.here hx rfl (hb hby d4_8) rfl ?_
    show Steps p.tables e below (T1073.setTop (mkF m 9 #[.val (.ref a1), .val (.int (Int32.ofNat i)), .val (.int (Int32.ofNat cur)), .unset, .unset] [(.int (Int32.ofNat cur)), (.int (Int32.ofNat (xs.getD cur 0)))])) _
    exact k)
  by_cases h9 : (Int32.ofNat (xs.getD cur 0)) = (Int32.ofNat cur)
  · have P1076 : ∀ t, Steps p.tables e below (T1073.setTop (mkF m 22 #[.val (.ref a1), .val (.int (Int32.ofNat i)), .val (.int (Int32.ofNat cur)), .unset, .unset] [])) t → Steps p.tables e below (T0.setTop (mkF m 2 #[.val (.ref a1), .val (.int (Int32.ofNat i)), .val (.int (Int32.ofNat cur)), .unset, .unset] [])) t := fun t k => P1075 t (by
      refine XS.icmpYes X1073.here hx rfl (pc0 := 9) (pc' := 22) rfl (hb hby d4_9) rfl (teq h9).1 (by decide) (by decide) ?_
      show Steps p.tables e below (T1073.setTop (mkF m 22 #[.val (.ref a1), .val (.int (Int32.ofNat i)), .val (.int (Int32.ofNat cur)), .unset, .unset] [])) _
      exact k)
    exact ⟨T1073, cur, X1073, e1073, ⟨h1, h2, (I1.2 cur (by omega)).2.2.1.mp (own_inj _ (by omega) _ (by omega) h9), h3⟩, P1076⟩
  · obtain ⟨T1077, X1077, e1077, st1077⟩ := getF X1073 hx hZ hown (host := "") (Or.inl (hw _ (List.mem_of_getElem? (i := 11) rfl))) Via.refl e1073 F1 (g := (mkF m 13 #[.val (.ref a1), .val (.int (Int32.ofNat i)), .val (.int (Int32.ofNat cur)), .unset, .unset] [(.ref a1)])) rfl rfl (hb hby d4_13)
    obtain ⟨cl1078, Ar1078, q1078, S1078, M1078, H1078, G1078⟩ := id V1
    have hin1078 : ¬ ((Int32.ofNat cur) < 0 ∨ cl1078.slots.size ≤ ((Int32.ofNat cur)).toNatClampNeg) := own_in S1078 (by omega)
    have hat1078 : cl1078.slots[((Int32.ofNat cur)).toNatClampNeg]? = some (.int (Int32.ofNat (xs.getD cur 0))) := own_at H1078 S1078 (by omega)
    have P1079 : ∀ t, Steps p.tables e below (T1077.setTop (mkF m 2 #[.val (.ref a1), .val (.int (Int32.ofNat i)), .val (.int (Int32.ofNat (xs.getD cur 0))), .unset, .unset] [])) t → Steps p.tables e below (T0.setTop (mkF m 2 #[.val (.ref a1), .val (.int (Int32.ofNat i)), .val (.int (Int32.ofNat cur)), .unset, .unset] [])) t := fun t k => P1075 t (by
      refine XS.icmpNo X1073.here hx rfl (hb hby d4_9) rfl (feq h9).1 ?_
      show Steps p.tables e below (T1073.setTop (mkF m 12 #[.val (.ref a1), .val (.int (Int32.ofNat i)), .val (.int (Int32.ofNat cur)), .unset, .unset] [])) _
      refine XS.aloadN X1073.here hx rfl (hb hby d4_12) rfl rfl ?_
      show Steps p.tables e below (T1073.setTop (mkF m 13 #[.val (.ref a1), .val (.int (Int32.ofNat i)), .val (.int (Int32.ofNat cur)), .unset, .unset] [(.ref a1)])) _
      refine st1077 _ ?_
      show Steps p.tables e below (T1077.setTop (mkF m 16 #[.val (.ref a1), .val (.int (Int32.ofNat i)), .val (.int (Int32.ofNat cur)), .unset, .unset] [(.ref t1)])) _
      refine XS.iloadN X1077.here hx rfl (hb hby d4_16) rfl ?_
      show Steps p.tables e below (T1077.setTop (mkF m 17 #[.val (.ref a1), .val (.int (Int32.ofNat i)), .val (.int (Int32.ofNat cur)), .unset, .unset] [(.int (Int32.ofNat cur)), (.ref t1)])) _
      refine X1077.iaload hx (j := (Int32.ofNat cur)) (v := (.int (Int32.ofNat (xs.getD cur 0)))) (by rw [e1077]; exact Ar1078.1) (State.isArrayOf_alike hZ.alike Ar1078.2.1) Ar1078.2.2 hin1078 hat1078 (g := (mkF m 17 #[.val (.ref a1), .val (.int (Int32.ofNat i)), .val (.int (Int32.ofNat cur)), .unset, .unset] [(.int (Int32.ofNat cur)), (.ref t1)])) rfl rfl (hb hby d4_17) _ ?_
      show Steps p.tables e below (T1077.setTop (mkF m 18 #[.val (.ref a1), .val (.int (Int32.ofNat i)), .val (.int (Int32.ofNat cur)), .unset, .unset] [(.int (Int32.ofNat (xs.getD cur 0)))])) _
      refine XS.istoreN X1077.here hx rfl (hb hby d4_18) rfl (l' := #[.val (.ref a1), .val (.int (Int32.ofNat i)), .val (.int (Int32.ofNat (xs.getD cur 0))), .unset, .unset]) rfl ?_
      show Steps p.tables e below (T1077.setTop (mkF m 19 #[.val (.ref a1), .val (.int (Int32.ofNat i)), .val (.int (Int32.ofNat (xs.getD cur 0))), .unset, .unset] [])) _
      refine XS.goto X1077.here hx rfl (pc0 := 19) (pc' := 2) rfl (hb hby d4_19) (by decide) (by decide) ?_
      show Steps p.tables e below (T1077.setTop (mkF m 2 #[.val (.ref a1), .val (.int (Int32.ofNat i)), .val (.int (Int32.ofNat (xs.getD cur 0))), .unset, .unset] [])) _
      exact k)
    cases n with
    | zero => exact absurd (congrArg Int32.ofNat (show xs.getD cur 0 = cur by omega)) h9
    | succ n =>
      have hne : xs.getD cur 0 ≠ cur := fun z => h9 (congrArg Int32.ofNat z)
      obtain ⟨T', r, X', e', fo, st⟩ := own_loop1 a1 t1 k1 xs cd i hx hZ hw hby hml hown F1 V1 I1 n (xs.getD cur 0) T1077 (by omega) (by omega) (by omega) (fun j q1 q2 => if z : j < cur then h3 j q1 z else hI.2.2.2 j (by omega) q2) X1077 e1077
      exact ⟨T', r, X', e', fo, fun t k => P1079 t (st t k)⟩
theorem d4_24 : decode prog_15_method_2_code 24 = .ok (.iload_n 3, 1) := by decide +kernel
theorem d4_25 : decode prog_15_method_2_code 25 = .ok (.iload_n 2, 1) := by decide +kernel
theorem d4_26 : decode prog_15_method_2_code 26 = .ok (.if_icmp .eq 24, 3) := by decide +kernel
theorem d4_29 : decode prog_15_method_2_code 29 = .ok (.aload_n 0, 1) := by decide +kernel
theorem d4_30 : decode prog_15_method_2_code 30 = .ok (.getfield 7, 3) := by decide +kernel
theorem d4_33 : decode prog_15_method_2_code 33 = .ok (.iload_n 3, 1) := by decide +kernel
theorem d4_34 : decode prog_15_method_2_code 34 = .ok (.iaload, 1) := by decide +kernel
theorem d4_35 : decode prog_15_method_2_code 35 = .ok (.istore 4, 2) := by decide +kernel
theorem d4_37 : decode prog_15_method_2_code 37 = .ok (.aload_n 0, 1) := by decide +kernel
theorem d4_38 : decode prog_15_method_2_code 38 = .ok (.getfield 7, 3) := by decide +kernel
theorem d4_41 : decode prog_15_method_2_code 41 = .ok (.iload_n 3, 1) := by decide +kernel
theorem d4_42 : decode prog_15_method_2_code 42 = .ok (.iload_n 2, 1) := by decide +kernel
theorem d4_43 : decode prog_15_method_2_code 43 = .ok (.iastore, 1) := by decide +kernel
theorem d4_44 : decode prog_15_method_2_code 44 = .ok (.iload 4, 2) := by decide +kernel
theorem d4_46 : decode prog_15_method_2_code 46 = .ok (.istore_n 3, 1) := by decide +kernel
theorem d4_47 : decode prog_15_method_2_code 47 = .ok (.goto (-23), 3) := by decide +kernel
set_option maxRecDepth 65536 in
set_option maxHeartbeats 40000000 in
theorem own_loop2 {p : Program} {l : Launch} {e : Env} {R : Room} {s : State} {m : MethodId} {args : Array Value} {below : List Frame} {meth : Method} {c : Code} {cells slots : Nat} {Z : State} {a0 : Array Value} {n0 : Nat} (a1 t1 : Addr) (k1 : ClassId) (cd : Nat → Prop) (i r : Nat) (hx : p.tables.exec = Jvm.exec) (hZ : Z.Warmed39 s.vm) (hw : ∀ d ∈ tables_1, d.before a0 Z = true) (hby : c.code = prog_15_method_2_code) (hml : c.maxLocals = 5) (hown : s.vm.findClass "com/example/slackline/slackline/solvers/OpenIndices" = some m.cls) (fo : own_FO cd i r) (g1 : n0 ≤ t1) (ne1 : a1 ≠ t1) :
    ∀ (n kk : Nat) (xs : List Nat) (T0 : State) (h0 : Heap) (locs : List Loc) (s4 : Slot), r ≤ kk + n → i ≤ kk → kk ≤ r → own_Inv cd xs → Stand p l e R s m args below meth c T0 locs cells slots → T0.heap = h0 → Fld Z h0 a1 "com/example/slackline/slackline/solvers/OpenIndices" "onward" "[I" (.ref t1) → Arv Z h0 t1 k1 .int 6 (own_vals xs) (.int 0) → Fr n0 locs → One s4 → n0 ≤ h0.size →
    ∃ (T' : State) (h' : Heap) (xs' : List Nat) (locs' : List Loc) (s4' : Slot), Stand p l e R s m args below meth c T' locs' cells slots ∧ T'.heap = h' ∧ Fr n0 locs' ∧ Keep h0 h' [t1] ∧ Arv Z h' t1 k1 .int 6 (own_vals xs') (.int 0) ∧ own_Inv cd xs' ∧ ∀ t, Steps p.tables e below (T'.setTop (mkF m 50 #[.val (.ref a1), .val (.int (Int32.ofNat i)), .val (.int (Int32.ofNat r)), .val (.int (Int32.ofNat r)), s4'] [])) t → Steps p.tables e below (T0.setTop (mkF m 24 #[.val (.ref a1), .val (.int (Int32.ofNat i)), .val (.int (Int32.ofNat r)), .val (.int (Int32.ofNat kk)), s4] [])) t := by
  intro n kk xs T0 h0 locs s4 h1 h2 h3 I1 X0 e0 F1 V1 N0 h4 Z0
  have hr6 := fo.2.1
  have K0 : Keep h0 h0 [t1] := Keep.refl h0 [t1]
  have P0 : ∀ t, Steps p.tables e below (T0.setTop (mkF m 24 #[.val (.ref a1), .val (.int (Int32.ofNat i)), .val (.int (Int32.ofNat r)), .val (.int (Int32.ofNat kk)), s4] [])) t → Steps p.tables e below (T0.setTop (mkF m 24 #[.val (.ref a1), .val (.int (Int32.ofNat i)), .val (.int (Int32.ofNat r)), .val (.int (Int32.ofNat kk)), s4] [])) t := fun t k => k
  have P1080 : ∀ t, Steps p.tables e below (T0.setTop (mkF m 26 #[.val (.ref a1), .val (.int (Int32.ofNat i)), .val (.int (Int32.ofNat r)), .val (.int (Int32.ofNat kk)), s4] [(.int (Int32.ofNat r)), (.int (Int32.ofNat kk))])) t → Steps p.tables e below (T0.setTop (mkF m 24 #[.val (.ref a1), .val (.int (Int32.ofNat i)), .val (.int (Int32.ofNat r)), .val (.int (Int32.ofNat kk)), s4] [])) t := fun t k => P0 t (by
    refine XS.iloadN X0.here hx rfl (hb hby d4_24) rfl ?_
    show Steps p.tables e below (T0.setTop (mkF m 25 #[.val (.ref a1), .val (.int (Int32.ofNat i)), .val (.int (Int32.ofNat r)), .val (.int (Int32.ofNat kk)), s4] [(.int (Int32.ofNat kk))])) _
    refine XS.iloadN X0.here hx rfl (hb hby d4_25) rfl ?_
    show Steps p.tables e below (T0.setTop (mkF m 26 #[.val (.ref a1), .val (.int (Int32.ofNat i)), .val (.int (Int32.ofNat r)), .val (.int (Int32.ofNat kk)), s4] [(.int (Int32.ofNat r)), (.int (Int32.ofNat kk))])) _
    exact k)
  by_cases h26 : (Int32.ofNat kk) = (Int32.ofNat r)
  · have P1081 : ∀ t, Steps p.tables e below (T0.setTop (mkF m 50 #[.val (.ref a1), .val (.int (Int32.ofNat i)), .val (.int (Int32.ofNat r)), .val (.int (Int32.ofNat kk)), s4] [])) t → Steps p.tables e below (T0.setTop (mkF m 24 #[.val (.ref a1), .val (.int (Int32.ofNat i)), .val (.int (Int32.ofNat r)), .val (.int (Int32.ofNat kk)), s4] [])) t := fun t k => P1080 t (by
      refine XS.icmpYes X0.here hx rfl (pc0 := 26) (pc' := 50) rfl (hb hby d4_26) rfl (teq h26).1 (by decide) (by decide) ?_
      show Steps p.tables e below (T0.setTop (mkF m 50 #[.val (.ref a1), .val (.int (Int32.ofNat i)), .val (.int (Int32.ofNat r)), .val (.int (Int32.ofNat kk)), s4] [])) _
      exact k)
    have hk' := own_inj kk (by omega) r (by omega) h26
    subst hk'
    exact ⟨T0, h0, xs, locs, s4, X0, e0, N0, K0, V1, I1, P1081⟩
  · have hlt : kk < r := Nat.lt_of_le_of_ne h3 (fun z => h26 (congrArg Int32.ofNat z))
    have hI := I1.2 kk (by omega)
    have hck : cd kk := fo.2.2.2 kk h2 hlt
    have hne : xs.getD kk 0 ≠ kk := fun z => (hI.2.2.1.mp z) hck
    have hle : xs.getD kk 0 ≤ r := Nat.le_of_not_lt fun z => fo.2.2.1 (hI.2.2.2 r h3 z)
    have hr5 := fo.2.1
    obtain ⟨T1082, X1082, e1082, st1082⟩ := getF X0 hx hZ hown (host := "") (Or.inl (hw _ (List.mem_of_getElem? (i := 11) rfl))) Via.refl e0 F1 (g := (mkF m 30 #[.val (.ref a1), .val (.int (Int32.ofNat i)), .val (.int (Int32.ofNat r)), .val (.int (Int32.ofNat kk)), s4] [(.ref a1)])) rfl rfl (hb hby d4_30)
    obtain ⟨cl1083, Ar1083, q1083, S1083, M1083, H1083, G1083⟩ := id V1
    have hin1083 : ¬ ((Int32.ofNat kk) < 0 ∨ cl1083.slots.size ≤ ((Int32.ofNat kk)).toNatClampNeg) := own_in S1083 (by omega)
    have hat1083 : cl1083.slots[((Int32.ofNat kk)).toNatClampNeg]? = some (.int (Int32.ofNat (xs.getD kk 0))) := own_at H1083 S1083 (by omega)
    obtain ⟨T1084, X1084, e1084, st1084⟩ := getF X1082 hx hZ hown (host := "") (Or.inl (hw _ (List.mem_of_getElem? (i := 11) rfl))) Via.refl e1082 F1 (g := (mkF m 38 #[.val (.ref a1), .val (.int (Int32.ofNat i)), .val (.int (Int32.ofNat r)), .val (.int (Int32.ofNat kk)), .val (.int (Int32.ofNat (xs.getD kk 0)))] [(.ref a1)])) rfl rfl (hb hby d4_38)
    obtain ⟨cl1085, Ar1085, q1085, S1085, M1085, H1085, G1085⟩ := id V1
    have hin1085 : ¬ ((Int32.ofNat kk) < 0 ∨ cl1085.slots.size ≤ ((Int32.ofNat kk)).toNatClampNeg) := own_in S1085 (by omega)
    obtain ⟨T1085, h1085, X1085, e1085, W1085, st1085⟩ := stI X1084 hx hZ e1084 Ar1085 (j := (Int32.ofNat kk)) hin1085 (g := (mkF m 43 #[.val (.ref a1), .val (.int (Int32.ofNat i)), .val (.int (Int32.ofNat r)), .val (.int (Int32.ofNat kk)), .val (.int (Int32.ofNat (xs.getD kk 0)))] [(.int (Int32.ofNat r)), (.int (Int32.ofNat kk)), (.ref t1)])) rfl rfl (hb hby d4_43)
    have V1085 := own_setV rfl (Arv.set Ar1085 q1085 S1085 M1085 H1085 G1085 rfl W1085 kk (own_tn kk (by omega)) (by rw [own_len, I1.1]; omega))
    have c1086_0 := F1.other W1085 (Or.inl ne1)
    have Z1085 : n0 ≤ h1085.size := Nat.le_trans Z0 (Nat.le_of_eq W1085.size.symm)
    have K1085 : Keep h0 h1085 [t1] := K0.wr W1085 (Or.inl (List.mem_of_getElem? (i := 0) rfl))
    have N1085 := Fr.snoc X1085 N0 g1
    have P1087 : ∀ t, Steps p.tables e below (T1085.setTop (mkF m 24 #[.val (.ref a1), .val (.int (Int32.ofNat i)), .val (.int (Int32.ofNat r)), .val (.int (Int32.ofNat (xs.getD kk 0))), .val (.int (Int32.ofNat (xs.getD kk 0)))] [])) t → Steps p.tables e below (T0.setTop (mkF m 24 #[.val (.ref a1), .val (.int (Int32.ofNat i)), .val (.int (Int32.ofNat r)), .val (.int (Int32.ofNat kk)), s4] [])) t := fun t k => P1080 t (by
      refine XS.icmpNo X0.here hx rfl (hb hby d4_26) rfl (feq h26).1 ?_
      show Steps p.tables e below (T0.setTop (mkF m 29 #[.val (.ref a1), .val (.int (Int32.ofNat i)), .val (.int (Int32.ofNat r)), .val (.int (Int32.ofNat kk)), s4] [])) _
      refine XS.aloadN X0.here hx rfl (hb hby d4_29) rfl rfl ?_
      show Steps p.tables e below (T0.setTop (mkF m 30 #[.val (.ref a1), .val (.int (Int32.ofNat i)), .val (.int (Int32.ofNat r)), .val (.int (Int32.ofNat kk)), s4] [(.ref a1)])) _
      refine st1082 _ ?_
      show Steps p.tables e below (T1082.setTop (mkF m 33 #[.val (.ref a1), .val (.int (Int32.ofNat i)), .val (.int (Int32.ofNat r)), .val (.int (Int32.ofNat kk)), s4] [(.ref t1)])) _
      refine XS.iloadN X1082.here hx rfl (hb hby d4_33) rfl ?_
      show Steps p.tables e below (T1082.setTop (mkF m 34 #[.val (.ref a1), .val (.int (Int32.ofNat i)), .val (.int (Int32.ofNat r)), .val (.int (Int32.ofNat kk)), s4] [(.int (Int32.ofNat kk)), (.ref t1)])) _
      refine X1082.iaload hx (j := (Int32.ofNat kk)) (v := (.int (Int32.ofNat (xs.getD kk 0)))) (by rw [e1082]; exact Ar1083.1) (State.isArrayOf_alike hZ.alike Ar1083.2.1) Ar1083.2.2 hin1083 hat1083 (g := (mkF m 34 #[.val (.ref a1), .val (.int (Int32.ofNat i)), .val (.int (Int32.ofNat r)), .val (.int (Int32.ofNat kk)), s4] [(.int (Int32.ofNat kk)), (.ref t1)])) rfl rfl (hb hby d4_34) _ ?_
      show Steps p.tables e below (T1082.setTop (mkF m 35 #[.val (.ref a1), .val (.int (Int32.ofNat i)), .val (.int (Int32.ofNat r)), .val (.int (Int32.ofNat kk)), s4] [(.int (Int32.ofNat (xs.getD kk 0)))])) _
      refine XS.istoreS X1082.here hx rfl (hb hby d4_35) rfl (o := s4) rfl h4 ?_
      show Steps p.tables e below (T1082.setTop (mkF m 37 #[.val (.ref a1), .val (.int (Int32.ofNat i)), .val (.int (Int32.ofNat r)), .val (.int (Int32.ofNat kk)), .val (.int (Int32.ofNat (xs.getD kk 0)))] [])) _
      refine XS.aloadN X1082.here hx rfl (hb hby d4_37) rfl rfl ?_
      show Steps p.tables e below (T1082.setTop (mkF m 38 #[.val (.ref a1), .val (.int (Int32.ofNat i)), .val (.int (Int32.ofNat r)), .val (.int (Int32.ofNat kk)), .val (.int (Int32.ofNat (xs.getD kk 0)))] [(.ref a1)])) _
      refine st1084 _ ?_
      show Steps p.tables e below (T1084.setTop (mkF m 41 #[.val (.ref a1), .val (.int (Int32.ofNat i)), .val (.int (Int32.ofNat r)), .val (.int (Int32.ofNat kk)), .val (.int (Int32.ofNat (xs.getD kk 0)))] [(.ref t1)])) _
      refine XS.iloadN X1084.here hx rfl (hb hby d4_41) rfl ?_
      show Steps p.tables e below (T1084.setTop (mkF m 42 #[.val (.ref a1), .val (.int (Int32.ofNat i)), .val (.int (Int32.ofNat r)), .val (.int (Int32.ofNat kk)), .val (.int (Int32.ofNat (xs.getD kk 0)))] [(.int (Int32.ofNat kk)), (.ref t1)])) _
      refine XS.iloadN X1084.here hx rfl (hb hby d4_42) rfl ?_
      show Steps p.tables e below (T1084.setTop (mkF m 43 #[.val (.ref a1), .val (.int (Int32.ofNat i)), .val (.int (Int32.ofNat r)), .val (.int (Int32.ofNat kk)), .val (.int (Int32.ofNat (xs.getD kk 0)))] [(.int (Int32.ofNat r)), (.int (Int32.ofNat kk)), (.ref t1)])) _
      refine st1085 _ ?_
      show Steps p.tables e below (T1085.setTop (mkF m 44 #[.val (.ref a1), .val (.int (Int32.ofNat i)), .val (.int (Int32.ofNat r)), .val (.int (Int32.ofNat kk)), .val (.int (Int32.ofNat (xs.getD kk 0)))] [])) _
      refine XS.iload X1085.here hx rfl (hb hby d4_44) rfl ?_
      show Steps p.tables e below (T1085.setTop (mkF m 46 #[.val (.ref a1), .val (.int (Int32.ofNat i)), .val (.int (Int32.ofNat r)), .val (.int (Int32.ofNat kk)), .val (.int (Int32.ofNat (xs.getD kk 0)))] [(.int (Int32.ofNat (xs.getD kk 0)))])) _
      refine XS.istoreN X1085.here hx rfl (hb hby d4_46) rfl (l' := #[.val (.ref a1), .val (.int (Int32.ofNat i)), .val (.int (Int32.ofNat r)), .val (.int (Int32.ofNat (xs.getD kk 0))), .val (.int (Int32.ofNat (xs.getD kk 0)))]) rfl ?_
      show Steps p.tables e below (T1085.setTop (mkF m 47 #[.val (.ref a1), .val (.int (Int32.ofNat i)), .val (.int (Int32.ofNat r)), .val (.int (Int32.ofNat (xs.getD kk 0))), .val (.int (Int32.ofNat (xs.getD kk 0)))] [])) _
      refine XS.goto X1085.here hx rfl (pc0 := 47) (pc' := 24) rfl (hb hby d4_47) (by decide) (by decide) ?_
      show Steps p.tables e below (T1085.setTop (mkF m 24 #[.val (.ref a1), .val (.int (Int32.ofNat i)), .val (.int (Int32.ofNat r)), .val (.int (Int32.ofNat (xs.getD kk 0))), .val (.int (Int32.ofNat (xs.getD kk 0)))] [])) _
      exact k)
    cases n with
    | zero => exact absurd hlt (by omega)
    | succ n =>
      obtain ⟨T', h', xs', locs', s4', X', e', N', K', V', I', st⟩ := own_loop2 a1 t1 k1 cd i r hx hZ hw hby hml hown fo g1 ne1 n (xs.getD kk 0) (xs.set kk r) T1085 h1085 _ _ (by omega) (by omega) hle (own_Inv_set I1 hlt hr5 fun j q1 q2 => fo.2.2.2 j (by omega) q2) X1085 e1085 c1086_0 V1085 N1085 (One.val (w := .int (Int32.ofNat (xs.getD kk 0))) rfl) Z1085
      exact ⟨T', h', xs', locs', s4', X', e', N', K1085.trans K' (allS (Or.inl (List.mem_of_getElem? (i := 0) rfl)) all0), V', I', fun t k => P1087 t (st t k)⟩
theorem ef_next (m : MethodId) (x0 : Addr) (x1 : Int32) : entryFrame m #[(.ref x0), (.int x1)] 5 = mkF m 0 #[.val (.ref x0), .val (.int x1), .unset, .unset, .unset] [] := by first | (simp [entryFrame, mkF, argsToLocals, Value.category]; done) | rfl
def Q_next (Z : State) (a1 : Addr) (t1 : Addr) (k1 : ClassId) (xs : List Nat) (cd : Nat → Prop) (i : Nat) (h0 : Heap) (n0 : Nat) (v : Option Value) (h : Heap) (L : List Loc) : Prop := ∃ (r : Nat) (xs' : List Nat), v = some (.int (Int32.ofNat r)) ∧ Fr n0 L ∧ Keep h0 h [t1] ∧ Arv Z h t1 k1 .int 6 (own_vals xs') (.int 0) ∧ own_Inv cd xs' ∧ own_FO cd i r
theorem d4_0 : decode prog_15_method_2_code 0 = .ok (.iload_n 1, 1) := by decide +kernel
theorem d4_1 : decode prog_15_method_2_code 1 = .ok (.istore_n 2, 1) := by decide +kernel
theorem d4_22 : decode prog_15_method_2_code 22 = .ok (.iload_n 1, 1) := by decide +kernel
theorem d4_23 : decode prog_15_method_2_code 23 = .ok (.istore_n 3, 1) := by decide +kernel
theorem d4_50 : decode prog_15_method_2_code 50 = .ok (.iload_n 2, 1) := by decide +kernel
theorem d4_51 : decode prog_15_method_2_code 51 = .ok (.ireturn, 1) := by decide +kernel
set_option maxRecDepth 65536 in
set_option maxHeartbeats 40000000 in
theorem rm_next (l : Launch) (Z : State) (a0 : Array Value) (hw : ∀ d ∈ tables_1, d.before a0 Z = true) (ws : List Jvm.Cond) (a1 : Addr) (t1 : Addr) (k1 : ClassId) (xs : List Nat) (cd : Nat → Prop) (i : Nat) (h0 : Heap) (n0 : Nat) (Z0 : n0 ≤ h0.size) (F1 : Fld Z h0 a1 "com/example/slackline/slackline/solvers/OpenIndices" "onward" "[I" (.ref t1)) (V1 : Arv Z h0 t1 k1 .int 6 (own_vals xs) (.int 0)) (I1 : own_Inv cd xs) (g1 : n0 ≤ t1) (ne1 : a1 ≠ t1) (hi : i < 6) :
    MetFree l (⟨"com/example/slackline/slackline/solvers/OpenIndices", "next", "(I)I"⟩ : MethodName) (head1 (Jvm.Cond.code (⟨"com/example/slackline/slackline/solvers/OpenIndices", "next", "(I)I"⟩ : MethodName) prog_15_method_2_code 5 (some .int) :: ws) ({ frames := 0, cells := 0, slots := 0, locals := 0 } : Room)) (fun a U => a = #[(.ref a1), (.int (Int32.ofNat i))] ∧ Z.Warmed39 U.vm ∧ U.heap = h0) (fun _ _ _ _ _ => True) (fun _ U o U' => ∃ v L, o = .returned v ∧ Q_next Z a1 t1 k1 xs cd i h0 n0 v U'.heap L ∧ FrameEnd U o U' L ({ frames := 0, cells := 0, slots := 0, locals := 0 } : Room).cells ({ frames := 0, cells := 0, slots := 0, locals := 0 } : Room).slots) := by
  refine MetFree.of_bodySF (plainFor_of_name pn_0) hisR ?_
  intro p e s m args below meth c s₁ Bd hml0 hP hK
  obtain ⟨rfl, hZ, hh⟩ := hP
  have hx := Bd.exec
  have hby := Bd.bytes
  have hml : c.maxLocals = 5 := hml0
  have hown : s.vm.findClass "com/example/slackline/slackline/solvers/OpenIndices" = some m.cls := findClass_of_methodNamed Bd.named
  have hnm := (name_of_methodNamed Bd.named Bd.method).1
  have X0 : Stand p l e ({ frames := 0, cells := 0, slots := 0, locals := 0 } : Room) s m #[(.ref a1), (.int (Int32.ofNat i))] below meth c s₁ [] 0 0 := Stand.of_body Bd
  have e0 : s₁.heap = h0 := by rw [← hh, Bd.state]; rfl
  have N0 := Fr.nil n0
  have K0 : Keep h0 h0 [t1] := Keep.refl h0 [t1]
  have P0 : ∀ t, Steps p.tables e below (s₁.setTop (mkF m 0 #[.val (.ref a1), .val (.int (Int32.ofNat i)), .unset, .unset, .unset] [])) t → Steps p.tables e below (s₁.setTop (entryFrame m #[(.ref a1), (.int (Int32.ofNat i))] 5)) t := fun t k => castTop (ef_next m a1 (Int32.ofNat i)) k
  have P1088 : ∀ t, Steps p.tables e below (s₁.setTop (mkF m 2 #[.val (.ref a1), .val (.int (Int32.ofNat i)), .val (.int (Int32.ofNat i)), .unset, .unset] [])) t → Steps p.tables e below (s₁.setTop (entryFrame m #[(.ref a1), (.int (Int32.ofNat i))] 5)) t := fun t k => P0 t (by
    refine XS.iloadN X0.here hx rfl (hb hby d4_0) rfl ?_
    show Steps p.tables e below (s₁.setTop (mkF m 1 #[.val (.ref a1), .val (.int (Int32.ofNat i)), .unset, .unset, .unset] [(.int (Int32.ofNat i))])) _
    refine XS.istoreN X0.here hx rfl (hb hby d4_1) rfl (l' := #[.val (.ref a1), .val (.int (Int32.ofNat i)), .val (.int (Int32.ofNat i)), .unset, .unset]) rfl ?_
    show Steps p.tables e below (s₁.setTop (mkF m 2 #[.val (.ref a1), .val (.int (Int32.ofNat i)), .val (.int (Int32.ofNat i)), .unset, .unset] [])) _
    exact k)
  obtain ⟨TA, r, XA, eA, fo, stA⟩ := own_loop1 a1 t1 k1 xs cd i hx hZ hw hby hml hown F1 V1 I1 5 i s₁ (by omega) (Nat.le_refl _) (by omega) (fun j q1 q2 => absurd q2 (by omega)) X0 e0
  have PA : ∀ t, Steps p.tables e below (TA.setTop (mkF m 22 #[.val (.ref a1), .val (.int (Int32.ofNat i)), .val (.int (Int32.ofNat r)), .unset, .unset] [])) t → Steps p.tables e below (s₁.setTop (entryFrame m #[(.ref a1), (.int (Int32.ofNat i))] 5)) t := fun t k => P1088 t (stA t k)
  have P1089 : ∀ t, Steps p.tables e below (TA.setTop (mkF m 24 #[.val (.ref a1), .val (.int (Int32.ofNat i)), .val (.int (Int32.ofNat r)), .val (.int (Int32.ofNat i)), .unset] [])) t → Steps p.tables e below (s₁.setTop (entryFrame m #[(.ref a1), (.int (Int32.ofNat i))] 5)) t := fun t k => PA t (by
    refine XS.iloadN XA.here hx rfl (hb hby d4_22) rfl ?_
    show Steps p.tables e below (TA.setTop (mkF m 23 #[.val (.ref a1), .val (.int (Int32.ofNat i)), .val (.int (Int32.ofNat r)), .unset, .unset] [(.int (Int32.ofNat i))])) _
    refine XS.istoreN XA.here hx rfl (hb hby d4_23) rfl (l' := #[.val (.ref a1), .val (.int (Int32.ofNat i)), .val (.int (Int32.ofNat r)), .val (.int (Int32.ofNat i)), .unset]) rfl ?_
    show Steps p.tables e below (TA.setTop (mkF m 24 #[.val (.ref a1), .val (.int (Int32.ofNat i)), .val (.int (Int32.ofNat r)), .val (.int (Int32.ofNat i)), .unset] [])) _
    exact k)
  obtain ⟨TB, hB, xs', LB, s4, XB, eB, NB, KB, VB, IB, stB⟩ := own_loop2 a1 t1 k1 cd i r hx hZ hw hby hml hown fo g1 ne1 5 i xs TA h0 _ _ (by have := fo.2.1; omega) (Nat.le_refl _) fo.1 I1 XA eA F1 V1 N0 One.u Z0
  have PB : ∀ t, Steps p.tables e below (TB.setTop (mkF m 50 #[.val (.ref a1), .val (.int (Int32.ofNat i)), .val (.int (Int32.ofNat r)), .val (.int (Int32.ofNat r)), s4] [])) t → Steps p.tables e below (s₁.setTop (entryFrame m #[(.ref a1), (.int (Int32.ofNat i))] 5)) t := fun t k => P1089 t (stB t k)
  have P1090 : ∀ t, Steps p.tables e below (TB.setTop (mkF m 51 #[.val (.ref a1), .val (.int (Int32.ofNat i)), .val (.int (Int32.ofNat r)), .val (.int (Int32.ofNat r)), s4] [(.int (Int32.ofNat r))])) t → Steps p.tables e below (s₁.setTop (entryFrame m #[(.ref a1), (.int (Int32.ofNat i))] 5)) t := fun t k => PB t (by
    refine XS.iloadN XB.here hx rfl (hb hby d4_50) rfl ?_
    show Steps p.tables e below (TB.setTop (mkF m 51 #[.val (.ref a1), .val (.int (Int32.ofNat i)), .val (.int (Int32.ofNat r)), .val (.int (Int32.ofNat r)), s4] [(.int (Int32.ofNat r))])) _
    exact k)
  obtain ⟨fs, hr, hrun, hended, hW, hsame⟩ := XB.leave (v := some (.int (Int32.ofNat r))) (fun h => by rw [Bd.returns] at h; cases h)
  refine ⟨_, _, P1090 _ ?_, hrun, hended, _, _, rfl, ?_, ⟨_, rfl⟩, hW, hsame.mono (by decide) (by decide)⟩
  · exact retI XB hx Bd.returns (hb hby d4_51) hr
  · show Q_next Z a1 t1 k1 xs cd i h0 n0 _ TB.heap _
    rw [eB]
    exact ⟨r, xs', rfl, NB, KB, VB, IB, fo⟩
theorem ef_fo (m : MethodId) (x0 : Int32) (x1 : Int32) : entryFrame m #[(.int x0), (.int x1)] 2 = mkF m 0 #[.val (.int x0), .val (.int x1)] [] := by first | (simp [entryFrame, mkF, argsToLocals, Value.category]; done) | rfl
def Q_fo (Z : State) (u1 : Int32) (i : Nat) (h0 : Heap) (n0 : Nat) (v : Option Value) (h : Heap) (L : List Loc) : Prop := ∃ r : Nat, v = some (.int (Int32.ofNat r)) ∧ Fr n0 L ∧ h = h0 ∧ own_FO (own_cm u1 fun _ => False) i r
theorem d6_0 : decode method_3_code 0 = .ok (.iload_n 1, 1) := by decide +kernel
theorem d6_1 : decode method_3_code 1 = .ok (.ifCond .gt 11, 3) := by decide +kernel
theorem d6_4 : decode method_3_code 4 = .ok (.iload_n 0, 1) := by decide +kernel
theorem d6_5 : decode method_3_code 5 = .ok (.iconst 1, 1) := by decide +kernel
theorem d6_6 : decode method_3_code 6 = .ok (.iand, 1) := by decide +kernel
theorem d6_7 : decode method_3_code 7 = .ok (.ifCond .ne 5, 3) := by decide +kernel
theorem d6_12 : decode method_3_code 12 = .ok (.iload_n 1, 1) := by decide +kernel
theorem d6_13 : decode method_3_code 13 = .ok (.iconst 1, 1) := by decide +kernel
theorem d6_14 : decode method_3_code 14 = .ok (.if_icmp .gt 11, 3) := by decide +kernel
theorem d6_17 : decode method_3_code 17 = .ok (.iload_n 0, 1) := by decide +kernel
theorem d6_18 : decode method_3_code 18 = .ok (.iconst 2, 1) := by decide +kernel
theorem d6_19 : decode method_3_code 19 = .ok (.iand, 1) := by decide +kernel
theorem d6_20 : decode method_3_code 20 = .ok (.ifCond .ne 5, 3) := by decide +kernel
theorem d6_25 : decode method_3_code 25 = .ok (.iload_n 1, 1) := by decide +kernel
theorem d6_26 : decode method_3_code 26 = .ok (.iconst 2, 1) := by decide +kernel
theorem d6_27 : decode method_3_code 27 = .ok (.if_icmp .gt 11, 3) := by decide +kernel
theorem d6_30 : decode method_3_code 30 = .ok (.iload_n 0, 1) := by decide +kernel
theorem d6_31 : decode method_3_code 31 = .ok (.iconst 4, 1) := by decide +kernel
theorem d6_32 : decode method_3_code 32 = .ok (.iand, 1) := by decide +kernel
theorem d6_33 : decode method_3_code 33 = .ok (.ifCond .ne 5, 3) := by decide +kernel
theorem d6_38 : decode method_3_code 38 = .ok (.iload_n 1, 1) := by decide +kernel
theorem d6_39 : decode method_3_code 39 = .ok (.iconst 3, 1) := by decide +kernel
theorem d6_40 : decode method_3_code 40 = .ok (.if_icmp .gt 12, 3) := by decide +kernel
theorem d6_43 : decode method_3_code 43 = .ok (.iload_n 0, 1) := by decide +kernel
theorem d6_44 : decode method_3_code 44 = .ok (.bipush 8, 2) := by decide +kernel
theorem d6_46 : decode method_3_code 46 = .ok (.iand, 1) := by decide +kernel
theorem d6_47 : decode method_3_code 47 = .ok (.ifCond .ne 5, 3) := by decide +kernel
theorem d6_52 : decode method_3_code 52 = .ok (.iload_n 1, 1) := by decide +kernel
theorem d6_53 : decode method_3_code 53 = .ok (.iconst 4, 1) := by decide +kernel
theorem d6_54 : decode method_3_code 54 = .ok (.if_icmp .gt 12, 3) := by decide +kernel
theorem d6_57 : decode method_3_code 57 = .ok (.iload_n 0, 1) := by decide +kernel
theorem d6_58 : decode method_3_code 58 = .ok (.bipush 16, 2) := by decide +kernel
theorem d6_60 : decode method_3_code 60 = .ok (.iand, 1) := by decide +kernel
theorem d6_61 : decode method_3_code 61 = .ok (.ifCond .ne 5, 3) := by decide +kernel
theorem d6_66 : decode method_3_code 66 = .ok (.iconst 5, 1) := by decide +kernel
theorem d6_67 : decode method_3_code 67 = .ok (.ireturn, 1) := by decide +kernel
theorem d6_64 : decode method_3_code 64 = .ok (.iconst 4, 1) := by decide +kernel
theorem d6_65 : decode method_3_code 65 = .ok (.ireturn, 1) := by decide +kernel
theorem d6_50 : decode method_3_code 50 = .ok (.iconst 3, 1) := by decide +kernel
theorem d6_51 : decode method_3_code 51 = .ok (.ireturn, 1) := by decide +kernel
theorem d6_36 : decode method_3_code 36 = .ok (.iconst 2, 1) := by decide +kernel
theorem d6_37 : decode method_3_code 37 = .ok (.ireturn, 1) := by decide +kernel
theorem d6_23 : decode method_3_code 23 = .ok (.iconst 1, 1) := by decide +kernel
theorem d6_24 : decode method_3_code 24 = .ok (.ireturn, 1) := by decide +kernel
theorem d6_10 : decode method_3_code 10 = .ok (.iconst 0, 1) := by decide +kernel
theorem d6_11 : decode method_3_code 11 = .ok (.ireturn, 1) := by decide +kernel
set_option maxRecDepth 65536 in
set_option maxHeartbeats 40000000 in
theorem rm_fo (l : Launch) (Z : State) (a0 : Array Value) (hw : ∀ d ∈ tables_1, d.before a0 Z = true) (ws : List Jvm.Cond) (u1 : Int32) (i : Nat) (h0 : Heap) (n0 : Nat) (Z0 : n0 ≤ h0.size) (hi : i < 6) :
    MetFree l (⟨"com/example/slackline/slackline/solvers/OpenIndicesNextPinLaw", "firstOpen", "(II)I"⟩ : MethodName) (head1 (Jvm.Cond.code (⟨"com/example/slackline/slackline/solvers/OpenIndicesNextPinLaw", "firstOpen", "(II)I"⟩ : MethodName) method_3_code 2 (some .int) :: ws) ({ frames := 0, cells := 0, slots := 0, locals := 0 } : Room)) (fun a U => a = #[(.int u1), (.int (Int32.ofNat i))] ∧ Z.Warmed39 U.vm ∧ U.heap = h0) (fun _ _ _ _ _ => True) (fun _ U o U' => ∃ v L, o = .returned v ∧ Q_fo Z u1 i h0 n0 v U'.heap L ∧ FrameEnd U o U' L ({ frames := 0, cells := 0, slots := 0, locals := 0 } : Room).cells ({ frames := 0, cells := 0, slots := 0, locals := 0 } : Room).slots) := by
  refine MetFree.of_bodySF (plainFor_of_name pn_1) hisR ?_
  intro p e s m args below meth c s₁ Bd hml0 hP hK
  obtain ⟨rfl, hZ, hh⟩ := hP
  have hx := Bd.exec
  have hby := Bd.bytes
  have hml : c.maxLocals = 2 := hml0
  have hown : s.vm.findClass "com/example/slackline/slackline/solvers/OpenIndicesNextPinLaw" = some m.cls := findClass_of_methodNamed Bd.named
  have hnm := (name_of_methodNamed Bd.named Bd.method).1
  have X0 : Stand p l e ({ frames := 0, cells := 0, slots := 0, locals := 0 } : Room) s m #[(.int u1), (.int (Int32.ofNat i))] below meth c s₁ [] 0 0 := Stand.of_body Bd
  have e0 : s₁.heap = h0 := by rw [← hh, Bd.state]; rfl
  have N0 := Fr.nil n0
  have K0 : Keep h0 h0 [] := Keep.refl h0 []
  have P0 : ∀ t, Steps p.tables e below (s₁.setTop (mkF m 0 #[.val (.int u1), .val (.int (Int32.ofNat i))] [])) t → Steps p.tables e below (s₁.setTop (entryFrame m #[(.int u1), (.int (Int32.ofNat i))] 2)) t := fun t k => castTop (ef_fo m u1 (Int32.ofNat i)) k
  by_cases hk0 : (0 : Int32) < (Int32.ofNat i) ∨ ¬ (u1 &&& (1 : Int32)) = (0 : Int32)
  · have P1091 : ∀ t, Steps p.tables e below (s₁.setTop (mkF m 1 #[.val (.int u1), .val (.int (Int32.ofNat i))] [(.int (Int32.ofNat i))])) t → Steps p.tables e below (s₁.setTop (entryFrame m #[(.int u1), (.int (Int32.ofNat i))] 2)) t := fun t k => P0 t (by
      refine XS.iloadN X0.here hx rfl (hb hby d6_0) rfl ?_
      show Steps p.tables e below (s₁.setTop (mkF m 1 #[.val (.int u1), .val (.int (Int32.ofNat i))] [(.int (Int32.ofNat i))])) _
      exact k)
    have P1092 : (∀ t, Steps p.tables e below (s₁.setTop (mkF m 12 #[.val (.int u1), .val (.int (Int32.ofNat i))] [])) t → Steps p.tables e below (s₁.setTop (entryFrame m #[(.int u1), (.int (Int32.ofNat i))] 2)) t) := by
      by_cases q1 : (0 : Int32) < (Int32.ofNat i)
      · have P1093 : ∀ t, Steps p.tables e below (s₁.setTop (mkF m 12 #[.val (.int u1), .val (.int (Int32.ofNat i))] [])) t → Steps p.tables e below (s₁.setTop (entryFrame m #[(.int u1), (.int (Int32.ofNat i))] 2)) t := fun t k => P1091 t (by
          refine XS.ifYes X0.here hx rfl (pc0 := 1) (pc' := 12) rfl (hb hby d6_1) rfl ((if0 _ _).trans (tlt q1).2.2.1) (by decide) (by decide) ?_
          show Steps p.tables e below (s₁.setTop (mkF m 12 #[.val (.int u1), .val (.int (Int32.ofNat i))] [])) _
          exact k)
        exact P1093
      · have P1094 : ∀ t, Steps p.tables e below (s₁.setTop (mkF m 7 #[.val (.int u1), .val (.int (Int32.ofNat i))] [(.int (u1 &&& (1 : Int32)))])) t → Steps p.tables e below (s₁.setTop (entryFrame m #[(.int u1), (.int (Int32.ofNat i))] 2)) t := fun t k => P1091 t (by
          refine XS.ifNo X0.here hx rfl (hb hby d6_1) rfl ((if0 _ _).trans (flt q1).2.2.1) ?_
          show Steps p.tables e below (s₁.setTop (mkF m 4 #[.val (.int u1), .val (.int (Int32.ofNat i))] [])) _
          refine XS.iloadN X0.here hx rfl (hb hby d6_4) rfl ?_
          show Steps p.tables e below (s₁.setTop (mkF m 5 #[.val (.int u1), .val (.int (Int32.ofNat i))] [(.int u1)])) _
          refine XS.iconst X0.here hx rfl (hb hby d6_5) ?_
          show Steps p.tables e below (s₁.setTop (mkF m 6 #[.val (.int u1), .val (.int (Int32.ofNat i))] [(.int (1 : Int32)), (.int u1)])) _
          refine XS.iand X0.here hx rfl (hb hby d6_6) rfl ?_
          show Steps p.tables e below (s₁.setTop (mkF m 7 #[.val (.int u1), .val (.int (Int32.ofNat i))] [(.int (u1 &&& (1 : Int32)))])) _
          exact k)
        by_cases q2 : (u1 &&& (1 : Int32)) = (0 : Int32)
        · exact (hk0.elim q1 (fun z => z q2)).elim
        · have P1095 : ∀ t, Steps p.tables e below (s₁.setTop (mkF m 12 #[.val (.int u1), .val (.int (Int32.ofNat i))] [])) t → Steps p.tables e below (s₁.setTop (entryFrame m #[(.int u1), (.int (Int32.ofNat i))] 2)) t := fun t k => P1094 t (by
            refine XS.ifYes X0.here hx rfl (pc0 := 7) (pc' := 12) rfl (hb hby d6_7) rfl ((if0 _ _).trans (feq q2).2) (by decide) (by decide) ?_
            show Steps p.tables e below (s₁.setTop (mkF m 12 #[.val (.int u1), .val (.int (Int32.ofNat i))] [])) _
            exact k)
          exact P1095
    have hj0 : 0 < i ∨ own_cm u1 (fun _ => False) 0 := hk0.imp (own_ltI 0 (by decide) i hi).mp (fun z => by simp only [own_cm, own_cl]; simp [z])
    by_cases hk1 : (1 : Int32) < (Int32.ofNat i) ∨ ¬ (u1 &&& (2 : Int32)) = (0 : Int32)
    · have P1096 : ∀ t, Steps p.tables e below (s₁.setTop (mkF m 14 #[.val (.int u1), .val (.int (Int32.ofNat i))] [(.int (1 : Int32)), (.int (Int32.ofNat i))])) t → Steps p.tables e below (s₁.setTop (entryFrame m #[(.int u1), (.int (Int32.ofNat i))] 2)) t := fun t k => P1092 t (by
        refine XS.iloadN X0.here hx rfl (hb hby d6_12) rfl ?_
        show Steps p.tables e below (s₁.setTop (mkF m 13 #[.val (.int u1), .val (.int (Int32.ofNat i))] [(.int (Int32.ofNat i))])) _
        refine XS.iconst X0.here hx rfl (hb hby d6_13) ?_
        show Steps p.tables e below (s₁.setTop (mkF m 14 #[.val (.int u1), .val (.int (Int32.ofNat i))] [(.int (1 : Int32)), (.int (Int32.ofNat i))])) _
        exact k)
      have P1097 : (∀ t, Steps p.tables e below (s₁.setTop (mkF m 25 #[.val (.int u1), .val (.int (Int32.ofNat i))] [])) t → Steps p.tables e below (s₁.setTop (entryFrame m #[(.int u1), (.int (Int32.ofNat i))] 2)) t) := by
        by_cases q1 : (1 : Int32) < (Int32.ofNat i)
        · have P1098 : ∀ t, Steps p.tables e below (s₁.setTop (mkF m 25 #[.val (.int u1), .val (.int (Int32.ofNat i))] [])) t → Steps p.tables e below (s₁.setTop (entryFrame m #[(.int u1), (.int (Int32.ofNat i))] 2)) t := fun t k => P1096 t (by
            refine XS.icmpYes X0.here hx rfl (pc0 := 14) (pc' := 25) rfl (hb hby d6_14) rfl (tlt q1).2.2.1 (by decide) (by decide) ?_
            show Steps p.tables e below (s₁.setTop (mkF m 25 #[.val (.int u1), .val (.int (Int32.ofNat i))] [])) _
            exact k)
          exact P1098
        · have P1099 : ∀ t, Steps p.tables e below (s₁.setTop (mkF m 20 #[.val (.int u1), .val (.int (Int32.ofNat i))] [(.int (u1 &&& (2 : Int32)))])) t → Steps p.tables e below (s₁.setTop (entryFrame m #[(.int u1), (.int (Int32.ofNat i))] 2)) t := fun t k => P1096 t (by
            refine XS.icmpNo X0.here hx rfl (hb hby d6_14) rfl (flt q1).2.2.1 ?_
            show Steps p.tables e below (s₁.setTop (mkF m 17 #[.val (.int u1), .val (.int (Int32.ofNat i))] [])) _
            refine XS.iloadN X0.here hx rfl (hb hby d6_17) rfl ?_
            show Steps p.tables e below (s₁.setTop (mkF m 18 #[.val (.int u1), .val (.int (Int32.ofNat i))] [(.int u1)])) _
            refine XS.iconst X0.here hx rfl (hb hby d6_18) ?_
            show Steps p.tables e below (s₁.setTop (mkF m 19 #[.val (.int u1), .val (.int (Int32.ofNat i))] [(.int (2 : Int32)), (.int u1)])) _
            refine XS.iand X0.here hx rfl (hb hby d6_19) rfl ?_
            show Steps p.tables e below (s₁.setTop (mkF m 20 #[.val (.int u1), .val (.int (Int32.ofNat i))] [(.int (u1 &&& (2 : Int32)))])) _
            exact k)
          by_cases q2 : (u1 &&& (2 : Int32)) = (0 : Int32)
          · exact (hk1.elim q1 (fun z => z q2)).elim
          · have P1100 : ∀ t, Steps p.tables e below (s₁.setTop (mkF m 25 #[.val (.int u1), .val (.int (Int32.ofNat i))] [])) t → Steps p.tables e below (s₁.setTop (entryFrame m #[(.int u1), (.int (Int32.ofNat i))] 2)) t := fun t k => P1099 t (by
              refine XS.ifYes X0.here hx rfl (pc0 := 20) (pc' := 25) rfl (hb hby d6_20) rfl ((if0 _ _).trans (feq q2).2) (by decide) (by decide) ?_
              show Steps p.tables e below (s₁.setTop (mkF m 25 #[.val (.int u1), .val (.int (Int32.ofNat i))] [])) _
              exact k)
            exact P1100
      have hj1 : 1 < i ∨ own_cm u1 (fun _ => False) 1 := hk1.imp (own_ltI 1 (by decide) i hi).mp (fun z => by simp only [own_cm, own_cl]; simp [z])
      by_cases hk2 : (2 : Int32) < (Int32.ofNat i) ∨ ¬ (u1 &&& (4 : Int32)) = (0 : Int32)
      · have P1101 : ∀ t, Steps p.tables e below (s₁.setTop (mkF m 27 #[.val (.int u1), .val (.int (Int32.ofNat i))] [(.int (2 : Int32)), (.int (Int32.ofNat i))])) t → Steps p.tables e below (s₁.setTop (entryFrame m #[(.int u1), (.int (Int32.ofNat i))] 2)) t := fun t k => P1097 t (by
          refine XS.iloadN X0.here hx rfl (hb hby d6_25) rfl ?_
          show Steps p.tables e below (s₁.setTop (mkF m 26 #[.val (.int u1), .val (.int (Int32.ofNat i))] [(.int (Int32.ofNat i))])) _
          refine XS.iconst X0.here hx rfl (hb hby d6_26) ?_
          show Steps p.tables e below (s₁.setTop (mkF m 27 #[.val (.int u1), .val (.int (Int32.ofNat i))] [(.int (2 : Int32)), (.int (Int32.ofNat i))])) _
          exact k)
        have P1102 : (∀ t, Steps p.tables e below (s₁.setTop (mkF m 38 #[.val (.int u1), .val (.int (Int32.ofNat i))] [])) t → Steps p.tables e below (s₁.setTop (entryFrame m #[(.int u1), (.int (Int32.ofNat i))] 2)) t) := by
          by_cases q1 : (2 : Int32) < (Int32.ofNat i)
          · have P1103 : ∀ t, Steps p.tables e below (s₁.setTop (mkF m 38 #[.val (.int u1), .val (.int (Int32.ofNat i))] [])) t → Steps p.tables e below (s₁.setTop (entryFrame m #[(.int u1), (.int (Int32.ofNat i))] 2)) t := fun t k => P1101 t (by
              refine XS.icmpYes X0.here hx rfl (pc0 := 27) (pc' := 38) rfl (hb hby d6_27) rfl (tlt q1).2.2.1 (by decide) (by decide) ?_
              show Steps p.tables e below (s₁.setTop (mkF m 38 #[.val (.int u1), .val (.int (Int32.ofNat i))] [])) _
              exact k)
            exact P1103
          · have P1104 : ∀ t, Steps p.tables e below (s₁.setTop (mkF m 33 #[.val (.int u1), .val (.int (Int32.ofNat i))] [(.int (u1 &&& (4 : Int32)))])) t → Steps p.tables e below (s₁.setTop (entryFrame m #[(.int u1), (.int (Int32.ofNat i))] 2)) t := fun t k => P1101 t (by
              refine XS.icmpNo X0.here hx rfl (hb hby d6_27) rfl (flt q1).2.2.1 ?_
              show Steps p.tables e below (s₁.setTop (mkF m 30 #[.val (.int u1), .val (.int (Int32.ofNat i))] [])) _
              refine XS.iloadN X0.here hx rfl (hb hby d6_30) rfl ?_
              show Steps p.tables e below (s₁.setTop (mkF m 31 #[.val (.int u1), .val (.int (Int32.ofNat i))] [(.int u1)])) _
              refine XS.iconst X0.here hx rfl (hb hby d6_31) ?_
              show Steps p.tables e below (s₁.setTop (mkF m 32 #[.val (.int u1), .val (.int (Int32.ofNat i))] [(.int (4 : Int32)), (.int u1)])) _
              refine XS.iand X0.here hx rfl (hb hby d6_32) rfl ?_
              show Steps p.tables e below (s₁.setTop (mkF m 33 #[.val (.int u1), .val (.int (Int32.ofNat i))] [(.int (u1 &&& (4 : Int32)))])) _
              exact k)
            by_cases q2 : (u1 &&& (4 : Int32)) = (0 : Int32)
            · exact (hk2.elim q1 (fun z => z q2)).elim
            · have P1105 : ∀ t, Steps p.tables e below (s₁.setTop (mkF m 38 #[.val (.int u1), .val (.int (Int32.ofNat i))] [])) t → Steps p.tables e below (s₁.setTop (entryFrame m #[(.int u1), (.int (Int32.ofNat i))] 2)) t := fun t k => P1104 t (by
                refine XS.ifYes X0.here hx rfl (pc0 := 33) (pc' := 38) rfl (hb hby d6_33) rfl ((if0 _ _).trans (feq q2).2) (by decide) (by decide) ?_
                show Steps p.tables e below (s₁.setTop (mkF m 38 #[.val (.int u1), .val (.int (Int32.ofNat i))] [])) _
                exact k)
              exact P1105
        have hj2 : 2 < i ∨ own_cm u1 (fun _ => False) 2 := hk2.imp (own_ltI 2 (by decide) i hi).mp (fun z => by simp only [own_cm, own_cl]; simp [z])
        by_cases hk3 : (3 : Int32) < (Int32.ofNat i) ∨ ¬ (u1 &&& (8 : Int32)) = (0 : Int32)
        · have P1106 : ∀ t, Steps p.tables e below (s₁.setTop (mkF m 40 #[.val (.int u1), .val (.int (Int32.ofNat i))] [(.int (3 : Int32)), (.int (Int32.ofNat i))])) t → Steps p.tables e below (s₁.setTop (entryFrame m #[(.int u1), (.int (Int32.ofNat i))] 2)) t := fun t k => P1102 t (by
            refine XS.iloadN X0.here hx rfl (hb hby d6_38) rfl ?_
            show Steps p.tables e below (s₁.setTop (mkF m 39 #[.val (.int u1), .val (.int (Int32.ofNat i))] [(.int (Int32.ofNat i))])) _
            refine XS.iconst X0.here hx rfl (hb hby d6_39) ?_
            show Steps p.tables e below (s₁.setTop (mkF m 40 #[.val (.int u1), .val (.int (Int32.ofNat i))] [(.int (3 : Int32)), (.int (Int32.ofNat i))])) _
            exact k)
          have P1107 : (∀ t, Steps p.tables e below (s₁.setTop (mkF m 52 #[.val (.int u1), .val (.int (Int32.ofNat i))] [])) t → Steps p.tables e below (s₁.setTop (entryFrame m #[(.int u1), (.int (Int32.ofNat i))] 2)) t) := by
            by_cases q1 : (3 : Int32) < (Int32.ofNat i)
            · have P1108 : ∀ t, Steps p.tables e below (s₁.setTop (mkF m 52 #[.val (.int u1), .val (.int (Int32.ofNat i))] [])) t → Steps p.tables e below (s₁.setTop (entryFrame m #[(.int u1), (.int (Int32.ofNat i))] 2)) t := fun t k => P1106 t (by
                refine XS.icmpYes X0.here hx rfl (pc0 := 40) (pc' := 52) rfl (hb hby d6_40) rfl (tlt q1).2.2.1 (by decide) (by decide) ?_
                show Steps p.tables e below (s₁.setTop (mkF m 52 #[.val (.int u1), .val (.int (Int32.ofNat i))] [])) _
                exact k)
              exact P1108
            · have P1109 : ∀ t, Steps p.tables e below (s₁.setTop (mkF m 47 #[.val (.int u1), .val (.int (Int32.ofNat i))] [(.int (u1 &&& (8 : Int32)))])) t → Steps p.tables e below (s₁.setTop (entryFrame m #[(.int u1), (.int (Int32.ofNat i))] 2)) t := fun t k => P1106 t (by
                refine XS.icmpNo X0.here hx rfl (hb hby d6_40) rfl (flt q1).2.2.1 ?_
                show Steps p.tables e below (s₁.setTop (mkF m 43 #[.val (.int u1), .val (.int (Int32.ofNat i))] [])) _
                refine XS.iloadN X0.here hx rfl (hb hby d6_43) rfl ?_
                show Steps p.tables e below (s₁.setTop (mkF m 44 #[.val (.int u1), .val (.int (Int32.ofNat i))] [(.int u1)])) _
                refine XS.bipush X0.here hx rfl (hb hby d6_44) ?_
                show Steps p.tables e below (s₁.setTop (mkF m 46 #[.val (.int u1), .val (.int (Int32.ofNat i))] [(.int (8 : Int32)), (.int u1)])) _
                refine XS.iand X0.here hx rfl (hb hby d6_46) rfl ?_
                show Steps p.tables e below (s₁.setTop (mkF m 47 #[.val (.int u1), .val (.int (Int32.ofNat i))] [(.int (u1 &&& (8 : Int32)))])) _
                exact k)
              by_cases q2 : (u1 &&& (8 : Int32)) = (0 : Int32)
              · exact (hk3.elim q1 (fun z => z q2)).elim
              · have P1110 : ∀ t, Steps p.tables e below (s₁.setTop (mkF m 52 #[.val (.int u1), .val (.int (Int32.ofNat i))] [])) t → Steps p.tables e below (s₁.setTop (entryFrame m #[(.int u1), (.int (Int32.ofNat i))] 2)) t := fun t k => P1109 t (by
                  refine XS.ifYes X0.here hx rfl (pc0 := 47) (pc' := 52) rfl (hb hby d6_47) rfl ((if0 _ _).trans (feq q2).2) (by decide) (by decide) ?_
                  show Steps p.tables e below (s₁.setTop (mkF m 52 #[.val (.int u1), .val (.int (Int32.ofNat i))] [])) _
                  exact k)
                exact P1110
          have hj3 : 3 < i ∨ own_cm u1 (fun _ => False) 3 := hk3.imp (own_ltI 3 (by decide) i hi).mp (fun z => by simp only [own_cm, own_cl]; simp [z])
          by_cases hk4 : (4 : Int32) < (Int32.ofNat i) ∨ ¬ (u1 &&& (16 : Int32)) = (0 : Int32)
          · have P1111 : ∀ t, Steps p.tables e below (s₁.setTop (mkF m 54 #[.val (.int u1), .val (.int (Int32.ofNat i))] [(.int (4 : Int32)), (.int (Int32.ofNat i))])) t → Steps p.tables e below (s₁.setTop (entryFrame m #[(.int u1), (.int (Int32.ofNat i))] 2)) t := fun t k => P1107 t (by
              refine XS.iloadN X0.here hx rfl (hb hby d6_52) rfl ?_
              show Steps p.tables e below (s₁.setTop (mkF m 53 #[.val (.int u1), .val (.int (Int32.ofNat i))] [(.int (Int32.ofNat i))])) _
              refine XS.iconst X0.here hx rfl (hb hby d6_53) ?_
              show Steps p.tables e below (s₁.setTop (mkF m 54 #[.val (.int u1), .val (.int (Int32.ofNat i))] [(.int (4 : Int32)), (.int (Int32.ofNat i))])) _
              exact k)
            have P1112 : (∀ t, Steps p.tables e below (s₁.setTop (mkF m 66 #[.val (.int u1), .val (.int (Int32.ofNat i))] [])) t → Steps p.tables e below (s₁.setTop (entryFrame m #[(.int u1), (.int (Int32.ofNat i))] 2)) t) := by
              by_cases q1 : (4 : Int32) < (Int32.ofNat i)
              · have P1113 : ∀ t, Steps p.tables e below (s₁.setTop (mkF m 66 #[.val (.int u1), .val (.int (Int32.ofNat i))] [])) t → Steps p.tables e below (s₁.setTop (entryFrame m #[(.int u1), (.int (Int32.ofNat i))] 2)) t := fun t k => P1111 t (by
                  refine XS.icmpYes X0.here hx rfl (pc0 := 54) (pc' := 66) rfl (hb hby d6_54) rfl (tlt q1).2.2.1 (by decide) (by decide) ?_
                  show Steps p.tables e below (s₁.setTop (mkF m 66 #[.val (.int u1), .val (.int (Int32.ofNat i))] [])) _
                  exact k)
                exact P1113
              · have P1114 : ∀ t, Steps p.tables e below (s₁.setTop (mkF m 61 #[.val (.int u1), .val (.int (Int32.ofNat i))] [(.int (u1 &&& (16 : Int32)))])) t → Steps p.tables e below (s₁.setTop (entryFrame m #[(.int u1), (.int (Int32.ofNat i))] 2)) t := fun t k => P1111 t (by
                  refine XS.icmpNo X0.here hx rfl (hb hby d6_54) rfl (flt q1).2.2.1 ?_
                  show Steps p.tables e below (s₁.setTop (mkF m 57 #[.val (.int u1), .val (.int (Int32.ofNat i))] [])) _
                  refine XS.iloadN X0.here hx rfl (hb hby d6_57) rfl ?_
                  show Steps p.tables e below (s₁.setTop (mkF m 58 #[.val (.int u1), .val (.int (Int32.ofNat i))] [(.int u1)])) _
                  refine XS.bipush X0.here hx rfl (hb hby d6_58) ?_
                  show Steps p.tables e below (s₁.setTop (mkF m 60 #[.val (.int u1), .val (.int (Int32.ofNat i))] [(.int (16 : Int32)), (.int u1)])) _
                  refine XS.iand X0.here hx rfl (hb hby d6_60) rfl ?_
                  show Steps p.tables e below (s₁.setTop (mkF m 61 #[.val (.int u1), .val (.int (Int32.ofNat i))] [(.int (u1 &&& (16 : Int32)))])) _
                  exact k)
                by_cases q2 : (u1 &&& (16 : Int32)) = (0 : Int32)
                · exact (hk4.elim q1 (fun z => z q2)).elim
                · have P1115 : ∀ t, Steps p.tables e below (s₁.setTop (mkF m 66 #[.val (.int u1), .val (.int (Int32.ofNat i))] [])) t → Steps p.tables e below (s₁.setTop (entryFrame m #[(.int u1), (.int (Int32.ofNat i))] 2)) t := fun t k => P1114 t (by
                    refine XS.ifYes X0.here hx rfl (pc0 := 61) (pc' := 66) rfl (hb hby d6_61) rfl ((if0 _ _).trans (feq q2).2) (by decide) (by decide) ?_
                    show Steps p.tables e below (s₁.setTop (mkF m 66 #[.val (.int u1), .val (.int (Int32.ofNat i))] [])) _
                    exact k)
                  exact P1115
            have hj4 : 4 < i ∨ own_cm u1 (fun _ => False) 4 := hk4.imp (own_ltI 4 (by decide) i hi).mp (fun z => by simp only [own_cm, own_cl]; simp [z])
            have hall : ∀ j, j < 5 → j < i ∨ own_cm u1 (fun _ => False) j := fun j hj => by
              rcases (show j = 0 ∨ j = 1 ∨ j = 2 ∨ j = 3 ∨ j = 4 by omega) with rfl | rfl | rfl | rfl | rfl
              · exact hj0
              · exact hj1
              · exact hj2
              · exact hj3
              · exact hj4
            have P1116 : ∀ t, Steps p.tables e below (s₁.setTop (mkF m 67 #[.val (.int u1), .val (.int (Int32.ofNat i))] [(.int (5 : Int32))])) t → Steps p.tables e below (s₁.setTop (entryFrame m #[(.int u1), (.int (Int32.ofNat i))] 2)) t := fun t k => P1112 t (by
              refine XS.iconst X0.here hx rfl (hb hby d6_66) ?_
              show Steps p.tables e below (s₁.setTop (mkF m 67 #[.val (.int u1), .val (.int (Int32.ofNat i))] [(.int (5 : Int32))])) _
              exact k)
            obtain ⟨fs, hr, hrun, hended, hW, hsame⟩ := X0.leave (v := some (.int (5 : Int32))) (fun h => by rw [Bd.returns] at h; cases h)
            refine ⟨_, _, P1116 _ ?_, hrun, hended, _, _, rfl, ?_, ⟨_, rfl⟩, hW, hsame.mono (by decide) (by decide)⟩
            · exact retI X0 hx Bd.returns (hb hby d6_67) hr
            · show Q_fo Z u1 i h0 n0 _ s₁.heap _
              rw [e0]
              exact ⟨5, rfl, N0, rfl, own_fo (by omega) (by decide) (by simp [own_cm, own_cl]) hall⟩
          · have ha4 : ¬ (4 : Int32) < (Int32.ofNat i) := fun z => hk4 (Or.inl z)
            have hc4 : (u1 &&& (16 : Int32)) = (0 : Int32) := Decidable.byContradiction fun z => hk4 (Or.inr z)
            have hall : ∀ j, j < 4 → j < i ∨ own_cm u1 (fun _ => False) j := fun j hj => by
              rcases (show j = 0 ∨ j = 1 ∨ j = 2 ∨ j = 3 by omega) with rfl | rfl | rfl | rfl
              · exact hj0
              · exact hj1
              · exact hj2
              · exact hj3
            have P1117 : ∀ t, Steps p.tables e below (s₁.setTop (mkF m 65 #[.val (.int u1), .val (.int (Int32.ofNat i))] [(.int (4 : Int32))])) t → Steps p.tables e below (s₁.setTop (entryFrame m #[(.int u1), (.int (Int32.ofNat i))] 2)) t := fun t k => P1107 t (by
              refine XS.iloadN X0.here hx rfl (hb hby d6_52) rfl ?_
              show Steps p.tables e below (s₁.setTop (mkF m 53 #[.val (.int u1), .val (.int (Int32.ofNat i))] [(.int (Int32.ofNat i))])) _
              refine XS.iconst X0.here hx rfl (hb hby d6_53) ?_
              show Steps p.tables e below (s₁.setTop (mkF m 54 #[.val (.int u1), .val (.int (Int32.ofNat i))] [(.int (4 : Int32)), (.int (Int32.ofNat i))])) _
              refine XS.icmpNo X0.here hx rfl (hb hby d6_54) rfl (flt ha4).2.2.1 ?_
              show Steps p.tables e below (s₁.setTop (mkF m 57 #[.val (.int u1), .val (.int (Int32.ofNat i))] [])) _
              refine XS.iloadN X0.here hx rfl (hb hby d6_57) rfl ?_
              show Steps p.tables e below (s₁.setTop (mkF m 58 #[.val (.int u1), .val (.int (Int32.ofNat i))] [(.int u1)])) _
              refine XS.bipush X0.here hx rfl (hb hby d6_58) ?_
              show Steps p.tables e below (s₁.setTop (mkF m 60 #[.val (.int u1), .val (.int (Int32.ofNat i))] [(.int (16 : Int32)), (.int u1)])) _
              refine XS.iand X0.here hx rfl (hb hby d6_60) rfl ?_
              show Steps p.tables e below (s₁.setTop (mkF m 61 #[.val (.int u1), .val (.int (Int32.ofNat i))] [(.int (u1 &&& (16 : Int32)))])) _
              refine XS.ifNo X0.here hx rfl (hb hby d6_61) rfl ((if0 _ _).trans (teq hc4).2) ?_
              show Steps p.tables e below (s₁.setTop (mkF m 64 #[.val (.int u1), .val (.int (Int32.ofNat i))] [])) _
              refine XS.iconst X0.here hx rfl (hb hby d6_64) ?_
              show Steps p.tables e below (s₁.setTop (mkF m 65 #[.val (.int u1), .val (.int (Int32.ofNat i))] [(.int (4 : Int32))])) _
              exact k)
            obtain ⟨fs, hr, hrun, hended, hW, hsame⟩ := X0.leave (v := some (.int (4 : Int32))) (fun h => by rw [Bd.returns] at h; cases h)
            refine ⟨_, _, P1117 _ ?_, hrun, hended, _, _, rfl, ?_, ⟨_, rfl⟩, hW, hsame.mono (by decide) (by decide)⟩
            · exact retI X0 hx Bd.returns (hb hby d6_65) hr
            · show Q_fo Z u1 i h0 n0 _ s₁.heap _
              rw [e0]
              exact ⟨4, rfl, N0, rfl, own_fo (Nat.le_of_not_lt fun z => ha4 ((own_ltI 4 (by decide) i hi).mpr z)) (by decide) (by simp [own_cm, own_cl, hc4]) hall⟩
        · have ha3 : ¬ (3 : Int32) < (Int32.ofNat i) := fun z => hk3 (Or.inl z)
          have hc3 : (u1 &&& (8 : Int32)) = (0 : Int32) := Decidable.byContradiction fun z => hk3 (Or.inr z)
          have hall : ∀ j, j < 3 → j < i ∨ own_cm u1 (fun _ => False) j := fun j hj => by
            rcases (show j = 0 ∨ j = 1 ∨ j = 2 by omega) with rfl | rfl | rfl
            · exact hj0
            · exact hj1
            · exact hj2
          have P1118 : ∀ t, Steps p.tables e below (s₁.setTop (mkF m 51 #[.val (.int u1), .val (.int (Int32.ofNat i))] [(.int (3 : Int32))])) t → Steps p.tables e below (s₁.setTop (entryFrame m #[(.int u1), (.int (Int32.ofNat i))] 2)) t := fun t k => P1102 t (by
            refine XS.iloadN X0.here hx rfl (hb hby d6_38) rfl ?_
            show Steps p.tables e below (s₁.setTop (mkF m 39 #[.val (.int u1), .val (.int (Int32.ofNat i))] [(.int (Int32.ofNat i))])) _
            refine XS.iconst X0.here hx rfl (hb hby d6_39) ?_
            show Steps p.tables e below (s₁.setTop (mkF m 40 #[.val (.int u1), .val (.int (Int32.ofNat i))] [(.int (3 : Int32)), (.int (Int32.ofNat i))])) _
            refine XS.icmpNo X0.here hx rfl (hb hby d6_40) rfl (flt ha3).2.2.1 ?_
            show Steps p.tables e below (s₁.setTop (mkF m 43 #[.val (.int u1), .val (.int (Int32.ofNat i))] [])) _
            refine XS.iloadN X0.here hx rfl (hb hby d6_43) rfl ?_
            show Steps p.tables e below (s₁.setTop (mkF m 44 #[.val (.int u1), .val (.int (Int32.ofNat i))] [(.int u1)])) _
            refine XS.bipush X0.here hx rfl (hb hby d6_44) ?_
            show Steps p.tables e below (s₁.setTop (mkF m 46 #[.val (.int u1), .val (.int (Int32.ofNat i))] [(.int (8 : Int32)), (.int u1)])) _
            refine XS.iand X0.here hx rfl (hb hby d6_46) rfl ?_
            show Steps p.tables e below (s₁.setTop (mkF m 47 #[.val (.int u1), .val (.int (Int32.ofNat i))] [(.int (u1 &&& (8 : Int32)))])) _
            refine XS.ifNo X0.here hx rfl (hb hby d6_47) rfl ((if0 _ _).trans (teq hc3).2) ?_
            show Steps p.tables e below (s₁.setTop (mkF m 50 #[.val (.int u1), .val (.int (Int32.ofNat i))] [])) _
            refine XS.iconst X0.here hx rfl (hb hby d6_50) ?_
            show Steps p.tables e below (s₁.setTop (mkF m 51 #[.val (.int u1), .val (.int (Int32.ofNat i))] [(.int (3 : Int32))])) _
            exact k)
          obtain ⟨fs, hr, hrun, hended, hW, hsame⟩ := X0.leave (v := some (.int (3 : Int32))) (fun h => by rw [Bd.returns] at h; cases h)
          refine ⟨_, _, P1118 _ ?_, hrun, hended, _, _, rfl, ?_, ⟨_, rfl⟩, hW, hsame.mono (by decide) (by decide)⟩
          · exact retI X0 hx Bd.returns (hb hby d6_51) hr
          · show Q_fo Z u1 i h0 n0 _ s₁.heap _
            rw [e0]
            exact ⟨3, rfl, N0, rfl, own_fo (Nat.le_of_not_lt fun z => ha3 ((own_ltI 3 (by decide) i hi).mpr z)) (by decide) (by simp [own_cm, own_cl, hc3]) hall⟩
      · have ha2 : ¬ (2 : Int32) < (Int32.ofNat i) := fun z => hk2 (Or.inl z)
        have hc2 : (u1 &&& (4 : Int32)) = (0 : Int32) := Decidable.byContradiction fun z => hk2 (Or.inr z)
        have hall : ∀ j, j < 2 → j < i ∨ own_cm u1 (fun _ => False) j := fun j hj => by
          rcases (show j = 0 ∨ j = 1 by omega) with rfl | rfl
          · exact hj0
          · exact hj1
        have P1119 : ∀ t, Steps p.tables e below (s₁.setTop (mkF m 37 #[.val (.int u1), .val (.int (Int32.ofNat i))] [(.int (2 : Int32))])) t → Steps p.tables e below (s₁.setTop (entryFrame m #[(.int u1), (.int (Int32.ofNat i))] 2)) t := fun t k => P1097 t (by
          refine XS.iloadN X0.here hx rfl (hb hby d6_25) rfl ?_
          show Steps p.tables e below (s₁.setTop (mkF m 26 #[.val (.int u1), .val (.int (Int32.ofNat i))] [(.int (Int32.ofNat i))])) _
          refine XS.iconst X0.here hx rfl (hb hby d6_26) ?_
          show Steps p.tables e below (s₁.setTop (mkF m 27 #[.val (.int u1), .val (.int (Int32.ofNat i))] [(.int (2 : Int32)), (.int (Int32.ofNat i))])) _
          refine XS.icmpNo X0.here hx rfl (hb hby d6_27) rfl (flt ha2).2.2.1 ?_
          show Steps p.tables e below (s₁.setTop (mkF m 30 #[.val (.int u1), .val (.int (Int32.ofNat i))] [])) _
          refine XS.iloadN X0.here hx rfl (hb hby d6_30) rfl ?_
          show Steps p.tables e below (s₁.setTop (mkF m 31 #[.val (.int u1), .val (.int (Int32.ofNat i))] [(.int u1)])) _
          refine XS.iconst X0.here hx rfl (hb hby d6_31) ?_
          show Steps p.tables e below (s₁.setTop (mkF m 32 #[.val (.int u1), .val (.int (Int32.ofNat i))] [(.int (4 : Int32)), (.int u1)])) _
          refine XS.iand X0.here hx rfl (hb hby d6_32) rfl ?_
          show Steps p.tables e below (s₁.setTop (mkF m 33 #[.val (.int u1), .val (.int (Int32.ofNat i))] [(.int (u1 &&& (4 : Int32)))])) _
          refine XS.ifNo X0.here hx rfl (hb hby d6_33) rfl ((if0 _ _).trans (teq hc2).2) ?_
          show Steps p.tables e below (s₁.setTop (mkF m 36 #[.val (.int u1), .val (.int (Int32.ofNat i))] [])) _
          refine XS.iconst X0.here hx rfl (hb hby d6_36) ?_
          show Steps p.tables e below (s₁.setTop (mkF m 37 #[.val (.int u1), .val (.int (Int32.ofNat i))] [(.int (2 : Int32))])) _
          exact k)
        obtain ⟨fs, hr, hrun, hended, hW, hsame⟩ := X0.leave (v := some (.int (2 : Int32))) (fun h => by rw [Bd.returns] at h; cases h)
        refine ⟨_, _, P1119 _ ?_, hrun, hended, _, _, rfl, ?_, ⟨_, rfl⟩, hW, hsame.mono (by decide) (by decide)⟩
        · exact retI X0 hx Bd.returns (hb hby d6_37) hr
        · show Q_fo Z u1 i h0 n0 _ s₁.heap _
          rw [e0]
          exact ⟨2, rfl, N0, rfl, own_fo (Nat.le_of_not_lt fun z => ha2 ((own_ltI 2 (by decide) i hi).mpr z)) (by decide) (by simp [own_cm, own_cl, hc2]) hall⟩
    · have ha1 : ¬ (1 : Int32) < (Int32.ofNat i) := fun z => hk1 (Or.inl z)
      have hc1 : (u1 &&& (2 : Int32)) = (0 : Int32) := Decidable.byContradiction fun z => hk1 (Or.inr z)
      have hall : ∀ j, j < 1 → j < i ∨ own_cm u1 (fun _ => False) j := fun j hj => by
        rcases (show j = 0 by omega) with rfl
        · exact hj0
      have P1120 : ∀ t, Steps p.tables e below (s₁.setTop (mkF m 24 #[.val (.int u1), .val (.int (Int32.ofNat i))] [(.int (1 : Int32))])) t → Steps p.tables e below (s₁.setTop (entryFrame m #[(.int u1), (.int (Int32.ofNat i))] 2)) t := fun t k => P1092 t (by
        refine XS.iloadN X0.here hx rfl (hb hby d6_12) rfl ?_
        show Steps p.tables e below (s₁.setTop (mkF m 13 #[.val (.int u1), .val (.int (Int32.ofNat i))] [(.int (Int32.ofNat i))])) _
        refine XS.iconst X0.here hx rfl (hb hby d6_13) ?_
        show Steps p.tables e below (s₁.setTop (mkF m 14 #[.val (.int u1), .val (.int (Int32.ofNat i))] [(.int (1 : Int32)), (.int (Int32.ofNat i))])) _
        refine XS.icmpNo X0.here hx rfl (hb hby d6_14) rfl (flt ha1).2.2.1 ?_
        show Steps p.tables e below (s₁.setTop (mkF m 17 #[.val (.int u1), .val (.int (Int32.ofNat i))] [])) _
        refine XS.iloadN X0.here hx rfl (hb hby d6_17) rfl ?_
        show Steps p.tables e below (s₁.setTop (mkF m 18 #[.val (.int u1), .val (.int (Int32.ofNat i))] [(.int u1)])) _
        refine XS.iconst X0.here hx rfl (hb hby d6_18) ?_
        show Steps p.tables e below (s₁.setTop (mkF m 19 #[.val (.int u1), .val (.int (Int32.ofNat i))] [(.int (2 : Int32)), (.int u1)])) _
        refine XS.iand X0.here hx rfl (hb hby d6_19) rfl ?_
        show Steps p.tables e below (s₁.setTop (mkF m 20 #[.val (.int u1), .val (.int (Int32.ofNat i))] [(.int (u1 &&& (2 : Int32)))])) _
        refine XS.ifNo X0.here hx rfl (hb hby d6_20) rfl ((if0 _ _).trans (teq hc1).2) ?_
        show Steps p.tables e below (s₁.setTop (mkF m 23 #[.val (.int u1), .val (.int (Int32.ofNat i))] [])) _
        refine XS.iconst X0.here hx rfl (hb hby d6_23) ?_
        show Steps p.tables e below (s₁.setTop (mkF m 24 #[.val (.int u1), .val (.int (Int32.ofNat i))] [(.int (1 : Int32))])) _
        exact k)
      obtain ⟨fs, hr, hrun, hended, hW, hsame⟩ := X0.leave (v := some (.int (1 : Int32))) (fun h => by rw [Bd.returns] at h; cases h)
      refine ⟨_, _, P1120 _ ?_, hrun, hended, _, _, rfl, ?_, ⟨_, rfl⟩, hW, hsame.mono (by decide) (by decide)⟩
      · exact retI X0 hx Bd.returns (hb hby d6_24) hr
      · show Q_fo Z u1 i h0 n0 _ s₁.heap _
        rw [e0]
        exact ⟨1, rfl, N0, rfl, own_fo (Nat.le_of_not_lt fun z => ha1 ((own_ltI 1 (by decide) i hi).mpr z)) (by decide) (by simp [own_cm, own_cl, hc1]) hall⟩
  · have ha0 : ¬ (0 : Int32) < (Int32.ofNat i) := fun z => hk0 (Or.inl z)
    have hc0 : (u1 &&& (1 : Int32)) = (0 : Int32) := Decidable.byContradiction fun z => hk0 (Or.inr z)
    have hall : ∀ j, j < 0 → j < i ∨ own_cm u1 (fun _ => False) j := fun j hj => by
      exact absurd hj (by omega)
    have P1121 : ∀ t, Steps p.tables e below (s₁.setTop (mkF m 11 #[.val (.int u1), .val (.int (Int32.ofNat i))] [(.int (0 : Int32))])) t → Steps p.tables e below (s₁.setTop (entryFrame m #[(.int u1), (.int (Int32.ofNat i))] 2)) t := fun t k => P0 t (by
      refine XS.iloadN X0.here hx rfl (hb hby d6_0) rfl ?_
      show Steps p.tables e below (s₁.setTop (mkF m 1 #[.val (.int u1), .val (.int (Int32.ofNat i))] [(.int (Int32.ofNat i))])) _
      refine XS.ifNo X0.here hx rfl (hb hby d6_1) rfl ((if0 _ _).trans (flt ha0).2.2.1) ?_
      show Steps p.tables e below (s₁.setTop (mkF m 4 #[.val (.int u1), .val (.int (Int32.ofNat i))] [])) _
      refine XS.iloadN X0.here hx rfl (hb hby d6_4) rfl ?_
      show Steps p.tables e below (s₁.setTop (mkF m 5 #[.val (.int u1), .val (.int (Int32.ofNat i))] [(.int u1)])) _
      refine XS.iconst X0.here hx rfl (hb hby d6_5) ?_
      show Steps p.tables e below (s₁.setTop (mkF m 6 #[.val (.int u1), .val (.int (Int32.ofNat i))] [(.int (1 : Int32)), (.int u1)])) _
      refine XS.iand X0.here hx rfl (hb hby d6_6) rfl ?_
      show Steps p.tables e below (s₁.setTop (mkF m 7 #[.val (.int u1), .val (.int (Int32.ofNat i))] [(.int (u1 &&& (1 : Int32)))])) _
      refine XS.ifNo X0.here hx rfl (hb hby d6_7) rfl ((if0 _ _).trans (teq hc0).2) ?_
      show Steps p.tables e below (s₁.setTop (mkF m 10 #[.val (.int u1), .val (.int (Int32.ofNat i))] [])) _
      refine XS.iconst X0.here hx rfl (hb hby d6_10) ?_
      show Steps p.tables e below (s₁.setTop (mkF m 11 #[.val (.int u1), .val (.int (Int32.ofNat i))] [(.int (0 : Int32))])) _
      exact k)
    obtain ⟨fs, hr, hrun, hended, hW, hsame⟩ := X0.leave (v := some (.int (0 : Int32))) (fun h => by rw [Bd.returns] at h; cases h)
    refine ⟨_, _, P1121 _ ?_, hrun, hended, _, _, rfl, ?_, ⟨_, rfl⟩, hW, hsame.mono (by decide) (by decide)⟩
    · exact retI X0 hx Bd.returns (hb hby d6_11) hr
    · show Q_fo Z u1 i h0 n0 _ s₁.heap _
      rw [e0]
      exact ⟨0, rfl, N0, rfl, own_fo (Nat.le_of_not_lt fun z => ha0 ((own_ltI 0 (by decide) i hi).mpr z)) (by decide) (by simp [own_cm, own_cl, hc0]) hall⟩
theorem ef_law (m : MethodId) (x0 : Int32) (x1 : Int32) (x2 : Int32) (x3 : Int32) (x4 : Int32) : entryFrame m #[(.int x0), (.int x1), (.int x2), (.int x3), (.int x4)] maxLocals = mkF m 0 #[.val (.int x0), .val (.int x1), .val (.int x2), .val (.int x3), .val (.int x4), .unset, .unset, .unset, .unset, .unset, .unset, .unset, .unset, .unset, .unset] [] := by first | (simp [entryFrame, mkF, argsToLocals, Value.category, maxLocals]; done) | rfl
def Q_law (Z : State) (u1 : Int32) (u2 : Int32) (u3 : Int32) (u4 : Int32) (u5 : Int32) (h0 : Heap) (n0 : Nat) (v : Option Value) (h : Heap) (L : List Loc) : Prop := v = some (.int 1) ∧ Fr n0 L
theorem pd_1 : parseMethodDescriptor "(Lcom/example/slackline/slackline/solvers/OpenIndices;I)V" = some ⟨[(.object "com/example/slackline/slackline/solvers/OpenIndices"), .int], none⟩ := by decide +kernel
theorem pd_2 : parseMethodDescriptor "(I)I" = some ⟨[.int], some .int⟩ := by decide +kernel
theorem pd_3 : parseMethodDescriptor "(II)I" = some ⟨[.int, .int], some .int⟩ := by decide +kernel
set_option maxRecDepth 65536 in
set_option maxHeartbeats 40000000 in
theorem rm_law (l : Launch) (Z : State) (a0 : Array Value) (hw : ∀ d ∈ tables_1, d.before a0 Z = true) (ws : List Jvm.Cond) (u1 : Int32) (u2 : Int32) (u3 : Int32) (u4 : Int32) (u5 : Int32) (h0 : Heap) (n0 : Nat) (Z0 : n0 ≤ h0.size) :
    MetFree l x (head1 (Jvm.Cond.code x code maxLocals ret :: ws) room_1) (fun a U => a = #[(.int u1), (.int u2), (.int u3), (.int u4), (.int u5)] ∧ Z.Warmed39 U.vm ∧ U.heap = h0) (fun _ _ _ _ _ => True) (fun _ U o U' => ∃ v L, o = .returned v ∧ Q_law Z u1 u2 u3 u4 u5 h0 n0 v U'.heap L ∧ FrameEnd U o U' L room_1.cells room_1.slots) := by
  refine MetFree.of_bodySF (plainFor_of_name pn_1) hisR ?_
  intro p e s m args below meth c s₁ Bd hml0 hP hK
  obtain ⟨rfl, hZ, hh⟩ := hP
  have hx := Bd.exec
  have hby := Bd.bytes
  have hml : c.maxLocals = 15 := hml0
  have hown : s.vm.findClass "com/example/slackline/slackline/solvers/OpenIndicesNextPinLaw" = some m.cls := findClass_of_methodNamed Bd.named
  have hnm := (name_of_methodNamed Bd.named Bd.method).1
  have X0 : Stand p l e room_1 s m #[(.int u1), (.int u2), (.int u3), (.int u4), (.int u5)] below meth c s₁ [] 0 0 := Stand.of_body Bd
  have e0 : s₁.heap = h0 := by rw [← hh, Bd.state]; rfl
  have N0 := Fr.nil n0
  have K0 : Keep h0 h0 [] := Keep.refl h0 []
  have P0 : ∀ t, Steps p.tables e below (s₁.setTop (mkF m 0 #[.val (.int u1), .val (.int u2), .val (.int u3), .val (.int u4), .val (.int u5), .unset, .unset, .unset, .unset, .unset, .unset, .unset, .unset, .unset, .unset] [])) t → Steps p.tables e below (s₁.setTop (entryFrame m #[(.int u1), (.int u2), (.int u3), (.int u4), (.int u5)] maxLocals)) t := fun t k => castTop (ef_law m u1 u2 u3 u4 u5) k
  have P1122 : ∀ t, Steps p.tables e below (s₁.setTop (mkF m 40 #[.val (.int u1), .val (.int u2), .val (.int u3), .val (.int u4), .val (.int u5), .val (.int (u1 &&& (31 : Int32))), .val (.int (u2 &&& (31 : Int32))), .val (.int ((u3 &&& (2147483647 : Int32)) % (6 : Int32))), .val (.int ((u4 &&& (2147483647 : Int32)) % (6 : Int32))), .val (.int ((u5 &&& (2147483647 : Int32)) % (6 : Int32))), .unset, .unset, .unset, .unset, .unset] [])) t → Steps p.tables e below (s₁.setTop (entryFrame m #[(.int u1), (.int u2), (.int u3), (.int u4), (.int u5)] maxLocals)) t := fun t k => P0 t (by
    refine XS.iloadN X0.here hx rfl (hb hby at_0) rfl ?_
    show Steps p.tables e below (s₁.setTop (mkF m 1 #[.val (.int u1), .val (.int u2), .val (.int u3), .val (.int u4), .val (.int u5), .unset, .unset, .unset, .unset, .unset, .unset, .unset, .unset, .unset, .unset] [(.int u1)])) _
    refine XS.bipush X0.here hx rfl (hb hby at_1) ?_
    show Steps p.tables e below (s₁.setTop (mkF m 3 #[.val (.int u1), .val (.int u2), .val (.int u3), .val (.int u4), .val (.int u5), .unset, .unset, .unset, .unset, .unset, .unset, .unset, .unset, .unset, .unset] [(.int (31 : Int32)), (.int u1)])) _
    refine XS.iand X0.here hx rfl (hb hby at_3) rfl ?_
    show Steps p.tables e below (s₁.setTop (mkF m 4 #[.val (.int u1), .val (.int u2), .val (.int u3), .val (.int u4), .val (.int u5), .unset, .unset, .unset, .unset, .unset, .unset, .unset, .unset, .unset, .unset] [(.int (u1 &&& (31 : Int32)))])) _
    refine XS.istore X0.here hx rfl (hb hby at_4) rfl (l' := #[.val (.int u1), .val (.int u2), .val (.int u3), .val (.int u4), .val (.int u5), .val (.int (u1 &&& (31 : Int32))), .unset, .unset, .unset, .unset, .unset, .unset, .unset, .unset, .unset]) rfl ?_
    show Steps p.tables e below (s₁.setTop (mkF m 6 #[.val (.int u1), .val (.int u2), .val (.int u3), .val (.int u4), .val (.int u5), .val (.int (u1 &&& (31 : Int32))), .unset, .unset, .unset, .unset, .unset, .unset, .unset, .unset, .unset] [])) _
    refine XS.iloadN X0.here hx rfl (hb hby at_6) rfl ?_
    show Steps p.tables e below (s₁.setTop (mkF m 7 #[.val (.int u1), .val (.int u2), .val (.int u3), .val (.int u4), .val (.int u5), .val (.int (u1 &&& (31 : Int32))), .unset, .unset, .unset, .unset, .unset, .unset, .unset, .unset, .unset] [(.int u2)])) _
    refine XS.bipush X0.here hx rfl (hb hby at_7) ?_
    show Steps p.tables e below (s₁.setTop (mkF m 9 #[.val (.int u1), .val (.int u2), .val (.int u3), .val (.int u4), .val (.int u5), .val (.int (u1 &&& (31 : Int32))), .unset, .unset, .unset, .unset, .unset, .unset, .unset, .unset, .unset] [(.int (31 : Int32)), (.int u2)])) _
    refine XS.iand X0.here hx rfl (hb hby at_9) rfl ?_
    show Steps p.tables e below (s₁.setTop (mkF m 10 #[.val (.int u1), .val (.int u2), .val (.int u3), .val (.int u4), .val (.int u5), .val (.int (u1 &&& (31 : Int32))), .unset, .unset, .unset, .unset, .unset, .unset, .unset, .unset, .unset] [(.int (u2 &&& (31 : Int32)))])) _
    refine XS.istore X0.here hx rfl (hb hby at_10) rfl (l' := #[.val (.int u1), .val (.int u2), .val (.int u3), .val (.int u4), .val (.int u5), .val (.int (u1 &&& (31 : Int32))), .val (.int (u2 &&& (31 : Int32))), .unset, .unset, .unset, .unset, .unset, .unset, .unset, .unset]) rfl ?_
    show Steps p.tables e below (s₁.setTop (mkF m 12 #[.val (.int u1), .val (.int u2), .val (.int u3), .val (.int u4), .val (.int u5), .val (.int (u1 &&& (31 : Int32))), .val (.int (u2 &&& (31 : Int32))), .unset, .unset, .unset, .unset, .unset, .unset, .unset, .unset] [])) _
    refine XS.iloadN X0.here hx rfl (hb hby at_12) rfl ?_
    show Steps p.tables e below (s₁.setTop (mkF m 13 #[.val (.int u1), .val (.int u2), .val (.int u3), .val (.int u4), .val (.int u5), .val (.int (u1 &&& (31 : Int32))), .val (.int (u2 &&& (31 : Int32))), .unset, .unset, .unset, .unset, .unset, .unset, .unset, .unset] [(.int u3)])) _
    refine X0.ldcInt hx hown (mvT hZ (hw _ (List.mem_of_getElem? (i := 0) rfl))) (g := (mkF m 13 #[.val (.int u1), .val (.int u2), .val (.int u3), .val (.int u4), .val (.int u5), .val (.int (u1 &&& (31 : Int32))), .val (.int (u2 &&& (31 : Int32))), .unset, .unset, .unset, .unset, .unset, .unset, .unset, .unset] [(.int u3)])) rfl (hb hby at_13) _ ?_
    show Steps p.tables e below (s₁.setTop (mkF m 15 #[.val (.int u1), .val (.int u2), .val (.int u3), .val (.int u4), .val (.int u5), .val (.int (u1 &&& (31 : Int32))), .val (.int (u2 &&& (31 : Int32))), .unset, .unset, .unset, .unset, .unset, .unset, .unset, .unset] [(.int (2147483647 : Int32)), (.int u3)])) _
    refine XS.iand X0.here hx rfl (hb hby at_15) rfl ?_
    show Steps p.tables e below (s₁.setTop (mkF m 16 #[.val (.int u1), .val (.int u2), .val (.int u3), .val (.int u4), .val (.int u5), .val (.int (u1 &&& (31 : Int32))), .val (.int (u2 &&& (31 : Int32))), .unset, .unset, .unset, .unset, .unset, .unset, .unset, .unset] [(.int (u3 &&& (2147483647 : Int32)))])) _
    refine XS.bipush X0.here hx rfl (hb hby at_16) ?_
    show Steps p.tables e below (s₁.setTop (mkF m 18 #[.val (.int u1), .val (.int u2), .val (.int u3), .val (.int u4), .val (.int u5), .val (.int (u1 &&& (31 : Int32))), .val (.int (u2 &&& (31 : Int32))), .unset, .unset, .unset, .unset, .unset, .unset, .unset, .unset] [(.int (6 : Int32)), (.int (u3 &&& (2147483647 : Int32)))])) _
    refine iremM X0 hx rfl (hb hby at_18) rfl (by decide) ?_
    show Steps p.tables e below (s₁.setTop (mkF m 19 #[.val (.int u1), .val (.int u2), .val (.int u3), .val (.int u4), .val (.int u5), .val (.int (u1 &&& (31 : Int32))), .val (.int (u2 &&& (31 : Int32))), .unset, .unset, .unset, .unset, .unset, .unset, .unset, .unset] [(.int ((u3 &&& (2147483647 : Int32)) % (6 : Int32)))])) _
    refine XS.istore X0.here hx rfl (hb hby at_19) rfl (l' := #[.val (.int u1), .val (.int u2), .val (.int u3), .val (.int u4), .val (.int u5), .val (.int (u1 &&& (31 : Int32))), .val (.int (u2 &&& (31 : Int32))), .val (.int ((u3 &&& (2147483647 : Int32)) % (6 : Int32))), .unset, .unset, .unset, .unset, .unset, .unset, .unset]) rfl ?_
    show Steps p.tables e below (s₁.setTop (mkF m 21 #[.val (.int u1), .val (.int u2), .val (.int u3), .val (.int u4), .val (.int u5), .val (.int (u1 &&& (31 : Int32))), .val (.int (u2 &&& (31 : Int32))), .val (.int ((u3 &&& (2147483647 : Int32)) % (6 : Int32))), .unset, .unset, .unset, .unset, .unset, .unset, .unset] [])) _
    refine XS.iloadN X0.here hx rfl (hb hby at_21) rfl ?_
    show Steps p.tables e below (s₁.setTop (mkF m 22 #[.val (.int u1), .val (.int u2), .val (.int u3), .val (.int u4), .val (.int u5), .val (.int (u1 &&& (31 : Int32))), .val (.int (u2 &&& (31 : Int32))), .val (.int ((u3 &&& (2147483647 : Int32)) % (6 : Int32))), .unset, .unset, .unset, .unset, .unset, .unset, .unset] [(.int u4)])) _
    refine X0.ldcInt hx hown (mvT hZ (hw _ (List.mem_of_getElem? (i := 0) rfl))) (g := (mkF m 22 #[.val (.int u1), .val (.int u2), .val (.int u3), .val (.int u4), .val (.int u5), .val (.int (u1 &&& (31 : Int32))), .val (.int (u2 &&& (31 : Int32))), .val (.int ((u3 &&& (2147483647 : Int32)) % (6 : Int32))), .unset, .unset, .unset, .unset, .unset, .unset, .unset] [(.int u4)])) rfl (hb hby at_22) _ ?_
    show Steps p.tables e below (s₁.setTop (mkF m 24 #[.val (.int u1), .val (.int u2), .val (.int u3), .val (.int u4), .val (.int u5), .val (.int (u1 &&& (31 : Int32))), .val (.int (u2 &&& (31 : Int32))), .val (.int ((u3 &&& (2147483647 : Int32)) % (6 : Int32))), .unset, .unset, .unset, .unset, .unset, .unset, .unset] [(.int (2147483647 : Int32)), (.int u4)])) _
    refine XS.iand X0.here hx rfl (hb hby at_24) rfl ?_
    show Steps p.tables e below (s₁.setTop (mkF m 25 #[.val (.int u1), .val (.int u2), .val (.int u3), .val (.int u4), .val (.int u5), .val (.int (u1 &&& (31 : Int32))), .val (.int (u2 &&& (31 : Int32))), .val (.int ((u3 &&& (2147483647 : Int32)) % (6 : Int32))), .unset, .unset, .unset, .unset, .unset, .unset, .unset] [(.int (u4 &&& (2147483647 : Int32)))])) _
    refine XS.bipush X0.here hx rfl (hb hby at_25) ?_
    show Steps p.tables e below (s₁.setTop (mkF m 27 #[.val (.int u1), .val (.int u2), .val (.int u3), .val (.int u4), .val (.int u5), .val (.int (u1 &&& (31 : Int32))), .val (.int (u2 &&& (31 : Int32))), .val (.int ((u3 &&& (2147483647 : Int32)) % (6 : Int32))), .unset, .unset, .unset, .unset, .unset, .unset, .unset] [(.int (6 : Int32)), (.int (u4 &&& (2147483647 : Int32)))])) _
    refine iremM X0 hx rfl (hb hby at_27) rfl (by decide) ?_
    show Steps p.tables e below (s₁.setTop (mkF m 28 #[.val (.int u1), .val (.int u2), .val (.int u3), .val (.int u4), .val (.int u5), .val (.int (u1 &&& (31 : Int32))), .val (.int (u2 &&& (31 : Int32))), .val (.int ((u3 &&& (2147483647 : Int32)) % (6 : Int32))), .unset, .unset, .unset, .unset, .unset, .unset, .unset] [(.int ((u4 &&& (2147483647 : Int32)) % (6 : Int32)))])) _
    refine XS.istore X0.here hx rfl (hb hby at_28) rfl (l' := #[.val (.int u1), .val (.int u2), .val (.int u3), .val (.int u4), .val (.int u5), .val (.int (u1 &&& (31 : Int32))), .val (.int (u2 &&& (31 : Int32))), .val (.int ((u3 &&& (2147483647 : Int32)) % (6 : Int32))), .val (.int ((u4 &&& (2147483647 : Int32)) % (6 : Int32))), .unset, .unset, .unset, .unset, .unset, .unset]) rfl ?_
    show Steps p.tables e below (s₁.setTop (mkF m 30 #[.val (.int u1), .val (.int u2), .val (.int u3), .val (.int u4), .val (.int u5), .val (.int (u1 &&& (31 : Int32))), .val (.int (u2 &&& (31 : Int32))), .val (.int ((u3 &&& (2147483647 : Int32)) % (6 : Int32))), .val (.int ((u4 &&& (2147483647 : Int32)) % (6 : Int32))), .unset, .unset, .unset, .unset, .unset, .unset] [])) _
    refine XS.iload X0.here hx rfl (hb hby at_30) rfl ?_
    show Steps p.tables e below (s₁.setTop (mkF m 32 #[.val (.int u1), .val (.int u2), .val (.int u3), .val (.int u4), .val (.int u5), .val (.int (u1 &&& (31 : Int32))), .val (.int (u2 &&& (31 : Int32))), .val (.int ((u3 &&& (2147483647 : Int32)) % (6 : Int32))), .val (.int ((u4 &&& (2147483647 : Int32)) % (6 : Int32))), .unset, .unset, .unset, .unset, .unset, .unset] [(.int u5)])) _
    refine X0.ldcInt hx hown (mvT hZ (hw _ (List.mem_of_getElem? (i := 0) rfl))) (g := (mkF m 32 #[.val (.int u1), .val (.int u2), .val (.int u3), .val (.int u4), .val (.int u5), .val (.int (u1 &&& (31 : Int32))), .val (.int (u2 &&& (31 : Int32))), .val (.int ((u3 &&& (2147483647 : Int32)) % (6 : Int32))), .val (.int ((u4 &&& (2147483647 : Int32)) % (6 : Int32))), .unset, .unset, .unset, .unset, .unset, .unset] [(.int u5)])) rfl (hb hby at_32) _ ?_
    show Steps p.tables e below (s₁.setTop (mkF m 34 #[.val (.int u1), .val (.int u2), .val (.int u3), .val (.int u4), .val (.int u5), .val (.int (u1 &&& (31 : Int32))), .val (.int (u2 &&& (31 : Int32))), .val (.int ((u3 &&& (2147483647 : Int32)) % (6 : Int32))), .val (.int ((u4 &&& (2147483647 : Int32)) % (6 : Int32))), .unset, .unset, .unset, .unset, .unset, .unset] [(.int (2147483647 : Int32)), (.int u5)])) _
    refine XS.iand X0.here hx rfl (hb hby at_34) rfl ?_
    show Steps p.tables e below (s₁.setTop (mkF m 35 #[.val (.int u1), .val (.int u2), .val (.int u3), .val (.int u4), .val (.int u5), .val (.int (u1 &&& (31 : Int32))), .val (.int (u2 &&& (31 : Int32))), .val (.int ((u3 &&& (2147483647 : Int32)) % (6 : Int32))), .val (.int ((u4 &&& (2147483647 : Int32)) % (6 : Int32))), .unset, .unset, .unset, .unset, .unset, .unset] [(.int (u5 &&& (2147483647 : Int32)))])) _
    refine XS.bipush X0.here hx rfl (hb hby at_35) ?_
    show Steps p.tables e below (s₁.setTop (mkF m 37 #[.val (.int u1), .val (.int u2), .val (.int u3), .val (.int u4), .val (.int u5), .val (.int (u1 &&& (31 : Int32))), .val (.int (u2 &&& (31 : Int32))), .val (.int ((u3 &&& (2147483647 : Int32)) % (6 : Int32))), .val (.int ((u4 &&& (2147483647 : Int32)) % (6 : Int32))), .unset, .unset, .unset, .unset, .unset, .unset] [(.int (6 : Int32)), (.int (u5 &&& (2147483647 : Int32)))])) _
    refine iremM X0 hx rfl (hb hby at_37) rfl (by decide) ?_
    show Steps p.tables e below (s₁.setTop (mkF m 38 #[.val (.int u1), .val (.int u2), .val (.int u3), .val (.int u4), .val (.int u5), .val (.int (u1 &&& (31 : Int32))), .val (.int (u2 &&& (31 : Int32))), .val (.int ((u3 &&& (2147483647 : Int32)) % (6 : Int32))), .val (.int ((u4 &&& (2147483647 : Int32)) % (6 : Int32))), .unset, .unset, .unset, .unset, .unset, .unset] [(.int ((u5 &&& (2147483647 : Int32)) % (6 : Int32)))])) _
    refine XS.istore X0.here hx rfl (hb hby at_38) rfl (l' := #[.val (.int u1), .val (.int u2), .val (.int u3), .val (.int u4), .val (.int u5), .val (.int (u1 &&& (31 : Int32))), .val (.int (u2 &&& (31 : Int32))), .val (.int ((u3 &&& (2147483647 : Int32)) % (6 : Int32))), .val (.int ((u4 &&& (2147483647 : Int32)) % (6 : Int32))), .val (.int ((u5 &&& (2147483647 : Int32)) % (6 : Int32))), .unset, .unset, .unset, .unset, .unset]) rfl ?_
    show Steps p.tables e below (s₁.setTop (mkF m 40 #[.val (.int u1), .val (.int u2), .val (.int u3), .val (.int u4), .val (.int u5), .val (.int (u1 &&& (31 : Int32))), .val (.int (u2 &&& (31 : Int32))), .val (.int ((u3 &&& (2147483647 : Int32)) % (6 : Int32))), .val (.int ((u4 &&& (2147483647 : Int32)) % (6 : Int32))), .val (.int ((u5 &&& (2147483647 : Int32)) % (6 : Int32))), .unset, .unset, .unset, .unset, .unset] [])) _
    exact k)
  obtain ⟨m1, hm1⟩ : ∃ z, z = (u1 &&& (31 : Int32)) := ⟨_, rfl⟩
  rw [← hm1] at P1122
  obtain ⟨m2, hm2⟩ : ∃ z, z = (u2 &&& (31 : Int32)) := ⟨_, rfl⟩
  rw [← hm2] at P1122
  obtain ⟨ia, hia, qia⟩ := own_ix u3
  rw [qia] at P1122
  obtain ⟨ib, hib, qib⟩ := own_ix u4
  rw [qib] at P1122
  obtain ⟨ic, hic, qic⟩ := own_ix u5
  rw [qic] at P1122
  obtain ⟨T1123, h1123, X1123, e1123, E1123, A1123, D1123, -, st1123⟩ := newO X0 hx hZ hown (hw _ (List.mem_of_getElem? (i := 1) rfl)) (hw _ (List.mem_of_getElem? (i := 2) rfl)) (hw _ (List.mem_of_getElem? (i := 3) rfl)) e0 (g := (mkF m 40 #[.val (.int u1), .val (.int u2), .val (.int u3), .val (.int u4), .val (.int u5), .val (.int m1), .val (.int m2), .val (.int (Int32.ofNat ia)), .val (.int (Int32.ofNat ib)), .val (.int (Int32.ofNat ic)), .unset, .unset, .unset, .unset, .unset] [])) rfl (hb hby at_40) (by decide) (by decide)
  obtain ⟨b1123, g1123⟩ : ∃ z, z = h0.size := ⟨_, rfl⟩
  rw [← g1123] at A1123 D1123 st1123
  have g_b1123 : n0 ≤ b1123 := Nat.le_trans Z0 (Nat.le_of_eq g1123.symm)
  have sz_b1123 : h0.size ≤ b1123 := Nat.le_trans K0.1 (Nat.le_of_eq g1123.symm)
  have Z1123 : n0 ≤ h1123.size := Nat.le_trans Z0 E1123.1
  have K1123 : Keep h0 h1123 [] := K0.ext E1123
  have F1123_onward : Fld Z h1123 b1123 "com/example/slackline/slackline/solvers/OpenIndices" "onward" "[I" .null := D1123 (Or.inr (hw _ (List.mem_of_getElem? (i := 12) rfl))) (ty := (.array .int)) (by decide)
  obtain ⟨_, _, ⟨T1125, L1125, k1125, n1125⟩, -, X1125, ⟨Lc1125, hQ1125, l1125, y1125, z1125⟩, st1125⟩ := X1123.specialBack hx (y := (⟨"com/example/slackline/slackline/solvers/OpenIndices", "<init>", "(I)V"⟩ : MethodName)) rfl hown (mvT hZ (hw _ (List.mem_of_getElem? (i := 4) rfl))) (mvT hZ (hw _ (List.mem_of_getElem? (i := 5) rfl))) (mvT hZ (hw _ (List.mem_of_getElem? (i := 6) rfl))) (by decide) (backOf (W := 1) (rm_init l Z a0 hw [] b1123 h1123 n0 Z1123 A1123 F1123_onward g_b1123) hZ (hw _ (List.mem_of_getElem? (i := 6) rfl)) (hw _ (List.mem_of_getElem? (i := 3) rfl)) (by decide) (by decide)) (g := (mkF m 45 #[.val (.int u1), .val (.int u2), .val (.int u3), .val (.int u4), .val (.int u5), .val (.int m1), .val (.int m2), .val (.int (Int32.ofNat ia)), .val (.int (Int32.ofNat ib)), .val (.int (Int32.ofNat ic)), .unset, .unset, .unset, .unset, .unset] [(.int (5 : Int32)), (.ref b1123), (.ref b1123)])) rfl (by rw [hml]; rfl) (Steps.refl _) (a := b1123) (argsL := [(.int (5 : Int32))]) (rest := [(.ref b1123)]) (lenOf pd_0 rfl) rfl (by show 2 * 0 + _ ≤ _; exact Nat.le_of_eq rfl) (hb hby at_45) (fun _ _ => ⟨rfl, e1123, (by decide : 1 + 1 ≤ _), (by decide : 1 + 6 ≤ _)⟩)
  dsimp only [Pt.U, Pt.locs, Pt.cells, Pt.slots] at X1125 l1125 y1125 z1125 st1125 hQ1125
  subst l1125 y1125 z1125
  obtain ⟨rfl, N1125q, t1, k1, ht1, Ki, Ei, Fi, Vi⟩ := hQ1125
  have N1125 := Fr.app N0 N1125q
  have ne_b1123_t1 : b1123 ≠ t1 := Nat.ne_of_lt (Nat.lt_of_lt_of_le A1123.lt ht1)
  have g_t1 : n0 ≤ t1 := Nat.le_trans Z1123 ht1
  have sz_t1 : h0.size ≤ t1 := Nat.le_trans K1123.1 ht1
  have Z1125 : n0 ≤ T1125.heap.size := Nat.le_trans Z1123 Ki.1
  have K1125 : Keep h0 T1125.heap [] := K1123.trans Ki (allS (Or.inr sz_b1123) all0)
  have ne1 : b1123 ≠ t1 := ne_b1123_t1
  obtain ⟨_, _, ⟨T1127, L1127, k1127, n1127⟩, -, X1127, ⟨Lc1127, hQ1127, l1127, y1127, z1127⟩, st1127⟩ := Jvm.LawKit.callS X1125 hx (y := (⟨"com/example/slackline/slackline/solvers/OpenIndicesNextPinLaw", "closeSome", "(Lcom/example/slackline/slackline/solvers/OpenIndices;I)V"⟩ : MethodName)) hown (mvT hZ (hw _ (List.mem_of_getElem? (i := 13) rfl))) (mvT hZ (hw _ (List.mem_of_getElem? (i := 14) rfl))) (mvT hZ (hw _ (List.mem_of_getElem? (i := 15) rfl))) (mvT hZ (hw _ (List.mem_of_getElem? (i := 16) rfl))) (by decide) (backOf (W := 0) (rm_some l Z a0 hw [] b1123 t1 k1 [0, 1, 2, 3, 4, 5] (fun _ => False) m1 T1125.heap n0 Z1125 Fi Vi own_start g_t1 ne1 Ei) hZ (hw _ (List.mem_of_getElem? (i := 16) rfl)) (hw _ (List.mem_of_getElem? (i := 15) rfl)) (by decide) (by decide)) (g := (mkF m 54 #[.val (.int u1), .val (.int u2), .val (.int u3), .val (.int u4), .val (.int u5), .val (.int m1), .val (.int m2), .val (.int (Int32.ofNat ia)), .val (.int (Int32.ofNat ib)), .val (.int (Int32.ofNat ic)), .val (.ref b1123), .unset, .unset, .unset, .unset] [(.int m1), (.ref b1123)])) rfl (by rw [hml]; rfl) (argsL := [(.ref b1123), (.int m1)]) (rest := []) (lenOf pd_1 rfl) rfl (by show 2 * 0 + _ ≤ _; exact Nat.le_of_eq rfl) (hb hby at_54) (fun _ _ => ⟨rfl, rfl, (by decide : 2 + 0 ≤ _), (by decide : 7 + 0 ≤ _)⟩)
  dsimp only [Pt.U, Pt.locs, Pt.cells, Pt.slots] at X1127 l1127 y1127 z1127 st1127 hQ1127
  subst l1127 y1127 z1127
  obtain ⟨rfl, N1127q, xsa, K_a, V_a, I_a⟩ := hQ1127
  have N1127 := Fr.app N1125 N1127q
  have c1128_0 := Ei.keep K_a
  have c1128_1 := Fi.keep K_a (ninS ne1 nin0)
  have Z1127 : n0 ≤ T1127.heap.size := Nat.le_trans Z1125 K_a.1
  have K1127 : Keep h0 T1127.heap [] := K1125.trans K_a (allS (Or.inr sz_t1) all0)
  obtain ⟨cq1129, kq1129, q1129a, q1129b, q1129c⟩ := isOf hZ rfl c1128_0
  obtain ⟨_, _, ⟨T1129, L1129, k1129, n1129⟩, -, X1129, ⟨Lc1129, hQ1129, l1129, y1129, z1129⟩, st1129⟩ := X1127.virtualBack hx (y := (⟨"com/example/slackline/slackline/solvers/OpenIndices", "next", "(I)I"⟩ : MethodName)) (z := (⟨"com/example/slackline/slackline/solvers/OpenIndices", "next", "(I)I"⟩ : MethodName)) hown (mvT hZ (hw _ (List.mem_of_getElem? (i := 17) rfl))) (mvT hZ (hw _ (List.mem_of_getElem? (i := 18) rfl))) (notFace_of_selects (args := #[]) (mvT hZ (hw _ (List.mem_of_getElem? (i := 20) rfl)))) (mvT hZ (hw _ (List.mem_of_getElem? (i := 20) rfl))) (mvT hZ (hw _ (List.mem_of_getElem? (i := 19) rfl))) (by decide) (backOf (W := 0) (rm_next l Z a0 hw [] b1123 t1 k1 xsa (own_cm m1 (fun _ => False)) ia T1127.heap n0 Z1127 c1128_1 V_a I_a g_t1 ne1 hia) hZ (hw _ (List.mem_of_getElem? (i := 21) rfl)) (hw _ (List.mem_of_getElem? (i := 3) rfl)) (by decide) (by decide)) q1129a q1129c (g := (mkF m 61 #[.val (.int u1), .val (.int u2), .val (.int u3), .val (.int u4), .val (.int u5), .val (.int m1), .val (.int m2), .val (.int (Int32.ofNat ia)), .val (.int (Int32.ofNat ib)), .val (.int (Int32.ofNat ic)), .val (.ref b1123), .unset, .unset, .unset, .unset] [(.int (Int32.ofNat ia)), (.ref b1123)])) rfl (by rw [hml]; rfl) (Steps.refl _) (argsL := [(.int (Int32.ofNat ia))]) (rest := []) (lenOf pd_2 rfl) rfl (by show 2 * 0 + _ ≤ _; exact Nat.le_of_eq rfl) (hb hby at_61) (fun _ _ => ⟨rfl, rfl, (by decide : 2 + 0 ≤ _), (by decide : 7 + 0 ≤ _)⟩)
  dsimp only [Pt.U, Pt.locs, Pt.cells, Pt.slots] at X1129 l1129 y1129 z1129 st1129 hQ1129
  subst l1129 y1129 z1129
  obtain ⟨rb, xsb, rfl, N1129q, K_b, V_b, I_b, fob⟩ := hQ1129
  have N1129 := Fr.app N1127 N1129q
  have c1130_0 := c1128_0.keep K_b
  have c1130_1 := c1128_1.keep K_b (ninS ne1 nin0)
  have Z1129 : n0 ≤ T1129.heap.size := Nat.le_trans Z1127 K_b.1
  have K1129 : Keep h0 T1129.heap [] := K1127.trans K_b (allS (Or.inr sz_t1) all0)
  obtain ⟨_, _, ⟨T1131, L1131, k1131, n1131⟩, -, X1131, ⟨Lc1131, hQ1131, l1131, y1131, z1131⟩, st1131⟩ := Jvm.LawKit.callS X1129 hx (y := (⟨"com/example/slackline/slackline/solvers/OpenIndicesNextPinLaw", "closeSome", "(Lcom/example/slackline/slackline/solvers/OpenIndices;I)V"⟩ : MethodName)) hown (mvT hZ (hw _ (List.mem_of_getElem? (i := 13) rfl))) (mvT hZ (hw _ (List.mem_of_getElem? (i := 14) rfl))) (mvT hZ (hw _ (List.mem_of_getElem? (i := 15) rfl))) (mvT hZ (hw _ (List.mem_of_getElem? (i := 16) rfl))) (by decide) (backOf (W := 0) (rm_some l Z a0 hw [] b1123 t1 k1 xsb (own_cm m1 (fun _ => False)) m2 T1129.heap n0 Z1129 c1130_1 V_b I_b g_t1 ne1 c1130_0) hZ (hw _ (List.mem_of_getElem? (i := 16) rfl)) (hw _ (List.mem_of_getElem? (i := 15) rfl)) (by decide) (by decide)) (g := (mkF m 70 #[.val (.int u1), .val (.int u2), .val (.int u3), .val (.int u4), .val (.int u5), .val (.int m1), .val (.int m2), .val (.int (Int32.ofNat ia)), .val (.int (Int32.ofNat ib)), .val (.int (Int32.ofNat ic)), .val (.ref b1123), .val (.int (Int32.ofNat rb)), .unset, .unset, .unset] [(.int m2), (.ref b1123)])) rfl (by rw [hml]; rfl) (argsL := [(.ref b1123), (.int m2)]) (rest := []) (lenOf pd_1 rfl) rfl (by show 2 * 0 + _ ≤ _; exact Nat.le_of_eq rfl) (hb hby at_70) (fun _ _ => ⟨rfl, rfl, (by decide : 2 + 0 ≤ _), (by decide : 7 + 0 ≤ _)⟩)
  dsimp only [Pt.U, Pt.locs, Pt.cells, Pt.slots] at X1131 l1131 y1131 z1131 st1131 hQ1131
  subst l1131 y1131 z1131
  obtain ⟨rfl, N1131q, xsc, K_c, V_c, I_c⟩ := hQ1131
  have N1131 := Fr.app N1129 N1131q
  have c1132_0 := c1130_0.keep K_c
  have c1132_1 := c1130_1.keep K_c (ninS ne1 nin0)
  have Z1131 : n0 ≤ T1131.heap.size := Nat.le_trans Z1129 K_c.1
  have K1131 : Keep h0 T1131.heap [] := K1129.trans K_c (allS (Or.inr sz_t1) all0)
  obtain ⟨cq1133, kq1133, q1133a, q1133b, q1133c⟩ := isOf hZ rfl c1132_0
  obtain ⟨_, _, ⟨T1133, L1133, k1133, n1133⟩, -, X1133, ⟨Lc1133, hQ1133, l1133, y1133, z1133⟩, st1133⟩ := X1131.virtualBack hx (y := (⟨"com/example/slackline/slackline/solvers/OpenIndices", "next", "(I)I"⟩ : MethodName)) (z := (⟨"com/example/slackline/slackline/solvers/OpenIndices", "next", "(I)I"⟩ : MethodName)) hown (mvT hZ (hw _ (List.mem_of_getElem? (i := 17) rfl))) (mvT hZ (hw _ (List.mem_of_getElem? (i := 18) rfl))) (notFace_of_selects (args := #[]) (mvT hZ (hw _ (List.mem_of_getElem? (i := 20) rfl)))) (mvT hZ (hw _ (List.mem_of_getElem? (i := 20) rfl))) (mvT hZ (hw _ (List.mem_of_getElem? (i := 19) rfl))) (by decide) (backOf (W := 0) (rm_next l Z a0 hw [] b1123 t1 k1 xsc (own_cm m2 (own_cm m1 (fun _ => False))) ib T1131.heap n0 Z1131 c1132_1 V_c I_c g_t1 ne1 hib) hZ (hw _ (List.mem_of_getElem? (i := 21) rfl)) (hw _ (List.mem_of_getElem? (i := 3) rfl)) (by decide) (by decide)) q1133a q1133c (g := (mkF m 77 #[.val (.int u1), .val (.int u2), .val (.int u3), .val (.int u4), .val (.int u5), .val (.int m1), .val (.int m2), .val (.int (Int32.ofNat ia)), .val (.int (Int32.ofNat ib)), .val (.int (Int32.ofNat ic)), .val (.ref b1123), .val (.int (Int32.ofNat rb)), .unset, .unset, .unset] [(.int (Int32.ofNat ib)), (.ref b1123)])) rfl (by rw [hml]; rfl) (Steps.refl _) (argsL := [(.int (Int32.ofNat ib))]) (rest := []) (lenOf pd_2 rfl) rfl (by show 2 * 0 + _ ≤ _; exact Nat.le_of_eq rfl) (hb hby at_77) (fun _ _ => ⟨rfl, rfl, (by decide : 2 + 0 ≤ _), (by decide : 7 + 0 ≤ _)⟩)
  dsimp only [Pt.U, Pt.locs, Pt.cells, Pt.slots] at X1133 l1133 y1133 z1133 st1133 hQ1133
  subst l1133 y1133 z1133
  obtain ⟨rd, xsd, rfl, N1133q, K_d, V_d, I_d, fod⟩ := hQ1133
  have N1133 := Fr.app N1131 N1133q
  have c1134_0 := c1132_0.keep K_d
  have c1134_1 := c1132_1.keep K_d (ninS ne1 nin0)
  have Z1133 : n0 ≤ T1133.heap.size := Nat.le_trans Z1131 K_d.1
  have K1133 : Keep h0 T1133.heap [] := K1131.trans K_d (allS (Or.inr sz_t1) all0)
  obtain ⟨cq1135, kq1135, q1135a, q1135b, q1135c⟩ := isOf hZ rfl c1134_0
  obtain ⟨_, _, ⟨T1135, L1135, k1135, n1135⟩, -, X1135, ⟨Lc1135, hQ1135, l1135, y1135, z1135⟩, st1135⟩ := X1133.virtualBack hx (y := (⟨"com/example/slackline/slackline/solvers/OpenIndices", "next", "(I)I"⟩ : MethodName)) (z := (⟨"com/example/slackline/slackline/solvers/OpenIndices", "next", "(I)I"⟩ : MethodName)) hown (mvT hZ (hw _ (List.mem_of_getElem? (i := 17) rfl))) (mvT hZ (hw _ (List.mem_of_getElem? (i := 18) rfl))) (notFace_of_selects (args := #[]) (mvT hZ (hw _ (List.mem_of_getElem? (i := 20) rfl)))) (mvT hZ (hw _ (List.mem_of_getElem? (i := 20) rfl))) (mvT hZ (hw _ (List.mem_of_getElem? (i := 19) rfl))) (by decide) (backOf (W := 0) (rm_next l Z a0 hw [] b1123 t1 k1 xsd (own_cm m2 (own_cm m1 (fun _ => False))) ic T1133.heap n0 Z1133 c1134_1 V_d I_d g_t1 ne1 hic) hZ (hw _ (List.mem_of_getElem? (i := 21) rfl)) (hw _ (List.mem_of_getElem? (i := 3) rfl)) (by decide) (by decide)) q1135a q1135c (g := (mkF m 86 #[.val (.int u1), .val (.int u2), .val (.int u3), .val (.int u4), .val (.int u5), .val (.int m1), .val (.int m2), .val (.int (Int32.ofNat ia)), .val (.int (Int32.ofNat ib)), .val (.int (Int32.ofNat ic)), .val (.ref b1123), .val (.int (Int32.ofNat rb)), .val (.int (Int32.ofNat rd)), .unset, .unset] [(.int (Int32.ofNat ic)), (.ref b1123)])) rfl (by rw [hml]; rfl) (Steps.refl _) (argsL := [(.int (Int32.ofNat ic))]) (rest := []) (lenOf pd_2 rfl) rfl (by show 2 * 0 + _ ≤ _; exact Nat.le_of_eq rfl) (hb hby at_86) (fun _ _ => ⟨rfl, rfl, (by decide : 2 + 0 ≤ _), (by decide : 7 + 0 ≤ _)⟩)
  dsimp only [Pt.U, Pt.locs, Pt.cells, Pt.slots] at X1135 l1135 y1135 z1135 st1135 hQ1135
  subst l1135 y1135 z1135
  obtain ⟨re, xse, rfl, N1135q, K_e, V_e, I_e, foe⟩ := hQ1135
  have N1135 := Fr.app N1133 N1135q
  have c1136_0 := c1134_0.keep K_e
  have c1136_1 := c1134_1.keep K_e (ninS ne1 nin0)
  have Z1135 : n0 ≤ T1135.heap.size := Nat.le_trans Z1133 K_e.1
  have K1135 : Keep h0 T1135.heap [] := K1133.trans K_e (allS (Or.inr sz_t1) all0)
  obtain ⟨_, _, ⟨T1137, L1137, k1137, n1137⟩, -, X1137, ⟨Lc1137, hQ1137, l1137, y1137, z1137⟩, st1137⟩ := Jvm.LawKit.callS X1135 hx (y := (⟨"com/example/slackline/slackline/solvers/OpenIndicesNextPinLaw", "firstOpen", "(II)I"⟩ : MethodName)) hown (mvT hZ (hw _ (List.mem_of_getElem? (i := 27) rfl))) (mvT hZ (hw _ (List.mem_of_getElem? (i := 28) rfl))) (mvT hZ (hw _ (List.mem_of_getElem? (i := 15) rfl))) (mvT hZ (hw _ (List.mem_of_getElem? (i := 29) rfl))) (by decide) (backOf (W := 1) (rm_fo l Z a0 hw [] m1 ia T1135.heap n0 Z1135 hia) hZ (hw _ (List.mem_of_getElem? (i := 29) rfl)) (hw _ (List.mem_of_getElem? (i := 15) rfl)) (by decide) (by decide)) (g := (mkF m 104 #[.val (.int u1), .val (.int u2), .val (.int u3), .val (.int u4), .val (.int u5), .val (.int m1), .val (.int m2), .val (.int (Int32.ofNat ia)), .val (.int (Int32.ofNat ib)), .val (.int (Int32.ofNat ic)), .val (.ref b1123), .val (.int (Int32.ofNat rb)), .val (.int (Int32.ofNat rd)), .val (.int (Int32.ofNat re)), .val (.int (m1 ||| m2))] [(.int (Int32.ofNat ia)), (.int m1), (.int (Int32.ofNat rb))])) rfl (by rw [hml]; rfl) (argsL := [(.int m1), (.int (Int32.ofNat ia))]) (rest := [(.int (Int32.ofNat rb))]) (lenOf pd_3 rfl) rfl (by show 2 * 0 + _ ≤ _; exact Nat.le_of_eq rfl) (hb hby at_104) (fun _ _ => ⟨rfl, rfl, (by decide : 2 + 0 ≤ _), (by decide : 7 + 0 ≤ _)⟩)
  dsimp only [Pt.U, Pt.locs, Pt.cells, Pt.slots] at X1137 l1137 y1137 z1137 st1137 hQ1137
  subst l1137 y1137 z1137
  obtain ⟨rf, rfl, N1137q, eff, fof⟩ := hQ1137
  have N1137 := Fr.app N1135 N1137q
  obtain ⟨_, _, ⟨T1138, L1138, k1138, n1138⟩, -, X1138, ⟨Lc1138, hQ1138, l1138, y1138, z1138⟩, st1138⟩ := Jvm.LawKit.callS X1137 hx (y := (⟨"com/example/slackline/slackline/solvers/OpenIndicesNextPinLaw", "firstOpen", "(II)I"⟩ : MethodName)) hown (mvT hZ (hw _ (List.mem_of_getElem? (i := 27) rfl))) (mvT hZ (hw _ (List.mem_of_getElem? (i := 28) rfl))) (mvT hZ (hw _ (List.mem_of_getElem? (i := 15) rfl))) (mvT hZ (hw _ (List.mem_of_getElem? (i := 29) rfl))) (by decide) (backOf (W := 1) (rm_fo l Z a0 hw [] (m1 ||| m2) ib T1135.heap n0 Z1135 hib) hZ (hw _ (List.mem_of_getElem? (i := 29) rfl)) (hw _ (List.mem_of_getElem? (i := 15) rfl)) (by decide) (by decide)) (g := (mkF m 116 #[.val (.int u1), .val (.int u2), .val (.int u3), .val (.int u4), .val (.int u5), .val (.int m1), .val (.int m2), .val (.int (Int32.ofNat ia)), .val (.int (Int32.ofNat ib)), .val (.int (Int32.ofNat ic)), .val (.ref b1123), .val (.int (Int32.ofNat rb)), .val (.int (Int32.ofNat rd)), .val (.int (Int32.ofNat re)), .val (.int (m1 ||| m2))] [(.int (Int32.ofNat ib)), (.int (m1 ||| m2)), (.int (Int32.ofNat rd))])) rfl (by rw [hml]; rfl) (argsL := [(.int (m1 ||| m2)), (.int (Int32.ofNat ib))]) (rest := [(.int (Int32.ofNat rd))]) (lenOf pd_3 rfl) rfl (by show 2 * 0 + _ ≤ _; exact Nat.le_of_eq rfl) (hb hby at_116) (fun _ _ => ⟨rfl, eff, (by decide : 2 + 0 ≤ _), (by decide : 7 + 0 ≤ _)⟩)
  dsimp only [Pt.U, Pt.locs, Pt.cells, Pt.slots] at X1138 l1138 y1138 z1138 st1138 hQ1138
  subst l1138 y1138 z1138
  obtain ⟨rg, rfl, N1138q, efg, fog⟩ := hQ1138
  have N1138 := Fr.app N1137 N1138q
  obtain ⟨_, _, ⟨T1139, L1139, k1139, n1139⟩, -, X1139, ⟨Lc1139, hQ1139, l1139, y1139, z1139⟩, st1139⟩ := Jvm.LawKit.callS X1138 hx (y := (⟨"com/example/slackline/slackline/solvers/OpenIndicesNextPinLaw", "firstOpen", "(II)I"⟩ : MethodName)) hown (mvT hZ (hw _ (List.mem_of_getElem? (i := 27) rfl))) (mvT hZ (hw _ (List.mem_of_getElem? (i := 28) rfl))) (mvT hZ (hw _ (List.mem_of_getElem? (i := 15) rfl))) (mvT hZ (hw _ (List.mem_of_getElem? (i := 29) rfl))) (by decide) (backOf (W := 1) (rm_fo l Z a0 hw [] (m1 ||| m2) ic T1135.heap n0 Z1135 hic) hZ (hw _ (List.mem_of_getElem? (i := 29) rfl)) (hw _ (List.mem_of_getElem? (i := 15) rfl)) (by decide) (by decide)) (g := (mkF m 128 #[.val (.int u1), .val (.int u2), .val (.int u3), .val (.int u4), .val (.int u5), .val (.int m1), .val (.int m2), .val (.int (Int32.ofNat ia)), .val (.int (Int32.ofNat ib)), .val (.int (Int32.ofNat ic)), .val (.ref b1123), .val (.int (Int32.ofNat rb)), .val (.int (Int32.ofNat rd)), .val (.int (Int32.ofNat re)), .val (.int (m1 ||| m2))] [(.int (Int32.ofNat ic)), (.int (m1 ||| m2)), (.int (Int32.ofNat re))])) rfl (by rw [hml]; rfl) (argsL := [(.int (m1 ||| m2)), (.int (Int32.ofNat ic))]) (rest := [(.int (Int32.ofNat re))]) (lenOf pd_3 rfl) rfl (by show 2 * 0 + _ ≤ _; exact Nat.le_of_eq rfl) (hb hby at_128) (fun _ _ => ⟨rfl, efg, (by decide : 2 + 0 ≤ _), (by decide : 7 + 0 ≤ _)⟩)
  dsimp only [Pt.U, Pt.locs, Pt.cells, Pt.slots] at X1139 l1139 y1139 z1139 st1139 hQ1139
  subst l1139 y1139 z1139
  obtain ⟨rh, rfl, N1139q, efh, foh⟩ := hQ1139
  have N1139 := Fr.app N1138 N1139q
  have P1140 : ∀ t, Steps p.tables e below (T1139.setTop (mkF m 139 #[.val (.int u1), .val (.int u2), .val (.int u3), .val (.int u4), .val (.int u5), .val (.int m1), .val (.int m2), .val (.int (Int32.ofNat ia)), .val (.int (Int32.ofNat ib)), .val (.int (Int32.ofNat ic)), .val (.ref b1123), .val (.int (Int32.ofNat rb)), .val (.int (Int32.ofNat rd)), .val (.int (Int32.ofNat re)), .val (.int (m1 ||| m2))] [(.int (1 : Int32))])) t → Steps p.tables e below (s₁.setTop (entryFrame m #[(.int u1), (.int u2), (.int u3), (.int u4), (.int u5)] maxLocals)) t := fun t k => P1122 t (by
    refine st1123 _ ?_
    show Steps p.tables e below (T1123.setTop (mkF m 43 #[.val (.int u1), .val (.int u2), .val (.int u3), .val (.int u4), .val (.int u5), .val (.int m1), .val (.int m2), .val (.int (Int32.ofNat ia)), .val (.int (Int32.ofNat ib)), .val (.int (Int32.ofNat ic)), .unset, .unset, .unset, .unset, .unset] [(.ref b1123)])) _
    refine XS.dup X1123.here hx rfl (hb hby at_43) rfl rfl ?_
    show Steps p.tables e below (T1123.setTop (mkF m 44 #[.val (.int u1), .val (.int u2), .val (.int u3), .val (.int u4), .val (.int u5), .val (.int m1), .val (.int m2), .val (.int (Int32.ofNat ia)), .val (.int (Int32.ofNat ib)), .val (.int (Int32.ofNat ic)), .unset, .unset, .unset, .unset, .unset] [(.ref b1123), (.ref b1123)])) _
    refine XS.iconst X1123.here hx rfl (hb hby at_44) ?_
    show Steps p.tables e below (T1123.setTop (mkF m 45 #[.val (.int u1), .val (.int u2), .val (.int u3), .val (.int u4), .val (.int u5), .val (.int m1), .val (.int m2), .val (.int (Int32.ofNat ia)), .val (.int (Int32.ofNat ib)), .val (.int (Int32.ofNat ic)), .unset, .unset, .unset, .unset, .unset] [(.int (5 : Int32)), (.ref b1123), (.ref b1123)])) _
    refine st1125.trans ?_
    show Steps p.tables e below (T1125.setTop (mkF m 48 #[.val (.int u1), .val (.int u2), .val (.int u3), .val (.int u4), .val (.int u5), .val (.int m1), .val (.int m2), .val (.int (Int32.ofNat ia)), .val (.int (Int32.ofNat ib)), .val (.int (Int32.ofNat ic)), .unset, .unset, .unset, .unset, .unset] [(.ref b1123)])) _
    refine XS.astore X1125.here hx rfl (hb hby at_48) rfl rfl (l' := #[.val (.int u1), .val (.int u2), .val (.int u3), .val (.int u4), .val (.int u5), .val (.int m1), .val (.int m2), .val (.int (Int32.ofNat ia)), .val (.int (Int32.ofNat ib)), .val (.int (Int32.ofNat ic)), .val (.ref b1123), .unset, .unset, .unset, .unset]) rfl ?_
    show Steps p.tables e below (T1125.setTop (mkF m 50 #[.val (.int u1), .val (.int u2), .val (.int u3), .val (.int u4), .val (.int u5), .val (.int m1), .val (.int m2), .val (.int (Int32.ofNat ia)), .val (.int (Int32.ofNat ib)), .val (.int (Int32.ofNat ic)), .val (.ref b1123), .unset, .unset, .unset, .unset] [])) _
    refine XS.aload X1125.here hx rfl (hb hby at_50) rfl rfl ?_
    show Steps p.tables e below (T1125.setTop (mkF m 52 #[.val (.int u1), .val (.int u2), .val (.int u3), .val (.int u4), .val (.int u5), .val (.int m1), .val (.int m2), .val (.int (Int32.ofNat ia)), .val (.int (Int32.ofNat ib)), .val (.int (Int32.ofNat ic)), .val (.ref b1123), .unset, .unset, .unset, .unset] [(.ref b1123)])) _
    refine XS.iload X1125.here hx rfl (hb hby at_52) rfl ?_
    show Steps p.tables e below (T1125.setTop (mkF m 54 #[.val (.int u1), .val (.int u2), .val (.int u3), .val (.int u4), .val (.int u5), .val (.int m1), .val (.int m2), .val (.int (Int32.ofNat ia)), .val (.int (Int32.ofNat ib)), .val (.int (Int32.ofNat ic)), .val (.ref b1123), .unset, .unset, .unset, .unset] [(.int m1), (.ref b1123)])) _
    refine st1127 _ ?_
    show Steps p.tables e below (T1127.setTop (mkF m 57 #[.val (.int u1), .val (.int u2), .val (.int u3), .val (.int u4), .val (.int u5), .val (.int m1), .val (.int m2), .val (.int (Int32.ofNat ia)), .val (.int (Int32.ofNat ib)), .val (.int (Int32.ofNat ic)), .val (.ref b1123), .unset, .unset, .unset, .unset] [])) _
    refine XS.aload X1127.here hx rfl (hb hby at_57) rfl rfl ?_
    show Steps p.tables e below (T1127.setTop (mkF m 59 #[.val (.int u1), .val (.int u2), .val (.int u3), .val (.int u4), .val (.int u5), .val (.int m1), .val (.int m2), .val (.int (Int32.ofNat ia)), .val (.int (Int32.ofNat ib)), .val (.int (Int32.ofNat ic)), .val (.ref b1123), .unset, .unset, .unset, .unset] [(.ref b1123)])) _
    refine XS.iload X1127.here hx rfl (hb hby at_59) rfl ?_
    show Steps p.tables e below (T1127.setTop (mkF m 61 #[.val (.int u1), .val (.int u2), .val (.int u3), .val (.int u4), .val (.int u5), .val (.int m1), .val (.int m2), .val (.int (Int32.ofNat ia)), .val (.int (Int32.ofNat ib)), .val (.int (Int32.ofNat ic)), .val (.ref b1123), .unset, .unset, .unset, .unset] [(.int (Int32.ofNat ia)), (.ref b1123)])) _
    refine st1129.trans ?_
    show Steps p.tables e below (T1129.setTop (mkF m 64 #[.val (.int u1), .val (.int u2), .val (.int u3), .val (.int u4), .val (.int u5), .val (.int m1), .val (.int m2), .val (.int (Int32.ofNat ia)), .val (.int (Int32.ofNat ib)), .val (.int (Int32.ofNat ic)), .val (.ref b1123), .unset, .unset, .unset, .unset] [(.int (Int32.ofNat rb))])) _
    refine XS.istore X1129.here hx rfl (hb hby at_64) rfl (l' := #[.val (.int u1), .val (.int u2), .val (.int u3), .val (.int u4), .val (.int u5), .val (.int m1), .val (.int m2), .val (.int (Int32.ofNat ia)), .val (.int (Int32.ofNat ib)), .val (.int (Int32.ofNat ic)), .val (.ref b1123), .val (.int (Int32.ofNat rb)), .unset, .unset, .unset]) rfl ?_
    show Steps p.tables e below (T1129.setTop (mkF m 66 #[.val (.int u1), .val (.int u2), .val (.int u3), .val (.int u4), .val (.int u5), .val (.int m1), .val (.int m2), .val (.int (Int32.ofNat ia)), .val (.int (Int32.ofNat ib)), .val (.int (Int32.ofNat ic)), .val (.ref b1123), .val (.int (Int32.ofNat rb)), .unset, .unset, .unset] [])) _
    refine XS.aload X1129.here hx rfl (hb hby at_66) rfl rfl ?_
    show Steps p.tables e below (T1129.setTop (mkF m 68 #[.val (.int u1), .val (.int u2), .val (.int u3), .val (.int u4), .val (.int u5), .val (.int m1), .val (.int m2), .val (.int (Int32.ofNat ia)), .val (.int (Int32.ofNat ib)), .val (.int (Int32.ofNat ic)), .val (.ref b1123), .val (.int (Int32.ofNat rb)), .unset, .unset, .unset] [(.ref b1123)])) _
    refine XS.iload X1129.here hx rfl (hb hby at_68) rfl ?_
    show Steps p.tables e below (T1129.setTop (mkF m 70 #[.val (.int u1), .val (.int u2), .val (.int u3), .val (.int u4), .val (.int u5), .val (.int m1), .val (.int m2), .val (.int (Int32.ofNat ia)), .val (.int (Int32.ofNat ib)), .val (.int (Int32.ofNat ic)), .val (.ref b1123), .val (.int (Int32.ofNat rb)), .unset, .unset, .unset] [(.int m2), (.ref b1123)])) _
    refine st1131 _ ?_
    show Steps p.tables e below (T1131.setTop (mkF m 73 #[.val (.int u1), .val (.int u2), .val (.int u3), .val (.int u4), .val (.int u5), .val (.int m1), .val (.int m2), .val (.int (Int32.ofNat ia)), .val (.int (Int32.ofNat ib)), .val (.int (Int32.ofNat ic)), .val (.ref b1123), .val (.int (Int32.ofNat rb)), .unset, .unset, .unset] [])) _
    refine XS.aload X1131.here hx rfl (hb hby at_73) rfl rfl ?_
    show Steps p.tables e below (T1131.setTop (mkF m 75 #[.val (.int u1), .val (.int u2), .val (.int u3), .val (.int u4), .val (.int u5), .val (.int m1), .val (.int m2), .val (.int (Int32.ofNat ia)), .val (.int (Int32.ofNat ib)), .val (.int (Int32.ofNat ic)), .val (.ref b1123), .val (.int (Int32.ofNat rb)), .unset, .unset, .unset] [(.ref b1123)])) _
    refine XS.iload X1131.here hx rfl (hb hby at_75) rfl ?_
    show Steps p.tables e below (T1131.setTop (mkF m 77 #[.val (.int u1), .val (.int u2), .val (.int u3), .val (.int u4), .val (.int u5), .val (.int m1), .val (.int m2), .val (.int (Int32.ofNat ia)), .val (.int (Int32.ofNat ib)), .val (.int (Int32.ofNat ic)), .val (.ref b1123), .val (.int (Int32.ofNat rb)), .unset, .unset, .unset] [(.int (Int32.ofNat ib)), (.ref b1123)])) _
    refine st1133.trans ?_
    show Steps p.tables e below (T1133.setTop (mkF m 80 #[.val (.int u1), .val (.int u2), .val (.int u3), .val (.int u4), .val (.int u5), .val (.int m1), .val (.int m2), .val (.int (Int32.ofNat ia)), .val (.int (Int32.ofNat ib)), .val (.int (Int32.ofNat ic)), .val (.ref b1123), .val (.int (Int32.ofNat rb)), .unset, .unset, .unset] [(.int (Int32.ofNat rd))])) _
    refine XS.istore X1133.here hx rfl (hb hby at_80) rfl (l' := #[.val (.int u1), .val (.int u2), .val (.int u3), .val (.int u4), .val (.int u5), .val (.int m1), .val (.int m2), .val (.int (Int32.ofNat ia)), .val (.int (Int32.ofNat ib)), .val (.int (Int32.ofNat ic)), .val (.ref b1123), .val (.int (Int32.ofNat rb)), .val (.int (Int32.ofNat rd)), .unset, .unset]) rfl ?_
    show Steps p.tables e below (T1133.setTop (mkF m 82 #[.val (.int u1), .val (.int u2), .val (.int u3), .val (.int u4), .val (.int u5), .val (.int m1), .val (.int m2), .val (.int (Int32.ofNat ia)), .val (.int (Int32.ofNat ib)), .val (.int (Int32.ofNat ic)), .val (.ref b1123), .val (.int (Int32.ofNat rb)), .val (.int (Int32.ofNat rd)), .unset, .unset] [])) _
    refine XS.aload X1133.here hx rfl (hb hby at_82) rfl rfl ?_
    show Steps p.tables e below (T1133.setTop (mkF m 84 #[.val (.int u1), .val (.int u2), .val (.int u3), .val (.int u4), .val (.int u5), .val (.int m1), .val (.int m2), .val (.int (Int32.ofNat ia)), .val (.int (Int32.ofNat ib)), .val (.int (Int32.ofNat ic)), .val (.ref b1123), .val (.int (Int32.ofNat rb)), .val (.int (Int32.ofNat rd)), .unset, .unset] [(.ref b1123)])) _
    refine XS.iload X1133.here hx rfl (hb hby at_84) rfl ?_
    show Steps p.tables e below (T1133.setTop (mkF m 86 #[.val (.int u1), .val (.int u2), .val (.int u3), .val (.int u4), .val (.int u5), .val (.int m1), .val (.int m2), .val (.int (Int32.ofNat ia)), .val (.int (Int32.ofNat ib)), .val (.int (Int32.ofNat ic)), .val (.ref b1123), .val (.int (Int32.ofNat rb)), .val (.int (Int32.ofNat rd)), .unset, .unset] [(.int (Int32.ofNat ic)), (.ref b1123)])) _
    refine st1135.trans ?_
    show Steps p.tables e below (T1135.setTop (mkF m 89 #[.val (.int u1), .val (.int u2), .val (.int u3), .val (.int u4), .val (.int u5), .val (.int m1), .val (.int m2), .val (.int (Int32.ofNat ia)), .val (.int (Int32.ofNat ib)), .val (.int (Int32.ofNat ic)), .val (.ref b1123), .val (.int (Int32.ofNat rb)), .val (.int (Int32.ofNat rd)), .unset, .unset] [(.int (Int32.ofNat re))])) _
    refine XS.istore X1135.here hx rfl (hb hby at_89) rfl (l' := #[.val (.int u1), .val (.int u2), .val (.int u3), .val (.int u4), .val (.int u5), .val (.int m1), .val (.int m2), .val (.int (Int32.ofNat ia)), .val (.int (Int32.ofNat ib)), .val (.int (Int32.ofNat ic)), .val (.ref b1123), .val (.int (Int32.ofNat rb)), .val (.int (Int32.ofNat rd)), .val (.int (Int32.ofNat re)), .unset]) rfl ?_
    show Steps p.tables e below (T1135.setTop (mkF m 91 #[.val (.int u1), .val (.int u2), .val (.int u3), .val (.int u4), .val (.int u5), .val (.int m1), .val (.int m2), .val (.int (Int32.ofNat ia)), .val (.int (Int32.ofNat ib)), .val (.int (Int32.ofNat ic)), .val (.ref b1123), .val (.int (Int32.ofNat rb)), .val (.int (Int32.ofNat rd)), .val (.int (Int32.ofNat re)), .unset] [])) _
    refine XS.iload X1135.here hx rfl (hb hby at_91) rfl ?_
    show Steps p.tables e below (T1135.setTop (mkF m 93 #[.val (.int u1), .val (.int u2), .val (.int u3), .val (.int u4), .val (.int u5), .val (.int m1), .val (.int m2), .val (.int (Int32.ofNat ia)), .val (.int (Int32.ofNat ib)), .val (.int (Int32.ofNat ic)), .val (.ref b1123), .val (.int (Int32.ofNat rb)), .val (.int (Int32.ofNat rd)), .val (.int (Int32.ofNat re)), .unset] [(.int m1)])) _
    refine XS.iload X1135.here hx rfl (hb hby at_93) rfl ?_
    show Steps p.tables e below (T1135.setTop (mkF m 95 #[.val (.int u1), .val (.int u2), .val (.int u3), .val (.int u4), .val (.int u5), .val (.int m1), .val (.int m2), .val (.int (Int32.ofNat ia)), .val (.int (Int32.ofNat ib)), .val (.int (Int32.ofNat ic)), .val (.ref b1123), .val (.int (Int32.ofNat rb)), .val (.int (Int32.ofNat rd)), .val (.int (Int32.ofNat re)), .unset] [(.int m2), (.int m1)])) _
    refine XS.ior X1135.here hx rfl (hb hby at_95) rfl ?_
    show Steps p.tables e below (T1135.setTop (mkF m 96 #[.val (.int u1), .val (.int u2), .val (.int u3), .val (.int u4), .val (.int u5), .val (.int m1), .val (.int m2), .val (.int (Int32.ofNat ia)), .val (.int (Int32.ofNat ib)), .val (.int (Int32.ofNat ic)), .val (.ref b1123), .val (.int (Int32.ofNat rb)), .val (.int (Int32.ofNat rd)), .val (.int (Int32.ofNat re)), .unset] [(.int (m1 ||| m2))])) _
    refine XS.istore X1135.here hx rfl (hb hby at_96) rfl (l' := #[.val (.int u1), .val (.int u2), .val (.int u3), .val (.int u4), .val (.int u5), .val (.int m1), .val (.int m2), .val (.int (Int32.ofNat ia)), .val (.int (Int32.ofNat ib)), .val (.int (Int32.ofNat ic)), .val (.ref b1123), .val (.int (Int32.ofNat rb)), .val (.int (Int32.ofNat rd)), .val (.int (Int32.ofNat re)), .val (.int (m1 ||| m2))]) rfl ?_
    show Steps p.tables e below (T1135.setTop (mkF m 98 #[.val (.int u1), .val (.int u2), .val (.int u3), .val (.int u4), .val (.int u5), .val (.int m1), .val (.int m2), .val (.int (Int32.ofNat ia)), .val (.int (Int32.ofNat ib)), .val (.int (Int32.ofNat ic)), .val (.ref b1123), .val (.int (Int32.ofNat rb)), .val (.int (Int32.ofNat rd)), .val (.int (Int32.ofNat re)), .val (.int (m1 ||| m2))] [])) _
    refine XS.iload X1135.here hx rfl (hb hby at_98) rfl ?_
    show Steps p.tables e below (T1135.setTop (mkF m 100 #[.val (.int u1), .val (.int u2), .val (.int u3), .val (.int u4), .val (.int u5), .val (.int m1), .val (.int m2), .val (.int (Int32.ofNat ia)), .val (.int (Int32.ofNat ib)), .val (.int (Int32.ofNat ic)), .val (.ref b1123), .val (.int (Int32.ofNat rb)), .val (.int (Int32.ofNat rd)), .val (.int (Int32.ofNat re)), .val (.int (m1 ||| m2))] [(.int (Int32.ofNat rb))])) _
    refine XS.iload X1135.here hx rfl (hb hby at_100) rfl ?_
    show Steps p.tables e below (T1135.setTop (mkF m 102 #[.val (.int u1), .val (.int u2), .val (.int u3), .val (.int u4), .val (.int u5), .val (.int m1), .val (.int m2), .val (.int (Int32.ofNat ia)), .val (.int (Int32.ofNat ib)), .val (.int (Int32.ofNat ic)), .val (.ref b1123), .val (.int (Int32.ofNat rb)), .val (.int (Int32.ofNat rd)), .val (.int (Int32.ofNat re)), .val (.int (m1 ||| m2))] [(.int m1), (.int (Int32.ofNat rb))])) _
    refine XS.iload X1135.here hx rfl (hb hby at_102) rfl ?_
    show Steps p.tables e below (T1135.setTop (mkF m 104 #[.val (.int u1), .val (.int u2), .val (.int u3), .val (.int u4), .val (.int u5), .val (.int m1), .val (.int m2), .val (.int (Int32.ofNat ia)), .val (.int (Int32.ofNat ib)), .val (.int (Int32.ofNat ic)), .val (.ref b1123), .val (.int (Int32.ofNat rb)), .val (.int (Int32.ofNat rd)), .val (.int (Int32.ofNat re)), .val (.int (m1 ||| m2))] [(.int (Int32.ofNat ia)), (.int m1), (.int (Int32.ofNat rb))])) _
    refine st1137 _ ?_
    show Steps p.tables e below (T1137.setTop (mkF m 107 #[.val (.int u1), .val (.int u2), .val (.int u3), .val (.int u4), .val (.int u5), .val (.int m1), .val (.int m2), .val (.int (Int32.ofNat ia)), .val (.int (Int32.ofNat ib)), .val (.int (Int32.ofNat ic)), .val (.ref b1123), .val (.int (Int32.ofNat rb)), .val (.int (Int32.ofNat rd)), .val (.int (Int32.ofNat re)), .val (.int (m1 ||| m2))] [(.int (Int32.ofNat rf)), (.int (Int32.ofNat rb))])) _
    refine XS.icmpNo X1137.here hx rfl (hb hby at_107) rfl (teq (congrArg Int32.ofNat (own_FO_uniq fob fof))).2 ?_
    show Steps p.tables e below (T1137.setTop (mkF m 110 #[.val (.int u1), .val (.int u2), .val (.int u3), .val (.int u4), .val (.int u5), .val (.int m1), .val (.int m2), .val (.int (Int32.ofNat ia)), .val (.int (Int32.ofNat ib)), .val (.int (Int32.ofNat ic)), .val (.ref b1123), .val (.int (Int32.ofNat rb)), .val (.int (Int32.ofNat rd)), .val (.int (Int32.ofNat re)), .val (.int (m1 ||| m2))] [])) _
    refine XS.iload X1137.here hx rfl (hb hby at_110) rfl ?_
    show Steps p.tables e below (T1137.setTop (mkF m 112 #[.val (.int u1), .val (.int u2), .val (.int u3), .val (.int u4), .val (.int u5), .val (.int m1), .val (.int m2), .val (.int (Int32.ofNat ia)), .val (.int (Int32.ofNat ib)), .val (.int (Int32.ofNat ic)), .val (.ref b1123), .val (.int (Int32.ofNat rb)), .val (.int (Int32.ofNat rd)), .val (.int (Int32.ofNat re)), .val (.int (m1 ||| m2))] [(.int (Int32.ofNat rd))])) _
    refine XS.iload X1137.here hx rfl (hb hby at_112) rfl ?_
    show Steps p.tables e below (T1137.setTop (mkF m 114 #[.val (.int u1), .val (.int u2), .val (.int u3), .val (.int u4), .val (.int u5), .val (.int m1), .val (.int m2), .val (.int (Int32.ofNat ia)), .val (.int (Int32.ofNat ib)), .val (.int (Int32.ofNat ic)), .val (.ref b1123), .val (.int (Int32.ofNat rb)), .val (.int (Int32.ofNat rd)), .val (.int (Int32.ofNat re)), .val (.int (m1 ||| m2))] [(.int (m1 ||| m2)), (.int (Int32.ofNat rd))])) _
    refine XS.iload X1137.here hx rfl (hb hby at_114) rfl ?_
    show Steps p.tables e below (T1137.setTop (mkF m 116 #[.val (.int u1), .val (.int u2), .val (.int u3), .val (.int u4), .val (.int u5), .val (.int m1), .val (.int m2), .val (.int (Int32.ofNat ia)), .val (.int (Int32.ofNat ib)), .val (.int (Int32.ofNat ic)), .val (.ref b1123), .val (.int (Int32.ofNat rb)), .val (.int (Int32.ofNat rd)), .val (.int (Int32.ofNat re)), .val (.int (m1 ||| m2))] [(.int (Int32.ofNat ib)), (.int (m1 ||| m2)), (.int (Int32.ofNat rd))])) _
    refine st1138 _ ?_
    show Steps p.tables e below (T1138.setTop (mkF m 119 #[.val (.int u1), .val (.int u2), .val (.int u3), .val (.int u4), .val (.int u5), .val (.int m1), .val (.int m2), .val (.int (Int32.ofNat ia)), .val (.int (Int32.ofNat ib)), .val (.int (Int32.ofNat ic)), .val (.ref b1123), .val (.int (Int32.ofNat rb)), .val (.int (Int32.ofNat rd)), .val (.int (Int32.ofNat re)), .val (.int (m1 ||| m2))] [(.int (Int32.ofNat rg)), (.int (Int32.ofNat rd))])) _
    refine XS.icmpNo X1138.here hx rfl (hb hby at_119) rfl (teq (congrArg Int32.ofNat (own_FO_uniq (own_FO_or fod) fog))).2 ?_
    show Steps p.tables e below (T1138.setTop (mkF m 122 #[.val (.int u1), .val (.int u2), .val (.int u3), .val (.int u4), .val (.int u5), .val (.int m1), .val (.int m2), .val (.int (Int32.ofNat ia)), .val (.int (Int32.ofNat ib)), .val (.int (Int32.ofNat ic)), .val (.ref b1123), .val (.int (Int32.ofNat rb)), .val (.int (Int32.ofNat rd)), .val (.int (Int32.ofNat re)), .val (.int (m1 ||| m2))] [])) _
    refine XS.iload X1138.here hx rfl (hb hby at_122) rfl ?_
    show Steps p.tables e below (T1138.setTop (mkF m 124 #[.val (.int u1), .val (.int u2), .val (.int u3), .val (.int u4), .val (.int u5), .val (.int m1), .val (.int m2), .val (.int (Int32.ofNat ia)), .val (.int (Int32.ofNat ib)), .val (.int (Int32.ofNat ic)), .val (.ref b1123), .val (.int (Int32.ofNat rb)), .val (.int (Int32.ofNat rd)), .val (.int (Int32.ofNat re)), .val (.int (m1 ||| m2))] [(.int (Int32.ofNat re))])) _
    refine XS.iload X1138.here hx rfl (hb hby at_124) rfl ?_
    show Steps p.tables e below (T1138.setTop (mkF m 126 #[.val (.int u1), .val (.int u2), .val (.int u3), .val (.int u4), .val (.int u5), .val (.int m1), .val (.int m2), .val (.int (Int32.ofNat ia)), .val (.int (Int32.ofNat ib)), .val (.int (Int32.ofNat ic)), .val (.ref b1123), .val (.int (Int32.ofNat rb)), .val (.int (Int32.ofNat rd)), .val (.int (Int32.ofNat re)), .val (.int (m1 ||| m2))] [(.int (m1 ||| m2)), (.int (Int32.ofNat re))])) _
    refine XS.iload X1138.here hx rfl (hb hby at_126) rfl ?_
    show Steps p.tables e below (T1138.setTop (mkF m 128 #[.val (.int u1), .val (.int u2), .val (.int u3), .val (.int u4), .val (.int u5), .val (.int m1), .val (.int m2), .val (.int (Int32.ofNat ia)), .val (.int (Int32.ofNat ib)), .val (.int (Int32.ofNat ic)), .val (.ref b1123), .val (.int (Int32.ofNat rb)), .val (.int (Int32.ofNat rd)), .val (.int (Int32.ofNat re)), .val (.int (m1 ||| m2))] [(.int (Int32.ofNat ic)), (.int (m1 ||| m2)), (.int (Int32.ofNat re))])) _
    refine st1139 _ ?_
    show Steps p.tables e below (T1139.setTop (mkF m 131 #[.val (.int u1), .val (.int u2), .val (.int u3), .val (.int u4), .val (.int u5), .val (.int m1), .val (.int m2), .val (.int (Int32.ofNat ia)), .val (.int (Int32.ofNat ib)), .val (.int (Int32.ofNat ic)), .val (.ref b1123), .val (.int (Int32.ofNat rb)), .val (.int (Int32.ofNat rd)), .val (.int (Int32.ofNat re)), .val (.int (m1 ||| m2))] [(.int (Int32.ofNat rh)), (.int (Int32.ofNat re))])) _
    refine XS.icmpNo X1139.here hx rfl (hb hby at_131) rfl (teq (congrArg Int32.ofNat (own_FO_uniq (own_FO_or foe) foh))).2 ?_
    show Steps p.tables e below (T1139.setTop (mkF m 134 #[.val (.int u1), .val (.int u2), .val (.int u3), .val (.int u4), .val (.int u5), .val (.int m1), .val (.int m2), .val (.int (Int32.ofNat ia)), .val (.int (Int32.ofNat ib)), .val (.int (Int32.ofNat ic)), .val (.ref b1123), .val (.int (Int32.ofNat rb)), .val (.int (Int32.ofNat rd)), .val (.int (Int32.ofNat re)), .val (.int (m1 ||| m2))] [])) _
    refine XS.iconst X1139.here hx rfl (hb hby at_134) ?_
    show Steps p.tables e below (T1139.setTop (mkF m 135 #[.val (.int u1), .val (.int u2), .val (.int u3), .val (.int u4), .val (.int u5), .val (.int m1), .val (.int m2), .val (.int (Int32.ofNat ia)), .val (.int (Int32.ofNat ib)), .val (.int (Int32.ofNat ic)), .val (.ref b1123), .val (.int (Int32.ofNat rb)), .val (.int (Int32.ofNat rd)), .val (.int (Int32.ofNat re)), .val (.int (m1 ||| m2))] [(.int (1 : Int32))])) _
    refine XS.goto X1139.here hx rfl (pc0 := 135) (pc' := 139) rfl (hb hby at_135) (by decide) (by decide) ?_
    show Steps p.tables e below (T1139.setTop (mkF m 139 #[.val (.int u1), .val (.int u2), .val (.int u3), .val (.int u4), .val (.int u5), .val (.int m1), .val (.int m2), .val (.int (Int32.ofNat ia)), .val (.int (Int32.ofNat ib)), .val (.int (Int32.ofNat ic)), .val (.ref b1123), .val (.int (Int32.ofNat rb)), .val (.int (Int32.ofNat rd)), .val (.int (Int32.ofNat re)), .val (.int (m1 ||| m2))] [(.int (1 : Int32))])) _
    exact k)
  obtain ⟨fs, hr, hrun, hended, hW, hsame⟩ := X1139.leave (v := some (.int (1 : Int32))) (fun h => by rw [Bd.returns] at h; cases h)
  refine ⟨_, _, P1140 _ ?_, hrun, hended, _, _, rfl, ?_, ⟨_, rfl⟩, hW, hsame.mono (by decide) (by decide)⟩
  · exact retN X1139 hx (t := .boolean) Bd.returns (by simp) (hb hby at_139) hr
  · show Q_law Z u1 u2 u3 u4 u5 h0 n0 _ T1139.heap _
    rw [efh]
    exact ⟨rfl, N1139⟩
set_option maxRecDepth 65536 in
set_option maxHeartbeats 40000000 in
theorem comes_1 {Post : Tables → Env → Array Value → State → Outcome → State → Prop} (hpost : ∀ tb e args s v u, (limb_1_1.after args s (.returned v) u = true ∧ limb_1_2.after args s (.returned v) u = true ∧ True) → FrameEnd s (.returned v) u (Jvm.fieldLocs frame_1_writes args s ++ Jvm.arrayLocs frame_1_arrays args s ++ Jvm.staticLocs frame_1_statics s) 16 128 → Post tb e args s (.returned v) u) :
    ArmFor flags0 classFile x code maxLocals ret World_1 tables_1 room_1 Calls_1 rest_1 Pre_1 Post := by
  intro l hfl _ _ p e ha hc hk s m args below hf hA hF happ hP
  obtain ⟨hcalls, hrest, hpre⟩ := hP
  obtain ⟨-, -, -, hnamed, -, -, -, hat⟩ := (Spec.applies_iff hf).mp happ
  obtain ⟨hg, hn⟩ := and_e (Cond.before_iff.mp (show (Jvm.Cond.and given_1 narrow_1).before args s = true from hpre))
  obtain ⟨g1, g2⟩ := and_e hg
  obtain ⟨g3, g4⟩ := and_e g2
  obtain ⟨g5, g6⟩ := and_e g4
  obtain ⟨g7, g8⟩ := and_e g6
  obtain ⟨g9, g10⟩ := and_e g8
  obtain ⟨w0, w1, w2, w3, w4, rfl⟩ : ∃ w0 w1 w2 w3 w4 : Value, args = #[w0, w1, w2, w3, w4] := by
    have hs : args.size = 5 := by simpa [Cond.value, given_1] using g1
    obtain ⟨L⟩ := args
    match L, hs with
    | [w0, w1, w2, w3, w4], _ => exact ⟨w0, w1, w2, w3, w4, rfl⟩
  have hw := fun d (hd : d ∈ tables_1) => atoms_spec (ws := Jvm.Cond.code x code maxLocals ret :: tables_1) hat d (List.mem_cons_of_mem _ hd)
  have hfit : Fit s := fun {y c} hc i hi => by
    obtain ⟨ha, rfl⟩ := Array.getElem?_eq_some_iff.mp hc
    have q := List.all_eq_true.mp ((Array.all_eq_true_iff_forall_mem.mp hF) _ (Array.getElem_mem ha)) i (List.mem_range.mpr hi)
    simpa [Array.getElem?_eq_getElem hi] using q
  obtain ⟨i0, ei0⟩ := is_v g3
  obtain rfl : w0 = (.int i0) := Option.some.inj ei0
  obtain ⟨i1, ei1⟩ := is_v g5
  obtain rfl : w1 = (.int i1) := Option.some.inj ei1
  obtain ⟨i2, ei2⟩ := is_v g7
  obtain rfl : w2 = (.int i2) := Option.some.inj ei2
  obtain ⟨i3, ei3⟩ := is_v g9
  obtain rfl : w3 = (.int i3) := Option.some.inj ei3
  obtain ⟨i4, ei4⟩ := is_v g10
  obtain rfl : w4 = (.int i4) := Option.some.inj ei4
  obtain ⟨n, o, h1, h2, h3, _, L, rfl, ⟨rfl, N⟩, hq⟩ := rm_law l s _ hw tables_1 i0 i1 i2 i3 i4 s.heap s.heap.size (Nat.le_refl _)  p e ha hc hk s m _ below hf ((Spec.applies_iff_loose hf).mp happ).1 ⟨rfl, State.Warmed39.refl s, rfl⟩ trivial
  refine ⟨n, _, h1, h2, h3, hpost _ _ _ _ _ _ ⟨Cond.after_iff.mpr rfl, Cond.after_iff.mpr (eq_i res_at (Term.int_eval (1)) rfl), trivial⟩ ⟨hq.1, hq.2.1, (hq.2.2.sift fun y hy => Or.inr (N y hy)).mono (by decide) (by decide)⟩⟩
theorem main_1_1 : Claimed_1_1 := comes_1 fun _ _ _ _ _ _ h hF => ⟨h.1, hF⟩
theorem main_1_2 : Claimed_1_2 := comes_1 fun _ _ _ _ _ _ h hF => ⟨h.2.1, hF⟩
end Jvm.Pilot.@@N@@
namespace Jvm.Pilot.@@N@@
open Jvm Jvm.ClassFile Sem Op Lib Jvm.Free Jvm.Stand Jvm.Pilot.@@N@@.Jvm.D
/-! MADE BY PROGRAM (witnessworld.py) out of the Statement's table words and the real class files: 9 classes; the members and pool entries that the words name. The judged class is class 1, her method 3. -/
namespace start1
open Jvm.ClassFile
def u (s : String) : CpInfo := .utf8 (stringToUtf16 s)
/-- a pool by its gaps: so many unusable entries, then the entry; so many at the end -/
def gap : Nat → List CpInfo → List CpInfo
  | 0, r => r
  | n + 1, r => .unusable :: gap n r
def poolList (es : List (Nat × CpInfo)) (last : Nat) : List CpInfo := es.foldr (fun e r => gap e.1 (e.2 :: r)) (gap last [])
def pool (es : List (Nat × CpInfo)) (last : Nat) : Array CpInfo := ⟨poolList es last⟩
def fileOf (pool : Array CpInfo) (this : Nat) (attrs : Array Attribute := #[]) (ms : Array MethodInfo := #[]) (fl : Nat := 33) (sup : Nat := 0) (ifs : Array Nat := #[]) (fds : Array FieldInfo := #[]) : ClassFile where
  minorVersion := 0
  majorVersion := 65
  constantPool := pool
  accessFlags := fl
  thisClass := this
  superClass := sup
  interfaces := ifs
  fields := fds
  methods := ms
  attributes := attrs
def plain (name : String) (sup : Option ClassId) : Class where
  name := name
  kind := .ordinary
  loader := none
  accessFlags := 33
  super := sup
  interfaces := #[]
  cf := none
  fields := #[]
  methods := #[]
  instanceTypes := #[]
  staticTypes := #[]
  resolved := #[]
  callSites := []
  init := .initialized
  statics := none
  mirror := none

def pool0 : Array CpInfo := pool [(5, u "<init>"), (0, u "()V"), (1, .class_ 10), (1, u "java/lang/Object")] 113

def k0c0 : Code := { maxStack := 0, maxLocals := 1, code := object_method_1_code, exceptionTable := #[], attributes := #[] }
def k0m0 : Method := { name := "<init>", desc := "()V", sig := { parameters := [], returnType := none }, accessFlags := 1, code := some k0c0 }
/-- java/lang/Object -/
def k0 : Class := { plain "java/lang/Object" none with
  accessFlags := 33
  interfaces := #[]
  cf := some (fileOf pool0 8 #[] #[{ accessFlags := 1, nameIndex := 5, descriptorIndex := 6, attributes := #[] }] 33 0 #[] #[])
  fields := #[]
  methods := #[k0m0]
  instanceTypes := #[]
  staticTypes := #[]
  resolved := Array.replicate 124 none
  statics := none }

def pool1 : Array CpInfo := pool [(2, .class_ 4), (1, u "java/lang/Object"), (0, u "<init>"), (0, u "()V"), (0, .methodref 8 9), (0, .class_ 10), (0, .nameAndType 11 12), (0, u "com/example/slackline/slackline/solvers/OpenIndices"), (0, u "close"), (0, u "(I)V"), (0, .integer 2147483647), (0, .methodref 8 15), (0, .nameAndType 5 12), (0, .methodref 17 18), (0, .class_ 19), (0, .nameAndType 20 21), (0, u "com/example/slackline/slackline/solvers/OpenIndicesNextPinLaw"), (0, u "closeSome"), (0, u "(Lcom/example/slackline/slackline/solvers/OpenIndices;I)V"), (0, .methodref 8 23), (0, .nameAndType 24 25), (0, u "next"), (0, u "(I)I"), (0, .methodref 17 27), (0, .nameAndType 28 29), (0, u "firstOpen"), (0, u "(II)I"), (3, u "law"), (0, u "(IIIII)Z")] 2

def k1m0 : Method := { name := "<init>", desc := "()V", sig := { parameters := [], returnType := none }, accessFlags := 2, code := none }
def k1c1 : Code := { maxStack := 2, maxLocals := 2, code := method_2_code, exceptionTable := #[], attributes := #[] }
def k1m1 : Method := { name := "closeSome", desc := "(Lcom/example/slackline/slackline/solvers/OpenIndices;I)V", sig := { parameters := [(.object "com/example/slackline/slackline/solvers/OpenIndices"), .int], returnType := none }, accessFlags := 10, code := some k1c1 }
def k1c2 : Code := { maxStack := 2, maxLocals := 2, code := method_3_code, exceptionTable := #[], attributes := #[] }
def k1m2 : Method := { name := "firstOpen", desc := "(II)I", sig := { parameters := [.int, .int], returnType := some .int }, accessFlags := 10, code := some k1c2 }
def k1c3 : Code := { maxStack := 3, maxLocals := 15, code := code, exceptionTable := #[], attributes := #[] }
def k1m3 : Method := { name := "law", desc := "(IIIII)Z", sig := { parameters := [.int, .int, .int, .int, .int], returnType := some .boolean }, accessFlags := 9, code := some k1c3 }
/-- com/example/slackline/slackline/solvers/OpenIndicesNextPinLaw -/
def k1 : Class := { plain "com/example/slackline/slackline/solvers/OpenIndicesNextPinLaw" (some 0) with
  accessFlags := 49
  interfaces := #[]
  cf := some (fileOf pool1 17 #[] #[{ accessFlags := 2, nameIndex := 5, descriptorIndex := 6, attributes := #[] }, { accessFlags := 10, nameIndex := 20, descriptorIndex := 21, attributes := #[] }, { accessFlags := 10, nameIndex := 28, descriptorIndex := 29, attributes := #[] }, { accessFlags := 9, nameIndex := 33, descriptorIndex := 34, attributes := #[] }] 49 2 #[] #[])
  fields := #[]
  methods := #[k1m0, k1m1, k1m2, k1m3]
  instanceTypes := #[]
  staticTypes := #[]
  resolved := Array.replicate 37 none
  statics := none }

def pool2 : Array CpInfo := pool [(1, .methodref 2 3), (0, .class_ 4), (0, .nameAndType 5 6), (0, u "java/lang/Object"), (0, u "<init>"), (0, u "()V"), (0, .fieldref 8 9), (0, .class_ 10), (0, .nameAndType 11 12), (0, u "com/example/slackline/slackline/solvers/OpenIndices"), (0, u "onward"), (0, u "[I"), (0, u "(I)V"), (3, u "next"), (0, u "(I)I"), (0, u "close")] 2

def k2c0 : Code := { maxStack := 3, maxLocals := 3, code := prog_15_method_1_code, exceptionTable := #[], attributes := #[] }
def k2m0 : Method := { name := "<init>", desc := "(I)V", sig := { parameters := [.int], returnType := none }, accessFlags := 0, code := some k2c0 }
def k2c1 : Code := { maxStack := 3, maxLocals := 5, code := prog_15_method_2_code, exceptionTable := #[], attributes := #[] }
def k2m1 : Method := { name := "next", desc := "(I)I", sig := { parameters := [.int], returnType := some .int }, accessFlags := 0, code := some k2c1 }
def k2c2 : Code := { maxStack := 4, maxLocals := 2, code := prog_15_method_3_code, exceptionTable := #[], attributes := #[] }
def k2m2 : Method := { name := "close", desc := "(I)V", sig := { parameters := [.int], returnType := none }, accessFlags := 0, code := some k2c2 }
/-- com/example/slackline/slackline/solvers/OpenIndices -/
def k2 : Class := { plain "com/example/slackline/slackline/solvers/OpenIndices" (some 0) with
  accessFlags := 48
  interfaces := #[]
  cf := some (fileOf pool2 8 #[] #[{ accessFlags := 0, nameIndex := 5, descriptorIndex := 13, attributes := #[] }, { accessFlags := 0, nameIndex := 17, descriptorIndex := 18, attributes := #[] }, { accessFlags := 0, nameIndex := 19, descriptorIndex := 13, attributes := #[] }] 48 2 #[] #[{ accessFlags := 18, nameIndex := 11, descriptorIndex := 12, attributes := #[] }])
  fields := #[{ name := "onward", type := (.array .int), accessFlags := 18, slot := 0, constantValue := 0 }]
  methods := #[k2m0, k2m1, k2m2]
  instanceTypes := #[(.array .int)]
  staticTypes := #[]
  resolved := Array.replicate 22 none
  statics := none }

def pool3 : Array CpInfo := pool [(1, u "java/lang/Cloneable"), (0, .class_ 1), (0, u "java/lang/Object"), (0, .class_ 3)] 3

/-- java/lang/Cloneable -/
def k3 : Class := { plain "java/lang/Cloneable" (some 0) with
  accessFlags := 1537
  interfaces := #[]
  cf := some (fileOf pool3 2 #[] #[] 1537 4 #[] #[])
  fields := #[]
  methods := #[]
  instanceTypes := #[]
  staticTypes := #[]
  resolved := Array.replicate 8 none
  statics := none }

def pool4 : Array CpInfo := pool [(1, u "java/io/Serializable"), (0, .class_ 1), (0, u "java/lang/Object"), (0, .class_ 3)] 3

/-- java/io/Serializable -/
def k4 : Class := { plain "java/io/Serializable" (some 0) with
  accessFlags := 1537
  interfaces := #[]
  cf := some (fileOf pool4 2 #[] #[] 1537 4 #[] #[])
  fields := #[]
  methods := #[]
  instanceTypes := #[]
  staticTypes := #[]
  resolved := Array.replicate 8 none
  statics := none }

/-- the primitive byte -/
def k5 : Class := { plain "byte" none with kind := .primitive 'B', accessFlags := 0x411 }
/-- [B -/
def k6 : Class := { plain "[B" (some 0) with kind := .array 5 .byte, interfaces := #[3, 4], accessFlags := 1041 }

/-- the primitive int -/
def k7 : Class := { plain "int" none with kind := .primitive 'I', accessFlags := 0x411 }
/-- [I -/
def k8 : Class := { plain "[I" (some 0) with kind := .array 7 .int, interfaces := #[3, 4], accessFlags := 1041 }

def heap : Heap := #[]
def classes : Array Class := #[k0, k1, k2, k3, k4, k5, k6, k7, k8]
def interned : List (Array UInt16 × Addr) := []
def slotsUsed : Nat := 0
def theMethod : MethodId := ⟨1, 3⟩
def args0 : Array Value := #[.int 5, .int 3, .int 1, .int 2, .int 3]
def aboutOver (below : List Frame) : State where
  vm := { classes := classes, interned := interned.toArray }
  heap := heap
  slotsUsed := slotsUsed
  threads := #[{ frames := .invoking theMethod args0 :: below }]
def below0 : List Frame := [.native { method := ⟨0, 0⟩, args := #[] }]
def about1 : State := aboutOver below0
def p0 : Program := .bare "" "" ""
def e0 : Env := launch0.env 0 0 0
theorem w_frames : about1.frames = Frame.invoking theMethod args0 :: below0 := rfl
set_option maxRecDepth 65536 in
theorem w_args : argsFit about1.vm theMethod args0 = true := by decide +kernel
set_option maxRecDepth 65536 in
theorem w_heap : heapFits about1 = true := by decide +kernel
set_option maxRecDepth 65536 in
theorem w_runnable : about1.curStatus? = some .runnable := by decide +kernel
set_option maxRecDepth 65536 in
theorem w_alone : about1.alone = true := by decide +kernel
set_option maxRecDepth 65536 in
theorem w_named : about1.methodNamed? x = some theMethod := by decide +kernel
set_option maxRecDepth 65536 in
theorem w_hears : about1.hears theMethod below0 = true := by decide +kernel
set_option maxRecDepth 65536 in
theorem w_ripe : about1.ripe theMethod args0 below0 = true := by decide +kernel
theorem w_running : about1.status = .running := rfl
set_option maxRecDepth 65536 in
theorem w_room : about1.hasRoom e0.platform room_1 = true :=
  launch0.hasRoom_least _ room_1 (by decide +kernel) (by decide +kernel) (by decide +kernel) (by decide +kernel) (by decide +kernel) (by decide +kernel)
theorem allAtoms_all (ts : List Jvm.Cond) (a : Array Jvm.Value) (st : Jvm.State) : (allAtoms ts).before a st = ts.all (fun c => c.before a st) := by
  induction ts with
  | nil => rfl
  | cons c t ih =>
    show (Jvm.Cond.and c (allAtoms t)).before a st = _
    rw [Jvm.Cond.before_and, ih, List.all_cons]
def words1 : List Jvm.Cond := Jvm.Cond.code x code maxLocals ret :: tables_1
/-- a 'code' word, met by the world's own term for the bytes: nothing is compared byte by byte -/
theorem code_word {y : MethodName} {bytes : ByteArray} {mx : Nat} {rt : Option FieldType} {a : Array Value} {s : State} {m : MethodId} {meth : Method} {c : Code} (h1 : s.methodNamed? y = some m) (h2 : s.vm.method? m = some meth) (h3 : meth.code = some c) (h4 : c.code = bytes)
    (h5 : (c.maxLocals == mx && c.exceptionTable.isEmpty && decide (c.maxStack ≤ mostOperands) && decide (meth.sig.returnType = rt) && !meth.locks && decide (parseMethodDescriptor y.desc = some meth.sig)) = true) : (Jvm.Cond.code y bytes mx rt).before a s = true := by
  simp only [Bool.and_eq_true, beq_iff_eq, Bool.not_eq_true', decide_eq_true_eq] at h5
  obtain ⟨⟨⟨⟨⟨g1, g2⟩, g3⟩, g4⟩, g5⟩, g6⟩ := h5
  simp [Cond.before, Cond.holds, Cond.value, h1, h2, h3, h4, g1, g2, g3, g4, g5, g6]
def isCode : Jvm.Cond → Bool
  | .code _ _ _ _ => true
  | _ => false
theorem all_split {L : List Jvm.Cond} {P : Jvm.Cond → Bool} (h1 : L.all (fun c => isCode c || P c) = true) (h2 : ∀ c ∈ L.filter isCode, P c = true) : L.all P = true := by
  refine List.all_eq_true.mpr fun c hc => ?_
  have h := List.all_eq_true.mp h1 c hc
  rcases Bool.eq_false_or_eq_true (isCode c) with hi | hi
  · exact h2 c (List.mem_filter.mpr ⟨hc, hi⟩)
  · simpa [hi] using h
set_option maxRecDepth 65536 in
theorem w_c0 : (Jvm.Cond.code x code maxLocals ret).before args0 about1 = true := code_word (m := ⟨1, 3⟩) (meth := k1m3) (c := k1c3) (by decide +kernel) rfl rfl rfl (by decide +kernel)
set_option maxRecDepth 65536 in
theorem w_c1 : (Jvm.Cond.code ({ cls := "com/example/slackline/slackline/solvers/OpenIndices", name := "<init>", desc := "(I)V" } : Jvm.MethodName) prog_15_method_1_code (3 : Nat) (Option.none : Option Jvm.ClassFile.FieldType)).before args0 about1 = true := code_word (m := ⟨2, 0⟩) (meth := k2m0) (c := k2c0) (by decide +kernel) rfl rfl rfl (by decide +kernel)
set_option maxRecDepth 65536 in
theorem w_c2 : (Jvm.Cond.code ({ cls := "java/lang/Object", name := "<init>", desc := "()V" } : Jvm.MethodName) object_method_1_code (1 : Nat) (Option.none : Option Jvm.ClassFile.FieldType)).before args0 about1 = true := code_word (m := ⟨0, 0⟩) (meth := k0m0) (c := k0c0) (by decide +kernel) rfl rfl rfl (by decide +kernel)
set_option maxRecDepth 65536 in
theorem w_c3 : (Jvm.Cond.code ({ cls := "com/example/slackline/slackline/solvers/OpenIndicesNextPinLaw", name := "closeSome", desc := "(Lcom/example/slackline/slackline/solvers/OpenIndices;I)V" } : Jvm.MethodName) method_2_code (2 : Nat) (Option.none : Option Jvm.ClassFile.FieldType)).before args0 about1 = true := code_word (m := ⟨1, 1⟩) (meth := k1m1) (c := k1c1) (by decide +kernel) rfl rfl rfl (by decide +kernel)
set_option maxRecDepth 65536 in
theorem w_c4 : (Jvm.Cond.code ({ cls := "com/example/slackline/slackline/solvers/OpenIndices", name := "next", desc := "(I)I" } : Jvm.MethodName) prog_15_method_2_code (5 : Nat) (Option.some Jvm.ClassFile.FieldType.int)).before args0 about1 = true := code_word (m := ⟨2, 1⟩) (meth := k2m1) (c := k2c1) (by decide +kernel) rfl rfl rfl (by decide +kernel)
set_option maxRecDepth 65536 in
theorem w_c5 : (Jvm.Cond.code ({ cls := "com/example/slackline/slackline/solvers/OpenIndices", name := "close", desc := "(I)V" } : Jvm.MethodName) prog_15_method_3_code (2 : Nat) (Option.none : Option Jvm.ClassFile.FieldType)).before args0 about1 = true := code_word (m := ⟨2, 2⟩) (meth := k2m2) (c := k2c2) (by decide +kernel) rfl rfl rfl (by decide +kernel)
set_option maxRecDepth 65536 in
theorem w_c6 : (Jvm.Cond.code ({ cls := "com/example/slackline/slackline/solvers/OpenIndicesNextPinLaw", name := "firstOpen", desc := "(II)I" } : Jvm.MethodName) method_3_code (2 : Nat) (Option.some Jvm.ClassFile.FieldType.int)).before args0 about1 = true := code_word (m := ⟨1, 2⟩) (meth := k1m2) (c := k1c2) (by decide +kernel) rfl rfl rfl (by decide +kernel)
def codes1 : List Jvm.Cond := [Jvm.Cond.code x code maxLocals ret, Jvm.Cond.code ({ cls := "com/example/slackline/slackline/solvers/OpenIndices", name := "<init>", desc := "(I)V" } : Jvm.MethodName) prog_15_method_1_code (3 : Nat) (Option.none : Option Jvm.ClassFile.FieldType), Jvm.Cond.code ({ cls := "java/lang/Object", name := "<init>", desc := "()V" } : Jvm.MethodName) object_method_1_code (1 : Nat) (Option.none : Option Jvm.ClassFile.FieldType), Jvm.Cond.code ({ cls := "com/example/slackline/slackline/solvers/OpenIndicesNextPinLaw", name := "closeSome", desc := "(Lcom/example/slackline/slackline/solvers/OpenIndices;I)V" } : Jvm.MethodName) method_2_code (2 : Nat) (Option.none : Option Jvm.ClassFile.FieldType), Jvm.Cond.code ({ cls := "com/example/slackline/slackline/solvers/OpenIndices", name := "next", desc := "(I)I" } : Jvm.MethodName) prog_15_method_2_code (5 : Nat) (Option.some Jvm.ClassFile.FieldType.int), Jvm.Cond.code ({ cls := "com/example/slackline/slackline/solvers/OpenIndices", name := "close", desc := "(I)V" } : Jvm.MethodName) prog_15_method_3_code (2 : Nat) (Option.none : Option Jvm.ClassFile.FieldType), Jvm.Cond.code ({ cls := "com/example/slackline/slackline/solvers/OpenIndicesNextPinLaw", name := "firstOpen", desc := "(II)I" } : Jvm.MethodName) method_3_code (2 : Nat) (Option.some Jvm.ClassFile.FieldType.int)]
set_option maxRecDepth 65536 in
theorem codes_eq : words1.filter isCode = codes1 := rfl
theorem w_codes : ∀ c ∈ words1.filter isCode, c.before args0 about1 = true := by
  rw [codes_eq]
  intro c hc
  simp only [codes1, List.mem_cons, List.not_mem_nil, or_false] at hc
  rcases hc with rfl | rfl | rfl | rfl | rfl | rfl | rfl
  · exact w_c0
  · exact w_c1
  · exact w_c2
  · exact w_c3
  · exact w_c4
  · exact w_c5
  · exact w_c6
set_option maxRecDepth 65536 in
theorem w_t1 : (words1.take 24).all (fun c => isCode c || c.before args0 about1) = true := by decide +kernel
set_option maxRecDepth 65536 in
theorem w_t2 : (words1.drop 24).all (fun c => isCode c || c.before args0 about1) = true := by decide +kernel
theorem w_tables : (allAtoms (Jvm.Cond.code x code maxLocals ret :: tables_1)).before args0 about1 = true := by
  rw [allAtoms_all]
  show words1.all (fun c => c.before args0 about1) = true
  refine all_split ?_ w_codes
  rw [← List.take_append_drop 24 words1, List.all_append, w_t1, w_t2]
  rfl
set_option maxRecDepth 65536 in
theorem w_case : (Jvm.Cond.and given_1 narrow_1).before args0 about1 = true := by decide +kernel
theorem w_applies : (headSpec (Jvm.Cond.code x code maxLocals ret :: tables_1) room_1).applies x e0.platform about1 = true :=
  (Spec.applies_iff w_frames).mpr ⟨w_running, w_runnable, w_alone, w_named, w_hears, w_ripe, w_room, w_tables⟩
theorem atStart : AtStart classFile x code maxLocals ret World_1 tables_1 room_1 Calls_1 rest_1 Pre_1 launch0 p0 e0 about1 theMethod args0 below0 :=
  ⟨lists_1, trivial, launch0.admits_env _ _ _, launch0.least_env, fairChoices_fair.cas, fairChoices_fair.clock, w_frames, w_args, w_heap, w_applies, trivial, trivial, w_case⟩
end start1
theorem witness_1 : WitnessClaimed_1 := ⟨start1.p0, start1.e0, start1.about1, start1.theMethod, start1.args0, start1.below0, start1.atStart⟩
end Jvm.Pilot.@@N@@
