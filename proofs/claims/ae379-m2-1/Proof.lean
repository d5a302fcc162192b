import JvmDerived
import JvmDerived.Pilot.@@N@@Statement
import JvmDerived.Pilot.@@N@@Code
set_option linter.unusedVariables false
set_option linter.unusedSimpArgs false
namespace Jvm.RoadKit
open Sem ClassFile Op Lib Jvm.Stand Jvm.Free Jvm.LawKit
section New
variable {p : Program} {l : Launch} {e : Env} {R : Room} {s : State} {m : MethodId} {args : Array Value} {below : List Frame} {meth : Method} {c : Code} {T : State} {locs : List Loc} {cells slots : Nat}
theorem retI (X : Stand p l e R s m args below meth c T locs cells slots) (hx : p.tables.exec = Jvm.exec) {pc : Nat} {Ls : Array Slot} {z : Int32} {rest : List Value} (hret : meth.sig.returnType = some .int) (hd : decode c.code pc = .ok (.ireturn, 1)) {fs : List Frame}
    (hl : ∀ (f : JFrame) (acts : List Action), f.method = m → f.locked = none → f.entered = [] → (doReturn e (T.setTop f) acts (some (.int z))).1 = T.setFrames fs) : Steps p.tables e below (T.setTop (mkF m pc Ls (.int z :: rest))) (T.setFrames fs) := by
  have hm' : T.vm.method? m = some meth := X.method'
  have hn : narrow .int (.int z) = .int z := rfl
  show Steps p.tables e below (T.setTop { method := m, pc := pc, locals := Ls, stack := _ :: rest, locked := none }) _
  jvm_step X.here [X.here.top, hx, hd, hm', hret, hn]
  first | (intro acts; rw [hl _ acts rfl rfl rfl]) | rw [hl _ _ rfl rfl rfl]
  exact Steps.refl _
end New
end Jvm.RoadKit
namespace Jvm.Pilot.@@N@@
open Jvm Jvm.ClassFile Sem Op Lib Jvm.Free Jvm.Stand Jvm.LawKit Jvm.RoadKit Bundle Jvm.Pilot.@@N@@.Jvm.D
theorem own_newD {p : Program} {l : Launch} {e : Env} {R : Room} {s : State} {m : MethodId} {args : Array Value} {below : List Frame} {meth : Method} {c : Code} {T : State} {locs : List Loc} {cells slots : Nat} {Z : State} {a0 : Array Value} {h : Heap}
    (X : Stand p l e R s m args below meth c T locs cells slots) (hx : p.tables.exec = Jvm.exec) (hZ : Z.Warmed39 s.vm) (w : (Jvm.Cond.arrayClass .double).before a0 Z = true) (eT : T.heap = h) {g : JFrame} (hg : g.method = m) (hd : decode c.code g.pc = .ok (.newarray .double, 2)) {n : Int32} {rest : List Value} (hs : g.stack = .int n :: rest)
    (hn : ¬ n < 0) {cap : Nat} (hcap : n.toNatClampNeg ≤ cap) (hb : cap * 8 ≤ 536870912) (hc : cells + 1 ≤ R.cells) (hl : slots + cap ≤ R.slots) :
    ∃ (T' : State) (h' : Heap) (cA : ClassId), Stand p l e R s m args below meth c T' locs (cells + 1) (slots + cap) ∧ T'.heap = h' ∧ Ext h h' ∧ Arr Z h' h.size (newA cA .double n) .double ∧ Exa Z h' h.size "[D" ∧
      ∀ target, Steps p.tables e below (T'.setTop { g with pc := g.pc + 2, stack := .ref h.size :: rest }) target → Steps p.tables e below (T.setTop g) target := by
  have hcb : componentBytes (newarray.typeOf .double) ≤ 8 := by decide
  obtain ⟨cA, kA, comp, h1, h2, h3, X', st⟩ := X.newarrayPrim hx (atype := .double) (mvA hZ w) hg hd hs hn (Nat.le_trans (Nat.mul_le_mul hcap hcb) hb) hc (by omega)
  subst eT
  have h1' : s.vm.findClass "[D" = some cA := h1
  rw [hZ.alike.findClass] at h1'
  obtain ⟨kZ, z1, -⟩ := Vm.findClass_spec h1'
  obtain ⟨k', z2, z3⟩ := hZ.alike.2.2 _ _ z1
  cases h2.symm.trans z2
  have hk : kZ.kind = .array comp .double := by have q : kA.kind = .array comp .double := h3; rw [← q, z3]
  have hN : (T.heap.push (newA cA .double n))[T.heap.size]? = some (newA cA .double n) := by simp
  refine ⟨_, _, cA, X'.more (Nat.le_refl _) (by omega), rfl, ⟨by show T.heap.size ≤ (T.heap.push _).size; simp, fun a c q => ?_⟩, ⟨hN, ⟨by simp [newA], kZ, z1, comp, hk⟩, by simp [newA]⟩, ⟨_, kZ, hN, h1', z1, rfl, fun q => by rw [hk] at q; cases q⟩, st⟩
  show (T.heap.push _)[a]? = _
  rw [Array.getElem?_push_lt (Array.getElem?_eq_some_iff.mp q).1]; exact (Array.getElem?_eq_getElem _).symm.trans q
abbrev own_S : Type := List Nat × List Nat × List Nat × List Nat × List Nat × Nat
def own_vD (xs : List Nat) : List Value := xs.map fun n => Value.double (FP.l2d (Int64.ofNat n))
def own_vI (xs : List Nat) : List Value := xs.map fun n => Value.int (Int32.ofNat n)
theorem own_z : FP.l2d (Int64.ofNat 0) = 0 := by decide +kernel
theorem own_gD (xs : List Nat) (i : Nat) : (own_vD xs).getD i (.double 0) = .double (FP.l2d (Int64.ofNat (xs.getD i 0))) := by
  simp only [own_vD, List.getD_eq_getElem?_getD, List.getElem?_map]
  cases xs[i]?
  · exact (congrArg Value.double own_z).symm
  · rfl
theorem own_gI (xs : List Nat) (i : Nat) : (own_vI xs).getD i (.int 0) = .int (Int32.ofNat (xs.getD i 0)) := by
  simp only [own_vI, List.getD_eq_getElem?_getD, List.getElem?_map]
  cases xs[i]? <;> rfl
theorem own_sD {Z : State} {h : Heap} {a : Addr} {k : ClassId} {z : Int32} {xs : List Nat} {i y : Nat} {v : UInt64} (hv : v = FP.l2d (Int64.ofNat y)) (F : Arv Z h a k .double z ((own_vD xs).set i (.double v)) (.double 0)) : Arv Z h a k .double z (own_vD (xs.set i y)) (.double 0) := by
  subst hv; simp only [own_vD, List.map_set] at F ⊢; exact F
theorem own_sI {Z : State} {h : Heap} {a : Addr} {k : ClassId} {ty : FieldType} {z : Int32} {xs : List Nat} {i y : Nat} {v : Int32} (hv : v = Int32.ofNat y) (F : Arv Z h a k ty z ((own_vI xs).set i (.int v)) (.int 0)) : Arv Z h a k ty z (own_vI (xs.set i y)) (.int 0) := by
  subst hv; simp only [own_vI, List.map_set] at F ⊢; exact F
theorem own_tn : ∀ i, i < 9 → (Int32.ofNat i).toNatClampNeg = i := by decide
theorem own_nn : ∀ i, i < 9 → ¬ Int32.ofNat i < 0 := by decide
theorem own_in {c : Cell} {i : Nat} {z : Int32} {n : Nat} (S : c.slots.size = z.toNatClampNeg) (hz : z.toNatClampNeg = n) (hn : n ≤ 8) (h : i < n) : ¬ (Int32.ofNat i < 0 ∨ c.slots.size ≤ (Int32.ofNat i).toNatClampNeg) := by
  rw [S, hz, own_tn i (by omega)]
  exact fun q => q.elim (own_nn i (by omega)) (by omega)
theorem own_aD {c : Cell} {xs : List Nat} {i : Nat} {z : Int32} {n : Nat} (H : Has c (own_vD xs) (.double 0)) (S : c.slots.size = z.toNatClampNeg) (hz : z.toNatClampNeg = n) (hn : n ≤ 8) (h : i < n) : c.slots[(Int32.ofNat i).toNatClampNeg]? = some (.double (FP.l2d (Int64.ofNat (xs.getD i 0)))) := Has.at H (own_in S hz hn h) (by rw [own_tn i (by omega), own_gD])
theorem own_aI {c : Cell} {xs : List Nat} {i : Nat} {z : Int32} {n : Nat} (H : Has c (own_vI xs) (.int 0)) (S : c.slots.size = z.toNatClampNeg) (hz : z.toNatClampNeg = n) (hn : n ≤ 8) (h : i < n) : c.slots[(Int32.ofNat i).toNatClampNeg]? = some (.int (Int32.ofNat (xs.getD i 0))) := Has.at H (own_in S hz hn h) (by rw [own_tn i (by omega), own_gI])
theorem own_nb : ∀ b, b ≤ 1 → nar .boolean (Int32.ofNat b) = Int32.ofNat b := by decide
theorem own_succ : ∀ i, i < 9 → Int32.ofNat i + (1 : Int32) = Int32.ofNat (i + 1) := by decide
theorem own_pred : ∀ i, i < 9 → Int32.ofNat (i + 1) - (1 : Int32) = Int32.ofNat i := by decide
def own_ok (S : own_S) : Prop := S.1.length = 2 ∧ S.2.1.length = 2 ∧ S.2.2.1.length = 8 ∧ S.2.2.2.1.length = 8 ∧ S.2.2.2.2.1.length = 8 ∧ (∀ i, S.1.getD i 0 ≤ 15) ∧ (∀ i, S.2.1.getD i 0 ≤ 1) ∧ (∀ i, S.2.2.1.getD i 0 ≤ 1) ∧ (∀ i, S.2.2.2.1.getD i 0 ≤ 15) ∧ ∀ i, S.2.2.2.2.1.getD i 0 ≤ 1
theorem own_gs (xs : List Nat) (k y i : Nat) : (xs.set k y).getD i 0 = if k = i ∧ k < xs.length then y else xs.getD i 0 := by
  simp only [List.getD_eq_getElem?_getD, List.getElem?_set]
  by_cases e : k = i
  · subst e
    by_cases q : k < xs.length <;> simp [q]
  · simp [e]
theorem own_ls {xs : List Nat} {b y : Nat} (h : ∀ i, xs.getD i 0 ≤ b) (hy : y ≤ b) (k : Nat) : ∀ i, (xs.set k y).getD i 0 ≤ b := fun i => by
  rw [own_gs]; split
  · exact hy
  · exact h i
def own_log (S : own_S) (i : Nat) : own_S := (S.1, S.2.1, S.2.2.1.set S.2.2.2.2.2 i, S.2.2.2.1.set S.2.2.2.2.2 (S.1.getD i 0), S.2.2.2.2.1.set S.2.2.2.2.2 (S.2.1.getD i 0), S.2.2.2.2.2 + 1)
def own_step (z : Nat) (S : own_S) (i : Nat) : own_S := if z ≤ S.1.getD i 0 then (S.1.set i (S.1.getD i 0 - z), S.2.1, (own_log S i).2.2) else (S.1, S.2.1.set i 1, (own_log S i).2.2)
theorem own_step_k (z : Nat) (S : own_S) (i : Nat) : (own_step z S i).2.2.2.2.2 = S.2.2.2.2.2 + 1 := by unfold own_step; split <;> rfl
theorem own_ok_log {S : own_S} (h : own_ok S) {i : Nat} (hi : i ≤ 1) : own_ok (own_log S i) := by
  obtain ⟨a1, a2, a3, a4, a5, a6, a7, a8, a9, a10⟩ := h
  exact ⟨a1, a2, by simp [own_log, a3], by simp [own_log, a4], by simp [own_log, a5], a6, a7, own_ls a8 hi _, own_ls a9 (a6 i) _, own_ls a10 (a7 i) _⟩
theorem own_ok_step {z : Nat} {S : own_S} (h : own_ok S) {i : Nat} (hi : i ≤ 1) : own_ok (own_step z S i) := by
  obtain ⟨a1, a2, a3, a4, a5, a6, a7, a8, a9, a10⟩ := own_ok_log h hi
  unfold own_step
  split
  · exact ⟨by simpa using h.1, a2, a3, a4, a5, own_ls h.2.2.2.2.2.1 (Nat.le_trans (Nat.sub_le _ _) (h.2.2.2.2.2.1 i)) i, a7, a8, a9, a10⟩
  · exact ⟨a1, by simpa using h.2.1, a3, a4, a5, a6, own_ls h.2.2.2.2.2.2.1 (Nat.le_refl 1) i, a8, a9, a10⟩
def own_un (S : own_S) : own_S := (S.1.set (S.2.2.1.getD (S.2.2.2.2.2 - 1) 0) (S.2.2.2.1.getD (S.2.2.2.2.2 - 1) 0), S.2.1.set (S.2.2.1.getD (S.2.2.2.2.2 - 1) 0) (S.2.2.2.2.1.getD (S.2.2.2.2.2 - 1) 0), S.2.2.1, S.2.2.2.1, S.2.2.2.2.1, S.2.2.2.2.2 - 1)
def own_uns : Nat → own_S → own_S
  | 0, S => S
  | n + 1, S => own_uns n (own_un S)
theorem own_ok_un {S : own_S} (h : own_ok S) : own_ok (own_un S) := by
  obtain ⟨a1, a2, a3, a4, a5, a6, a7, a8, a9, a10⟩ := h
  exact ⟨by simpa [own_un] using a1, by simpa [own_un] using a2, a3, a4, a5, own_ls a6 (a9 _) _, own_ls a7 (a10 _) _, a8, a9, a10⟩
theorem own_ok_uns {S : own_S} (h : own_ok S) : ∀ n, own_ok (own_uns n S) := fun n => by
  induction n generalizing S with
  | zero => exact h
  | succ n ih => exact ih (own_ok_un h)
def own_sim (S S' : own_S) : Prop := S.1 = S'.1 ∧ S.2.1 = S'.2.1 ∧ S.2.2.2.2.2 = S'.2.2.2.2.2 ∧ ∀ i, i < S.2.2.2.2.2 → S.2.2.1.getD i 0 = S'.2.2.1.getD i 0 ∧ S.2.2.2.1.getD i 0 = S'.2.2.2.1.getD i 0 ∧ S.2.2.2.2.1.getD i 0 = S'.2.2.2.2.1.getD i 0
theorem own_sim_tr {S S' S'' : own_S} (h : own_sim S S') (k : own_sim S' S'') : own_sim S S'' := by
  obtain ⟨a1, a2, a3, a4⟩ := h
  obtain ⟨b1, b2, b3, b4⟩ := k
  exact ⟨a1.trans b1, a2.trans b2, a3.trans b3, fun i hi => ⟨(a4 i hi).1.trans (b4 i (a3 ▸ hi)).1, (a4 i hi).2.1.trans (b4 i (a3 ▸ hi)).2.1, (a4 i hi).2.2.trans (b4 i (a3 ▸ hi)).2.2⟩⟩
theorem own_sim_un {S S' : own_S} (h : own_sim S S') (hk : 0 < S.2.2.2.2.2) : own_sim (own_un S) (own_un S') := by
  obtain ⟨a1, a2, a3, a4⟩ := h
  have q := a4 (S.2.2.2.2.2 - 1) (by omega)
  refine ⟨?_, ?_, ?_, fun i hi => a4 i (Nat.lt_of_lt_of_le hi (Nat.sub_le _ _))⟩
  · show List.set _ _ _ = List.set _ _ _
    rw [a1, q.1, q.2.1, a3]
  · show List.set _ _ _ = List.set _ _ _
    rw [a2, q.1, q.2.2, a3]
  · show _ - 1 = _ - 1
    rw [a3]
theorem own_sim_uns {n : Nat} : ∀ {S S' : own_S}, own_sim S S' → n ≤ S.2.2.2.2.2 → own_sim (own_uns n S) (own_uns n S') := by
  induction n with
  | zero => exact fun h _ => h
  | succ n ih => exact fun {S S'} h hk => ih (own_sim_un h (by omega)) (show n ≤ S.2.2.2.2.2 - 1 by omega)
theorem own_back {xs : List Nat} {i : Nat} (y : Nat) (hi : i < xs.length) : (xs.set i y).set i (xs.getD i 0) = xs := by
  rw [List.set_set]
  apply List.ext_getElem?
  intro j
  rw [List.getElem?_set]
  by_cases e : i = j
  · subst e; simp [hi]
  · simp [e]
theorem own_back0 {xs : List Nat} {i : Nat} (hi : i < xs.length) : xs.set i (xs.getD i 0) = xs := by
  have := own_back (xs.getD i 0) hi
  rwa [List.set_set] at this
theorem own_un_step {z : Nat} {S : own_S} (h : own_ok S) {i : Nat} (hi : i ≤ 1) (hk : S.2.2.2.2.2 < 8) : own_sim (own_un (own_step z S i)) S := by
  obtain ⟨a1, a2, a3, a4, a5, -⟩ := h
  have e1 : ∀ y, (S.2.2.1.set S.2.2.2.2.2 y).getD S.2.2.2.2.2 0 = y := fun y => by rw [own_gs, if_pos ⟨rfl, by omega⟩]
  have e2 : ∀ y, (S.2.2.2.1.set S.2.2.2.2.2 y).getD S.2.2.2.2.2 0 = y := fun y => by rw [own_gs, if_pos ⟨rfl, by omega⟩]
  have e3 : ∀ y, (S.2.2.2.2.1.set S.2.2.2.2.2 y).getD S.2.2.2.2.2 0 = y := fun y => by rw [own_gs, if_pos ⟨rfl, by omega⟩]
  have lo : ∀ (xs : List Nat) (y j : Nat), j < S.2.2.2.2.2 → (xs.set S.2.2.2.2.2 y).getD j 0 = xs.getD j 0 := fun xs y j hj => by rw [own_gs, if_neg (by omega)]
  unfold own_step
  split
  · refine ⟨?_, ?_, rfl, fun j hj => ⟨lo _ _ j hj, lo _ _ j hj, lo _ _ j hj⟩⟩
    · show ((S.1.set i _).set ((S.2.2.1.set S.2.2.2.2.2 i).getD (S.2.2.2.2.2 + 1 - 1) 0) ((S.2.2.2.1.set S.2.2.2.2.2 (S.1.getD i 0)).getD (S.2.2.2.2.2 + 1 - 1) 0)) = S.1
      rw [Nat.add_sub_cancel, e1, e2]; exact own_back _ (by omega)
    · show (S.2.1.set ((S.2.2.1.set S.2.2.2.2.2 i).getD (S.2.2.2.2.2 + 1 - 1) 0) ((S.2.2.2.2.1.set S.2.2.2.2.2 (S.2.1.getD i 0)).getD (S.2.2.2.2.2 + 1 - 1) 0)) = S.2.1
      rw [Nat.add_sub_cancel, e1, e3]; exact own_back0 (by omega)
  · refine ⟨?_, ?_, rfl, fun j hj => ⟨lo _ _ j hj, lo _ _ j hj, lo _ _ j hj⟩⟩
    · show (S.1.set ((S.2.2.1.set S.2.2.2.2.2 i).getD (S.2.2.2.2.2 + 1 - 1) 0) ((S.2.2.2.1.set S.2.2.2.2.2 (S.1.getD i 0)).getD (S.2.2.2.2.2 + 1 - 1) 0)) = S.1
      rw [Nat.add_sub_cancel, e1, e2]; exact own_back0 (by omega)
    · show ((S.2.1.set i 1).set ((S.2.2.1.set S.2.2.2.2.2 i).getD (S.2.2.2.2.2 + 1 - 1) 0) ((S.2.2.2.2.1.set S.2.2.2.2.2 (S.2.1.getD i 0)).getD (S.2.2.2.2.2 + 1 - 1) 0)) = S.2.1
      rw [Nat.add_sub_cancel, e1, e3]; exact own_back _ (by omega)
def own_Bk (m : Nat) (S0 S : own_S) : Prop := m ≤ S.2.2.2.2.2 ∧ own_sim (own_uns (S.2.2.2.2.2 - m) S) S0
theorem own_Bk_step {m z : Nat} {S0 S : own_S} (h : own_ok S) {i : Nat} (hi : i ≤ 1) (hk : S.2.2.2.2.2 < 8) (B : own_Bk m S0 S) : own_Bk m S0 (own_step z S i) := by
  obtain ⟨b1, b2⟩ := B
  have e := own_step_k z S i
  refine ⟨by omega, ?_⟩
  rw [e, show S.2.2.2.2.2 + 1 - m = (S.2.2.2.2.2 - m) + 1 by omega]
  show own_sim (own_uns (S.2.2.2.2.2 - m) (own_un (own_step z S i))) S0
  exact own_sim_tr (own_sim_uns (own_un_step h hi hk) (by show _ ≤ (own_un (own_step z S i)).2.2.2.2.2; have : (own_un (own_step z S i)).2.2.2.2.2 = (own_step z S i).2.2.2.2.2 - 1 := rfl; omega)) b2
theorem own_Bk_refl (S : own_S) : own_Bk S.2.2.2.2.2 S S := ⟨Nat.le_refl _, by rw [Nat.sub_self]; exact ⟨rfl, rfl, rfl, fun _ _ => ⟨rfl, rfl, rfl⟩⟩⟩
def own_fv (z r : Nat) : Int32 := if z ≤ r then 1 else 0
theorem own_fvn (z r : Nat) : nar .boolean (own_fv z r) = own_fv z r := by unfold own_fv; split <;> decide
theorem own_cmp : ∀ z, z < 16 → ∀ r, r < 16 → FP.dadd (FP.l2d (Int64.ofNat r)) (4472406533629990549 : UInt64) &&& 0x7fffffffffffffff ≤ 0x7ff0000000000000 ∧ cmpValue (FP.dcmp (FP.l2d (Int64.ofNat z)) (FP.dadd (FP.l2d (Int64.ofNat r)) (4472406533629990549 : UInt64))) .g = if z ≤ r then -1 else 1 := by decide +kernel
theorem own_sub : ∀ r, r < 16 → ∀ z, z ≤ r → FP.dsub (FP.l2d (Int64.ofNat r)) (FP.l2d (Int64.ofNat z)) &&& 0x7fffffffffffffff ≤ 0x7ff0000000000000 ∧ FP.dsub (FP.l2d (Int64.ofNat r)) (FP.l2d (Int64.ofNat z)) = FP.l2d (Int64.ofNat (r - z)) := by decide +kernel
theorem own_i2d : ∀ n, n < 16 → FP.i2d (Int32.ofNat n) = FP.l2d (Int64.ofNat n) := by decide +kernel
theorem own_nib (a : Int32) : ∃ n, n < 16 ∧ (a &&& (15 : Int32)) = Int32.ofNat n := by
  have m := c_mask a 15 4 (by decide) (by decide)
  refine ⟨(a &&& 15).toInt.toNat, by omega, Int32.toInt_inj.mp ?_⟩
  rw [Int32.toInt_ofNat_small (by omega)]
  omega
def own_St (Z : State) (h : Heap) (a1 : Addr) (ar : Addr) (ac : Addr) (al : Addr) (alr : Addr) (alc : Addr) (k1 : ClassId) (k2 : ClassId) (k3 : ClassId) (k4 : ClassId) (k5 : ClassId) (S : own_S) : Prop := Exa Z h a1 "com/example/tributary/tributary/solver/Rooms" ∧ Fld Z h a1 "com/example/tributary/tributary/solver/Rooms" "room" "[D" (.ref ar) ∧ Fld Z h a1 "com/example/tributary/tributary/solver/Rooms" "closed" "[Z" (.ref ac) ∧ Fld Z h a1 "com/example/tributary/tributary/solver/Rooms" "loggedLink" "[I" (.ref al) ∧ Fld Z h a1 "com/example/tributary/tributary/solver/Rooms" "loggedRoom" "[D" (.ref alr) ∧ Fld Z h a1 "com/example/tributary/tributary/solver/Rooms" "loggedClosed" "[Z" (.ref alc) ∧ Fld Z h a1 "com/example/tributary/tributary/solver/Rooms" "logged" "I" (.int (Int32.ofNat S.2.2.2.2.2)) ∧ Arv Z h ar k1 .double (2 : Int32) (own_vD S.1) (.double 0) ∧ Arv Z h ac k2 .boolean (2 : Int32) (own_vI S.2.1) (.int 0) ∧ Arv Z h al k3 .int (8 : Int32) (own_vI S.2.2.1) (.int 0) ∧ Arv Z h alr k4 .double (8 : Int32) (own_vD S.2.2.2.1) (.double 0) ∧ Arv Z h alc k5 .boolean (8 : Int32) (own_vI S.2.2.2.2.1) (.int 0)
def own_D (a1 : Addr) (ar : Addr) (ac : Addr) (al : Addr) (alr : Addr) (alc : Addr) : Prop := a1 ≠ ar ∧ a1 ≠ ac ∧ a1 ≠ al ∧ a1 ≠ alr ∧ a1 ≠ alc ∧ ar ≠ ac ∧ ar ≠ al ∧ ar ≠ alr ∧ ar ≠ alc ∧ ac ≠ al ∧ ac ≠ alr ∧ ac ≠ alc ∧ al ≠ alr ∧ al ≠ alc ∧ alr ≠ alc
def own_G (n0 : Nat) (a1 : Addr) (ar : Addr) (ac : Addr) (al : Addr) (alr : Addr) (alc : Addr) : Prop := n0 ≤ a1 ∧ n0 ≤ ar ∧ n0 ≤ ac ∧ n0 ≤ al ∧ n0 ≤ alr ∧ n0 ≤ alc
theorem own_fitC {Z : State} {h : Heap} {a : Addr} {c : Cell} {ty : FieldType} {vs : List Value} {d : Value} (A : Arr Z h a c ty) (H : Has c vs d) (G : ∀ i, i < c.slots.size → fits ty (vs.getD i d) = true) : FitC Z c := fun i v hv => by
  have hi := (Array.getElem?_eq_some_iff.mp hv).1
  have e := H i hi
  rw [hv] at e
  cases e
  obtain ⟨hs, k, hk, comp, hkind⟩ := A.2.1
  have q : Z.slotType? c.cls .none i = some ty := by simp [State.slotType?, hk, hkind]
  simp only [State.fitsSlot, q]
  exact G i hi
/-- a route: one link, or two -/
def own_rt (Z : State) (h : Heap) (t : Addr) (kt : ClassId) : Prop := (∃ x, x ≤ 1 ∧ Arv Z h t kt .int (1 : Int32) [.int (Int32.ofNat x)] (.int (0 : Int32))) ∨ ∃ x y, x ≤ 1 ∧ y ≤ 1 ∧ Arv Z h t kt .int (2 : Int32) [.int (Int32.ofNat x), .int (Int32.ofNat y)] (.int (0 : Int32))
theorem own_rt.lt {Z : State} {h : Heap} {t : Addr} {kt : ClassId} (F : own_rt Z h t kt) : t < h.size := by
  rcases F with ⟨x, _, F⟩ | ⟨x, y, _, _, F⟩ <;> exact F.lt
theorem own_rt.ext {Z : State} {h h' : Heap} {t : Addr} {kt : ClassId} (F : own_rt Z h t kt) (E : Ext h h') : own_rt Z h' t kt := F.imp (fun ⟨x, a, b⟩ => ⟨x, a, b.ext E⟩) fun ⟨x, y, a, b, c⟩ => ⟨x, y, a, b, c.ext E⟩
theorem own_rt.other {Z : State} {h h' : Heap} {t a : Addr} {kt : ClassId} {sl : Nat} {v : Value} (F : own_rt Z h t kt) (W : Wr h h' a sl v) (q : t ≠ a) : own_rt Z h' t kt := F.imp (fun ⟨x, a, b⟩ => ⟨x, a, b.other W q⟩) fun ⟨x, y, a, b, c⟩ => ⟨x, y, a, b, c.other W q⟩
theorem own_rt.keep {Z : State} {h h' : Heap} {t : Addr} {kt : ClassId} {ws : List Addr} (F : own_rt Z h t kt) (K : Keep h h' ws) (q : t ∉ ws) : own_rt Z h' t kt := F.imp (fun ⟨x, a, b⟩ => ⟨x, a, b.keep K q⟩) fun ⟨x, y, a, b, c⟩ => ⟨x, y, a, b, c.keep K q⟩
theorem own_stepY {z : Nat} {S : own_S} {i : Nat} (h : z ≤ S.1.getD i 0) : own_step z S i = (S.1.set i (S.1.getD i 0 - z), S.2.1, (own_log S i).2.2) := if_pos h
theorem own_stepN {z : Nat} {S : own_S} {i : Nat} (h : ¬ z ≤ S.1.getD i 0) : own_step z S i = (S.1, S.2.1.set i 1, (own_log S i).2.2) := if_neg h
theorem own_fv0 {z r : Nat} (h : own_fv z r = (0 : Int32)) : ¬ z ≤ r := fun q => by rw [own_fv, if_pos q] at h; exact absurd h (by decide)
theorem own_fv1 {z r : Nat} (h : ¬ own_fv z r = (0 : Int32)) : z ≤ r := Decidable.byContradiction fun q => h (if_neg q)
theorem own_n1 (z r : Nat) : nar .boolean ((1 : Int32) &&& own_fv z r) = own_fv z r := by unfold own_fv; split <;> decide
theorem own_ltI : ∀ i, i < 16 → ∀ j, j < 16 → (Int32.ofNat i < Int32.ofNat j ↔ i < j) := by decide +kernel
theorem own_inj : ∀ i, i < 16 → ∀ j, j < 16 → Int32.ofNat i = Int32.ofNat j → i = j := by decide +kernel
theorem own_subI : ∀ i, i < 16 → ∀ j, j ≤ i → Int32.ofNat i - Int32.ofNat j = Int32.ofNat (i - j) := by decide +kernel
theorem own_lenD (xs : List Nat) : (own_vD xs).length = xs.length := by simp [own_vD]
theorem own_lenI (xs : List Nat) : (own_vI xs).length = xs.length := by simp [own_vI]
theorem own_d8 {Z : State} {h : Heap} {a : Addr} {k : ClassId} {z : Int32} (F : Arv Z h a k .double z [.double 0, .double 0, .double 0, .double 0, .double 0, .double 0, .double 0, .double 0] (.double 0)) : Arv Z h a k .double z (own_vD [0, 0, 0, 0, 0, 0, 0, 0]) (.double 0) := by
  simp only [own_vD, List.map, own_z]; exact F
theorem own_c1 {xs : List Nat} {b : Nat} (h : ∀ x ∈ xs, x ≤ b) : ∀ i, xs.getD i 0 ≤ b := fun i => by
  rw [List.getD_eq_getElem?_getD]
  cases e : xs[i]? with
  | none => exact Nat.zero_le _
  | some v => exact h v (List.mem_of_getElem? e)
theorem own_ok0 {y0 y1 : Nat} (h0 : y0 < 16) (h1 : y1 < 16) : own_ok ([y0, y1], [0, 0], [0, 0, 0, 0, 0, 0, 0, 0], [0, 0, 0, 0, 0, 0, 0, 0], [0, 0, 0, 0, 0, 0, 0, 0], 0) := by
  refine ⟨rfl, rfl, rfl, rfl, rfl, own_c1 fun x hx => ?_, own_c1 (show ∀ x ∈ [0, 0], x ≤ 1 by decide), own_c1 (show ∀ x ∈ [0, 0, 0, 0, 0, 0, 0, 0], x ≤ 1 by decide), own_c1 (show ∀ x ∈ [0, 0, 0, 0, 0, 0, 0, 0], x ≤ 15 by decide), own_c1 (show ∀ x ∈ [0, 0, 0, 0, 0, 0, 0, 0], x ≤ 1 by decide)⟩
  simp only [List.mem_cons, List.not_mem_nil, or_false] at hx
  omega
theorem own_s1 {y0 y1 z : Nat} {S1 : own_S} (h : S1 = own_step z (own_step z ([y0, y1], [0, 0], [0, 0, 0, 0, 0, 0, 0, 0], [0, 0, 0, 0, 0, 0, 0, 0], [0, 0, 0, 0, 0, 0, 0, 0], 0) 0) 1) : S1.1.getD 0 0 = (if z ≤ y0 then y0 - z else y0) ∧ S1.1.getD 1 0 = (if z ≤ y1 then y1 - z else y1) ∧ S1.2.1.getD 0 0 = (if z ≤ y0 then 0 else 1) ∧ S1.2.1.getD 1 0 = (if z ≤ y1 then 0 else 1) ∧ S1.2.2.2.2.2 = 2 := by
  subst h
  by_cases H0 : z ≤ y0 <;> by_cases H1 : z ≤ y1 <;> simp [own_step, own_log, H0, H1]
theorem own_z01 {S S' : own_S} {c : Int32} {i : Nat} (ok : own_ok S) (e : S'.2.1 = S.2.1) (hc : c = Int32.ofNat (S.2.1.getD i 0)) : (c = 0 → S'.2.1.getD i 0 = 0) ∧ (¬ c = 0 → ¬ S'.2.1.getD i 0 = 0) := by
  have b := ok.2.2.2.2.2.2.1 i
  rw [e]
  refine ⟨fun q => own_inj _ (by omega) 0 (by decide) (hc.symm.trans q), fun q r => q (by rw [hc, r]; rfl)⟩
theorem own_fin {S S' : own_S} {c : Int32} {i z : Nat} (ok : own_ok S) (e : S'.1 = S.1) (hc : c = Int32.ofNat (S.1.getD i 0)) (hz : z < 16) : (c < Int32.ofNat z → own_fv z (S'.1.getD i 0) = 0) ∧ (¬ c < Int32.ofNat z → own_fv z (S'.1.getD i 0) = 1) := by
  have b := ok.2.2.2.2.2.1 i
  rw [e, hc, own_ltI _ (by omega) z hz, own_fv]
  exact ⟨fun q => if_neg (by omega), fun q => if_pos (by omega)⟩
theorem ef_fitf (m : MethodId) (x0 : UInt64) (x1 : UInt64) : entryFrame m #[(.double x0), (.double x1)] 4 = mkF m 0 #[.val (.double x0), .second, .val (.double x1), .second] [] := by first | (simp [entryFrame, mkF, argsToLocals, Value.category]; done) | rfl
def Q_fitf (Z : State) (z : Nat) (r : Nat) (h0 : Heap) (n0 : Nat) (v : Option Value) (h : Heap) (L : List Loc) : Prop := v = some (.int (own_fv z r)) ∧ Fr n0 L ∧ h = h0
theorem pn_0 : plainName "com/example/tributary/tributary/solver/Fit" = true := by first | (simp [plainName, overriddenIn]; done) | decide +kernel
theorem d6_0 : decode prog_45_method_2_code 0 = .ok (.dload_n 0, 1) := by decide +kernel
theorem d6_1 : decode prog_45_method_2_code 1 = .ok (.dload_n 2, 1) := by decide +kernel
theorem d6_2 : decode prog_45_method_2_code 2 = .ok (.ldc2_w 9, 3) := by decide +kernel
theorem d6_5 : decode prog_45_method_2_code 5 = .ok (.dadd, 1) := by decide +kernel
theorem d6_6 : decode prog_45_method_2_code 6 = .ok (.dcmp .g, 1) := by decide +kernel
theorem d6_7 : decode prog_45_method_2_code 7 = .ok (.ifCond .gt 7, 3) := by decide +kernel
theorem d6_10 : decode prog_45_method_2_code 10 = .ok (.iconst 1, 1) := by decide +kernel
theorem d6_11 : decode prog_45_method_2_code 11 = .ok (.goto 4, 3) := by decide +kernel
theorem d6_15 : decode prog_45_method_2_code 15 = .ok (.ireturn, 1) := by decide +kernel
theorem d6_14 : decode prog_45_method_2_code 14 = .ok (.iconst 0, 1) := by decide +kernel
set_option maxRecDepth 65536 in
set_option maxHeartbeats 40000000 in
theorem rm_fitf (l : Launch) (Z : State) (a0 : Array Value) (hw : ∀ d ∈ tables_1, d.before a0 Z = true) (ws : List Jvm.Cond) (z : Nat) (r : Nat) (h0 : Heap) (n0 : Nat) (Z0 : n0 ≤ h0.size) (hz : z < 16) (hr : r < 16) :
    MetFree l (⟨"com/example/tributary/tributary/solver/Fit", "fits", "(DD)Z"⟩ : MethodName) (head1 (Jvm.Cond.code (⟨"com/example/tributary/tributary/solver/Fit", "fits", "(DD)Z"⟩ : MethodName) prog_45_method_2_code 4 (some .boolean) :: ws) ({ frames := 0, cells := 0, slots := 0, locals := 0 } : Room)) (fun a U => a = #[(.double (FP.l2d (Int64.ofNat z))), (.double (FP.l2d (Int64.ofNat r)))] ∧ Z.Warmed39 U.vm ∧ U.heap = h0) (fun _ _ _ _ _ => True) (fun _ U o U' => ∃ v L, o = .returned v ∧ Q_fitf Z z r h0 n0 v U'.heap L ∧ FrameEnd U o U' L ({ frames := 0, cells := 0, slots := 0, locals := 0 } : Room).cells ({ frames := 0, cells := 0, slots := 0, locals := 0 } : Room).slots) := by
  refine MetFree.of_bodySF (plainFor_of_name pn_0) hisR ?_
  intro p e s m args below meth c s₁ Bd hml0 hP hK
  obtain ⟨rfl, hZ, hh⟩ := hP
  have hx := Bd.exec
  have hby := Bd.bytes
  have hml : c.maxLocals = 4 := hml0
  have hown : s.vm.findClass "com/example/tributary/tributary/solver/Fit" = some m.cls := findClass_of_methodNamed Bd.named
  have hnm := (name_of_methodNamed Bd.named Bd.method).1
  have X0 : Stand p l e ({ frames := 0, cells := 0, slots := 0, locals := 0 } : Room) s m #[(.double (FP.l2d (Int64.ofNat z))), (.double (FP.l2d (Int64.ofNat r)))] below meth c s₁ [] 0 0 := Stand.of_body Bd
  have e0 : s₁.heap = h0 := by rw [← hh, Bd.state]; rfl
  have N0 := Fr.nil n0
  have K0 : Keep h0 h0 [] := Keep.refl h0 []
  have P0 : ∀ t, Steps p.tables e below (s₁.setTop (mkF m 0 #[.val (.double (FP.l2d (Int64.ofNat z))), .second, .val (.double (FP.l2d (Int64.ofNat r))), .second] [])) t → Steps p.tables e below (s₁.setTop (entryFrame m #[(.double (FP.l2d (Int64.ofNat z))), (.double (FP.l2d (Int64.ofNat r)))] 4)) t := fun t k => castTop (ef_fitf m (FP.l2d (Int64.ofNat z)) (FP.l2d (Int64.ofNat r))) k
  have P1001 : ∀ t, Steps p.tables e below (s₁.setTop (mkF m 2 #[.val (.double (FP.l2d (Int64.ofNat z))), .second, .val (.double (FP.l2d (Int64.ofNat r))), .second] [(.double (FP.l2d (Int64.ofNat r))), (.double (FP.l2d (Int64.ofNat z)))])) t → Steps p.tables e below (s₁.setTop (entryFrame m #[(.double (FP.l2d (Int64.ofNat z))), (.double (FP.l2d (Int64.ofNat r)))] 4)) t := fun t k => P0 t (by
    refine XS.dloadN X0.here hx rfl (hb hby d6_0) rfl ?_
    show Steps p.tables e below (s₁.setTop (mkF m 1 #[.val (.double (FP.l2d (Int64.ofNat z))), .second, .val (.double (FP.l2d (Int64.ofNat r))), .second] [(.double (FP.l2d (Int64.ofNat z)))])) _
    refine XS.dloadN X0.here hx rfl (hb hby d6_1) rfl ?_
    show Steps p.tables e below (s₁.setTop (mkF m 2 #[.val (.double (FP.l2d (Int64.ofNat z))), .second, .val (.double (FP.l2d (Int64.ofNat r))), .second] [(.double (FP.l2d (Int64.ofNat r))), (.double (FP.l2d (Int64.ofNat z)))])) _
    exact k)
  by_cases hle : z ≤ r
  · have P1002 : ∀ t, Steps p.tables e below (s₁.setTop (mkF m 15 #[.val (.double (FP.l2d (Int64.ofNat z))), .second, .val (.double (FP.l2d (Int64.ofNat r))), .second] [(.int (1 : Int32))])) t → Steps p.tables e below (s₁.setTop (entryFrame m #[(.double (FP.l2d (Int64.ofNat z))), (.double (FP.l2d (Int64.ofNat r)))] 4)) t := fun t k => P1001 t (by
      refine X0.ldc2DoubleC hx hown (mvT hZ (hw _ (List.mem_of_getElem? (i := 48) rfl))) (g := (mkF m 2 #[.val (.double (FP.l2d (Int64.ofNat z))), .second, .val (.double (FP.l2d (Int64.ofNat r))), .second] [(.double (FP.l2d (Int64.ofNat r))), (.double (FP.l2d (Int64.ofNat z)))])) rfl (hb hby d6_2) _ ?_
      show Steps p.tables e below (s₁.setTop (mkF m 5 #[.val (.double (FP.l2d (Int64.ofNat z))), .second, .val (.double (FP.l2d (Int64.ofNat r))), .second] [(.double (4472406533629990549 : UInt64)), (.double (FP.l2d (Int64.ofNat r))), (.double (FP.l2d (Int64.ofNat z)))])) _
      refine XS.daddS X0.here hx rfl (hb hby d6_5) rfl (own_cmp z hz r hr).1 (v := FP.dadd (FP.l2d (Int64.ofNat r)) (4472406533629990549 : UInt64)) rfl ?_
      show Steps p.tables e below (s₁.setTop (mkF m 6 #[.val (.double (FP.l2d (Int64.ofNat z))), .second, .val (.double (FP.l2d (Int64.ofNat r))), .second] [(.double (FP.dadd (FP.l2d (Int64.ofNat r)) (4472406533629990549 : UInt64))), (.double (FP.l2d (Int64.ofNat z)))])) _
      refine XS.dcmpS X0.here hx rfl (hb hby d6_6) rfl (v := (-1 : Int32)) ((own_cmp z hz r hr).2.trans (if_pos hle)) ?_
      show Steps p.tables e below (s₁.setTop (mkF m 7 #[.val (.double (FP.l2d (Int64.ofNat z))), .second, .val (.double (FP.l2d (Int64.ofNat r))), .second] [(.int (-1 : Int32))])) _
      refine XS.ifNo X0.here hx rfl (hb hby d6_7) rfl ((if0 _ _).trans (flt (by decide)).2.2.1) ?_
      show Steps p.tables e below (s₁.setTop (mkF m 10 #[.val (.double (FP.l2d (Int64.ofNat z))), .second, .val (.double (FP.l2d (Int64.ofNat r))), .second] [])) _
      refine XS.iconst X0.here hx rfl (hb hby d6_10) ?_
      show Steps p.tables e below (s₁.setTop (mkF m 11 #[.val (.double (FP.l2d (Int64.ofNat z))), .second, .val (.double (FP.l2d (Int64.ofNat r))), .second] [(.int (1 : Int32))])) _
      refine XS.goto X0.here hx rfl (pc0 := 11) (pc' := 15) rfl (hb hby d6_11) (by decide) (by decide) ?_
      show Steps p.tables e below (s₁.setTop (mkF m 15 #[.val (.double (FP.l2d (Int64.ofNat z))), .second, .val (.double (FP.l2d (Int64.ofNat r))), .second] [(.int (1 : Int32))])) _
      exact k)
    obtain ⟨fs, hr, hrun, hended, hW, hsame⟩ := X0.leave (v := some (.int (1 : Int32))) (fun h => by rw [Bd.returns] at h; cases h)
    refine ⟨_, _, P1002 _ ?_, hrun, hended, _, _, rfl, ?_, ⟨_, rfl⟩, hW, hsame.mono (by decide) (by decide)⟩
    · exact retN X0 hx (t := .boolean) Bd.returns (by simp) (hb hby d6_15) hr
    · show Q_fitf Z z r h0 n0 _ s₁.heap _
      rw [e0]
      exact ⟨by rw [own_fv, if_pos hle], N0, rfl⟩
  · have P1003 : ∀ t, Steps p.tables e below (s₁.setTop (mkF m 15 #[.val (.double (FP.l2d (Int64.ofNat z))), .second, .val (.double (FP.l2d (Int64.ofNat r))), .second] [(.int (0 : Int32))])) t → Steps p.tables e below (s₁.setTop (entryFrame m #[(.double (FP.l2d (Int64.ofNat z))), (.double (FP.l2d (Int64.ofNat r)))] 4)) t := fun t k => P1001 t (by
      refine X0.ldc2DoubleC hx hown (mvT hZ (hw _ (List.mem_of_getElem? (i := 48) rfl))) (g := (mkF m 2 #[.val (.double (FP.l2d (Int64.ofNat z))), .second, .val (.double (FP.l2d (Int64.ofNat r))), .second] [(.double (FP.l2d (Int64.ofNat r))), (.double (FP.l2d (Int64.ofNat z)))])) rfl (hb hby d6_2) _ ?_
      show Steps p.tables e below (s₁.setTop (mkF m 5 #[.val (.double (FP.l2d (Int64.ofNat z))), .second, .val (.double (FP.l2d (Int64.ofNat r))), .second] [(.double (4472406533629990549 : UInt64)), (.double (FP.l2d (Int64.ofNat r))), (.double (FP.l2d (Int64.ofNat z)))])) _
      refine XS.daddS X0.here hx rfl (hb hby d6_5) rfl (own_cmp z hz r hr).1 (v := FP.dadd (FP.l2d (Int64.ofNat r)) (4472406533629990549 : UInt64)) rfl ?_
      show Steps p.tables e below (s₁.setTop (mkF m 6 #[.val (.double (FP.l2d (Int64.ofNat z))), .second, .val (.double (FP.l2d (Int64.ofNat r))), .second] [(.double (FP.dadd (FP.l2d (Int64.ofNat r)) (4472406533629990549 : UInt64))), (.double (FP.l2d (Int64.ofNat z)))])) _
      refine XS.dcmpS X0.here hx rfl (hb hby d6_6) rfl (v := (1 : Int32)) ((own_cmp z hz r hr).2.trans (if_neg hle)) ?_
      show Steps p.tables e below (s₁.setTop (mkF m 7 #[.val (.double (FP.l2d (Int64.ofNat z))), .second, .val (.double (FP.l2d (Int64.ofNat r))), .second] [(.int (1 : Int32))])) _
      refine XS.ifYes X0.here hx rfl (pc0 := 7) (pc' := 14) rfl (hb hby d6_7) rfl ((if0 _ _).trans (tlt (by decide)).2.2.1) (by decide) (by decide) ?_
      show Steps p.tables e below (s₁.setTop (mkF m 14 #[.val (.double (FP.l2d (Int64.ofNat z))), .second, .val (.double (FP.l2d (Int64.ofNat r))), .second] [])) _
      refine XS.iconst X0.here hx rfl (hb hby d6_14) ?_
      show Steps p.tables e below (s₁.setTop (mkF m 15 #[.val (.double (FP.l2d (Int64.ofNat z))), .second, .val (.double (FP.l2d (Int64.ofNat r))), .second] [(.int (0 : Int32))])) _
      exact k)
    obtain ⟨fs, hr, hrun, hended, hW, hsame⟩ := X0.leave (v := some (.int (0 : Int32))) (fun h => by rw [Bd.returns] at h; cases h)
    refine ⟨_, _, P1003 _ ?_, hrun, hended, _, _, rfl, ?_, ⟨_, rfl⟩, hW, hsame.mono (by decide) (by decide)⟩
    · exact retN X0 hx (t := .boolean) Bd.returns (by simp) (hb hby d6_15) hr
    · show Q_fitf Z z r h0 n0 _ s₁.heap _
      rw [e0]
      exact ⟨by rw [own_fv, if_neg hle], N0, rfl⟩
theorem ef_rfits (m : MethodId) (x0 : Addr) (x1 : Int32) (x2 : UInt64) : entryFrame m #[(.ref x0), (.int x1), (.double x2)] 4 = mkF m 0 #[.val (.ref x0), .val (.int x1), .val (.double x2), .second] [] := by first | (simp [entryFrame, mkF, argsToLocals, Value.category]; done) | rfl
def Q_rfits (Z : State) (a1 : Addr) (ar : Addr) (ac : Addr) (al : Addr) (alr : Addr) (alc : Addr) (k1 : ClassId) (k2 : ClassId) (k3 : ClassId) (k4 : ClassId) (k5 : ClassId) (S : own_S) (i : Nat) (z : Nat) (h0 : Heap) (n0 : Nat) (v : Option Value) (h : Heap) (L : List Loc) : Prop := v = some (.int (own_fv z (S.1.getD i 0))) ∧ Fr n0 L ∧ h = h0
theorem pn_1 : plainName "com/example/tributary/tributary/solver/Rooms" = true := by first | (simp [plainName, overriddenIn]; done) | decide +kernel
theorem d5_0 : decode prog_52_method_4_code 0 = .ok (.dload_n 2, 1) := by decide +kernel
theorem d5_1 : decode prog_52_method_4_code 1 = .ok (.aload_n 0, 1) := by decide +kernel
theorem d5_2 : decode prog_52_method_4_code 2 = .ok (.getfield 13, 3) := by decide +kernel
theorem d5_5 : decode prog_52_method_4_code 5 = .ok (.iload_n 1, 1) := by decide +kernel
theorem d5_6 : decode prog_52_method_4_code 6 = .ok (.daload, 1) := by decide +kernel
theorem d5_7 : decode prog_52_method_4_code 7 = .ok (.invokestatic 40, 3) := by decide +kernel
theorem pd_0 : parseMethodDescriptor "(DD)Z" = some ⟨[.double, .double], some .boolean⟩ := by decide +kernel
theorem d5_10 : decode prog_52_method_4_code 10 = .ok (.ireturn, 1) := by decide +kernel
set_option maxRecDepth 65536 in
set_option maxHeartbeats 40000000 in
theorem rm_rfits (l : Launch) (Z : State) (a0 : Array Value) (hw : ∀ d ∈ tables_1, d.before a0 Z = true) (ws : List Jvm.Cond) (a1 : Addr) (ar : Addr) (ac : Addr) (al : Addr) (alr : Addr) (alc : Addr) (k1 : ClassId) (k2 : ClassId) (k3 : ClassId) (k4 : ClassId) (k5 : ClassId) (S : own_S) (i : Nat) (z : Nat) (h0 : Heap) (n0 : Nat) (Z0 : n0 ≤ h0.size) (B1 : own_St Z h0 a1 ar ac al alr alc k1 k2 k3 k4 k5 S) (D1 : own_D a1 ar ac al alr alc) (G1 : own_G n0 a1 ar ac al alr alc) (OK1 : own_ok S) (hi : i ≤ 1) (hz : z < 16) :
    MetFree l (⟨"com/example/tributary/tributary/solver/Rooms", "fits", "(ID)Z"⟩ : MethodName) (head1 (Jvm.Cond.code (⟨"com/example/tributary/tributary/solver/Rooms", "fits", "(ID)Z"⟩ : MethodName) prog_52_method_4_code 4 (some .boolean) :: ws) ({ frames := 1, cells := 0, slots := 0, locals := 15 } : Room)) (fun a U => a = #[(.ref a1), (.int (Int32.ofNat i)), (.double (FP.l2d (Int64.ofNat z)))] ∧ Z.Warmed39 U.vm ∧ U.heap = h0) (fun _ _ _ _ _ => True) (fun _ U o U' => ∃ v L, o = .returned v ∧ Q_rfits Z a1 ar ac al alr alc k1 k2 k3 k4 k5 S i z h0 n0 v U'.heap L ∧ FrameEnd U o U' L ({ frames := 1, cells := 0, slots := 0, locals := 15 } : Room).cells ({ frames := 1, cells := 0, slots := 0, locals := 15 } : Room).slots) := by
  refine MetFree.of_bodySF (plainFor_of_name pn_1) hisR ?_
  intro p e s m args below meth c s₁ Bd hml0 hP hK
  obtain ⟨rfl, hZ, hh⟩ := hP
  have hx := Bd.exec
  have hby := Bd.bytes
  have hml : c.maxLocals = 4 := hml0
  have hown : s.vm.findClass "com/example/tributary/tributary/solver/Rooms" = some m.cls := findClass_of_methodNamed Bd.named
  have hnm := (name_of_methodNamed Bd.named Bd.method).1
  have X0 : Stand p l e ({ frames := 1, cells := 0, slots := 0, locals := 15 } : Room) s m #[(.ref a1), (.int (Int32.ofNat i)), (.double (FP.l2d (Int64.ofNat z)))] below meth c s₁ [] 0 0 := Stand.of_body Bd
  have e0 : s₁.heap = h0 := by rw [← hh, Bd.state]; rfl
  have N0 := Fr.nil n0
  have K0 : Keep h0 h0 [] := Keep.refl h0 []
  have P0 : ∀ t, Steps p.tables e below (s₁.setTop (mkF m 0 #[.val (.ref a1), .val (.int (Int32.ofNat i)), .val (.double (FP.l2d (Int64.ofNat z))), .second] [])) t → Steps p.tables e below (s₁.setTop (entryFrame m #[(.ref a1), (.int (Int32.ofNat i)), (.double (FP.l2d (Int64.ofNat z)))] 4)) t := fun t k => castTop (ef_rfits m a1 (Int32.ofNat i) (FP.l2d (Int64.ofNat z))) k
  obtain ⟨E0, F0_room, F0_closed, F0_loggedLink, F0_loggedRoom, F0_loggedClosed, F0_logged, V0_ar, V0_ac, V0_al, V0_alr, V0_alc⟩ := id B1
  obtain ⟨ne_a1_ar, ne_a1_ac, ne_a1_al, ne_a1_alr, ne_a1_alc, ne_ar_ac, ne_ar_al, ne_ar_alr, ne_ar_alc, ne_ac_al, ne_ac_alr, ne_ac_alc, ne_al_alr, ne_al_alc, ne_alr_alc⟩ := id D1
  obtain ⟨g_a1, g_ar, g_ac, g_al, g_alr, g_alc⟩ := id G1
  obtain ⟨T1004, X1004, e1004, st1004⟩ := getF X0 hx hZ hown (host := "") (Or.inl (hw _ (List.mem_of_getElem? (i := 24) rfl))) Via.refl e0 F0_room (g := (mkF m 2 #[.val (.ref a1), .val (.int (Int32.ofNat i)), .val (.double (FP.l2d (Int64.ofNat z))), .second] [(.ref a1), (.double (FP.l2d (Int64.ofNat z)))])) rfl rfl (hb hby d5_2)
  obtain ⟨cl1005, Ar1005, q1005, S1005, M1005, H1005, G1005⟩ := id V0_ar
  have hin1005 : ¬ ((Int32.ofNat i) < 0 ∨ cl1005.slots.size ≤ ((Int32.ofNat i)).toNatClampNeg) := own_in S1005 (n := 2) (by decide) (by decide) (Nat.lt_of_le_of_lt hi (by decide))
  have hat1005 : cl1005.slots[((Int32.ofNat i)).toNatClampNeg]? = some (.double (FP.l2d (Int64.ofNat (S.1.getD i 0)))) := own_aD H1005 S1005 (n := 2) (by decide) (by decide) (Nat.lt_of_le_of_lt hi (by decide))
  obtain ⟨_, _, ⟨T1006, L1006, k1006, n1006⟩, -, X1006, ⟨Lc1006, hQ1006, l1006, y1006, z1006⟩, st1006⟩ := Jvm.LawKit.callS X1004 hx (y := (⟨"com/example/tributary/tributary/solver/Fit", "fits", "(DD)Z"⟩ : MethodName)) hown (mvT hZ (hw _ (List.mem_of_getElem? (i := 44) rfl))) (mvT hZ (hw _ (List.mem_of_getElem? (i := 45) rfl))) (mvT hZ (hw _ (List.mem_of_getElem? (i := 46) rfl))) (mvT hZ (hw _ (List.mem_of_getElem? (i := 47) rfl))) (by decide) (backOf (W := 0) (rm_fitf l Z a0 hw [] z (S.1.getD i 0) h0 n0 Z0 hz (Nat.lt_of_le_of_lt (OK1.2.2.2.2.2.1 i) (by decide))) hZ (hw _ (List.mem_of_getElem? (i := 47) rfl)) (hw _ (List.mem_of_getElem? (i := 46) rfl)) (by decide) (by decide)) (g := (mkF m 7 #[.val (.ref a1), .val (.int (Int32.ofNat i)), .val (.double (FP.l2d (Int64.ofNat z))), .second] [(.double (FP.l2d (Int64.ofNat (S.1.getD i 0)))), (.double (FP.l2d (Int64.ofNat z)))])) rfl (by rw [hml]; rfl) (argsL := [(.double (FP.l2d (Int64.ofNat z))), (.double (FP.l2d (Int64.ofNat (S.1.getD i 0))))]) (rest := []) (lenOf pd_0 rfl) rfl (by show 2 * 0 + _ ≤ _; exact Nat.le_of_eq rfl) (hb hby d5_7) (fun _ _ => ⟨rfl, e1004, (by decide : 0 + 0 ≤ _), (by decide : 0 + 0 ≤ _)⟩)
  dsimp only [Pt.U, Pt.locs, Pt.cells, Pt.slots] at X1006 l1006 y1006 z1006 st1006 hQ1006
  subst l1006 y1006 z1006
  obtain ⟨rfl, N1006q, e7⟩ := hQ1006
  have N1006 := Fr.app N0 N1006q
  have P1007 : ∀ t, Steps p.tables e below (T1006.setTop (mkF m 10 #[.val (.ref a1), .val (.int (Int32.ofNat i)), .val (.double (FP.l2d (Int64.ofNat z))), .second] [(.int (own_fv z (S.1.getD i 0)))])) t → Steps p.tables e below (s₁.setTop (entryFrame m #[(.ref a1), (.int (Int32.ofNat i)), (.double (FP.l2d (Int64.ofNat z)))] 4)) t := fun t k => P0 t (by
    refine XS.dloadN X0.here hx rfl (hb hby d5_0) rfl ?_
    show Steps p.tables e below (s₁.setTop (mkF m 1 #[.val (.ref a1), .val (.int (Int32.ofNat i)), .val (.double (FP.l2d (Int64.ofNat z))), .second] [(.double (FP.l2d (Int64.ofNat z)))])) _
    refine XS.aloadN X0.here hx rfl (hb hby d5_1) rfl rfl ?_
    show Steps p.tables e below (s₁.setTop (mkF m 2 #[.val (.ref a1), .val (.int (Int32.ofNat i)), .val (.double (FP.l2d (Int64.ofNat z))), .second] [(.ref a1), (.double (FP.l2d (Int64.ofNat z)))])) _
    refine st1004 _ ?_
    show Steps p.tables e below (T1004.setTop (mkF m 5 #[.val (.ref a1), .val (.int (Int32.ofNat i)), .val (.double (FP.l2d (Int64.ofNat z))), .second] [(.ref ar), (.double (FP.l2d (Int64.ofNat z)))])) _
    refine XS.iloadN X1004.here hx rfl (hb hby d5_5) rfl ?_
    show Steps p.tables e below (T1004.setTop (mkF m 6 #[.val (.ref a1), .val (.int (Int32.ofNat i)), .val (.double (FP.l2d (Int64.ofNat z))), .second] [(.int (Int32.ofNat i)), (.ref ar), (.double (FP.l2d (Int64.ofNat z)))])) _
    refine X1004.daload hx (j := (Int32.ofNat i)) (v := (.double (FP.l2d (Int64.ofNat (S.1.getD i 0))))) (by rw [e1004]; exact Ar1005.1) (State.isArrayOf_alike hZ.alike Ar1005.2.1) Ar1005.2.2 hin1005 hat1005 (g := (mkF m 6 #[.val (.ref a1), .val (.int (Int32.ofNat i)), .val (.double (FP.l2d (Int64.ofNat z))), .second] [(.int (Int32.ofNat i)), (.ref ar), (.double (FP.l2d (Int64.ofNat z)))])) rfl rfl (hb hby d5_6) _ ?_
    show Steps p.tables e below (T1004.setTop (mkF m 7 #[.val (.ref a1), .val (.int (Int32.ofNat i)), .val (.double (FP.l2d (Int64.ofNat z))), .second] [(.double (FP.l2d (Int64.ofNat (S.1.getD i 0)))), (.double (FP.l2d (Int64.ofNat z)))])) _
    refine st1006 _ ?_
    show Steps p.tables e below (T1006.setTop (mkF m 10 #[.val (.ref a1), .val (.int (Int32.ofNat i)), .val (.double (FP.l2d (Int64.ofNat z))), .second] [(.int (own_fv z (S.1.getD i 0)))])) _
    exact k)
  obtain ⟨fs, hr, hrun, hended, hW, hsame⟩ := X1006.leave (v := some (.int (own_fv z (S.1.getD i 0)))) (fun h => by rw [Bd.returns] at h; cases h)
  refine ⟨_, _, P1007 _ ?_, hrun, hended, _, _, rfl, ?_, ⟨_, rfl⟩, hW, hsame.mono (by decide) (by decide)⟩
  · exact retN X1006 hx (t := .boolean) Bd.returns (by simp) (hb hby d5_10) (by rw [own_fvn]; exact hr)
  · show Q_rfits Z a1 ar ac al alr alc k1 k2 k3 k4 k5 S i z h0 n0 _ T1006.heap _
    rw [e7]
    exact ⟨rfl, N1006, rfl⟩
theorem ef_log (m : MethodId) (x0 : Addr) (x1 : Int32) : entryFrame m #[(.ref x0), (.int x1)] 2 = mkF m 0 #[.val (.ref x0), .val (.int x1)] [] := by first | (simp [entryFrame, mkF, argsToLocals, Value.category]; done) | rfl
def Q_log (Z : State) (a1 : Addr) (ar : Addr) (ac : Addr) (al : Addr) (alr : Addr) (alc : Addr) (k1 : ClassId) (k2 : ClassId) (k3 : ClassId) (k4 : ClassId) (k5 : ClassId) (S : own_S) (i : Nat) (h0 : Heap) (n0 : Nat) (v : Option Value) (h : Heap) (L : List Loc) : Prop := v = none ∧ Fr n0 L ∧ Keep h0 h [a1, ar, ac, al, alr, alc] ∧ own_St Z h a1 ar ac al alr alc k1 k2 k3 k4 k5 (own_log S i)
theorem d7_0 : decode prog_52_method_7_code 0 = .ok (.aload_n 0, 1) := by decide +kernel
theorem d7_1 : decode prog_52_method_7_code 1 = .ok (.getfield 22, 3) := by decide +kernel
theorem d7_4 : decode prog_52_method_7_code 4 = .ok (.aload_n 0, 1) := by decide +kernel
theorem d7_5 : decode prog_52_method_7_code 5 = .ok (.getfield 45, 3) := by decide +kernel
theorem d7_8 : decode prog_52_method_7_code 8 = .ok (.iload_n 1, 1) := by decide +kernel
theorem d7_9 : decode prog_52_method_7_code 9 = .ok (.iastore, 1) := by decide +kernel
theorem d7_10 : decode prog_52_method_7_code 10 = .ok (.aload_n 0, 1) := by decide +kernel
theorem d7_11 : decode prog_52_method_7_code 11 = .ok (.getfield 26, 3) := by decide +kernel
theorem d7_14 : decode prog_52_method_7_code 14 = .ok (.aload_n 0, 1) := by decide +kernel
theorem d7_15 : decode prog_52_method_7_code 15 = .ok (.getfield 45, 3) := by decide +kernel
theorem d7_18 : decode prog_52_method_7_code 18 = .ok (.aload_n 0, 1) := by decide +kernel
theorem d7_19 : decode prog_52_method_7_code 19 = .ok (.getfield 13, 3) := by decide +kernel
theorem d7_22 : decode prog_52_method_7_code 22 = .ok (.iload_n 1, 1) := by decide +kernel
theorem d7_23 : decode prog_52_method_7_code 23 = .ok (.daload, 1) := by decide +kernel
theorem d7_24 : decode prog_52_method_7_code 24 = .ok (.dastore, 1) := by decide +kernel
theorem d7_25 : decode prog_52_method_7_code 25 = .ok (.aload_n 0, 1) := by decide +kernel
theorem d7_26 : decode prog_52_method_7_code 26 = .ok (.getfield 29, 3) := by decide +kernel
theorem d7_29 : decode prog_52_method_7_code 29 = .ok (.aload_n 0, 1) := by decide +kernel
theorem d7_30 : decode prog_52_method_7_code 30 = .ok (.getfield 45, 3) := by decide +kernel
theorem d7_33 : decode prog_52_method_7_code 33 = .ok (.aload_n 0, 1) := by decide +kernel
theorem d7_34 : decode prog_52_method_7_code 34 = .ok (.getfield 18, 3) := by decide +kernel
theorem d7_37 : decode prog_52_method_7_code 37 = .ok (.iload_n 1, 1) := by decide +kernel
theorem d7_38 : decode prog_52_method_7_code 38 = .ok (.baload, 1) := by decide +kernel
theorem d7_39 : decode prog_52_method_7_code 39 = .ok (.bastore, 1) := by decide +kernel
theorem d7_40 : decode prog_52_method_7_code 40 = .ok (.aload_n 0, 1) := by decide +kernel
theorem d7_41 : decode prog_52_method_7_code 41 = .ok (.dup, 1) := by decide +kernel
theorem d7_42 : decode prog_52_method_7_code 42 = .ok (.getfield 45, 3) := by decide +kernel
theorem d7_45 : decode prog_52_method_7_code 45 = .ok (.iconst 1, 1) := by decide +kernel
theorem d7_46 : decode prog_52_method_7_code 46 = .ok (.iadd, 1) := by decide +kernel
theorem d7_47 : decode prog_52_method_7_code 47 = .ok (.putfield 45, 3) := by decide +kernel
theorem d7_50 : decode prog_52_method_7_code 50 = .ok (.return_, 1) := by decide +kernel
set_option maxRecDepth 65536 in
set_option maxHeartbeats 40000000 in
theorem rm_log (l : Launch) (Z : State) (a0 : Array Value) (hw : ∀ d ∈ tables_1, d.before a0 Z = true) (ws : List Jvm.Cond) (a1 : Addr) (ar : Addr) (ac : Addr) (al : Addr) (alr : Addr) (alc : Addr) (k1 : ClassId) (k2 : ClassId) (k3 : ClassId) (k4 : ClassId) (k5 : ClassId) (S : own_S) (i : Nat) (h0 : Heap) (n0 : Nat) (Z0 : n0 ≤ h0.size) (B1 : own_St Z h0 a1 ar ac al alr alc k1 k2 k3 k4 k5 S) (D1 : own_D a1 ar ac al alr alc) (G1 : own_G n0 a1 ar ac al alr alc) (OK1 : own_ok S) (hi : i ≤ 1) (hk : S.2.2.2.2.2 < 8) :
    MetFree l (⟨"com/example/tributary/tributary/solver/Rooms", "log", "(I)V"⟩ : MethodName) (head1 (Jvm.Cond.code (⟨"com/example/tributary/tributary/solver/Rooms", "log", "(I)V"⟩ : MethodName) prog_52_method_7_code 2 none :: ws) ({ frames := 0, cells := 0, slots := 0, locals := 0 } : Room)) (fun a U => a = #[(.ref a1), (.int (Int32.ofNat i))] ∧ Z.Warmed39 U.vm ∧ U.heap = h0) (fun _ _ _ _ _ => True) (fun _ U o U' => ∃ v L, o = .returned v ∧ Q_log Z a1 ar ac al alr alc k1 k2 k3 k4 k5 S i h0 n0 v U'.heap L ∧ FrameEnd U o U' L ({ frames := 0, cells := 0, slots := 0, locals := 0 } : Room).cells ({ frames := 0, cells := 0, slots := 0, locals := 0 } : Room).slots) := by
  refine MetFree.of_bodySF (plainFor_of_name pn_1) hisR ?_
  intro p e s m args below meth c s₁ Bd hml0 hP hK
  obtain ⟨rfl, hZ, hh⟩ := hP
  have hx := Bd.exec
  have hby := Bd.bytes
  have hml : c.maxLocals = 2 := hml0
  have hown : s.vm.findClass "com/example/tributary/tributary/solver/Rooms" = some m.cls := findClass_of_methodNamed Bd.named
  have hnm := (name_of_methodNamed Bd.named Bd.method).1
  have X0 : Stand p l e ({ frames := 0, cells := 0, slots := 0, locals := 0 } : Room) s m #[(.ref a1), (.int (Int32.ofNat i))] below meth c s₁ [] 0 0 := Stand.of_body Bd
  have e0 : s₁.heap = h0 := by rw [← hh, Bd.state]; rfl
  have N0 := Fr.nil n0
  have K0 : Keep h0 h0 [a1, ar, ac, al, alr, alc] := Keep.refl h0 [a1, ar, ac, al, alr, alc]
  have P0 : ∀ t, Steps p.tables e below (s₁.setTop (mkF m 0 #[.val (.ref a1), .val (.int (Int32.ofNat i))] [])) t → Steps p.tables e below (s₁.setTop (entryFrame m #[(.ref a1), (.int (Int32.ofNat i))] 2)) t := fun t k => castTop (ef_log m a1 (Int32.ofNat i)) k
  obtain ⟨E0, F0_room, F0_closed, F0_loggedLink, F0_loggedRoom, F0_loggedClosed, F0_logged, V0_ar, V0_ac, V0_al, V0_alr, V0_alc⟩ := id B1
  obtain ⟨ne_a1_ar, ne_a1_ac, ne_a1_al, ne_a1_alr, ne_a1_alc, ne_ar_ac, ne_ar_al, ne_ar_alr, ne_ar_alc, ne_ac_al, ne_ac_alr, ne_ac_alc, ne_al_alr, ne_al_alc, ne_alr_alc⟩ := id D1
  obtain ⟨g_a1, g_ar, g_ac, g_al, g_alr, g_alc⟩ := id G1
  obtain ⟨T1008, X1008, e1008, st1008⟩ := getF X0 hx hZ hown (host := "") (Or.inl (hw _ (List.mem_of_getElem? (i := 29) rfl))) Via.refl e0 F0_loggedLink (g := (mkF m 1 #[.val (.ref a1), .val (.int (Int32.ofNat i))] [(.ref a1)])) rfl rfl (hb hby d7_1)
  obtain ⟨T1009, X1009, e1009, st1009⟩ := getF X1008 hx hZ hown (host := "") (Or.inl (hw _ (List.mem_of_getElem? (i := 53) rfl))) Via.refl e1008 F0_logged (g := (mkF m 5 #[.val (.ref a1), .val (.int (Int32.ofNat i))] [(.ref a1), (.ref al)])) rfl rfl (hb hby d7_5)
  obtain ⟨cl1010, Ar1010, q1010, S1010, M1010, H1010, G1010⟩ := id V0_al
  have hin1010 : ¬ ((Int32.ofNat S.2.2.2.2.2) < 0 ∨ cl1010.slots.size ≤ ((Int32.ofNat S.2.2.2.2.2)).toNatClampNeg) := own_in S1010 (n := 8) (by decide) (by decide) hk
  obtain ⟨T1010, h1010, X1010, e1010, W1010, st1010⟩ := stI X1009 hx hZ e1009 Ar1010 (j := (Int32.ofNat S.2.2.2.2.2)) hin1010 (g := (mkF m 9 #[.val (.ref a1), .val (.int (Int32.ofNat i))] [(.int (Int32.ofNat i)), (.int (Int32.ofNat S.2.2.2.2.2)), (.ref al)])) rfl rfl (hb hby d7_9)
  have V1010 := own_sI rfl (Arv.set Ar1010 q1010 S1010 M1010 H1010 G1010 rfl W1010 S.2.2.2.2.2 (own_tn S.2.2.2.2.2 (Nat.lt_of_lt_of_le hk (by decide))) (by rw [own_lenI, OK1.2.2.1]; exact hk))
  have c1011_0 := E0.wr W1010
  have c1011_1 := F0_room.other W1010 (Or.inl ne_a1_al)
  have c1011_2 := F0_closed.other W1010 (Or.inl ne_a1_al)
  have c1011_3 := F0_loggedLink.other W1010 (Or.inl ne_a1_al)
  have c1011_4 := F0_loggedRoom.other W1010 (Or.inl ne_a1_al)
  have c1011_5 := F0_loggedClosed.other W1010 (Or.inl ne_a1_al)
  have c1011_6 := F0_logged.other W1010 (Or.inl ne_a1_al)
  have c1011_7 := V0_ar.other W1010 ne_ar_al
  have c1011_8 := V0_ac.other W1010 ne_ac_al
  have c1011_10 := V0_alr.other W1010 (Ne.symm ne_al_alr)
  have c1011_11 := V0_alc.other W1010 (Ne.symm ne_al_alc)
  have Z1010 : n0 ≤ h1010.size := Nat.le_trans Z0 (Nat.le_of_eq W1010.size.symm)
  have K1010 : Keep h0 h1010 [a1, ar, ac, al, alr, alc] := K0.wr W1010 (Or.inl (List.mem_of_getElem? (i := 3) rfl))
  have N1010 := Fr.snoc X1010 N0 g_al
  obtain ⟨T1012, X1012, e1012, st1012⟩ := getF X1010 hx hZ hown (host := "") (Or.inl (hw _ (List.mem_of_getElem? (i := 31) rfl))) Via.refl e1010 c1011_4 (g := (mkF m 11 #[.val (.ref a1), .val (.int (Int32.ofNat i))] [(.ref a1)])) rfl rfl (hb hby d7_11)
  obtain ⟨T1013, X1013, e1013, st1013⟩ := getF X1012 hx hZ hown (host := "") (Or.inl (hw _ (List.mem_of_getElem? (i := 53) rfl))) Via.refl e1012 c1011_6 (g := (mkF m 15 #[.val (.ref a1), .val (.int (Int32.ofNat i))] [(.ref a1), (.ref alr)])) rfl rfl (hb hby d7_15)
  obtain ⟨T1014, X1014, e1014, st1014⟩ := getF X1013 hx hZ hown (host := "") (Or.inl (hw _ (List.mem_of_getElem? (i := 24) rfl))) Via.refl e1013 c1011_1 (g := (mkF m 19 #[.val (.ref a1), .val (.int (Int32.ofNat i))] [(.ref a1), (.int (Int32.ofNat S.2.2.2.2.2)), (.ref alr)])) rfl rfl (hb hby d7_19)
  obtain ⟨cl1015, Ar1015, q1015, S1015, M1015, H1015, G1015⟩ := id c1011_7
  have hin1015 : ¬ ((Int32.ofNat i) < 0 ∨ cl1015.slots.size ≤ ((Int32.ofNat i)).toNatClampNeg) := own_in S1015 (n := 2) (by decide) (by decide) (Nat.lt_of_le_of_lt hi (by decide))
  have hat1015 : cl1015.slots[((Int32.ofNat i)).toNatClampNeg]? = some (.double (FP.l2d (Int64.ofNat (S.1.getD i 0)))) := own_aD H1015 S1015 (n := 2) (by decide) (by decide) (Nat.lt_of_le_of_lt hi (by decide))
  obtain ⟨cl1016, Ar1016, q1016, S1016, M1016, H1016, G1016⟩ := id c1011_10
  have hin1016 : ¬ ((Int32.ofNat S.2.2.2.2.2) < 0 ∨ cl1016.slots.size ≤ ((Int32.ofNat S.2.2.2.2.2)).toNatClampNeg) := own_in S1016 (n := 8) (by decide) (by decide) hk
  obtain ⟨T1016, h1016, X1016, e1016, W1016, st1016⟩ := stD X1014 hx hZ e1014 Ar1016 (j := (Int32.ofNat S.2.2.2.2.2)) hin1016 (g := (mkF m 24 #[.val (.ref a1), .val (.int (Int32.ofNat i))] [(.double (FP.l2d (Int64.ofNat (S.1.getD i 0)))), (.int (Int32.ofNat S.2.2.2.2.2)), (.ref alr)])) rfl rfl (hb hby d7_24)
  have V1016 := own_sD rfl (Arv.set Ar1016 q1016 S1016 M1016 H1016 G1016 rfl W1016 S.2.2.2.2.2 (own_tn S.2.2.2.2.2 (Nat.lt_of_lt_of_le hk (by decide))) (by rw [own_lenD, OK1.2.2.2.1]; exact hk))
  have c1017_0 := c1011_0.wr W1016
  have c1017_1 := c1011_1.other W1016 (Or.inl ne_a1_alr)
  have c1017_2 := c1011_2.other W1016 (Or.inl ne_a1_alr)
  have c1017_3 := c1011_3.other W1016 (Or.inl ne_a1_alr)
  have c1017_4 := c1011_4.other W1016 (Or.inl ne_a1_alr)
  have c1017_5 := c1011_5.other W1016 (Or.inl ne_a1_alr)
  have c1017_6 := c1011_6.other W1016 (Or.inl ne_a1_alr)
  have c1017_7 := c1011_7.other W1016 ne_ar_alr
  have c1017_8 := c1011_8.other W1016 ne_ac_alr
  have c1017_9 := V1010.other W1016 ne_al_alr
  have c1017_11 := c1011_11.other W1016 (Ne.symm ne_alr_alc)
  have Z1016 : n0 ≤ h1016.size := Nat.le_trans Z1010 (Nat.le_of_eq W1016.size.symm)
  have K1016 : Keep h0 h1016 [a1, ar, ac, al, alr, alc] := K1010.wr W1016 (Or.inl (List.mem_of_getElem? (i := 4) rfl))
  have N1016 := Fr.snoc X1016 N1010 g_alr
  obtain ⟨T1018, X1018, e1018, st1018⟩ := getF X1016 hx hZ hown (host := "") (Or.inl (hw _ (List.mem_of_getElem? (i := 33) rfl))) Via.refl e1016 c1017_5 (g := (mkF m 26 #[.val (.ref a1), .val (.int (Int32.ofNat i))] [(.ref a1)])) rfl rfl (hb hby d7_26)
  obtain ⟨T1019, X1019, e1019, st1019⟩ := getF X1018 hx hZ hown (host := "") (Or.inl (hw _ (List.mem_of_getElem? (i := 53) rfl))) Via.refl e1018 c1017_6 (g := (mkF m 30 #[.val (.ref a1), .val (.int (Int32.ofNat i))] [(.ref a1), (.ref alc)])) rfl rfl (hb hby d7_30)
  obtain ⟨T1020, X1020, e1020, st1020⟩ := getF X1019 hx hZ hown (host := "") (Or.inl (hw _ (List.mem_of_getElem? (i := 27) rfl))) Via.refl e1019 c1017_2 (g := (mkF m 34 #[.val (.ref a1), .val (.int (Int32.ofNat i))] [(.ref a1), (.int (Int32.ofNat S.2.2.2.2.2)), (.ref alc)])) rfl rfl (hb hby d7_34)
  obtain ⟨cl1021, Ar1021, q1021, S1021, M1021, H1021, G1021⟩ := id c1017_8
  have hin1021 : ¬ ((Int32.ofNat i) < 0 ∨ cl1021.slots.size ≤ ((Int32.ofNat i)).toNatClampNeg) := own_in S1021 (n := 2) (by decide) (by decide) (Nat.lt_of_le_of_lt hi (by decide))
  have hat1021 : cl1021.slots[((Int32.ofNat i)).toNatClampNeg]? = some (.int (Int32.ofNat (S.2.1.getD i 0))) := own_aI H1021 S1021 (n := 2) (by decide) (by decide) (Nat.lt_of_le_of_lt hi (by decide))
  obtain ⟨cl1022, Ar1022, q1022, S1022, M1022, H1022, G1022⟩ := id c1017_11
  have hin1022 : ¬ ((Int32.ofNat S.2.2.2.2.2) < 0 ∨ cl1022.slots.size ≤ ((Int32.ofNat S.2.2.2.2.2)).toNatClampNeg) := own_in S1022 (n := 8) (by decide) (by decide) hk
  obtain ⟨T1022, h1022, X1022, e1022, W1022, st1022⟩ := stZ X1020 hx hZ e1020 Ar1022 (j := (Int32.ofNat S.2.2.2.2.2)) hin1022 (g := (mkF m 39 #[.val (.ref a1), .val (.int (Int32.ofNat i))] [(.int (Int32.ofNat (S.2.1.getD i 0))), (.int (Int32.ofNat S.2.2.2.2.2)), (.ref alc)])) rfl rfl (hb hby d7_39)
  have V1022 := own_sI (own_nb _ (OK1.2.2.2.2.2.2.1 i)) (Arv.set Ar1022 q1022 S1022 M1022 H1022 G1022 (fits_nar_bool _) W1022 S.2.2.2.2.2 (own_tn S.2.2.2.2.2 (Nat.lt_of_lt_of_le hk (by decide))) (by rw [own_lenI, OK1.2.2.2.2.1]; exact hk))
  have c1023_0 := c1017_0.wr W1022
  have c1023_1 := c1017_1.other W1022 (Or.inl ne_a1_alc)
  have c1023_2 := c1017_2.other W1022 (Or.inl ne_a1_alc)
  have c1023_3 := c1017_3.other W1022 (Or.inl ne_a1_alc)
  have c1023_4 := c1017_4.other W1022 (Or.inl ne_a1_alc)
  have c1023_5 := c1017_5.other W1022 (Or.inl ne_a1_alc)
  have c1023_6 := c1017_6.other W1022 (Or.inl ne_a1_alc)
  have c1023_7 := c1017_7.other W1022 ne_ar_alc
  have c1023_8 := c1017_8.other W1022 ne_ac_alc
  have c1023_9 := c1017_9.other W1022 ne_al_alc
  have c1023_10 := V1016.other W1022 ne_alr_alc
  have Z1022 : n0 ≤ h1022.size := Nat.le_trans Z1016 (Nat.le_of_eq W1022.size.symm)
  have K1022 : Keep h0 h1022 [a1, ar, ac, al, alr, alc] := K1016.wr W1022 (Or.inl (List.mem_of_getElem? (i := 5) rfl))
  have N1022 := Fr.snoc X1022 N1016 g_alc
  obtain ⟨T1024, X1024, e1024, st1024⟩ := getF X1022 hx hZ hown (host := "") (Or.inl (hw _ (List.mem_of_getElem? (i := 53) rfl))) Via.refl e1022 c1023_6 (g := (mkF m 42 #[.val (.ref a1), .val (.int (Int32.ofNat i))] [(.ref a1), (.ref a1)])) rfl rfl (hb hby d7_42)
  obtain ⟨T1025, h1025, X1025, e1025, W1025, st1025⟩ := putF X1024 hx hZ hown (host := "") (Or.inl (hw _ (List.mem_of_getElem? (i := 53) rfl))) Via.refl e1024 c1023_6 c1023_0 (Or.inl (hw _ (List.mem_of_getElem? (i := 54) rfl))) (hw _ (List.mem_of_getElem? (i := 6) rfl)) (ty := .int) (by decide) rfl rfl (g := (mkF m 47 #[.val (.ref a1), .val (.int (Int32.ofNat i))] [(.int ((Int32.ofNat S.2.2.2.2.2) + (1 : Int32))), (.ref a1)])) rfl rfl (hb hby d7_47)
  have Fw1025 := c1023_6.same W1025
  have c1026_0 := c1023_0.wr W1025
  have c1026_1 := c1023_1.other W1025 (Or.inr (slot_ne (Or.inr (hw _ (List.mem_of_getElem? (i := 25) rfl))) (Or.inl (hw _ (List.mem_of_getElem? (i := 54) rfl))) (by decide) (t := (.array .double)) (t' := .int) (by decide) (by decide)))
  have c1026_2 := c1023_2.other W1025 (Or.inr (slot_ne (Or.inr (hw _ (List.mem_of_getElem? (i := 28) rfl))) (Or.inl (hw _ (List.mem_of_getElem? (i := 54) rfl))) (by decide) (t := (.array .boolean)) (t' := .int) (by decide) (by decide)))
  have c1026_3 := c1023_3.other W1025 (Or.inr (slot_ne (Or.inr (hw _ (List.mem_of_getElem? (i := 30) rfl))) (Or.inl (hw _ (List.mem_of_getElem? (i := 54) rfl))) (by decide) (t := (.array .int)) (t' := .int) (by decide) (by decide)))
  have c1026_4 := c1023_4.other W1025 (Or.inr (slot_ne (Or.inr (hw _ (List.mem_of_getElem? (i := 32) rfl))) (Or.inl (hw _ (List.mem_of_getElem? (i := 54) rfl))) (by decide) (t := (.array .double)) (t' := .int) (by decide) (by decide)))
  have c1026_5 := c1023_5.other W1025 (Or.inr (slot_ne (Or.inr (hw _ (List.mem_of_getElem? (i := 34) rfl))) (Or.inl (hw _ (List.mem_of_getElem? (i := 54) rfl))) (by decide) (t := (.array .boolean)) (t' := .int) (by decide) (by decide)))
  have c1026_7 := c1023_7.other W1025 (Ne.symm ne_a1_ar)
  have c1026_8 := c1023_8.other W1025 (Ne.symm ne_a1_ac)
  have c1026_9 := c1023_9.other W1025 (Ne.symm ne_a1_al)
  have c1026_10 := c1023_10.other W1025 (Ne.symm ne_a1_alr)
  have c1026_11 := V1022.other W1025 (Ne.symm ne_a1_alc)
  have Z1025 : n0 ≤ h1025.size := Nat.le_trans Z1022 (Nat.le_of_eq W1025.size.symm)
  have K1025 : Keep h0 h1025 [a1, ar, ac, al, alr, alc] := K1022.wr W1025 (Or.inl (List.mem_of_getElem? (i := 0) rfl))
  have N1025 := Fr.snoc X1025 N1022 g_a1
  have Fk : Fld Z h1025 a1 "com/example/tributary/tributary/solver/Rooms" "logged" "I" (.int (Int32.ofNat (S.2.2.2.2.2 + 1))) := by have q := Fw1025; rwa [own_succ S.2.2.2.2.2 (Nat.lt_trans hk (by decide))] at q
  have P1027 : ∀ t, Steps p.tables e below (T1025.setTop (mkF m 50 #[.val (.ref a1), .val (.int (Int32.ofNat i))] [])) t → Steps p.tables e below (s₁.setTop (entryFrame m #[(.ref a1), (.int (Int32.ofNat i))] 2)) t := fun t k => P0 t (by
    refine XS.aloadN X0.here hx rfl (hb hby d7_0) rfl rfl ?_
    show Steps p.tables e below (s₁.setTop (mkF m 1 #[.val (.ref a1), .val (.int (Int32.ofNat i))] [(.ref a1)])) _
    refine st1008 _ ?_
    show Steps p.tables e below (T1008.setTop (mkF m 4 #[.val (.ref a1), .val (.int (Int32.ofNat i))] [(.ref al)])) _
    refine XS.aloadN X1008.here hx rfl (hb hby d7_4) rfl rfl ?_
    show Steps p.tables e below (T1008.setTop (mkF m 5 #[.val (.ref a1), .val (.int (Int32.ofNat i))] [(.ref a1), (.ref al)])) _
    refine st1009 _ ?_
    show Steps p.tables e below (T1009.setTop (mkF m 8 #[.val (.ref a1), .val (.int (Int32.ofNat i))] [(.int (Int32.ofNat S.2.2.2.2.2)), (.ref al)])) _
    refine XS.iloadN X1009.here hx rfl (hb hby d7_8) rfl ?_
    show Steps p.tables e below (T1009.setTop (mkF m 9 #[.val (.ref a1), .val (.int (Int32.ofNat i))] [(.int (Int32.ofNat i)), (.int (Int32.ofNat S.2.2.2.2.2)), (.ref al)])) _
    refine st1010 _ ?_
    show Steps p.tables e below (T1010.setTop (mkF m 10 #[.val (.ref a1), .val (.int (Int32.ofNat i))] [])) _
    refine XS.aloadN X1010.here hx rfl (hb hby d7_10) rfl rfl ?_
    show Steps p.tables e below (T1010.setTop (mkF m 11 #[.val (.ref a1), .val (.int (Int32.ofNat i))] [(.ref a1)])) _
    refine st1012 _ ?_
    show Steps p.tables e below (T1012.setTop (mkF m 14 #[.val (.ref a1), .val (.int (Int32.ofNat i))] [(.ref alr)])) _
    refine XS.aloadN X1012.here hx rfl (hb hby d7_14) rfl rfl ?_
    show Steps p.tables e below (T1012.setTop (mkF m 15 #[.val (.ref a1), .val (.int (Int32.ofNat i))] [(.ref a1), (.ref alr)])) _
    refine st1013 _ ?_
    show Steps p.tables e below (T1013.setTop (mkF m 18 #[.val (.ref a1), .val (.int (Int32.ofNat i))] [(.int (Int32.ofNat S.2.2.2.2.2)), (.ref alr)])) _
    refine XS.aloadN X1013.here hx rfl (hb hby d7_18) rfl rfl ?_
    show Steps p.tables e below (T1013.setTop (mkF m 19 #[.val (.ref a1), .val (.int (Int32.ofNat i))] [(.ref a1), (.int (Int32.ofNat S.2.2.2.2.2)), (.ref alr)])) _
    refine st1014 _ ?_
    show Steps p.tables e below (T1014.setTop (mkF m 22 #[.val (.ref a1), .val (.int (Int32.ofNat i))] [(.ref ar), (.int (Int32.ofNat S.2.2.2.2.2)), (.ref alr)])) _
    refine XS.iloadN X1014.here hx rfl (hb hby d7_22) rfl ?_
    show Steps p.tables e below (T1014.setTop (mkF m 23 #[.val (.ref a1), .val (.int (Int32.ofNat i))] [(.int (Int32.ofNat i)), (.ref ar), (.int (Int32.ofNat S.2.2.2.2.2)), (.ref alr)])) _
    refine X1014.daload hx (j := (Int32.ofNat i)) (v := (.double (FP.l2d (Int64.ofNat (S.1.getD i 0))))) (by rw [e1014]; exact Ar1015.1) (State.isArrayOf_alike hZ.alike Ar1015.2.1) Ar1015.2.2 hin1015 hat1015 (g := (mkF m 23 #[.val (.ref a1), .val (.int (Int32.ofNat i))] [(.int (Int32.ofNat i)), (.ref ar), (.int (Int32.ofNat S.2.2.2.2.2)), (.ref alr)])) rfl rfl (hb hby d7_23) _ ?_
    show Steps p.tables e below (T1014.setTop (mkF m 24 #[.val (.ref a1), .val (.int (Int32.ofNat i))] [(.double (FP.l2d (Int64.ofNat (S.1.getD i 0)))), (.int (Int32.ofNat S.2.2.2.2.2)), (.ref alr)])) _
    refine st1016 _ ?_
    show Steps p.tables e below (T1016.setTop (mkF m 25 #[.val (.ref a1), .val (.int (Int32.ofNat i))] [])) _
    refine XS.aloadN X1016.here hx rfl (hb hby d7_25) rfl rfl ?_
    show Steps p.tables e below (T1016.setTop (mkF m 26 #[.val (.ref a1), .val (.int (Int32.ofNat i))] [(.ref a1)])) _
    refine st1018 _ ?_
    show Steps p.tables e below (T1018.setTop (mkF m 29 #[.val (.ref a1), .val (.int (Int32.ofNat i))] [(.ref alc)])) _
    refine XS.aloadN X1018.here hx rfl (hb hby d7_29) rfl rfl ?_
    show Steps p.tables e below (T1018.setTop (mkF m 30 #[.val (.ref a1), .val (.int (Int32.ofNat i))] [(.ref a1), (.ref alc)])) _
    refine st1019 _ ?_
    show Steps p.tables e below (T1019.setTop (mkF m 33 #[.val (.ref a1), .val (.int (Int32.ofNat i))] [(.int (Int32.ofNat S.2.2.2.2.2)), (.ref alc)])) _
    refine XS.aloadN X1019.here hx rfl (hb hby d7_33) rfl rfl ?_
    show Steps p.tables e below (T1019.setTop (mkF m 34 #[.val (.ref a1), .val (.int (Int32.ofNat i))] [(.ref a1), (.int (Int32.ofNat S.2.2.2.2.2)), (.ref alc)])) _
    refine st1020 _ ?_
    show Steps p.tables e below (T1020.setTop (mkF m 37 #[.val (.ref a1), .val (.int (Int32.ofNat i))] [(.ref ac), (.int (Int32.ofNat S.2.2.2.2.2)), (.ref alc)])) _
    refine XS.iloadN X1020.here hx rfl (hb hby d7_37) rfl ?_
    show Steps p.tables e below (T1020.setTop (mkF m 38 #[.val (.ref a1), .val (.int (Int32.ofNat i))] [(.int (Int32.ofNat i)), (.ref ac), (.int (Int32.ofNat S.2.2.2.2.2)), (.ref alc)])) _
    refine X1020.baloadBooleans hx (j := (Int32.ofNat i)) (v := (.int (Int32.ofNat (S.2.1.getD i 0)))) (by rw [e1020]; exact Ar1021.1) (State.isArrayOf_alike hZ.alike Ar1021.2.1) Ar1021.2.2 hin1021 hat1021 (g := (mkF m 38 #[.val (.ref a1), .val (.int (Int32.ofNat i))] [(.int (Int32.ofNat i)), (.ref ac), (.int (Int32.ofNat S.2.2.2.2.2)), (.ref alc)])) rfl rfl (hb hby d7_38) _ ?_
    show Steps p.tables e below (T1020.setTop (mkF m 39 #[.val (.ref a1), .val (.int (Int32.ofNat i))] [(.int (Int32.ofNat (S.2.1.getD i 0))), (.int (Int32.ofNat S.2.2.2.2.2)), (.ref alc)])) _
    refine st1022 _ ?_
    show Steps p.tables e below (T1022.setTop (mkF m 40 #[.val (.ref a1), .val (.int (Int32.ofNat i))] [])) _
    refine XS.aloadN X1022.here hx rfl (hb hby d7_40) rfl rfl ?_
    show Steps p.tables e below (T1022.setTop (mkF m 41 #[.val (.ref a1), .val (.int (Int32.ofNat i))] [(.ref a1)])) _
    refine XS.dup X1022.here hx rfl (hb hby d7_41) rfl rfl ?_
    show Steps p.tables e below (T1022.setTop (mkF m 42 #[.val (.ref a1), .val (.int (Int32.ofNat i))] [(.ref a1), (.ref a1)])) _
    refine st1024 _ ?_
    show Steps p.tables e below (T1024.setTop (mkF m 45 #[.val (.ref a1), .val (.int (Int32.ofNat i))] [(.int (Int32.ofNat S.2.2.2.2.2)), (.ref a1)])) _
    refine XS.iconst X1024.here hx rfl (hb hby d7_45) ?_
    show Steps p.tables e below (T1024.setTop (mkF m 46 #[.val (.ref a1), .val (.int (Int32.ofNat i))] [(.int (1 : Int32)), (.int (Int32.ofNat S.2.2.2.2.2)), (.ref a1)])) _
    refine XS.iadd X1024.here hx rfl (hb hby d7_46) rfl ?_
    show Steps p.tables e below (T1024.setTop (mkF m 47 #[.val (.ref a1), .val (.int (Int32.ofNat i))] [(.int ((Int32.ofNat S.2.2.2.2.2) + (1 : Int32))), (.ref a1)])) _
    refine st1025 _ ?_
    show Steps p.tables e below (T1025.setTop (mkF m 50 #[.val (.ref a1), .val (.int (Int32.ofNat i))] [])) _
    exact k)
  obtain ⟨fs, hr, hrun, hended, hW, hsame⟩ := X1025.leave (v := none) (fun _ => rfl)
  refine ⟨_, _, P1027 _ ?_, hrun, hended, _, _, rfl, ?_, ⟨_, rfl⟩, hW, hsame.mono (by decide) (by decide)⟩
  · exact X1025.returnOut hx Bd.returns (hb hby d7_50) hr
  · show Q_log Z a1 ar ac al alr alc k1 k2 k3 k4 k5 S i h0 n0 _ T1025.heap _
    rw [e1025]
    exact ⟨rfl, N1025, K1025, ⟨c1026_0, c1026_1, c1026_2, c1026_3, c1026_4, c1026_5, Fk, c1026_7, c1026_8, c1026_9, c1026_10, c1026_11⟩⟩
theorem ef_mark (m : MethodId) (x0 : Addr) : entryFrame m #[(.ref x0)] 1 = mkF m 0 #[.val (.ref x0)] [] := by first | (simp [entryFrame, mkF, argsToLocals, Value.category]; done) | rfl
def Q_mark (Z : State) (a1 : Addr) (ar : Addr) (ac : Addr) (al : Addr) (alr : Addr) (alc : Addr) (k1 : ClassId) (k2 : ClassId) (k3 : ClassId) (k4 : ClassId) (k5 : ClassId) (S : own_S) (h0 : Heap) (n0 : Nat) (v : Option Value) (h : Heap) (L : List Loc) : Prop := v = some (.int (Int32.ofNat S.2.2.2.2.2)) ∧ Fr n0 L ∧ h = h0
theorem d8_0 : decode prog_52_method_5_code 0 = .ok (.aload_n 0, 1) := by decide +kernel
theorem d8_1 : decode prog_52_method_5_code 1 = .ok (.getfield 45, 3) := by decide +kernel
theorem d8_4 : decode prog_52_method_5_code 4 = .ok (.ireturn, 1) := by decide +kernel
set_option maxRecDepth 65536 in
set_option maxHeartbeats 40000000 in
theorem rm_mark (l : Launch) (Z : State) (a0 : Array Value) (hw : ∀ d ∈ tables_1, d.before a0 Z = true) (ws : List Jvm.Cond) (a1 : Addr) (ar : Addr) (ac : Addr) (al : Addr) (alr : Addr) (alc : Addr) (k1 : ClassId) (k2 : ClassId) (k3 : ClassId) (k4 : ClassId) (k5 : ClassId) (S : own_S) (h0 : Heap) (n0 : Nat) (Z0 : n0 ≤ h0.size) (B1 : own_St Z h0 a1 ar ac al alr alc k1 k2 k3 k4 k5 S) (D1 : own_D a1 ar ac al alr alc) (G1 : own_G n0 a1 ar ac al alr alc) (OK1 : own_ok S) :
    MetFree l (⟨"com/example/tributary/tributary/solver/Rooms", "mark", "()I"⟩ : MethodName) (head1 (Jvm.Cond.code (⟨"com/example/tributary/tributary/solver/Rooms", "mark", "()I"⟩ : MethodName) prog_52_method_5_code 1 (some .int) :: ws) ({ frames := 0, cells := 0, slots := 0, locals := 0 } : Room)) (fun a U => a = #[(.ref a1)] ∧ Z.Warmed39 U.vm ∧ U.heap = h0) (fun _ _ _ _ _ => True) (fun _ U o U' => ∃ v L, o = .returned v ∧ Q_mark Z a1 ar ac al alr alc k1 k2 k3 k4 k5 S h0 n0 v U'.heap L ∧ FrameEnd U o U' L ({ frames := 0, cells := 0, slots := 0, locals := 0 } : Room).cells ({ frames := 0, cells := 0, slots := 0, locals := 0 } : Room).slots) := by
  refine MetFree.of_bodySF (plainFor_of_name pn_1) hisR ?_
  intro p e s m args below meth c s₁ Bd hml0 hP hK
  obtain ⟨rfl, hZ, hh⟩ := hP
  have hx := Bd.exec
  have hby := Bd.bytes
  have hml : c.maxLocals = 1 := hml0
  have hown : s.vm.findClass "com/example/tributary/tributary/solver/Rooms" = some m.cls := findClass_of_methodNamed Bd.named
  have hnm := (name_of_methodNamed Bd.named Bd.method).1
  have X0 : Stand p l e ({ frames := 0, cells := 0, slots := 0, locals := 0 } : Room) s m #[(.ref a1)] below meth c s₁ [] 0 0 := Stand.of_body Bd
  have e0 : s₁.heap = h0 := by rw [← hh, Bd.state]; rfl
  have N0 := Fr.nil n0
  have K0 : Keep h0 h0 [] := Keep.refl h0 []
  have P0 : ∀ t, Steps p.tables e below (s₁.setTop (mkF m 0 #[.val (.ref a1)] [])) t → Steps p.tables e below (s₁.setTop (entryFrame m #[(.ref a1)] 1)) t := fun t k => castTop (ef_mark m a1) k
  obtain ⟨E0, F0_room, F0_closed, F0_loggedLink, F0_loggedRoom, F0_loggedClosed, F0_logged, V0_ar, V0_ac, V0_al, V0_alr, V0_alc⟩ := id B1
  obtain ⟨ne_a1_ar, ne_a1_ac, ne_a1_al, ne_a1_alr, ne_a1_alc, ne_ar_ac, ne_ar_al, ne_ar_alr, ne_ar_alc, ne_ac_al, ne_ac_alr, ne_ac_alc, ne_al_alr, ne_al_alc, ne_alr_alc⟩ := id D1
  obtain ⟨g_a1, g_ar, g_ac, g_al, g_alr, g_alc⟩ := id G1
  obtain ⟨T1028, X1028, e1028, st1028⟩ := getF X0 hx hZ hown (host := "") (Or.inl (hw _ (List.mem_of_getElem? (i := 53) rfl))) Via.refl e0 F0_logged (g := (mkF m 1 #[.val (.ref a1)] [(.ref a1)])) rfl rfl (hb hby d8_1)
  have P1029 : ∀ t, Steps p.tables e below (T1028.setTop (mkF m 4 #[.val (.ref a1)] [(.int (Int32.ofNat S.2.2.2.2.2))])) t → Steps p.tables e below (s₁.setTop (entryFrame m #[(.ref a1)] 1)) t := fun t k => P0 t (by
    refine XS.aloadN X0.here hx rfl (hb hby d8_0) rfl rfl ?_
    show Steps p.tables e below (s₁.setTop (mkF m 1 #[.val (.ref a1)] [(.ref a1)])) _
    refine st1028 _ ?_
    show Steps p.tables e below (T1028.setTop (mkF m 4 #[.val (.ref a1)] [(.int (Int32.ofNat S.2.2.2.2.2))])) _
    exact k)
  obtain ⟨fs, hr, hrun, hended, hW, hsame⟩ := X1028.leave (v := some (.int (Int32.ofNat S.2.2.2.2.2))) (fun h => by rw [Bd.returns] at h; cases h)
  refine ⟨_, _, P1029 _ ?_, hrun, hended, _, _, rfl, ?_, ⟨_, rfl⟩, hW, hsame.mono (by decide) (by decide)⟩
  · exact retI X1028 hx Bd.returns (hb hby d8_4) hr
  · show Q_mark Z a1 ar ac al alr alc k1 k2 k3 k4 k5 S h0 n0 _ T1028.heap _
    rw [e1028]
    exact ⟨rfl, N0, rfl⟩
theorem ef_open1 (m : MethodId) (x0 : Addr) (x1 : Addr) : entryFrame m #[(.ref x0), (.ref x1)] 6 = mkF m 0 #[.val (.ref x0), .val (.ref x1), .unset, .unset, .unset, .unset] [] := by first | (simp [entryFrame, mkF, argsToLocals, Value.category]; done) | rfl
def Q_open1 (Z : State) (a1 : Addr) (ar : Addr) (ac : Addr) (al : Addr) (alr : Addr) (alc : Addr) (k1 : ClassId) (k2 : ClassId) (k3 : ClassId) (k4 : ClassId) (k5 : ClassId) (S : own_S) (tr : Addr) (kt : ClassId) (x : Nat) (h0 : Heap) (n0 : Nat) (v : Option Value) (h : Heap) (L : List Loc) : Prop := ∃ q : Int32, v = some (.int q) ∧ Fr n0 L ∧ h = h0 ∧ (S.2.1.getD x 0 = 0 → q = 1) ∧ (¬ S.2.1.getD x 0 = 0 → q = 0)
theorem d9_0 : decode prog_52_method_2_code 0 = .ok (.aload_n 1, 1) := by decide +kernel
theorem d9_1 : decode prog_52_method_2_code 1 = .ok (.astore_n 2, 1) := by decide +kernel
theorem d9_2 : decode prog_52_method_2_code 2 = .ok (.aload_n 2, 1) := by decide +kernel
theorem d9_3 : decode prog_52_method_2_code 3 = .ok (.arraylength, 1) := by decide +kernel
theorem d9_4 : decode prog_52_method_2_code 4 = .ok (.istore_n 3, 1) := by decide +kernel
theorem d9_5 : decode prog_52_method_2_code 5 = .ok (.iconst 0, 1) := by decide +kernel
theorem d9_6 : decode prog_52_method_2_code 6 = .ok (.istore 4, 2) := by decide +kernel
theorem d9_8 : decode prog_52_method_2_code 8 = .ok (.iload 4, 2) := by decide +kernel
theorem d9_10 : decode prog_52_method_2_code 10 = .ok (.iload_n 3, 1) := by decide +kernel
theorem d9_11 : decode prog_52_method_2_code 11 = .ok (.if_icmp .ge 27, 3) := by decide +kernel
theorem d9_14 : decode prog_52_method_2_code 14 = .ok (.aload_n 2, 1) := by decide +kernel
theorem d9_15 : decode prog_52_method_2_code 15 = .ok (.iload 4, 2) := by decide +kernel
theorem d9_17 : decode prog_52_method_2_code 17 = .ok (.iaload, 1) := by decide +kernel
theorem d9_18 : decode prog_52_method_2_code 18 = .ok (.istore 5, 2) := by decide +kernel
theorem d9_20 : decode prog_52_method_2_code 20 = .ok (.aload_n 0, 1) := by decide +kernel
theorem d9_21 : decode prog_52_method_2_code 21 = .ok (.getfield 18, 3) := by decide +kernel
theorem d9_24 : decode prog_52_method_2_code 24 = .ok (.iload 5, 2) := by decide +kernel
theorem d9_26 : decode prog_52_method_2_code 26 = .ok (.baload, 1) := by decide +kernel
theorem d9_27 : decode prog_52_method_2_code 27 = .ok (.ifCond .eq 5, 3) := by decide +kernel
theorem d9_32 : decode prog_52_method_2_code 32 = .ok (.iinc 4 1, 3) := by decide +kernel
theorem d9_35 : decode prog_52_method_2_code 35 = .ok (.goto (-27), 3) := by decide +kernel
theorem d9_38 : decode prog_52_method_2_code 38 = .ok (.iconst 1, 1) := by decide +kernel
theorem d9_39 : decode prog_52_method_2_code 39 = .ok (.ireturn, 1) := by decide +kernel
theorem d9_30 : decode prog_52_method_2_code 30 = .ok (.iconst 0, 1) := by decide +kernel
theorem d9_31 : decode prog_52_method_2_code 31 = .ok (.ireturn, 1) := by decide +kernel
set_option maxRecDepth 65536 in
set_option maxHeartbeats 40000000 in
theorem rm_open1 (l : Launch) (Z : State) (a0 : Array Value) (hw : ∀ d ∈ tables_1, d.before a0 Z = true) (ws : List Jvm.Cond) (a1 : Addr) (ar : Addr) (ac : Addr) (al : Addr) (alr : Addr) (alc : Addr) (k1 : ClassId) (k2 : ClassId) (k3 : ClassId) (k4 : ClassId) (k5 : ClassId) (S : own_S) (tr : Addr) (kt : ClassId) (x : Nat) (h0 : Heap) (n0 : Nat) (Z0 : n0 ≤ h0.size) (B1 : own_St Z h0 a1 ar ac al alr alc k1 k2 k3 k4 k5 S) (D1 : own_D a1 ar ac al alr alc) (G1 : own_G n0 a1 ar ac al alr alc) (OK1 : own_ok S) (VT : Arv Z h0 tr kt .int (1 : Int32) [(.int (Int32.ofNat x))] (.int (0 : Int32))) (DT : tr ≠ a1 ∧ tr ≠ ar ∧ tr ≠ ac ∧ tr ≠ al ∧ tr ≠ alr ∧ tr ≠ alc) (hx1 : x ≤ 1) :
    MetFree l (⟨"com/example/tributary/tributary/solver/Rooms", "open", "([I)Z"⟩ : MethodName) (head1 (Jvm.Cond.code (⟨"com/example/tributary/tributary/solver/Rooms", "open", "([I)Z"⟩ : MethodName) prog_52_method_2_code 6 (some .boolean) :: ws) ({ frames := 0, cells := 0, slots := 0, locals := 0 } : Room)) (fun a U => a = #[(.ref a1), (.ref tr)] ∧ Z.Warmed39 U.vm ∧ U.heap = h0) (fun _ _ _ _ _ => True) (fun _ U o U' => ∃ v L, o = .returned v ∧ Q_open1 Z a1 ar ac al alr alc k1 k2 k3 k4 k5 S tr kt x h0 n0 v U'.heap L ∧ FrameEnd U o U' L ({ frames := 0, cells := 0, slots := 0, locals := 0 } : Room).cells ({ frames := 0, cells := 0, slots := 0, locals := 0 } : Room).slots) := by
  refine MetFree.of_bodySF (plainFor_of_name pn_1) hisR ?_
  intro p e s m args below meth c s₁ Bd hml0 hP hK
  obtain ⟨rfl, hZ, hh⟩ := hP
  have hx := Bd.exec
  have hby := Bd.bytes
  have hml : c.maxLocals = 6 := hml0
  have hown : s.vm.findClass "com/example/tributary/tributary/solver/Rooms" = some m.cls := findClass_of_methodNamed Bd.named
  have hnm := (name_of_methodNamed Bd.named Bd.method).1
  have X0 : Stand p l e ({ frames := 0, cells := 0, slots := 0, locals := 0 } : Room) s m #[(.ref a1), (.ref tr)] below meth c s₁ [] 0 0 := Stand.of_body Bd
  have e0 : s₁.heap = h0 := by rw [← hh, Bd.state]; rfl
  have N0 := Fr.nil n0
  have K0 : Keep h0 h0 [] := Keep.refl h0 []
  have P0 : ∀ t, Steps p.tables e below (s₁.setTop (mkF m 0 #[.val (.ref a1), .val (.ref tr), .unset, .unset, .unset, .unset] [])) t → Steps p.tables e below (s₁.setTop (entryFrame m #[(.ref a1), (.ref tr)] 6)) t := fun t k => castTop (ef_open1 m a1 tr) k
  obtain ⟨E0, F0_room, F0_closed, F0_loggedLink, F0_loggedRoom, F0_loggedClosed, F0_logged, V0_ar, V0_ac, V0_al, V0_alr, V0_alc⟩ := id B1
  obtain ⟨ne_a1_ar, ne_a1_ac, ne_a1_al, ne_a1_alr, ne_a1_alc, ne_ar_ac, ne_ar_al, ne_ar_alr, ne_ar_alc, ne_ac_al, ne_ac_alr, ne_ac_alc, ne_al_alr, ne_al_alc, ne_alr_alc⟩ := id D1
  obtain ⟨g_a1, g_ar, g_ac, g_al, g_alr, g_alc⟩ := id G1
  obtain ⟨ne_tr_a1, ne_tr_ar, ne_tr_ac, ne_tr_al, ne_tr_alr, ne_tr_alc⟩ := id DT
  obtain ⟨cl1030, Ar1030, q1030, S1030, M1030, -, -⟩ := id VT
  obtain ⟨cl1031, Ar1031, q1031, S1031, M1031, H1031, G1031⟩ := id VT
  have hin1031 : ¬ ((0 : Int32) < 0 ∨ cl1031.slots.size ≤ ((0 : Int32)).toNatClampNeg) := inb_of S1031 ⟨by decide, by decide⟩
  have hat1031 : cl1031.slots[((0 : Int32)).toNatClampNeg]? = some (.int (Int32.ofNat x)) := Has.at H1031 hin1031 rfl
  obtain ⟨T1032, X1032, e1032, st1032⟩ := getF X0 hx hZ hown (host := "") (Or.inl (hw _ (List.mem_of_getElem? (i := 27) rfl))) Via.refl e0 F0_closed (g := (mkF m 21 #[.val (.ref a1), .val (.ref tr), .val (.ref tr), .val (.int (1 : Int32)), .val (.int (0 : Int32)), .val (.int (Int32.ofNat x))] [(.ref a1)])) rfl rfl (hb hby d9_21)
  obtain ⟨cl1033, Ar1033, q1033, S1033, M1033, H1033, G1033⟩ := id V0_ac
  have hin1033 : ¬ ((Int32.ofNat x) < 0 ∨ cl1033.slots.size ≤ ((Int32.ofNat x)).toNatClampNeg) := own_in S1033 (n := 2) (by decide) (by decide) (Nat.lt_of_le_of_lt hx1 (by decide))
  have hat1033 : cl1033.slots[((Int32.ofNat x)).toNatClampNeg]? = some (.int (Int32.ofNat (S.2.1.getD x 0))) := own_aI H1033 S1033 (n := 2) (by decide) (by decide) (Nat.lt_of_le_of_lt hx1 (by decide))
  have P1034 : ∀ t, Steps p.tables e below (T1032.setTop (mkF m 27 #[.val (.ref a1), .val (.ref tr), .val (.ref tr), .val (.int (1 : Int32)), .val (.int (0 : Int32)), .val (.int (Int32.ofNat x))] [(.int (Int32.ofNat (S.2.1.getD x 0)))])) t → Steps p.tables e below (s₁.setTop (entryFrame m #[(.ref a1), (.ref tr)] 6)) t := fun t k => P0 t (by
    refine XS.aloadN X0.here hx rfl (hb hby d9_0) rfl rfl ?_
    show Steps p.tables e below (s₁.setTop (mkF m 1 #[.val (.ref a1), .val (.ref tr), .unset, .unset, .unset, .unset] [(.ref tr)])) _
    refine XS.astoreN X0.here hx rfl (hb hby d9_1) rfl rfl (l' := #[.val (.ref a1), .val (.ref tr), .val (.ref tr), .unset, .unset, .unset]) rfl ?_
    show Steps p.tables e below (s₁.setTop (mkF m 2 #[.val (.ref a1), .val (.ref tr), .val (.ref tr), .unset, .unset, .unset] [])) _
    refine XS.aloadN X0.here hx rfl (hb hby d9_2) rfl rfl ?_
    show Steps p.tables e below (s₁.setTop (mkF m 3 #[.val (.ref a1), .val (.ref tr), .val (.ref tr), .unset, .unset, .unset] [(.ref tr)])) _
    refine X0.arraylength hx (by rw [e0]; exact Ar1030.1) (State.isArrayOf_alike hZ.alike Ar1030.2.1) (g := (mkF m 3 #[.val (.ref a1), .val (.ref tr), .val (.ref tr), .unset, .unset, .unset] [(.ref tr)])) rfl rfl (hb hby d9_3) _ ?_
    rw [len_of S1030 M1030]
    show Steps p.tables e below (s₁.setTop (mkF m 4 #[.val (.ref a1), .val (.ref tr), .val (.ref tr), .unset, .unset, .unset] [(.int (1 : Int32))])) _
    refine XS.istoreN X0.here hx rfl (hb hby d9_4) rfl (l' := #[.val (.ref a1), .val (.ref tr), .val (.ref tr), .val (.int (1 : Int32)), .unset, .unset]) rfl ?_
    show Steps p.tables e below (s₁.setTop (mkF m 5 #[.val (.ref a1), .val (.ref tr), .val (.ref tr), .val (.int (1 : Int32)), .unset, .unset] [])) _
    refine XS.iconst X0.here hx rfl (hb hby d9_5) ?_
    show Steps p.tables e below (s₁.setTop (mkF m 6 #[.val (.ref a1), .val (.ref tr), .val (.ref tr), .val (.int (1 : Int32)), .unset, .unset] [(.int (0 : Int32))])) _
    refine XS.istore X0.here hx rfl (hb hby d9_6) rfl (l' := #[.val (.ref a1), .val (.ref tr), .val (.ref tr), .val (.int (1 : Int32)), .val (.int (0 : Int32)), .unset]) rfl ?_
    show Steps p.tables e below (s₁.setTop (mkF m 8 #[.val (.ref a1), .val (.ref tr), .val (.ref tr), .val (.int (1 : Int32)), .val (.int (0 : Int32)), .unset] [])) _
    refine XS.iload X0.here hx rfl (hb hby d9_8) rfl ?_
    show Steps p.tables e below (s₁.setTop (mkF m 10 #[.val (.ref a1), .val (.ref tr), .val (.ref tr), .val (.int (1 : Int32)), .val (.int (0 : Int32)), .unset] [(.int (0 : Int32))])) _
    refine XS.iloadN X0.here hx rfl (hb hby d9_10) rfl ?_
    show Steps p.tables e below (s₁.setTop (mkF m 11 #[.val (.ref a1), .val (.ref tr), .val (.ref tr), .val (.int (1 : Int32)), .val (.int (0 : Int32)), .unset] [(.int (1 : Int32)), (.int (0 : Int32))])) _
    refine XS.icmpNo X0.here hx rfl (hb hby d9_11) rfl (tlt (by decide)).2.1 ?_
    show Steps p.tables e below (s₁.setTop (mkF m 14 #[.val (.ref a1), .val (.ref tr), .val (.ref tr), .val (.int (1 : Int32)), .val (.int (0 : Int32)), .unset] [])) _
    refine XS.aloadN X0.here hx rfl (hb hby d9_14) rfl rfl ?_
    show Steps p.tables e below (s₁.setTop (mkF m 15 #[.val (.ref a1), .val (.ref tr), .val (.ref tr), .val (.int (1 : Int32)), .val (.int (0 : Int32)), .unset] [(.ref tr)])) _
    refine XS.iload X0.here hx rfl (hb hby d9_15) rfl ?_
    show Steps p.tables e below (s₁.setTop (mkF m 17 #[.val (.ref a1), .val (.ref tr), .val (.ref tr), .val (.int (1 : Int32)), .val (.int (0 : Int32)), .unset] [(.int (0 : Int32)), (.ref tr)])) _
    refine X0.iaload hx (j := (0 : Int32)) (v := (.int (Int32.ofNat x))) (by rw [e0]; exact Ar1031.1) (State.isArrayOf_alike hZ.alike Ar1031.2.1) Ar1031.2.2 hin1031 hat1031 (g := (mkF m 17 #[.val (.ref a1), .val (.ref tr), .val (.ref tr), .val (.int (1 : Int32)), .val (.int (0 : Int32)), .unset] [(.int (0 : Int32)), (.ref tr)])) rfl rfl (hb hby d9_17) _ ?_
    show Steps p.tables e below (s₁.setTop (mkF m 18 #[.val (.ref a1), .val (.ref tr), .val (.ref tr), .val (.int (1 : Int32)), .val (.int (0 : Int32)), .unset] [(.int (Int32.ofNat x))])) _
    refine XS.istore X0.here hx rfl (hb hby d9_18) rfl (l' := #[.val (.ref a1), .val (.ref tr), .val (.ref tr), .val (.int (1 : Int32)), .val (.int (0 : Int32)), .val (.int (Int32.ofNat x))]) rfl ?_
    show Steps p.tables e below (s₁.setTop (mkF m 20 #[.val (.ref a1), .val (.ref tr), .val (.ref tr), .val (.int (1 : Int32)), .val (.int (0 : Int32)), .val (.int (Int32.ofNat x))] [])) _
    refine XS.aloadN X0.here hx rfl (hb hby d9_20) rfl rfl ?_
    show Steps p.tables e below (s₁.setTop (mkF m 21 #[.val (.ref a1), .val (.ref tr), .val (.ref tr), .val (.int (1 : Int32)), .val (.int (0 : Int32)), .val (.int (Int32.ofNat x))] [(.ref a1)])) _
    refine st1032 _ ?_
    show Steps p.tables e below (T1032.setTop (mkF m 24 #[.val (.ref a1), .val (.ref tr), .val (.ref tr), .val (.int (1 : Int32)), .val (.int (0 : Int32)), .val (.int (Int32.ofNat x))] [(.ref ac)])) _
    refine XS.iload X1032.here hx rfl (hb hby d9_24) rfl ?_
    show Steps p.tables e below (T1032.setTop (mkF m 26 #[.val (.ref a1), .val (.ref tr), .val (.ref tr), .val (.int (1 : Int32)), .val (.int (0 : Int32)), .val (.int (Int32.ofNat x))] [(.int (Int32.ofNat x)), (.ref ac)])) _
    refine X1032.baloadBooleans hx (j := (Int32.ofNat x)) (v := (.int (Int32.ofNat (S.2.1.getD x 0)))) (by rw [e1032]; exact Ar1033.1) (State.isArrayOf_alike hZ.alike Ar1033.2.1) Ar1033.2.2 hin1033 hat1033 (g := (mkF m 26 #[.val (.ref a1), .val (.ref tr), .val (.ref tr), .val (.int (1 : Int32)), .val (.int (0 : Int32)), .val (.int (Int32.ofNat x))] [(.int (Int32.ofNat x)), (.ref ac)])) rfl rfl (hb hby d9_26) _ ?_
    show Steps p.tables e below (T1032.setTop (mkF m 27 #[.val (.ref a1), .val (.ref tr), .val (.ref tr), .val (.int (1 : Int32)), .val (.int (0 : Int32)), .val (.int (Int32.ofNat x))] [(.int (Int32.ofNat (S.2.1.getD x 0)))])) _
    exact k)
  by_cases hq0 : (Int32.ofNat (S.2.1.getD x 0)) = (0 : Int32)
  · have P1035 : ∀ t, Steps p.tables e below (T1032.setTop (mkF m 39 #[.val (.ref a1), .val (.ref tr), .val (.ref tr), .val (.int (1 : Int32)), .val (.int (1 : Int32)), .val (.int (Int32.ofNat x))] [(.int (1 : Int32))])) t → Steps p.tables e below (s₁.setTop (entryFrame m #[(.ref a1), (.ref tr)] 6)) t := fun t k => P1034 t (by
      refine XS.ifYes X1032.here hx rfl (pc0 := 27) (pc' := 32) rfl (hb hby d9_27) rfl ((if0 _ _).trans (teq hq0).1) (by decide) (by decide) ?_
      show Steps p.tables e below (T1032.setTop (mkF m 32 #[.val (.ref a1), .val (.ref tr), .val (.ref tr), .val (.int (1 : Int32)), .val (.int (0 : Int32)), .val (.int (Int32.ofNat x))] [])) _
      refine XS.iinc X1032.here hx rfl (hb hby d9_32) rfl (l' := #[.val (.ref a1), .val (.ref tr), .val (.ref tr), .val (.int (1 : Int32)), .val (.int (1 : Int32)), .val (.int (Int32.ofNat x))]) rfl ?_
      show Steps p.tables e below (T1032.setTop (mkF m 35 #[.val (.ref a1), .val (.ref tr), .val (.ref tr), .val (.int (1 : Int32)), .val (.int (1 : Int32)), .val (.int (Int32.ofNat x))] [])) _
      refine XS.goto X1032.here hx rfl (pc0 := 35) (pc' := 8) rfl (hb hby d9_35) (by decide) (by decide) ?_
      show Steps p.tables e below (T1032.setTop (mkF m 8 #[.val (.ref a1), .val (.ref tr), .val (.ref tr), .val (.int (1 : Int32)), .val (.int (1 : Int32)), .val (.int (Int32.ofNat x))] [])) _
      refine XS.iload X1032.here hx rfl (hb hby d9_8) rfl ?_
      show Steps p.tables e below (T1032.setTop (mkF m 10 #[.val (.ref a1), .val (.ref tr), .val (.ref tr), .val (.int (1 : Int32)), .val (.int (1 : Int32)), .val (.int (Int32.ofNat x))] [(.int (1 : Int32))])) _
      refine XS.iloadN X1032.here hx rfl (hb hby d9_10) rfl ?_
      show Steps p.tables e below (T1032.setTop (mkF m 11 #[.val (.ref a1), .val (.ref tr), .val (.ref tr), .val (.int (1 : Int32)), .val (.int (1 : Int32)), .val (.int (Int32.ofNat x))] [(.int (1 : Int32)), (.int (1 : Int32))])) _
      refine XS.icmpYes X1032.here hx rfl (pc0 := 11) (pc' := 38) rfl (hb hby d9_11) rfl (flt (by decide)).2.1 (by decide) (by decide) ?_
      show Steps p.tables e below (T1032.setTop (mkF m 38 #[.val (.ref a1), .val (.ref tr), .val (.ref tr), .val (.int (1 : Int32)), .val (.int (1 : Int32)), .val (.int (Int32.ofNat x))] [])) _
      refine XS.iconst X1032.here hx rfl (hb hby d9_38) ?_
      show Steps p.tables e below (T1032.setTop (mkF m 39 #[.val (.ref a1), .val (.ref tr), .val (.ref tr), .val (.int (1 : Int32)), .val (.int (1 : Int32)), .val (.int (Int32.ofNat x))] [(.int (1 : Int32))])) _
      exact k)
    obtain ⟨fs, hr, hrun, hended, hW, hsame⟩ := X1032.leave (v := some (.int (1 : Int32))) (fun h => by rw [Bd.returns] at h; cases h)
    refine ⟨_, _, P1035 _ ?_, hrun, hended, _, _, rfl, ?_, ⟨_, rfl⟩, hW, hsame.mono (by decide) (by decide)⟩
    · exact retN X1032 hx (t := .boolean) Bd.returns (by simp) (hb hby d9_39) hr
    · show Q_open1 Z a1 ar ac al alr alc k1 k2 k3 k4 k5 S tr kt x h0 n0 _ T1032.heap _
      rw [e1032]
      exact ⟨1, rfl, N0, rfl, fun _ => rfl, fun z => absurd (own_inj _ (Nat.lt_of_le_of_lt (OK1.2.2.2.2.2.2.1 x) (by decide)) 0 (by decide) hq0) z⟩
  · have P1036 : ∀ t, Steps p.tables e below (T1032.setTop (mkF m 31 #[.val (.ref a1), .val (.ref tr), .val (.ref tr), .val (.int (1 : Int32)), .val (.int (0 : Int32)), .val (.int (Int32.ofNat x))] [(.int (0 : Int32))])) t → Steps p.tables e below (s₁.setTop (entryFrame m #[(.ref a1), (.ref tr)] 6)) t := fun t k => P1034 t (by
      refine XS.ifNo X1032.here hx rfl (hb hby d9_27) rfl ((if0 _ _).trans (feq hq0).1) ?_
      show Steps p.tables e below (T1032.setTop (mkF m 30 #[.val (.ref a1), .val (.ref tr), .val (.ref tr), .val (.int (1 : Int32)), .val (.int (0 : Int32)), .val (.int (Int32.ofNat x))] [])) _
      refine XS.iconst X1032.here hx rfl (hb hby d9_30) ?_
      show Steps p.tables e below (T1032.setTop (mkF m 31 #[.val (.ref a1), .val (.ref tr), .val (.ref tr), .val (.int (1 : Int32)), .val (.int (0 : Int32)), .val (.int (Int32.ofNat x))] [(.int (0 : Int32))])) _
      exact k)
    obtain ⟨fs, hr, hrun, hended, hW, hsame⟩ := X1032.leave (v := some (.int (0 : Int32))) (fun h => by rw [Bd.returns] at h; cases h)
    refine ⟨_, _, P1036 _ ?_, hrun, hended, _, _, rfl, ?_, ⟨_, rfl⟩, hW, hsame.mono (by decide) (by decide)⟩
    · exact retN X1032 hx (t := .boolean) Bd.returns (by simp) (hb hby d9_31) hr
    · show Q_open1 Z a1 ar ac al alr alc k1 k2 k3 k4 k5 S tr kt x h0 n0 _ T1032.heap _
      rw [e1032]
      exact ⟨0, rfl, N0, rfl, fun z => absurd (congrArg Int32.ofNat z) hq0, fun _ => rfl⟩
theorem ef_try1 (m : MethodId) (x0 : Addr) (x1 : Addr) (x2 : UInt64) : entryFrame m #[(.ref x0), (.ref x1), (.double x2)] 9 = mkF m 0 #[.val (.ref x0), .val (.ref x1), .val (.double x2), .second, .unset, .unset, .unset, .unset, .unset] [] := by first | (simp [entryFrame, mkF, argsToLocals, Value.category]; done) | rfl
def Q_try1 (Z : State) (a1 : Addr) (ar : Addr) (ac : Addr) (al : Addr) (alr : Addr) (alc : Addr) (k1 : ClassId) (k2 : ClassId) (k3 : ClassId) (k4 : ClassId) (k5 : ClassId) (S : own_S) (tr : Addr) (kt : ClassId) (x : Nat) (z : Nat) (h0 : Heap) (n0 : Nat) (v : Option Value) (h : Heap) (L : List Loc) : Prop := v = some (.int (own_fv z (S.1.getD x 0))) ∧ Fr n0 L ∧ Keep h0 h [a1, ar, ac, al, alr, alc] ∧ own_St Z h a1 ar ac al alr alc k1 k2 k3 k4 k5 (own_step z S x)
theorem d4_0 : decode prog_52_method_3_code 0 = .ok (.iconst 1, 1) := by decide +kernel
theorem d4_1 : decode prog_52_method_3_code 1 = .ok (.istore 4, 2) := by decide +kernel
theorem d4_3 : decode prog_52_method_3_code 3 = .ok (.aload_n 1, 1) := by decide +kernel
theorem d4_4 : decode prog_52_method_3_code 4 = .ok (.astore 5, 2) := by decide +kernel
theorem d4_6 : decode prog_52_method_3_code 6 = .ok (.aload 5, 2) := by decide +kernel
theorem d4_8 : decode prog_52_method_3_code 8 = .ok (.arraylength, 1) := by decide +kernel
theorem d4_9 : decode prog_52_method_3_code 9 = .ok (.istore 6, 2) := by decide +kernel
theorem d4_11 : decode prog_52_method_3_code 11 = .ok (.iconst 0, 1) := by decide +kernel
theorem d4_12 : decode prog_52_method_3_code 12 = .ok (.istore 7, 2) := by decide +kernel
theorem d4_14 : decode prog_52_method_3_code 14 = .ok (.iload 7, 2) := by decide +kernel
theorem d4_16 : decode prog_52_method_3_code 16 = .ok (.iload 6, 2) := by decide +kernel
theorem d4_18 : decode prog_52_method_3_code 18 = .ok (.if_icmp .ge 28, 3) := by decide +kernel
theorem d4_21 : decode prog_52_method_3_code 21 = .ok (.aload 5, 2) := by decide +kernel
theorem d4_23 : decode prog_52_method_3_code 23 = .ok (.iload 7, 2) := by decide +kernel
theorem d4_25 : decode prog_52_method_3_code 25 = .ok (.iaload, 1) := by decide +kernel
theorem d4_26 : decode prog_52_method_3_code 26 = .ok (.istore 8, 2) := by decide +kernel
theorem d4_28 : decode prog_52_method_3_code 28 = .ok (.iload 4, 2) := by decide +kernel
theorem d4_30 : decode prog_52_method_3_code 30 = .ok (.aload_n 0, 1) := by decide +kernel
theorem d4_31 : decode prog_52_method_3_code 31 = .ok (.iload 8, 2) := by decide +kernel
theorem d4_33 : decode prog_52_method_3_code 33 = .ok (.dload_n 2, 1) := by decide +kernel
theorem d4_34 : decode prog_52_method_3_code 34 = .ok (.invokevirtual 32, 3) := by decide +kernel
theorem pd_1 : parseMethodDescriptor "(ID)Z" = some ⟨[.int, .double], some .boolean⟩ := by decide +kernel
theorem d4_37 : decode prog_52_method_3_code 37 = .ok (.iand, 1) := by decide +kernel
theorem d4_38 : decode prog_52_method_3_code 38 = .ok (.istore 4, 2) := by decide +kernel
theorem d4_40 : decode prog_52_method_3_code 40 = .ok (.iinc 7 1, 3) := by decide +kernel
theorem d4_43 : decode prog_52_method_3_code 43 = .ok (.goto (-29), 3) := by decide +kernel
theorem d4_46 : decode prog_52_method_3_code 46 = .ok (.aload_n 1, 1) := by decide +kernel
theorem d4_47 : decode prog_52_method_3_code 47 = .ok (.astore 5, 2) := by decide +kernel
theorem d4_49 : decode prog_52_method_3_code 49 = .ok (.aload 5, 2) := by decide +kernel
theorem d4_51 : decode prog_52_method_3_code 51 = .ok (.arraylength, 1) := by decide +kernel
theorem d4_52 : decode prog_52_method_3_code 52 = .ok (.istore 6, 2) := by decide +kernel
theorem d4_54 : decode prog_52_method_3_code 54 = .ok (.iconst 0, 1) := by decide +kernel
theorem d4_55 : decode prog_52_method_3_code 55 = .ok (.istore 7, 2) := by decide +kernel
theorem d4_57 : decode prog_52_method_3_code 57 = .ok (.iload 7, 2) := by decide +kernel
theorem d4_59 : decode prog_52_method_3_code 59 = .ok (.iload 6, 2) := by decide +kernel
theorem d4_61 : decode prog_52_method_3_code 61 = .ok (.if_icmp .ge 54, 3) := by decide +kernel
theorem d4_64 : decode prog_52_method_3_code 64 = .ok (.aload 5, 2) := by decide +kernel
theorem d4_66 : decode prog_52_method_3_code 66 = .ok (.iload 7, 2) := by decide +kernel
theorem d4_68 : decode prog_52_method_3_code 68 = .ok (.iaload, 1) := by decide +kernel
theorem d4_69 : decode prog_52_method_3_code 69 = .ok (.istore 8, 2) := by decide +kernel
theorem d4_71 : decode prog_52_method_3_code 71 = .ok (.aload_n 0, 1) := by decide +kernel
theorem d4_72 : decode prog_52_method_3_code 72 = .ok (.iload 8, 2) := by decide +kernel
theorem d4_74 : decode prog_52_method_3_code 74 = .ok (.invokevirtual 36, 3) := by decide +kernel
theorem pd_2 : parseMethodDescriptor "(I)V" = some ⟨[.int], none⟩ := by decide +kernel
theorem d4_77 : decode prog_52_method_3_code 77 = .ok (.aload_n 0, 1) := by decide +kernel
theorem d4_78 : decode prog_52_method_3_code 78 = .ok (.iload 8, 2) := by decide +kernel
theorem d4_80 : decode prog_52_method_3_code 80 = .ok (.dload_n 2, 1) := by decide +kernel
theorem d4_81 : decode prog_52_method_3_code 81 = .ok (.invokevirtual 32, 3) := by decide +kernel
theorem d4_84 : decode prog_52_method_3_code 84 = .ok (.ifCond .eq 17, 3) := by decide +kernel
theorem d4_101 : decode prog_52_method_3_code 101 = .ok (.aload_n 0, 1) := by decide +kernel
theorem d4_102 : decode prog_52_method_3_code 102 = .ok (.getfield 18, 3) := by decide +kernel
theorem d4_105 : decode prog_52_method_3_code 105 = .ok (.iload 8, 2) := by decide +kernel
theorem d4_107 : decode prog_52_method_3_code 107 = .ok (.iconst 1, 1) := by decide +kernel
theorem d4_108 : decode prog_52_method_3_code 108 = .ok (.bastore, 1) := by decide +kernel
theorem d4_109 : decode prog_52_method_3_code 109 = .ok (.iinc 7 1, 3) := by decide +kernel
theorem d4_112 : decode prog_52_method_3_code 112 = .ok (.goto (-55), 3) := by decide +kernel
theorem d4_115 : decode prog_52_method_3_code 115 = .ok (.iload 4, 2) := by decide +kernel
theorem d4_117 : decode prog_52_method_3_code 117 = .ok (.ireturn, 1) := by decide +kernel
theorem d4_87 : decode prog_52_method_3_code 87 = .ok (.aload_n 0, 1) := by decide +kernel
theorem d4_88 : decode prog_52_method_3_code 88 = .ok (.getfield 13, 3) := by decide +kernel
theorem d4_91 : decode prog_52_method_3_code 91 = .ok (.iload 8, 2) := by decide +kernel
theorem d4_93 : decode prog_52_method_3_code 93 = .ok (.dup2, 1) := by decide +kernel
theorem d4_94 : decode prog_52_method_3_code 94 = .ok (.daload, 1) := by decide +kernel
theorem d4_95 : decode prog_52_method_3_code 95 = .ok (.dload_n 2, 1) := by decide +kernel
theorem d4_96 : decode prog_52_method_3_code 96 = .ok (.dsub, 1) := by decide +kernel
theorem d4_97 : decode prog_52_method_3_code 97 = .ok (.dastore, 1) := by decide +kernel
theorem d4_98 : decode prog_52_method_3_code 98 = .ok (.goto 11, 3) := by decide +kernel
set_option maxRecDepth 65536 in
set_option maxHeartbeats 40000000 in
theorem rm_try1 (l : Launch) (Z : State) (a0 : Array Value) (hw : ∀ d ∈ tables_1, d.before a0 Z = true) (ws : List Jvm.Cond) (a1 : Addr) (ar : Addr) (ac : Addr) (al : Addr) (alr : Addr) (alc : Addr) (k1 : ClassId) (k2 : ClassId) (k3 : ClassId) (k4 : ClassId) (k5 : ClassId) (S : own_S) (tr : Addr) (kt : ClassId) (x : Nat) (z : Nat) (h0 : Heap) (n0 : Nat) (Z0 : n0 ≤ h0.size) (B1 : own_St Z h0 a1 ar ac al alr alc k1 k2 k3 k4 k5 S) (D1 : own_D a1 ar ac al alr alc) (G1 : own_G n0 a1 ar ac al alr alc) (OK1 : own_ok S) (VT : Arv Z h0 tr kt .int (1 : Int32) [(.int (Int32.ofNat x))] (.int (0 : Int32))) (DT : tr ≠ a1 ∧ tr ≠ ar ∧ tr ≠ ac ∧ tr ≠ al ∧ tr ≠ alr ∧ tr ≠ alc) (hx1 : x ≤ 1) (hz : z < 16) (hk : S.2.2.2.2.2 + 1 ≤ 8) :
    MetFree l (⟨"com/example/tributary/tributary/solver/Rooms", "tryJob", "([ID)Z"⟩ : MethodName) (head1 (Jvm.Cond.code (⟨"com/example/tributary/tributary/solver/Rooms", "tryJob", "([ID)Z"⟩ : MethodName) prog_52_method_3_code 9 (some .boolean) :: ws) ({ frames := 2, cells := 0, slots := 0, locals := 31 } : Room)) (fun a U => a = #[(.ref a1), (.ref tr), (.double (FP.l2d (Int64.ofNat z)))] ∧ Z.Warmed39 U.vm ∧ U.heap = h0) (fun _ _ _ _ _ => True) (fun _ U o U' => ∃ v L, o = .returned v ∧ Q_try1 Z a1 ar ac al alr alc k1 k2 k3 k4 k5 S tr kt x z h0 n0 v U'.heap L ∧ FrameEnd U o U' L ({ frames := 2, cells := 0, slots := 0, locals := 31 } : Room).cells ({ frames := 2, cells := 0, slots := 0, locals := 31 } : Room).slots) := by
  refine MetFree.of_bodySF (plainFor_of_name pn_1) hisR ?_
  intro p e s m args below meth c s₁ Bd hml0 hP hK
  obtain ⟨rfl, hZ, hh⟩ := hP
  have hx := Bd.exec
  have hby := Bd.bytes
  have hml : c.maxLocals = 9 := hml0
  have hown : s.vm.findClass "com/example/tributary/tributary/solver/Rooms" = some m.cls := findClass_of_methodNamed Bd.named
  have hnm := (name_of_methodNamed Bd.named Bd.method).1
  have X0 : Stand p l e ({ frames := 2, cells := 0, slots := 0, locals := 31 } : Room) s m #[(.ref a1), (.ref tr), (.double (FP.l2d (Int64.ofNat z)))] below meth c s₁ [] 0 0 := Stand.of_body Bd
  have e0 : s₁.heap = h0 := by rw [← hh, Bd.state]; rfl
  have N0 := Fr.nil n0
  have K0 : Keep h0 h0 [a1, ar, ac, al, alr, alc] := Keep.refl h0 [a1, ar, ac, al, alr, alc]
  have P0 : ∀ t, Steps p.tables e below (s₁.setTop (mkF m 0 #[.val (.ref a1), .val (.ref tr), .val (.double (FP.l2d (Int64.ofNat z))), .second, .unset, .unset, .unset, .unset, .unset] [])) t → Steps p.tables e below (s₁.setTop (entryFrame m #[(.ref a1), (.ref tr), (.double (FP.l2d (Int64.ofNat z)))] 9)) t := fun t k => castTop (ef_try1 m a1 tr (FP.l2d (Int64.ofNat z))) k
  obtain ⟨E0, F0_room, F0_closed, F0_loggedLink, F0_loggedRoom, F0_loggedClosed, F0_logged, V0_ar, V0_ac, V0_al, V0_alr, V0_alc⟩ := id B1
  obtain ⟨ne_a1_ar, ne_a1_ac, ne_a1_al, ne_a1_alr, ne_a1_alc, ne_ar_ac, ne_ar_al, ne_ar_alr, ne_ar_alc, ne_ac_al, ne_ac_alr, ne_ac_alc, ne_al_alr, ne_al_alc, ne_alr_alc⟩ := id D1
  obtain ⟨g_a1, g_ar, g_ac, g_al, g_alr, g_alc⟩ := id G1
  obtain ⟨ne_tr_a1, ne_tr_ar, ne_tr_ac, ne_tr_al, ne_tr_alr, ne_tr_alc⟩ := id DT
  obtain ⟨cl1037, Ar1037, q1037, S1037, M1037, -, -⟩ := id VT
  obtain ⟨cl1038, Ar1038, q1038, S1038, M1038, H1038, G1038⟩ := id VT
  have hin1038 : ¬ ((0 : Int32) < 0 ∨ cl1038.slots.size ≤ ((0 : Int32)).toNatClampNeg) := inb_of S1038 ⟨by decide, by decide⟩
  have hat1038 : cl1038.slots[((0 : Int32)).toNatClampNeg]? = some (.int (Int32.ofNat x)) := Has.at H1038 hin1038 rfl
  obtain ⟨cq1039, q1039, q1039'⟩ := E0.cell
  have pv1039 := Cond.privateMethod_at (mvP hZ (hw _ (List.mem_of_getElem? (i := 42) rfl)) (args := #[]))
  obtain ⟨ci1039, ki1039, i11039, i21039, -, i41039, -⟩ := Cond.instantiable_spec (mvT (args := #[]) hZ (hw _ (List.mem_of_getElem? (i := 6) rfl)))
  have sl1039 := fun (a' : Array Value) => selects_self_of_private (args := a') (y := (⟨"com/example/tributary/tributary/solver/Rooms", "fits", "(ID)Z"⟩ : MethodName)) i11039 i21039 (by simp only [Bool.or_eq_false_iff] at i41039; exact i41039.1) pv1039 (mvT hZ (hw _ (List.mem_of_getElem? (i := 41) rfl))) (by decide)
  obtain ⟨_, _, ⟨T1039, L1039, k1039, n1039⟩, -, X1039, ⟨Lc1039, hQ1039, l1039, y1039, z1039⟩, st1039⟩ := X0.privateBack hx (y := (⟨"com/example/tributary/tributary/solver/Rooms", "fits", "(ID)Z"⟩ : MethodName)) hown (mvT hZ (hw _ (List.mem_of_getElem? (i := 40) rfl))) (mvT hZ (hw _ (List.mem_of_getElem? (i := 41) rfl))) (sl1039 _) pv1039 (mvT hZ (hw _ (List.mem_of_getElem? (i := 43) rfl))) (by decide) (backOf (W := 1) (rm_rfits l Z a0 hw [] a1 ar ac al alr alc k1 k2 k3 k4 k5 S x z h0 n0 Z0 B1 D1 G1 OK1 hx1 hz) hZ (hw _ (List.mem_of_getElem? (i := 43) rfl)) (hw _ (List.mem_of_getElem? (i := 7) rfl)) (by decide) (by decide)) (g := (mkF m 34 #[.val (.ref a1), .val (.ref tr), .val (.double (FP.l2d (Int64.ofNat z))), .second, .val (.int (1 : Int32)), .val (.ref tr), .val (.int (1 : Int32)), .val (.int (0 : Int32)), .val (.int (Int32.ofNat x))] [(.double (FP.l2d (Int64.ofNat z))), (.int (Int32.ofNat x)), (.ref a1), (.int (1 : Int32))])) rfl (by rw [hml]; rfl) (Steps.refl _) (a := a1) (by rw [e0]; exact q1039) q1039' (argsL := [(.int (Int32.ofNat x)), (.double (FP.l2d (Int64.ofNat z)))]) (rest := [(.int (1 : Int32))]) (lenOf pd_1 rfl) rfl (by show 2 * 0 + _ ≤ _; exact Nat.le_of_eq rfl) (hb hby d4_34) (fun _ _ => ⟨rfl, e0, (by decide : 0 + 0 ≤ _), (by decide : 0 + 0 ≤ _)⟩)
  dsimp only [Pt.U, Pt.locs, Pt.cells, Pt.slots] at X1039 l1039 y1039 z1039 st1039 hQ1039
  subst l1039 y1039 z1039
  obtain ⟨rfl, N1039q, ef0⟩ := hQ1039
  have N1039 := Fr.app N0 N1039q
  obtain ⟨cl1040, Ar1040, q1040, S1040, M1040, -, -⟩ := id VT
  have OKc : own_ok S := OK1
  have hkk0 : S.2.2.2.2.2 < 8 := by have := hk;  omega
  obtain ⟨cl1041, Ar1041, q1041, S1041, M1041, H1041, G1041⟩ := id VT
  have hin1041 : ¬ ((0 : Int32) < 0 ∨ cl1041.slots.size ≤ ((0 : Int32)).toNatClampNeg) := inb_of S1041 ⟨by decide, by decide⟩
  have hat1041 : cl1041.slots[((0 : Int32)).toNatClampNeg]? = some (.int (Int32.ofNat x)) := Has.at H1041 hin1041 rfl
  obtain ⟨cq1042, q1042, q1042'⟩ := E0.cell
  have pv1042 := Cond.privateMethod_at (mvP hZ (hw _ (List.mem_of_getElem? (i := 51) rfl)) (args := #[]))
  obtain ⟨ci1042, ki1042, i11042, i21042, -, i41042, -⟩ := Cond.instantiable_spec (mvT (args := #[]) hZ (hw _ (List.mem_of_getElem? (i := 6) rfl)))
  have sl1042 := fun (a' : Array Value) => selects_self_of_private (args := a') (y := (⟨"com/example/tributary/tributary/solver/Rooms", "log", "(I)V"⟩ : MethodName)) i11042 i21042 (by simp only [Bool.or_eq_false_iff] at i41042; exact i41042.1) pv1042 (mvT hZ (hw _ (List.mem_of_getElem? (i := 50) rfl))) (by decide)
  obtain ⟨_, _, ⟨T1042, L1042, k1042, n1042⟩, -, X1042, ⟨Lc1042, hQ1042, l1042, y1042, z1042⟩, st1042⟩ := X1039.privateBack hx (y := (⟨"com/example/tributary/tributary/solver/Rooms", "log", "(I)V"⟩ : MethodName)) hown (mvT hZ (hw _ (List.mem_of_getElem? (i := 49) rfl))) (mvT hZ (hw _ (List.mem_of_getElem? (i := 50) rfl))) (sl1042 _) pv1042 (mvT hZ (hw _ (List.mem_of_getElem? (i := 52) rfl))) (by decide) (backOf (W := 0) (rm_log l Z a0 hw [] a1 ar ac al alr alc k1 k2 k3 k4 k5 S x h0 n0 Z0 B1 D1 G1 OK1 hx1 hkk0) hZ (hw _ (List.mem_of_getElem? (i := 52) rfl)) (hw _ (List.mem_of_getElem? (i := 7) rfl)) (by decide) (by decide)) (g := (mkF m 74 #[.val (.ref a1), .val (.ref tr), .val (.double (FP.l2d (Int64.ofNat z))), .second, .val (.int ((1 : Int32) &&& (own_fv z (S.1.getD x 0)))), .val (.ref tr), .val (.int (1 : Int32)), .val (.int (0 : Int32)), .val (.int (Int32.ofNat x))] [(.int (Int32.ofNat x)), (.ref a1)])) rfl (by rw [hml]; rfl) (Steps.refl _) (a := a1) (by rw [ef0]; exact q1042) q1042' (argsL := [(.int (Int32.ofNat x))]) (rest := []) (lenOf pd_2 rfl) rfl (by show 2 * 0 + _ ≤ _; exact Nat.le_of_eq rfl) (hb hby d4_74) (fun _ _ => ⟨rfl, ef0, (by decide : 0 + 0 ≤ _), (by decide : 0 + 0 ≤ _)⟩)
  dsimp only [Pt.U, Pt.locs, Pt.cells, Pt.slots] at X1042 l1042 y1042 z1042 st1042 hQ1042
  subst l1042 y1042 z1042
  obtain ⟨rfl, N1042q, Kl0, Bl0⟩ := hQ1042
  have N1042 := Fr.app N1039 N1042q
  have c1043_0 := VT.keep Kl0 (ninS ne_tr_a1 (ninS ne_tr_ar (ninS ne_tr_ac (ninS ne_tr_al (ninS ne_tr_alr (ninS ne_tr_alc nin0))))))
  have Z1042 : n0 ≤ T1042.heap.size := Nat.le_trans Z0 Kl0.1
  have K1042 : Keep h0 T1042.heap [a1, ar, ac, al, alr, alc] := K0.trans Kl0 (allS (Or.inl (List.mem_of_getElem? (i := 0) rfl)) (allS (Or.inl (List.mem_of_getElem? (i := 1) rfl)) (allS (Or.inl (List.mem_of_getElem? (i := 2) rfl)) (allS (Or.inl (List.mem_of_getElem? (i := 3) rfl)) (allS (Or.inl (List.mem_of_getElem? (i := 4) rfl)) (allS (Or.inl (List.mem_of_getElem? (i := 5) rfl)) all0))))))
  obtain ⟨El0, Fl0_room, Fl0_closed, Fl0_loggedLink, Fl0_loggedRoom, Fl0_loggedClosed, Fl0_logged, Vl0_ar, Vl0_ac, Vl0_al, Vl0_alr, Vl0_alc⟩ := id Bl0
  obtain ⟨cq1044, q1044, q1044'⟩ := El0.cell
  have pv1044 := Cond.privateMethod_at (mvP hZ (hw _ (List.mem_of_getElem? (i := 42) rfl)) (args := #[]))
  obtain ⟨ci1044, ki1044, i11044, i21044, -, i41044, -⟩ := Cond.instantiable_spec (mvT (args := #[]) hZ (hw _ (List.mem_of_getElem? (i := 6) rfl)))
  have sl1044 := fun (a' : Array Value) => selects_self_of_private (args := a') (y := (⟨"com/example/tributary/tributary/solver/Rooms", "fits", "(ID)Z"⟩ : MethodName)) i11044 i21044 (by simp only [Bool.or_eq_false_iff] at i41044; exact i41044.1) pv1044 (mvT hZ (hw _ (List.mem_of_getElem? (i := 41) rfl))) (by decide)
  obtain ⟨_, _, ⟨T1044, L1044, k1044, n1044⟩, -, X1044, ⟨Lc1044, hQ1044, l1044, y1044, z1044⟩, st1044⟩ := X1042.privateBack hx (y := (⟨"com/example/tributary/tributary/solver/Rooms", "fits", "(ID)Z"⟩ : MethodName)) hown (mvT hZ (hw _ (List.mem_of_getElem? (i := 40) rfl))) (mvT hZ (hw _ (List.mem_of_getElem? (i := 41) rfl))) (sl1044 _) pv1044 (mvT hZ (hw _ (List.mem_of_getElem? (i := 43) rfl))) (by decide) (backOf (W := 0) (rm_rfits l Z a0 hw [] a1 ar ac al alr alc k1 k2 k3 k4 k5 (own_log S x) x z T1042.heap n0 Z1042 Bl0 D1 G1 (own_ok_log OK1 hx1) hx1 hz) hZ (hw _ (List.mem_of_getElem? (i := 43) rfl)) (hw _ (List.mem_of_getElem? (i := 7) rfl)) (by decide) (by decide)) (g := (mkF m 81 #[.val (.ref a1), .val (.ref tr), .val (.double (FP.l2d (Int64.ofNat z))), .second, .val (.int ((1 : Int32) &&& (own_fv z (S.1.getD x 0)))), .val (.ref tr), .val (.int (1 : Int32)), .val (.int (0 : Int32)), .val (.int (Int32.ofNat x))] [(.double (FP.l2d (Int64.ofNat z))), (.int (Int32.ofNat x)), (.ref a1)])) rfl (by rw [hml]; rfl) (Steps.refl _) (a := a1) q1044 q1044' (argsL := [(.int (Int32.ofNat x)), (.double (FP.l2d (Int64.ofNat z)))]) (rest := []) (lenOf pd_1 rfl) rfl (by show 2 * 0 + _ ≤ _; exact Nat.le_of_eq rfl) (hb hby d4_81) (fun _ _ => ⟨rfl, rfl, (by decide : 0 + 0 ≤ _), (by decide : 0 + 0 ≤ _)⟩)
  dsimp only [Pt.U, Pt.locs, Pt.cells, Pt.slots] at X1044 l1044 y1044 z1044 st1044 hQ1044
  subst l1044 y1044 z1044
  obtain ⟨rfl, N1044q, eg0⟩ := hQ1044
  have N1044 := Fr.app N1042 N1044q
  have P1045 : ∀ t, Steps p.tables e below (T1044.setTop (mkF m 84 #[.val (.ref a1), .val (.ref tr), .val (.double (FP.l2d (Int64.ofNat z))), .second, .val (.int ((1 : Int32) &&& (own_fv z (S.1.getD x 0)))), .val (.ref tr), .val (.int (1 : Int32)), .val (.int (0 : Int32)), .val (.int (Int32.ofNat x))] [(.int (own_fv z ((own_log S x).1.getD x 0)))])) t → Steps p.tables e below (s₁.setTop (entryFrame m #[(.ref a1), (.ref tr), (.double (FP.l2d (Int64.ofNat z)))] 9)) t := fun t k => P0 t (by
    refine XS.iconst X0.here hx rfl (hb hby d4_0) ?_
    show Steps p.tables e below (s₁.setTop (mkF m 1 #[.val (.ref a1), .val (.ref tr), .val (.double (FP.l2d (Int64.ofNat z))), .second, .unset, .unset, .unset, .unset, .unset] [(.int (1 : Int32))])) _
    refine XS.istore X0.here hx rfl (hb hby d4_1) rfl (l' := #[.val (.ref a1), .val (.ref tr), .val (.double (FP.l2d (Int64.ofNat z))), .second, .val (.int (1 : Int32)), .unset, .unset, .unset, .unset]) rfl ?_
    show Steps p.tables e below (s₁.setTop (mkF m 3 #[.val (.ref a1), .val (.ref tr), .val (.double (FP.l2d (Int64.ofNat z))), .second, .val (.int (1 : Int32)), .unset, .unset, .unset, .unset] [])) _
    refine XS.aloadN X0.here hx rfl (hb hby d4_3) rfl rfl ?_
    show Steps p.tables e below (s₁.setTop (mkF m 4 #[.val (.ref a1), .val (.ref tr), .val (.double (FP.l2d (Int64.ofNat z))), .second, .val (.int (1 : Int32)), .unset, .unset, .unset, .unset] [(.ref tr)])) _
    refine XS.astore X0.here hx rfl (hb hby d4_4) rfl rfl (l' := #[.val (.ref a1), .val (.ref tr), .val (.double (FP.l2d (Int64.ofNat z))), .second, .val (.int (1 : Int32)), .val (.ref tr), .unset, .unset, .unset]) rfl ?_
    show Steps p.tables e below (s₁.setTop (mkF m 6 #[.val (.ref a1), .val (.ref tr), .val (.double (FP.l2d (Int64.ofNat z))), .second, .val (.int (1 : Int32)), .val (.ref tr), .unset, .unset, .unset] [])) _
    refine XS.aload X0.here hx rfl (hb hby d4_6) rfl rfl ?_
    show Steps p.tables e below (s₁.setTop (mkF m 8 #[.val (.ref a1), .val (.ref tr), .val (.double (FP.l2d (Int64.ofNat z))), .second, .val (.int (1 : Int32)), .val (.ref tr), .unset, .unset, .unset] [(.ref tr)])) _
    refine X0.arraylength hx (by rw [e0]; exact Ar1037.1) (State.isArrayOf_alike hZ.alike Ar1037.2.1) (g := (mkF m 8 #[.val (.ref a1), .val (.ref tr), .val (.double (FP.l2d (Int64.ofNat z))), .second, .val (.int (1 : Int32)), .val (.ref tr), .unset, .unset, .unset] [(.ref tr)])) rfl rfl (hb hby d4_8) _ ?_
    rw [len_of S1037 M1037]
    show Steps p.tables e below (s₁.setTop (mkF m 9 #[.val (.ref a1), .val (.ref tr), .val (.double (FP.l2d (Int64.ofNat z))), .second, .val (.int (1 : Int32)), .val (.ref tr), .unset, .unset, .unset] [(.int (1 : Int32))])) _
    refine XS.istore X0.here hx rfl (hb hby d4_9) rfl (l' := #[.val (.ref a1), .val (.ref tr), .val (.double (FP.l2d (Int64.ofNat z))), .second, .val (.int (1 : Int32)), .val (.ref tr), .val (.int (1 : Int32)), .unset, .unset]) rfl ?_
    show Steps p.tables e below (s₁.setTop (mkF m 11 #[.val (.ref a1), .val (.ref tr), .val (.double (FP.l2d (Int64.ofNat z))), .second, .val (.int (1 : Int32)), .val (.ref tr), .val (.int (1 : Int32)), .unset, .unset] [])) _
    refine XS.iconst X0.here hx rfl (hb hby d4_11) ?_
    show Steps p.tables e below (s₁.setTop (mkF m 12 #[.val (.ref a1), .val (.ref tr), .val (.double (FP.l2d (Int64.ofNat z))), .second, .val (.int (1 : Int32)), .val (.ref tr), .val (.int (1 : Int32)), .unset, .unset] [(.int (0 : Int32))])) _
    refine XS.istore X0.here hx rfl (hb hby d4_12) rfl (l' := #[.val (.ref a1), .val (.ref tr), .val (.double (FP.l2d (Int64.ofNat z))), .second, .val (.int (1 : Int32)), .val (.ref tr), .val (.int (1 : Int32)), .val (.int (0 : Int32)), .unset]) rfl ?_
    show Steps p.tables e below (s₁.setTop (mkF m 14 #[.val (.ref a1), .val (.ref tr), .val (.double (FP.l2d (Int64.ofNat z))), .second, .val (.int (1 : Int32)), .val (.ref tr), .val (.int (1 : Int32)), .val (.int (0 : Int32)), .unset] [])) _
    refine XS.iload X0.here hx rfl (hb hby d4_14) rfl ?_
    show Steps p.tables e below (s₁.setTop (mkF m 16 #[.val (.ref a1), .val (.ref tr), .val (.double (FP.l2d (Int64.ofNat z))), .second, .val (.int (1 : Int32)), .val (.ref tr), .val (.int (1 : Int32)), .val (.int (0 : Int32)), .unset] [(.int (0 : Int32))])) _
    refine XS.iload X0.here hx rfl (hb hby d4_16) rfl ?_
    show Steps p.tables e below (s₁.setTop (mkF m 18 #[.val (.ref a1), .val (.ref tr), .val (.double (FP.l2d (Int64.ofNat z))), .second, .val (.int (1 : Int32)), .val (.ref tr), .val (.int (1 : Int32)), .val (.int (0 : Int32)), .unset] [(.int (1 : Int32)), (.int (0 : Int32))])) _
    refine XS.icmpNo X0.here hx rfl (hb hby d4_18) rfl (tlt (by decide)).2.1 ?_
    show Steps p.tables e below (s₁.setTop (mkF m 21 #[.val (.ref a1), .val (.ref tr), .val (.double (FP.l2d (Int64.ofNat z))), .second, .val (.int (1 : Int32)), .val (.ref tr), .val (.int (1 : Int32)), .val (.int (0 : Int32)), .unset] [])) _
    refine XS.aload X0.here hx rfl (hb hby d4_21) rfl rfl ?_
    show Steps p.tables e below (s₁.setTop (mkF m 23 #[.val (.ref a1), .val (.ref tr), .val (.double (FP.l2d (Int64.ofNat z))), .second, .val (.int (1 : Int32)), .val (.ref tr), .val (.int (1 : Int32)), .val (.int (0 : Int32)), .unset] [(.ref tr)])) _
    refine XS.iload X0.here hx rfl (hb hby d4_23) rfl ?_
    show Steps p.tables e below (s₁.setTop (mkF m 25 #[.val (.ref a1), .val (.ref tr), .val (.double (FP.l2d (Int64.ofNat z))), .second, .val (.int (1 : Int32)), .val (.ref tr), .val (.int (1 : Int32)), .val (.int (0 : Int32)), .unset] [(.int (0 : Int32)), (.ref tr)])) _
    refine X0.iaload hx (j := (0 : Int32)) (v := (.int (Int32.ofNat x))) (by rw [e0]; exact Ar1038.1) (State.isArrayOf_alike hZ.alike Ar1038.2.1) Ar1038.2.2 hin1038 hat1038 (g := (mkF m 25 #[.val (.ref a1), .val (.ref tr), .val (.double (FP.l2d (Int64.ofNat z))), .second, .val (.int (1 : Int32)), .val (.ref tr), .val (.int (1 : Int32)), .val (.int (0 : Int32)), .unset] [(.int (0 : Int32)), (.ref tr)])) rfl rfl (hb hby d4_25) _ ?_
    show Steps p.tables e below (s₁.setTop (mkF m 26 #[.val (.ref a1), .val (.ref tr), .val (.double (FP.l2d (Int64.ofNat z))), .second, .val (.int (1 : Int32)), .val (.ref tr), .val (.int (1 : Int32)), .val (.int (0 : Int32)), .unset] [(.int (Int32.ofNat x))])) _
    refine XS.istore X0.here hx rfl (hb hby d4_26) rfl (l' := #[.val (.ref a1), .val (.ref tr), .val (.double (FP.l2d (Int64.ofNat z))), .second, .val (.int (1 : Int32)), .val (.ref tr), .val (.int (1 : Int32)), .val (.int (0 : Int32)), .val (.int (Int32.ofNat x))]) rfl ?_
    show Steps p.tables e below (s₁.setTop (mkF m 28 #[.val (.ref a1), .val (.ref tr), .val (.double (FP.l2d (Int64.ofNat z))), .second, .val (.int (1 : Int32)), .val (.ref tr), .val (.int (1 : Int32)), .val (.int (0 : Int32)), .val (.int (Int32.ofNat x))] [])) _
    refine XS.iload X0.here hx rfl (hb hby d4_28) rfl ?_
    show Steps p.tables e below (s₁.setTop (mkF m 30 #[.val (.ref a1), .val (.ref tr), .val (.double (FP.l2d (Int64.ofNat z))), .second, .val (.int (1 : Int32)), .val (.ref tr), .val (.int (1 : Int32)), .val (.int (0 : Int32)), .val (.int (Int32.ofNat x))] [(.int (1 : Int32))])) _
    refine XS.aloadN X0.here hx rfl (hb hby d4_30) rfl rfl ?_
    show Steps p.tables e below (s₁.setTop (mkF m 31 #[.val (.ref a1), .val (.ref tr), .val (.double (FP.l2d (Int64.ofNat z))), .second, .val (.int (1 : Int32)), .val (.ref tr), .val (.int (1 : Int32)), .val (.int (0 : Int32)), .val (.int (Int32.ofNat x))] [(.ref a1), (.int (1 : Int32))])) _
    refine XS.iload X0.here hx rfl (hb hby d4_31) rfl ?_
    show Steps p.tables e below (s₁.setTop (mkF m 33 #[.val (.ref a1), .val (.ref tr), .val (.double (FP.l2d (Int64.ofNat z))), .second, .val (.int (1 : Int32)), .val (.ref tr), .val (.int (1 : Int32)), .val (.int (0 : Int32)), .val (.int (Int32.ofNat x))] [(.int (Int32.ofNat x)), (.ref a1), (.int (1 : Int32))])) _
    refine XS.dloadN X0.here hx rfl (hb hby d4_33) rfl ?_
    show Steps p.tables e below (s₁.setTop (mkF m 34 #[.val (.ref a1), .val (.ref tr), .val (.double (FP.l2d (Int64.ofNat z))), .second, .val (.int (1 : Int32)), .val (.ref tr), .val (.int (1 : Int32)), .val (.int (0 : Int32)), .val (.int (Int32.ofNat x))] [(.double (FP.l2d (Int64.ofNat z))), (.int (Int32.ofNat x)), (.ref a1), (.int (1 : Int32))])) _
    refine st1039.trans ?_
    show Steps p.tables e below (T1039.setTop (mkF m 37 #[.val (.ref a1), .val (.ref tr), .val (.double (FP.l2d (Int64.ofNat z))), .second, .val (.int (1 : Int32)), .val (.ref tr), .val (.int (1 : Int32)), .val (.int (0 : Int32)), .val (.int (Int32.ofNat x))] [(.int (own_fv z (S.1.getD x 0))), (.int (1 : Int32))])) _
    refine XS.iand X1039.here hx rfl (hb hby d4_37) rfl ?_
    show Steps p.tables e below (T1039.setTop (mkF m 38 #[.val (.ref a1), .val (.ref tr), .val (.double (FP.l2d (Int64.ofNat z))), .second, .val (.int (1 : Int32)), .val (.ref tr), .val (.int (1 : Int32)), .val (.int (0 : Int32)), .val (.int (Int32.ofNat x))] [(.int ((1 : Int32) &&& (own_fv z (S.1.getD x 0))))])) _
    refine XS.istore X1039.here hx rfl (hb hby d4_38) rfl (l' := #[.val (.ref a1), .val (.ref tr), .val (.double (FP.l2d (Int64.ofNat z))), .second, .val (.int ((1 : Int32) &&& (own_fv z (S.1.getD x 0)))), .val (.ref tr), .val (.int (1 : Int32)), .val (.int (0 : Int32)), .val (.int (Int32.ofNat x))]) rfl ?_
    show Steps p.tables e below (T1039.setTop (mkF m 40 #[.val (.ref a1), .val (.ref tr), .val (.double (FP.l2d (Int64.ofNat z))), .second, .val (.int ((1 : Int32) &&& (own_fv z (S.1.getD x 0)))), .val (.ref tr), .val (.int (1 : Int32)), .val (.int (0 : Int32)), .val (.int (Int32.ofNat x))] [])) _
    refine XS.iinc X1039.here hx rfl (hb hby d4_40) rfl (l' := #[.val (.ref a1), .val (.ref tr), .val (.double (FP.l2d (Int64.ofNat z))), .second, .val (.int ((1 : Int32) &&& (own_fv z (S.1.getD x 0)))), .val (.ref tr), .val (.int (1 : Int32)), .val (.int (1 : Int32)), .val (.int (Int32.ofNat x))]) rfl ?_
    show Steps p.tables e below (T1039.setTop (mkF m 43 #[.val (.ref a1), .val (.ref tr), .val (.double (FP.l2d (Int64.ofNat z))), .second, .val (.int ((1 : Int32) &&& (own_fv z (S.1.getD x 0)))), .val (.ref tr), .val (.int (1 : Int32)), .val (.int (1 : Int32)), .val (.int (Int32.ofNat x))] [])) _
    refine XS.goto X1039.here hx rfl (pc0 := 43) (pc' := 14) rfl (hb hby d4_43) (by decide) (by decide) ?_
    show Steps p.tables e below (T1039.setTop (mkF m 14 #[.val (.ref a1), .val (.ref tr), .val (.double (FP.l2d (Int64.ofNat z))), .second, .val (.int ((1 : Int32) &&& (own_fv z (S.1.getD x 0)))), .val (.ref tr), .val (.int (1 : Int32)), .val (.int (1 : Int32)), .val (.int (Int32.ofNat x))] [])) _
    refine XS.iload X1039.here hx rfl (hb hby d4_14) rfl ?_
    show Steps p.tables e below (T1039.setTop (mkF m 16 #[.val (.ref a1), .val (.ref tr), .val (.double (FP.l2d (Int64.ofNat z))), .second, .val (.int ((1 : Int32) &&& (own_fv z (S.1.getD x 0)))), .val (.ref tr), .val (.int (1 : Int32)), .val (.int (1 : Int32)), .val (.int (Int32.ofNat x))] [(.int (1 : Int32))])) _
    refine XS.iload X1039.here hx rfl (hb hby d4_16) rfl ?_
    show Steps p.tables e below (T1039.setTop (mkF m 18 #[.val (.ref a1), .val (.ref tr), .val (.double (FP.l2d (Int64.ofNat z))), .second, .val (.int ((1 : Int32) &&& (own_fv z (S.1.getD x 0)))), .val (.ref tr), .val (.int (1 : Int32)), .val (.int (1 : Int32)), .val (.int (Int32.ofNat x))] [(.int (1 : Int32)), (.int (1 : Int32))])) _
    refine XS.icmpYes X1039.here hx rfl (pc0 := 18) (pc' := 46) rfl (hb hby d4_18) rfl (flt (by decide)).2.1 (by decide) (by decide) ?_
    show Steps p.tables e below (T1039.setTop (mkF m 46 #[.val (.ref a1), .val (.ref tr), .val (.double (FP.l2d (Int64.ofNat z))), .second, .val (.int ((1 : Int32) &&& (own_fv z (S.1.getD x 0)))), .val (.ref tr), .val (.int (1 : Int32)), .val (.int (1 : Int32)), .val (.int (Int32.ofNat x))] [])) _
    refine XS.aloadN X1039.here hx rfl (hb hby d4_46) rfl rfl ?_
    show Steps p.tables e below (T1039.setTop (mkF m 47 #[.val (.ref a1), .val (.ref tr), .val (.double (FP.l2d (Int64.ofNat z))), .second, .val (.int ((1 : Int32) &&& (own_fv z (S.1.getD x 0)))), .val (.ref tr), .val (.int (1 : Int32)), .val (.int (1 : Int32)), .val (.int (Int32.ofNat x))] [(.ref tr)])) _
    refine XS.astore X1039.here hx rfl (hb hby d4_47) rfl rfl (l' := #[.val (.ref a1), .val (.ref tr), .val (.double (FP.l2d (Int64.ofNat z))), .second, .val (.int ((1 : Int32) &&& (own_fv z (S.1.getD x 0)))), .val (.ref tr), .val (.int (1 : Int32)), .val (.int (1 : Int32)), .val (.int (Int32.ofNat x))]) rfl ?_
    show Steps p.tables e below (T1039.setTop (mkF m 49 #[.val (.ref a1), .val (.ref tr), .val (.double (FP.l2d (Int64.ofNat z))), .second, .val (.int ((1 : Int32) &&& (own_fv z (S.1.getD x 0)))), .val (.ref tr), .val (.int (1 : Int32)), .val (.int (1 : Int32)), .val (.int (Int32.ofNat x))] [])) _
    refine XS.aload X1039.here hx rfl (hb hby d4_49) rfl rfl ?_
    show Steps p.tables e below (T1039.setTop (mkF m 51 #[.val (.ref a1), .val (.ref tr), .val (.double (FP.l2d (Int64.ofNat z))), .second, .val (.int ((1 : Int32) &&& (own_fv z (S.1.getD x 0)))), .val (.ref tr), .val (.int (1 : Int32)), .val (.int (1 : Int32)), .val (.int (Int32.ofNat x))] [(.ref tr)])) _
    refine X1039.arraylength hx (by rw [ef0]; exact Ar1040.1) (State.isArrayOf_alike hZ.alike Ar1040.2.1) (g := (mkF m 51 #[.val (.ref a1), .val (.ref tr), .val (.double (FP.l2d (Int64.ofNat z))), .second, .val (.int ((1 : Int32) &&& (own_fv z (S.1.getD x 0)))), .val (.ref tr), .val (.int (1 : Int32)), .val (.int (1 : Int32)), .val (.int (Int32.ofNat x))] [(.ref tr)])) rfl rfl (hb hby d4_51) _ ?_
    rw [len_of S1040 M1040]
    show Steps p.tables e below (T1039.setTop (mkF m 52 #[.val (.ref a1), .val (.ref tr), .val (.double (FP.l2d (Int64.ofNat z))), .second, .val (.int ((1 : Int32) &&& (own_fv z (S.1.getD x 0)))), .val (.ref tr), .val (.int (1 : Int32)), .val (.int (1 : Int32)), .val (.int (Int32.ofNat x))] [(.int (1 : Int32))])) _
    refine XS.istore X1039.here hx rfl (hb hby d4_52) rfl (l' := #[.val (.ref a1), .val (.ref tr), .val (.double (FP.l2d (Int64.ofNat z))), .second, .val (.int ((1 : Int32) &&& (own_fv z (S.1.getD x 0)))), .val (.ref tr), .val (.int (1 : Int32)), .val (.int (1 : Int32)), .val (.int (Int32.ofNat x))]) rfl ?_
    show Steps p.tables e below (T1039.setTop (mkF m 54 #[.val (.ref a1), .val (.ref tr), .val (.double (FP.l2d (Int64.ofNat z))), .second, .val (.int ((1 : Int32) &&& (own_fv z (S.1.getD x 0)))), .val (.ref tr), .val (.int (1 : Int32)), .val (.int (1 : Int32)), .val (.int (Int32.ofNat x))] [])) _
    refine XS.iconst X1039.here hx rfl (hb hby d4_54) ?_
    show Steps p.tables e below (T1039.setTop (mkF m 55 #[.val (.ref a1), .val (.ref tr), .val (.double (FP.l2d (Int64.ofNat z))), .second, .val (.int ((1 : Int32) &&& (own_fv z (S.1.getD x 0)))), .val (.ref tr), .val (.int (1 : Int32)), .val (.int (1 : Int32)), .val (.int (Int32.ofNat x))] [(.int (0 : Int32))])) _
    refine XS.istore X1039.here hx rfl (hb hby d4_55) rfl (l' := #[.val (.ref a1), .val (.ref tr), .val (.double (FP.l2d (Int64.ofNat z))), .second, .val (.int ((1 : Int32) &&& (own_fv z (S.1.getD x 0)))), .val (.ref tr), .val (.int (1 : Int32)), .val (.int (0 : Int32)), .val (.int (Int32.ofNat x))]) rfl ?_
    show Steps p.tables e below (T1039.setTop (mkF m 57 #[.val (.ref a1), .val (.ref tr), .val (.double (FP.l2d (Int64.ofNat z))), .second, .val (.int ((1 : Int32) &&& (own_fv z (S.1.getD x 0)))), .val (.ref tr), .val (.int (1 : Int32)), .val (.int (0 : Int32)), .val (.int (Int32.ofNat x))] [])) _
    refine XS.iload X1039.here hx rfl (hb hby d4_57) rfl ?_
    show Steps p.tables e below (T1039.setTop (mkF m 59 #[.val (.ref a1), .val (.ref tr), .val (.double (FP.l2d (Int64.ofNat z))), .second, .val (.int ((1 : Int32) &&& (own_fv z (S.1.getD x 0)))), .val (.ref tr), .val (.int (1 : Int32)), .val (.int (0 : Int32)), .val (.int (Int32.ofNat x))] [(.int (0 : Int32))])) _
    refine XS.iload X1039.here hx rfl (hb hby d4_59) rfl ?_
    show Steps p.tables e below (T1039.setTop (mkF m 61 #[.val (.ref a1), .val (.ref tr), .val (.double (FP.l2d (Int64.ofNat z))), .second, .val (.int ((1 : Int32) &&& (own_fv z (S.1.getD x 0)))), .val (.ref tr), .val (.int (1 : Int32)), .val (.int (0 : Int32)), .val (.int (Int32.ofNat x))] [(.int (1 : Int32)), (.int (0 : Int32))])) _
    refine XS.icmpNo X1039.here hx rfl (hb hby d4_61) rfl (tlt (by decide)).2.1 ?_
    show Steps p.tables e below (T1039.setTop (mkF m 64 #[.val (.ref a1), .val (.ref tr), .val (.double (FP.l2d (Int64.ofNat z))), .second, .val (.int ((1 : Int32) &&& (own_fv z (S.1.getD x 0)))), .val (.ref tr), .val (.int (1 : Int32)), .val (.int (0 : Int32)), .val (.int (Int32.ofNat x))] [])) _
    refine XS.aload X1039.here hx rfl (hb hby d4_64) rfl rfl ?_
    show Steps p.tables e below (T1039.setTop (mkF m 66 #[.val (.ref a1), .val (.ref tr), .val (.double (FP.l2d (Int64.ofNat z))), .second, .val (.int ((1 : Int32) &&& (own_fv z (S.1.getD x 0)))), .val (.ref tr), .val (.int (1 : Int32)), .val (.int (0 : Int32)), .val (.int (Int32.ofNat x))] [(.ref tr)])) _
    refine XS.iload X1039.here hx rfl (hb hby d4_66) rfl ?_
    show Steps p.tables e below (T1039.setTop (mkF m 68 #[.val (.ref a1), .val (.ref tr), .val (.double (FP.l2d (Int64.ofNat z))), .second, .val (.int ((1 : Int32) &&& (own_fv z (S.1.getD x 0)))), .val (.ref tr), .val (.int (1 : Int32)), .val (.int (0 : Int32)), .val (.int (Int32.ofNat x))] [(.int (0 : Int32)), (.ref tr)])) _
    refine X1039.iaload hx (j := (0 : Int32)) (v := (.int (Int32.ofNat x))) (by rw [ef0]; exact Ar1041.1) (State.isArrayOf_alike hZ.alike Ar1041.2.1) Ar1041.2.2 hin1041 hat1041 (g := (mkF m 68 #[.val (.ref a1), .val (.ref tr), .val (.double (FP.l2d (Int64.ofNat z))), .second, .val (.int ((1 : Int32) &&& (own_fv z (S.1.getD x 0)))), .val (.ref tr), .val (.int (1 : Int32)), .val (.int (0 : Int32)), .val (.int (Int32.ofNat x))] [(.int (0 : Int32)), (.ref tr)])) rfl rfl (hb hby d4_68) _ ?_
    show Steps p.tables e below (T1039.setTop (mkF m 69 #[.val (.ref a1), .val (.ref tr), .val (.double (FP.l2d (Int64.ofNat z))), .second, .val (.int ((1 : Int32) &&& (own_fv z (S.1.getD x 0)))), .val (.ref tr), .val (.int (1 : Int32)), .val (.int (0 : Int32)), .val (.int (Int32.ofNat x))] [(.int (Int32.ofNat x))])) _
    refine XS.istore X1039.here hx rfl (hb hby d4_69) rfl (l' := #[.val (.ref a1), .val (.ref tr), .val (.double (FP.l2d (Int64.ofNat z))), .second, .val (.int ((1 : Int32) &&& (own_fv z (S.1.getD x 0)))), .val (.ref tr), .val (.int (1 : Int32)), .val (.int (0 : Int32)), .val (.int (Int32.ofNat x))]) rfl ?_
    show Steps p.tables e below (T1039.setTop (mkF m 71 #[.val (.ref a1), .val (.ref tr), .val (.double (FP.l2d (Int64.ofNat z))), .second, .val (.int ((1 : Int32) &&& (own_fv z (S.1.getD x 0)))), .val (.ref tr), .val (.int (1 : Int32)), .val (.int (0 : Int32)), .val (.int (Int32.ofNat x))] [])) _
    refine XS.aloadN X1039.here hx rfl (hb hby d4_71) rfl rfl ?_
    show Steps p.tables e below (T1039.setTop (mkF m 72 #[.val (.ref a1), .val (.ref tr), .val (.double (FP.l2d (Int64.ofNat z))), .second, .val (.int ((1 : Int32) &&& (own_fv z (S.1.getD x 0)))), .val (.ref tr), .val (.int (1 : Int32)), .val (.int (0 : Int32)), .val (.int (Int32.ofNat x))] [(.ref a1)])) _
    refine XS.iload X1039.here hx rfl (hb hby d4_72) rfl ?_
    show Steps p.tables e below (T1039.setTop (mkF m 74 #[.val (.ref a1), .val (.ref tr), .val (.double (FP.l2d (Int64.ofNat z))), .second, .val (.int ((1 : Int32) &&& (own_fv z (S.1.getD x 0)))), .val (.ref tr), .val (.int (1 : Int32)), .val (.int (0 : Int32)), .val (.int (Int32.ofNat x))] [(.int (Int32.ofNat x)), (.ref a1)])) _
    refine st1042.trans ?_
    show Steps p.tables e below (T1042.setTop (mkF m 77 #[.val (.ref a1), .val (.ref tr), .val (.double (FP.l2d (Int64.ofNat z))), .second, .val (.int ((1 : Int32) &&& (own_fv z (S.1.getD x 0)))), .val (.ref tr), .val (.int (1 : Int32)), .val (.int (0 : Int32)), .val (.int (Int32.ofNat x))] [])) _
    refine XS.aloadN X1042.here hx rfl (hb hby d4_77) rfl rfl ?_
    show Steps p.tables e below (T1042.setTop (mkF m 78 #[.val (.ref a1), .val (.ref tr), .val (.double (FP.l2d (Int64.ofNat z))), .second, .val (.int ((1 : Int32) &&& (own_fv z (S.1.getD x 0)))), .val (.ref tr), .val (.int (1 : Int32)), .val (.int (0 : Int32)), .val (.int (Int32.ofNat x))] [(.ref a1)])) _
    refine XS.iload X1042.here hx rfl (hb hby d4_78) rfl ?_
    show Steps p.tables e below (T1042.setTop (mkF m 80 #[.val (.ref a1), .val (.ref tr), .val (.double (FP.l2d (Int64.ofNat z))), .second, .val (.int ((1 : Int32) &&& (own_fv z (S.1.getD x 0)))), .val (.ref tr), .val (.int (1 : Int32)), .val (.int (0 : Int32)), .val (.int (Int32.ofNat x))] [(.int (Int32.ofNat x)), (.ref a1)])) _
    refine XS.dloadN X1042.here hx rfl (hb hby d4_80) rfl ?_
    show Steps p.tables e below (T1042.setTop (mkF m 81 #[.val (.ref a1), .val (.ref tr), .val (.double (FP.l2d (Int64.ofNat z))), .second, .val (.int ((1 : Int32) &&& (own_fv z (S.1.getD x 0)))), .val (.ref tr), .val (.int (1 : Int32)), .val (.int (0 : Int32)), .val (.int (Int32.ofNat x))] [(.double (FP.l2d (Int64.ofNat z))), (.int (Int32.ofNat x)), (.ref a1)])) _
    refine st1044.trans ?_
    show Steps p.tables e below (T1044.setTop (mkF m 84 #[.val (.ref a1), .val (.ref tr), .val (.double (FP.l2d (Int64.ofNat z))), .second, .val (.int ((1 : Int32) &&& (own_fv z (S.1.getD x 0)))), .val (.ref tr), .val (.int (1 : Int32)), .val (.int (0 : Int32)), .val (.int (Int32.ofNat x))] [(.int (own_fv z ((own_log S x).1.getD x 0)))])) _
    exact k)
  by_cases hf0 : (own_fv z ((own_log S x).1.getD x 0)) = (0 : Int32)
  · have hle0 := own_fv0 hf0
    obtain ⟨T1046, X1046, e1046, st1046⟩ := getF X1044 hx hZ hown (host := "") (Or.inl (hw _ (List.mem_of_getElem? (i := 27) rfl))) Via.refl eg0 Fl0_closed (g := (mkF m 102 #[.val (.ref a1), .val (.ref tr), .val (.double (FP.l2d (Int64.ofNat z))), .second, .val (.int ((1 : Int32) &&& (own_fv z (S.1.getD x 0)))), .val (.ref tr), .val (.int (1 : Int32)), .val (.int (0 : Int32)), .val (.int (Int32.ofNat x))] [(.ref a1)])) rfl rfl (hb hby d4_102)
    obtain ⟨cl1047, Ar1047, q1047, S1047, M1047, H1047, G1047⟩ := id Vl0_ac
    have hin1047 : ¬ ((Int32.ofNat x) < 0 ∨ cl1047.slots.size ≤ ((Int32.ofNat x)).toNatClampNeg) := own_in S1047 (n := 2) (by decide) (by decide) (Nat.lt_of_le_of_lt hx1 (by decide))
    obtain ⟨T1047, h1047, X1047, e1047, W1047, st1047⟩ := stZ X1046 hx hZ e1046 Ar1047 (j := (Int32.ofNat x)) hin1047 (g := (mkF m 108 #[.val (.ref a1), .val (.ref tr), .val (.double (FP.l2d (Int64.ofNat z))), .second, .val (.int ((1 : Int32) &&& (own_fv z (S.1.getD x 0)))), .val (.ref tr), .val (.int (1 : Int32)), .val (.int (0 : Int32)), .val (.int (Int32.ofNat x))] [(.int (1 : Int32)), (.int (Int32.ofNat x)), (.ref ac)])) rfl rfl (hb hby d4_108)
    have V1047 := own_sI (y := 1) (by decide) (Arv.set Ar1047 q1047 S1047 M1047 H1047 G1047 (fits_nar_bool _) W1047 x (own_tn x (Nat.lt_of_le_of_lt hx1 (by decide))) (by rw [own_lenI]; exact Nat.lt_of_lt_of_le (Nat.lt_of_le_of_lt hx1 (by decide)) (Nat.le_of_eq (own_ok_log OK1 hx1).2.1.symm)))
    have c1048_0 := c1043_0.other W1047 ne_tr_ac
    have c1048_1 := El0.wr W1047
    have c1048_2 := Fl0_room.other W1047 (Or.inl ne_a1_ac)
    have c1048_3 := Fl0_closed.other W1047 (Or.inl ne_a1_ac)
    have c1048_4 := Fl0_loggedLink.other W1047 (Or.inl ne_a1_ac)
    have c1048_5 := Fl0_loggedRoom.other W1047 (Or.inl ne_a1_ac)
    have c1048_6 := Fl0_loggedClosed.other W1047 (Or.inl ne_a1_ac)
    have c1048_7 := Fl0_logged.other W1047 (Or.inl ne_a1_ac)
    have c1048_8 := Vl0_ar.other W1047 ne_ar_ac
    have c1048_10 := Vl0_al.other W1047 (Ne.symm ne_ac_al)
    have c1048_11 := Vl0_alr.other W1047 (Ne.symm ne_ac_alr)
    have c1048_12 := Vl0_alc.other W1047 (Ne.symm ne_ac_alc)
    have Z1047 : n0 ≤ h1047.size := Nat.le_trans Z1042 (Nat.le_of_eq W1047.size.symm)
    have K1047 : Keep h0 h1047 [a1, ar, ac, al, alr, alc] := K1042.wr W1047 (Or.inl (List.mem_of_getElem? (i := 2) rfl))
    have N1047 := Fr.snoc X1047 N1044 g_ac
    have Bs0 : own_St Z h1047 a1 ar ac al alr alc k1 k2 k3 k4 k5 (own_step z S x) := by rw [own_stepN (S := S) (i := x) hle0]; exact ⟨c1048_1, c1048_2, c1048_3, c1048_4, c1048_5, c1048_6, c1048_7, c1048_8, V1047, c1048_10, c1048_11, c1048_12⟩
    obtain ⟨Es0, Fs0_room, Fs0_closed, Fs0_loggedLink, Fs0_loggedRoom, Fs0_loggedClosed, Fs0_logged, Vs0_ar, Vs0_ac, Vs0_al, Vs0_alr, Vs0_alc⟩ := id Bs0
    have P1049 : ∀ t, Steps p.tables e below (T1047.setTop (mkF m 117 #[.val (.ref a1), .val (.ref tr), .val (.double (FP.l2d (Int64.ofNat z))), .second, .val (.int ((1 : Int32) &&& (own_fv z (S.1.getD x 0)))), .val (.ref tr), .val (.int (1 : Int32)), .val (.int (1 : Int32)), .val (.int (Int32.ofNat x))] [(.int ((1 : Int32) &&& (own_fv z (S.1.getD x 0))))])) t → Steps p.tables e below (s₁.setTop (entryFrame m #[(.ref a1), (.ref tr), (.double (FP.l2d (Int64.ofNat z)))] 9)) t := fun t k => P1045 t (by
      refine XS.ifYes X1044.here hx rfl (pc0 := 84) (pc' := 101) rfl (hb hby d4_84) rfl ((if0 _ _).trans (teq hf0).1) (by decide) (by decide) ?_
      show Steps p.tables e below (T1044.setTop (mkF m 101 #[.val (.ref a1), .val (.ref tr), .val (.double (FP.l2d (Int64.ofNat z))), .second, .val (.int ((1 : Int32) &&& (own_fv z (S.1.getD x 0)))), .val (.ref tr), .val (.int (1 : Int32)), .val (.int (0 : Int32)), .val (.int (Int32.ofNat x))] [])) _
      refine XS.aloadN X1044.here hx rfl (hb hby d4_101) rfl rfl ?_
      show Steps p.tables e below (T1044.setTop (mkF m 102 #[.val (.ref a1), .val (.ref tr), .val (.double (FP.l2d (Int64.ofNat z))), .second, .val (.int ((1 : Int32) &&& (own_fv z (S.1.getD x 0)))), .val (.ref tr), .val (.int (1 : Int32)), .val (.int (0 : Int32)), .val (.int (Int32.ofNat x))] [(.ref a1)])) _
      refine st1046 _ ?_
      show Steps p.tables e below (T1046.setTop (mkF m 105 #[.val (.ref a1), .val (.ref tr), .val (.double (FP.l2d (Int64.ofNat z))), .second, .val (.int ((1 : Int32) &&& (own_fv z (S.1.getD x 0)))), .val (.ref tr), .val (.int (1 : Int32)), .val (.int (0 : Int32)), .val (.int (Int32.ofNat x))] [(.ref ac)])) _
      refine XS.iload X1046.here hx rfl (hb hby d4_105) rfl ?_
      show Steps p.tables e below (T1046.setTop (mkF m 107 #[.val (.ref a1), .val (.ref tr), .val (.double (FP.l2d (Int64.ofNat z))), .second, .val (.int ((1 : Int32) &&& (own_fv z (S.1.getD x 0)))), .val (.ref tr), .val (.int (1 : Int32)), .val (.int (0 : Int32)), .val (.int (Int32.ofNat x))] [(.int (Int32.ofNat x)), (.ref ac)])) _
      refine XS.iconst X1046.here hx rfl (hb hby d4_107) ?_
      show Steps p.tables e below (T1046.setTop (mkF m 108 #[.val (.ref a1), .val (.ref tr), .val (.double (FP.l2d (Int64.ofNat z))), .second, .val (.int ((1 : Int32) &&& (own_fv z (S.1.getD x 0)))), .val (.ref tr), .val (.int (1 : Int32)), .val (.int (0 : Int32)), .val (.int (Int32.ofNat x))] [(.int (1 : Int32)), (.int (Int32.ofNat x)), (.ref ac)])) _
      refine st1047 _ ?_
      show Steps p.tables e below (T1047.setTop (mkF m 109 #[.val (.ref a1), .val (.ref tr), .val (.double (FP.l2d (Int64.ofNat z))), .second, .val (.int ((1 : Int32) &&& (own_fv z (S.1.getD x 0)))), .val (.ref tr), .val (.int (1 : Int32)), .val (.int (0 : Int32)), .val (.int (Int32.ofNat x))] [])) _
      refine XS.iinc X1047.here hx rfl (hb hby d4_109) rfl (l' := #[.val (.ref a1), .val (.ref tr), .val (.double (FP.l2d (Int64.ofNat z))), .second, .val (.int ((1 : Int32) &&& (own_fv z (S.1.getD x 0)))), .val (.ref tr), .val (.int (1 : Int32)), .val (.int (1 : Int32)), .val (.int (Int32.ofNat x))]) rfl ?_
      show Steps p.tables e below (T1047.setTop (mkF m 112 #[.val (.ref a1), .val (.ref tr), .val (.double (FP.l2d (Int64.ofNat z))), .second, .val (.int ((1 : Int32) &&& (own_fv z (S.1.getD x 0)))), .val (.ref tr), .val (.int (1 : Int32)), .val (.int (1 : Int32)), .val (.int (Int32.ofNat x))] [])) _
      refine XS.goto X1047.here hx rfl (pc0 := 112) (pc' := 57) rfl (hb hby d4_112) (by decide) (by decide) ?_
      show Steps p.tables e below (T1047.setTop (mkF m 57 #[.val (.ref a1), .val (.ref tr), .val (.double (FP.l2d (Int64.ofNat z))), .second, .val (.int ((1 : Int32) &&& (own_fv z (S.1.getD x 0)))), .val (.ref tr), .val (.int (1 : Int32)), .val (.int (1 : Int32)), .val (.int (Int32.ofNat x))] [])) _
      refine XS.iload X1047.here hx rfl (hb hby d4_57) rfl ?_
      show Steps p.tables e below (T1047.setTop (mkF m 59 #[.val (.ref a1), .val (.ref tr), .val (.double (FP.l2d (Int64.ofNat z))), .second, .val (.int ((1 : Int32) &&& (own_fv z (S.1.getD x 0)))), .val (.ref tr), .val (.int (1 : Int32)), .val (.int (1 : Int32)), .val (.int (Int32.ofNat x))] [(.int (1 : Int32))])) _
      refine XS.iload X1047.here hx rfl (hb hby d4_59) rfl ?_
      show Steps p.tables e below (T1047.setTop (mkF m 61 #[.val (.ref a1), .val (.ref tr), .val (.double (FP.l2d (Int64.ofNat z))), .second, .val (.int ((1 : Int32) &&& (own_fv z (S.1.getD x 0)))), .val (.ref tr), .val (.int (1 : Int32)), .val (.int (1 : Int32)), .val (.int (Int32.ofNat x))] [(.int (1 : Int32)), (.int (1 : Int32))])) _
      refine XS.icmpYes X1047.here hx rfl (pc0 := 61) (pc' := 115) rfl (hb hby d4_61) rfl (flt (by decide)).2.1 (by decide) (by decide) ?_
      show Steps p.tables e below (T1047.setTop (mkF m 115 #[.val (.ref a1), .val (.ref tr), .val (.double (FP.l2d (Int64.ofNat z))), .second, .val (.int ((1 : Int32) &&& (own_fv z (S.1.getD x 0)))), .val (.ref tr), .val (.int (1 : Int32)), .val (.int (1 : Int32)), .val (.int (Int32.ofNat x))] [])) _
      refine XS.iload X1047.here hx rfl (hb hby d4_115) rfl ?_
      show Steps p.tables e below (T1047.setTop (mkF m 117 #[.val (.ref a1), .val (.ref tr), .val (.double (FP.l2d (Int64.ofNat z))), .second, .val (.int ((1 : Int32) &&& (own_fv z (S.1.getD x 0)))), .val (.ref tr), .val (.int (1 : Int32)), .val (.int (1 : Int32)), .val (.int (Int32.ofNat x))] [(.int ((1 : Int32) &&& (own_fv z (S.1.getD x 0))))])) _
      exact k)
    obtain ⟨fs, hr, hrun, hended, hW, hsame⟩ := X1047.leave (v := some (.int (nar .boolean ((1 : Int32) &&& (own_fv z (S.1.getD x 0)))))) (fun h => by rw [Bd.returns] at h; cases h)
    refine ⟨_, _, P1049 _ ?_, hrun, hended, _, _, rfl, ?_, ⟨_, rfl⟩, hW, hsame.mono (by decide) (by decide)⟩
    · exact retN X1047 hx (t := .boolean) Bd.returns (by simp) (hb hby d4_117) hr
    · show Q_try1 Z a1 ar ac al alr alc k1 k2 k3 k4 k5 S tr kt x z h0 n0 _ T1047.heap _
      rw [e1047]
      exact ⟨by rw [own_n1], N1047, K1047, Bs0⟩
  · have hle0 := own_fv1 hf0
    obtain ⟨T1050, X1050, e1050, st1050⟩ := getF X1044 hx hZ hown (host := "") (Or.inl (hw _ (List.mem_of_getElem? (i := 24) rfl))) Via.refl eg0 Fl0_room (g := (mkF m 88 #[.val (.ref a1), .val (.ref tr), .val (.double (FP.l2d (Int64.ofNat z))), .second, .val (.int ((1 : Int32) &&& (own_fv z (S.1.getD x 0)))), .val (.ref tr), .val (.int (1 : Int32)), .val (.int (0 : Int32)), .val (.int (Int32.ofNat x))] [(.ref a1)])) rfl rfl (hb hby d4_88)
    obtain ⟨cl1051, Ar1051, q1051, S1051, M1051, H1051, G1051⟩ := id Vl0_ar
    have hin1051 : ¬ ((Int32.ofNat x) < 0 ∨ cl1051.slots.size ≤ ((Int32.ofNat x)).toNatClampNeg) := own_in S1051 (n := 2) (by decide) (by decide) (Nat.lt_of_le_of_lt hx1 (by decide))
    have hat1051 : cl1051.slots[((Int32.ofNat x)).toNatClampNeg]? = some (.double (FP.l2d (Int64.ofNat ((own_log S x).1.getD x 0)))) := own_aD H1051 S1051 (n := 2) (by decide) (by decide) (Nat.lt_of_le_of_lt hx1 (by decide))
    have hsb0 := own_sub ((own_log S x).1.getD x 0) (Nat.lt_of_le_of_lt ((own_ok_log OK1 hx1).2.2.2.2.2.1 x) (by decide)) z hle0
    obtain ⟨cl1052, Ar1052, q1052, S1052, M1052, H1052, G1052⟩ := id Vl0_ar
    have hin1052 : ¬ ((Int32.ofNat x) < 0 ∨ cl1052.slots.size ≤ ((Int32.ofNat x)).toNatClampNeg) := own_in S1052 (n := 2) (by decide) (by decide) (Nat.lt_of_le_of_lt hx1 (by decide))
    obtain ⟨T1052, h1052, X1052, e1052, W1052, st1052⟩ := stD X1050 hx hZ e1050 Ar1052 (j := (Int32.ofNat x)) hin1052 (g := (mkF m 97 #[.val (.ref a1), .val (.ref tr), .val (.double (FP.l2d (Int64.ofNat z))), .second, .val (.int ((1 : Int32) &&& (own_fv z (S.1.getD x 0)))), .val (.ref tr), .val (.int (1 : Int32)), .val (.int (0 : Int32)), .val (.int (Int32.ofNat x))] [(.double (FP.l2d (Int64.ofNat (((own_log S x).1.getD x 0) - z)))), (.int (Int32.ofNat x)), (.ref ar)])) rfl rfl (hb hby d4_97)
    have V1052 := own_sD rfl (Arv.set Ar1052 q1052 S1052 M1052 H1052 G1052 rfl W1052 x (own_tn x (Nat.lt_of_le_of_lt hx1 (by decide))) (by rw [own_lenD]; exact Nat.lt_of_lt_of_le (Nat.lt_of_le_of_lt hx1 (by decide)) (Nat.le_of_eq (own_ok_log OK1 hx1).1.symm)))
    have c1053_0 := c1043_0.other W1052 ne_tr_ar
    have c1053_1 := El0.wr W1052
    have c1053_2 := Fl0_room.other W1052 (Or.inl ne_a1_ar)
    have c1053_3 := Fl0_closed.other W1052 (Or.inl ne_a1_ar)
    have c1053_4 := Fl0_loggedLink.other W1052 (Or.inl ne_a1_ar)
    have c1053_5 := Fl0_loggedRoom.other W1052 (Or.inl ne_a1_ar)
    have c1053_6 := Fl0_loggedClosed.other W1052 (Or.inl ne_a1_ar)
    have c1053_7 := Fl0_logged.other W1052 (Or.inl ne_a1_ar)
    have c1053_9 := Vl0_ac.other W1052 (Ne.symm ne_ar_ac)
    have c1053_10 := Vl0_al.other W1052 (Ne.symm ne_ar_al)
    have c1053_11 := Vl0_alr.other W1052 (Ne.symm ne_ar_alr)
    have c1053_12 := Vl0_alc.other W1052 (Ne.symm ne_ar_alc)
    have Z1052 : n0 ≤ h1052.size := Nat.le_trans Z1042 (Nat.le_of_eq W1052.size.symm)
    have K1052 : Keep h0 h1052 [a1, ar, ac, al, alr, alc] := K1042.wr W1052 (Or.inl (List.mem_of_getElem? (i := 1) rfl))
    have N1052 := Fr.snoc X1052 N1044 g_ar
    have Bs0 : own_St Z h1052 a1 ar ac al alr alc k1 k2 k3 k4 k5 (own_step z S x) := by rw [own_stepY (S := S) (i := x) hle0]; exact ⟨c1053_1, c1053_2, c1053_3, c1053_4, c1053_5, c1053_6, c1053_7, V1052, c1053_9, c1053_10, c1053_11, c1053_12⟩
    obtain ⟨Es0, Fs0_room, Fs0_closed, Fs0_loggedLink, Fs0_loggedRoom, Fs0_loggedClosed, Fs0_logged, Vs0_ar, Vs0_ac, Vs0_al, Vs0_alr, Vs0_alc⟩ := id Bs0
    have P1054 : ∀ t, Steps p.tables e below (T1052.setTop (mkF m 117 #[.val (.ref a1), .val (.ref tr), .val (.double (FP.l2d (Int64.ofNat z))), .second, .val (.int ((1 : Int32) &&& (own_fv z (S.1.getD x 0)))), .val (.ref tr), .val (.int (1 : Int32)), .val (.int (1 : Int32)), .val (.int (Int32.ofNat x))] [(.int ((1 : Int32) &&& (own_fv z (S.1.getD x 0))))])) t → Steps p.tables e below (s₁.setTop (entryFrame m #[(.ref a1), (.ref tr), (.double (FP.l2d (Int64.ofNat z)))] 9)) t := fun t k => P1045 t (by
      refine XS.ifNo X1044.here hx rfl (hb hby d4_84) rfl ((if0 _ _).trans (feq hf0).1) ?_
      show Steps p.tables e below (T1044.setTop (mkF m 87 #[.val (.ref a1), .val (.ref tr), .val (.double (FP.l2d (Int64.ofNat z))), .second, .val (.int ((1 : Int32) &&& (own_fv z (S.1.getD x 0)))), .val (.ref tr), .val (.int (1 : Int32)), .val (.int (0 : Int32)), .val (.int (Int32.ofNat x))] [])) _
      refine XS.aloadN X1044.here hx rfl (hb hby d4_87) rfl rfl ?_
      show Steps p.tables e below (T1044.setTop (mkF m 88 #[.val (.ref a1), .val (.ref tr), .val (.double (FP.l2d (Int64.ofNat z))), .second, .val (.int ((1 : Int32) &&& (own_fv z (S.1.getD x 0)))), .val (.ref tr), .val (.int (1 : Int32)), .val (.int (0 : Int32)), .val (.int (Int32.ofNat x))] [(.ref a1)])) _
      refine st1050 _ ?_
      show Steps p.tables e below (T1050.setTop (mkF m 91 #[.val (.ref a1), .val (.ref tr), .val (.double (FP.l2d (Int64.ofNat z))), .second, .val (.int ((1 : Int32) &&& (own_fv z (S.1.getD x 0)))), .val (.ref tr), .val (.int (1 : Int32)), .val (.int (0 : Int32)), .val (.int (Int32.ofNat x))] [(.ref ar)])) _
      refine XS.iload X1050.here hx rfl (hb hby d4_91) rfl ?_
      show Steps p.tables e below (T1050.setTop (mkF m 93 #[.val (.ref a1), .val (.ref tr), .val (.double (FP.l2d (Int64.ofNat z))), .second, .val (.int ((1 : Int32) &&& (own_fv z (S.1.getD x 0)))), .val (.ref tr), .val (.int (1 : Int32)), .val (.int (0 : Int32)), .val (.int (Int32.ofNat x))] [(.int (Int32.ofNat x)), (.ref ar)])) _
      refine Jvm.Free.XT.dup2 X1050.here hx rfl (hb hby d4_93) rfl rfl rfl ?_
      show Steps p.tables e below (T1050.setTop (mkF m 94 #[.val (.ref a1), .val (.ref tr), .val (.double (FP.l2d (Int64.ofNat z))), .second, .val (.int ((1 : Int32) &&& (own_fv z (S.1.getD x 0)))), .val (.ref tr), .val (.int (1 : Int32)), .val (.int (0 : Int32)), .val (.int (Int32.ofNat x))] [(.int (Int32.ofNat x)), (.ref ar), (.int (Int32.ofNat x)), (.ref ar)])) _
      refine X1050.daload hx (j := (Int32.ofNat x)) (v := (.double (FP.l2d (Int64.ofNat ((own_log S x).1.getD x 0))))) (by rw [e1050]; exact Ar1051.1) (State.isArrayOf_alike hZ.alike Ar1051.2.1) Ar1051.2.2 hin1051 hat1051 (g := (mkF m 94 #[.val (.ref a1), .val (.ref tr), .val (.double (FP.l2d (Int64.ofNat z))), .second, .val (.int ((1 : Int32) &&& (own_fv z (S.1.getD x 0)))), .val (.ref tr), .val (.int (1 : Int32)), .val (.int (0 : Int32)), .val (.int (Int32.ofNat x))] [(.int (Int32.ofNat x)), (.ref ar), (.int (Int32.ofNat x)), (.ref ar)])) rfl rfl (hb hby d4_94) _ ?_
      show Steps p.tables e below (T1050.setTop (mkF m 95 #[.val (.ref a1), .val (.ref tr), .val (.double (FP.l2d (Int64.ofNat z))), .second, .val (.int ((1 : Int32) &&& (own_fv z (S.1.getD x 0)))), .val (.ref tr), .val (.int (1 : Int32)), .val (.int (0 : Int32)), .val (.int (Int32.ofNat x))] [(.double (FP.l2d (Int64.ofNat ((own_log S x).1.getD x 0)))), (.int (Int32.ofNat x)), (.ref ar)])) _
      refine XS.dloadN X1050.here hx rfl (hb hby d4_95) rfl ?_
      show Steps p.tables e below (T1050.setTop (mkF m 96 #[.val (.ref a1), .val (.ref tr), .val (.double (FP.l2d (Int64.ofNat z))), .second, .val (.int ((1 : Int32) &&& (own_fv z (S.1.getD x 0)))), .val (.ref tr), .val (.int (1 : Int32)), .val (.int (0 : Int32)), .val (.int (Int32.ofNat x))] [(.double (FP.l2d (Int64.ofNat z))), (.double (FP.l2d (Int64.ofNat ((own_log S x).1.getD x 0)))), (.int (Int32.ofNat x)), (.ref ar)])) _
      refine XS.dsubS X1050.here hx rfl (hb hby d4_96) rfl hsb0.1 (v := FP.l2d (Int64.ofNat (((own_log S x).1.getD x 0) - z))) hsb0.2 ?_
      show Steps p.tables e below (T1050.setTop (mkF m 97 #[.val (.ref a1), .val (.ref tr), .val (.double (FP.l2d (Int64.ofNat z))), .second, .val (.int ((1 : Int32) &&& (own_fv z (S.1.getD x 0)))), .val (.ref tr), .val (.int (1 : Int32)), .val (.int (0 : Int32)), .val (.int (Int32.ofNat x))] [(.double (FP.l2d (Int64.ofNat (((own_log S x).1.getD x 0) - z)))), (.int (Int32.ofNat x)), (.ref ar)])) _
      refine st1052 _ ?_
      show Steps p.tables e below (T1052.setTop (mkF m 98 #[.val (.ref a1), .val (.ref tr), .val (.double (FP.l2d (Int64.ofNat z))), .second, .val (.int ((1 : Int32) &&& (own_fv z (S.1.getD x 0)))), .val (.ref tr), .val (.int (1 : Int32)), .val (.int (0 : Int32)), .val (.int (Int32.ofNat x))] [])) _
      refine XS.goto X1052.here hx rfl (pc0 := 98) (pc' := 109) rfl (hb hby d4_98) (by decide) (by decide) ?_
      show Steps p.tables e below (T1052.setTop (mkF m 109 #[.val (.ref a1), .val (.ref tr), .val (.double (FP.l2d (Int64.ofNat z))), .second, .val (.int ((1 : Int32) &&& (own_fv z (S.1.getD x 0)))), .val (.ref tr), .val (.int (1 : Int32)), .val (.int (0 : Int32)), .val (.int (Int32.ofNat x))] [])) _
      refine XS.iinc X1052.here hx rfl (hb hby d4_109) rfl (l' := #[.val (.ref a1), .val (.ref tr), .val (.double (FP.l2d (Int64.ofNat z))), .second, .val (.int ((1 : Int32) &&& (own_fv z (S.1.getD x 0)))), .val (.ref tr), .val (.int (1 : Int32)), .val (.int (1 : Int32)), .val (.int (Int32.ofNat x))]) rfl ?_
      show Steps p.tables e below (T1052.setTop (mkF m 112 #[.val (.ref a1), .val (.ref tr), .val (.double (FP.l2d (Int64.ofNat z))), .second, .val (.int ((1 : Int32) &&& (own_fv z (S.1.getD x 0)))), .val (.ref tr), .val (.int (1 : Int32)), .val (.int (1 : Int32)), .val (.int (Int32.ofNat x))] [])) _
      refine XS.goto X1052.here hx rfl (pc0 := 112) (pc' := 57) rfl (hb hby d4_112) (by decide) (by decide) ?_
      show Steps p.tables e below (T1052.setTop (mkF m 57 #[.val (.ref a1), .val (.ref tr), .val (.double (FP.l2d (Int64.ofNat z))), .second, .val (.int ((1 : Int32) &&& (own_fv z (S.1.getD x 0)))), .val (.ref tr), .val (.int (1 : Int32)), .val (.int (1 : Int32)), .val (.int (Int32.ofNat x))] [])) _
      refine XS.iload X1052.here hx rfl (hb hby d4_57) rfl ?_
      show Steps p.tables e below (T1052.setTop (mkF m 59 #[.val (.ref a1), .val (.ref tr), .val (.double (FP.l2d (Int64.ofNat z))), .second, .val (.int ((1 : Int32) &&& (own_fv z (S.1.getD x 0)))), .val (.ref tr), .val (.int (1 : Int32)), .val (.int (1 : Int32)), .val (.int (Int32.ofNat x))] [(.int (1 : Int32))])) _
      refine XS.iload X1052.here hx rfl (hb hby d4_59) rfl ?_
      show Steps p.tables e below (T1052.setTop (mkF m 61 #[.val (.ref a1), .val (.ref tr), .val (.double (FP.l2d (Int64.ofNat z))), .second, .val (.int ((1 : Int32) &&& (own_fv z (S.1.getD x 0)))), .val (.ref tr), .val (.int (1 : Int32)), .val (.int (1 : Int32)), .val (.int (Int32.ofNat x))] [(.int (1 : Int32)), (.int (1 : Int32))])) _
      refine XS.icmpYes X1052.here hx rfl (pc0 := 61) (pc' := 115) rfl (hb hby d4_61) rfl (flt (by decide)).2.1 (by decide) (by decide) ?_
      show Steps p.tables e below (T1052.setTop (mkF m 115 #[.val (.ref a1), .val (.ref tr), .val (.double (FP.l2d (Int64.ofNat z))), .second, .val (.int ((1 : Int32) &&& (own_fv z (S.1.getD x 0)))), .val (.ref tr), .val (.int (1 : Int32)), .val (.int (1 : Int32)), .val (.int (Int32.ofNat x))] [])) _
      refine XS.iload X1052.here hx rfl (hb hby d4_115) rfl ?_
      show Steps p.tables e below (T1052.setTop (mkF m 117 #[.val (.ref a1), .val (.ref tr), .val (.double (FP.l2d (Int64.ofNat z))), .second, .val (.int ((1 : Int32) &&& (own_fv z (S.1.getD x 0)))), .val (.ref tr), .val (.int (1 : Int32)), .val (.int (1 : Int32)), .val (.int (Int32.ofNat x))] [(.int ((1 : Int32) &&& (own_fv z (S.1.getD x 0))))])) _
      exact k)
    obtain ⟨fs, hr, hrun, hended, hW, hsame⟩ := X1052.leave (v := some (.int (nar .boolean ((1 : Int32) &&& (own_fv z (S.1.getD x 0)))))) (fun h => by rw [Bd.returns] at h; cases h)
    refine ⟨_, _, P1054 _ ?_, hrun, hended, _, _, rfl, ?_, ⟨_, rfl⟩, hW, hsame.mono (by decide) (by decide)⟩
    · exact retN X1052 hx (t := .boolean) Bd.returns (by simp) (hb hby d4_117) hr
    · show Q_try1 Z a1 ar ac al alr alc k1 k2 k3 k4 k5 S tr kt x z h0 n0 _ T1052.heap _
      rw [e1052]
      exact ⟨by rw [own_n1], N1052, K1052, Bs0⟩
theorem ef_open2 (m : MethodId) (x0 : Addr) (x1 : Addr) : entryFrame m #[(.ref x0), (.ref x1)] 6 = mkF m 0 #[.val (.ref x0), .val (.ref x1), .unset, .unset, .unset, .unset] [] := by first | (simp [entryFrame, mkF, argsToLocals, Value.category]; done) | rfl
def Q_open2 (Z : State) (a1 : Addr) (ar : Addr) (ac : Addr) (al : Addr) (alr : Addr) (alc : Addr) (k1 : ClassId) (k2 : ClassId) (k3 : ClassId) (k4 : ClassId) (k5 : ClassId) (S : own_S) (tr : Addr) (kt : ClassId) (x : Nat) (y : Nat) (h0 : Heap) (n0 : Nat) (v : Option Value) (h : Heap) (L : List Loc) : Prop := ∃ q : Int32, v = some (.int q) ∧ Fr n0 L ∧ h = h0 ∧ True
set_option maxRecDepth 65536 in
set_option maxHeartbeats 40000000 in
theorem rm_open2 (l : Launch) (Z : State) (a0 : Array Value) (hw : ∀ d ∈ tables_1, d.before a0 Z = true) (ws : List Jvm.Cond) (a1 : Addr) (ar : Addr) (ac : Addr) (al : Addr) (alr : Addr) (alc : Addr) (k1 : ClassId) (k2 : ClassId) (k3 : ClassId) (k4 : ClassId) (k5 : ClassId) (S : own_S) (tr : Addr) (kt : ClassId) (x : Nat) (y : Nat) (h0 : Heap) (n0 : Nat) (Z0 : n0 ≤ h0.size) (B1 : own_St Z h0 a1 ar ac al alr alc k1 k2 k3 k4 k5 S) (D1 : own_D a1 ar ac al alr alc) (G1 : own_G n0 a1 ar ac al alr alc) (OK1 : own_ok S) (VT : Arv Z h0 tr kt .int (2 : Int32) [(.int (Int32.ofNat x)), (.int (Int32.ofNat y))] (.int (0 : Int32))) (DT : tr ≠ a1 ∧ tr ≠ ar ∧ tr ≠ ac ∧ tr ≠ al ∧ tr ≠ alr ∧ tr ≠ alc) (hx1 : x ≤ 1) (hy1 : y ≤ 1) :
    MetFree l (⟨"com/example/tributary/tributary/solver/Rooms", "open", "([I)Z"⟩ : MethodName) (head1 (Jvm.Cond.code (⟨"com/example/tributary/tributary/solver/Rooms", "open", "([I)Z"⟩ : MethodName) prog_52_method_2_code 6 (some .boolean) :: ws) ({ frames := 0, cells := 0, slots := 0, locals := 0 } : Room)) (fun a U => a = #[(.ref a1), (.ref tr)] ∧ Z.Warmed39 U.vm ∧ U.heap = h0) (fun _ _ _ _ _ => True) (fun _ U o U' => ∃ v L, o = .returned v ∧ Q_open2 Z a1 ar ac al alr alc k1 k2 k3 k4 k5 S tr kt x y h0 n0 v U'.heap L ∧ FrameEnd U o U' L ({ frames := 0, cells := 0, slots := 0, locals := 0 } : Room).cells ({ frames := 0, cells := 0, slots := 0, locals := 0 } : Room).slots) := by
  refine MetFree.of_bodySF (plainFor_of_name pn_1) hisR ?_
  intro p e s m args below meth c s₁ Bd hml0 hP hK
  obtain ⟨rfl, hZ, hh⟩ := hP
  have hx := Bd.exec
  have hby := Bd.bytes
  have hml : c.maxLocals = 6 := hml0
  have hown : s.vm.findClass "com/example/tributary/tributary/solver/Rooms" = some m.cls := findClass_of_methodNamed Bd.named
  have hnm := (name_of_methodNamed Bd.named Bd.method).1
  have X0 : Stand p l e ({ frames := 0, cells := 0, slots := 0, locals := 0 } : Room) s m #[(.ref a1), (.ref tr)] below meth c s₁ [] 0 0 := Stand.of_body Bd
  have e0 : s₁.heap = h0 := by rw [← hh, Bd.state]; rfl
  have N0 := Fr.nil n0
  have K0 : Keep h0 h0 [] := Keep.refl h0 []
  have P0 : ∀ t, Steps p.tables e below (s₁.setTop (mkF m 0 #[.val (.ref a1), .val (.ref tr), .unset, .unset, .unset, .unset] [])) t → Steps p.tables e below (s₁.setTop (entryFrame m #[(.ref a1), (.ref tr)] 6)) t := fun t k => castTop (ef_open2 m a1 tr) k
  obtain ⟨E0, F0_room, F0_closed, F0_loggedLink, F0_loggedRoom, F0_loggedClosed, F0_logged, V0_ar, V0_ac, V0_al, V0_alr, V0_alc⟩ := id B1
  obtain ⟨ne_a1_ar, ne_a1_ac, ne_a1_al, ne_a1_alr, ne_a1_alc, ne_ar_ac, ne_ar_al, ne_ar_alr, ne_ar_alc, ne_ac_al, ne_ac_alr, ne_ac_alc, ne_al_alr, ne_al_alc, ne_alr_alc⟩ := id D1
  obtain ⟨g_a1, g_ar, g_ac, g_al, g_alr, g_alc⟩ := id G1
  obtain ⟨ne_tr_a1, ne_tr_ar, ne_tr_ac, ne_tr_al, ne_tr_alr, ne_tr_alc⟩ := id DT
  obtain ⟨cl1055, Ar1055, q1055, S1055, M1055, -, -⟩ := id VT
  obtain ⟨cl1056, Ar1056, q1056, S1056, M1056, H1056, G1056⟩ := id VT
  have hin1056 : ¬ ((0 : Int32) < 0 ∨ cl1056.slots.size ≤ ((0 : Int32)).toNatClampNeg) := inb_of S1056 ⟨by decide, by decide⟩
  have hat1056 : cl1056.slots[((0 : Int32)).toNatClampNeg]? = some (.int (Int32.ofNat x)) := Has.at H1056 hin1056 rfl
  obtain ⟨T1057, X1057, e1057, st1057⟩ := getF X0 hx hZ hown (host := "") (Or.inl (hw _ (List.mem_of_getElem? (i := 27) rfl))) Via.refl e0 F0_closed (g := (mkF m 21 #[.val (.ref a1), .val (.ref tr), .val (.ref tr), .val (.int (2 : Int32)), .val (.int (0 : Int32)), .val (.int (Int32.ofNat x))] [(.ref a1)])) rfl rfl (hb hby d9_21)
  obtain ⟨cl1058, Ar1058, q1058, S1058, M1058, H1058, G1058⟩ := id V0_ac
  have hin1058 : ¬ ((Int32.ofNat x) < 0 ∨ cl1058.slots.size ≤ ((Int32.ofNat x)).toNatClampNeg) := own_in S1058 (n := 2) (by decide) (by decide) (Nat.lt_of_le_of_lt hx1 (by decide))
  have hat1058 : cl1058.slots[((Int32.ofNat x)).toNatClampNeg]? = some (.int (Int32.ofNat (S.2.1.getD x 0))) := own_aI H1058 S1058 (n := 2) (by decide) (by decide) (Nat.lt_of_le_of_lt hx1 (by decide))
  have P1059 : ∀ t, Steps p.tables e below (T1057.setTop (mkF m 27 #[.val (.ref a1), .val (.ref tr), .val (.ref tr), .val (.int (2 : Int32)), .val (.int (0 : Int32)), .val (.int (Int32.ofNat x))] [(.int (Int32.ofNat (S.2.1.getD x 0)))])) t → Steps p.tables e below (s₁.setTop (entryFrame m #[(.ref a1), (.ref tr)] 6)) t := fun t k => P0 t (by
    refine XS.aloadN X0.here hx rfl (hb hby d9_0) rfl rfl ?_
    show Steps p.tables e below (s₁.setTop (mkF m 1 #[.val (.ref a1), .val (.ref tr), .unset, .unset, .unset, .unset] [(.ref tr)])) _
    refine XS.astoreN X0.here hx rfl (hb hby d9_1) rfl rfl (l' := #[.val (.ref a1), .val (.ref tr), .val (.ref tr), .unset, .unset, .unset]) rfl ?_
    show Steps p.tables e below (s₁.setTop (mkF m 2 #[.val (.ref a1), .val (.ref tr), .val (.ref tr), .unset, .unset, .unset] [])) _
    refine XS.aloadN X0.here hx rfl (hb hby d9_2) rfl rfl ?_
    show Steps p.tables e below (s₁.setTop (mkF m 3 #[.val (.ref a1), .val (.ref tr), .val (.ref tr), .unset, .unset, .unset] [(.ref tr)])) _
    refine X0.arraylength hx (by rw [e0]; exact Ar1055.1) (State.isArrayOf_alike hZ.alike Ar1055.2.1) (g := (mkF m 3 #[.val (.ref a1), .val (.ref tr), .val (.ref tr), .unset, .unset, .unset] [(.ref tr)])) rfl rfl (hb hby d9_3) _ ?_
    rw [len_of S1055 M1055]
    show Steps p.tables e below (s₁.setTop (mkF m 4 #[.val (.ref a1), .val (.ref tr), .val (.ref tr), .unset, .unset, .unset] [(.int (2 : Int32))])) _
    refine XS.istoreN X0.here hx rfl (hb hby d9_4) rfl (l' := #[.val (.ref a1), .val (.ref tr), .val (.ref tr), .val (.int (2 : Int32)), .unset, .unset]) rfl ?_
    show Steps p.tables e below (s₁.setTop (mkF m 5 #[.val (.ref a1), .val (.ref tr), .val (.ref tr), .val (.int (2 : Int32)), .unset, .unset] [])) _
    refine XS.iconst X0.here hx rfl (hb hby d9_5) ?_
    show Steps p.tables e below (s₁.setTop (mkF m 6 #[.val (.ref a1), .val (.ref tr), .val (.ref tr), .val (.int (2 : Int32)), .unset, .unset] [(.int (0 : Int32))])) _
    refine XS.istore X0.here hx rfl (hb hby d9_6) rfl (l' := #[.val (.ref a1), .val (.ref tr), .val (.ref tr), .val (.int (2 : Int32)), .val (.int (0 : Int32)), .unset]) rfl ?_
    show Steps p.tables e below (s₁.setTop (mkF m 8 #[.val (.ref a1), .val (.ref tr), .val (.ref tr), .val (.int (2 : Int32)), .val (.int (0 : Int32)), .unset] [])) _
    refine XS.iload X0.here hx rfl (hb hby d9_8) rfl ?_
    show Steps p.tables e below (s₁.setTop (mkF m 10 #[.val (.ref a1), .val (.ref tr), .val (.ref tr), .val (.int (2 : Int32)), .val (.int (0 : Int32)), .unset] [(.int (0 : Int32))])) _
    refine XS.iloadN X0.here hx rfl (hb hby d9_10) rfl ?_
    show Steps p.tables e below (s₁.setTop (mkF m 11 #[.val (.ref a1), .val (.ref tr), .val (.ref tr), .val (.int (2 : Int32)), .val (.int (0 : Int32)), .unset] [(.int (2 : Int32)), (.int (0 : Int32))])) _
    refine XS.icmpNo X0.here hx rfl (hb hby d9_11) rfl (tlt (by decide)).2.1 ?_
    show Steps p.tables e below (s₁.setTop (mkF m 14 #[.val (.ref a1), .val (.ref tr), .val (.ref tr), .val (.int (2 : Int32)), .val (.int (0 : Int32)), .unset] [])) _
    refine XS.aloadN X0.here hx rfl (hb hby d9_14) rfl rfl ?_
    show Steps p.tables e below (s₁.setTop (mkF m 15 #[.val (.ref a1), .val (.ref tr), .val (.ref tr), .val (.int (2 : Int32)), .val (.int (0 : Int32)), .unset] [(.ref tr)])) _
    refine XS.iload X0.here hx rfl (hb hby d9_15) rfl ?_
    show Steps p.tables e below (s₁.setTop (mkF m 17 #[.val (.ref a1), .val (.ref tr), .val (.ref tr), .val (.int (2 : Int32)), .val (.int (0 : Int32)), .unset] [(.int (0 : Int32)), (.ref tr)])) _
    refine X0.iaload hx (j := (0 : Int32)) (v := (.int (Int32.ofNat x))) (by rw [e0]; exact Ar1056.1) (State.isArrayOf_alike hZ.alike Ar1056.2.1) Ar1056.2.2 hin1056 hat1056 (g := (mkF m 17 #[.val (.ref a1), .val (.ref tr), .val (.ref tr), .val (.int (2 : Int32)), .val (.int (0 : Int32)), .unset] [(.int (0 : Int32)), (.ref tr)])) rfl rfl (hb hby d9_17) _ ?_
    show Steps p.tables e below (s₁.setTop (mkF m 18 #[.val (.ref a1), .val (.ref tr), .val (.ref tr), .val (.int (2 : Int32)), .val (.int (0 : Int32)), .unset] [(.int (Int32.ofNat x))])) _
    refine XS.istore X0.here hx rfl (hb hby d9_18) rfl (l' := #[.val (.ref a1), .val (.ref tr), .val (.ref tr), .val (.int (2 : Int32)), .val (.int (0 : Int32)), .val (.int (Int32.ofNat x))]) rfl ?_
    show Steps p.tables e below (s₁.setTop (mkF m 20 #[.val (.ref a1), .val (.ref tr), .val (.ref tr), .val (.int (2 : Int32)), .val (.int (0 : Int32)), .val (.int (Int32.ofNat x))] [])) _
    refine XS.aloadN X0.here hx rfl (hb hby d9_20) rfl rfl ?_
    show Steps p.tables e below (s₁.setTop (mkF m 21 #[.val (.ref a1), .val (.ref tr), .val (.ref tr), .val (.int (2 : Int32)), .val (.int (0 : Int32)), .val (.int (Int32.ofNat x))] [(.ref a1)])) _
    refine st1057 _ ?_
    show Steps p.tables e below (T1057.setTop (mkF m 24 #[.val (.ref a1), .val (.ref tr), .val (.ref tr), .val (.int (2 : Int32)), .val (.int (0 : Int32)), .val (.int (Int32.ofNat x))] [(.ref ac)])) _
    refine XS.iload X1057.here hx rfl (hb hby d9_24) rfl ?_
    show Steps p.tables e below (T1057.setTop (mkF m 26 #[.val (.ref a1), .val (.ref tr), .val (.ref tr), .val (.int (2 : Int32)), .val (.int (0 : Int32)), .val (.int (Int32.ofNat x))] [(.int (Int32.ofNat x)), (.ref ac)])) _
    refine X1057.baloadBooleans hx (j := (Int32.ofNat x)) (v := (.int (Int32.ofNat (S.2.1.getD x 0)))) (by rw [e1057]; exact Ar1058.1) (State.isArrayOf_alike hZ.alike Ar1058.2.1) Ar1058.2.2 hin1058 hat1058 (g := (mkF m 26 #[.val (.ref a1), .val (.ref tr), .val (.ref tr), .val (.int (2 : Int32)), .val (.int (0 : Int32)), .val (.int (Int32.ofNat x))] [(.int (Int32.ofNat x)), (.ref ac)])) rfl rfl (hb hby d9_26) _ ?_
    show Steps p.tables e below (T1057.setTop (mkF m 27 #[.val (.ref a1), .val (.ref tr), .val (.ref tr), .val (.int (2 : Int32)), .val (.int (0 : Int32)), .val (.int (Int32.ofNat x))] [(.int (Int32.ofNat (S.2.1.getD x 0)))])) _
    exact k)
  by_cases hq0 : (Int32.ofNat (S.2.1.getD x 0)) = (0 : Int32)
  · obtain ⟨cl1060, Ar1060, q1060, S1060, M1060, H1060, G1060⟩ := id VT
    have hin1060 : ¬ ((1 : Int32) < 0 ∨ cl1060.slots.size ≤ ((1 : Int32)).toNatClampNeg) := inb_of S1060 ⟨by decide, by decide⟩
    have hat1060 : cl1060.slots[((1 : Int32)).toNatClampNeg]? = some (.int (Int32.ofNat y)) := Has.at H1060 hin1060 rfl
    obtain ⟨T1061, X1061, e1061, st1061⟩ := getF X1057 hx hZ hown (host := "") (Or.inl (hw _ (List.mem_of_getElem? (i := 27) rfl))) Via.refl e1057 F0_closed (g := (mkF m 21 #[.val (.ref a1), .val (.ref tr), .val (.ref tr), .val (.int (2 : Int32)), .val (.int (1 : Int32)), .val (.int (Int32.ofNat y))] [(.ref a1)])) rfl rfl (hb hby d9_21)
    obtain ⟨cl1062, Ar1062, q1062, S1062, M1062, H1062, G1062⟩ := id V0_ac
    have hin1062 : ¬ ((Int32.ofNat y) < 0 ∨ cl1062.slots.size ≤ ((Int32.ofNat y)).toNatClampNeg) := own_in S1062 (n := 2) (by decide) (by decide) (Nat.lt_of_le_of_lt hy1 (by decide))
    have hat1062 : cl1062.slots[((Int32.ofNat y)).toNatClampNeg]? = some (.int (Int32.ofNat (S.2.1.getD y 0))) := own_aI H1062 S1062 (n := 2) (by decide) (by decide) (Nat.lt_of_le_of_lt hy1 (by decide))
    have P1063 : ∀ t, Steps p.tables e below (T1061.setTop (mkF m 27 #[.val (.ref a1), .val (.ref tr), .val (.ref tr), .val (.int (2 : Int32)), .val (.int (1 : Int32)), .val (.int (Int32.ofNat y))] [(.int (Int32.ofNat (S.2.1.getD y 0)))])) t → Steps p.tables e below (s₁.setTop (entryFrame m #[(.ref a1), (.ref tr)] 6)) t := fun t k => P1059 t (by
      refine XS.ifYes X1057.here hx rfl (pc0 := 27) (pc' := 32) rfl (hb hby d9_27) rfl ((if0 _ _).trans (teq hq0).1) (by decide) (by decide) ?_
      show Steps p.tables e below (T1057.setTop (mkF m 32 #[.val (.ref a1), .val (.ref tr), .val (.ref tr), .val (.int (2 : Int32)), .val (.int (0 : Int32)), .val (.int (Int32.ofNat x))] [])) _
      refine XS.iinc X1057.here hx rfl (hb hby d9_32) rfl (l' := #[.val (.ref a1), .val (.ref tr), .val (.ref tr), .val (.int (2 : Int32)), .val (.int (1 : Int32)), .val (.int (Int32.ofNat x))]) rfl ?_
      show Steps p.tables e below (T1057.setTop (mkF m 35 #[.val (.ref a1), .val (.ref tr), .val (.ref tr), .val (.int (2 : Int32)), .val (.int (1 : Int32)), .val (.int (Int32.ofNat x))] [])) _
      refine XS.goto X1057.here hx rfl (pc0 := 35) (pc' := 8) rfl (hb hby d9_35) (by decide) (by decide) ?_
      show Steps p.tables e below (T1057.setTop (mkF m 8 #[.val (.ref a1), .val (.ref tr), .val (.ref tr), .val (.int (2 : Int32)), .val (.int (1 : Int32)), .val (.int (Int32.ofNat x))] [])) _
      refine XS.iload X1057.here hx rfl (hb hby d9_8) rfl ?_
      show Steps p.tables e below (T1057.setTop (mkF m 10 #[.val (.ref a1), .val (.ref tr), .val (.ref tr), .val (.int (2 : Int32)), .val (.int (1 : Int32)), .val (.int (Int32.ofNat x))] [(.int (1 : Int32))])) _
      refine XS.iloadN X1057.here hx rfl (hb hby d9_10) rfl ?_
      show Steps p.tables e below (T1057.setTop (mkF m 11 #[.val (.ref a1), .val (.ref tr), .val (.ref tr), .val (.int (2 : Int32)), .val (.int (1 : Int32)), .val (.int (Int32.ofNat x))] [(.int (2 : Int32)), (.int (1 : Int32))])) _
      refine XS.icmpNo X1057.here hx rfl (hb hby d9_11) rfl (tlt (by decide)).2.1 ?_
      show Steps p.tables e below (T1057.setTop (mkF m 14 #[.val (.ref a1), .val (.ref tr), .val (.ref tr), .val (.int (2 : Int32)), .val (.int (1 : Int32)), .val (.int (Int32.ofNat x))] [])) _
      refine XS.aloadN X1057.here hx rfl (hb hby d9_14) rfl rfl ?_
      show Steps p.tables e below (T1057.setTop (mkF m 15 #[.val (.ref a1), .val (.ref tr), .val (.ref tr), .val (.int (2 : Int32)), .val (.int (1 : Int32)), .val (.int (Int32.ofNat x))] [(.ref tr)])) _
      refine XS.iload X1057.here hx rfl (hb hby d9_15) rfl ?_
      show Steps p.tables e below (T1057.setTop (mkF m 17 #[.val (.ref a1), .val (.ref tr), .val (.ref tr), .val (.int (2 : Int32)), .val (.int (1 : Int32)), .val (.int (Int32.ofNat x))] [(.int (1 : Int32)), (.ref tr)])) _
      refine X1057.iaload hx (j := (1 : Int32)) (v := (.int (Int32.ofNat y))) (by rw [e1057]; exact Ar1060.1) (State.isArrayOf_alike hZ.alike Ar1060.2.1) Ar1060.2.2 hin1060 hat1060 (g := (mkF m 17 #[.val (.ref a1), .val (.ref tr), .val (.ref tr), .val (.int (2 : Int32)), .val (.int (1 : Int32)), .val (.int (Int32.ofNat x))] [(.int (1 : Int32)), (.ref tr)])) rfl rfl (hb hby d9_17) _ ?_
      show Steps p.tables e below (T1057.setTop (mkF m 18 #[.val (.ref a1), .val (.ref tr), .val (.ref tr), .val (.int (2 : Int32)), .val (.int (1 : Int32)), .val (.int (Int32.ofNat x))] [(.int (Int32.ofNat y))])) _
      refine XS.istore X1057.here hx rfl (hb hby d9_18) rfl (l' := #[.val (.ref a1), .val (.ref tr), .val (.ref tr), .val (.int (2 : Int32)), .val (.int (1 : Int32)), .val (.int (Int32.ofNat y))]) rfl ?_
      show Steps p.tables e below (T1057.setTop (mkF m 20 #[.val (.ref a1), .val (.ref tr), .val (.ref tr), .val (.int (2 : Int32)), .val (.int (1 : Int32)), .val (.int (Int32.ofNat y))] [])) _
      refine XS.aloadN X1057.here hx rfl (hb hby d9_20) rfl rfl ?_
      show Steps p.tables e below (T1057.setTop (mkF m 21 #[.val (.ref a1), .val (.ref tr), .val (.ref tr), .val (.int (2 : Int32)), .val (.int (1 : Int32)), .val (.int (Int32.ofNat y))] [(.ref a1)])) _
      refine st1061 _ ?_
      show Steps p.tables e below (T1061.setTop (mkF m 24 #[.val (.ref a1), .val (.ref tr), .val (.ref tr), .val (.int (2 : Int32)), .val (.int (1 : Int32)), .val (.int (Int32.ofNat y))] [(.ref ac)])) _
      refine XS.iload X1061.here hx rfl (hb hby d9_24) rfl ?_
      show Steps p.tables e below (T1061.setTop (mkF m 26 #[.val (.ref a1), .val (.ref tr), .val (.ref tr), .val (.int (2 : Int32)), .val (.int (1 : Int32)), .val (.int (Int32.ofNat y))] [(.int (Int32.ofNat y)), (.ref ac)])) _
      refine X1061.baloadBooleans hx (j := (Int32.ofNat y)) (v := (.int (Int32.ofNat (S.2.1.getD y 0)))) (by rw [e1061]; exact Ar1062.1) (State.isArrayOf_alike hZ.alike Ar1062.2.1) Ar1062.2.2 hin1062 hat1062 (g := (mkF m 26 #[.val (.ref a1), .val (.ref tr), .val (.ref tr), .val (.int (2 : Int32)), .val (.int (1 : Int32)), .val (.int (Int32.ofNat y))] [(.int (Int32.ofNat y)), (.ref ac)])) rfl rfl (hb hby d9_26) _ ?_
      show Steps p.tables e below (T1061.setTop (mkF m 27 #[.val (.ref a1), .val (.ref tr), .val (.ref tr), .val (.int (2 : Int32)), .val (.int (1 : Int32)), .val (.int (Int32.ofNat y))] [(.int (Int32.ofNat (S.2.1.getD y 0)))])) _
      exact k)
    by_cases hq1 : (Int32.ofNat (S.2.1.getD y 0)) = (0 : Int32)
    · have P1064 : ∀ t, Steps p.tables e below (T1061.setTop (mkF m 39 #[.val (.ref a1), .val (.ref tr), .val (.ref tr), .val (.int (2 : Int32)), .val (.int (2 : Int32)), .val (.int (Int32.ofNat y))] [(.int (1 : Int32))])) t → Steps p.tables e below (s₁.setTop (entryFrame m #[(.ref a1), (.ref tr)] 6)) t := fun t k => P1063 t (by
        refine XS.ifYes X1061.here hx rfl (pc0 := 27) (pc' := 32) rfl (hb hby d9_27) rfl ((if0 _ _).trans (teq hq1).1) (by decide) (by decide) ?_
        show Steps p.tables e below (T1061.setTop (mkF m 32 #[.val (.ref a1), .val (.ref tr), .val (.ref tr), .val (.int (2 : Int32)), .val (.int (1 : Int32)), .val (.int (Int32.ofNat y))] [])) _
        refine XS.iinc X1061.here hx rfl (hb hby d9_32) rfl (l' := #[.val (.ref a1), .val (.ref tr), .val (.ref tr), .val (.int (2 : Int32)), .val (.int (2 : Int32)), .val (.int (Int32.ofNat y))]) rfl ?_
        show Steps p.tables e below (T1061.setTop (mkF m 35 #[.val (.ref a1), .val (.ref tr), .val (.ref tr), .val (.int (2 : Int32)), .val (.int (2 : Int32)), .val (.int (Int32.ofNat y))] [])) _
        refine XS.goto X1061.here hx rfl (pc0 := 35) (pc' := 8) rfl (hb hby d9_35) (by decide) (by decide) ?_
        show Steps p.tables e below (T1061.setTop (mkF m 8 #[.val (.ref a1), .val (.ref tr), .val (.ref tr), .val (.int (2 : Int32)), .val (.int (2 : Int32)), .val (.int (Int32.ofNat y))] [])) _
        refine XS.iload X1061.here hx rfl (hb hby d9_8) rfl ?_
        show Steps p.tables e below (T1061.setTop (mkF m 10 #[.val (.ref a1), .val (.ref tr), .val (.ref tr), .val (.int (2 : Int32)), .val (.int (2 : Int32)), .val (.int (Int32.ofNat y))] [(.int (2 : Int32))])) _
        refine XS.iloadN X1061.here hx rfl (hb hby d9_10) rfl ?_
        show Steps p.tables e below (T1061.setTop (mkF m 11 #[.val (.ref a1), .val (.ref tr), .val (.ref tr), .val (.int (2 : Int32)), .val (.int (2 : Int32)), .val (.int (Int32.ofNat y))] [(.int (2 : Int32)), (.int (2 : Int32))])) _
        refine XS.icmpYes X1061.here hx rfl (pc0 := 11) (pc' := 38) rfl (hb hby d9_11) rfl (flt (by decide)).2.1 (by decide) (by decide) ?_
        show Steps p.tables e below (T1061.setTop (mkF m 38 #[.val (.ref a1), .val (.ref tr), .val (.ref tr), .val (.int (2 : Int32)), .val (.int (2 : Int32)), .val (.int (Int32.ofNat y))] [])) _
        refine XS.iconst X1061.here hx rfl (hb hby d9_38) ?_
        show Steps p.tables e below (T1061.setTop (mkF m 39 #[.val (.ref a1), .val (.ref tr), .val (.ref tr), .val (.int (2 : Int32)), .val (.int (2 : Int32)), .val (.int (Int32.ofNat y))] [(.int (1 : Int32))])) _
        exact k)
      obtain ⟨fs, hr, hrun, hended, hW, hsame⟩ := X1061.leave (v := some (.int (1 : Int32))) (fun h => by rw [Bd.returns] at h; cases h)
      refine ⟨_, _, P1064 _ ?_, hrun, hended, _, _, rfl, ?_, ⟨_, rfl⟩, hW, hsame.mono (by decide) (by decide)⟩
      · exact retN X1061 hx (t := .boolean) Bd.returns (by simp) (hb hby d9_39) hr
      · show Q_open2 Z a1 ar ac al alr alc k1 k2 k3 k4 k5 S tr kt x y h0 n0 _ T1061.heap _
        rw [e1061]
        exact ⟨1, rfl, N0, rfl, trivial⟩
    · have P1065 : ∀ t, Steps p.tables e below (T1061.setTop (mkF m 31 #[.val (.ref a1), .val (.ref tr), .val (.ref tr), .val (.int (2 : Int32)), .val (.int (1 : Int32)), .val (.int (Int32.ofNat y))] [(.int (0 : Int32))])) t → Steps p.tables e below (s₁.setTop (entryFrame m #[(.ref a1), (.ref tr)] 6)) t := fun t k => P1063 t (by
        refine XS.ifNo X1061.here hx rfl (hb hby d9_27) rfl ((if0 _ _).trans (feq hq1).1) ?_
        show Steps p.tables e below (T1061.setTop (mkF m 30 #[.val (.ref a1), .val (.ref tr), .val (.ref tr), .val (.int (2 : Int32)), .val (.int (1 : Int32)), .val (.int (Int32.ofNat y))] [])) _
        refine XS.iconst X1061.here hx rfl (hb hby d9_30) ?_
        show Steps p.tables e below (T1061.setTop (mkF m 31 #[.val (.ref a1), .val (.ref tr), .val (.ref tr), .val (.int (2 : Int32)), .val (.int (1 : Int32)), .val (.int (Int32.ofNat y))] [(.int (0 : Int32))])) _
        exact k)
      obtain ⟨fs, hr, hrun, hended, hW, hsame⟩ := X1061.leave (v := some (.int (0 : Int32))) (fun h => by rw [Bd.returns] at h; cases h)
      refine ⟨_, _, P1065 _ ?_, hrun, hended, _, _, rfl, ?_, ⟨_, rfl⟩, hW, hsame.mono (by decide) (by decide)⟩
      · exact retN X1061 hx (t := .boolean) Bd.returns (by simp) (hb hby d9_31) hr
      · show Q_open2 Z a1 ar ac al alr alc k1 k2 k3 k4 k5 S tr kt x y h0 n0 _ T1061.heap _
        rw [e1061]
        exact ⟨0, rfl, N0, rfl, trivial⟩
  · have P1066 : ∀ t, Steps p.tables e below (T1057.setTop (mkF m 31 #[.val (.ref a1), .val (.ref tr), .val (.ref tr), .val (.int (2 : Int32)), .val (.int (0 : Int32)), .val (.int (Int32.ofNat x))] [(.int (0 : Int32))])) t → Steps p.tables e below (s₁.setTop (entryFrame m #[(.ref a1), (.ref tr)] 6)) t := fun t k => P1059 t (by
      refine XS.ifNo X1057.here hx rfl (hb hby d9_27) rfl ((if0 _ _).trans (feq hq0).1) ?_
      show Steps p.tables e below (T1057.setTop (mkF m 30 #[.val (.ref a1), .val (.ref tr), .val (.ref tr), .val (.int (2 : Int32)), .val (.int (0 : Int32)), .val (.int (Int32.ofNat x))] [])) _
      refine XS.iconst X1057.here hx rfl (hb hby d9_30) ?_
      show Steps p.tables e below (T1057.setTop (mkF m 31 #[.val (.ref a1), .val (.ref tr), .val (.ref tr), .val (.int (2 : Int32)), .val (.int (0 : Int32)), .val (.int (Int32.ofNat x))] [(.int (0 : Int32))])) _
      exact k)
    obtain ⟨fs, hr, hrun, hended, hW, hsame⟩ := X1057.leave (v := some (.int (0 : Int32))) (fun h => by rw [Bd.returns] at h; cases h)
    refine ⟨_, _, P1066 _ ?_, hrun, hended, _, _, rfl, ?_, ⟨_, rfl⟩, hW, hsame.mono (by decide) (by decide)⟩
    · exact retN X1057 hx (t := .boolean) Bd.returns (by simp) (hb hby d9_31) hr
    · show Q_open2 Z a1 ar ac al alr alc k1 k2 k3 k4 k5 S tr kt x y h0 n0 _ T1057.heap _
      rw [e1057]
      exact ⟨0, rfl, N0, rfl, trivial⟩
theorem ef_try2 (m : MethodId) (x0 : Addr) (x1 : Addr) (x2 : UInt64) : entryFrame m #[(.ref x0), (.ref x1), (.double x2)] 9 = mkF m 0 #[.val (.ref x0), .val (.ref x1), .val (.double x2), .second, .unset, .unset, .unset, .unset, .unset] [] := by first | (simp [entryFrame, mkF, argsToLocals, Value.category]; done) | rfl
def Q_try2 (Z : State) (a1 : Addr) (ar : Addr) (ac : Addr) (al : Addr) (alr : Addr) (alc : Addr) (k1 : ClassId) (k2 : ClassId) (k3 : ClassId) (k4 : ClassId) (k5 : ClassId) (S : own_S) (tr : Addr) (kt : ClassId) (x : Nat) (y : Nat) (z : Nat) (h0 : Heap) (n0 : Nat) (v : Option Value) (h : Heap) (L : List Loc) : Prop := ∃ f : Int32, v = some (.int f) ∧ Fr n0 L ∧ Keep h0 h [a1, ar, ac, al, alr, alc] ∧ own_St Z h a1 ar ac al alr alc k1 k2 k3 k4 k5 (own_step z (own_step z S x) y)
set_option maxRecDepth 65536 in
set_option maxHeartbeats 40000000 in
theorem rm_try2 (l : Launch) (Z : State) (a0 : Array Value) (hw : ∀ d ∈ tables_1, d.before a0 Z = true) (ws : List Jvm.Cond) (a1 : Addr) (ar : Addr) (ac : Addr) (al : Addr) (alr : Addr) (alc : Addr) (k1 : ClassId) (k2 : ClassId) (k3 : ClassId) (k4 : ClassId) (k5 : ClassId) (S : own_S) (tr : Addr) (kt : ClassId) (x : Nat) (y : Nat) (z : Nat) (h0 : Heap) (n0 : Nat) (Z0 : n0 ≤ h0.size) (B1 : own_St Z h0 a1 ar ac al alr alc k1 k2 k3 k4 k5 S) (D1 : own_D a1 ar ac al alr alc) (G1 : own_G n0 a1 ar ac al alr alc) (OK1 : own_ok S) (VT : Arv Z h0 tr kt .int (2 : Int32) [(.int (Int32.ofNat x)), (.int (Int32.ofNat y))] (.int (0 : Int32))) (DT : tr ≠ a1 ∧ tr ≠ ar ∧ tr ≠ ac ∧ tr ≠ al ∧ tr ≠ alr ∧ tr ≠ alc) (hx1 : x ≤ 1) (hy1 : y ≤ 1) (hz : z < 16) (hk : S.2.2.2.2.2 + 2 ≤ 8) :
    MetFree l (⟨"com/example/tributary/tributary/solver/Rooms", "tryJob", "([ID)Z"⟩ : MethodName) (head1 (Jvm.Cond.code (⟨"com/example/tributary/tributary/solver/Rooms", "tryJob", "([ID)Z"⟩ : MethodName) prog_52_method_3_code 9 (some .boolean) :: ws) ({ frames := 2, cells := 0, slots := 0, locals := 31 } : Room)) (fun a U => a = #[(.ref a1), (.ref tr), (.double (FP.l2d (Int64.ofNat z)))] ∧ Z.Warmed39 U.vm ∧ U.heap = h0) (fun _ _ _ _ _ => True) (fun _ U o U' => ∃ v L, o = .returned v ∧ Q_try2 Z a1 ar ac al alr alc k1 k2 k3 k4 k5 S tr kt x y z h0 n0 v U'.heap L ∧ FrameEnd U o U' L ({ frames := 2, cells := 0, slots := 0, locals := 31 } : Room).cells ({ frames := 2, cells := 0, slots := 0, locals := 31 } : Room).slots) := by
  refine MetFree.of_bodySF (plainFor_of_name pn_1) hisR ?_
  intro p e s m args below meth c s₁ Bd hml0 hP hK
  obtain ⟨rfl, hZ, hh⟩ := hP
  have hx := Bd.exec
  have hby := Bd.bytes
  have hml : c.maxLocals = 9 := hml0
  have hown : s.vm.findClass "com/example/tributary/tributary/solver/Rooms" = some m.cls := findClass_of_methodNamed Bd.named
  have hnm := (name_of_methodNamed Bd.named Bd.method).1
  have X0 : Stand p l e ({ frames := 2, cells := 0, slots := 0, locals := 31 } : Room) s m #[(.ref a1), (.ref tr), (.double (FP.l2d (Int64.ofNat z)))] below meth c s₁ [] 0 0 := Stand.of_body Bd
  have e0 : s₁.heap = h0 := by rw [← hh, Bd.state]; rfl
  have N0 := Fr.nil n0
  have K0 : Keep h0 h0 [a1, ar, ac, al, alr, alc] := Keep.refl h0 [a1, ar, ac, al, alr, alc]
  have P0 : ∀ t, Steps p.tables e below (s₁.setTop (mkF m 0 #[.val (.ref a1), .val (.ref tr), .val (.double (FP.l2d (Int64.ofNat z))), .second, .unset, .unset, .unset, .unset, .unset] [])) t → Steps p.tables e below (s₁.setTop (entryFrame m #[(.ref a1), (.ref tr), (.double (FP.l2d (Int64.ofNat z)))] 9)) t := fun t k => castTop (ef_try2 m a1 tr (FP.l2d (Int64.ofNat z))) k
  obtain ⟨E0, F0_room, F0_closed, F0_loggedLink, F0_loggedRoom, F0_loggedClosed, F0_logged, V0_ar, V0_ac, V0_al, V0_alr, V0_alc⟩ := id B1
  obtain ⟨ne_a1_ar, ne_a1_ac, ne_a1_al, ne_a1_alr, ne_a1_alc, ne_ar_ac, ne_ar_al, ne_ar_alr, ne_ar_alc, ne_ac_al, ne_ac_alr, ne_ac_alc, ne_al_alr, ne_al_alc, ne_alr_alc⟩ := id D1
  obtain ⟨g_a1, g_ar, g_ac, g_al, g_alr, g_alc⟩ := id G1
  obtain ⟨ne_tr_a1, ne_tr_ar, ne_tr_ac, ne_tr_al, ne_tr_alr, ne_tr_alc⟩ := id DT
  obtain ⟨cl1067, Ar1067, q1067, S1067, M1067, -, -⟩ := id VT
  obtain ⟨cl1068, Ar1068, q1068, S1068, M1068, H1068, G1068⟩ := id VT
  have hin1068 : ¬ ((0 : Int32) < 0 ∨ cl1068.slots.size ≤ ((0 : Int32)).toNatClampNeg) := inb_of S1068 ⟨by decide, by decide⟩
  have hat1068 : cl1068.slots[((0 : Int32)).toNatClampNeg]? = some (.int (Int32.ofNat x)) := Has.at H1068 hin1068 rfl
  obtain ⟨cq1069, q1069, q1069'⟩ := E0.cell
  have pv1069 := Cond.privateMethod_at (mvP hZ (hw _ (List.mem_of_getElem? (i := 42) rfl)) (args := #[]))
  obtain ⟨ci1069, ki1069, i11069, i21069, -, i41069, -⟩ := Cond.instantiable_spec (mvT (args := #[]) hZ (hw _ (List.mem_of_getElem? (i := 6) rfl)))
  have sl1069 := fun (a' : Array Value) => selects_self_of_private (args := a') (y := (⟨"com/example/tributary/tributary/solver/Rooms", "fits", "(ID)Z"⟩ : MethodName)) i11069 i21069 (by simp only [Bool.or_eq_false_iff] at i41069; exact i41069.1) pv1069 (mvT hZ (hw _ (List.mem_of_getElem? (i := 41) rfl))) (by decide)
  obtain ⟨_, _, ⟨T1069, L1069, k1069, n1069⟩, -, X1069, ⟨Lc1069, hQ1069, l1069, y1069, z1069⟩, st1069⟩ := X0.privateBack hx (y := (⟨"com/example/tributary/tributary/solver/Rooms", "fits", "(ID)Z"⟩ : MethodName)) hown (mvT hZ (hw _ (List.mem_of_getElem? (i := 40) rfl))) (mvT hZ (hw _ (List.mem_of_getElem? (i := 41) rfl))) (sl1069 _) pv1069 (mvT hZ (hw _ (List.mem_of_getElem? (i := 43) rfl))) (by decide) (backOf (W := 1) (rm_rfits l Z a0 hw [] a1 ar ac al alr alc k1 k2 k3 k4 k5 S x z h0 n0 Z0 B1 D1 G1 OK1 hx1 hz) hZ (hw _ (List.mem_of_getElem? (i := 43) rfl)) (hw _ (List.mem_of_getElem? (i := 7) rfl)) (by decide) (by decide)) (g := (mkF m 34 #[.val (.ref a1), .val (.ref tr), .val (.double (FP.l2d (Int64.ofNat z))), .second, .val (.int (1 : Int32)), .val (.ref tr), .val (.int (2 : Int32)), .val (.int (0 : Int32)), .val (.int (Int32.ofNat x))] [(.double (FP.l2d (Int64.ofNat z))), (.int (Int32.ofNat x)), (.ref a1), (.int (1 : Int32))])) rfl (by rw [hml]; rfl) (Steps.refl _) (a := a1) (by rw [e0]; exact q1069) q1069' (argsL := [(.int (Int32.ofNat x)), (.double (FP.l2d (Int64.ofNat z)))]) (rest := [(.int (1 : Int32))]) (lenOf pd_1 rfl) rfl (by show 2 * 0 + _ ≤ _; exact Nat.le_of_eq rfl) (hb hby d4_34) (fun _ _ => ⟨rfl, e0, (by decide : 0 + 0 ≤ _), (by decide : 0 + 0 ≤ _)⟩)
  dsimp only [Pt.U, Pt.locs, Pt.cells, Pt.slots] at X1069 l1069 y1069 z1069 st1069 hQ1069
  subst l1069 y1069 z1069
  obtain ⟨rfl, N1069q, ef0⟩ := hQ1069
  have N1069 := Fr.app N0 N1069q
  obtain ⟨cl1070, Ar1070, q1070, S1070, M1070, H1070, G1070⟩ := id VT
  have hin1070 : ¬ ((1 : Int32) < 0 ∨ cl1070.slots.size ≤ ((1 : Int32)).toNatClampNeg) := inb_of S1070 ⟨by decide, by decide⟩
  have hat1070 : cl1070.slots[((1 : Int32)).toNatClampNeg]? = some (.int (Int32.ofNat y)) := Has.at H1070 hin1070 rfl
  obtain ⟨cq1071, q1071, q1071'⟩ := E0.cell
  have pv1071 := Cond.privateMethod_at (mvP hZ (hw _ (List.mem_of_getElem? (i := 42) rfl)) (args := #[]))
  obtain ⟨ci1071, ki1071, i11071, i21071, -, i41071, -⟩ := Cond.instantiable_spec (mvT (args := #[]) hZ (hw _ (List.mem_of_getElem? (i := 6) rfl)))
  have sl1071 := fun (a' : Array Value) => selects_self_of_private (args := a') (y := (⟨"com/example/tributary/tributary/solver/Rooms", "fits", "(ID)Z"⟩ : MethodName)) i11071 i21071 (by simp only [Bool.or_eq_false_iff] at i41071; exact i41071.1) pv1071 (mvT hZ (hw _ (List.mem_of_getElem? (i := 41) rfl))) (by decide)
  obtain ⟨_, _, ⟨T1071, L1071, k1071, n1071⟩, -, X1071, ⟨Lc1071, hQ1071, l1071, y1071, z1071⟩, st1071⟩ := X1069.privateBack hx (y := (⟨"com/example/tributary/tributary/solver/Rooms", "fits", "(ID)Z"⟩ : MethodName)) hown (mvT hZ (hw _ (List.mem_of_getElem? (i := 40) rfl))) (mvT hZ (hw _ (List.mem_of_getElem? (i := 41) rfl))) (sl1071 _) pv1071 (mvT hZ (hw _ (List.mem_of_getElem? (i := 43) rfl))) (by decide) (backOf (W := 1) (rm_rfits l Z a0 hw [] a1 ar ac al alr alc k1 k2 k3 k4 k5 S y z h0 n0 Z0 B1 D1 G1 OK1 hy1 hz) hZ (hw _ (List.mem_of_getElem? (i := 43) rfl)) (hw _ (List.mem_of_getElem? (i := 7) rfl)) (by decide) (by decide)) (g := (mkF m 34 #[.val (.ref a1), .val (.ref tr), .val (.double (FP.l2d (Int64.ofNat z))), .second, .val (.int ((1 : Int32) &&& (own_fv z (S.1.getD x 0)))), .val (.ref tr), .val (.int (2 : Int32)), .val (.int (1 : Int32)), .val (.int (Int32.ofNat y))] [(.double (FP.l2d (Int64.ofNat z))), (.int (Int32.ofNat y)), (.ref a1), (.int ((1 : Int32) &&& (own_fv z (S.1.getD x 0))))])) rfl (by rw [hml]; rfl) (Steps.refl _) (a := a1) (by rw [ef0]; exact q1071) q1071' (argsL := [(.int (Int32.ofNat y)), (.double (FP.l2d (Int64.ofNat z)))]) (rest := [(.int ((1 : Int32) &&& (own_fv z (S.1.getD x 0))))]) (lenOf pd_1 rfl) rfl (by show 2 * 0 + _ ≤ _; exact Nat.le_of_eq rfl) (hb hby d4_34) (fun _ _ => ⟨rfl, ef0, (by decide : 0 + 0 ≤ _), (by decide : 0 + 0 ≤ _)⟩)
  dsimp only [Pt.U, Pt.locs, Pt.cells, Pt.slots] at X1071 l1071 y1071 z1071 st1071 hQ1071
  subst l1071 y1071 z1071
  obtain ⟨rfl, N1071q, ef1⟩ := hQ1071
  have N1071 := Fr.app N1069 N1071q
  obtain ⟨cl1072, Ar1072, q1072, S1072, M1072, -, -⟩ := id VT
  have OKc : own_ok S := OK1
  have hkk0 : S.2.2.2.2.2 < 8 := by have := hk;  omega
  obtain ⟨cl1073, Ar1073, q1073, S1073, M1073, H1073, G1073⟩ := id VT
  have hin1073 : ¬ ((0 : Int32) < 0 ∨ cl1073.slots.size ≤ ((0 : Int32)).toNatClampNeg) := inb_of S1073 ⟨by decide, by decide⟩
  have hat1073 : cl1073.slots[((0 : Int32)).toNatClampNeg]? = some (.int (Int32.ofNat x)) := Has.at H1073 hin1073 rfl
  obtain ⟨cq1074, q1074, q1074'⟩ := E0.cell
  have pv1074 := Cond.privateMethod_at (mvP hZ (hw _ (List.mem_of_getElem? (i := 51) rfl)) (args := #[]))
  obtain ⟨ci1074, ki1074, i11074, i21074, -, i41074, -⟩ := Cond.instantiable_spec (mvT (args := #[]) hZ (hw _ (List.mem_of_getElem? (i := 6) rfl)))
  have sl1074 := fun (a' : Array Value) => selects_self_of_private (args := a') (y := (⟨"com/example/tributary/tributary/solver/Rooms", "log", "(I)V"⟩ : MethodName)) i11074 i21074 (by simp only [Bool.or_eq_false_iff] at i41074; exact i41074.1) pv1074 (mvT hZ (hw _ (List.mem_of_getElem? (i := 50) rfl))) (by decide)
  obtain ⟨_, _, ⟨T1074, L1074, k1074, n1074⟩, -, X1074, ⟨Lc1074, hQ1074, l1074, y1074, z1074⟩, st1074⟩ := X1071.privateBack hx (y := (⟨"com/example/tributary/tributary/solver/Rooms", "log", "(I)V"⟩ : MethodName)) hown (mvT hZ (hw _ (List.mem_of_getElem? (i := 49) rfl))) (mvT hZ (hw _ (List.mem_of_getElem? (i := 50) rfl))) (sl1074 _) pv1074 (mvT hZ (hw _ (List.mem_of_getElem? (i := 52) rfl))) (by decide) (backOf (W := 0) (rm_log l Z a0 hw [] a1 ar ac al alr alc k1 k2 k3 k4 k5 S x h0 n0 Z0 B1 D1 G1 OK1 hx1 hkk0) hZ (hw _ (List.mem_of_getElem? (i := 52) rfl)) (hw _ (List.mem_of_getElem? (i := 7) rfl)) (by decide) (by decide)) (g := (mkF m 74 #[.val (.ref a1), .val (.ref tr), .val (.double (FP.l2d (Int64.ofNat z))), .second, .val (.int (((1 : Int32) &&& (own_fv z (S.1.getD x 0))) &&& (own_fv z (S.1.getD y 0)))), .val (.ref tr), .val (.int (2 : Int32)), .val (.int (0 : Int32)), .val (.int (Int32.ofNat x))] [(.int (Int32.ofNat x)), (.ref a1)])) rfl (by rw [hml]; rfl) (Steps.refl _) (a := a1) (by rw [ef1]; exact q1074) q1074' (argsL := [(.int (Int32.ofNat x))]) (rest := []) (lenOf pd_2 rfl) rfl (by show 2 * 0 + _ ≤ _; exact Nat.le_of_eq rfl) (hb hby d4_74) (fun _ _ => ⟨rfl, ef1, (by decide : 0 + 0 ≤ _), (by decide : 0 + 0 ≤ _)⟩)
  dsimp only [Pt.U, Pt.locs, Pt.cells, Pt.slots] at X1074 l1074 y1074 z1074 st1074 hQ1074
  subst l1074 y1074 z1074
  obtain ⟨rfl, N1074q, Kl0, Bl0⟩ := hQ1074
  have N1074 := Fr.app N1071 N1074q
  have c1075_0 := VT.keep Kl0 (ninS ne_tr_a1 (ninS ne_tr_ar (ninS ne_tr_ac (ninS ne_tr_al (ninS ne_tr_alr (ninS ne_tr_alc nin0))))))
  have Z1074 : n0 ≤ T1074.heap.size := Nat.le_trans Z0 Kl0.1
  have K1074 : Keep h0 T1074.heap [a1, ar, ac, al, alr, alc] := K0.trans Kl0 (allS (Or.inl (List.mem_of_getElem? (i := 0) rfl)) (allS (Or.inl (List.mem_of_getElem? (i := 1) rfl)) (allS (Or.inl (List.mem_of_getElem? (i := 2) rfl)) (allS (Or.inl (List.mem_of_getElem? (i := 3) rfl)) (allS (Or.inl (List.mem_of_getElem? (i := 4) rfl)) (allS (Or.inl (List.mem_of_getElem? (i := 5) rfl)) all0))))))
  obtain ⟨El0, Fl0_room, Fl0_closed, Fl0_loggedLink, Fl0_loggedRoom, Fl0_loggedClosed, Fl0_logged, Vl0_ar, Vl0_ac, Vl0_al, Vl0_alr, Vl0_alc⟩ := id Bl0
  obtain ⟨cq1076, q1076, q1076'⟩ := El0.cell
  have pv1076 := Cond.privateMethod_at (mvP hZ (hw _ (List.mem_of_getElem? (i := 42) rfl)) (args := #[]))
  obtain ⟨ci1076, ki1076, i11076, i21076, -, i41076, -⟩ := Cond.instantiable_spec (mvT (args := #[]) hZ (hw _ (List.mem_of_getElem? (i := 6) rfl)))
  have sl1076 := fun (a' : Array Value) => selects_self_of_private (args := a') (y := (⟨"com/example/tributary/tributary/solver/Rooms", "fits", "(ID)Z"⟩ : MethodName)) i11076 i21076 (by simp only [Bool.or_eq_false_iff] at i41076; exact i41076.1) pv1076 (mvT hZ (hw _ (List.mem_of_getElem? (i := 41) rfl))) (by decide)
  obtain ⟨_, _, ⟨T1076, L1076, k1076, n1076⟩, -, X1076, ⟨Lc1076, hQ1076, l1076, y1076, z1076⟩, st1076⟩ := X1074.privateBack hx (y := (⟨"com/example/tributary/tributary/solver/Rooms", "fits", "(ID)Z"⟩ : MethodName)) hown (mvT hZ (hw _ (List.mem_of_getElem? (i := 40) rfl))) (mvT hZ (hw _ (List.mem_of_getElem? (i := 41) rfl))) (sl1076 _) pv1076 (mvT hZ (hw _ (List.mem_of_getElem? (i := 43) rfl))) (by decide) (backOf (W := 0) (rm_rfits l Z a0 hw [] a1 ar ac al alr alc k1 k2 k3 k4 k5 (own_log S x) x z T1074.heap n0 Z1074 Bl0 D1 G1 (own_ok_log OK1 hx1) hx1 hz) hZ (hw _ (List.mem_of_getElem? (i := 43) rfl)) (hw _ (List.mem_of_getElem? (i := 7) rfl)) (by decide) (by decide)) (g := (mkF m 81 #[.val (.ref a1), .val (.ref tr), .val (.double (FP.l2d (Int64.ofNat z))), .second, .val (.int (((1 : Int32) &&& (own_fv z (S.1.getD x 0))) &&& (own_fv z (S.1.getD y 0)))), .val (.ref tr), .val (.int (2 : Int32)), .val (.int (0 : Int32)), .val (.int (Int32.ofNat x))] [(.double (FP.l2d (Int64.ofNat z))), (.int (Int32.ofNat x)), (.ref a1)])) rfl (by rw [hml]; rfl) (Steps.refl _) (a := a1) q1076 q1076' (argsL := [(.int (Int32.ofNat x)), (.double (FP.l2d (Int64.ofNat z)))]) (rest := []) (lenOf pd_1 rfl) rfl (by show 2 * 0 + _ ≤ _; exact Nat.le_of_eq rfl) (hb hby d4_81) (fun _ _ => ⟨rfl, rfl, (by decide : 0 + 0 ≤ _), (by decide : 0 + 0 ≤ _)⟩)
  dsimp only [Pt.U, Pt.locs, Pt.cells, Pt.slots] at X1076 l1076 y1076 z1076 st1076 hQ1076
  subst l1076 y1076 z1076
  obtain ⟨rfl, N1076q, eg0⟩ := hQ1076
  have N1076 := Fr.app N1074 N1076q
  have P1077 : ∀ t, Steps p.tables e below (T1076.setTop (mkF m 84 #[.val (.ref a1), .val (.ref tr), .val (.double (FP.l2d (Int64.ofNat z))), .second, .val (.int (((1 : Int32) &&& (own_fv z (S.1.getD x 0))) &&& (own_fv z (S.1.getD y 0)))), .val (.ref tr), .val (.int (2 : Int32)), .val (.int (0 : Int32)), .val (.int (Int32.ofNat x))] [(.int (own_fv z ((own_log S x).1.getD x 0)))])) t → Steps p.tables e below (s₁.setTop (entryFrame m #[(.ref a1), (.ref tr), (.double (FP.l2d (Int64.ofNat z)))] 9)) t := fun t k => P0 t (by
    refine XS.iconst X0.here hx rfl (hb hby d4_0) ?_
    show Steps p.tables e below (s₁.setTop (mkF m 1 #[.val (.ref a1), .val (.ref tr), .val (.double (FP.l2d (Int64.ofNat z))), .second, .unset, .unset, .unset, .unset, .unset] [(.int (1 : Int32))])) _
    refine XS.istore X0.here hx rfl (hb hby d4_1) rfl (l' := #[.val (.ref a1), .val (.ref tr), .val (.double (FP.l2d (Int64.ofNat z))), .second, .val (.int (1 : Int32)), .unset, .unset, .unset, .unset]) rfl ?_
    show Steps p.tables e below (s₁.setTop (mkF m 3 #[.val (.ref a1), .val (.ref tr), .val (.double (FP.l2d (Int64.ofNat z))), .second, .val (.int (1 : Int32)), .unset, .unset, .unset, .unset] [])) _
    refine XS.aloadN X0.here hx rfl (hb hby d4_3) rfl rfl ?_
    show Steps p.tables e below (s₁.setTop (mkF m 4 #[.val (.ref a1), .val (.ref tr), .val (.double (FP.l2d (Int64.ofNat z))), .second, .val (.int (1 : Int32)), .unset, .unset, .unset, .unset] [(.ref tr)])) _
    refine XS.astore X0.here hx rfl (hb hby d4_4) rfl rfl (l' := #[.val (.ref a1), .val (.ref tr), .val (.double (FP.l2d (Int64.ofNat z))), .second, .val (.int (1 : Int32)), .val (.ref tr), .unset, .unset, .unset]) rfl ?_
    show Steps p.tables e below (s₁.setTop (mkF m 6 #[.val (.ref a1), .val (.ref tr), .val (.double (FP.l2d (Int64.ofNat z))), .second, .val (.int (1 : Int32)), .val (.ref tr), .unset, .unset, .unset] [])) _
    refine XS.aload X0.here hx rfl (hb hby d4_6) rfl rfl ?_
    show Steps p.tables e below (s₁.setTop (mkF m 8 #[.val (.ref a1), .val (.ref tr), .val (.double (FP.l2d (Int64.ofNat z))), .second, .val (.int (1 : Int32)), .val (.ref tr), .unset, .unset, .unset] [(.ref tr)])) _
    refine X0.arraylength hx (by rw [e0]; exact Ar1067.1) (State.isArrayOf_alike hZ.alike Ar1067.2.1) (g := (mkF m 8 #[.val (.ref a1), .val (.ref tr), .val (.double (FP.l2d (Int64.ofNat z))), .second, .val (.int (1 : Int32)), .val (.ref tr), .unset, .unset, .unset] [(.ref tr)])) rfl rfl (hb hby d4_8) _ ?_
    rw [len_of S1067 M1067]
    show Steps p.tables e below (s₁.setTop (mkF m 9 #[.val (.ref a1), .val (.ref tr), .val (.double (FP.l2d (Int64.ofNat z))), .second, .val (.int (1 : Int32)), .val (.ref tr), .unset, .unset, .unset] [(.int (2 : Int32))])) _
    refine XS.istore X0.here hx rfl (hb hby d4_9) rfl (l' := #[.val (.ref a1), .val (.ref tr), .val (.double (FP.l2d (Int64.ofNat z))), .second, .val (.int (1 : Int32)), .val (.ref tr), .val (.int (2 : Int32)), .unset, .unset]) rfl ?_
    show Steps p.tables e below (s₁.setTop (mkF m 11 #[.val (.ref a1), .val (.ref tr), .val (.double (FP.l2d (Int64.ofNat z))), .second, .val (.int (1 : Int32)), .val (.ref tr), .val (.int (2 : Int32)), .unset, .unset] [])) _
    refine XS.iconst X0.here hx rfl (hb hby d4_11) ?_
    show Steps p.tables e below (s₁.setTop (mkF m 12 #[.val (.ref a1), .val (.ref tr), .val (.double (FP.l2d (Int64.ofNat z))), .second, .val (.int (1 : Int32)), .val (.ref tr), .val (.int (2 : Int32)), .unset, .unset] [(.int (0 : Int32))])) _
    refine XS.istore X0.here hx rfl (hb hby d4_12) rfl (l' := #[.val (.ref a1), .val (.ref tr), .val (.double (FP.l2d (Int64.ofNat z))), .second, .val (.int (1 : Int32)), .val (.ref tr), .val (.int (2 : Int32)), .val (.int (0 : Int32)), .unset]) rfl ?_
    show Steps p.tables e below (s₁.setTop (mkF m 14 #[.val (.ref a1), .val (.ref tr), .val (.double (FP.l2d (Int64.ofNat z))), .second, .val (.int (1 : Int32)), .val (.ref tr), .val (.int (2 : Int32)), .val (.int (0 : Int32)), .unset] [])) _
    refine XS.iload X0.here hx rfl (hb hby d4_14) rfl ?_
    show Steps p.tables e below (s₁.setTop (mkF m 16 #[.val (.ref a1), .val (.ref tr), .val (.double (FP.l2d (Int64.ofNat z))), .second, .val (.int (1 : Int32)), .val (.ref tr), .val (.int (2 : Int32)), .val (.int (0 : Int32)), .unset] [(.int (0 : Int32))])) _
    refine XS.iload X0.here hx rfl (hb hby d4_16) rfl ?_
    show Steps p.tables e below (s₁.setTop (mkF m 18 #[.val (.ref a1), .val (.ref tr), .val (.double (FP.l2d (Int64.ofNat z))), .second, .val (.int (1 : Int32)), .val (.ref tr), .val (.int (2 : Int32)), .val (.int (0 : Int32)), .unset] [(.int (2 : Int32)), (.int (0 : Int32))])) _
    refine XS.icmpNo X0.here hx rfl (hb hby d4_18) rfl (tlt (by decide)).2.1 ?_
    show Steps p.tables e below (s₁.setTop (mkF m 21 #[.val (.ref a1), .val (.ref tr), .val (.double (FP.l2d (Int64.ofNat z))), .second, .val (.int (1 : Int32)), .val (.ref tr), .val (.int (2 : Int32)), .val (.int (0 : Int32)), .unset] [])) _
    refine XS.aload X0.here hx rfl (hb hby d4_21) rfl rfl ?_
    show Steps p.tables e below (s₁.setTop (mkF m 23 #[.val (.ref a1), .val (.ref tr), .val (.double (FP.l2d (Int64.ofNat z))), .second, .val (.int (1 : Int32)), .val (.ref tr), .val (.int (2 : Int32)), .val (.int (0 : Int32)), .unset] [(.ref tr)])) _
    refine XS.iload X0.here hx rfl (hb hby d4_23) rfl ?_
    show Steps p.tables e below (s₁.setTop (mkF m 25 #[.val (.ref a1), .val (.ref tr), .val (.double (FP.l2d (Int64.ofNat z))), .second, .val (.int (1 : Int32)), .val (.ref tr), .val (.int (2 : Int32)), .val (.int (0 : Int32)), .unset] [(.int (0 : Int32)), (.ref tr)])) _
    refine X0.iaload hx (j := (0 : Int32)) (v := (.int (Int32.ofNat x))) (by rw [e0]; exact Ar1068.1) (State.isArrayOf_alike hZ.alike Ar1068.2.1) Ar1068.2.2 hin1068 hat1068 (g := (mkF m 25 #[.val (.ref a1), .val (.ref tr), .val (.double (FP.l2d (Int64.ofNat z))), .second, .val (.int (1 : Int32)), .val (.ref tr), .val (.int (2 : Int32)), .val (.int (0 : Int32)), .unset] [(.int (0 : Int32)), (.ref tr)])) rfl rfl (hb hby d4_25) _ ?_
    show Steps p.tables e below (s₁.setTop (mkF m 26 #[.val (.ref a1), .val (.ref tr), .val (.double (FP.l2d (Int64.ofNat z))), .second, .val (.int (1 : Int32)), .val (.ref tr), .val (.int (2 : Int32)), .val (.int (0 : Int32)), .unset] [(.int (Int32.ofNat x))])) _
    refine XS.istore X0.here hx rfl (hb hby d4_26) rfl (l' := #[.val (.ref a1), .val (.ref tr), .val (.double (FP.l2d (Int64.ofNat z))), .second, .val (.int (1 : Int32)), .val (.ref tr), .val (.int (2 : Int32)), .val (.int (0 : Int32)), .val (.int (Int32.ofNat x))]) rfl ?_
    show Steps p.tables e below (s₁.setTop (mkF m 28 #[.val (.ref a1), .val (.ref tr), .val (.double (FP.l2d (Int64.ofNat z))), .second, .val (.int (1 : Int32)), .val (.ref tr), .val (.int (2 : Int32)), .val (.int (0 : Int32)), .val (.int (Int32.ofNat x))] [])) _
    refine XS.iload X0.here hx rfl (hb hby d4_28) rfl ?_
    show Steps p.tables e below (s₁.setTop (mkF m 30 #[.val (.ref a1), .val (.ref tr), .val (.double (FP.l2d (Int64.ofNat z))), .second, .val (.int (1 : Int32)), .val (.ref tr), .val (.int (2 : Int32)), .val (.int (0 : Int32)), .val (.int (Int32.ofNat x))] [(.int (1 : Int32))])) _
    refine XS.aloadN X0.here hx rfl (hb hby d4_30) rfl rfl ?_
    show Steps p.tables e below (s₁.setTop (mkF m 31 #[.val (.ref a1), .val (.ref tr), .val (.double (FP.l2d (Int64.ofNat z))), .second, .val (.int (1 : Int32)), .val (.ref tr), .val (.int (2 : Int32)), .val (.int (0 : Int32)), .val (.int (Int32.ofNat x))] [(.ref a1), (.int (1 : Int32))])) _
    refine XS.iload X0.here hx rfl (hb hby d4_31) rfl ?_
    show Steps p.tables e below (s₁.setTop (mkF m 33 #[.val (.ref a1), .val (.ref tr), .val (.double (FP.l2d (Int64.ofNat z))), .second, .val (.int (1 : Int32)), .val (.ref tr), .val (.int (2 : Int32)), .val (.int (0 : Int32)), .val (.int (Int32.ofNat x))] [(.int (Int32.ofNat x)), (.ref a1), (.int (1 : Int32))])) _
    refine XS.dloadN X0.here hx rfl (hb hby d4_33) rfl ?_
    show Steps p.tables e below (s₁.setTop (mkF m 34 #[.val (.ref a1), .val (.ref tr), .val (.double (FP.l2d (Int64.ofNat z))), .second, .val (.int (1 : Int32)), .val (.ref tr), .val (.int (2 : Int32)), .val (.int (0 : Int32)), .val (.int (Int32.ofNat x))] [(.double (FP.l2d (Int64.ofNat z))), (.int (Int32.ofNat x)), (.ref a1), (.int (1 : Int32))])) _
    refine st1069.trans ?_
    show Steps p.tables e below (T1069.setTop (mkF m 37 #[.val (.ref a1), .val (.ref tr), .val (.double (FP.l2d (Int64.ofNat z))), .second, .val (.int (1 : Int32)), .val (.ref tr), .val (.int (2 : Int32)), .val (.int (0 : Int32)), .val (.int (Int32.ofNat x))] [(.int (own_fv z (S.1.getD x 0))), (.int (1 : Int32))])) _
    refine XS.iand X1069.here hx rfl (hb hby d4_37) rfl ?_
    show Steps p.tables e below (T1069.setTop (mkF m 38 #[.val (.ref a1), .val (.ref tr), .val (.double (FP.l2d (Int64.ofNat z))), .second, .val (.int (1 : Int32)), .val (.ref tr), .val (.int (2 : Int32)), .val (.int (0 : Int32)), .val (.int (Int32.ofNat x))] [(.int ((1 : Int32) &&& (own_fv z (S.1.getD x 0))))])) _
    refine XS.istore X1069.here hx rfl (hb hby d4_38) rfl (l' := #[.val (.ref a1), .val (.ref tr), .val (.double (FP.l2d (Int64.ofNat z))), .second, .val (.int ((1 : Int32) &&& (own_fv z (S.1.getD x 0)))), .val (.ref tr), .val (.int (2 : Int32)), .val (.int (0 : Int32)), .val (.int (Int32.ofNat x))]) rfl ?_
    show Steps p.tables e below (T1069.setTop (mkF m 40 #[.val (.ref a1), .val (.ref tr), .val (.double (FP.l2d (Int64.ofNat z))), .second, .val (.int ((1 : Int32) &&& (own_fv z (S.1.getD x 0)))), .val (.ref tr), .val (.int (2 : Int32)), .val (.int (0 : Int32)), .val (.int (Int32.ofNat x))] [])) _
    refine XS.iinc X1069.here hx rfl (hb hby d4_40) rfl (l' := #[.val (.ref a1), .val (.ref tr), .val (.double (FP.l2d (Int64.ofNat z))), .second, .val (.int ((1 : Int32) &&& (own_fv z (S.1.getD x 0)))), .val (.ref tr), .val (.int (2 : Int32)), .val (.int (1 : Int32)), .val (.int (Int32.ofNat x))]) rfl ?_
    show Steps p.tables e below (T1069.setTop (mkF m 43 #[.val (.ref a1), .val (.ref tr), .val (.double (FP.l2d (Int64.ofNat z))), .second, .val (.int ((1 : Int32) &&& (own_fv z (S.1.getD x 0)))), .val (.ref tr), .val (.int (2 : Int32)), .val (.int (1 : Int32)), .val (.int (Int32.ofNat x))] [])) _
    refine XS.goto X1069.here hx rfl (pc0 := 43) (pc' := 14) rfl (hb hby d4_43) (by decide) (by decide) ?_
    show Steps p.tables e below (T1069.setTop (mkF m 14 #[.val (.ref a1), .val (.ref tr), .val (.double (FP.l2d (Int64.ofNat z))), .second, .val (.int ((1 : Int32) &&& (own_fv z (S.1.getD x 0)))), .val (.ref tr), .val (.int (2 : Int32)), .val (.int (1 : Int32)), .val (.int (Int32.ofNat x))] [])) _
    refine XS.iload X1069.here hx rfl (hb hby d4_14) rfl ?_
    show Steps p.tables e below (T1069.setTop (mkF m 16 #[.val (.ref a1), .val (.ref tr), .val (.double (FP.l2d (Int64.ofNat z))), .second, .val (.int ((1 : Int32) &&& (own_fv z (S.1.getD x 0)))), .val (.ref tr), .val (.int (2 : Int32)), .val (.int (1 : Int32)), .val (.int (Int32.ofNat x))] [(.int (1 : Int32))])) _
    refine XS.iload X1069.here hx rfl (hb hby d4_16) rfl ?_
    show Steps p.tables e below (T1069.setTop (mkF m 18 #[.val (.ref a1), .val (.ref tr), .val (.double (FP.l2d (Int64.ofNat z))), .second, .val (.int ((1 : Int32) &&& (own_fv z (S.1.getD x 0)))), .val (.ref tr), .val (.int (2 : Int32)), .val (.int (1 : Int32)), .val (.int (Int32.ofNat x))] [(.int (2 : Int32)), (.int (1 : Int32))])) _
    refine XS.icmpNo X1069.here hx rfl (hb hby d4_18) rfl (tlt (by decide)).2.1 ?_
    show Steps p.tables e below (T1069.setTop (mkF m 21 #[.val (.ref a1), .val (.ref tr), .val (.double (FP.l2d (Int64.ofNat z))), .second, .val (.int ((1 : Int32) &&& (own_fv z (S.1.getD x 0)))), .val (.ref tr), .val (.int (2 : Int32)), .val (.int (1 : Int32)), .val (.int (Int32.ofNat x))] [])) _
    refine XS.aload X1069.here hx rfl (hb hby d4_21) rfl rfl ?_
    show Steps p.tables e below (T1069.setTop (mkF m 23 #[.val (.ref a1), .val (.ref tr), .val (.double (FP.l2d (Int64.ofNat z))), .second, .val (.int ((1 : Int32) &&& (own_fv z (S.1.getD x 0)))), .val (.ref tr), .val (.int (2 : Int32)), .val (.int (1 : Int32)), .val (.int (Int32.ofNat x))] [(.ref tr)])) _
    refine XS.iload X1069.here hx rfl (hb hby d4_23) rfl ?_
    show Steps p.tables e below (T1069.setTop (mkF m 25 #[.val (.ref a1), .val (.ref tr), .val (.double (FP.l2d (Int64.ofNat z))), .second, .val (.int ((1 : Int32) &&& (own_fv z (S.1.getD x 0)))), .val (.ref tr), .val (.int (2 : Int32)), .val (.int (1 : Int32)), .val (.int (Int32.ofNat x))] [(.int (1 : Int32)), (.ref tr)])) _
    refine X1069.iaload hx (j := (1 : Int32)) (v := (.int (Int32.ofNat y))) (by rw [ef0]; exact Ar1070.1) (State.isArrayOf_alike hZ.alike Ar1070.2.1) Ar1070.2.2 hin1070 hat1070 (g := (mkF m 25 #[.val (.ref a1), .val (.ref tr), .val (.double (FP.l2d (Int64.ofNat z))), .second, .val (.int ((1 : Int32) &&& (own_fv z (S.1.getD x 0)))), .val (.ref tr), .val (.int (2 : Int32)), .val (.int (1 : Int32)), .val (.int (Int32.ofNat x))] [(.int (1 : Int32)), (.ref tr)])) rfl rfl (hb hby d4_25) _ ?_
    show Steps p.tables e below (T1069.setTop (mkF m 26 #[.val (.ref a1), .val (.ref tr), .val (.double (FP.l2d (Int64.ofNat z))), .second, .val (.int ((1 : Int32) &&& (own_fv z (S.1.getD x 0)))), .val (.ref tr), .val (.int (2 : Int32)), .val (.int (1 : Int32)), .val (.int (Int32.ofNat x))] [(.int (Int32.ofNat y))])) _
    refine XS.istore X1069.here hx rfl (hb hby d4_26) rfl (l' := #[.val (.ref a1), .val (.ref tr), .val (.double (FP.l2d (Int64.ofNat z))), .second, .val (.int ((1 : Int32) &&& (own_fv z (S.1.getD x 0)))), .val (.ref tr), .val (.int (2 : Int32)), .val (.int (1 : Int32)), .val (.int (Int32.ofNat y))]) rfl ?_
    show Steps p.tables e below (T1069.setTop (mkF m 28 #[.val (.ref a1), .val (.ref tr), .val (.double (FP.l2d (Int64.ofNat z))), .second, .val (.int ((1 : Int32) &&& (own_fv z (S.1.getD x 0)))), .val (.ref tr), .val (.int (2 : Int32)), .val (.int (1 : Int32)), .val (.int (Int32.ofNat y))] [])) _
    refine XS.iload X1069.here hx rfl (hb hby d4_28) rfl ?_
    show Steps p.tables e below (T1069.setTop (mkF m 30 #[.val (.ref a1), .val (.ref tr), .val (.double (FP.l2d (Int64.ofNat z))), .second, .val (.int ((1 : Int32) &&& (own_fv z (S.1.getD x 0)))), .val (.ref tr), .val (.int (2 : Int32)), .val (.int (1 : Int32)), .val (.int (Int32.ofNat y))] [(.int ((1 : Int32) &&& (own_fv z (S.1.getD x 0))))])) _
    refine XS.aloadN X1069.here hx rfl (hb hby d4_30) rfl rfl ?_
    show Steps p.tables e below (T1069.setTop (mkF m 31 #[.val (.ref a1), .val (.ref tr), .val (.double (FP.l2d (Int64.ofNat z))), .second, .val (.int ((1 : Int32) &&& (own_fv z (S.1.getD x 0)))), .val (.ref tr), .val (.int (2 : Int32)), .val (.int (1 : Int32)), .val (.int (Int32.ofNat y))] [(.ref a1), (.int ((1 : Int32) &&& (own_fv z (S.1.getD x 0))))])) _
    refine XS.iload X1069.here hx rfl (hb hby d4_31) rfl ?_
    show Steps p.tables e below (T1069.setTop (mkF m 33 #[.val (.ref a1), .val (.ref tr), .val (.double (FP.l2d (Int64.ofNat z))), .second, .val (.int ((1 : Int32) &&& (own_fv z (S.1.getD x 0)))), .val (.ref tr), .val (.int (2 : Int32)), .val (.int (1 : Int32)), .val (.int (Int32.ofNat y))] [(.int (Int32.ofNat y)), (.ref a1), (.int ((1 : Int32) &&& (own_fv z (S.1.getD x 0))))])) _
    refine XS.dloadN X1069.here hx rfl (hb hby d4_33) rfl ?_
    show Steps p.tables e below (T1069.setTop (mkF m 34 #[.val (.ref a1), .val (.ref tr), .val (.double (FP.l2d (Int64.ofNat z))), .second, .val (.int ((1 : Int32) &&& (own_fv z (S.1.getD x 0)))), .val (.ref tr), .val (.int (2 : Int32)), .val (.int (1 : Int32)), .val (.int (Int32.ofNat y))] [(.double (FP.l2d (Int64.ofNat z))), (.int (Int32.ofNat y)), (.ref a1), (.int ((1 : Int32) &&& (own_fv z (S.1.getD x 0))))])) _
    refine st1071.trans ?_
    show Steps p.tables e below (T1071.setTop (mkF m 37 #[.val (.ref a1), .val (.ref tr), .val (.double (FP.l2d (Int64.ofNat z))), .second, .val (.int ((1 : Int32) &&& (own_fv z (S.1.getD x 0)))), .val (.ref tr), .val (.int (2 : Int32)), .val (.int (1 : Int32)), .val (.int (Int32.ofNat y))] [(.int (own_fv z (S.1.getD y 0))), (.int ((1 : Int32) &&& (own_fv z (S.1.getD x 0))))])) _
    refine XS.iand X1071.here hx rfl (hb hby d4_37) rfl ?_
    show Steps p.tables e below (T1071.setTop (mkF m 38 #[.val (.ref a1), .val (.ref tr), .val (.double (FP.l2d (Int64.ofNat z))), .second, .val (.int ((1 : Int32) &&& (own_fv z (S.1.getD x 0)))), .val (.ref tr), .val (.int (2 : Int32)), .val (.int (1 : Int32)), .val (.int (Int32.ofNat y))] [(.int (((1 : Int32) &&& (own_fv z (S.1.getD x 0))) &&& (own_fv z (S.1.getD y 0))))])) _
    refine XS.istore X1071.here hx rfl (hb hby d4_38) rfl (l' := #[.val (.ref a1), .val (.ref tr), .val (.double (FP.l2d (Int64.ofNat z))), .second, .val (.int (((1 : Int32) &&& (own_fv z (S.1.getD x 0))) &&& (own_fv z (S.1.getD y 0)))), .val (.ref tr), .val (.int (2 : Int32)), .val (.int (1 : Int32)), .val (.int (Int32.ofNat y))]) rfl ?_
    show Steps p.tables e below (T1071.setTop (mkF m 40 #[.val (.ref a1), .val (.ref tr), .val (.double (FP.l2d (Int64.ofNat z))), .second, .val (.int (((1 : Int32) &&& (own_fv z (S.1.getD x 0))) &&& (own_fv z (S.1.getD y 0)))), .val (.ref tr), .val (.int (2 : Int32)), .val (.int (1 : Int32)), .val (.int (Int32.ofNat y))] [])) _
    refine XS.iinc X1071.here hx rfl (hb hby d4_40) rfl (l' := #[.val (.ref a1), .val (.ref tr), .val (.double (FP.l2d (Int64.ofNat z))), .second, .val (.int (((1 : Int32) &&& (own_fv z (S.1.getD x 0))) &&& (own_fv z (S.1.getD y 0)))), .val (.ref tr), .val (.int (2 : Int32)), .val (.int (2 : Int32)), .val (.int (Int32.ofNat y))]) rfl ?_
    show Steps p.tables e below (T1071.setTop (mkF m 43 #[.val (.ref a1), .val (.ref tr), .val (.double (FP.l2d (Int64.ofNat z))), .second, .val (.int (((1 : Int32) &&& (own_fv z (S.1.getD x 0))) &&& (own_fv z (S.1.getD y 0)))), .val (.ref tr), .val (.int (2 : Int32)), .val (.int (2 : Int32)), .val (.int (Int32.ofNat y))] [])) _
    refine XS.goto X1071.here hx rfl (pc0 := 43) (pc' := 14) rfl (hb hby d4_43) (by decide) (by decide) ?_
    show Steps p.tables e below (T1071.setTop (mkF m 14 #[.val (.ref a1), .val (.ref tr), .val (.double (FP.l2d (Int64.ofNat z))), .second, .val (.int (((1 : Int32) &&& (own_fv z (S.1.getD x 0))) &&& (own_fv z (S.1.getD y 0)))), .val (.ref tr), .val (.int (2 : Int32)), .val (.int (2 : Int32)), .val (.int (Int32.ofNat y))] [])) _
    refine XS.iload X1071.here hx rfl (hb hby d4_14) rfl ?_
    show Steps p.tables e below (T1071.setTop (mkF m 16 #[.val (.ref a1), .val (.ref tr), .val (.double (FP.l2d (Int64.ofNat z))), .second, .val (.int (((1 : Int32) &&& (own_fv z (S.1.getD x 0))) &&& (own_fv z (S.1.getD y 0)))), .val (.ref tr), .val (.int (2 : Int32)), .val (.int (2 : Int32)), .val (.int (Int32.ofNat y))] [(.int (2 : Int32))])) _
    refine XS.iload X1071.here hx rfl (hb hby d4_16) rfl ?_
    show Steps p.tables e below (T1071.setTop (mkF m 18 #[.val (.ref a1), .val (.ref tr), .val (.double (FP.l2d (Int64.ofNat z))), .second, .val (.int (((1 : Int32) &&& (own_fv z (S.1.getD x 0))) &&& (own_fv z (S.1.getD y 0)))), .val (.ref tr), .val (.int (2 : Int32)), .val (.int (2 : Int32)), .val (.int (Int32.ofNat y))] [(.int (2 : Int32)), (.int (2 : Int32))])) _
    refine XS.icmpYes X1071.here hx rfl (pc0 := 18) (pc' := 46) rfl (hb hby d4_18) rfl (flt (by decide)).2.1 (by decide) (by decide) ?_
    show Steps p.tables e below (T1071.setTop (mkF m 46 #[.val (.ref a1), .val (.ref tr), .val (.double (FP.l2d (Int64.ofNat z))), .second, .val (.int (((1 : Int32) &&& (own_fv z (S.1.getD x 0))) &&& (own_fv z (S.1.getD y 0)))), .val (.ref tr), .val (.int (2 : Int32)), .val (.int (2 : Int32)), .val (.int (Int32.ofNat y))] [])) _
    refine XS.aloadN X1071.here hx rfl (hb hby d4_46) rfl rfl ?_
    show Steps p.tables e below (T1071.setTop (mkF m 47 #[.val (.ref a1), .val (.ref tr), .val (.double (FP.l2d (Int64.ofNat z))), .second, .val (.int (((1 : Int32) &&& (own_fv z (S.1.getD x 0))) &&& (own_fv z (S.1.getD y 0)))), .val (.ref tr), .val (.int (2 : Int32)), .val (.int (2 : Int32)), .val (.int (Int32.ofNat y))] [(.ref tr)])) _
    refine XS.astore X1071.here hx rfl (hb hby d4_47) rfl rfl (l' := #[.val (.ref a1), .val (.ref tr), .val (.double (FP.l2d (Int64.ofNat z))), .second, .val (.int (((1 : Int32) &&& (own_fv z (S.1.getD x 0))) &&& (own_fv z (S.1.getD y 0)))), .val (.ref tr), .val (.int (2 : Int32)), .val (.int (2 : Int32)), .val (.int (Int32.ofNat y))]) rfl ?_
    show Steps p.tables e below (T1071.setTop (mkF m 49 #[.val (.ref a1), .val (.ref tr), .val (.double (FP.l2d (Int64.ofNat z))), .second, .val (.int (((1 : Int32) &&& (own_fv z (S.1.getD x 0))) &&& (own_fv z (S.1.getD y 0)))), .val (.ref tr), .val (.int (2 : Int32)), .val (.int (2 : Int32)), .val (.int (Int32.ofNat y))] [])) _
    refine XS.aload X1071.here hx rfl (hb hby d4_49) rfl rfl ?_
    show Steps p.tables e below (T1071.setTop (mkF m 51 #[.val (.ref a1), .val (.ref tr), .val (.double (FP.l2d (Int64.ofNat z))), .second, .val (.int (((1 : Int32) &&& (own_fv z (S.1.getD x 0))) &&& (own_fv z (S.1.getD y 0)))), .val (.ref tr), .val (.int (2 : Int32)), .val (.int (2 : Int32)), .val (.int (Int32.ofNat y))] [(.ref tr)])) _
    refine X1071.arraylength hx (by rw [ef1]; exact Ar1072.1) (State.isArrayOf_alike hZ.alike Ar1072.2.1) (g := (mkF m 51 #[.val (.ref a1), .val (.ref tr), .val (.double (FP.l2d (Int64.ofNat z))), .second, .val (.int (((1 : Int32) &&& (own_fv z (S.1.getD x 0))) &&& (own_fv z (S.1.getD y 0)))), .val (.ref tr), .val (.int (2 : Int32)), .val (.int (2 : Int32)), .val (.int (Int32.ofNat y))] [(.ref tr)])) rfl rfl (hb hby d4_51) _ ?_
    rw [len_of S1072 M1072]
    show Steps p.tables e below (T1071.setTop (mkF m 52 #[.val (.ref a1), .val (.ref tr), .val (.double (FP.l2d (Int64.ofNat z))), .second, .val (.int (((1 : Int32) &&& (own_fv z (S.1.getD x 0))) &&& (own_fv z (S.1.getD y 0)))), .val (.ref tr), .val (.int (2 : Int32)), .val (.int (2 : Int32)), .val (.int (Int32.ofNat y))] [(.int (2 : Int32))])) _
    refine XS.istore X1071.here hx rfl (hb hby d4_52) rfl (l' := #[.val (.ref a1), .val (.ref tr), .val (.double (FP.l2d (Int64.ofNat z))), .second, .val (.int (((1 : Int32) &&& (own_fv z (S.1.getD x 0))) &&& (own_fv z (S.1.getD y 0)))), .val (.ref tr), .val (.int (2 : Int32)), .val (.int (2 : Int32)), .val (.int (Int32.ofNat y))]) rfl ?_
    show Steps p.tables e below (T1071.setTop (mkF m 54 #[.val (.ref a1), .val (.ref tr), .val (.double (FP.l2d (Int64.ofNat z))), .second, .val (.int (((1 : Int32) &&& (own_fv z (S.1.getD x 0))) &&& (own_fv z (S.1.getD y 0)))), .val (.ref tr), .val (.int (2 : Int32)), .val (.int (2 : Int32)), .val (.int (Int32.ofNat y))] [])) _
    refine XS.iconst X1071.here hx rfl (hb hby d4_54) ?_
    show Steps p.tables e below (T1071.setTop (mkF m 55 #[.val (.ref a1), .val (.ref tr), .val (.double (FP.l2d (Int64.ofNat z))), .second, .val (.int (((1 : Int32) &&& (own_fv z (S.1.getD x 0))) &&& (own_fv z (S.1.getD y 0)))), .val (.ref tr), .val (.int (2 : Int32)), .val (.int (2 : Int32)), .val (.int (Int32.ofNat y))] [(.int (0 : Int32))])) _
    refine XS.istore X1071.here hx rfl (hb hby d4_55) rfl (l' := #[.val (.ref a1), .val (.ref tr), .val (.double (FP.l2d (Int64.ofNat z))), .second, .val (.int (((1 : Int32) &&& (own_fv z (S.1.getD x 0))) &&& (own_fv z (S.1.getD y 0)))), .val (.ref tr), .val (.int (2 : Int32)), .val (.int (0 : Int32)), .val (.int (Int32.ofNat y))]) rfl ?_
    show Steps p.tables e below (T1071.setTop (mkF m 57 #[.val (.ref a1), .val (.ref tr), .val (.double (FP.l2d (Int64.ofNat z))), .second, .val (.int (((1 : Int32) &&& (own_fv z (S.1.getD x 0))) &&& (own_fv z (S.1.getD y 0)))), .val (.ref tr), .val (.int (2 : Int32)), .val (.int (0 : Int32)), .val (.int (Int32.ofNat y))] [])) _
    refine XS.iload X1071.here hx rfl (hb hby d4_57) rfl ?_
    show Steps p.tables e below (T1071.setTop (mkF m 59 #[.val (.ref a1), .val (.ref tr), .val (.double (FP.l2d (Int64.ofNat z))), .second, .val (.int (((1 : Int32) &&& (own_fv z (S.1.getD x 0))) &&& (own_fv z (S.1.getD y 0)))), .val (.ref tr), .val (.int (2 : Int32)), .val (.int (0 : Int32)), .val (.int (Int32.ofNat y))] [(.int (0 : Int32))])) _
    refine XS.iload X1071.here hx rfl (hb hby d4_59) rfl ?_
    show Steps p.tables e below (T1071.setTop (mkF m 61 #[.val (.ref a1), .val (.ref tr), .val (.double (FP.l2d (Int64.ofNat z))), .second, .val (.int (((1 : Int32) &&& (own_fv z (S.1.getD x 0))) &&& (own_fv z (S.1.getD y 0)))), .val (.ref tr), .val (.int (2 : Int32)), .val (.int (0 : Int32)), .val (.int (Int32.ofNat y))] [(.int (2 : Int32)), (.int (0 : Int32))])) _
    refine XS.icmpNo X1071.here hx rfl (hb hby d4_61) rfl (tlt (by decide)).2.1 ?_
    show Steps p.tables e below (T1071.setTop (mkF m 64 #[.val (.ref a1), .val (.ref tr), .val (.double (FP.l2d (Int64.ofNat z))), .second, .val (.int (((1 : Int32) &&& (own_fv z (S.1.getD x 0))) &&& (own_fv z (S.1.getD y 0)))), .val (.ref tr), .val (.int (2 : Int32)), .val (.int (0 : Int32)), .val (.int (Int32.ofNat y))] [])) _
    refine XS.aload X1071.here hx rfl (hb hby d4_64) rfl rfl ?_
    show Steps p.tables e below (T1071.setTop (mkF m 66 #[.val (.ref a1), .val (.ref tr), .val (.double (FP.l2d (Int64.ofNat z))), .second, .val (.int (((1 : Int32) &&& (own_fv z (S.1.getD x 0))) &&& (own_fv z (S.1.getD y 0)))), .val (.ref tr), .val (.int (2 : Int32)), .val (.int (0 : Int32)), .val (.int (Int32.ofNat y))] [(.ref tr)])) _
    refine XS.iload X1071.here hx rfl (hb hby d4_66) rfl ?_
    show Steps p.tables e below (T1071.setTop (mkF m 68 #[.val (.ref a1), .val (.ref tr), .val (.double (FP.l2d (Int64.ofNat z))), .second, .val (.int (((1 : Int32) &&& (own_fv z (S.1.getD x 0))) &&& (own_fv z (S.1.getD y 0)))), .val (.ref tr), .val (.int (2 : Int32)), .val (.int (0 : Int32)), .val (.int (Int32.ofNat y))] [(.int (0 : Int32)), (.ref tr)])) _
    refine X1071.iaload hx (j := (0 : Int32)) (v := (.int (Int32.ofNat x))) (by rw [ef1]; exact Ar1073.1) (State.isArrayOf_alike hZ.alike Ar1073.2.1) Ar1073.2.2 hin1073 hat1073 (g := (mkF m 68 #[.val (.ref a1), .val (.ref tr), .val (.double (FP.l2d (Int64.ofNat z))), .second, .val (.int (((1 : Int32) &&& (own_fv z (S.1.getD x 0))) &&& (own_fv z (S.1.getD y 0)))), .val (.ref tr), .val (.int (2 : Int32)), .val (.int (0 : Int32)), .val (.int (Int32.ofNat y))] [(.int (0 : Int32)), (.ref tr)])) rfl rfl (hb hby d4_68) _ ?_
    show Steps p.tables e below (T1071.setTop (mkF m 69 #[.val (.ref a1), .val (.ref tr), .val (.double (FP.l2d (Int64.ofNat z))), .second, .val (.int (((1 : Int32) &&& (own_fv z (S.1.getD x 0))) &&& (own_fv z (S.1.getD y 0)))), .val (.ref tr), .val (.int (2 : Int32)), .val (.int (0 : Int32)), .val (.int (Int32.ofNat y))] [(.int (Int32.ofNat x))])) _
    refine XS.istore X1071.here hx rfl (hb hby d4_69) rfl (l' := #[.val (.ref a1), .val (.ref tr), .val (.double (FP.l2d (Int64.ofNat z))), .second, .val (.int (((1 : Int32) &&& (own_fv z (S.1.getD x 0))) &&& (own_fv z (S.1.getD y 0)))), .val (.ref tr), .val (.int (2 : Int32)), .val (.int (0 : Int32)), .val (.int (Int32.ofNat x))]) rfl ?_
    show Steps p.tables e below (T1071.setTop (mkF m 71 #[.val (.ref a1), .val (.ref tr), .val (.double (FP.l2d (Int64.ofNat z))), .second, .val (.int (((1 : Int32) &&& (own_fv z (S.1.getD x 0))) &&& (own_fv z (S.1.getD y 0)))), .val (.ref tr), .val (.int (2 : Int32)), .val (.int (0 : Int32)), .val (.int (Int32.ofNat x))] [])) _
    refine XS.aloadN X1071.here hx rfl (hb hby d4_71) rfl rfl ?_
    show Steps p.tables e below (T1071.setTop (mkF m 72 #[.val (.ref a1), .val (.ref tr), .val (.double (FP.l2d (Int64.ofNat z))), .second, .val (.int (((1 : Int32) &&& (own_fv z (S.1.getD x 0))) &&& (own_fv z (S.1.getD y 0)))), .val (.ref tr), .val (.int (2 : Int32)), .val (.int (0 : Int32)), .val (.int (Int32.ofNat x))] [(.ref a1)])) _
    refine XS.iload X1071.here hx rfl (hb hby d4_72) rfl ?_
    show Steps p.tables e below (T1071.setTop (mkF m 74 #[.val (.ref a1), .val (.ref tr), .val (.double (FP.l2d (Int64.ofNat z))), .second, .val (.int (((1 : Int32) &&& (own_fv z (S.1.getD x 0))) &&& (own_fv z (S.1.getD y 0)))), .val (.ref tr), .val (.int (2 : Int32)), .val (.int (0 : Int32)), .val (.int (Int32.ofNat x))] [(.int (Int32.ofNat x)), (.ref a1)])) _
    refine st1074.trans ?_
    show Steps p.tables e below (T1074.setTop (mkF m 77 #[.val (.ref a1), .val (.ref tr), .val (.double (FP.l2d (Int64.ofNat z))), .second, .val (.int (((1 : Int32) &&& (own_fv z (S.1.getD x 0))) &&& (own_fv z (S.1.getD y 0)))), .val (.ref tr), .val (.int (2 : Int32)), .val (.int (0 : Int32)), .val (.int (Int32.ofNat x))] [])) _
    refine XS.aloadN X1074.here hx rfl (hb hby d4_77) rfl rfl ?_
    show Steps p.tables e below (T1074.setTop (mkF m 78 #[.val (.ref a1), .val (.ref tr), .val (.double (FP.l2d (Int64.ofNat z))), .second, .val (.int (((1 : Int32) &&& (own_fv z (S.1.getD x 0))) &&& (own_fv z (S.1.getD y 0)))), .val (.ref tr), .val (.int (2 : Int32)), .val (.int (0 : Int32)), .val (.int (Int32.ofNat x))] [(.ref a1)])) _
    refine XS.iload X1074.here hx rfl (hb hby d4_78) rfl ?_
    show Steps p.tables e below (T1074.setTop (mkF m 80 #[.val (.ref a1), .val (.ref tr), .val (.double (FP.l2d (Int64.ofNat z))), .second, .val (.int (((1 : Int32) &&& (own_fv z (S.1.getD x 0))) &&& (own_fv z (S.1.getD y 0)))), .val (.ref tr), .val (.int (2 : Int32)), .val (.int (0 : Int32)), .val (.int (Int32.ofNat x))] [(.int (Int32.ofNat x)), (.ref a1)])) _
    refine XS.dloadN X1074.here hx rfl (hb hby d4_80) rfl ?_
    show Steps p.tables e below (T1074.setTop (mkF m 81 #[.val (.ref a1), .val (.ref tr), .val (.double (FP.l2d (Int64.ofNat z))), .second, .val (.int (((1 : Int32) &&& (own_fv z (S.1.getD x 0))) &&& (own_fv z (S.1.getD y 0)))), .val (.ref tr), .val (.int (2 : Int32)), .val (.int (0 : Int32)), .val (.int (Int32.ofNat x))] [(.double (FP.l2d (Int64.ofNat z))), (.int (Int32.ofNat x)), (.ref a1)])) _
    refine st1076.trans ?_
    show Steps p.tables e below (T1076.setTop (mkF m 84 #[.val (.ref a1), .val (.ref tr), .val (.double (FP.l2d (Int64.ofNat z))), .second, .val (.int (((1 : Int32) &&& (own_fv z (S.1.getD x 0))) &&& (own_fv z (S.1.getD y 0)))), .val (.ref tr), .val (.int (2 : Int32)), .val (.int (0 : Int32)), .val (.int (Int32.ofNat x))] [(.int (own_fv z ((own_log S x).1.getD x 0)))])) _
    exact k)
  by_cases hf0 : (own_fv z ((own_log S x).1.getD x 0)) = (0 : Int32)
  · have hle0 := own_fv0 hf0
    obtain ⟨T1078, X1078, e1078, st1078⟩ := getF X1076 hx hZ hown (host := "") (Or.inl (hw _ (List.mem_of_getElem? (i := 27) rfl))) Via.refl eg0 Fl0_closed (g := (mkF m 102 #[.val (.ref a1), .val (.ref tr), .val (.double (FP.l2d (Int64.ofNat z))), .second, .val (.int (((1 : Int32) &&& (own_fv z (S.1.getD x 0))) &&& (own_fv z (S.1.getD y 0)))), .val (.ref tr), .val (.int (2 : Int32)), .val (.int (0 : Int32)), .val (.int (Int32.ofNat x))] [(.ref a1)])) rfl rfl (hb hby d4_102)
    obtain ⟨cl1079, Ar1079, q1079, S1079, M1079, H1079, G1079⟩ := id Vl0_ac
    have hin1079 : ¬ ((Int32.ofNat x) < 0 ∨ cl1079.slots.size ≤ ((Int32.ofNat x)).toNatClampNeg) := own_in S1079 (n := 2) (by decide) (by decide) (Nat.lt_of_le_of_lt hx1 (by decide))
    obtain ⟨T1079, h1079, X1079, e1079, W1079, st1079⟩ := stZ X1078 hx hZ e1078 Ar1079 (j := (Int32.ofNat x)) hin1079 (g := (mkF m 108 #[.val (.ref a1), .val (.ref tr), .val (.double (FP.l2d (Int64.ofNat z))), .second, .val (.int (((1 : Int32) &&& (own_fv z (S.1.getD x 0))) &&& (own_fv z (S.1.getD y 0)))), .val (.ref tr), .val (.int (2 : Int32)), .val (.int (0 : Int32)), .val (.int (Int32.ofNat x))] [(.int (1 : Int32)), (.int (Int32.ofNat x)), (.ref ac)])) rfl rfl (hb hby d4_108)
    have V1079 := own_sI (y := 1) (by decide) (Arv.set Ar1079 q1079 S1079 M1079 H1079 G1079 (fits_nar_bool _) W1079 x (own_tn x (Nat.lt_of_le_of_lt hx1 (by decide))) (by rw [own_lenI]; exact Nat.lt_of_lt_of_le (Nat.lt_of_le_of_lt hx1 (by decide)) (Nat.le_of_eq (own_ok_log OK1 hx1).2.1.symm)))
    have c1080_0 := c1075_0.other W1079 ne_tr_ac
    have c1080_1 := El0.wr W1079
    have c1080_2 := Fl0_room.other W1079 (Or.inl ne_a1_ac)
    have c1080_3 := Fl0_closed.other W1079 (Or.inl ne_a1_ac)
    have c1080_4 := Fl0_loggedLink.other W1079 (Or.inl ne_a1_ac)
    have c1080_5 := Fl0_loggedRoom.other W1079 (Or.inl ne_a1_ac)
    have c1080_6 := Fl0_loggedClosed.other W1079 (Or.inl ne_a1_ac)
    have c1080_7 := Fl0_logged.other W1079 (Or.inl ne_a1_ac)
    have c1080_8 := Vl0_ar.other W1079 ne_ar_ac
    have c1080_10 := Vl0_al.other W1079 (Ne.symm ne_ac_al)
    have c1080_11 := Vl0_alr.other W1079 (Ne.symm ne_ac_alr)
    have c1080_12 := Vl0_alc.other W1079 (Ne.symm ne_ac_alc)
    have Z1079 : n0 ≤ h1079.size := Nat.le_trans Z1074 (Nat.le_of_eq W1079.size.symm)
    have K1079 : Keep h0 h1079 [a1, ar, ac, al, alr, alc] := K1074.wr W1079 (Or.inl (List.mem_of_getElem? (i := 2) rfl))
    have N1079 := Fr.snoc X1079 N1076 g_ac
    have Bs0 : own_St Z h1079 a1 ar ac al alr alc k1 k2 k3 k4 k5 (own_step z S x) := by rw [own_stepN (S := S) (i := x) hle0]; exact ⟨c1080_1, c1080_2, c1080_3, c1080_4, c1080_5, c1080_6, c1080_7, c1080_8, V1079, c1080_10, c1080_11, c1080_12⟩
    obtain ⟨Es0, Fs0_room, Fs0_closed, Fs0_loggedLink, Fs0_loggedRoom, Fs0_loggedClosed, Fs0_logged, Vs0_ar, Vs0_ac, Vs0_al, Vs0_alr, Vs0_alc⟩ := id Bs0
    have hkk1 : (own_step z S x).2.2.2.2.2 < 8 := by have := hk; have := own_step_k z S x; omega
    obtain ⟨cl1081, Ar1081, q1081, S1081, M1081, H1081, G1081⟩ := id c1080_0
    have hin1081 : ¬ ((1 : Int32) < 0 ∨ cl1081.slots.size ≤ ((1 : Int32)).toNatClampNeg) := inb_of S1081 ⟨by decide, by decide⟩
    have hat1081 : cl1081.slots[((1 : Int32)).toNatClampNeg]? = some (.int (Int32.ofNat y)) := Has.at H1081 hin1081 rfl
    obtain ⟨cq1082, q1082, q1082'⟩ := Es0.cell
    have pv1082 := Cond.privateMethod_at (mvP hZ (hw _ (List.mem_of_getElem? (i := 51) rfl)) (args := #[]))
    obtain ⟨ci1082, ki1082, i11082, i21082, -, i41082, -⟩ := Cond.instantiable_spec (mvT (args := #[]) hZ (hw _ (List.mem_of_getElem? (i := 6) rfl)))
    have sl1082 := fun (a' : Array Value) => selects_self_of_private (args := a') (y := (⟨"com/example/tributary/tributary/solver/Rooms", "log", "(I)V"⟩ : MethodName)) i11082 i21082 (by simp only [Bool.or_eq_false_iff] at i41082; exact i41082.1) pv1082 (mvT hZ (hw _ (List.mem_of_getElem? (i := 50) rfl))) (by decide)
    obtain ⟨_, _, ⟨T1082, L1082, k1082, n1082⟩, -, X1082, ⟨Lc1082, hQ1082, l1082, y1082, z1082⟩, st1082⟩ := X1079.privateBack hx (y := (⟨"com/example/tributary/tributary/solver/Rooms", "log", "(I)V"⟩ : MethodName)) hown (mvT hZ (hw _ (List.mem_of_getElem? (i := 49) rfl))) (mvT hZ (hw _ (List.mem_of_getElem? (i := 50) rfl))) (sl1082 _) pv1082 (mvT hZ (hw _ (List.mem_of_getElem? (i := 52) rfl))) (by decide) (backOf (W := 0) (rm_log l Z a0 hw [] a1 ar ac al alr alc k1 k2 k3 k4 k5 (own_step z S x) y h1079 n0 Z1079 Bs0 D1 G1 (own_ok_step OK1 hx1) hy1 hkk1) hZ (hw _ (List.mem_of_getElem? (i := 52) rfl)) (hw _ (List.mem_of_getElem? (i := 7) rfl)) (by decide) (by decide)) (g := (mkF m 74 #[.val (.ref a1), .val (.ref tr), .val (.double (FP.l2d (Int64.ofNat z))), .second, .val (.int (((1 : Int32) &&& (own_fv z (S.1.getD x 0))) &&& (own_fv z (S.1.getD y 0)))), .val (.ref tr), .val (.int (2 : Int32)), .val (.int (1 : Int32)), .val (.int (Int32.ofNat y))] [(.int (Int32.ofNat y)), (.ref a1)])) rfl (by rw [hml]; rfl) (Steps.refl _) (a := a1) (by rw [e1079]; exact q1082) q1082' (argsL := [(.int (Int32.ofNat y))]) (rest := []) (lenOf pd_2 rfl) rfl (by show 2 * 0 + _ ≤ _; exact Nat.le_of_eq rfl) (hb hby d4_74) (fun _ _ => ⟨rfl, e1079, (by decide : 0 + 0 ≤ _), (by decide : 0 + 0 ≤ _)⟩)
    dsimp only [Pt.U, Pt.locs, Pt.cells, Pt.slots] at X1082 l1082 y1082 z1082 st1082 hQ1082
    subst l1082 y1082 z1082
    obtain ⟨rfl, N1082q, Kl1, Bl1⟩ := hQ1082
    have N1082 := Fr.app N1079 N1082q
    have c1083_0 := c1080_0.keep Kl1 (ninS ne_tr_a1 (ninS ne_tr_ar (ninS ne_tr_ac (ninS ne_tr_al (ninS ne_tr_alr (ninS ne_tr_alc nin0))))))
    have Z1082 : n0 ≤ T1082.heap.size := Nat.le_trans Z1079 Kl1.1
    have K1082 : Keep h0 T1082.heap [a1, ar, ac, al, alr, alc] := K1079.trans Kl1 (allS (Or.inl (List.mem_of_getElem? (i := 0) rfl)) (allS (Or.inl (List.mem_of_getElem? (i := 1) rfl)) (allS (Or.inl (List.mem_of_getElem? (i := 2) rfl)) (allS (Or.inl (List.mem_of_getElem? (i := 3) rfl)) (allS (Or.inl (List.mem_of_getElem? (i := 4) rfl)) (allS (Or.inl (List.mem_of_getElem? (i := 5) rfl)) all0))))))
    obtain ⟨El1, Fl1_room, Fl1_closed, Fl1_loggedLink, Fl1_loggedRoom, Fl1_loggedClosed, Fl1_logged, Vl1_ar, Vl1_ac, Vl1_al, Vl1_alr, Vl1_alc⟩ := id Bl1
    obtain ⟨cq1084, q1084, q1084'⟩ := El1.cell
    have pv1084 := Cond.privateMethod_at (mvP hZ (hw _ (List.mem_of_getElem? (i := 42) rfl)) (args := #[]))
    obtain ⟨ci1084, ki1084, i11084, i21084, -, i41084, -⟩ := Cond.instantiable_spec (mvT (args := #[]) hZ (hw _ (List.mem_of_getElem? (i := 6) rfl)))
    have sl1084 := fun (a' : Array Value) => selects_self_of_private (args := a') (y := (⟨"com/example/tributary/tributary/solver/Rooms", "fits", "(ID)Z"⟩ : MethodName)) i11084 i21084 (by simp only [Bool.or_eq_false_iff] at i41084; exact i41084.1) pv1084 (mvT hZ (hw _ (List.mem_of_getElem? (i := 41) rfl))) (by decide)
    obtain ⟨_, _, ⟨T1084, L1084, k1084, n1084⟩, -, X1084, ⟨Lc1084, hQ1084, l1084, y1084, z1084⟩, st1084⟩ := X1082.privateBack hx (y := (⟨"com/example/tributary/tributary/solver/Rooms", "fits", "(ID)Z"⟩ : MethodName)) hown (mvT hZ (hw _ (List.mem_of_getElem? (i := 40) rfl))) (mvT hZ (hw _ (List.mem_of_getElem? (i := 41) rfl))) (sl1084 _) pv1084 (mvT hZ (hw _ (List.mem_of_getElem? (i := 43) rfl))) (by decide) (backOf (W := 0) (rm_rfits l Z a0 hw [] a1 ar ac al alr alc k1 k2 k3 k4 k5 (own_log (own_step z S x) y) y z T1082.heap n0 Z1082 Bl1 D1 G1 (own_ok_log (own_ok_step OK1 hx1) hy1) hy1 hz) hZ (hw _ (List.mem_of_getElem? (i := 43) rfl)) (hw _ (List.mem_of_getElem? (i := 7) rfl)) (by decide) (by decide)) (g := (mkF m 81 #[.val (.ref a1), .val (.ref tr), .val (.double (FP.l2d (Int64.ofNat z))), .second, .val (.int (((1 : Int32) &&& (own_fv z (S.1.getD x 0))) &&& (own_fv z (S.1.getD y 0)))), .val (.ref tr), .val (.int (2 : Int32)), .val (.int (1 : Int32)), .val (.int (Int32.ofNat y))] [(.double (FP.l2d (Int64.ofNat z))), (.int (Int32.ofNat y)), (.ref a1)])) rfl (by rw [hml]; rfl) (Steps.refl _) (a := a1) q1084 q1084' (argsL := [(.int (Int32.ofNat y)), (.double (FP.l2d (Int64.ofNat z)))]) (rest := []) (lenOf pd_1 rfl) rfl (by show 2 * 0 + _ ≤ _; exact Nat.le_of_eq rfl) (hb hby d4_81) (fun _ _ => ⟨rfl, rfl, (by decide : 0 + 0 ≤ _), (by decide : 0 + 0 ≤ _)⟩)
    dsimp only [Pt.U, Pt.locs, Pt.cells, Pt.slots] at X1084 l1084 y1084 z1084 st1084 hQ1084
    subst l1084 y1084 z1084
    obtain ⟨rfl, N1084q, eg1⟩ := hQ1084
    have N1084 := Fr.app N1082 N1084q
    have P1085 : ∀ t, Steps p.tables e below (T1084.setTop (mkF m 84 #[.val (.ref a1), .val (.ref tr), .val (.double (FP.l2d (Int64.ofNat z))), .second, .val (.int (((1 : Int32) &&& (own_fv z (S.1.getD x 0))) &&& (own_fv z (S.1.getD y 0)))), .val (.ref tr), .val (.int (2 : Int32)), .val (.int (1 : Int32)), .val (.int (Int32.ofNat y))] [(.int (own_fv z ((own_log (own_step z S x) y).1.getD y 0)))])) t → Steps p.tables e below (s₁.setTop (entryFrame m #[(.ref a1), (.ref tr), (.double (FP.l2d (Int64.ofNat z)))] 9)) t := fun t k => P1077 t (by
      refine XS.ifYes X1076.here hx rfl (pc0 := 84) (pc' := 101) rfl (hb hby d4_84) rfl ((if0 _ _).trans (teq hf0).1) (by decide) (by decide) ?_
      show Steps p.tables e below (T1076.setTop (mkF m 101 #[.val (.ref a1), .val (.ref tr), .val (.double (FP.l2d (Int64.ofNat z))), .second, .val (.int (((1 : Int32) &&& (own_fv z (S.1.getD x 0))) &&& (own_fv z (S.1.getD y 0)))), .val (.ref tr), .val (.int (2 : Int32)), .val (.int (0 : Int32)), .val (.int (Int32.ofNat x))] [])) _
      refine XS.aloadN X1076.here hx rfl (hb hby d4_101) rfl rfl ?_
      show Steps p.tables e below (T1076.setTop (mkF m 102 #[.val (.ref a1), .val (.ref tr), .val (.double (FP.l2d (Int64.ofNat z))), .second, .val (.int (((1 : Int32) &&& (own_fv z (S.1.getD x 0))) &&& (own_fv z (S.1.getD y 0)))), .val (.ref tr), .val (.int (2 : Int32)), .val (.int (0 : Int32)), .val (.int (Int32.ofNat x))] [(.ref a1)])) _
      refine st1078 _ ?_
      show Steps p.tables e below (T1078.setTop (mkF m 105 #[.val (.ref a1), .val (.ref tr), .val (.double (FP.l2d (Int64.ofNat z))), .second, .val (.int (((1 : Int32) &&& (own_fv z (S.1.getD x 0))) &&& (own_fv z (S.1.getD y 0)))), .val (.ref tr), .val (.int (2 : Int32)), .val (.int (0 : Int32)), .val (.int (Int32.ofNat x))] [(.ref ac)])) _
      refine XS.iload X1078.here hx rfl (hb hby d4_105) rfl ?_
      show Steps p.tables e below (T1078.setTop (mkF m 107 #[.val (.ref a1), .val (.ref tr), .val (.double (FP.l2d (Int64.ofNat z))), .second, .val (.int (((1 : Int32) &&& (own_fv z (S.1.getD x 0))) &&& (own_fv z (S.1.getD y 0)))), .val (.ref tr), .val (.int (2 : Int32)), .val (.int (0 : Int32)), .val (.int (Int32.ofNat x))] [(.int (Int32.ofNat x)), (.ref ac)])) _
      refine XS.iconst X1078.here hx rfl (hb hby d4_107) ?_
      show Steps p.tables e below (T1078.setTop (mkF m 108 #[.val (.ref a1), .val (.ref tr), .val (.double (FP.l2d (Int64.ofNat z))), .second, .val (.int (((1 : Int32) &&& (own_fv z (S.1.getD x 0))) &&& (own_fv z (S.1.getD y 0)))), .val (.ref tr), .val (.int (2 : Int32)), .val (.int (0 : Int32)), .val (.int (Int32.ofNat x))] [(.int (1 : Int32)), (.int (Int32.ofNat x)), (.ref ac)])) _
      refine st1079 _ ?_
      show Steps p.tables e below (T1079.setTop (mkF m 109 #[.val (.ref a1), .val (.ref tr), .val (.double (FP.l2d (Int64.ofNat z))), .second, .val (.int (((1 : Int32) &&& (own_fv z (S.1.getD x 0))) &&& (own_fv z (S.1.getD y 0)))), .val (.ref tr), .val (.int (2 : Int32)), .val (.int (0 : Int32)), .val (.int (Int32.ofNat x))] [])) _
      refine XS.iinc X1079.here hx rfl (hb hby d4_109) rfl (l' := #[.val (.ref a1), .val (.ref tr), .val (.double (FP.l2d (Int64.ofNat z))), .second, .val (.int (((1 : Int32) &&& (own_fv z (S.1.getD x 0))) &&& (own_fv z (S.1.getD y 0)))), .val (.ref tr), .val (.int (2 : Int32)), .val (.int (1 : Int32)), .val (.int (Int32.ofNat x))]) rfl ?_
      show Steps p.tables e below (T1079.setTop (mkF m 112 #[.val (.ref a1), .val (.ref tr), .val (.double (FP.l2d (Int64.ofNat z))), .second, .val (.int (((1 : Int32) &&& (own_fv z (S.1.getD x 0))) &&& (own_fv z (S.1.getD y 0)))), .val (.ref tr), .val (.int (2 : Int32)), .val (.int (1 : Int32)), .val (.int (Int32.ofNat x))] [])) _
      refine XS.goto X1079.here hx rfl (pc0 := 112) (pc' := 57) rfl (hb hby d4_112) (by decide) (by decide) ?_
      show Steps p.tables e below (T1079.setTop (mkF m 57 #[.val (.ref a1), .val (.ref tr), .val (.double (FP.l2d (Int64.ofNat z))), .second, .val (.int (((1 : Int32) &&& (own_fv z (S.1.getD x 0))) &&& (own_fv z (S.1.getD y 0)))), .val (.ref tr), .val (.int (2 : Int32)), .val (.int (1 : Int32)), .val (.int (Int32.ofNat x))] [])) _
      refine XS.iload X1079.here hx rfl (hb hby d4_57) rfl ?_
      show Steps p.tables e below (T1079.setTop (mkF m 59 #[.val (.ref a1), .val (.ref tr), .val (.double (FP.l2d (Int64.ofNat z))), .second, .val (.int (((1 : Int32) &&& (own_fv z (S.1.getD x 0))) &&& (own_fv z (S.1.getD y 0)))), .val (.ref tr), .val (.int (2 : Int32)), .val (.int (1 : Int32)), .val (.int (Int32.ofNat x))] [(.int (1 : Int32))])) _
      refine XS.iload X1079.here hx rfl (hb hby d4_59) rfl ?_
      show Steps p.tables e below (T1079.setTop (mkF m 61 #[.val (.ref a1), .val (.ref tr), .val (.double (FP.l2d (Int64.ofNat z))), .second, .val (.int (((1 : Int32) &&& (own_fv z (S.1.getD x 0))) &&& (own_fv z (S.1.getD y 0)))), .val (.ref tr), .val (.int (2 : Int32)), .val (.int (1 : Int32)), .val (.int (Int32.ofNat x))] [(.int (2 : Int32)), (.int (1 : Int32))])) _
      refine XS.icmpNo X1079.here hx rfl (hb hby d4_61) rfl (tlt (by decide)).2.1 ?_
      show Steps p.tables e below (T1079.setTop (mkF m 64 #[.val (.ref a1), .val (.ref tr), .val (.double (FP.l2d (Int64.ofNat z))), .second, .val (.int (((1 : Int32) &&& (own_fv z (S.1.getD x 0))) &&& (own_fv z (S.1.getD y 0)))), .val (.ref tr), .val (.int (2 : Int32)), .val (.int (1 : Int32)), .val (.int (Int32.ofNat x))] [])) _
      refine XS.aload X1079.here hx rfl (hb hby d4_64) rfl rfl ?_
      show Steps p.tables e below (T1079.setTop (mkF m 66 #[.val (.ref a1), .val (.ref tr), .val (.double (FP.l2d (Int64.ofNat z))), .second, .val (.int (((1 : Int32) &&& (own_fv z (S.1.getD x 0))) &&& (own_fv z (S.1.getD y 0)))), .val (.ref tr), .val (.int (2 : Int32)), .val (.int (1 : Int32)), .val (.int (Int32.ofNat x))] [(.ref tr)])) _
      refine XS.iload X1079.here hx rfl (hb hby d4_66) rfl ?_
      show Steps p.tables e below (T1079.setTop (mkF m 68 #[.val (.ref a1), .val (.ref tr), .val (.double (FP.l2d (Int64.ofNat z))), .second, .val (.int (((1 : Int32) &&& (own_fv z (S.1.getD x 0))) &&& (own_fv z (S.1.getD y 0)))), .val (.ref tr), .val (.int (2 : Int32)), .val (.int (1 : Int32)), .val (.int (Int32.ofNat x))] [(.int (1 : Int32)), (.ref tr)])) _
      refine X1079.iaload hx (j := (1 : Int32)) (v := (.int (Int32.ofNat y))) (by rw [e1079]; exact Ar1081.1) (State.isArrayOf_alike hZ.alike Ar1081.2.1) Ar1081.2.2 hin1081 hat1081 (g := (mkF m 68 #[.val (.ref a1), .val (.ref tr), .val (.double (FP.l2d (Int64.ofNat z))), .second, .val (.int (((1 : Int32) &&& (own_fv z (S.1.getD x 0))) &&& (own_fv z (S.1.getD y 0)))), .val (.ref tr), .val (.int (2 : Int32)), .val (.int (1 : Int32)), .val (.int (Int32.ofNat x))] [(.int (1 : Int32)), (.ref tr)])) rfl rfl (hb hby d4_68) _ ?_
      show Steps p.tables e below (T1079.setTop (mkF m 69 #[.val (.ref a1), .val (.ref tr), .val (.double (FP.l2d (Int64.ofNat z))), .second, .val (.int (((1 : Int32) &&& (own_fv z (S.1.getD x 0))) &&& (own_fv z (S.1.getD y 0)))), .val (.ref tr), .val (.int (2 : Int32)), .val (.int (1 : Int32)), .val (.int (Int32.ofNat x))] [(.int (Int32.ofNat y))])) _
      refine XS.istore X1079.here hx rfl (hb hby d4_69) rfl (l' := #[.val (.ref a1), .val (.ref tr), .val (.double (FP.l2d (Int64.ofNat z))), .second, .val (.int (((1 : Int32) &&& (own_fv z (S.1.getD x 0))) &&& (own_fv z (S.1.getD y 0)))), .val (.ref tr), .val (.int (2 : Int32)), .val (.int (1 : Int32)), .val (.int (Int32.ofNat y))]) rfl ?_
      show Steps p.tables e below (T1079.setTop (mkF m 71 #[.val (.ref a1), .val (.ref tr), .val (.double (FP.l2d (Int64.ofNat z))), .second, .val (.int (((1 : Int32) &&& (own_fv z (S.1.getD x 0))) &&& (own_fv z (S.1.getD y 0)))), .val (.ref tr), .val (.int (2 : Int32)), .val (.int (1 : Int32)), .val (.int (Int32.ofNat y))] [])) _
      refine XS.aloadN X1079.here hx rfl (hb hby d4_71) rfl rfl ?_
      show Steps p.tables e below (T1079.setTop (mkF m 72 #[.val (.ref a1), .val (.ref tr), .val (.double (FP.l2d (Int64.ofNat z))), .second, .val (.int (((1 : Int32) &&& (own_fv z (S.1.getD x 0))) &&& (own_fv z (S.1.getD y 0)))), .val (.ref tr), .val (.int (2 : Int32)), .val (.int (1 : Int32)), .val (.int (Int32.ofNat y))] [(.ref a1)])) _
      refine XS.iload X1079.here hx rfl (hb hby d4_72) rfl ?_
      show Steps p.tables e below (T1079.setTop (mkF m 74 #[.val (.ref a1), .val (.ref tr), .val (.double (FP.l2d (Int64.ofNat z))), .second, .val (.int (((1 : Int32) &&& (own_fv z (S.1.getD x 0))) &&& (own_fv z (S.1.getD y 0)))), .val (.ref tr), .val (.int (2 : Int32)), .val (.int (1 : Int32)), .val (.int (Int32.ofNat y))] [(.int (Int32.ofNat y)), (.ref a1)])) _
      refine st1082.trans ?_
      show Steps p.tables e below (T1082.setTop (mkF m 77 #[.val (.ref a1), .val (.ref tr), .val (.double (FP.l2d (Int64.ofNat z))), .second, .val (.int (((1 : Int32) &&& (own_fv z (S.1.getD x 0))) &&& (own_fv z (S.1.getD y 0)))), .val (.ref tr), .val (.int (2 : Int32)), .val (.int (1 : Int32)), .val (.int (Int32.ofNat y))] [])) _
      refine XS.aloadN X1082.here hx rfl (hb hby d4_77) rfl rfl ?_
      show Steps p.tables e below (T1082.setTop (mkF m 78 #[.val (.ref a1), .val (.ref tr), .val (.double (FP.l2d (Int64.ofNat z))), .second, .val (.int (((1 : Int32) &&& (own_fv z (S.1.getD x 0))) &&& (own_fv z (S.1.getD y 0)))), .val (.ref tr), .val (.int (2 : Int32)), .val (.int (1 : Int32)), .val (.int (Int32.ofNat y))] [(.ref a1)])) _
      refine XS.iload X1082.here hx rfl (hb hby d4_78) rfl ?_
      show Steps p.tables e below (T1082.setTop (mkF m 80 #[.val (.ref a1), .val (.ref tr), .val (.double (FP.l2d (Int64.ofNat z))), .second, .val (.int (((1 : Int32) &&& (own_fv z (S.1.getD x 0))) &&& (own_fv z (S.1.getD y 0)))), .val (.ref tr), .val (.int (2 : Int32)), .val (.int (1 : Int32)), .val (.int (Int32.ofNat y))] [(.int (Int32.ofNat y)), (.ref a1)])) _
      refine XS.dloadN X1082.here hx rfl (hb hby d4_80) rfl ?_
      show Steps p.tables e below (T1082.setTop (mkF m 81 #[.val (.ref a1), .val (.ref tr), .val (.double (FP.l2d (Int64.ofNat z))), .second, .val (.int (((1 : Int32) &&& (own_fv z (S.1.getD x 0))) &&& (own_fv z (S.1.getD y 0)))), .val (.ref tr), .val (.int (2 : Int32)), .val (.int (1 : Int32)), .val (.int (Int32.ofNat y))] [(.double (FP.l2d (Int64.ofNat z))), (.int (Int32.ofNat y)), (.ref a1)])) _
      refine st1084.trans ?_
      show Steps p.tables e below (T1084.setTop (mkF m 84 #[.val (.ref a1), .val (.ref tr), .val (.double (FP.l2d (Int64.ofNat z))), .second, .val (.int (((1 : Int32) &&& (own_fv z (S.1.getD x 0))) &&& (own_fv z (S.1.getD y 0)))), .val (.ref tr), .val (.int (2 : Int32)), .val (.int (1 : Int32)), .val (.int (Int32.ofNat y))] [(.int (own_fv z ((own_log (own_step z S x) y).1.getD y 0)))])) _
      exact k)
    by_cases hf1 : (own_fv z ((own_log (own_step z S x) y).1.getD y 0)) = (0 : Int32)
    · have hle1 := own_fv0 hf1
      obtain ⟨T1086, X1086, e1086, st1086⟩ := getF X1084 hx hZ hown (host := "") (Or.inl (hw _ (List.mem_of_getElem? (i := 27) rfl))) Via.refl eg1 Fl1_closed (g := (mkF m 102 #[.val (.ref a1), .val (.ref tr), .val (.double (FP.l2d (Int64.ofNat z))), .second, .val (.int (((1 : Int32) &&& (own_fv z (S.1.getD x 0))) &&& (own_fv z (S.1.getD y 0)))), .val (.ref tr), .val (.int (2 : Int32)), .val (.int (1 : Int32)), .val (.int (Int32.ofNat y))] [(.ref a1)])) rfl rfl (hb hby d4_102)
      obtain ⟨cl1087, Ar1087, q1087, S1087, M1087, H1087, G1087⟩ := id Vl1_ac
      have hin1087 : ¬ ((Int32.ofNat y) < 0 ∨ cl1087.slots.size ≤ ((Int32.ofNat y)).toNatClampNeg) := own_in S1087 (n := 2) (by decide) (by decide) (Nat.lt_of_le_of_lt hy1 (by decide))
      obtain ⟨T1087, h1087, X1087, e1087, W1087, st1087⟩ := stZ X1086 hx hZ e1086 Ar1087 (j := (Int32.ofNat y)) hin1087 (g := (mkF m 108 #[.val (.ref a1), .val (.ref tr), .val (.double (FP.l2d (Int64.ofNat z))), .second, .val (.int (((1 : Int32) &&& (own_fv z (S.1.getD x 0))) &&& (own_fv z (S.1.getD y 0)))), .val (.ref tr), .val (.int (2 : Int32)), .val (.int (1 : Int32)), .val (.int (Int32.ofNat y))] [(.int (1 : Int32)), (.int (Int32.ofNat y)), (.ref ac)])) rfl rfl (hb hby d4_108)
      have V1087 := own_sI (y := 1) (by decide) (Arv.set Ar1087 q1087 S1087 M1087 H1087 G1087 (fits_nar_bool _) W1087 y (own_tn y (Nat.lt_of_le_of_lt hy1 (by decide))) (by rw [own_lenI]; exact Nat.lt_of_lt_of_le (Nat.lt_of_le_of_lt hy1 (by decide)) (Nat.le_of_eq (own_ok_log (own_ok_step OK1 hx1) hy1).2.1.symm)))
      have c1088_0 := c1083_0.other W1087 ne_tr_ac
      have c1088_1 := El1.wr W1087
      have c1088_2 := Fl1_room.other W1087 (Or.inl ne_a1_ac)
      have c1088_3 := Fl1_closed.other W1087 (Or.inl ne_a1_ac)
      have c1088_4 := Fl1_loggedLink.other W1087 (Or.inl ne_a1_ac)
      have c1088_5 := Fl1_loggedRoom.other W1087 (Or.inl ne_a1_ac)
      have c1088_6 := Fl1_loggedClosed.other W1087 (Or.inl ne_a1_ac)
      have c1088_7 := Fl1_logged.other W1087 (Or.inl ne_a1_ac)
      have c1088_8 := Vl1_ar.other W1087 ne_ar_ac
      have c1088_10 := Vl1_al.other W1087 (Ne.symm ne_ac_al)
      have c1088_11 := Vl1_alr.other W1087 (Ne.symm ne_ac_alr)
      have c1088_12 := Vl1_alc.other W1087 (Ne.symm ne_ac_alc)
      have Z1087 : n0 ≤ h1087.size := Nat.le_trans Z1082 (Nat.le_of_eq W1087.size.symm)
      have K1087 : Keep h0 h1087 [a1, ar, ac, al, alr, alc] := K1082.wr W1087 (Or.inl (List.mem_of_getElem? (i := 2) rfl))
      have N1087 := Fr.snoc X1087 N1084 g_ac
      have Bs1 : own_St Z h1087 a1 ar ac al alr alc k1 k2 k3 k4 k5 (own_step z (own_step z S x) y) := by rw [own_stepN (S := (own_step z S x)) (i := y) hle1]; exact ⟨c1088_1, c1088_2, c1088_3, c1088_4, c1088_5, c1088_6, c1088_7, c1088_8, V1087, c1088_10, c1088_11, c1088_12⟩
      obtain ⟨Es1, Fs1_room, Fs1_closed, Fs1_loggedLink, Fs1_loggedRoom, Fs1_loggedClosed, Fs1_logged, Vs1_ar, Vs1_ac, Vs1_al, Vs1_alr, Vs1_alc⟩ := id Bs1
      have P1089 : ∀ t, Steps p.tables e below (T1087.setTop (mkF m 117 #[.val (.ref a1), .val (.ref tr), .val (.double (FP.l2d (Int64.ofNat z))), .second, .val (.int (((1 : Int32) &&& (own_fv z (S.1.getD x 0))) &&& (own_fv z (S.1.getD y 0)))), .val (.ref tr), .val (.int (2 : Int32)), .val (.int (2 : Int32)), .val (.int (Int32.ofNat y))] [(.int (((1 : Int32) &&& (own_fv z (S.1.getD x 0))) &&& (own_fv z (S.1.getD y 0))))])) t → Steps p.tables e below (s₁.setTop (entryFrame m #[(.ref a1), (.ref tr), (.double (FP.l2d (Int64.ofNat z)))] 9)) t := fun t k => P1085 t (by
        refine XS.ifYes X1084.here hx rfl (pc0 := 84) (pc' := 101) rfl (hb hby d4_84) rfl ((if0 _ _).trans (teq hf1).1) (by decide) (by decide) ?_
        show Steps p.tables e below (T1084.setTop (mkF m 101 #[.val (.ref a1), .val (.ref tr), .val (.double (FP.l2d (Int64.ofNat z))), .second, .val (.int (((1 : Int32) &&& (own_fv z (S.1.getD x 0))) &&& (own_fv z (S.1.getD y 0)))), .val (.ref tr), .val (.int (2 : Int32)), .val (.int (1 : Int32)), .val (.int (Int32.ofNat y))] [])) _
        refine XS.aloadN X1084.here hx rfl (hb hby d4_101) rfl rfl ?_
        show Steps p.tables e below (T1084.setTop (mkF m 102 #[.val (.ref a1), .val (.ref tr), .val (.double (FP.l2d (Int64.ofNat z))), .second, .val (.int (((1 : Int32) &&& (own_fv z (S.1.getD x 0))) &&& (own_fv z (S.1.getD y 0)))), .val (.ref tr), .val (.int (2 : Int32)), .val (.int (1 : Int32)), .val (.int (Int32.ofNat y))] [(.ref a1)])) _
        refine st1086 _ ?_
        show Steps p.tables e below (T1086.setTop (mkF m 105 #[.val (.ref a1), .val (.ref tr), .val (.double (FP.l2d (Int64.ofNat z))), .second, .val (.int (((1 : Int32) &&& (own_fv z (S.1.getD x 0))) &&& (own_fv z (S.1.getD y 0)))), .val (.ref tr), .val (.int (2 : Int32)), .val (.int (1 : Int32)), .val (.int (Int32.ofNat y))] [(.ref ac)])) _
        refine XS.iload X1086.here hx rfl (hb hby d4_105) rfl ?_
        show Steps p.tables e below (T1086.setTop (mkF m 107 #[.val (.ref a1), .val (.ref tr), .val (.double (FP.l2d (Int64.ofNat z))), .second, .val (.int (((1 : Int32) &&& (own_fv z (S.1.getD x 0))) &&& (own_fv z (S.1.getD y 0)))), .val (.ref tr), .val (.int (2 : Int32)), .val (.int (1 : Int32)), .val (.int (Int32.ofNat y))] [(.int (Int32.ofNat y)), (.ref ac)])) _
        refine XS.iconst X1086.here hx rfl (hb hby d4_107) ?_
        show Steps p.tables e below (T1086.setTop (mkF m 108 #[.val (.ref a1), .val (.ref tr), .val (.double (FP.l2d (Int64.ofNat z))), .second, .val (.int (((1 : Int32) &&& (own_fv z (S.1.getD x 0))) &&& (own_fv z (S.1.getD y 0)))), .val (.ref tr), .val (.int (2 : Int32)), .val (.int (1 : Int32)), .val (.int (Int32.ofNat y))] [(.int (1 : Int32)), (.int (Int32.ofNat y)), (.ref ac)])) _
        refine st1087 _ ?_
        show Steps p.tables e below (T1087.setTop (mkF m 109 #[.val (.ref a1), .val (.ref tr), .val (.double (FP.l2d (Int64.ofNat z))), .second, .val (.int (((1 : Int32) &&& (own_fv z (S.1.getD x 0))) &&& (own_fv z (S.1.getD y 0)))), .val (.ref tr), .val (.int (2 : Int32)), .val (.int (1 : Int32)), .val (.int (Int32.ofNat y))] [])) _
        refine XS.iinc X1087.here hx rfl (hb hby d4_109) rfl (l' := #[.val (.ref a1), .val (.ref tr), .val (.double (FP.l2d (Int64.ofNat z))), .second, .val (.int (((1 : Int32) &&& (own_fv z (S.1.getD x 0))) &&& (own_fv z (S.1.getD y 0)))), .val (.ref tr), .val (.int (2 : Int32)), .val (.int (2 : Int32)), .val (.int (Int32.ofNat y))]) rfl ?_
        show Steps p.tables e below (T1087.setTop (mkF m 112 #[.val (.ref a1), .val (.ref tr), .val (.double (FP.l2d (Int64.ofNat z))), .second, .val (.int (((1 : Int32) &&& (own_fv z (S.1.getD x 0))) &&& (own_fv z (S.1.getD y 0)))), .val (.ref tr), .val (.int (2 : Int32)), .val (.int (2 : Int32)), .val (.int (Int32.ofNat y))] [])) _
        refine XS.goto X1087.here hx rfl (pc0 := 112) (pc' := 57) rfl (hb hby d4_112) (by decide) (by decide) ?_
        show Steps p.tables e below (T1087.setTop (mkF m 57 #[.val (.ref a1), .val (.ref tr), .val (.double (FP.l2d (Int64.ofNat z))), .second, .val (.int (((1 : Int32) &&& (own_fv z (S.1.getD x 0))) &&& (own_fv z (S.1.getD y 0)))), .val (.ref tr), .val (.int (2 : Int32)), .val (.int (2 : Int32)), .val (.int (Int32.ofNat y))] [])) _
        refine XS.iload X1087.here hx rfl (hb hby d4_57) rfl ?_
        show Steps p.tables e below (T1087.setTop (mkF m 59 #[.val (.ref a1), .val (.ref tr), .val (.double (FP.l2d (Int64.ofNat z))), .second, .val (.int (((1 : Int32) &&& (own_fv z (S.1.getD x 0))) &&& (own_fv z (S.1.getD y 0)))), .val (.ref tr), .val (.int (2 : Int32)), .val (.int (2 : Int32)), .val (.int (Int32.ofNat y))] [(.int (2 : Int32))])) _
        refine XS.iload X1087.here hx rfl (hb hby d4_59) rfl ?_
        show Steps p.tables e below (T1087.setTop (mkF m 61 #[.val (.ref a1), .val (.ref tr), .val (.double (FP.l2d (Int64.ofNat z))), .second, .val (.int (((1 : Int32) &&& (own_fv z (S.1.getD x 0))) &&& (own_fv z (S.1.getD y 0)))), .val (.ref tr), .val (.int (2 : Int32)), .val (.int (2 : Int32)), .val (.int (Int32.ofNat y))] [(.int (2 : Int32)), (.int (2 : Int32))])) _
        refine XS.icmpYes X1087.here hx rfl (pc0 := 61) (pc' := 115) rfl (hb hby d4_61) rfl (flt (by decide)).2.1 (by decide) (by decide) ?_
        show Steps p.tables e below (T1087.setTop (mkF m 115 #[.val (.ref a1), .val (.ref tr), .val (.double (FP.l2d (Int64.ofNat z))), .second, .val (.int (((1 : Int32) &&& (own_fv z (S.1.getD x 0))) &&& (own_fv z (S.1.getD y 0)))), .val (.ref tr), .val (.int (2 : Int32)), .val (.int (2 : Int32)), .val (.int (Int32.ofNat y))] [])) _
        refine XS.iload X1087.here hx rfl (hb hby d4_115) rfl ?_
        show Steps p.tables e below (T1087.setTop (mkF m 117 #[.val (.ref a1), .val (.ref tr), .val (.double (FP.l2d (Int64.ofNat z))), .second, .val (.int (((1 : Int32) &&& (own_fv z (S.1.getD x 0))) &&& (own_fv z (S.1.getD y 0)))), .val (.ref tr), .val (.int (2 : Int32)), .val (.int (2 : Int32)), .val (.int (Int32.ofNat y))] [(.int (((1 : Int32) &&& (own_fv z (S.1.getD x 0))) &&& (own_fv z (S.1.getD y 0))))])) _
        exact k)
      obtain ⟨fs, hr, hrun, hended, hW, hsame⟩ := X1087.leave (v := some (.int (nar .boolean (((1 : Int32) &&& (own_fv z (S.1.getD x 0))) &&& (own_fv z (S.1.getD y 0)))))) (fun h => by rw [Bd.returns] at h; cases h)
      refine ⟨_, _, P1089 _ ?_, hrun, hended, _, _, rfl, ?_, ⟨_, rfl⟩, hW, hsame.mono (by decide) (by decide)⟩
      · exact retN X1087 hx (t := .boolean) Bd.returns (by simp) (hb hby d4_117) hr
      · show Q_try2 Z a1 ar ac al alr alc k1 k2 k3 k4 k5 S tr kt x y z h0 n0 _ T1087.heap _
        rw [e1087]
        exact ⟨_, rfl, N1087, K1087, Bs1⟩
    · have hle1 := own_fv1 hf1
      obtain ⟨T1090, X1090, e1090, st1090⟩ := getF X1084 hx hZ hown (host := "") (Or.inl (hw _ (List.mem_of_getElem? (i := 24) rfl))) Via.refl eg1 Fl1_room (g := (mkF m 88 #[.val (.ref a1), .val (.ref tr), .val (.double (FP.l2d (Int64.ofNat z))), .second, .val (.int (((1 : Int32) &&& (own_fv z (S.1.getD x 0))) &&& (own_fv z (S.1.getD y 0)))), .val (.ref tr), .val (.int (2 : Int32)), .val (.int (1 : Int32)), .val (.int (Int32.ofNat y))] [(.ref a1)])) rfl rfl (hb hby d4_88)
      obtain ⟨cl1091, Ar1091, q1091, S1091, M1091, H1091, G1091⟩ := id Vl1_ar
      have hin1091 : ¬ ((Int32.ofNat y) < 0 ∨ cl1091.slots.size ≤ ((Int32.ofNat y)).toNatClampNeg) := own_in S1091 (n := 2) (by decide) (by decide) (Nat.lt_of_le_of_lt hy1 (by decide))
      have hat1091 : cl1091.slots[((Int32.ofNat y)).toNatClampNeg]? = some (.double (FP.l2d (Int64.ofNat ((own_log (own_step z S x) y).1.getD y 0)))) := own_aD H1091 S1091 (n := 2) (by decide) (by decide) (Nat.lt_of_le_of_lt hy1 (by decide))
      have hsb1 := own_sub ((own_log (own_step z S x) y).1.getD y 0) (Nat.lt_of_le_of_lt ((own_ok_log (own_ok_step OK1 hx1) hy1).2.2.2.2.2.1 y) (by decide)) z hle1
      obtain ⟨cl1092, Ar1092, q1092, S1092, M1092, H1092, G1092⟩ := id Vl1_ar
      have hin1092 : ¬ ((Int32.ofNat y) < 0 ∨ cl1092.slots.size ≤ ((Int32.ofNat y)).toNatClampNeg) := own_in S1092 (n := 2) (by decide) (by decide) (Nat.lt_of_le_of_lt hy1 (by decide))
      obtain ⟨T1092, h1092, X1092, e1092, W1092, st1092⟩ := stD X1090 hx hZ e1090 Ar1092 (j := (Int32.ofNat y)) hin1092 (g := (mkF m 97 #[.val (.ref a1), .val (.ref tr), .val (.double (FP.l2d (Int64.ofNat z))), .second, .val (.int (((1 : Int32) &&& (own_fv z (S.1.getD x 0))) &&& (own_fv z (S.1.getD y 0)))), .val (.ref tr), .val (.int (2 : Int32)), .val (.int (1 : Int32)), .val (.int (Int32.ofNat y))] [(.double (FP.l2d (Int64.ofNat (((own_log (own_step z S x) y).1.getD y 0) - z)))), (.int (Int32.ofNat y)), (.ref ar)])) rfl rfl (hb hby d4_97)
      have V1092 := own_sD rfl (Arv.set Ar1092 q1092 S1092 M1092 H1092 G1092 rfl W1092 y (own_tn y (Nat.lt_of_le_of_lt hy1 (by decide))) (by rw [own_lenD]; exact Nat.lt_of_lt_of_le (Nat.lt_of_le_of_lt hy1 (by decide)) (Nat.le_of_eq (own_ok_log (own_ok_step OK1 hx1) hy1).1.symm)))
      have c1093_0 := c1083_0.other W1092 ne_tr_ar
      have c1093_1 := El1.wr W1092
      have c1093_2 := Fl1_room.other W1092 (Or.inl ne_a1_ar)
      have c1093_3 := Fl1_closed.other W1092 (Or.inl ne_a1_ar)
      have c1093_4 := Fl1_loggedLink.other W1092 (Or.inl ne_a1_ar)
      have c1093_5 := Fl1_loggedRoom.other W1092 (Or.inl ne_a1_ar)
      have c1093_6 := Fl1_loggedClosed.other W1092 (Or.inl ne_a1_ar)
      have c1093_7 := Fl1_logged.other W1092 (Or.inl ne_a1_ar)
      have c1093_9 := Vl1_ac.other W1092 (Ne.symm ne_ar_ac)
      have c1093_10 := Vl1_al.other W1092 (Ne.symm ne_ar_al)
      have c1093_11 := Vl1_alr.other W1092 (Ne.symm ne_ar_alr)
      have c1093_12 := Vl1_alc.other W1092 (Ne.symm ne_ar_alc)
      have Z1092 : n0 ≤ h1092.size := Nat.le_trans Z1082 (Nat.le_of_eq W1092.size.symm)
      have K1092 : Keep h0 h1092 [a1, ar, ac, al, alr, alc] := K1082.wr W1092 (Or.inl (List.mem_of_getElem? (i := 1) rfl))
      have N1092 := Fr.snoc X1092 N1084 g_ar
      have Bs1 : own_St Z h1092 a1 ar ac al alr alc k1 k2 k3 k4 k5 (own_step z (own_step z S x) y) := by rw [own_stepY (S := (own_step z S x)) (i := y) hle1]; exact ⟨c1093_1, c1093_2, c1093_3, c1093_4, c1093_5, c1093_6, c1093_7, V1092, c1093_9, c1093_10, c1093_11, c1093_12⟩
      obtain ⟨Es1, Fs1_room, Fs1_closed, Fs1_loggedLink, Fs1_loggedRoom, Fs1_loggedClosed, Fs1_logged, Vs1_ar, Vs1_ac, Vs1_al, Vs1_alr, Vs1_alc⟩ := id Bs1
      have P1094 : ∀ t, Steps p.tables e below (T1092.setTop (mkF m 117 #[.val (.ref a1), .val (.ref tr), .val (.double (FP.l2d (Int64.ofNat z))), .second, .val (.int (((1 : Int32) &&& (own_fv z (S.1.getD x 0))) &&& (own_fv z (S.1.getD y 0)))), .val (.ref tr), .val (.int (2 : Int32)), .val (.int (2 : Int32)), .val (.int (Int32.ofNat y))] [(.int (((1 : Int32) &&& (own_fv z (S.1.getD x 0))) &&& (own_fv z (S.1.getD y 0))))])) t → Steps p.tables e below (s₁.setTop (entryFrame m #[(.ref a1), (.ref tr), (.double (FP.l2d (Int64.ofNat z)))] 9)) t := fun t k => P1085 t (by
        refine XS.ifNo X1084.here hx rfl (hb hby d4_84) rfl ((if0 _ _).trans (feq hf1).1) ?_
        show Steps p.tables e below (T1084.setTop (mkF m 87 #[.val (.ref a1), .val (.ref tr), .val (.double (FP.l2d (Int64.ofNat z))), .second, .val (.int (((1 : Int32) &&& (own_fv z (S.1.getD x 0))) &&& (own_fv z (S.1.getD y 0)))), .val (.ref tr), .val (.int (2 : Int32)), .val (.int (1 : Int32)), .val (.int (Int32.ofNat y))] [])) _
        refine XS.aloadN X1084.here hx rfl (hb hby d4_87) rfl rfl ?_
        show Steps p.tables e below (T1084.setTop (mkF m 88 #[.val (.ref a1), .val (.ref tr), .val (.double (FP.l2d (Int64.ofNat z))), .second, .val (.int (((1 : Int32) &&& (own_fv z (S.1.getD x 0))) &&& (own_fv z (S.1.getD y 0)))), .val (.ref tr), .val (.int (2 : Int32)), .val (.int (1 : Int32)), .val (.int (Int32.ofNat y))] [(.ref a1)])) _
        refine st1090 _ ?_
        show Steps p.tables e below (T1090.setTop (mkF m 91 #[.val (.ref a1), .val (.ref tr), .val (.double (FP.l2d (Int64.ofNat z))), .second, .val (.int (((1 : Int32) &&& (own_fv z (S.1.getD x 0))) &&& (own_fv z (S.1.getD y 0)))), .val (.ref tr), .val (.int (2 : Int32)), .val (.int (1 : Int32)), .val (.int (Int32.ofNat y))] [(.ref ar)])) _
        refine XS.iload X1090.here hx rfl (hb hby d4_91) rfl ?_
        show Steps p.tables e below (T1090.setTop (mkF m 93 #[.val (.ref a1), .val (.ref tr), .val (.double (FP.l2d (Int64.ofNat z))), .second, .val (.int (((1 : Int32) &&& (own_fv z (S.1.getD x 0))) &&& (own_fv z (S.1.getD y 0)))), .val (.ref tr), .val (.int (2 : Int32)), .val (.int (1 : Int32)), .val (.int (Int32.ofNat y))] [(.int (Int32.ofNat y)), (.ref ar)])) _
        refine Jvm.Free.XT.dup2 X1090.here hx rfl (hb hby d4_93) rfl rfl rfl ?_
        show Steps p.tables e below (T1090.setTop (mkF m 94 #[.val (.ref a1), .val (.ref tr), .val (.double (FP.l2d (Int64.ofNat z))), .second, .val (.int (((1 : Int32) &&& (own_fv z (S.1.getD x 0))) &&& (own_fv z (S.1.getD y 0)))), .val (.ref tr), .val (.int (2 : Int32)), .val (.int (1 : Int32)), .val (.int (Int32.ofNat y))] [(.int (Int32.ofNat y)), (.ref ar), (.int (Int32.ofNat y)), (.ref ar)])) _
        refine X1090.daload hx (j := (Int32.ofNat y)) (v := (.double (FP.l2d (Int64.ofNat ((own_log (own_step z S x) y).1.getD y 0))))) (by rw [e1090]; exact Ar1091.1) (State.isArrayOf_alike hZ.alike Ar1091.2.1) Ar1091.2.2 hin1091 hat1091 (g := (mkF m 94 #[.val (.ref a1), .val (.ref tr), .val (.double (FP.l2d (Int64.ofNat z))), .second, .val (.int (((1 : Int32) &&& (own_fv z (S.1.getD x 0))) &&& (own_fv z (S.1.getD y 0)))), .val (.ref tr), .val (.int (2 : Int32)), .val (.int (1 : Int32)), .val (.int (Int32.ofNat y))] [(.int (Int32.ofNat y)), (.ref ar), (.int (Int32.ofNat y)), (.ref ar)])) rfl rfl (hb hby d4_94) _ ?_
        show Steps p.tables e below (T1090.setTop (mkF m 95 #[.val (.ref a1), .val (.ref tr), .val (.double (FP.l2d (Int64.ofNat z))), .second, .val (.int (((1 : Int32) &&& (own_fv z (S.1.getD x 0))) &&& (own_fv z (S.1.getD y 0)))), .val (.ref tr), .val (.int (2 : Int32)), .val (.int (1 : Int32)), .val (.int (Int32.ofNat y))] [(.double (FP.l2d (Int64.ofNat ((own_log (own_step z S x) y).1.getD y 0)))), (.int (Int32.ofNat y)), (.ref ar)])) _
        refine XS.dloadN X1090.here hx rfl (hb hby d4_95) rfl ?_
        show Steps p.tables e below (T1090.setTop (mkF m 96 #[.val (.ref a1), .val (.ref tr), .val (.double (FP.l2d (Int64.ofNat z))), .second, .val (.int (((1 : Int32) &&& (own_fv z (S.1.getD x 0))) &&& (own_fv z (S.1.getD y 0)))), .val (.ref tr), .val (.int (2 : Int32)), .val (.int (1 : Int32)), .val (.int (Int32.ofNat y))] [(.double (FP.l2d (Int64.ofNat z))), (.double (FP.l2d (Int64.ofNat ((own_log (own_step z S x) y).1.getD y 0)))), (.int (Int32.ofNat y)), (.ref ar)])) _
        refine XS.dsubS X1090.here hx rfl (hb hby d4_96) rfl hsb1.1 (v := FP.l2d (Int64.ofNat (((own_log (own_step z S x) y).1.getD y 0) - z))) hsb1.2 ?_
        show Steps p.tables e below (T1090.setTop (mkF m 97 #[.val (.ref a1), .val (.ref tr), .val (.double (FP.l2d (Int64.ofNat z))), .second, .val (.int (((1 : Int32) &&& (own_fv z (S.1.getD x 0))) &&& (own_fv z (S.1.getD y 0)))), .val (.ref tr), .val (.int (2 : Int32)), .val (.int (1 : Int32)), .val (.int (Int32.ofNat y))] [(.double (FP.l2d (Int64.ofNat (((own_log (own_step z S x) y).1.getD y 0) - z)))), (.int (Int32.ofNat y)), (.ref ar)])) _
        refine st1092 _ ?_
        show Steps p.tables e below (T1092.setTop (mkF m 98 #[.val (.ref a1), .val (.ref tr), .val (.double (FP.l2d (Int64.ofNat z))), .second, .val (.int (((1 : Int32) &&& (own_fv z (S.1.getD x 0))) &&& (own_fv z (S.1.getD y 0)))), .val (.ref tr), .val (.int (2 : Int32)), .val (.int (1 : Int32)), .val (.int (Int32.ofNat y))] [])) _
        refine XS.goto X1092.here hx rfl (pc0 := 98) (pc' := 109) rfl (hb hby d4_98) (by decide) (by decide) ?_
        show Steps p.tables e below (T1092.setTop (mkF m 109 #[.val (.ref a1), .val (.ref tr), .val (.double (FP.l2d (Int64.ofNat z))), .second, .val (.int (((1 : Int32) &&& (own_fv z (S.1.getD x 0))) &&& (own_fv z (S.1.getD y 0)))), .val (.ref tr), .val (.int (2 : Int32)), .val (.int (1 : Int32)), .val (.int (Int32.ofNat y))] [])) _
        refine XS.iinc X1092.here hx rfl (hb hby d4_109) rfl (l' := #[.val (.ref a1), .val (.ref tr), .val (.double (FP.l2d (Int64.ofNat z))), .second, .val (.int (((1 : Int32) &&& (own_fv z (S.1.getD x 0))) &&& (own_fv z (S.1.getD y 0)))), .val (.ref tr), .val (.int (2 : Int32)), .val (.int (2 : Int32)), .val (.int (Int32.ofNat y))]) rfl ?_
        show Steps p.tables e below (T1092.setTop (mkF m 112 #[.val (.ref a1), .val (.ref tr), .val (.double (FP.l2d (Int64.ofNat z))), .second, .val (.int (((1 : Int32) &&& (own_fv z (S.1.getD x 0))) &&& (own_fv z (S.1.getD y 0)))), .val (.ref tr), .val (.int (2 : Int32)), .val (.int (2 : Int32)), .val (.int (Int32.ofNat y))] [])) _
        refine XS.goto X1092.here hx rfl (pc0 := 112) (pc' := 57) rfl (hb hby d4_112) (by decide) (by decide) ?_
        show Steps p.tables e below (T1092.setTop (mkF m 57 #[.val (.ref a1), .val (.ref tr), .val (.double (FP.l2d (Int64.ofNat z))), .second, .val (.int (((1 : Int32) &&& (own_fv z (S.1.getD x 0))) &&& (own_fv z (S.1.getD y 0)))), .val (.ref tr), .val (.int (2 : Int32)), .val (.int (2 : Int32)), .val (.int (Int32.ofNat y))] [])) _
        refine XS.iload X1092.here hx rfl (hb hby d4_57) rfl ?_
        show Steps p.tables e below (T1092.setTop (mkF m 59 #[.val (.ref a1), .val (.ref tr), .val (.double (FP.l2d (Int64.ofNat z))), .second, .val (.int (((1 : Int32) &&& (own_fv z (S.1.getD x 0))) &&& (own_fv z (S.1.getD y 0)))), .val (.ref tr), .val (.int (2 : Int32)), .val (.int (2 : Int32)), .val (.int (Int32.ofNat y))] [(.int (2 : Int32))])) _
        refine XS.iload X1092.here hx rfl (hb hby d4_59) rfl ?_
        show Steps p.tables e below (T1092.setTop (mkF m 61 #[.val (.ref a1), .val (.ref tr), .val (.double (FP.l2d (Int64.ofNat z))), .second, .val (.int (((1 : Int32) &&& (own_fv z (S.1.getD x 0))) &&& (own_fv z (S.1.getD y 0)))), .val (.ref tr), .val (.int (2 : Int32)), .val (.int (2 : Int32)), .val (.int (Int32.ofNat y))] [(.int (2 : Int32)), (.int (2 : Int32))])) _
        refine XS.icmpYes X1092.here hx rfl (pc0 := 61) (pc' := 115) rfl (hb hby d4_61) rfl (flt (by decide)).2.1 (by decide) (by decide) ?_
        show Steps p.tables e below (T1092.setTop (mkF m 115 #[.val (.ref a1), .val (.ref tr), .val (.double (FP.l2d (Int64.ofNat z))), .second, .val (.int (((1 : Int32) &&& (own_fv z (S.1.getD x 0))) &&& (own_fv z (S.1.getD y 0)))), .val (.ref tr), .val (.int (2 : Int32)), .val (.int (2 : Int32)), .val (.int (Int32.ofNat y))] [])) _
        refine XS.iload X1092.here hx rfl (hb hby d4_115) rfl ?_
        show Steps p.tables e below (T1092.setTop (mkF m 117 #[.val (.ref a1), .val (.ref tr), .val (.double (FP.l2d (Int64.ofNat z))), .second, .val (.int (((1 : Int32) &&& (own_fv z (S.1.getD x 0))) &&& (own_fv z (S.1.getD y 0)))), .val (.ref tr), .val (.int (2 : Int32)), .val (.int (2 : Int32)), .val (.int (Int32.ofNat y))] [(.int (((1 : Int32) &&& (own_fv z (S.1.getD x 0))) &&& (own_fv z (S.1.getD y 0))))])) _
        exact k)
      obtain ⟨fs, hr, hrun, hended, hW, hsame⟩ := X1092.leave (v := some (.int (nar .boolean (((1 : Int32) &&& (own_fv z (S.1.getD x 0))) &&& (own_fv z (S.1.getD y 0)))))) (fun h => by rw [Bd.returns] at h; cases h)
      refine ⟨_, _, P1094 _ ?_, hrun, hended, _, _, rfl, ?_, ⟨_, rfl⟩, hW, hsame.mono (by decide) (by decide)⟩
      · exact retN X1092 hx (t := .boolean) Bd.returns (by simp) (hb hby d4_117) hr
      · show Q_try2 Z a1 ar ac al alr alc k1 k2 k3 k4 k5 S tr kt x y z h0 n0 _ T1092.heap _
        rw [e1092]
        exact ⟨_, rfl, N1092, K1092, Bs1⟩
  · have hle0 := own_fv1 hf0
    obtain ⟨T1095, X1095, e1095, st1095⟩ := getF X1076 hx hZ hown (host := "") (Or.inl (hw _ (List.mem_of_getElem? (i := 24) rfl))) Via.refl eg0 Fl0_room (g := (mkF m 88 #[.val (.ref a1), .val (.ref tr), .val (.double (FP.l2d (Int64.ofNat z))), .second, .val (.int (((1 : Int32) &&& (own_fv z (S.1.getD x 0))) &&& (own_fv z (S.1.getD y 0)))), .val (.ref tr), .val (.int (2 : Int32)), .val (.int (0 : Int32)), .val (.int (Int32.ofNat x))] [(.ref a1)])) rfl rfl (hb hby d4_88)
    obtain ⟨cl1096, Ar1096, q1096, S1096, M1096, H1096, G1096⟩ := id Vl0_ar
    have hin1096 : ¬ ((Int32.ofNat x) < 0 ∨ cl1096.slots.size ≤ ((Int32.ofNat x)).toNatClampNeg) := own_in S1096 (n := 2) (by decide) (by decide) (Nat.lt_of_le_of_lt hx1 (by decide))
    have hat1096 : cl1096.slots[((Int32.ofNat x)).toNatClampNeg]? = some (.double (FP.l2d (Int64.ofNat ((own_log S x).1.getD x 0)))) := own_aD H1096 S1096 (n := 2) (by decide) (by decide) (Nat.lt_of_le_of_lt hx1 (by decide))
    have hsb0 := own_sub ((own_log S x).1.getD x 0) (Nat.lt_of_le_of_lt ((own_ok_log OK1 hx1).2.2.2.2.2.1 x) (by decide)) z hle0
    obtain ⟨cl1097, Ar1097, q1097, S1097, M1097, H1097, G1097⟩ := id Vl0_ar
    have hin1097 : ¬ ((Int32.ofNat x) < 0 ∨ cl1097.slots.size ≤ ((Int32.ofNat x)).toNatClampNeg) := own_in S1097 (n := 2) (by decide) (by decide) (Nat.lt_of_le_of_lt hx1 (by decide))
    obtain ⟨T1097, h1097, X1097, e1097, W1097, st1097⟩ := stD X1095 hx hZ e1095 Ar1097 (j := (Int32.ofNat x)) hin1097 (g := (mkF m 97 #[.val (.ref a1), .val (.ref tr), .val (.double (FP.l2d (Int64.ofNat z))), .second, .val (.int (((1 : Int32) &&& (own_fv z (S.1.getD x 0))) &&& (own_fv z (S.1.getD y 0)))), .val (.ref tr), .val (.int (2 : Int32)), .val (.int (0 : Int32)), .val (.int (Int32.ofNat x))] [(.double (FP.l2d (Int64.ofNat (((own_log S x).1.getD x 0) - z)))), (.int (Int32.ofNat x)), (.ref ar)])) rfl rfl (hb hby d4_97)
    have V1097 := own_sD rfl (Arv.set Ar1097 q1097 S1097 M1097 H1097 G1097 rfl W1097 x (own_tn x (Nat.lt_of_le_of_lt hx1 (by decide))) (by rw [own_lenD]; exact Nat.lt_of_lt_of_le (Nat.lt_of_le_of_lt hx1 (by decide)) (Nat.le_of_eq (own_ok_log OK1 hx1).1.symm)))
    have c1098_0 := c1075_0.other W1097 ne_tr_ar
    have c1098_1 := El0.wr W1097
    have c1098_2 := Fl0_room.other W1097 (Or.inl ne_a1_ar)
    have c1098_3 := Fl0_closed.other W1097 (Or.inl ne_a1_ar)
    have c1098_4 := Fl0_loggedLink.other W1097 (Or.inl ne_a1_ar)
    have c1098_5 := Fl0_loggedRoom.other W1097 (Or.inl ne_a1_ar)
    have c1098_6 := Fl0_loggedClosed.other W1097 (Or.inl ne_a1_ar)
    have c1098_7 := Fl0_logged.other W1097 (Or.inl ne_a1_ar)
    have c1098_9 := Vl0_ac.other W1097 (Ne.symm ne_ar_ac)
    have c1098_10 := Vl0_al.other W1097 (Ne.symm ne_ar_al)
    have c1098_11 := Vl0_alr.other W1097 (Ne.symm ne_ar_alr)
    have c1098_12 := Vl0_alc.other W1097 (Ne.symm ne_ar_alc)
    have Z1097 : n0 ≤ h1097.size := Nat.le_trans Z1074 (Nat.le_of_eq W1097.size.symm)
    have K1097 : Keep h0 h1097 [a1, ar, ac, al, alr, alc] := K1074.wr W1097 (Or.inl (List.mem_of_getElem? (i := 1) rfl))
    have N1097 := Fr.snoc X1097 N1076 g_ar
    have Bs0 : own_St Z h1097 a1 ar ac al alr alc k1 k2 k3 k4 k5 (own_step z S x) := by rw [own_stepY (S := S) (i := x) hle0]; exact ⟨c1098_1, c1098_2, c1098_3, c1098_4, c1098_5, c1098_6, c1098_7, V1097, c1098_9, c1098_10, c1098_11, c1098_12⟩
    obtain ⟨Es0, Fs0_room, Fs0_closed, Fs0_loggedLink, Fs0_loggedRoom, Fs0_loggedClosed, Fs0_logged, Vs0_ar, Vs0_ac, Vs0_al, Vs0_alr, Vs0_alc⟩ := id Bs0
    have hkk1 : (own_step z S x).2.2.2.2.2 < 8 := by have := hk; have := own_step_k z S x; omega
    obtain ⟨cl1099, Ar1099, q1099, S1099, M1099, H1099, G1099⟩ := id c1098_0
    have hin1099 : ¬ ((1 : Int32) < 0 ∨ cl1099.slots.size ≤ ((1 : Int32)).toNatClampNeg) := inb_of S1099 ⟨by decide, by decide⟩
    have hat1099 : cl1099.slots[((1 : Int32)).toNatClampNeg]? = some (.int (Int32.ofNat y)) := Has.at H1099 hin1099 rfl
    obtain ⟨cq1100, q1100, q1100'⟩ := Es0.cell
    have pv1100 := Cond.privateMethod_at (mvP hZ (hw _ (List.mem_of_getElem? (i := 51) rfl)) (args := #[]))
    obtain ⟨ci1100, ki1100, i11100, i21100, -, i41100, -⟩ := Cond.instantiable_spec (mvT (args := #[]) hZ (hw _ (List.mem_of_getElem? (i := 6) rfl)))
    have sl1100 := fun (a' : Array Value) => selects_self_of_private (args := a') (y := (⟨"com/example/tributary/tributary/solver/Rooms", "log", "(I)V"⟩ : MethodName)) i11100 i21100 (by simp only [Bool.or_eq_false_iff] at i41100; exact i41100.1) pv1100 (mvT hZ (hw _ (List.mem_of_getElem? (i := 50) rfl))) (by decide)
    obtain ⟨_, _, ⟨T1100, L1100, k1100, n1100⟩, -, X1100, ⟨Lc1100, hQ1100, l1100, y1100, z1100⟩, st1100⟩ := X1097.privateBack hx (y := (⟨"com/example/tributary/tributary/solver/Rooms", "log", "(I)V"⟩ : MethodName)) hown (mvT hZ (hw _ (List.mem_of_getElem? (i := 49) rfl))) (mvT hZ (hw _ (List.mem_of_getElem? (i := 50) rfl))) (sl1100 _) pv1100 (mvT hZ (hw _ (List.mem_of_getElem? (i := 52) rfl))) (by decide) (backOf (W := 0) (rm_log l Z a0 hw [] a1 ar ac al alr alc k1 k2 k3 k4 k5 (own_step z S x) y h1097 n0 Z1097 Bs0 D1 G1 (own_ok_step OK1 hx1) hy1 hkk1) hZ (hw _ (List.mem_of_getElem? (i := 52) rfl)) (hw _ (List.mem_of_getElem? (i := 7) rfl)) (by decide) (by decide)) (g := (mkF m 74 #[.val (.ref a1), .val (.ref tr), .val (.double (FP.l2d (Int64.ofNat z))), .second, .val (.int (((1 : Int32) &&& (own_fv z (S.1.getD x 0))) &&& (own_fv z (S.1.getD y 0)))), .val (.ref tr), .val (.int (2 : Int32)), .val (.int (1 : Int32)), .val (.int (Int32.ofNat y))] [(.int (Int32.ofNat y)), (.ref a1)])) rfl (by rw [hml]; rfl) (Steps.refl _) (a := a1) (by rw [e1097]; exact q1100) q1100' (argsL := [(.int (Int32.ofNat y))]) (rest := []) (lenOf pd_2 rfl) rfl (by show 2 * 0 + _ ≤ _; exact Nat.le_of_eq rfl) (hb hby d4_74) (fun _ _ => ⟨rfl, e1097, (by decide : 0 + 0 ≤ _), (by decide : 0 + 0 ≤ _)⟩)
    dsimp only [Pt.U, Pt.locs, Pt.cells, Pt.slots] at X1100 l1100 y1100 z1100 st1100 hQ1100
    subst l1100 y1100 z1100
    obtain ⟨rfl, N1100q, Kl1, Bl1⟩ := hQ1100
    have N1100 := Fr.app N1097 N1100q
    have c1101_0 := c1098_0.keep Kl1 (ninS ne_tr_a1 (ninS ne_tr_ar (ninS ne_tr_ac (ninS ne_tr_al (ninS ne_tr_alr (ninS ne_tr_alc nin0))))))
    have Z1100 : n0 ≤ T1100.heap.size := Nat.le_trans Z1097 Kl1.1
    have K1100 : Keep h0 T1100.heap [a1, ar, ac, al, alr, alc] := K1097.trans Kl1 (allS (Or.inl (List.mem_of_getElem? (i := 0) rfl)) (allS (Or.inl (List.mem_of_getElem? (i := 1) rfl)) (allS (Or.inl (List.mem_of_getElem? (i := 2) rfl)) (allS (Or.inl (List.mem_of_getElem? (i := 3) rfl)) (allS (Or.inl (List.mem_of_getElem? (i := 4) rfl)) (allS (Or.inl (List.mem_of_getElem? (i := 5) rfl)) all0))))))
    obtain ⟨El1, Fl1_room, Fl1_closed, Fl1_loggedLink, Fl1_loggedRoom, Fl1_loggedClosed, Fl1_logged, Vl1_ar, Vl1_ac, Vl1_al, Vl1_alr, Vl1_alc⟩ := id Bl1
    obtain ⟨cq1102, q1102, q1102'⟩ := El1.cell
    have pv1102 := Cond.privateMethod_at (mvP hZ (hw _ (List.mem_of_getElem? (i := 42) rfl)) (args := #[]))
    obtain ⟨ci1102, ki1102, i11102, i21102, -, i41102, -⟩ := Cond.instantiable_spec (mvT (args := #[]) hZ (hw _ (List.mem_of_getElem? (i := 6) rfl)))
    have sl1102 := fun (a' : Array Value) => selects_self_of_private (args := a') (y := (⟨"com/example/tributary/tributary/solver/Rooms", "fits", "(ID)Z"⟩ : MethodName)) i11102 i21102 (by simp only [Bool.or_eq_false_iff] at i41102; exact i41102.1) pv1102 (mvT hZ (hw _ (List.mem_of_getElem? (i := 41) rfl))) (by decide)
    obtain ⟨_, _, ⟨T1102, L1102, k1102, n1102⟩, -, X1102, ⟨Lc1102, hQ1102, l1102, y1102, z1102⟩, st1102⟩ := X1100.privateBack hx (y := (⟨"com/example/tributary/tributary/solver/Rooms", "fits", "(ID)Z"⟩ : MethodName)) hown (mvT hZ (hw _ (List.mem_of_getElem? (i := 40) rfl))) (mvT hZ (hw _ (List.mem_of_getElem? (i := 41) rfl))) (sl1102 _) pv1102 (mvT hZ (hw _ (List.mem_of_getElem? (i := 43) rfl))) (by decide) (backOf (W := 0) (rm_rfits l Z a0 hw [] a1 ar ac al alr alc k1 k2 k3 k4 k5 (own_log (own_step z S x) y) y z T1100.heap n0 Z1100 Bl1 D1 G1 (own_ok_log (own_ok_step OK1 hx1) hy1) hy1 hz) hZ (hw _ (List.mem_of_getElem? (i := 43) rfl)) (hw _ (List.mem_of_getElem? (i := 7) rfl)) (by decide) (by decide)) (g := (mkF m 81 #[.val (.ref a1), .val (.ref tr), .val (.double (FP.l2d (Int64.ofNat z))), .second, .val (.int (((1 : Int32) &&& (own_fv z (S.1.getD x 0))) &&& (own_fv z (S.1.getD y 0)))), .val (.ref tr), .val (.int (2 : Int32)), .val (.int (1 : Int32)), .val (.int (Int32.ofNat y))] [(.double (FP.l2d (Int64.ofNat z))), (.int (Int32.ofNat y)), (.ref a1)])) rfl (by rw [hml]; rfl) (Steps.refl _) (a := a1) q1102 q1102' (argsL := [(.int (Int32.ofNat y)), (.double (FP.l2d (Int64.ofNat z)))]) (rest := []) (lenOf pd_1 rfl) rfl (by show 2 * 0 + _ ≤ _; exact Nat.le_of_eq rfl) (hb hby d4_81) (fun _ _ => ⟨rfl, rfl, (by decide : 0 + 0 ≤ _), (by decide : 0 + 0 ≤ _)⟩)
    dsimp only [Pt.U, Pt.locs, Pt.cells, Pt.slots] at X1102 l1102 y1102 z1102 st1102 hQ1102
    subst l1102 y1102 z1102
    obtain ⟨rfl, N1102q, eg1⟩ := hQ1102
    have N1102 := Fr.app N1100 N1102q
    have P1103 : ∀ t, Steps p.tables e below (T1102.setTop (mkF m 84 #[.val (.ref a1), .val (.ref tr), .val (.double (FP.l2d (Int64.ofNat z))), .second, .val (.int (((1 : Int32) &&& (own_fv z (S.1.getD x 0))) &&& (own_fv z (S.1.getD y 0)))), .val (.ref tr), .val (.int (2 : Int32)), .val (.int (1 : Int32)), .val (.int (Int32.ofNat y))] [(.int (own_fv z ((own_log (own_step z S x) y).1.getD y 0)))])) t → Steps p.tables e below (s₁.setTop (entryFrame m #[(.ref a1), (.ref tr), (.double (FP.l2d (Int64.ofNat z)))] 9)) t := fun t k => P1077 t (by
      refine XS.ifNo X1076.here hx rfl (hb hby d4_84) rfl ((if0 _ _).trans (feq hf0).1) ?_
      show Steps p.tables e below (T1076.setTop (mkF m 87 #[.val (.ref a1), .val (.ref tr), .val (.double (FP.l2d (Int64.ofNat z))), .second, .val (.int (((1 : Int32) &&& (own_fv z (S.1.getD x 0))) &&& (own_fv z (S.1.getD y 0)))), .val (.ref tr), .val (.int (2 : Int32)), .val (.int (0 : Int32)), .val (.int (Int32.ofNat x))] [])) _
      refine XS.aloadN X1076.here hx rfl (hb hby d4_87) rfl rfl ?_
      show Steps p.tables e below (T1076.setTop (mkF m 88 #[.val (.ref a1), .val (.ref tr), .val (.double (FP.l2d (Int64.ofNat z))), .second, .val (.int (((1 : Int32) &&& (own_fv z (S.1.getD x 0))) &&& (own_fv z (S.1.getD y 0)))), .val (.ref tr), .val (.int (2 : Int32)), .val (.int (0 : Int32)), .val (.int (Int32.ofNat x))] [(.ref a1)])) _
      refine st1095 _ ?_
      show Steps p.tables e below (T1095.setTop (mkF m 91 #[.val (.ref a1), .val (.ref tr), .val (.double (FP.l2d (Int64.ofNat z))), .second, .val (.int (((1 : Int32) &&& (own_fv z (S.1.getD x 0))) &&& (own_fv z (S.1.getD y 0)))), .val (.ref tr), .val (.int (2 : Int32)), .val (.int (0 : Int32)), .val (.int (Int32.ofNat x))] [(.ref ar)])) _
      refine XS.iload X1095.here hx rfl (hb hby d4_91) rfl ?_
      show Steps p.tables e below (T1095.setTop (mkF m 93 #[.val (.ref a1), .val (.ref tr), .val (.double (FP.l2d (Int64.ofNat z))), .second, .val (.int (((1 : Int32) &&& (own_fv z (S.1.getD x 0))) &&& (own_fv z (S.1.getD y 0)))), .val (.ref tr), .val (.int (2 : Int32)), .val (.int (0 : Int32)), .val (.int (Int32.ofNat x))] [(.int (Int32.ofNat x)), (.ref ar)])) _
      refine Jvm.Free.XT.dup2 X1095.here hx rfl (hb hby d4_93) rfl rfl rfl ?_
      show Steps p.tables e below (T1095.setTop (mkF m 94 #[.val (.ref a1), .val (.ref tr), .val (.double (FP.l2d (Int64.ofNat z))), .second, .val (.int (((1 : Int32) &&& (own_fv z (S.1.getD x 0))) &&& (own_fv z (S.1.getD y 0)))), .val (.ref tr), .val (.int (2 : Int32)), .val (.int (0 : Int32)), .val (.int (Int32.ofNat x))] [(.int (Int32.ofNat x)), (.ref ar), (.int (Int32.ofNat x)), (.ref ar)])) _
      refine X1095.daload hx (j := (Int32.ofNat x)) (v := (.double (FP.l2d (Int64.ofNat ((own_log S x).1.getD x 0))))) (by rw [e1095]; exact Ar1096.1) (State.isArrayOf_alike hZ.alike Ar1096.2.1) Ar1096.2.2 hin1096 hat1096 (g := (mkF m 94 #[.val (.ref a1), .val (.ref tr), .val (.double (FP.l2d (Int64.ofNat z))), .second, .val (.int (((1 : Int32) &&& (own_fv z (S.1.getD x 0))) &&& (own_fv z (S.1.getD y 0)))), .val (.ref tr), .val (.int (2 : Int32)), .val (.int (0 : Int32)), .val (.int (Int32.ofNat x))] [(.int (Int32.ofNat x)), (.ref ar), (.int (Int32.ofNat x)), (.ref ar)])) rfl rfl (hb hby d4_94) _ ?_
      show Steps p.tables e below (T1095.setTop (mkF m 95 #[.val (.ref a1), .val (.ref tr), .val (.double (FP.l2d (Int64.ofNat z))), .second, .val (.int (((1 : Int32) &&& (own_fv z (S.1.getD x 0))) &&& (own_fv z (S.1.getD y 0)))), .val (.ref tr), .val (.int (2 : Int32)), .val (.int (0 : Int32)), .val (.int (Int32.ofNat x))] [(.double (FP.l2d (Int64.ofNat ((own_log S x).1.getD x 0)))), (.int (Int32.ofNat x)), (.ref ar)])) _
      refine XS.dloadN X1095.here hx rfl (hb hby d4_95) rfl ?_
      show Steps p.tables e below (T1095.setTop (mkF m 96 #[.val (.ref a1), .val (.ref tr), .val (.double (FP.l2d (Int64.ofNat z))), .second, .val (.int (((1 : Int32) &&& (own_fv z (S.1.getD x 0))) &&& (own_fv z (S.1.getD y 0)))), .val (.ref tr), .val (.int (2 : Int32)), .val (.int (0 : Int32)), .val (.int (Int32.ofNat x))] [(.double (FP.l2d (Int64.ofNat z))), (.double (FP.l2d (Int64.ofNat ((own_log S x).1.getD x 0)))), (.int (Int32.ofNat x)), (.ref ar)])) _
      refine XS.dsubS X1095.here hx rfl (hb hby d4_96) rfl hsb0.1 (v := FP.l2d (Int64.ofNat (((own_log S x).1.getD x 0) - z))) hsb0.2 ?_
      show Steps p.tables e below (T1095.setTop (mkF m 97 #[.val (.ref a1), .val (.ref tr), .val (.double (FP.l2d (Int64.ofNat z))), .second, .val (.int (((1 : Int32) &&& (own_fv z (S.1.getD x 0))) &&& (own_fv z (S.1.getD y 0)))), .val (.ref tr), .val (.int (2 : Int32)), .val (.int (0 : Int32)), .val (.int (Int32.ofNat x))] [(.double (FP.l2d (Int64.ofNat (((own_log S x).1.getD x 0) - z)))), (.int (Int32.ofNat x)), (.ref ar)])) _
      refine st1097 _ ?_
      show Steps p.tables e below (T1097.setTop (mkF m 98 #[.val (.ref a1), .val (.ref tr), .val (.double (FP.l2d (Int64.ofNat z))), .second, .val (.int (((1 : Int32) &&& (own_fv z (S.1.getD x 0))) &&& (own_fv z (S.1.getD y 0)))), .val (.ref tr), .val (.int (2 : Int32)), .val (.int (0 : Int32)), .val (.int (Int32.ofNat x))] [])) _
      refine XS.goto X1097.here hx rfl (pc0 := 98) (pc' := 109) rfl (hb hby d4_98) (by decide) (by decide) ?_
      show Steps p.tables e below (T1097.setTop (mkF m 109 #[.val (.ref a1), .val (.ref tr), .val (.double (FP.l2d (Int64.ofNat z))), .second, .val (.int (((1 : Int32) &&& (own_fv z (S.1.getD x 0))) &&& (own_fv z (S.1.getD y 0)))), .val (.ref tr), .val (.int (2 : Int32)), .val (.int (0 : Int32)), .val (.int (Int32.ofNat x))] [])) _
      refine XS.iinc X1097.here hx rfl (hb hby d4_109) rfl (l' := #[.val (.ref a1), .val (.ref tr), .val (.double (FP.l2d (Int64.ofNat z))), .second, .val (.int (((1 : Int32) &&& (own_fv z (S.1.getD x 0))) &&& (own_fv z (S.1.getD y 0)))), .val (.ref tr), .val (.int (2 : Int32)), .val (.int (1 : Int32)), .val (.int (Int32.ofNat x))]) rfl ?_
      show Steps p.tables e below (T1097.setTop (mkF m 112 #[.val (.ref a1), .val (.ref tr), .val (.double (FP.l2d (Int64.ofNat z))), .second, .val (.int (((1 : Int32) &&& (own_fv z (S.1.getD x 0))) &&& (own_fv z (S.1.getD y 0)))), .val (.ref tr), .val (.int (2 : Int32)), .val (.int (1 : Int32)), .val (.int (Int32.ofNat x))] [])) _
      refine XS.goto X1097.here hx rfl (pc0 := 112) (pc' := 57) rfl (hb hby d4_112) (by decide) (by decide) ?_
      show Steps p.tables e below (T1097.setTop (mkF m 57 #[.val (.ref a1), .val (.ref tr), .val (.double (FP.l2d (Int64.ofNat z))), .second, .val (.int (((1 : Int32) &&& (own_fv z (S.1.getD x 0))) &&& (own_fv z (S.1.getD y 0)))), .val (.ref tr), .val (.int (2 : Int32)), .val (.int (1 : Int32)), .val (.int (Int32.ofNat x))] [])) _
      refine XS.iload X1097.here hx rfl (hb hby d4_57) rfl ?_
      show Steps p.tables e below (T1097.setTop (mkF m 59 #[.val (.ref a1), .val (.ref tr), .val (.double (FP.l2d (Int64.ofNat z))), .second, .val (.int (((1 : Int32) &&& (own_fv z (S.1.getD x 0))) &&& (own_fv z (S.1.getD y 0)))), .val (.ref tr), .val (.int (2 : Int32)), .val (.int (1 : Int32)), .val (.int (Int32.ofNat x))] [(.int (1 : Int32))])) _
      refine XS.iload X1097.here hx rfl (hb hby d4_59) rfl ?_
      show Steps p.tables e below (T1097.setTop (mkF m 61 #[.val (.ref a1), .val (.ref tr), .val (.double (FP.l2d (Int64.ofNat z))), .second, .val (.int (((1 : Int32) &&& (own_fv z (S.1.getD x 0))) &&& (own_fv z (S.1.getD y 0)))), .val (.ref tr), .val (.int (2 : Int32)), .val (.int (1 : Int32)), .val (.int (Int32.ofNat x))] [(.int (2 : Int32)), (.int (1 : Int32))])) _
      refine XS.icmpNo X1097.here hx rfl (hb hby d4_61) rfl (tlt (by decide)).2.1 ?_
      show Steps p.tables e below (T1097.setTop (mkF m 64 #[.val (.ref a1), .val (.ref tr), .val (.double (FP.l2d (Int64.ofNat z))), .second, .val (.int (((1 : Int32) &&& (own_fv z (S.1.getD x 0))) &&& (own_fv z (S.1.getD y 0)))), .val (.ref tr), .val (.int (2 : Int32)), .val (.int (1 : Int32)), .val (.int (Int32.ofNat x))] [])) _
      refine XS.aload X1097.here hx rfl (hb hby d4_64) rfl rfl ?_
      show Steps p.tables e below (T1097.setTop (mkF m 66 #[.val (.ref a1), .val (.ref tr), .val (.double (FP.l2d (Int64.ofNat z))), .second, .val (.int (((1 : Int32) &&& (own_fv z (S.1.getD x 0))) &&& (own_fv z (S.1.getD y 0)))), .val (.ref tr), .val (.int (2 : Int32)), .val (.int (1 : Int32)), .val (.int (Int32.ofNat x))] [(.ref tr)])) _
      refine XS.iload X1097.here hx rfl (hb hby d4_66) rfl ?_
      show Steps p.tables e below (T1097.setTop (mkF m 68 #[.val (.ref a1), .val (.ref tr), .val (.double (FP.l2d (Int64.ofNat z))), .second, .val (.int (((1 : Int32) &&& (own_fv z (S.1.getD x 0))) &&& (own_fv z (S.1.getD y 0)))), .val (.ref tr), .val (.int (2 : Int32)), .val (.int (1 : Int32)), .val (.int (Int32.ofNat x))] [(.int (1 : Int32)), (.ref tr)])) _
      refine X1097.iaload hx (j := (1 : Int32)) (v := (.int (Int32.ofNat y))) (by rw [e1097]; exact Ar1099.1) (State.isArrayOf_alike hZ.alike Ar1099.2.1) Ar1099.2.2 hin1099 hat1099 (g := (mkF m 68 #[.val (.ref a1), .val (.ref tr), .val (.double (FP.l2d (Int64.ofNat z))), .second, .val (.int (((1 : Int32) &&& (own_fv z (S.1.getD x 0))) &&& (own_fv z (S.1.getD y 0)))), .val (.ref tr), .val (.int (2 : Int32)), .val (.int (1 : Int32)), .val (.int (Int32.ofNat x))] [(.int (1 : Int32)), (.ref tr)])) rfl rfl (hb hby d4_68) _ ?_
      show Steps p.tables e below (T1097.setTop (mkF m 69 #[.val (.ref a1), .val (.ref tr), .val (.double (FP.l2d (Int64.ofNat z))), .second, .val (.int (((1 : Int32) &&& (own_fv z (S.1.getD x 0))) &&& (own_fv z (S.1.getD y 0)))), .val (.ref tr), .val (.int (2 : Int32)), .val (.int (1 : Int32)), .val (.int (Int32.ofNat x))] [(.int (Int32.ofNat y))])) _
      refine XS.istore X1097.here hx rfl (hb hby d4_69) rfl (l' := #[.val (.ref a1), .val (.ref tr), .val (.double (FP.l2d (Int64.ofNat z))), .second, .val (.int (((1 : Int32) &&& (own_fv z (S.1.getD x 0))) &&& (own_fv z (S.1.getD y 0)))), .val (.ref tr), .val (.int (2 : Int32)), .val (.int (1 : Int32)), .val (.int (Int32.ofNat y))]) rfl ?_
      show Steps p.tables e below (T1097.setTop (mkF m 71 #[.val (.ref a1), .val (.ref tr), .val (.double (FP.l2d (Int64.ofNat z))), .second, .val (.int (((1 : Int32) &&& (own_fv z (S.1.getD x 0))) &&& (own_fv z (S.1.getD y 0)))), .val (.ref tr), .val (.int (2 : Int32)), .val (.int (1 : Int32)), .val (.int (Int32.ofNat y))] [])) _
      refine XS.aloadN X1097.here hx rfl (hb hby d4_71) rfl rfl ?_
      show Steps p.tables e below (T1097.setTop (mkF m 72 #[.val (.ref a1), .val (.ref tr), .val (.double (FP.l2d (Int64.ofNat z))), .second, .val (.int (((1 : Int32) &&& (own_fv z (S.1.getD x 0))) &&& (own_fv z (S.1.getD y 0)))), .val (.ref tr), .val (.int (2 : Int32)), .val (.int (1 : Int32)), .val (.int (Int32.ofNat y))] [(.ref a1)])) _
      refine XS.iload X1097.here hx rfl (hb hby d4_72) rfl ?_
      show Steps p.tables e below (T1097.setTop (mkF m 74 #[.val (.ref a1), .val (.ref tr), .val (.double (FP.l2d (Int64.ofNat z))), .second, .val (.int (((1 : Int32) &&& (own_fv z (S.1.getD x 0))) &&& (own_fv z (S.1.getD y 0)))), .val (.ref tr), .val (.int (2 : Int32)), .val (.int (1 : Int32)), .val (.int (Int32.ofNat y))] [(.int (Int32.ofNat y)), (.ref a1)])) _
      refine st1100.trans ?_
      show Steps p.tables e below (T1100.setTop (mkF m 77 #[.val (.ref a1), .val (.ref tr), .val (.double (FP.l2d (Int64.ofNat z))), .second, .val (.int (((1 : Int32) &&& (own_fv z (S.1.getD x 0))) &&& (own_fv z (S.1.getD y 0)))), .val (.ref tr), .val (.int (2 : Int32)), .val (.int (1 : Int32)), .val (.int (Int32.ofNat y))] [])) _
      refine XS.aloadN X1100.here hx rfl (hb hby d4_77) rfl rfl ?_
      show Steps p.tables e below (T1100.setTop (mkF m 78 #[.val (.ref a1), .val (.ref tr), .val (.double (FP.l2d (Int64.ofNat z))), .second, .val (.int (((1 : Int32) &&& (own_fv z (S.1.getD x 0))) &&& (own_fv z (S.1.getD y 0)))), .val (.ref tr), .val (.int (2 : Int32)), .val (.int (1 : Int32)), .val (.int (Int32.ofNat y))] [(.ref a1)])) _
      refine XS.iload X1100.here hx rfl (hb hby d4_78) rfl ?_
      show Steps p.tables e below (T1100.setTop (mkF m 80 #[.val (.ref a1), .val (.ref tr), .val (.double (FP.l2d (Int64.ofNat z))), .second, .val (.int (((1 : Int32) &&& (own_fv z (S.1.getD x 0))) &&& (own_fv z (S.1.getD y 0)))), .val (.ref tr), .val (.int (2 : Int32)), .val (.int (1 : Int32)), .val (.int (Int32.ofNat y))] [(.int (Int32.ofNat y)), (.ref a1)])) _
      refine XS.dloadN X1100.here hx rfl (hb hby d4_80) rfl ?_
      show Steps p.tables e below (T1100.setTop (mkF m 81 #[.val (.ref a1), .val (.ref tr), .val (.double (FP.l2d (Int64.ofNat z))), .second, .val (.int (((1 : Int32) &&& (own_fv z (S.1.getD x 0))) &&& (own_fv z (S.1.getD y 0)))), .val (.ref tr), .val (.int (2 : Int32)), .val (.int (1 : Int32)), .val (.int (Int32.ofNat y))] [(.double (FP.l2d (Int64.ofNat z))), (.int (Int32.ofNat y)), (.ref a1)])) _
      refine st1102.trans ?_
      show Steps p.tables e below (T1102.setTop (mkF m 84 #[.val (.ref a1), .val (.ref tr), .val (.double (FP.l2d (Int64.ofNat z))), .second, .val (.int (((1 : Int32) &&& (own_fv z (S.1.getD x 0))) &&& (own_fv z (S.1.getD y 0)))), .val (.ref tr), .val (.int (2 : Int32)), .val (.int (1 : Int32)), .val (.int (Int32.ofNat y))] [(.int (own_fv z ((own_log (own_step z S x) y).1.getD y 0)))])) _
      exact k)
    by_cases hf1 : (own_fv z ((own_log (own_step z S x) y).1.getD y 0)) = (0 : Int32)
    · have hle1 := own_fv0 hf1
      obtain ⟨T1104, X1104, e1104, st1104⟩ := getF X1102 hx hZ hown (host := "") (Or.inl (hw _ (List.mem_of_getElem? (i := 27) rfl))) Via.refl eg1 Fl1_closed (g := (mkF m 102 #[.val (.ref a1), .val (.ref tr), .val (.double (FP.l2d (Int64.ofNat z))), .second, .val (.int (((1 : Int32) &&& (own_fv z (S.1.getD x 0))) &&& (own_fv z (S.1.getD y 0)))), .val (.ref tr), .val (.int (2 : Int32)), .val (.int (1 : Int32)), .val (.int (Int32.ofNat y))] [(.ref a1)])) rfl rfl (hb hby d4_102)
      obtain ⟨cl1105, Ar1105, q1105, S1105, M1105, H1105, G1105⟩ := id Vl1_ac
      have hin1105 : ¬ ((Int32.ofNat y) < 0 ∨ cl1105.slots.size ≤ ((Int32.ofNat y)).toNatClampNeg) := own_in S1105 (n := 2) (by decide) (by decide) (Nat.lt_of_le_of_lt hy1 (by decide))
      obtain ⟨T1105, h1105, X1105, e1105, W1105, st1105⟩ := stZ X1104 hx hZ e1104 Ar1105 (j := (Int32.ofNat y)) hin1105 (g := (mkF m 108 #[.val (.ref a1), .val (.ref tr), .val (.double (FP.l2d (Int64.ofNat z))), .second, .val (.int (((1 : Int32) &&& (own_fv z (S.1.getD x 0))) &&& (own_fv z (S.1.getD y 0)))), .val (.ref tr), .val (.int (2 : Int32)), .val (.int (1 : Int32)), .val (.int (Int32.ofNat y))] [(.int (1 : Int32)), (.int (Int32.ofNat y)), (.ref ac)])) rfl rfl (hb hby d4_108)
      have V1105 := own_sI (y := 1) (by decide) (Arv.set Ar1105 q1105 S1105 M1105 H1105 G1105 (fits_nar_bool _) W1105 y (own_tn y (Nat.lt_of_le_of_lt hy1 (by decide))) (by rw [own_lenI]; exact Nat.lt_of_lt_of_le (Nat.lt_of_le_of_lt hy1 (by decide)) (Nat.le_of_eq (own_ok_log (own_ok_step OK1 hx1) hy1).2.1.symm)))
      have c1106_0 := c1101_0.other W1105 ne_tr_ac
      have c1106_1 := El1.wr W1105
      have c1106_2 := Fl1_room.other W1105 (Or.inl ne_a1_ac)
      have c1106_3 := Fl1_closed.other W1105 (Or.inl ne_a1_ac)
      have c1106_4 := Fl1_loggedLink.other W1105 (Or.inl ne_a1_ac)
      have c1106_5 := Fl1_loggedRoom.other W1105 (Or.inl ne_a1_ac)
      have c1106_6 := Fl1_loggedClosed.other W1105 (Or.inl ne_a1_ac)
      have c1106_7 := Fl1_logged.other W1105 (Or.inl ne_a1_ac)
      have c1106_8 := Vl1_ar.other W1105 ne_ar_ac
      have c1106_10 := Vl1_al.other W1105 (Ne.symm ne_ac_al)
      have c1106_11 := Vl1_alr.other W1105 (Ne.symm ne_ac_alr)
      have c1106_12 := Vl1_alc.other W1105 (Ne.symm ne_ac_alc)
      have Z1105 : n0 ≤ h1105.size := Nat.le_trans Z1100 (Nat.le_of_eq W1105.size.symm)
      have K1105 : Keep h0 h1105 [a1, ar, ac, al, alr, alc] := K1100.wr W1105 (Or.inl (List.mem_of_getElem? (i := 2) rfl))
      have N1105 := Fr.snoc X1105 N1102 g_ac
      have Bs1 : own_St Z h1105 a1 ar ac al alr alc k1 k2 k3 k4 k5 (own_step z (own_step z S x) y) := by rw [own_stepN (S := (own_step z S x)) (i := y) hle1]; exact ⟨c1106_1, c1106_2, c1106_3, c1106_4, c1106_5, c1106_6, c1106_7, c1106_8, V1105, c1106_10, c1106_11, c1106_12⟩
      obtain ⟨Es1, Fs1_room, Fs1_closed, Fs1_loggedLink, Fs1_loggedRoom, Fs1_loggedClosed, Fs1_logged, Vs1_ar, Vs1_ac, Vs1_al, Vs1_alr, Vs1_alc⟩ := id Bs1
      have P1107 : ∀ t, Steps p.tables e below (T1105.setTop (mkF m 117 #[.val (.ref a1), .val (.ref tr), .val (.double (FP.l2d (Int64.ofNat z))), .second, .val (.int (((1 : Int32) &&& (own_fv z (S.1.getD x 0))) &&& (own_fv z (S.1.getD y 0)))), .val (.ref tr), .val (.int (2 : Int32)), .val (.int (2 : Int32)), .val (.int (Int32.ofNat y))] [(.int (((1 : Int32) &&& (own_fv z (S.1.getD x 0))) &&& (own_fv z (S.1.getD y 0))))])) t → Steps p.tables e below (s₁.setTop (entryFrame m #[(.ref a1), (.ref tr), (.double (FP.l2d (Int64.ofNat z)))] 9)) t := fun t k => P1103 t (by
        refine XS.ifYes X1102.here hx rfl (pc0 := 84) (pc' := 101) rfl (hb hby d4_84) rfl ((if0 _ _).trans (teq hf1).1) (by decide) (by decide) ?_
        show Steps p.tables e below (T1102.setTop (mkF m 101 #[.val (.ref a1), .val (.ref tr), .val (.double (FP.l2d (Int64.ofNat z))), .second, .val (.int (((1 : Int32) &&& (own_fv z (S.1.getD x 0))) &&& (own_fv z (S.1.getD y 0)))), .val (.ref tr), .val (.int (2 : Int32)), .val (.int (1 : Int32)), .val (.int (Int32.ofNat y))] [])) _
        refine XS.aloadN X1102.here hx rfl (hb hby d4_101) rfl rfl ?_
        show Steps p.tables e below (T1102.setTop (mkF m 102 #[.val (.ref a1), .val (.ref tr), .val (.double (FP.l2d (Int64.ofNat z))), .second, .val (.int (((1 : Int32) &&& (own_fv z (S.1.getD x 0))) &&& (own_fv z (S.1.getD y 0)))), .val (.ref tr), .val (.int (2 : Int32)), .val (.int (1 : Int32)), .val (.int (Int32.ofNat y))] [(.ref a1)])) _
        refine st1104 _ ?_
        show Steps p.tables e below (T1104.setTop (mkF m 105 #[.val (.ref a1), .val (.ref tr), .val (.double (FP.l2d (Int64.ofNat z))), .second, .val (.int (((1 : Int32) &&& (own_fv z (S.1.getD x 0))) &&& (own_fv z (S.1.getD y 0)))), .val (.ref tr), .val (.int (2 : Int32)), .val (.int (1 : Int32)), .val (.int (Int32.ofNat y))] [(.ref ac)])) _
        refine XS.iload X1104.here hx rfl (hb hby d4_105) rfl ?_
        show Steps p.tables e below (T1104.setTop (mkF m 107 #[.val (.ref a1), .val (.ref tr), .val (.double (FP.l2d (Int64.ofNat z))), .second, .val (.int (((1 : Int32) &&& (own_fv z (S.1.getD x 0))) &&& (own_fv z (S.1.getD y 0)))), .val (.ref tr), .val (.int (2 : Int32)), .val (.int (1 : Int32)), .val (.int (Int32.ofNat y))] [(.int (Int32.ofNat y)), (.ref ac)])) _
        refine XS.iconst X1104.here hx rfl (hb hby d4_107) ?_
        show Steps p.tables e below (T1104.setTop (mkF m 108 #[.val (.ref a1), .val (.ref tr), .val (.double (FP.l2d (Int64.ofNat z))), .second, .val (.int (((1 : Int32) &&& (own_fv z (S.1.getD x 0))) &&& (own_fv z (S.1.getD y 0)))), .val (.ref tr), .val (.int (2 : Int32)), .val (.int (1 : Int32)), .val (.int (Int32.ofNat y))] [(.int (1 : Int32)), (.int (Int32.ofNat y)), (.ref ac)])) _
        refine st1105 _ ?_
        show Steps p.tables e below (T1105.setTop (mkF m 109 #[.val (.ref a1), .val (.ref tr), .val (.double (FP.l2d (Int64.ofNat z))), .second, .val (.int (((1 : Int32) &&& (own_fv z (S.1.getD x 0))) &&& (own_fv z (S.1.getD y 0)))), .val (.ref tr), .val (.int (2 : Int32)), .val (.int (1 : Int32)), .val (.int (Int32.ofNat y))] [])) _
        refine XS.iinc X1105.here hx rfl (hb hby d4_109) rfl (l' := #[.val (.ref a1), .val (.ref tr), .val (.double (FP.l2d (Int64.ofNat z))), .second, .val (.int (((1 : Int32) &&& (own_fv z (S.1.getD x 0))) &&& (own_fv z (S.1.getD y 0)))), .val (.ref tr), .val (.int (2 : Int32)), .val (.int (2 : Int32)), .val (.int (Int32.ofNat y))]) rfl ?_
        show Steps p.tables e below (T1105.setTop (mkF m 112 #[.val (.ref a1), .val (.ref tr), .val (.double (FP.l2d (Int64.ofNat z))), .second, .val (.int (((1 : Int32) &&& (own_fv z (S.1.getD x 0))) &&& (own_fv z (S.1.getD y 0)))), .val (.ref tr), .val (.int (2 : Int32)), .val (.int (2 : Int32)), .val (.int (Int32.ofNat y))] [])) _
        refine XS.goto X1105.here hx rfl (pc0 := 112) (pc' := 57) rfl (hb hby d4_112) (by decide) (by decide) ?_
        show Steps p.tables e below (T1105.setTop (mkF m 57 #[.val (.ref a1), .val (.ref tr), .val (.double (FP.l2d (Int64.ofNat z))), .second, .val (.int (((1 : Int32) &&& (own_fv z (S.1.getD x 0))) &&& (own_fv z (S.1.getD y 0)))), .val (.ref tr), .val (.int (2 : Int32)), .val (.int (2 : Int32)), .val (.int (Int32.ofNat y))] [])) _
        refine XS.iload X1105.here hx rfl (hb hby d4_57) rfl ?_
        show Steps p.tables e below (T1105.setTop (mkF m 59 #[.val (.ref a1), .val (.ref tr), .val (.double (FP.l2d (Int64.ofNat z))), .second, .val (.int (((1 : Int32) &&& (own_fv z (S.1.getD x 0))) &&& (own_fv z (S.1.getD y 0)))), .val (.ref tr), .val (.int (2 : Int32)), .val (.int (2 : Int32)), .val (.int (Int32.ofNat y))] [(.int (2 : Int32))])) _
        refine XS.iload X1105.here hx rfl (hb hby d4_59) rfl ?_
        show Steps p.tables e below (T1105.setTop (mkF m 61 #[.val (.ref a1), .val (.ref tr), .val (.double (FP.l2d (Int64.ofNat z))), .second, .val (.int (((1 : Int32) &&& (own_fv z (S.1.getD x 0))) &&& (own_fv z (S.1.getD y 0)))), .val (.ref tr), .val (.int (2 : Int32)), .val (.int (2 : Int32)), .val (.int (Int32.ofNat y))] [(.int (2 : Int32)), (.int (2 : Int32))])) _
        refine XS.icmpYes X1105.here hx rfl (pc0 := 61) (pc' := 115) rfl (hb hby d4_61) rfl (flt (by decide)).2.1 (by decide) (by decide) ?_
        show Steps p.tables e below (T1105.setTop (mkF m 115 #[.val (.ref a1), .val (.ref tr), .val (.double (FP.l2d (Int64.ofNat z))), .second, .val (.int (((1 : Int32) &&& (own_fv z (S.1.getD x 0))) &&& (own_fv z (S.1.getD y 0)))), .val (.ref tr), .val (.int (2 : Int32)), .val (.int (2 : Int32)), .val (.int (Int32.ofNat y))] [])) _
        refine XS.iload X1105.here hx rfl (hb hby d4_115) rfl ?_
        show Steps p.tables e below (T1105.setTop (mkF m 117 #[.val (.ref a1), .val (.ref tr), .val (.double (FP.l2d (Int64.ofNat z))), .second, .val (.int (((1 : Int32) &&& (own_fv z (S.1.getD x 0))) &&& (own_fv z (S.1.getD y 0)))), .val (.ref tr), .val (.int (2 : Int32)), .val (.int (2 : Int32)), .val (.int (Int32.ofNat y))] [(.int (((1 : Int32) &&& (own_fv z (S.1.getD x 0))) &&& (own_fv z (S.1.getD y 0))))])) _
        exact k)
      obtain ⟨fs, hr, hrun, hended, hW, hsame⟩ := X1105.leave (v := some (.int (nar .boolean (((1 : Int32) &&& (own_fv z (S.1.getD x 0))) &&& (own_fv z (S.1.getD y 0)))))) (fun h => by rw [Bd.returns] at h; cases h)
      refine ⟨_, _, P1107 _ ?_, hrun, hended, _, _, rfl, ?_, ⟨_, rfl⟩, hW, hsame.mono (by decide) (by decide)⟩
      · exact retN X1105 hx (t := .boolean) Bd.returns (by simp) (hb hby d4_117) hr
      · show Q_try2 Z a1 ar ac al alr alc k1 k2 k3 k4 k5 S tr kt x y z h0 n0 _ T1105.heap _
        rw [e1105]
        exact ⟨_, rfl, N1105, K1105, Bs1⟩
    · have hle1 := own_fv1 hf1
      obtain ⟨T1108, X1108, e1108, st1108⟩ := getF X1102 hx hZ hown (host := "") (Or.inl (hw _ (List.mem_of_getElem? (i := 24) rfl))) Via.refl eg1 Fl1_room (g := (mkF m 88 #[.val (.ref a1), .val (.ref tr), .val (.double (FP.l2d (Int64.ofNat z))), .second, .val (.int (((1 : Int32) &&& (own_fv z (S.1.getD x 0))) &&& (own_fv z (S.1.getD y 0)))), .val (.ref tr), .val (.int (2 : Int32)), .val (.int (1 : Int32)), .val (.int (Int32.ofNat y))] [(.ref a1)])) rfl rfl (hb hby d4_88)
      obtain ⟨cl1109, Ar1109, q1109, S1109, M1109, H1109, G1109⟩ := id Vl1_ar
      have hin1109 : ¬ ((Int32.ofNat y) < 0 ∨ cl1109.slots.size ≤ ((Int32.ofNat y)).toNatClampNeg) := own_in S1109 (n := 2) (by decide) (by decide) (Nat.lt_of_le_of_lt hy1 (by decide))
      have hat1109 : cl1109.slots[((Int32.ofNat y)).toNatClampNeg]? = some (.double (FP.l2d (Int64.ofNat ((own_log (own_step z S x) y).1.getD y 0)))) := own_aD H1109 S1109 (n := 2) (by decide) (by decide) (Nat.lt_of_le_of_lt hy1 (by decide))
      have hsb1 := own_sub ((own_log (own_step z S x) y).1.getD y 0) (Nat.lt_of_le_of_lt ((own_ok_log (own_ok_step OK1 hx1) hy1).2.2.2.2.2.1 y) (by decide)) z hle1
      obtain ⟨cl1110, Ar1110, q1110, S1110, M1110, H1110, G1110⟩ := id Vl1_ar
      have hin1110 : ¬ ((Int32.ofNat y) < 0 ∨ cl1110.slots.size ≤ ((Int32.ofNat y)).toNatClampNeg) := own_in S1110 (n := 2) (by decide) (by decide) (Nat.lt_of_le_of_lt hy1 (by decide))
      obtain ⟨T1110, h1110, X1110, e1110, W1110, st1110⟩ := stD X1108 hx hZ e1108 Ar1110 (j := (Int32.ofNat y)) hin1110 (g := (mkF m 97 #[.val (.ref a1), .val (.ref tr), .val (.double (FP.l2d (Int64.ofNat z))), .second, .val (.int (((1 : Int32) &&& (own_fv z (S.1.getD x 0))) &&& (own_fv z (S.1.getD y 0)))), .val (.ref tr), .val (.int (2 : Int32)), .val (.int (1 : Int32)), .val (.int (Int32.ofNat y))] [(.double (FP.l2d (Int64.ofNat (((own_log (own_step z S x) y).1.getD y 0) - z)))), (.int (Int32.ofNat y)), (.ref ar)])) rfl rfl (hb hby d4_97)
      have V1110 := own_sD rfl (Arv.set Ar1110 q1110 S1110 M1110 H1110 G1110 rfl W1110 y (own_tn y (Nat.lt_of_le_of_lt hy1 (by decide))) (by rw [own_lenD]; exact Nat.lt_of_lt_of_le (Nat.lt_of_le_of_lt hy1 (by decide)) (Nat.le_of_eq (own_ok_log (own_ok_step OK1 hx1) hy1).1.symm)))
      have c1111_0 := c1101_0.other W1110 ne_tr_ar
      have c1111_1 := El1.wr W1110
      have c1111_2 := Fl1_room.other W1110 (Or.inl ne_a1_ar)
      have c1111_3 := Fl1_closed.other W1110 (Or.inl ne_a1_ar)
      have c1111_4 := Fl1_loggedLink.other W1110 (Or.inl ne_a1_ar)
      have c1111_5 := Fl1_loggedRoom.other W1110 (Or.inl ne_a1_ar)
      have c1111_6 := Fl1_loggedClosed.other W1110 (Or.inl ne_a1_ar)
      have c1111_7 := Fl1_logged.other W1110 (Or.inl ne_a1_ar)
      have c1111_9 := Vl1_ac.other W1110 (Ne.symm ne_ar_ac)
      have c1111_10 := Vl1_al.other W1110 (Ne.symm ne_ar_al)
      have c1111_11 := Vl1_alr.other W1110 (Ne.symm ne_ar_alr)
      have c1111_12 := Vl1_alc.other W1110 (Ne.symm ne_ar_alc)
      have Z1110 : n0 ≤ h1110.size := Nat.le_trans Z1100 (Nat.le_of_eq W1110.size.symm)
      have K1110 : Keep h0 h1110 [a1, ar, ac, al, alr, alc] := K1100.wr W1110 (Or.inl (List.mem_of_getElem? (i := 1) rfl))
      have N1110 := Fr.snoc X1110 N1102 g_ar
      have Bs1 : own_St Z h1110 a1 ar ac al alr alc k1 k2 k3 k4 k5 (own_step z (own_step z S x) y) := by rw [own_stepY (S := (own_step z S x)) (i := y) hle1]; exact ⟨c1111_1, c1111_2, c1111_3, c1111_4, c1111_5, c1111_6, c1111_7, V1110, c1111_9, c1111_10, c1111_11, c1111_12⟩
      obtain ⟨Es1, Fs1_room, Fs1_closed, Fs1_loggedLink, Fs1_loggedRoom, Fs1_loggedClosed, Fs1_logged, Vs1_ar, Vs1_ac, Vs1_al, Vs1_alr, Vs1_alc⟩ := id Bs1
      have P1112 : ∀ t, Steps p.tables e below (T1110.setTop (mkF m 117 #[.val (.ref a1), .val (.ref tr), .val (.double (FP.l2d (Int64.ofNat z))), .second, .val (.int (((1 : Int32) &&& (own_fv z (S.1.getD x 0))) &&& (own_fv z (S.1.getD y 0)))), .val (.ref tr), .val (.int (2 : Int32)), .val (.int (2 : Int32)), .val (.int (Int32.ofNat y))] [(.int (((1 : Int32) &&& (own_fv z (S.1.getD x 0))) &&& (own_fv z (S.1.getD y 0))))])) t → Steps p.tables e below (s₁.setTop (entryFrame m #[(.ref a1), (.ref tr), (.double (FP.l2d (Int64.ofNat z)))] 9)) t := fun t k => P1103 t (by
        refine XS.ifNo X1102.here hx rfl (hb hby d4_84) rfl ((if0 _ _).trans (feq hf1).1) ?_
        show Steps p.tables e below (T1102.setTop (mkF m 87 #[.val (.ref a1), .val (.ref tr), .val (.double (FP.l2d (Int64.ofNat z))), .second, .val (.int (((1 : Int32) &&& (own_fv z (S.1.getD x 0))) &&& (own_fv z (S.1.getD y 0)))), .val (.ref tr), .val (.int (2 : Int32)), .val (.int (1 : Int32)), .val (.int (Int32.ofNat y))] [])) _
        refine XS.aloadN X1102.here hx rfl (hb hby d4_87) rfl rfl ?_
        show Steps p.tables e below (T1102.setTop (mkF m 88 #[.val (.ref a1), .val (.ref tr), .val (.double (FP.l2d (Int64.ofNat z))), .second, .val (.int (((1 : Int32) &&& (own_fv z (S.1.getD x 0))) &&& (own_fv z (S.1.getD y 0)))), .val (.ref tr), .val (.int (2 : Int32)), .val (.int (1 : Int32)), .val (.int (Int32.ofNat y))] [(.ref a1)])) _
        refine st1108 _ ?_
        show Steps p.tables e below (T1108.setTop (mkF m 91 #[.val (.ref a1), .val (.ref tr), .val (.double (FP.l2d (Int64.ofNat z))), .second, .val (.int (((1 : Int32) &&& (own_fv z (S.1.getD x 0))) &&& (own_fv z (S.1.getD y 0)))), .val (.ref tr), .val (.int (2 : Int32)), .val (.int (1 : Int32)), .val (.int (Int32.ofNat y))] [(.ref ar)])) _
        refine XS.iload X1108.here hx rfl (hb hby d4_91) rfl ?_
        show Steps p.tables e below (T1108.setTop (mkF m 93 #[.val (.ref a1), .val (.ref tr), .val (.double (FP.l2d (Int64.ofNat z))), .second, .val (.int (((1 : Int32) &&& (own_fv z (S.1.getD x 0))) &&& (own_fv z (S.1.getD y 0)))), .val (.ref tr), .val (.int (2 : Int32)), .val (.int (1 : Int32)), .val (.int (Int32.ofNat y))] [(.int (Int32.ofNat y)), (.ref ar)])) _
        refine Jvm.Free.XT.dup2 X1108.here hx rfl (hb hby d4_93) rfl rfl rfl ?_
        show Steps p.tables e below (T1108.setTop (mkF m 94 #[.val (.ref a1), .val (.ref tr), .val (.double (FP.l2d (Int64.ofNat z))), .second, .val (.int (((1 : Int32) &&& (own_fv z (S.1.getD x 0))) &&& (own_fv z (S.1.getD y 0)))), .val (.ref tr), .val (.int (2 : Int32)), .val (.int (1 : Int32)), .val (.int (Int32.ofNat y))] [(.int (Int32.ofNat y)), (.ref ar), (.int (Int32.ofNat y)), (.ref ar)])) _
        refine X1108.daload hx (j := (Int32.ofNat y)) (v := (.double (FP.l2d (Int64.ofNat ((own_log (own_step z S x) y).1.getD y 0))))) (by rw [e1108]; exact Ar1109.1) (State.isArrayOf_alike hZ.alike Ar1109.2.1) Ar1109.2.2 hin1109 hat1109 (g := (mkF m 94 #[.val (.ref a1), .val (.ref tr), .val (.double (FP.l2d (Int64.ofNat z))), .second, .val (.int (((1 : Int32) &&& (own_fv z (S.1.getD x 0))) &&& (own_fv z (S.1.getD y 0)))), .val (.ref tr), .val (.int (2 : Int32)), .val (.int (1 : Int32)), .val (.int (Int32.ofNat y))] [(.int (Int32.ofNat y)), (.ref ar), (.int (Int32.ofNat y)), (.ref ar)])) rfl rfl (hb hby d4_94) _ ?_
        show Steps p.tables e below (T1108.setTop (mkF m 95 #[.val (.ref a1), .val (.ref tr), .val (.double (FP.l2d (Int64.ofNat z))), .second, .val (.int (((1 : Int32) &&& (own_fv z (S.1.getD x 0))) &&& (own_fv z (S.1.getD y 0)))), .val (.ref tr), .val (.int (2 : Int32)), .val (.int (1 : Int32)), .val (.int (Int32.ofNat y))] [(.double (FP.l2d (Int64.ofNat ((own_log (own_step z S x) y).1.getD y 0)))), (.int (Int32.ofNat y)), (.ref ar)])) _
        refine XS.dloadN X1108.here hx rfl (hb hby d4_95) rfl ?_
        show Steps p.tables e below (T1108.setTop (mkF m 96 #[.val (.ref a1), .val (.ref tr), .val (.double (FP.l2d (Int64.ofNat z))), .second, .val (.int (((1 : Int32) &&& (own_fv z (S.1.getD x 0))) &&& (own_fv z (S.1.getD y 0)))), .val (.ref tr), .val (.int (2 : Int32)), .val (.int (1 : Int32)), .val (.int (Int32.ofNat y))] [(.double (FP.l2d (Int64.ofNat z))), (.double (FP.l2d (Int64.ofNat ((own_log (own_step z S x) y).1.getD y 0)))), (.int (Int32.ofNat y)), (.ref ar)])) _
        refine XS.dsubS X1108.here hx rfl (hb hby d4_96) rfl hsb1.1 (v := FP.l2d (Int64.ofNat (((own_log (own_step z S x) y).1.getD y 0) - z))) hsb1.2 ?_
        show Steps p.tables e below (T1108.setTop (mkF m 97 #[.val (.ref a1), .val (.ref tr), .val (.double (FP.l2d (Int64.ofNat z))), .second, .val (.int (((1 : Int32) &&& (own_fv z (S.1.getD x 0))) &&& (own_fv z (S.1.getD y 0)))), .val (.ref tr), .val (.int (2 : Int32)), .val (.int (1 : Int32)), .val (.int (Int32.ofNat y))] [(.double (FP.l2d (Int64.ofNat (((own_log (own_step z S x) y).1.getD y 0) - z)))), (.int (Int32.ofNat y)), (.ref ar)])) _
        refine st1110 _ ?_
        show Steps p.tables e below (T1110.setTop (mkF m 98 #[.val (.ref a1), .val (.ref tr), .val (.double (FP.l2d (Int64.ofNat z))), .second, .val (.int (((1 : Int32) &&& (own_fv z (S.1.getD x 0))) &&& (own_fv z (S.1.getD y 0)))), .val (.ref tr), .val (.int (2 : Int32)), .val (.int (1 : Int32)), .val (.int (Int32.ofNat y))] [])) _
        refine XS.goto X1110.here hx rfl (pc0 := 98) (pc' := 109) rfl (hb hby d4_98) (by decide) (by decide) ?_
        show Steps p.tables e below (T1110.setTop (mkF m 109 #[.val (.ref a1), .val (.ref tr), .val (.double (FP.l2d (Int64.ofNat z))), .second, .val (.int (((1 : Int32) &&& (own_fv z (S.1.getD x 0))) &&& (own_fv z (S.1.getD y 0)))), .val (.ref tr), .val (.int (2 : Int32)), .val (.int (1 : Int32)), .val (.int (Int32.ofNat y))] [])) _
        refine XS.iinc X1110.here hx rfl (hb hby d4_109) rfl (l' := #[.val (.ref a1), .val (.ref tr), .val (.double (FP.l2d (Int64.ofNat z))), .second, .val (.int (((1 : Int32) &&& (own_fv z (S.1.getD x 0))) &&& (own_fv z (S.1.getD y 0)))), .val (.ref tr), .val (.int (2 : Int32)), .val (.int (2 : Int32)), .val (.int (Int32.ofNat y))]) rfl ?_
        show Steps p.tables e below (T1110.setTop (mkF m 112 #[.val (.ref a1), .val (.ref tr), .val (.double (FP.l2d (Int64.ofNat z))), .second, .val (.int (((1 : Int32) &&& (own_fv z (S.1.getD x 0))) &&& (own_fv z (S.1.getD y 0)))), .val (.ref tr), .val (.int (2 : Int32)), .val (.int (2 : Int32)), .val (.int (Int32.ofNat y))] [])) _
        refine XS.goto X1110.here hx rfl (pc0 := 112) (pc' := 57) rfl (hb hby d4_112) (by decide) (by decide) ?_
        show Steps p.tables e below (T1110.setTop (mkF m 57 #[.val (.ref a1), .val (.ref tr), .val (.double (FP.l2d (Int64.ofNat z))), .second, .val (.int (((1 : Int32) &&& (own_fv z (S.1.getD x 0))) &&& (own_fv z (S.1.getD y 0)))), .val (.ref tr), .val (.int (2 : Int32)), .val (.int (2 : Int32)), .val (.int (Int32.ofNat y))] [])) _
        refine XS.iload X1110.here hx rfl (hb hby d4_57) rfl ?_
        show Steps p.tables e below (T1110.setTop (mkF m 59 #[.val (.ref a1), .val (.ref tr), .val (.double (FP.l2d (Int64.ofNat z))), .second, .val (.int (((1 : Int32) &&& (own_fv z (S.1.getD x 0))) &&& (own_fv z (S.1.getD y 0)))), .val (.ref tr), .val (.int (2 : Int32)), .val (.int (2 : Int32)), .val (.int (Int32.ofNat y))] [(.int (2 : Int32))])) _
        refine XS.iload X1110.here hx rfl (hb hby d4_59) rfl ?_
        show Steps p.tables e below (T1110.setTop (mkF m 61 #[.val (.ref a1), .val (.ref tr), .val (.double (FP.l2d (Int64.ofNat z))), .second, .val (.int (((1 : Int32) &&& (own_fv z (S.1.getD x 0))) &&& (own_fv z (S.1.getD y 0)))), .val (.ref tr), .val (.int (2 : Int32)), .val (.int (2 : Int32)), .val (.int (Int32.ofNat y))] [(.int (2 : Int32)), (.int (2 : Int32))])) _
        refine XS.icmpYes X1110.here hx rfl (pc0 := 61) (pc' := 115) rfl (hb hby d4_61) rfl (flt (by decide)).2.1 (by decide) (by decide) ?_
        show Steps p.tables e below (T1110.setTop (mkF m 115 #[.val (.ref a1), .val (.ref tr), .val (.double (FP.l2d (Int64.ofNat z))), .second, .val (.int (((1 : Int32) &&& (own_fv z (S.1.getD x 0))) &&& (own_fv z (S.1.getD y 0)))), .val (.ref tr), .val (.int (2 : Int32)), .val (.int (2 : Int32)), .val (.int (Int32.ofNat y))] [])) _
        refine XS.iload X1110.here hx rfl (hb hby d4_115) rfl ?_
        show Steps p.tables e below (T1110.setTop (mkF m 117 #[.val (.ref a1), .val (.ref tr), .val (.double (FP.l2d (Int64.ofNat z))), .second, .val (.int (((1 : Int32) &&& (own_fv z (S.1.getD x 0))) &&& (own_fv z (S.1.getD y 0)))), .val (.ref tr), .val (.int (2 : Int32)), .val (.int (2 : Int32)), .val (.int (Int32.ofNat y))] [(.int (((1 : Int32) &&& (own_fv z (S.1.getD x 0))) &&& (own_fv z (S.1.getD y 0))))])) _
        exact k)
      obtain ⟨fs, hr, hrun, hended, hW, hsame⟩ := X1110.leave (v := some (.int (nar .boolean (((1 : Int32) &&& (own_fv z (S.1.getD x 0))) &&& (own_fv z (S.1.getD y 0)))))) (fun h => by rw [Bd.returns] at h; cases h)
      refine ⟨_, _, P1112 _ ?_, hrun, hended, _, _, rfl, ?_, ⟨_, rfl⟩, hW, hsame.mono (by decide) (by decide)⟩
      · exact retN X1110 hx (t := .boolean) Bd.returns (by simp) (hb hby d4_117) hr
      · show Q_try2 Z a1 ar ac al alr alc k1 k2 k3 k4 k5 S tr kt x y z h0 n0 _ T1110.heap _
        rw [e1110]
        exact ⟨_, rfl, N1110, K1110, Bs1⟩
theorem d10_0 : decode prog_52_method_6_code 0 = .ok (.aload_n 0, 1) := by decide +kernel
theorem d10_1 : decode prog_52_method_6_code 1 = .ok (.getfield 45, 3) := by decide +kernel
theorem d10_4 : decode prog_52_method_6_code 4 = .ok (.iload_n 1, 1) := by decide +kernel
theorem d10_5 : decode prog_52_method_6_code 5 = .ok (.if_icmp .le 62, 3) := by decide +kernel
theorem d10_8 : decode prog_52_method_6_code 8 = .ok (.aload_n 0, 1) := by decide +kernel
theorem d10_9 : decode prog_52_method_6_code 9 = .ok (.dup, 1) := by decide +kernel
theorem d10_10 : decode prog_52_method_6_code 10 = .ok (.getfield 45, 3) := by decide +kernel
theorem d10_13 : decode prog_52_method_6_code 13 = .ok (.iconst 1, 1) := by decide +kernel
theorem d10_14 : decode prog_52_method_6_code 14 = .ok (.isub, 1) := by decide +kernel
theorem d10_15 : decode prog_52_method_6_code 15 = .ok (.putfield 45, 3) := by decide +kernel
theorem d10_18 : decode prog_52_method_6_code 18 = .ok (.aload_n 0, 1) := by decide +kernel
theorem d10_19 : decode prog_52_method_6_code 19 = .ok (.getfield 13, 3) := by decide +kernel
theorem d10_22 : decode prog_52_method_6_code 22 = .ok (.aload_n 0, 1) := by decide +kernel
theorem d10_23 : decode prog_52_method_6_code 23 = .ok (.getfield 22, 3) := by decide +kernel
theorem d10_26 : decode prog_52_method_6_code 26 = .ok (.aload_n 0, 1) := by decide +kernel
theorem d10_27 : decode prog_52_method_6_code 27 = .ok (.getfield 45, 3) := by decide +kernel
theorem d10_30 : decode prog_52_method_6_code 30 = .ok (.iaload, 1) := by decide +kernel
theorem d10_31 : decode prog_52_method_6_code 31 = .ok (.aload_n 0, 1) := by decide +kernel
theorem d10_32 : decode prog_52_method_6_code 32 = .ok (.getfield 26, 3) := by decide +kernel
theorem d10_35 : decode prog_52_method_6_code 35 = .ok (.aload_n 0, 1) := by decide +kernel
theorem d10_36 : decode prog_52_method_6_code 36 = .ok (.getfield 45, 3) := by decide +kernel
theorem d10_39 : decode prog_52_method_6_code 39 = .ok (.daload, 1) := by decide +kernel
theorem d10_40 : decode prog_52_method_6_code 40 = .ok (.dastore, 1) := by decide +kernel
theorem d10_41 : decode prog_52_method_6_code 41 = .ok (.aload_n 0, 1) := by decide +kernel
theorem d10_42 : decode prog_52_method_6_code 42 = .ok (.getfield 18, 3) := by decide +kernel
theorem d10_45 : decode prog_52_method_6_code 45 = .ok (.aload_n 0, 1) := by decide +kernel
theorem d10_46 : decode prog_52_method_6_code 46 = .ok (.getfield 22, 3) := by decide +kernel
theorem d10_49 : decode prog_52_method_6_code 49 = .ok (.aload_n 0, 1) := by decide +kernel
theorem d10_50 : decode prog_52_method_6_code 50 = .ok (.getfield 45, 3) := by decide +kernel
theorem d10_53 : decode prog_52_method_6_code 53 = .ok (.iaload, 1) := by decide +kernel
theorem d10_54 : decode prog_52_method_6_code 54 = .ok (.aload_n 0, 1) := by decide +kernel
theorem d10_55 : decode prog_52_method_6_code 55 = .ok (.getfield 29, 3) := by decide +kernel
theorem d10_58 : decode prog_52_method_6_code 58 = .ok (.aload_n 0, 1) := by decide +kernel
theorem d10_59 : decode prog_52_method_6_code 59 = .ok (.getfield 45, 3) := by decide +kernel
theorem d10_62 : decode prog_52_method_6_code 62 = .ok (.baload, 1) := by decide +kernel
theorem d10_63 : decode prog_52_method_6_code 63 = .ok (.bastore, 1) := by decide +kernel
theorem d10_64 : decode prog_52_method_6_code 64 = .ok (.goto (-64), 3) := by decide +kernel
set_option maxRecDepth 65536 in
set_option maxHeartbeats 40000000 in
theorem own_undo {p : Program} {l : Launch} {e : Env} {R : Room} {s : State} {m : MethodId} {args : Array Value} {below : List Frame} {meth : Method} {c : Code} {cells slots : Nat} {Z : State} {a0 : Array Value} {n0 : Nat} (a1 : Addr) (ar : Addr) (ac : Addr) (al : Addr) (alr : Addr) (alc : Addr) (k1 : ClassId) (k2 : ClassId) (k3 : ClassId) (k4 : ClassId) (k5 : ClassId) (mm : Nat) (hx : p.tables.exec = Jvm.exec) (hZ : Z.Warmed39 s.vm) (hw : ∀ d ∈ tables_1, d.before a0 Z = true) (hby : c.code = prog_52_method_6_code) (hml : c.maxLocals = 2) (hown : s.vm.findClass "com/example/tributary/tributary/solver/Rooms" = some m.cls) (D1 : own_D a1 ar ac al alr alc) (G1 : own_G n0 a1 ar ac al alr alc) :
    ∀ (nn : Nat) (S : own_S) (T0 : State) (h0 : Heap) (locs : List Loc), S.2.2.2.2.2 = mm + nn → S.2.2.2.2.2 ≤ 8 → own_ok S → Stand p l e R s m args below meth c T0 locs cells slots → T0.heap = h0 → own_St Z h0 a1 ar ac al alr alc k1 k2 k3 k4 k5 S → Fr n0 locs → n0 ≤ h0.size →
    ∃ (T' : State) (h' : Heap) (locs' : List Loc), Stand p l e R s m args below meth c T' locs' cells slots ∧ T'.heap = h' ∧ Fr n0 locs' ∧ Keep h0 h' [a1, ar, ac, al, alr, alc] ∧ own_St Z h' a1 ar ac al alr alc k1 k2 k3 k4 k5 (own_uns nn S) ∧ ∀ t, Steps p.tables e below (T'.setTop (mkF m 67 #[.val (.ref a1), .val (.int (Int32.ofNat mm))] [])) t → Steps p.tables e below (T0.setTop (mkF m 0 #[.val (.ref a1), .val (.int (Int32.ofNat mm))] [])) t := by
  intro nn S T0 h0 locs hk1 hk2 OK1 X0 e0 B1 N0 Z0
  have K0 : Keep h0 h0 [a1, ar, ac, al, alr, alc] := Keep.refl h0 [a1, ar, ac, al, alr, alc]
  have P0 : ∀ t, Steps p.tables e below (T0.setTop (mkF m 0 #[.val (.ref a1), .val (.int (Int32.ofNat mm))] [])) t → Steps p.tables e below (T0.setTop (mkF m 0 #[.val (.ref a1), .val (.int (Int32.ofNat mm))] [])) t := fun t k => k
  obtain ⟨ne_a1_ar, ne_a1_ac, ne_a1_al, ne_a1_alr, ne_a1_alc, ne_ar_ac, ne_ar_al, ne_ar_alr, ne_ar_alc, ne_ac_al, ne_ac_alr, ne_ac_alc, ne_al_alr, ne_al_alc, ne_alr_alc⟩ := id D1
  obtain ⟨g_a1, g_ar, g_ac, g_al, g_alr, g_alc⟩ := id G1
  obtain ⟨E0, F0_room, F0_closed, F0_loggedLink, F0_loggedRoom, F0_loggedClosed, F0_logged, V0_ar, V0_ac, V0_al, V0_alr, V0_alc⟩ := id B1
  obtain ⟨T1113, X1113, e1113, st1113⟩ := getF X0 hx hZ hown (host := "") (Or.inl (hw _ (List.mem_of_getElem? (i := 53) rfl))) Via.refl e0 F0_logged (g := (mkF m 1 #[.val (.ref a1), .val (.int (Int32.ofNat mm))] [(.ref a1)])) rfl rfl (hb hby d10_1)
  have P1114 : ∀ t, Steps p.tables e below (T1113.setTop (mkF m 5 #[.val (.ref a1), .val (.int (Int32.ofNat mm))] [(.int (Int32.ofNat mm)), (.int (Int32.ofNat S.2.2.2.2.2))])) t → Steps p.tables e below (T0.setTop (mkF m 0 #[.val (.ref a1), .val (.int (Int32.ofNat mm))] [])) t := fun t k => P0 t (by
    refine XS.aloadN X0.here hx rfl (hb hby d10_0) rfl rfl ?_
    show Steps p.tables e below (T0.setTop (mkF m 1 #[.val (.ref a1), .val (.int (Int32.ofNat mm))] [(.ref a1)])) _
    refine st1113 _ ?_
    show Steps p.tables e below (T1113.setTop (mkF m 4 #[.val (.ref a1), .val (.int (Int32.ofNat mm))] [(.int (Int32.ofNat S.2.2.2.2.2))])) _
    refine XS.iloadN X1113.here hx rfl (hb hby d10_4) rfl ?_
    show Steps p.tables e below (T1113.setTop (mkF m 5 #[.val (.ref a1), .val (.int (Int32.ofNat mm))] [(.int (Int32.ofNat mm)), (.int (Int32.ofNat S.2.2.2.2.2))])) _
    exact k)
  by_cases h5 : (Int32.ofNat mm) < (Int32.ofNat S.2.2.2.2.2)
  · cases nn with
    | zero => exact absurd ((own_ltI mm (by omega) S.2.2.2.2.2 (by omega)).mp h5) (by omega)
    | succ nn =>
      obtain ⟨ka, hka⟩ : ∃ q, q = S.2.2.2.2.2 - 1 := ⟨_, rfl⟩
      have hkb : S.2.2.2.2.2 = ka + 1 := by omega
      obtain ⟨T1115, X1115, e1115, st1115⟩ := getF X1113 hx hZ hown (host := "") (Or.inl (hw _ (List.mem_of_getElem? (i := 53) rfl))) Via.refl e1113 F0_logged (g := (mkF m 10 #[.val (.ref a1), .val (.int (Int32.ofNat mm))] [(.ref a1), (.ref a1)])) rfl rfl (hb hby d10_10)
      obtain ⟨T1116, h1116, X1116, e1116, W1116, st1116⟩ := putF X1115 hx hZ hown (host := "") (Or.inl (hw _ (List.mem_of_getElem? (i := 53) rfl))) Via.refl e1115 F0_logged E0 (Or.inl (hw _ (List.mem_of_getElem? (i := 54) rfl))) (hw _ (List.mem_of_getElem? (i := 6) rfl)) (ty := .int) (by decide) rfl rfl (g := (mkF m 15 #[.val (.ref a1), .val (.int (Int32.ofNat mm))] [(.int ((Int32.ofNat S.2.2.2.2.2) - (1 : Int32))), (.ref a1)])) rfl rfl (hb hby d10_15)
      have Fw1116 := F0_logged.same W1116
      have c1117_0 := E0.wr W1116
      have c1117_1 := F0_room.other W1116 (Or.inr (slot_ne (Or.inr (hw _ (List.mem_of_getElem? (i := 25) rfl))) (Or.inl (hw _ (List.mem_of_getElem? (i := 54) rfl))) (by decide) (t := (.array .double)) (t' := .int) (by decide) (by decide)))
      have c1117_2 := F0_closed.other W1116 (Or.inr (slot_ne (Or.inr (hw _ (List.mem_of_getElem? (i := 28) rfl))) (Or.inl (hw _ (List.mem_of_getElem? (i := 54) rfl))) (by decide) (t := (.array .boolean)) (t' := .int) (by decide) (by decide)))
      have c1117_3 := F0_loggedLink.other W1116 (Or.inr (slot_ne (Or.inr (hw _ (List.mem_of_getElem? (i := 30) rfl))) (Or.inl (hw _ (List.mem_of_getElem? (i := 54) rfl))) (by decide) (t := (.array .int)) (t' := .int) (by decide) (by decide)))
      have c1117_4 := F0_loggedRoom.other W1116 (Or.inr (slot_ne (Or.inr (hw _ (List.mem_of_getElem? (i := 32) rfl))) (Or.inl (hw _ (List.mem_of_getElem? (i := 54) rfl))) (by decide) (t := (.array .double)) (t' := .int) (by decide) (by decide)))
      have c1117_5 := F0_loggedClosed.other W1116 (Or.inr (slot_ne (Or.inr (hw _ (List.mem_of_getElem? (i := 34) rfl))) (Or.inl (hw _ (List.mem_of_getElem? (i := 54) rfl))) (by decide) (t := (.array .boolean)) (t' := .int) (by decide) (by decide)))
      have c1117_7 := V0_ar.other W1116 (Ne.symm ne_a1_ar)
      have c1117_8 := V0_ac.other W1116 (Ne.symm ne_a1_ac)
      have c1117_9 := V0_al.other W1116 (Ne.symm ne_a1_al)
      have c1117_10 := V0_alr.other W1116 (Ne.symm ne_a1_alr)
      have c1117_11 := V0_alc.other W1116 (Ne.symm ne_a1_alc)
      have Z1116 : n0 ≤ h1116.size := Nat.le_trans Z0 (Nat.le_of_eq W1116.size.symm)
      have K1116 : Keep h0 h1116 [a1, ar, ac, al, alr, alc] := K0.wr W1116 (Or.inl (List.mem_of_getElem? (i := 0) rfl))
      have N1116 := Fr.snoc X1116 N0 g_a1
      have Fk : Fld Z h1116 a1 "com/example/tributary/tributary/solver/Rooms" "logged" "I" (.int (Int32.ofNat ka)) := by have q := Fw1116; rwa [hkb, own_pred ka (by omega)] at q
      have hli := OK1.2.2.2.2.2.2.2.1 ka
      obtain ⟨T1118, X1118, e1118, st1118⟩ := getF X1116 hx hZ hown (host := "") (Or.inl (hw _ (List.mem_of_getElem? (i := 24) rfl))) Via.refl e1116 c1117_1 (g := (mkF m 19 #[.val (.ref a1), .val (.int (Int32.ofNat mm))] [(.ref a1)])) rfl rfl (hb hby d10_19)
      obtain ⟨T1119, X1119, e1119, st1119⟩ := getF X1118 hx hZ hown (host := "") (Or.inl (hw _ (List.mem_of_getElem? (i := 29) rfl))) Via.refl e1118 c1117_3 (g := (mkF m 23 #[.val (.ref a1), .val (.int (Int32.ofNat mm))] [(.ref a1), (.ref ar)])) rfl rfl (hb hby d10_23)
      obtain ⟨T1120, X1120, e1120, st1120⟩ := getF X1119 hx hZ hown (host := "") (Or.inl (hw _ (List.mem_of_getElem? (i := 53) rfl))) Via.refl e1119 Fk (g := (mkF m 27 #[.val (.ref a1), .val (.int (Int32.ofNat mm))] [(.ref a1), (.ref al), (.ref ar)])) rfl rfl (hb hby d10_27)
      obtain ⟨cl1121, Ar1121, q1121, S1121, M1121, H1121, G1121⟩ := id c1117_9
      have hin1121 : ¬ ((Int32.ofNat ka) < 0 ∨ cl1121.slots.size ≤ ((Int32.ofNat ka)).toNatClampNeg) := own_in S1121 (n := 8) (by decide) (by decide) (by omega)
      have hat1121 : cl1121.slots[((Int32.ofNat ka)).toNatClampNeg]? = some (.int (Int32.ofNat (S.2.2.1.getD ka 0))) := own_aI H1121 S1121 (n := 8) (by decide) (by decide) (by omega)
      obtain ⟨T1122, X1122, e1122, st1122⟩ := getF X1120 hx hZ hown (host := "") (Or.inl (hw _ (List.mem_of_getElem? (i := 31) rfl))) Via.refl e1120 c1117_4 (g := (mkF m 32 #[.val (.ref a1), .val (.int (Int32.ofNat mm))] [(.ref a1), (.int (Int32.ofNat (S.2.2.1.getD ka 0))), (.ref ar)])) rfl rfl (hb hby d10_32)
      obtain ⟨T1123, X1123, e1123, st1123⟩ := getF X1122 hx hZ hown (host := "") (Or.inl (hw _ (List.mem_of_getElem? (i := 53) rfl))) Via.refl e1122 Fk (g := (mkF m 36 #[.val (.ref a1), .val (.int (Int32.ofNat mm))] [(.ref a1), (.ref alr), (.int (Int32.ofNat (S.2.2.1.getD ka 0))), (.ref ar)])) rfl rfl (hb hby d10_36)
      obtain ⟨cl1124, Ar1124, q1124, S1124, M1124, H1124, G1124⟩ := id c1117_10
      have hin1124 : ¬ ((Int32.ofNat ka) < 0 ∨ cl1124.slots.size ≤ ((Int32.ofNat ka)).toNatClampNeg) := own_in S1124 (n := 8) (by decide) (by decide) (by omega)
      have hat1124 : cl1124.slots[((Int32.ofNat ka)).toNatClampNeg]? = some (.double (FP.l2d (Int64.ofNat (S.2.2.2.1.getD ka 0)))) := own_aD H1124 S1124 (n := 8) (by decide) (by decide) (by omega)
      obtain ⟨cl1125, Ar1125, q1125, S1125, M1125, H1125, G1125⟩ := id c1117_7
      have hin1125 : ¬ ((Int32.ofNat (S.2.2.1.getD ka 0)) < 0 ∨ cl1125.slots.size ≤ ((Int32.ofNat (S.2.2.1.getD ka 0))).toNatClampNeg) := own_in S1125 (n := 2) (by decide) (by decide) (by omega)
      obtain ⟨T1125, h1125, X1125, e1125, W1125, st1125⟩ := stD X1123 hx hZ e1123 Ar1125 (j := (Int32.ofNat (S.2.2.1.getD ka 0))) hin1125 (g := (mkF m 40 #[.val (.ref a1), .val (.int (Int32.ofNat mm))] [(.double (FP.l2d (Int64.ofNat (S.2.2.2.1.getD ka 0)))), (.int (Int32.ofNat (S.2.2.1.getD ka 0))), (.ref ar)])) rfl rfl (hb hby d10_40)
      have V1125 := own_sD rfl (Arv.set Ar1125 q1125 S1125 M1125 H1125 G1125 rfl W1125 (S.2.2.1.getD ka 0) (own_tn (S.2.2.1.getD ka 0) (by omega)) (by rw [own_lenD, OK1.1]; omega))
      have c1126_0 := c1117_0.wr W1125
      have c1126_1 := c1117_1.other W1125 (Or.inl ne_a1_ar)
      have c1126_2 := c1117_2.other W1125 (Or.inl ne_a1_ar)
      have c1126_3 := c1117_3.other W1125 (Or.inl ne_a1_ar)
      have c1126_4 := c1117_4.other W1125 (Or.inl ne_a1_ar)
      have c1126_5 := c1117_5.other W1125 (Or.inl ne_a1_ar)
      have c1126_6 := Fk.other W1125 (Or.inl ne_a1_ar)
      have c1126_8 := c1117_8.other W1125 (Ne.symm ne_ar_ac)
      have c1126_9 := c1117_9.other W1125 (Ne.symm ne_ar_al)
      have c1126_10 := c1117_10.other W1125 (Ne.symm ne_ar_alr)
      have c1126_11 := c1117_11.other W1125 (Ne.symm ne_ar_alc)
      have Z1125 : n0 ≤ h1125.size := Nat.le_trans Z1116 (Nat.le_of_eq W1125.size.symm)
      have K1125 : Keep h0 h1125 [a1, ar, ac, al, alr, alc] := K1116.wr W1125 (Or.inl (List.mem_of_getElem? (i := 1) rfl))
      have N1125 := Fr.snoc X1125 N1116 g_ar
      obtain ⟨T1127, X1127, e1127, st1127⟩ := getF X1125 hx hZ hown (host := "") (Or.inl (hw _ (List.mem_of_getElem? (i := 27) rfl))) Via.refl e1125 c1126_2 (g := (mkF m 42 #[.val (.ref a1), .val (.int (Int32.ofNat mm))] [(.ref a1)])) rfl rfl (hb hby d10_42)
      obtain ⟨T1128, X1128, e1128, st1128⟩ := getF X1127 hx hZ hown (host := "") (Or.inl (hw _ (List.mem_of_getElem? (i := 29) rfl))) Via.refl e1127 c1126_3 (g := (mkF m 46 #[.val (.ref a1), .val (.int (Int32.ofNat mm))] [(.ref a1), (.ref ac)])) rfl rfl (hb hby d10_46)
      obtain ⟨T1129, X1129, e1129, st1129⟩ := getF X1128 hx hZ hown (host := "") (Or.inl (hw _ (List.mem_of_getElem? (i := 53) rfl))) Via.refl e1128 c1126_6 (g := (mkF m 50 #[.val (.ref a1), .val (.int (Int32.ofNat mm))] [(.ref a1), (.ref al), (.ref ac)])) rfl rfl (hb hby d10_50)
      obtain ⟨cl1130, Ar1130, q1130, S1130, M1130, H1130, G1130⟩ := id c1126_9
      have hin1130 : ¬ ((Int32.ofNat ka) < 0 ∨ cl1130.slots.size ≤ ((Int32.ofNat ka)).toNatClampNeg) := own_in S1130 (n := 8) (by decide) (by decide) (by omega)
      have hat1130 : cl1130.slots[((Int32.ofNat ka)).toNatClampNeg]? = some (.int (Int32.ofNat (S.2.2.1.getD ka 0))) := own_aI H1130 S1130 (n := 8) (by decide) (by decide) (by omega)
      obtain ⟨T1131, X1131, e1131, st1131⟩ := getF X1129 hx hZ hown (host := "") (Or.inl (hw _ (List.mem_of_getElem? (i := 33) rfl))) Via.refl e1129 c1126_5 (g := (mkF m 55 #[.val (.ref a1), .val (.int (Int32.ofNat mm))] [(.ref a1), (.int (Int32.ofNat (S.2.2.1.getD ka 0))), (.ref ac)])) rfl rfl (hb hby d10_55)
      obtain ⟨T1132, X1132, e1132, st1132⟩ := getF X1131 hx hZ hown (host := "") (Or.inl (hw _ (List.mem_of_getElem? (i := 53) rfl))) Via.refl e1131 c1126_6 (g := (mkF m 59 #[.val (.ref a1), .val (.int (Int32.ofNat mm))] [(.ref a1), (.ref alc), (.int (Int32.ofNat (S.2.2.1.getD ka 0))), (.ref ac)])) rfl rfl (hb hby d10_59)
      obtain ⟨cl1133, Ar1133, q1133, S1133, M1133, H1133, G1133⟩ := id c1126_11
      have hin1133 : ¬ ((Int32.ofNat ka) < 0 ∨ cl1133.slots.size ≤ ((Int32.ofNat ka)).toNatClampNeg) := own_in S1133 (n := 8) (by decide) (by decide) (by omega)
      have hat1133 : cl1133.slots[((Int32.ofNat ka)).toNatClampNeg]? = some (.int (Int32.ofNat (S.2.2.2.2.1.getD ka 0))) := own_aI H1133 S1133 (n := 8) (by decide) (by decide) (by omega)
      obtain ⟨cl1134, Ar1134, q1134, S1134, M1134, H1134, G1134⟩ := id c1126_8
      have hin1134 : ¬ ((Int32.ofNat (S.2.2.1.getD ka 0)) < 0 ∨ cl1134.slots.size ≤ ((Int32.ofNat (S.2.2.1.getD ka 0))).toNatClampNeg) := own_in S1134 (n := 2) (by decide) (by decide) (by omega)
      obtain ⟨T1134, h1134, X1134, e1134, W1134, st1134⟩ := stZ X1132 hx hZ e1132 Ar1134 (j := (Int32.ofNat (S.2.2.1.getD ka 0))) hin1134 (g := (mkF m 63 #[.val (.ref a1), .val (.int (Int32.ofNat mm))] [(.int (Int32.ofNat (S.2.2.2.2.1.getD ka 0))), (.int (Int32.ofNat (S.2.2.1.getD ka 0))), (.ref ac)])) rfl rfl (hb hby d10_63)
      have V1134 := own_sI (own_nb _ (OK1.2.2.2.2.2.2.2.2.2 ka)) (Arv.set Ar1134 q1134 S1134 M1134 H1134 G1134 (fits_nar_bool _) W1134 (S.2.2.1.getD ka 0) (own_tn (S.2.2.1.getD ka 0) (by omega)) (by rw [own_lenI, OK1.2.1]; omega))
      have c1135_0 := c1126_0.wr W1134
      have c1135_1 := c1126_1.other W1134 (Or.inl ne_a1_ac)
      have c1135_2 := c1126_2.other W1134 (Or.inl ne_a1_ac)
      have c1135_3 := c1126_3.other W1134 (Or.inl ne_a1_ac)
      have c1135_4 := c1126_4.other W1134 (Or.inl ne_a1_ac)
      have c1135_5 := c1126_5.other W1134 (Or.inl ne_a1_ac)
      have c1135_6 := c1126_6.other W1134 (Or.inl ne_a1_ac)
      have c1135_7 := V1125.other W1134 ne_ar_ac
      have c1135_9 := c1126_9.other W1134 (Ne.symm ne_ac_al)
      have c1135_10 := c1126_10.other W1134 (Ne.symm ne_ac_alr)
      have c1135_11 := c1126_11.other W1134 (Ne.symm ne_ac_alc)
      have Z1134 : n0 ≤ h1134.size := Nat.le_trans Z1125 (Nat.le_of_eq W1134.size.symm)
      have K1134 : Keep h0 h1134 [a1, ar, ac, al, alr, alc] := K1125.wr W1134 (Or.inl (List.mem_of_getElem? (i := 2) rfl))
      have N1134 := Fr.snoc X1134 N1125 g_ac
      have P1136 : ∀ t, Steps p.tables e below (T1134.setTop (mkF m 0 #[.val (.ref a1), .val (.int (Int32.ofNat mm))] [])) t → Steps p.tables e below (T0.setTop (mkF m 0 #[.val (.ref a1), .val (.int (Int32.ofNat mm))] [])) t := fun t k => P1114 t (by
        refine XS.icmpNo X1113.here hx rfl (hb hby d10_5) rfl (tlt h5).2.2.2 ?_
        show Steps p.tables e below (T1113.setTop (mkF m 8 #[.val (.ref a1), .val (.int (Int32.ofNat mm))] [])) _
        refine XS.aloadN X1113.here hx rfl (hb hby d10_8) rfl rfl ?_
        show Steps p.tables e below (T1113.setTop (mkF m 9 #[.val (.ref a1), .val (.int (Int32.ofNat mm))] [(.ref a1)])) _
        refine XS.dup X1113.here hx rfl (hb hby d10_9) rfl rfl ?_
        show Steps p.tables e below (T1113.setTop (mkF m 10 #[.val (.ref a1), .val (.int (Int32.ofNat mm))] [(.ref a1), (.ref a1)])) _
        refine st1115 _ ?_
        show Steps p.tables e below (T1115.setTop (mkF m 13 #[.val (.ref a1), .val (.int (Int32.ofNat mm))] [(.int (Int32.ofNat S.2.2.2.2.2)), (.ref a1)])) _
        refine XS.iconst X1115.here hx rfl (hb hby d10_13) ?_
        show Steps p.tables e below (T1115.setTop (mkF m 14 #[.val (.ref a1), .val (.int (Int32.ofNat mm))] [(.int (1 : Int32)), (.int (Int32.ofNat S.2.2.2.2.2)), (.ref a1)])) _
        refine XS.isub X1115.here hx rfl (hb hby d10_14) rfl ?_
        show Steps p.tables e below (T1115.setTop (mkF m 15 #[.val (.ref a1), .val (.int (Int32.ofNat mm))] [(.int ((Int32.ofNat S.2.2.2.2.2) - (1 : Int32))), (.ref a1)])) _
        refine st1116 _ ?_
        show Steps p.tables e below (T1116.setTop (mkF m 18 #[.val (.ref a1), .val (.int (Int32.ofNat mm))] [])) _
        refine XS.aloadN X1116.here hx rfl (hb hby d10_18) rfl rfl ?_
        show Steps p.tables e below (T1116.setTop (mkF m 19 #[.val (.ref a1), .val (.int (Int32.ofNat mm))] [(.ref a1)])) _
        refine st1118 _ ?_
        show Steps p.tables e below (T1118.setTop (mkF m 22 #[.val (.ref a1), .val (.int (Int32.ofNat mm))] [(.ref ar)])) _
        refine XS.aloadN X1118.here hx rfl (hb hby d10_22) rfl rfl ?_
        show Steps p.tables e below (T1118.setTop (mkF m 23 #[.val (.ref a1), .val (.int (Int32.ofNat mm))] [(.ref a1), (.ref ar)])) _
        refine st1119 _ ?_
        show Steps p.tables e below (T1119.setTop (mkF m 26 #[.val (.ref a1), .val (.int (Int32.ofNat mm))] [(.ref al), (.ref ar)])) _
        refine XS.aloadN X1119.here hx rfl (hb hby d10_26) rfl rfl ?_
        show Steps p.tables e below (T1119.setTop (mkF m 27 #[.val (.ref a1), .val (.int (Int32.ofNat mm))] [(.ref a1), (.ref al), (.ref ar)])) _
        refine st1120 _ ?_
        show Steps p.tables e below (T1120.setTop (mkF m 30 #[.val (.ref a1), .val (.int (Int32.ofNat mm))] [(.int (Int32.ofNat ka)), (.ref al), (.ref ar)])) _
        refine X1120.iaload hx (j := (Int32.ofNat ka)) (v := (.int (Int32.ofNat (S.2.2.1.getD ka 0)))) (by rw [e1120]; exact Ar1121.1) (State.isArrayOf_alike hZ.alike Ar1121.2.1) Ar1121.2.2 hin1121 hat1121 (g := (mkF m 30 #[.val (.ref a1), .val (.int (Int32.ofNat mm))] [(.int (Int32.ofNat ka)), (.ref al), (.ref ar)])) rfl rfl (hb hby d10_30) _ ?_
        show Steps p.tables e below (T1120.setTop (mkF m 31 #[.val (.ref a1), .val (.int (Int32.ofNat mm))] [(.int (Int32.ofNat (S.2.2.1.getD ka 0))), (.ref ar)])) _
        refine XS.aloadN X1120.here hx rfl (hb hby d10_31) rfl rfl ?_
        show Steps p.tables e below (T1120.setTop (mkF m 32 #[.val (.ref a1), .val (.int (Int32.ofNat mm))] [(.ref a1), (.int (Int32.ofNat (S.2.2.1.getD ka 0))), (.ref ar)])) _
        refine st1122 _ ?_
        show Steps p.tables e below (T1122.setTop (mkF m 35 #[.val (.ref a1), .val (.int (Int32.ofNat mm))] [(.ref alr), (.int (Int32.ofNat (S.2.2.1.getD ka 0))), (.ref ar)])) _
        refine XS.aloadN X1122.here hx rfl (hb hby d10_35) rfl rfl ?_
        show Steps p.tables e below (T1122.setTop (mkF m 36 #[.val (.ref a1), .val (.int (Int32.ofNat mm))] [(.ref a1), (.ref alr), (.int (Int32.ofNat (S.2.2.1.getD ka 0))), (.ref ar)])) _
        refine st1123 _ ?_
        show Steps p.tables e below (T1123.setTop (mkF m 39 #[.val (.ref a1), .val (.int (Int32.ofNat mm))] [(.int (Int32.ofNat ka)), (.ref alr), (.int (Int32.ofNat (S.2.2.1.getD ka 0))), (.ref ar)])) _
        refine X1123.daload hx (j := (Int32.ofNat ka)) (v := (.double (FP.l2d (Int64.ofNat (S.2.2.2.1.getD ka 0))))) (by rw [e1123]; exact Ar1124.1) (State.isArrayOf_alike hZ.alike Ar1124.2.1) Ar1124.2.2 hin1124 hat1124 (g := (mkF m 39 #[.val (.ref a1), .val (.int (Int32.ofNat mm))] [(.int (Int32.ofNat ka)), (.ref alr), (.int (Int32.ofNat (S.2.2.1.getD ka 0))), (.ref ar)])) rfl rfl (hb hby d10_39) _ ?_
        show Steps p.tables e below (T1123.setTop (mkF m 40 #[.val (.ref a1), .val (.int (Int32.ofNat mm))] [(.double (FP.l2d (Int64.ofNat (S.2.2.2.1.getD ka 0)))), (.int (Int32.ofNat (S.2.2.1.getD ka 0))), (.ref ar)])) _
        refine st1125 _ ?_
        show Steps p.tables e below (T1125.setTop (mkF m 41 #[.val (.ref a1), .val (.int (Int32.ofNat mm))] [])) _
        refine XS.aloadN X1125.here hx rfl (hb hby d10_41) rfl rfl ?_
        show Steps p.tables e below (T1125.setTop (mkF m 42 #[.val (.ref a1), .val (.int (Int32.ofNat mm))] [(.ref a1)])) _
        refine st1127 _ ?_
        show Steps p.tables e below (T1127.setTop (mkF m 45 #[.val (.ref a1), .val (.int (Int32.ofNat mm))] [(.ref ac)])) _
        refine XS.aloadN X1127.here hx rfl (hb hby d10_45) rfl rfl ?_
        show Steps p.tables e below (T1127.setTop (mkF m 46 #[.val (.ref a1), .val (.int (Int32.ofNat mm))] [(.ref a1), (.ref ac)])) _
        refine st1128 _ ?_
        show Steps p.tables e below (T1128.setTop (mkF m 49 #[.val (.ref a1), .val (.int (Int32.ofNat mm))] [(.ref al), (.ref ac)])) _
        refine XS.aloadN X1128.here hx rfl (hb hby d10_49) rfl rfl ?_
        show Steps p.tables e below (T1128.setTop (mkF m 50 #[.val (.ref a1), .val (.int (Int32.ofNat mm))] [(.ref a1), (.ref al), (.ref ac)])) _
        refine st1129 _ ?_
        show Steps p.tables e below (T1129.setTop (mkF m 53 #[.val (.ref a1), .val (.int (Int32.ofNat mm))] [(.int (Int32.ofNat ka)), (.ref al), (.ref ac)])) _
        refine X1129.iaload hx (j := (Int32.ofNat ka)) (v := (.int (Int32.ofNat (S.2.2.1.getD ka 0)))) (by rw [e1129]; exact Ar1130.1) (State.isArrayOf_alike hZ.alike Ar1130.2.1) Ar1130.2.2 hin1130 hat1130 (g := (mkF m 53 #[.val (.ref a1), .val (.int (Int32.ofNat mm))] [(.int (Int32.ofNat ka)), (.ref al), (.ref ac)])) rfl rfl (hb hby d10_53) _ ?_
        show Steps p.tables e below (T1129.setTop (mkF m 54 #[.val (.ref a1), .val (.int (Int32.ofNat mm))] [(.int (Int32.ofNat (S.2.2.1.getD ka 0))), (.ref ac)])) _
        refine XS.aloadN X1129.here hx rfl (hb hby d10_54) rfl rfl ?_
        show Steps p.tables e below (T1129.setTop (mkF m 55 #[.val (.ref a1), .val (.int (Int32.ofNat mm))] [(.ref a1), (.int (Int32.ofNat (S.2.2.1.getD ka 0))), (.ref ac)])) _
        refine st1131 _ ?_
        show Steps p.tables e below (T1131.setTop (mkF m 58 #[.val (.ref a1), .val (.int (Int32.ofNat mm))] [(.ref alc), (.int (Int32.ofNat (S.2.2.1.getD ka 0))), (.ref ac)])) _
        refine XS.aloadN X1131.here hx rfl (hb hby d10_58) rfl rfl ?_
        show Steps p.tables e below (T1131.setTop (mkF m 59 #[.val (.ref a1), .val (.int (Int32.ofNat mm))] [(.ref a1), (.ref alc), (.int (Int32.ofNat (S.2.2.1.getD ka 0))), (.ref ac)])) _
        refine st1132 _ ?_
        show Steps p.tables e below (T1132.setTop (mkF m 62 #[.val (.ref a1), .val (.int (Int32.ofNat mm))] [(.int (Int32.ofNat ka)), (.ref alc), (.int (Int32.ofNat (S.2.2.1.getD ka 0))), (.ref ac)])) _
        refine X1132.baloadBooleans hx (j := (Int32.ofNat ka)) (v := (.int (Int32.ofNat (S.2.2.2.2.1.getD ka 0)))) (by rw [e1132]; exact Ar1133.1) (State.isArrayOf_alike hZ.alike Ar1133.2.1) Ar1133.2.2 hin1133 hat1133 (g := (mkF m 62 #[.val (.ref a1), .val (.int (Int32.ofNat mm))] [(.int (Int32.ofNat ka)), (.ref alc), (.int (Int32.ofNat (S.2.2.1.getD ka 0))), (.ref ac)])) rfl rfl (hb hby d10_62) _ ?_
        show Steps p.tables e below (T1132.setTop (mkF m 63 #[.val (.ref a1), .val (.int (Int32.ofNat mm))] [(.int (Int32.ofNat (S.2.2.2.2.1.getD ka 0))), (.int (Int32.ofNat (S.2.2.1.getD ka 0))), (.ref ac)])) _
        refine st1134 _ ?_
        show Steps p.tables e below (T1134.setTop (mkF m 64 #[.val (.ref a1), .val (.int (Int32.ofNat mm))] [])) _
        refine XS.goto X1134.here hx rfl (pc0 := 64) (pc' := 0) rfl (hb hby d10_64) (by decide) (by decide) ?_
        show Steps p.tables e below (T1134.setTop (mkF m 0 #[.val (.ref a1), .val (.int (Int32.ofNat mm))] [])) _
        exact k)
      have Bu : own_St Z h1134 a1 ar ac al alr alc k1 k2 k3 k4 k5 (own_un S) := by unfold own_un; rw [← hka]; exact ⟨c1135_0, c1135_1, c1135_2, c1135_3, c1135_4, c1135_5, c1135_6, c1135_7, V1134, c1135_9, c1135_10, c1135_11⟩
      obtain ⟨T', h', locs', X', e', N', K', B', st⟩ := own_undo a1 ar ac al alr alc k1 k2 k3 k4 k5 mm hx hZ hw hby hml hown D1 G1 nn (own_un S) T1134 h1134 _ (show S.2.2.2.2.2 - 1 = mm + nn by omega) (show S.2.2.2.2.2 - 1 ≤ 8 by omega) (own_ok_un OK1) X1134 e1134 Bu N1134 Z1134
      exact ⟨T', h', locs', X', e', N', K1134.trans K' (allS (Or.inl (List.mem_of_getElem? (i := 0) rfl)) (allS (Or.inl (List.mem_of_getElem? (i := 1) rfl)) (allS (Or.inl (List.mem_of_getElem? (i := 2) rfl)) (allS (Or.inl (List.mem_of_getElem? (i := 3) rfl)) (allS (Or.inl (List.mem_of_getElem? (i := 4) rfl)) (allS (Or.inl (List.mem_of_getElem? (i := 5) rfl)) all0)))))), B', fun t k => P1136 t (st t k)⟩
  · have P1137 : ∀ t, Steps p.tables e below (T1113.setTop (mkF m 67 #[.val (.ref a1), .val (.int (Int32.ofNat mm))] [])) t → Steps p.tables e below (T0.setTop (mkF m 0 #[.val (.ref a1), .val (.int (Int32.ofNat mm))] [])) t := fun t k => P1114 t (by
      refine XS.icmpYes X1113.here hx rfl (pc0 := 5) (pc' := 67) rfl (hb hby d10_5) rfl (flt h5).2.2.2 (by decide) (by decide) ?_
      show Steps p.tables e below (T1113.setTop (mkF m 67 #[.val (.ref a1), .val (.int (Int32.ofNat mm))] [])) _
      exact k)
    cases nn with
    | zero => exact ⟨T1113, h0, locs, X1113, e1113, N0, K0, B1, P1137⟩
    | succ nn => exact absurd ((own_ltI mm (by omega) S.2.2.2.2.2 (by omega)).mpr (by omega)) h5
theorem ef_undo (m : MethodId) (x0 : Addr) (x1 : Int32) : entryFrame m #[(.ref x0), (.int x1)] 2 = mkF m 0 #[.val (.ref x0), .val (.int x1)] [] := by first | (simp [entryFrame, mkF, argsToLocals, Value.category]; done) | rfl
def Q_undo (Z : State) (a1 : Addr) (ar : Addr) (ac : Addr) (al : Addr) (alr : Addr) (alc : Addr) (k1 : ClassId) (k2 : ClassId) (k3 : ClassId) (k4 : ClassId) (k5 : ClassId) (S : own_S) (mm : Nat) (h0 : Heap) (n0 : Nat) (v : Option Value) (h : Heap) (L : List Loc) : Prop := v = none ∧ Fr n0 L ∧ Keep h0 h [a1, ar, ac, al, alr, alc] ∧ own_St Z h a1 ar ac al alr alc k1 k2 k3 k4 k5 (own_uns (S.2.2.2.2.2 - mm) S)
theorem d10_67 : decode prog_52_method_6_code 67 = .ok (.return_, 1) := by decide +kernel
set_option maxRecDepth 65536 in
set_option maxHeartbeats 40000000 in
theorem rm_undo (l : Launch) (Z : State) (a0 : Array Value) (hw : ∀ d ∈ tables_1, d.before a0 Z = true) (ws : List Jvm.Cond) (a1 : Addr) (ar : Addr) (ac : Addr) (al : Addr) (alr : Addr) (alc : Addr) (k1 : ClassId) (k2 : ClassId) (k3 : ClassId) (k4 : ClassId) (k5 : ClassId) (S : own_S) (mm : Nat) (h0 : Heap) (n0 : Nat) (Z0 : n0 ≤ h0.size) (B1 : own_St Z h0 a1 ar ac al alr alc k1 k2 k3 k4 k5 S) (D1 : own_D a1 ar ac al alr alc) (G1 : own_G n0 a1 ar ac al alr alc) (OK1 : own_ok S) (hmm : mm ≤ S.2.2.2.2.2) (hk8 : S.2.2.2.2.2 ≤ 8) :
    MetFree l (⟨"com/example/tributary/tributary/solver/Rooms", "undo", "(I)V"⟩ : MethodName) (head1 (Jvm.Cond.code (⟨"com/example/tributary/tributary/solver/Rooms", "undo", "(I)V"⟩ : MethodName) prog_52_method_6_code 2 none :: ws) ({ frames := 0, cells := 0, slots := 0, locals := 0 } : Room)) (fun a U => a = #[(.ref a1), (.int (Int32.ofNat mm))] ∧ Z.Warmed39 U.vm ∧ U.heap = h0) (fun _ _ _ _ _ => True) (fun _ U o U' => ∃ v L, o = .returned v ∧ Q_undo Z a1 ar ac al alr alc k1 k2 k3 k4 k5 S mm h0 n0 v U'.heap L ∧ FrameEnd U o U' L ({ frames := 0, cells := 0, slots := 0, locals := 0 } : Room).cells ({ frames := 0, cells := 0, slots := 0, locals := 0 } : Room).slots) := by
  refine MetFree.of_bodySF (plainFor_of_name pn_1) hisR ?_
  intro p e s m args below meth c s₁ Bd hml0 hP hK
  obtain ⟨rfl, hZ, hh⟩ := hP
  have hx := Bd.exec
  have hby := Bd.bytes
  have hml : c.maxLocals = 2 := hml0
  have hown : s.vm.findClass "com/example/tributary/tributary/solver/Rooms" = some m.cls := findClass_of_methodNamed Bd.named
  have hnm := (name_of_methodNamed Bd.named Bd.method).1
  have X0 : Stand p l e ({ frames := 0, cells := 0, slots := 0, locals := 0 } : Room) s m #[(.ref a1), (.int (Int32.ofNat mm))] below meth c s₁ [] 0 0 := Stand.of_body Bd
  have e0 : s₁.heap = h0 := by rw [← hh, Bd.state]; rfl
  have N0 := Fr.nil n0
  have K0 : Keep h0 h0 [a1, ar, ac, al, alr, alc] := Keep.refl h0 [a1, ar, ac, al, alr, alc]
  have P0 : ∀ t, Steps p.tables e below (s₁.setTop (mkF m 0 #[.val (.ref a1), .val (.int (Int32.ofNat mm))] [])) t → Steps p.tables e below (s₁.setTop (entryFrame m #[(.ref a1), (.int (Int32.ofNat mm))] 2)) t := fun t k => castTop (ef_undo m a1 (Int32.ofNat mm)) k
  obtain ⟨TA, hA, LA, XA, eA, NA, KA, BA, stA⟩ := own_undo a1 ar ac al alr alc k1 k2 k3 k4 k5 mm hx hZ hw hby hml hown D1 G1 (S.2.2.2.2.2 - mm) S s₁ h0 _ (by omega) hk8 OK1 X0 e0 B1 N0 Z0
  have PA : ∀ t, Steps p.tables e below (TA.setTop (mkF m 67 #[.val (.ref a1), .val (.int (Int32.ofNat mm))] [])) t → Steps p.tables e below (s₁.setTop (entryFrame m #[(.ref a1), (.int (Int32.ofNat mm))] 2)) t := fun t k => P0 t (stA t k)
  obtain ⟨fs, hr, hrun, hended, hW, hsame⟩ := XA.leave (v := none) (fun _ => rfl)
  refine ⟨_, _, PA _ ?_, hrun, hended, _, _, rfl, ?_, ⟨_, rfl⟩, hW, hsame.mono (by decide) (by decide)⟩
  · exact XA.returnOut hx Bd.returns (hb hby d10_67) hr
  · show Q_undo Z a1 ar ac al alr alc k1 k2 k3 k4 k5 S mm h0 n0 _ TA.heap _
    rw [eA]
    exact ⟨rfl, NA, KA, BA⟩
theorem ef_route (m : MethodId) (x0 : Int32) : entryFrame m #[(.int x0)] 1 = mkF m 0 #[.val (.int x0)] [] := by first | (simp [entryFrame, mkF, argsToLocals, Value.category]; done) | rfl
def Q_route (Z : State) (u1 : Int32) (h0 : Heap) (n0 : Nat) (v : Option Value) (h : Heap) (L : List Loc) : Prop := ∃ (tr : Addr) (kt : ClassId), v = some (.ref tr) ∧ Fr n0 L ∧ Keep h0 h [] ∧ h0.size ≤ tr ∧ own_rt Z h tr kt
theorem pn_2 : plainName "com/example/tributary/tributary/solver/RoomsUndoPinLaw" = true := by first | (simp [plainName, overriddenIn]; done) | decide +kernel
theorem d1_0 : decode method_2_code 0 = .ok (.iload_n 0, 1) := by decide +kernel
theorem d1_1 : decode method_2_code 1 = .ok (.ifCond .ne 11, 3) := by decide +kernel
theorem d1_4 : decode method_2_code 4 = .ok (.iconst 1, 1) := by decide +kernel
theorem d1_5 : decode method_2_code 5 = .ok (.newarray .int, 2) := by decide +kernel
theorem d1_7 : decode method_2_code 7 = .ok (.dup, 1) := by decide +kernel
theorem d1_8 : decode method_2_code 8 = .ok (.iconst 0, 1) := by decide +kernel
theorem d1_9 : decode method_2_code 9 = .ok (.iconst 0, 1) := by decide +kernel
theorem d1_10 : decode method_2_code 10 = .ok (.iastore, 1) := by decide +kernel
theorem d1_11 : decode method_2_code 11 = .ok (.areturn, 1) := by decide +kernel
theorem d1_12 : decode method_2_code 12 = .ok (.iload_n 0, 1) := by decide +kernel
theorem d1_13 : decode method_2_code 13 = .ok (.iconst 1, 1) := by decide +kernel
theorem d1_14 : decode method_2_code 14 = .ok (.if_icmp .ne 11, 3) := by decide +kernel
theorem d1_17 : decode method_2_code 17 = .ok (.iconst 1, 1) := by decide +kernel
theorem d1_18 : decode method_2_code 18 = .ok (.newarray .int, 2) := by decide +kernel
theorem d1_20 : decode method_2_code 20 = .ok (.dup, 1) := by decide +kernel
theorem d1_21 : decode method_2_code 21 = .ok (.iconst 0, 1) := by decide +kernel
theorem d1_22 : decode method_2_code 22 = .ok (.iconst 1, 1) := by decide +kernel
theorem d1_23 : decode method_2_code 23 = .ok (.iastore, 1) := by decide +kernel
theorem d1_24 : decode method_2_code 24 = .ok (.areturn, 1) := by decide +kernel
theorem d1_25 : decode method_2_code 25 = .ok (.iload_n 0, 1) := by decide +kernel
theorem d1_26 : decode method_2_code 26 = .ok (.iconst 2, 1) := by decide +kernel
theorem d1_27 : decode method_2_code 27 = .ok (.if_icmp .ne 15, 3) := by decide +kernel
theorem d1_30 : decode method_2_code 30 = .ok (.iconst 2, 1) := by decide +kernel
theorem d1_31 : decode method_2_code 31 = .ok (.newarray .int, 2) := by decide +kernel
theorem d1_33 : decode method_2_code 33 = .ok (.dup, 1) := by decide +kernel
theorem d1_34 : decode method_2_code 34 = .ok (.iconst 0, 1) := by decide +kernel
theorem d1_35 : decode method_2_code 35 = .ok (.iconst 0, 1) := by decide +kernel
theorem d1_36 : decode method_2_code 36 = .ok (.iastore, 1) := by decide +kernel
theorem d1_37 : decode method_2_code 37 = .ok (.dup, 1) := by decide +kernel
theorem d1_38 : decode method_2_code 38 = .ok (.iconst 1, 1) := by decide +kernel
theorem d1_39 : decode method_2_code 39 = .ok (.iconst 1, 1) := by decide +kernel
theorem d1_40 : decode method_2_code 40 = .ok (.iastore, 1) := by decide +kernel
theorem d1_41 : decode method_2_code 41 = .ok (.areturn, 1) := by decide +kernel
theorem d1_42 : decode method_2_code 42 = .ok (.iconst 2, 1) := by decide +kernel
theorem d1_43 : decode method_2_code 43 = .ok (.newarray .int, 2) := by decide +kernel
theorem d1_45 : decode method_2_code 45 = .ok (.dup, 1) := by decide +kernel
theorem d1_46 : decode method_2_code 46 = .ok (.iconst 0, 1) := by decide +kernel
theorem d1_47 : decode method_2_code 47 = .ok (.iconst 1, 1) := by decide +kernel
theorem d1_48 : decode method_2_code 48 = .ok (.iastore, 1) := by decide +kernel
theorem d1_49 : decode method_2_code 49 = .ok (.dup, 1) := by decide +kernel
theorem d1_50 : decode method_2_code 50 = .ok (.iconst 1, 1) := by decide +kernel
theorem d1_51 : decode method_2_code 51 = .ok (.iconst 0, 1) := by decide +kernel
theorem d1_52 : decode method_2_code 52 = .ok (.iastore, 1) := by decide +kernel
theorem d1_53 : decode method_2_code 53 = .ok (.areturn, 1) := by decide +kernel
set_option maxRecDepth 65536 in
set_option maxHeartbeats 40000000 in
theorem rm_route (l : Launch) (Z : State) (a0 : Array Value) (hw : ∀ d ∈ tables_1, d.before a0 Z = true) (ws : List Jvm.Cond) (u1 : Int32) (h0 : Heap) (n0 : Nat) (Z0 : n0 ≤ h0.size) :
    MetFree l (⟨"com/example/tributary/tributary/solver/RoomsUndoPinLaw", "route", "(I)[I"⟩ : MethodName) (head1 (Jvm.Cond.code (⟨"com/example/tributary/tributary/solver/RoomsUndoPinLaw", "route", "(I)[I"⟩ : MethodName) method_2_code 1 (some (.array .int)) :: ws) ({ frames := 0, cells := 1, slots := 2, locals := 0 } : Room)) (fun a U => a = #[(.int u1)] ∧ Z.Warmed39 U.vm ∧ U.heap = h0) (fun _ _ _ _ _ => True) (fun _ U o U' => ∃ v L, o = .returned v ∧ Q_route Z u1 h0 n0 v U'.heap L ∧ FrameEnd U o U' L ({ frames := 0, cells := 1, slots := 2, locals := 0 } : Room).cells ({ frames := 0, cells := 1, slots := 2, locals := 0 } : Room).slots) := by
  refine MetFree.of_bodySF (plainFor_of_name pn_2) hisR ?_
  intro p e s m args below meth c s₁ Bd hml0 hP hK
  obtain ⟨rfl, hZ, hh⟩ := hP
  have hx := Bd.exec
  have hby := Bd.bytes
  have hml : c.maxLocals = 1 := hml0
  have hown : s.vm.findClass "com/example/tributary/tributary/solver/RoomsUndoPinLaw" = some m.cls := findClass_of_methodNamed Bd.named
  have hnm := (name_of_methodNamed Bd.named Bd.method).1
  have X0 : Stand p l e ({ frames := 0, cells := 1, slots := 2, locals := 0 } : Room) s m #[(.int u1)] below meth c s₁ [] 0 0 := Stand.of_body Bd
  have e0 : s₁.heap = h0 := by rw [← hh, Bd.state]; rfl
  have N0 := Fr.nil n0
  have K0 : Keep h0 h0 [] := Keep.refl h0 []
  have P0 : ∀ t, Steps p.tables e below (s₁.setTop (mkF m 0 #[.val (.int u1)] [])) t → Steps p.tables e below (s₁.setTop (entryFrame m #[(.int u1)] 1)) t := fun t k => castTop (ef_route m u1) k
  have P1138 : ∀ t, Steps p.tables e below (s₁.setTop (mkF m 1 #[.val (.int u1)] [(.int u1)])) t → Steps p.tables e below (s₁.setTop (entryFrame m #[(.int u1)] 1)) t := fun t k => P0 t (by
    refine XS.iloadN X0.here hx rfl (hb hby d1_0) rfl ?_
    show Steps p.tables e below (s₁.setTop (mkF m 1 #[.val (.int u1)] [(.int u1)])) _
    exact k)
  by_cases h1 : u1 = (0 : Int32)
  · obtain ⟨T1139, h1139, k1139, X1139, e1139, E1139, A1139, st1139⟩ := newP X0 hx hZ (hw _ (List.mem_of_getElem? (i := 0) rfl)) e0 (g := (mkF m 5 #[.val (.int u1)] [(.int (1 : Int32))])) rfl (hb hby d1_5) rfl (by decide) (cap := 1) (by decide) (by decide) (by decide) (by decide)
    obtain ⟨b1139, g1139⟩ : ∃ z, z = h0.size := ⟨_, rfl⟩
    rw [← g1139] at A1139 st1139
    have g_b1139 : n0 ≤ b1139 := Nat.le_trans Z0 (Nat.le_of_eq g1139.symm)
    have sz_b1139 : h0.size ≤ b1139 := Nat.le_trans K0.1 (Nat.le_of_eq g1139.symm)
    have Z1139 : n0 ≤ h1139.size := Nat.le_trans Z0 E1139.1
    have K1139 : Keep h0 h1139 [] := K0.ext E1139
    have V1139 : Arv Z h1139 b1139 k1139 .int (1 : Int32) [(.int (0 : Int32))] (.int (0 : Int32)) := (Arv.new A1139 (by decide)).pad (pad_rep [] (.int (0 : Int32)) 1)
    obtain ⟨cl1141, Ar1141, q1141, S1141, M1141, H1141, G1141⟩ := id V1139
    have hin1141 : ¬ ((0 : Int32) < 0 ∨ cl1141.slots.size ≤ ((0 : Int32)).toNatClampNeg) := inb_of S1141 ⟨by decide, by decide⟩
    obtain ⟨T1141, h1141, X1141, e1141, W1141, st1141⟩ := stI X1139 hx hZ e1139 Ar1141 (j := (0 : Int32)) hin1141 (g := (mkF m 10 #[.val (.int u1)] [(.int (0 : Int32)), (.int (0 : Int32)), (.ref b1139), (.ref b1139)])) rfl rfl (hb hby d1_10)
    have V1141 := Arv.set Ar1141 q1141 S1141 M1141 H1141 G1141 rfl W1141 0 rfl (Nat.le_of_ble_eq_true rfl)
    have Z1141 : n0 ≤ h1141.size := Nat.le_trans Z1139 (Nat.le_of_eq W1141.size.symm)
    have K1141 : Keep h0 h1141 [] := K1139.wr W1141 (Or.inr sz_b1139)
    have N1141 := Fr.snoc X1141 N0 g_b1139
    have P1143 : ∀ t, Steps p.tables e below (T1141.setTop (mkF m 11 #[.val (.int u1)] [(.ref b1139)])) t → Steps p.tables e below (s₁.setTop (entryFrame m #[(.int u1)] 1)) t := fun t k => P1138 t (by
      refine XS.ifNo X0.here hx rfl (hb hby d1_1) rfl ((if0 _ _).trans (teq h1).2) ?_
      show Steps p.tables e below (s₁.setTop (mkF m 4 #[.val (.int u1)] [])) _
      refine XS.iconst X0.here hx rfl (hb hby d1_4) ?_
      show Steps p.tables e below (s₁.setTop (mkF m 5 #[.val (.int u1)] [(.int (1 : Int32))])) _
      refine st1139 _ ?_
      show Steps p.tables e below (T1139.setTop (mkF m 7 #[.val (.int u1)] [(.ref b1139)])) _
      refine XS.dup X1139.here hx rfl (hb hby d1_7) rfl rfl ?_
      show Steps p.tables e below (T1139.setTop (mkF m 8 #[.val (.int u1)] [(.ref b1139), (.ref b1139)])) _
      refine XS.iconst X1139.here hx rfl (hb hby d1_8) ?_
      show Steps p.tables e below (T1139.setTop (mkF m 9 #[.val (.int u1)] [(.int (0 : Int32)), (.ref b1139), (.ref b1139)])) _
      refine XS.iconst X1139.here hx rfl (hb hby d1_9) ?_
      show Steps p.tables e below (T1139.setTop (mkF m 10 #[.val (.int u1)] [(.int (0 : Int32)), (.int (0 : Int32)), (.ref b1139), (.ref b1139)])) _
      refine st1141 _ ?_
      show Steps p.tables e below (T1141.setTop (mkF m 11 #[.val (.int u1)] [(.ref b1139)])) _
      exact k)
    obtain ⟨fs, hr, hrun, hended, hW, hsame⟩ := X1141.leave (v := some (.ref b1139)) (fun h => by rw [Bd.returns] at h; cases h)
    refine ⟨_, _, P1143 _ ?_, hrun, hended, _, _, rfl, ?_, ⟨_, rfl⟩, hW, hsame.mono (by decide) (by decide)⟩
    · jvm_step X1141.here [X1141.here.top, hx, (hb hby d1_11), X1141.method', Bd.returns, Value.isRef, FieldType.isReference]
      first | (intro acts; rw [hr _ acts rfl rfl rfl]) | rw [hr _ _ rfl rfl rfl]
      exact Steps.refl _
    · show Q_route Z u1 h0 n0 _ T1141.heap _
      rw [e1141]
      exact ⟨b1139, k1139, rfl, N1141, K1141, sz_b1139, Or.inl ⟨0, by decide, V1141⟩⟩
  · have P1144 : ∀ t, Steps p.tables e below (s₁.setTop (mkF m 14 #[.val (.int u1)] [(.int (1 : Int32)), (.int u1)])) t → Steps p.tables e below (s₁.setTop (entryFrame m #[(.int u1)] 1)) t := fun t k => P1138 t (by
      refine XS.ifYes X0.here hx rfl (pc0 := 1) (pc' := 12) rfl (hb hby d1_1) rfl ((if0 _ _).trans (feq h1).2) (by decide) (by decide) ?_
      show Steps p.tables e below (s₁.setTop (mkF m 12 #[.val (.int u1)] [])) _
      refine XS.iloadN X0.here hx rfl (hb hby d1_12) rfl ?_
      show Steps p.tables e below (s₁.setTop (mkF m 13 #[.val (.int u1)] [(.int u1)])) _
      refine XS.iconst X0.here hx rfl (hb hby d1_13) ?_
      show Steps p.tables e below (s₁.setTop (mkF m 14 #[.val (.int u1)] [(.int (1 : Int32)), (.int u1)])) _
      exact k)
    by_cases h14 : u1 = (1 : Int32)
    · obtain ⟨T1145, h1145, k1145, X1145, e1145, E1145, A1145, st1145⟩ := newP X0 hx hZ (hw _ (List.mem_of_getElem? (i := 0) rfl)) e0 (g := (mkF m 18 #[.val (.int u1)] [(.int (1 : Int32))])) rfl (hb hby d1_18) rfl (by decide) (cap := 1) (by decide) (by decide) (by decide) (by decide)
      obtain ⟨b1145, g1145⟩ : ∃ z, z = h0.size := ⟨_, rfl⟩
      rw [← g1145] at A1145 st1145
      have g_b1145 : n0 ≤ b1145 := Nat.le_trans Z0 (Nat.le_of_eq g1145.symm)
      have sz_b1145 : h0.size ≤ b1145 := Nat.le_trans K0.1 (Nat.le_of_eq g1145.symm)
      have Z1145 : n0 ≤ h1145.size := Nat.le_trans Z0 E1145.1
      have K1145 : Keep h0 h1145 [] := K0.ext E1145
      have V1145 : Arv Z h1145 b1145 k1145 .int (1 : Int32) [(.int (0 : Int32))] (.int (0 : Int32)) := (Arv.new A1145 (by decide)).pad (pad_rep [] (.int (0 : Int32)) 1)
      obtain ⟨cl1147, Ar1147, q1147, S1147, M1147, H1147, G1147⟩ := id V1145
      have hin1147 : ¬ ((0 : Int32) < 0 ∨ cl1147.slots.size ≤ ((0 : Int32)).toNatClampNeg) := inb_of S1147 ⟨by decide, by decide⟩
      obtain ⟨T1147, h1147, X1147, e1147, W1147, st1147⟩ := stI X1145 hx hZ e1145 Ar1147 (j := (0 : Int32)) hin1147 (g := (mkF m 23 #[.val (.int u1)] [(.int (1 : Int32)), (.int (0 : Int32)), (.ref b1145), (.ref b1145)])) rfl rfl (hb hby d1_23)
      have V1147 := Arv.set Ar1147 q1147 S1147 M1147 H1147 G1147 rfl W1147 0 rfl (Nat.le_of_ble_eq_true rfl)
      have Z1147 : n0 ≤ h1147.size := Nat.le_trans Z1145 (Nat.le_of_eq W1147.size.symm)
      have K1147 : Keep h0 h1147 [] := K1145.wr W1147 (Or.inr sz_b1145)
      have N1147 := Fr.snoc X1147 N0 g_b1145
      have P1149 : ∀ t, Steps p.tables e below (T1147.setTop (mkF m 24 #[.val (.int u1)] [(.ref b1145)])) t → Steps p.tables e below (s₁.setTop (entryFrame m #[(.int u1)] 1)) t := fun t k => P1144 t (by
        refine XS.icmpNo X0.here hx rfl (hb hby d1_14) rfl (teq h14).2 ?_
        show Steps p.tables e below (s₁.setTop (mkF m 17 #[.val (.int u1)] [])) _
        refine XS.iconst X0.here hx rfl (hb hby d1_17) ?_
        show Steps p.tables e below (s₁.setTop (mkF m 18 #[.val (.int u1)] [(.int (1 : Int32))])) _
        refine st1145 _ ?_
        show Steps p.tables e below (T1145.setTop (mkF m 20 #[.val (.int u1)] [(.ref b1145)])) _
        refine XS.dup X1145.here hx rfl (hb hby d1_20) rfl rfl ?_
        show Steps p.tables e below (T1145.setTop (mkF m 21 #[.val (.int u1)] [(.ref b1145), (.ref b1145)])) _
        refine XS.iconst X1145.here hx rfl (hb hby d1_21) ?_
        show Steps p.tables e below (T1145.setTop (mkF m 22 #[.val (.int u1)] [(.int (0 : Int32)), (.ref b1145), (.ref b1145)])) _
        refine XS.iconst X1145.here hx rfl (hb hby d1_22) ?_
        show Steps p.tables e below (T1145.setTop (mkF m 23 #[.val (.int u1)] [(.int (1 : Int32)), (.int (0 : Int32)), (.ref b1145), (.ref b1145)])) _
        refine st1147 _ ?_
        show Steps p.tables e below (T1147.setTop (mkF m 24 #[.val (.int u1)] [(.ref b1145)])) _
        exact k)
      obtain ⟨fs, hr, hrun, hended, hW, hsame⟩ := X1147.leave (v := some (.ref b1145)) (fun h => by rw [Bd.returns] at h; cases h)
      refine ⟨_, _, P1149 _ ?_, hrun, hended, _, _, rfl, ?_, ⟨_, rfl⟩, hW, hsame.mono (by decide) (by decide)⟩
      · jvm_step X1147.here [X1147.here.top, hx, (hb hby d1_24), X1147.method', Bd.returns, Value.isRef, FieldType.isReference]
        first | (intro acts; rw [hr _ acts rfl rfl rfl]) | rw [hr _ _ rfl rfl rfl]
        exact Steps.refl _
      · show Q_route Z u1 h0 n0 _ T1147.heap _
        rw [e1147]
        exact ⟨b1145, k1145, rfl, N1147, K1147, sz_b1145, Or.inl ⟨1, by decide, V1147⟩⟩
    · have P1150 : ∀ t, Steps p.tables e below (s₁.setTop (mkF m 27 #[.val (.int u1)] [(.int (2 : Int32)), (.int u1)])) t → Steps p.tables e below (s₁.setTop (entryFrame m #[(.int u1)] 1)) t := fun t k => P1144 t (by
        refine XS.icmpYes X0.here hx rfl (pc0 := 14) (pc' := 25) rfl (hb hby d1_14) rfl (feq h14).2 (by decide) (by decide) ?_
        show Steps p.tables e below (s₁.setTop (mkF m 25 #[.val (.int u1)] [])) _
        refine XS.iloadN X0.here hx rfl (hb hby d1_25) rfl ?_
        show Steps p.tables e below (s₁.setTop (mkF m 26 #[.val (.int u1)] [(.int u1)])) _
        refine XS.iconst X0.here hx rfl (hb hby d1_26) ?_
        show Steps p.tables e below (s₁.setTop (mkF m 27 #[.val (.int u1)] [(.int (2 : Int32)), (.int u1)])) _
        exact k)
      by_cases h27 : u1 = (2 : Int32)
      · obtain ⟨T1151, h1151, k1151, X1151, e1151, E1151, A1151, st1151⟩ := newP X0 hx hZ (hw _ (List.mem_of_getElem? (i := 0) rfl)) e0 (g := (mkF m 31 #[.val (.int u1)] [(.int (2 : Int32))])) rfl (hb hby d1_31) rfl (by decide) (cap := 2) (by decide) (by decide) (by decide) (by decide)
        obtain ⟨b1151, g1151⟩ : ∃ z, z = h0.size := ⟨_, rfl⟩
        rw [← g1151] at A1151 st1151
        have g_b1151 : n0 ≤ b1151 := Nat.le_trans Z0 (Nat.le_of_eq g1151.symm)
        have sz_b1151 : h0.size ≤ b1151 := Nat.le_trans K0.1 (Nat.le_of_eq g1151.symm)
        have Z1151 : n0 ≤ h1151.size := Nat.le_trans Z0 E1151.1
        have K1151 : Keep h0 h1151 [] := K0.ext E1151
        have V1151 : Arv Z h1151 b1151 k1151 .int (2 : Int32) [(.int (0 : Int32)), (.int (0 : Int32))] (.int (0 : Int32)) := (Arv.new A1151 (by decide)).pad (pad_rep [] (.int (0 : Int32)) 2)
        obtain ⟨cl1153, Ar1153, q1153, S1153, M1153, H1153, G1153⟩ := id V1151
        have hin1153 : ¬ ((0 : Int32) < 0 ∨ cl1153.slots.size ≤ ((0 : Int32)).toNatClampNeg) := inb_of S1153 ⟨by decide, by decide⟩
        obtain ⟨T1153, h1153, X1153, e1153, W1153, st1153⟩ := stI X1151 hx hZ e1151 Ar1153 (j := (0 : Int32)) hin1153 (g := (mkF m 36 #[.val (.int u1)] [(.int (0 : Int32)), (.int (0 : Int32)), (.ref b1151), (.ref b1151)])) rfl rfl (hb hby d1_36)
        have V1153 := Arv.set Ar1153 q1153 S1153 M1153 H1153 G1153 rfl W1153 0 rfl (Nat.le_of_ble_eq_true rfl)
        have Z1153 : n0 ≤ h1153.size := Nat.le_trans Z1151 (Nat.le_of_eq W1153.size.symm)
        have K1153 : Keep h0 h1153 [] := K1151.wr W1153 (Or.inr sz_b1151)
        have N1153 := Fr.snoc X1153 N0 g_b1151
        obtain ⟨cl1155, Ar1155, q1155, S1155, M1155, H1155, G1155⟩ := id V1153
        have hin1155 : ¬ ((1 : Int32) < 0 ∨ cl1155.slots.size ≤ ((1 : Int32)).toNatClampNeg) := inb_of S1155 ⟨by decide, by decide⟩
        obtain ⟨T1155, h1155, X1155, e1155, W1155, st1155⟩ := stI X1153 hx hZ e1153 Ar1155 (j := (1 : Int32)) hin1155 (g := (mkF m 40 #[.val (.int u1)] [(.int (1 : Int32)), (.int (1 : Int32)), (.ref b1151), (.ref b1151)])) rfl rfl (hb hby d1_40)
        have V1155 := Arv.set Ar1155 q1155 S1155 M1155 H1155 G1155 rfl W1155 1 rfl (Nat.le_of_ble_eq_true rfl)
        have Z1155 : n0 ≤ h1155.size := Nat.le_trans Z1153 (Nat.le_of_eq W1155.size.symm)
        have K1155 : Keep h0 h1155 [] := K1153.wr W1155 (Or.inr sz_b1151)
        have N1155 := Fr.snoc X1155 N1153 g_b1151
        have P1157 : ∀ t, Steps p.tables e below (T1155.setTop (mkF m 41 #[.val (.int u1)] [(.ref b1151)])) t → Steps p.tables e below (s₁.setTop (entryFrame m #[(.int u1)] 1)) t := fun t k => P1150 t (by
          refine XS.icmpNo X0.here hx rfl (hb hby d1_27) rfl (teq h27).2 ?_
          show Steps p.tables e below (s₁.setTop (mkF m 30 #[.val (.int u1)] [])) _
          refine XS.iconst X0.here hx rfl (hb hby d1_30) ?_
          show Steps p.tables e below (s₁.setTop (mkF m 31 #[.val (.int u1)] [(.int (2 : Int32))])) _
          refine st1151 _ ?_
          show Steps p.tables e below (T1151.setTop (mkF m 33 #[.val (.int u1)] [(.ref b1151)])) _
          refine XS.dup X1151.here hx rfl (hb hby d1_33) rfl rfl ?_
          show Steps p.tables e below (T1151.setTop (mkF m 34 #[.val (.int u1)] [(.ref b1151), (.ref b1151)])) _
          refine XS.iconst X1151.here hx rfl (hb hby d1_34) ?_
          show Steps p.tables e below (T1151.setTop (mkF m 35 #[.val (.int u1)] [(.int (0 : Int32)), (.ref b1151), (.ref b1151)])) _
          refine XS.iconst X1151.here hx rfl (hb hby d1_35) ?_
          show Steps p.tables e below (T1151.setTop (mkF m 36 #[.val (.int u1)] [(.int (0 : Int32)), (.int (0 : Int32)), (.ref b1151), (.ref b1151)])) _
          refine st1153 _ ?_
          show Steps p.tables e below (T1153.setTop (mkF m 37 #[.val (.int u1)] [(.ref b1151)])) _
          refine XS.dup X1153.here hx rfl (hb hby d1_37) rfl rfl ?_
          show Steps p.tables e below (T1153.setTop (mkF m 38 #[.val (.int u1)] [(.ref b1151), (.ref b1151)])) _
          refine XS.iconst X1153.here hx rfl (hb hby d1_38) ?_
          show Steps p.tables e below (T1153.setTop (mkF m 39 #[.val (.int u1)] [(.int (1 : Int32)), (.ref b1151), (.ref b1151)])) _
          refine XS.iconst X1153.here hx rfl (hb hby d1_39) ?_
          show Steps p.tables e below (T1153.setTop (mkF m 40 #[.val (.int u1)] [(.int (1 : Int32)), (.int (1 : Int32)), (.ref b1151), (.ref b1151)])) _
          refine st1155 _ ?_
          show Steps p.tables e below (T1155.setTop (mkF m 41 #[.val (.int u1)] [(.ref b1151)])) _
          exact k)
        obtain ⟨fs, hr, hrun, hended, hW, hsame⟩ := X1155.leave (v := some (.ref b1151)) (fun h => by rw [Bd.returns] at h; cases h)
        refine ⟨_, _, P1157 _ ?_, hrun, hended, _, _, rfl, ?_, ⟨_, rfl⟩, hW, hsame.mono (by decide) (by decide)⟩
        · jvm_step X1155.here [X1155.here.top, hx, (hb hby d1_41), X1155.method', Bd.returns, Value.isRef, FieldType.isReference]
          first | (intro acts; rw [hr _ acts rfl rfl rfl]) | rw [hr _ _ rfl rfl rfl]
          exact Steps.refl _
        · show Q_route Z u1 h0 n0 _ T1155.heap _
          rw [e1155]
          exact ⟨b1151, k1151, rfl, N1155, K1155, sz_b1151, Or.inr ⟨0, 1, by decide, by decide, V1155⟩⟩
      · obtain ⟨T1158, h1158, k1158, X1158, e1158, E1158, A1158, st1158⟩ := newP X0 hx hZ (hw _ (List.mem_of_getElem? (i := 0) rfl)) e0 (g := (mkF m 43 #[.val (.int u1)] [(.int (2 : Int32))])) rfl (hb hby d1_43) rfl (by decide) (cap := 2) (by decide) (by decide) (by decide) (by decide)
        obtain ⟨b1158, g1158⟩ : ∃ z, z = h0.size := ⟨_, rfl⟩
        rw [← g1158] at A1158 st1158
        have g_b1158 : n0 ≤ b1158 := Nat.le_trans Z0 (Nat.le_of_eq g1158.symm)
        have sz_b1158 : h0.size ≤ b1158 := Nat.le_trans K0.1 (Nat.le_of_eq g1158.symm)
        have Z1158 : n0 ≤ h1158.size := Nat.le_trans Z0 E1158.1
        have K1158 : Keep h0 h1158 [] := K0.ext E1158
        have V1158 : Arv Z h1158 b1158 k1158 .int (2 : Int32) [(.int (0 : Int32)), (.int (0 : Int32))] (.int (0 : Int32)) := (Arv.new A1158 (by decide)).pad (pad_rep [] (.int (0 : Int32)) 2)
        obtain ⟨cl1160, Ar1160, q1160, S1160, M1160, H1160, G1160⟩ := id V1158
        have hin1160 : ¬ ((0 : Int32) < 0 ∨ cl1160.slots.size ≤ ((0 : Int32)).toNatClampNeg) := inb_of S1160 ⟨by decide, by decide⟩
        obtain ⟨T1160, h1160, X1160, e1160, W1160, st1160⟩ := stI X1158 hx hZ e1158 Ar1160 (j := (0 : Int32)) hin1160 (g := (mkF m 48 #[.val (.int u1)] [(.int (1 : Int32)), (.int (0 : Int32)), (.ref b1158), (.ref b1158)])) rfl rfl (hb hby d1_48)
        have V1160 := Arv.set Ar1160 q1160 S1160 M1160 H1160 G1160 rfl W1160 0 rfl (Nat.le_of_ble_eq_true rfl)
        have Z1160 : n0 ≤ h1160.size := Nat.le_trans Z1158 (Nat.le_of_eq W1160.size.symm)
        have K1160 : Keep h0 h1160 [] := K1158.wr W1160 (Or.inr sz_b1158)
        have N1160 := Fr.snoc X1160 N0 g_b1158
        obtain ⟨cl1162, Ar1162, q1162, S1162, M1162, H1162, G1162⟩ := id V1160
        have hin1162 : ¬ ((1 : Int32) < 0 ∨ cl1162.slots.size ≤ ((1 : Int32)).toNatClampNeg) := inb_of S1162 ⟨by decide, by decide⟩
        obtain ⟨T1162, h1162, X1162, e1162, W1162, st1162⟩ := stI X1160 hx hZ e1160 Ar1162 (j := (1 : Int32)) hin1162 (g := (mkF m 52 #[.val (.int u1)] [(.int (0 : Int32)), (.int (1 : Int32)), (.ref b1158), (.ref b1158)])) rfl rfl (hb hby d1_52)
        have V1162 := Arv.set Ar1162 q1162 S1162 M1162 H1162 G1162 rfl W1162 1 rfl (Nat.le_of_ble_eq_true rfl)
        have Z1162 : n0 ≤ h1162.size := Nat.le_trans Z1160 (Nat.le_of_eq W1162.size.symm)
        have K1162 : Keep h0 h1162 [] := K1160.wr W1162 (Or.inr sz_b1158)
        have N1162 := Fr.snoc X1162 N1160 g_b1158
        have P1164 : ∀ t, Steps p.tables e below (T1162.setTop (mkF m 53 #[.val (.int u1)] [(.ref b1158)])) t → Steps p.tables e below (s₁.setTop (entryFrame m #[(.int u1)] 1)) t := fun t k => P1150 t (by
          refine XS.icmpYes X0.here hx rfl (pc0 := 27) (pc' := 42) rfl (hb hby d1_27) rfl (feq h27).2 (by decide) (by decide) ?_
          show Steps p.tables e below (s₁.setTop (mkF m 42 #[.val (.int u1)] [])) _
          refine XS.iconst X0.here hx rfl (hb hby d1_42) ?_
          show Steps p.tables e below (s₁.setTop (mkF m 43 #[.val (.int u1)] [(.int (2 : Int32))])) _
          refine st1158 _ ?_
          show Steps p.tables e below (T1158.setTop (mkF m 45 #[.val (.int u1)] [(.ref b1158)])) _
          refine XS.dup X1158.here hx rfl (hb hby d1_45) rfl rfl ?_
          show Steps p.tables e below (T1158.setTop (mkF m 46 #[.val (.int u1)] [(.ref b1158), (.ref b1158)])) _
          refine XS.iconst X1158.here hx rfl (hb hby d1_46) ?_
          show Steps p.tables e below (T1158.setTop (mkF m 47 #[.val (.int u1)] [(.int (0 : Int32)), (.ref b1158), (.ref b1158)])) _
          refine XS.iconst X1158.here hx rfl (hb hby d1_47) ?_
          show Steps p.tables e below (T1158.setTop (mkF m 48 #[.val (.int u1)] [(.int (1 : Int32)), (.int (0 : Int32)), (.ref b1158), (.ref b1158)])) _
          refine st1160 _ ?_
          show Steps p.tables e below (T1160.setTop (mkF m 49 #[.val (.int u1)] [(.ref b1158)])) _
          refine XS.dup X1160.here hx rfl (hb hby d1_49) rfl rfl ?_
          show Steps p.tables e below (T1160.setTop (mkF m 50 #[.val (.int u1)] [(.ref b1158), (.ref b1158)])) _
          refine XS.iconst X1160.here hx rfl (hb hby d1_50) ?_
          show Steps p.tables e below (T1160.setTop (mkF m 51 #[.val (.int u1)] [(.int (1 : Int32)), (.ref b1158), (.ref b1158)])) _
          refine XS.iconst X1160.here hx rfl (hb hby d1_51) ?_
          show Steps p.tables e below (T1160.setTop (mkF m 52 #[.val (.int u1)] [(.int (0 : Int32)), (.int (1 : Int32)), (.ref b1158), (.ref b1158)])) _
          refine st1162 _ ?_
          show Steps p.tables e below (T1162.setTop (mkF m 53 #[.val (.int u1)] [(.ref b1158)])) _
          exact k)
        obtain ⟨fs, hr, hrun, hended, hW, hsame⟩ := X1162.leave (v := some (.ref b1158)) (fun h => by rw [Bd.returns] at h; cases h)
        refine ⟨_, _, P1164 _ ?_, hrun, hended, _, _, rfl, ?_, ⟨_, rfl⟩, hW, hsame.mono (by decide) (by decide)⟩
        · jvm_step X1162.here [X1162.here.top, hx, (hb hby d1_53), X1162.method', Bd.returns, Value.isRef, FieldType.isReference]
          first | (intro acts; rw [hr _ acts rfl rfl rfl]) | rw [hr _ _ rfl rfl rfl]
          exact Steps.refl _
        · show Q_route Z u1 h0 n0 _ T1162.heap _
          rw [e1162]
          exact ⟨b1158, k1158, rfl, N1162, K1162, sz_b1158, Or.inr ⟨1, 0, by decide, by decide, V1162⟩⟩
theorem ef_init (m : MethodId) (x0 : Addr) (x1 : Addr) (x2 : Int32) : entryFrame m #[(.ref x0), (.ref x1), (.int x2)] 3 = mkF m 0 #[.val (.ref x0), .val (.ref x1), .val (.int x2)] [] := by first | (simp [entryFrame, mkF, argsToLocals, Value.category]; done) | rfl
def Q_init (Z : State) (a1 : Addr) (tr : Addr) (kt : ClassId) (y0 : Nat) (y1 : Nat) (h0 : Heap) (n0 : Nat) (v : Option Value) (h : Heap) (L : List Loc) : Prop := ∃ (ar ac al alr alc : Addr) (k1 k2 k3 k4 k5 : ClassId), v = none ∧ Fr n0 L ∧ Keep h0 h [a1] ∧ h0.size ≤ ar ∧ h0.size ≤ ac ∧ h0.size ≤ al ∧ h0.size ≤ alr ∧ h0.size ≤ alc ∧ own_D a1 ar ac al alr alc ∧ own_St Z h a1 ar ac al alr alc k1 k2 k3 k4 k5 ([y0, y1], [0, 0], [0, 0, 0, 0, 0, 0, 0, 0], [0, 0, 0, 0, 0, 0, 0, 0], [0, 0, 0, 0, 0, 0, 0, 0], 0)
theorem d2_0 : decode prog_52_method_1_code 0 = .ok (.aload_n 0, 1) := by decide +kernel
theorem d2_1 : decode prog_52_method_1_code 1 = .ok (.invokespecial 1, 3) := by decide +kernel
theorem d2_4 : decode prog_52_method_1_code 4 = .ok (.aload_n 0, 1) := by decide +kernel
theorem d2_5 : decode prog_52_method_1_code 5 = .ok (.aload_n 1, 1) := by decide +kernel
theorem d2_6 : decode prog_52_method_1_code 6 = .ok (.invokevirtual 7, 3) := by decide +kernel
theorem d2_9 : decode prog_52_method_1_code 9 = .ok (.checkcast 8, 3) := by decide +kernel
theorem d2_12 : decode prog_52_method_1_code 12 = .ok (.putfield 13, 3) := by decide +kernel
theorem d2_15 : decode prog_52_method_1_code 15 = .ok (.aload_n 0, 1) := by decide +kernel
theorem d2_16 : decode prog_52_method_1_code 16 = .ok (.aload_n 1, 1) := by decide +kernel
theorem d2_17 : decode prog_52_method_1_code 17 = .ok (.arraylength, 1) := by decide +kernel
theorem d2_18 : decode prog_52_method_1_code 18 = .ok (.newarray .boolean, 2) := by decide +kernel
theorem d2_20 : decode prog_52_method_1_code 20 = .ok (.putfield 18, 3) := by decide +kernel
theorem d2_23 : decode prog_52_method_1_code 23 = .ok (.aload_n 0, 1) := by decide +kernel
theorem d2_24 : decode prog_52_method_1_code 24 = .ok (.iload_n 2, 1) := by decide +kernel
theorem d2_25 : decode prog_52_method_1_code 25 = .ok (.newarray .int, 2) := by decide +kernel
theorem d2_27 : decode prog_52_method_1_code 27 = .ok (.putfield 22, 3) := by decide +kernel
theorem d2_30 : decode prog_52_method_1_code 30 = .ok (.aload_n 0, 1) := by decide +kernel
theorem d2_31 : decode prog_52_method_1_code 31 = .ok (.iload_n 2, 1) := by decide +kernel
theorem d2_32 : decode prog_52_method_1_code 32 = .ok (.newarray .double, 2) := by decide +kernel
theorem d2_34 : decode prog_52_method_1_code 34 = .ok (.putfield 26, 3) := by decide +kernel
theorem d2_37 : decode prog_52_method_1_code 37 = .ok (.aload_n 0, 1) := by decide +kernel
theorem d2_38 : decode prog_52_method_1_code 38 = .ok (.iload_n 2, 1) := by decide +kernel
theorem d2_39 : decode prog_52_method_1_code 39 = .ok (.newarray .boolean, 2) := by decide +kernel
theorem d2_41 : decode prog_52_method_1_code 41 = .ok (.putfield 29, 3) := by decide +kernel
theorem d2_44 : decode prog_52_method_1_code 44 = .ok (.return_, 1) := by decide +kernel
set_option maxRecDepth 65536 in
set_option maxHeartbeats 40000000 in
theorem rm_init (l : Launch) (Z : State) (a0 : Array Value) (hw : ∀ d ∈ tables_1, d.before a0 Z = true) (ws : List Jvm.Cond) (a1 : Addr) (tr : Addr) (kt : ClassId) (y0 : Nat) (y1 : Nat) (h0 : Heap) (n0 : Nat) (Z0 : n0 ≤ h0.size) (E1 : Exa Z h0 a1 "com/example/tributary/tributary/solver/Rooms") (F0 : Fld Z h0 a1 "com/example/tributary/tributary/solver/Rooms" "room" "[D" .null) (F1 : Fld Z h0 a1 "com/example/tributary/tributary/solver/Rooms" "closed" "[Z" .null) (F2 : Fld Z h0 a1 "com/example/tributary/tributary/solver/Rooms" "loggedLink" "[I" .null) (F3 : Fld Z h0 a1 "com/example/tributary/tributary/solver/Rooms" "loggedRoom" "[D" .null) (F4 : Fld Z h0 a1 "com/example/tributary/tributary/solver/Rooms" "loggedClosed" "[Z" .null) (F5 : Fld Z h0 a1 "com/example/tributary/tributary/solver/Rooms" "logged" "I" (.int (0 : Int32))) (g1 : n0 ≤ a1) (VT : Arv Z h0 tr kt .double (2 : Int32) (own_vD [y0, y1]) (.double 0)) (ET : Exa Z h0 tr "[D") (ne1 : a1 ≠ tr) :
    MetFree l (⟨"com/example/tributary/tributary/solver/Rooms", "<init>", "([DI)V"⟩ : MethodName) (head1 (Jvm.Cond.code (⟨"com/example/tributary/tributary/solver/Rooms", "<init>", "([DI)V"⟩ : MethodName) prog_52_method_1_code 3 none :: ws) ({ frames := 1, cells := 5, slots := 28, locals := 15 } : Room)) (fun a U => a = #[(.ref a1), (.ref tr), (.int (8 : Int32))] ∧ Z.Warmed39 U.vm ∧ U.heap = h0) (fun _ _ _ _ _ => True) (fun _ U o U' => ∃ v L, o = .returned v ∧ Q_init Z a1 tr kt y0 y1 h0 n0 v U'.heap L ∧ FrameEnd U o U' L ({ frames := 1, cells := 5, slots := 28, locals := 15 } : Room).cells ({ frames := 1, cells := 5, slots := 28, locals := 15 } : Room).slots) := by
  refine MetFree.of_bodySF (plainFor_of_name pn_1) hisR ?_
  intro p e s m args below meth c s₁ Bd hml0 hP hK
  obtain ⟨rfl, hZ, hh⟩ := hP
  have hx := Bd.exec
  have hby := Bd.bytes
  have hml : c.maxLocals = 3 := hml0
  have hown : s.vm.findClass "com/example/tributary/tributary/solver/Rooms" = some m.cls := findClass_of_methodNamed Bd.named
  have hnm := (name_of_methodNamed Bd.named Bd.method).1
  have X0 : Stand p l e ({ frames := 1, cells := 5, slots := 28, locals := 15 } : Room) s m #[(.ref a1), (.ref tr), (.int (8 : Int32))] below meth c s₁ [] 0 0 := Stand.of_body Bd
  have e0 : s₁.heap = h0 := by rw [← hh, Bd.state]; rfl
  have N0 := Fr.nil n0
  have K0 : Keep h0 h0 [a1] := Keep.refl h0 [a1]
  have P0 : ∀ t, Steps p.tables e below (s₁.setTop (mkF m 0 #[.val (.ref a1), .val (.ref tr), .val (.int (8 : Int32))] [])) t → Steps p.tables e below (s₁.setTop (entryFrame m #[(.ref a1), (.ref tr), (.int (8 : Int32))] 3)) t := fun t k => castTop (ef_init m a1 tr (8 : Int32)) k
  obtain ⟨T1165, X1165, e1165, st1165⟩ := initO X0 hx hZ hown (hw _ (List.mem_of_getElem? (i := 12) rfl)) (hw _ (List.mem_of_getElem? (i := 13) rfl)) (hw _ (List.mem_of_getElem? (i := 14) rfl)) e0 (g := (mkF m 1 #[.val (.ref a1), .val (.ref tr), .val (.int (8 : Int32))] [(.ref a1)])) rfl (by rw [hml]; rfl) rfl (hb hby d2_1) (by decide) (W := 0) (by show 2 * 0 + _ ≤ _; exact Nat.le_of_eq rfl) (by decide)
  obtain ⟨cl1166, Ar1166, q1166, S1166, M1166, H1166, G1166⟩ := id VT
  obtain ⟨T1166, h1166, X1166, e1166, E1166, A1166, B1166, st1166⟩ := cloneA X1165 hx hZ hown (hw _ (List.mem_of_getElem? (i := 15) rfl)) (hw _ (List.mem_of_getElem? (i := 16) rfl)) (hw _ (List.mem_of_getElem? (i := 20) rfl)) (hw _ (List.mem_of_getElem? (i := 18) rfl)) (hw _ (List.mem_of_getElem? (i := 19) rfl)) (hw _ (List.mem_of_getElem? (i := 21) rfl)) e1165 Ar1166 ET (own_fitC Ar1166 H1166 G1166) (g := (mkF m 6 #[.val (.ref a1), .val (.ref tr), .val (.int (8 : Int32))] [(.ref tr), (.ref a1)])) rfl (by rw [hml]; rfl) rfl (hb hby d2_6) (by decide) (W := 1) (cap := 2) (by show 2 * 0 + _ ≤ _; exact Nat.le_of_eq rfl) (by decide) (by rw [S1166]; decide) (by decide) (by decide)
  obtain ⟨b1166, g1166⟩ : ∃ z, z = h0.size := ⟨_, rfl⟩
  rw [← g1166] at A1166 B1166 st1166
  have ne_a1_b1166 : a1 ≠ b1166 := Nat.ne_of_lt (Nat.lt_of_lt_of_le E1.lt (Nat.le_of_eq g1166.symm))
  have ne_tr_b1166 : tr ≠ b1166 := Nat.ne_of_lt (Nat.lt_of_lt_of_le VT.lt (Nat.le_of_eq g1166.symm))
  have g_b1166 : n0 ≤ b1166 := Nat.le_trans Z0 (Nat.le_of_eq g1166.symm)
  have sz_b1166 : h0.size ≤ b1166 := Nat.le_trans K0.1 (Nat.le_of_eq g1166.symm)
  have c1167_0 := E1.ext E1166
  have c1167_1 := F0.ext E1166
  have c1167_2 := F1.ext E1166
  have c1167_3 := F2.ext E1166
  have c1167_4 := F3.ext E1166
  have c1167_5 := F4.ext E1166
  have c1167_6 := F5.ext E1166
  have c1167_7 := VT.ext E1166
  have c1167_8 := ET.ext E1166
  have Z1166 : n0 ≤ h1166.size := Nat.le_trans Z0 E1166.1
  have K1166 : Keep h0 h1166 [a1] := K0.ext E1166
  have V1166 : Arv Z h1166 b1166 kt .double (2 : Int32) (own_vD [y0, y1]) (.double 0) := ⟨_, A1166, q1166, S1166, M1166, H1166, G1166⟩
  obtain ⟨T1168, X1168, e1168, st1168⟩ := castY X1166 hx hZ hown (hw _ (List.mem_of_getElem? (i := 22) rfl)) e1166 (Ins.self B1166) (g := (mkF m 9 #[.val (.ref a1), .val (.ref tr), .val (.int (8 : Int32))] [(.ref b1166), (.ref a1)])) rfl rfl (hb hby d2_9)
  obtain ⟨T1169, h1169, X1169, e1169, W1169, st1169⟩ := putF X1168 hx hZ hown (host := "") (Or.inl (hw _ (List.mem_of_getElem? (i := 24) rfl))) Via.refl e1168 c1167_1 c1167_0 (Or.inr ⟨(hw _ (List.mem_of_getElem? (i := 25) rfl)), rfl, hnm⟩) (hw _ (List.mem_of_getElem? (i := 6) rfl)) (ty := (.array .double)) (by decide) rfl rfl (g := (mkF m 12 #[.val (.ref a1), .val (.ref tr), .val (.int (8 : Int32))] [(.ref b1166), (.ref a1)])) rfl rfl (hb hby d2_12)
  have Fw1169 := c1167_1.same W1169
  have c1170_0 := c1167_0.wr W1169
  have c1170_2 := c1167_2.other W1169 (Or.inr (slot_ne (Or.inr (hw _ (List.mem_of_getElem? (i := 28) rfl))) (Or.inr (hw _ (List.mem_of_getElem? (i := 25) rfl))) (by decide) (t := (.array .boolean)) (t' := (.array .double)) (by decide) (by decide)))
  have c1170_3 := c1167_3.other W1169 (Or.inr (slot_ne (Or.inr (hw _ (List.mem_of_getElem? (i := 30) rfl))) (Or.inr (hw _ (List.mem_of_getElem? (i := 25) rfl))) (by decide) (t := (.array .int)) (t' := (.array .double)) (by decide) (by decide)))
  have c1170_4 := c1167_4.other W1169 (Or.inr (slot_ne (Or.inr (hw _ (List.mem_of_getElem? (i := 32) rfl))) (Or.inr (hw _ (List.mem_of_getElem? (i := 25) rfl))) (by decide) (t := (.array .double)) (t' := (.array .double)) (by decide) (by decide)))
  have c1170_5 := c1167_5.other W1169 (Or.inr (slot_ne (Or.inr (hw _ (List.mem_of_getElem? (i := 34) rfl))) (Or.inr (hw _ (List.mem_of_getElem? (i := 25) rfl))) (by decide) (t := (.array .boolean)) (t' := (.array .double)) (by decide) (by decide)))
  have c1170_6 := c1167_6.other W1169 (Or.inr (slot_ne (Or.inl (hw _ (List.mem_of_getElem? (i := 54) rfl))) (Or.inr (hw _ (List.mem_of_getElem? (i := 25) rfl))) (by decide) (t := .int) (t' := (.array .double)) (by decide) (by decide)))
  have c1170_7 := c1167_7.other W1169 (Ne.symm ne1)
  have c1170_8 := c1167_8.wr W1169
  have c1170_9 := V1166.other W1169 (Ne.symm ne_a1_b1166)
  have c1170_10 := B1166.wr W1169
  have Z1169 : n0 ≤ h1169.size := Nat.le_trans Z1166 (Nat.le_of_eq W1169.size.symm)
  have K1169 : Keep h0 h1169 [a1] := K1166.wr W1169 (Or.inl (List.mem_of_getElem? (i := 0) rfl))
  have N1169 := Fr.snoc X1169 N0 g1
  obtain ⟨cl1171, Ar1171, q1171, S1171, M1171, -, -⟩ := id c1170_7
  obtain ⟨T1172, h1172, k1172, X1172, e1172, E1172, A1172, st1172⟩ := newP X1169 hx hZ (hw _ (List.mem_of_getElem? (i := 26) rfl)) e1169 (g := (mkF m 18 #[.val (.ref a1), .val (.ref tr), .val (.int (8 : Int32))] [(.int (2 : Int32)), (.ref a1)])) rfl (hb hby d2_18) rfl (by decide) (cap := 2) (by decide) (by decide) (by decide) (by decide)
  obtain ⟨b1172, g1172⟩ : ∃ z, z = h1169.size := ⟨_, rfl⟩
  rw [← g1172] at A1172 st1172
  have ne_a1_b1172 : a1 ≠ b1172 := Nat.ne_of_lt (Nat.lt_of_lt_of_le c1170_0.lt (Nat.le_of_eq g1172.symm))
  have ne_tr_b1172 : tr ≠ b1172 := Nat.ne_of_lt (Nat.lt_of_lt_of_le c1170_7.lt (Nat.le_of_eq g1172.symm))
  have ne_b1166_b1172 : b1166 ≠ b1172 := Nat.ne_of_lt (Nat.lt_of_lt_of_le c1170_9.lt (Nat.le_of_eq g1172.symm))
  have g_b1172 : n0 ≤ b1172 := Nat.le_trans Z1169 (Nat.le_of_eq g1172.symm)
  have sz_b1172 : h0.size ≤ b1172 := Nat.le_trans K1169.1 (Nat.le_of_eq g1172.symm)
  have c1173_0 := c1170_0.ext E1172
  have c1173_1 := Fw1169.ext E1172
  have c1173_2 := c1170_2.ext E1172
  have c1173_3 := c1170_3.ext E1172
  have c1173_4 := c1170_4.ext E1172
  have c1173_5 := c1170_5.ext E1172
  have c1173_6 := c1170_6.ext E1172
  have c1173_7 := c1170_7.ext E1172
  have c1173_8 := c1170_8.ext E1172
  have c1173_9 := c1170_9.ext E1172
  have c1173_10 := c1170_10.ext E1172
  have Z1172 : n0 ≤ h1172.size := Nat.le_trans Z1169 E1172.1
  have K1172 : Keep h0 h1172 [a1] := K1169.ext E1172
  have V1172 : Arv Z h1172 b1172 k1172 .boolean (2 : Int32) [(.int (0 : Int32)), (.int (0 : Int32))] (.int (0 : Int32)) := (Arv.new A1172 (by decide)).pad (pad_rep [] (.int (0 : Int32)) 2)
  obtain ⟨T1174, h1174, X1174, e1174, W1174, st1174⟩ := putF X1172 hx hZ hown (host := "") (Or.inl (hw _ (List.mem_of_getElem? (i := 27) rfl))) Via.refl e1172 c1173_2 c1173_0 (Or.inr ⟨(hw _ (List.mem_of_getElem? (i := 28) rfl)), rfl, hnm⟩) (hw _ (List.mem_of_getElem? (i := 6) rfl)) (ty := (.array .boolean)) (by decide) rfl rfl (g := (mkF m 20 #[.val (.ref a1), .val (.ref tr), .val (.int (8 : Int32))] [(.ref b1172), (.ref a1)])) rfl rfl (hb hby d2_20)
  have Fw1174 := c1173_2.same W1174
  have c1175_0 := c1173_0.wr W1174
  have c1175_1 := c1173_1.other W1174 (Or.inr (slot_ne (Or.inr (hw _ (List.mem_of_getElem? (i := 25) rfl))) (Or.inr (hw _ (List.mem_of_getElem? (i := 28) rfl))) (by decide) (t := (.array .double)) (t' := (.array .boolean)) (by decide) (by decide)))
  have c1175_3 := c1173_3.other W1174 (Or.inr (slot_ne (Or.inr (hw _ (List.mem_of_getElem? (i := 30) rfl))) (Or.inr (hw _ (List.mem_of_getElem? (i := 28) rfl))) (by decide) (t := (.array .int)) (t' := (.array .boolean)) (by decide) (by decide)))
  have c1175_4 := c1173_4.other W1174 (Or.inr (slot_ne (Or.inr (hw _ (List.mem_of_getElem? (i := 32) rfl))) (Or.inr (hw _ (List.mem_of_getElem? (i := 28) rfl))) (by decide) (t := (.array .double)) (t' := (.array .boolean)) (by decide) (by decide)))
  have c1175_5 := c1173_5.other W1174 (Or.inr (slot_ne (Or.inr (hw _ (List.mem_of_getElem? (i := 34) rfl))) (Or.inr (hw _ (List.mem_of_getElem? (i := 28) rfl))) (by decide) (t := (.array .boolean)) (t' := (.array .boolean)) (by decide) (by decide)))
  have c1175_6 := c1173_6.other W1174 (Or.inr (slot_ne (Or.inl (hw _ (List.mem_of_getElem? (i := 54) rfl))) (Or.inr (hw _ (List.mem_of_getElem? (i := 28) rfl))) (by decide) (t := .int) (t' := (.array .boolean)) (by decide) (by decide)))
  have c1175_7 := c1173_7.other W1174 (Ne.symm ne1)
  have c1175_8 := c1173_8.wr W1174
  have c1175_9 := c1173_9.other W1174 (Ne.symm ne_a1_b1166)
  have c1175_10 := c1173_10.wr W1174
  have c1175_11 := V1172.other W1174 (Ne.symm ne_a1_b1172)
  have Z1174 : n0 ≤ h1174.size := Nat.le_trans Z1172 (Nat.le_of_eq W1174.size.symm)
  have K1174 : Keep h0 h1174 [a1] := K1172.wr W1174 (Or.inl (List.mem_of_getElem? (i := 0) rfl))
  have N1174 := Fr.snoc X1174 N1169 g1
  obtain ⟨T1176, h1176, k1176, X1176, e1176, E1176, A1176, st1176⟩ := newP X1174 hx hZ (hw _ (List.mem_of_getElem? (i := 0) rfl)) e1174 (g := (mkF m 25 #[.val (.ref a1), .val (.ref tr), .val (.int (8 : Int32))] [(.int (8 : Int32)), (.ref a1)])) rfl (hb hby d2_25) rfl (by decide) (cap := 8) (by decide) (by decide) (by decide) (by decide)
  obtain ⟨b1176, g1176⟩ : ∃ z, z = h1174.size := ⟨_, rfl⟩
  rw [← g1176] at A1176 st1176
  have ne_a1_b1176 : a1 ≠ b1176 := Nat.ne_of_lt (Nat.lt_of_lt_of_le c1175_0.lt (Nat.le_of_eq g1176.symm))
  have ne_tr_b1176 : tr ≠ b1176 := Nat.ne_of_lt (Nat.lt_of_lt_of_le c1175_7.lt (Nat.le_of_eq g1176.symm))
  have ne_b1166_b1176 : b1166 ≠ b1176 := Nat.ne_of_lt (Nat.lt_of_lt_of_le c1175_9.lt (Nat.le_of_eq g1176.symm))
  have ne_b1172_b1176 : b1172 ≠ b1176 := Nat.ne_of_lt (Nat.lt_of_lt_of_le c1175_11.lt (Nat.le_of_eq g1176.symm))
  have g_b1176 : n0 ≤ b1176 := Nat.le_trans Z1174 (Nat.le_of_eq g1176.symm)
  have sz_b1176 : h0.size ≤ b1176 := Nat.le_trans K1174.1 (Nat.le_of_eq g1176.symm)
  have c1177_0 := c1175_0.ext E1176
  have c1177_1 := c1175_1.ext E1176
  have c1177_2 := Fw1174.ext E1176
  have c1177_3 := c1175_3.ext E1176
  have c1177_4 := c1175_4.ext E1176
  have c1177_5 := c1175_5.ext E1176
  have c1177_6 := c1175_6.ext E1176
  have c1177_7 := c1175_7.ext E1176
  have c1177_8 := c1175_8.ext E1176
  have c1177_9 := c1175_9.ext E1176
  have c1177_10 := c1175_10.ext E1176
  have c1177_11 := c1175_11.ext E1176
  have Z1176 : n0 ≤ h1176.size := Nat.le_trans Z1174 E1176.1
  have K1176 : Keep h0 h1176 [a1] := K1174.ext E1176
  have V1176 : Arv Z h1176 b1176 k1176 .int (8 : Int32) [(.int (0 : Int32)), (.int (0 : Int32)), (.int (0 : Int32)), (.int (0 : Int32)), (.int (0 : Int32)), (.int (0 : Int32)), (.int (0 : Int32)), (.int (0 : Int32))] (.int (0 : Int32)) := (Arv.new A1176 (by decide)).pad (pad_rep [] (.int (0 : Int32)) 8)
  obtain ⟨T1178, h1178, X1178, e1178, W1178, st1178⟩ := putF X1176 hx hZ hown (host := "") (Or.inl (hw _ (List.mem_of_getElem? (i := 29) rfl))) Via.refl e1176 c1177_3 c1177_0 (Or.inr ⟨(hw _ (List.mem_of_getElem? (i := 30) rfl)), rfl, hnm⟩) (hw _ (List.mem_of_getElem? (i := 6) rfl)) (ty := (.array .int)) (by decide) rfl rfl (g := (mkF m 27 #[.val (.ref a1), .val (.ref tr), .val (.int (8 : Int32))] [(.ref b1176), (.ref a1)])) rfl rfl (hb hby d2_27)
  have Fw1178 := c1177_3.same W1178
  have c1179_0 := c1177_0.wr W1178
  have c1179_1 := c1177_1.other W1178 (Or.inr (slot_ne (Or.inr (hw _ (List.mem_of_getElem? (i := 25) rfl))) (Or.inr (hw _ (List.mem_of_getElem? (i := 30) rfl))) (by decide) (t := (.array .double)) (t' := (.array .int)) (by decide) (by decide)))
  have c1179_2 := c1177_2.other W1178 (Or.inr (slot_ne (Or.inr (hw _ (List.mem_of_getElem? (i := 28) rfl))) (Or.inr (hw _ (List.mem_of_getElem? (i := 30) rfl))) (by decide) (t := (.array .boolean)) (t' := (.array .int)) (by decide) (by decide)))
  have c1179_4 := c1177_4.other W1178 (Or.inr (slot_ne (Or.inr (hw _ (List.mem_of_getElem? (i := 32) rfl))) (Or.inr (hw _ (List.mem_of_getElem? (i := 30) rfl))) (by decide) (t := (.array .double)) (t' := (.array .int)) (by decide) (by decide)))
  have c1179_5 := c1177_5.other W1178 (Or.inr (slot_ne (Or.inr (hw _ (List.mem_of_getElem? (i := 34) rfl))) (Or.inr (hw _ (List.mem_of_getElem? (i := 30) rfl))) (by decide) (t := (.array .boolean)) (t' := (.array .int)) (by decide) (by decide)))
  have c1179_6 := c1177_6.other W1178 (Or.inr (slot_ne (Or.inl (hw _ (List.mem_of_getElem? (i := 54) rfl))) (Or.inr (hw _ (List.mem_of_getElem? (i := 30) rfl))) (by decide) (t := .int) (t' := (.array .int)) (by decide) (by decide)))
  have c1179_7 := c1177_7.other W1178 (Ne.symm ne1)
  have c1179_8 := c1177_8.wr W1178
  have c1179_9 := c1177_9.other W1178 (Ne.symm ne_a1_b1166)
  have c1179_10 := c1177_10.wr W1178
  have c1179_11 := c1177_11.other W1178 (Ne.symm ne_a1_b1172)
  have c1179_12 := V1176.other W1178 (Ne.symm ne_a1_b1176)
  have Z1178 : n0 ≤ h1178.size := Nat.le_trans Z1176 (Nat.le_of_eq W1178.size.symm)
  have K1178 : Keep h0 h1178 [a1] := K1176.wr W1178 (Or.inl (List.mem_of_getElem? (i := 0) rfl))
  have N1178 := Fr.snoc X1178 N1174 g1
  obtain ⟨T1180, h1180, k1180, X1180, e1180, E1180, A1180, st1180⟩ := newP X1178 hx hZ (hw _ (List.mem_of_getElem? (i := 8) rfl)) e1178 (g := (mkF m 32 #[.val (.ref a1), .val (.ref tr), .val (.int (8 : Int32))] [(.int (8 : Int32)), (.ref a1)])) rfl (hb hby d2_32) rfl (by decide) (cap := 8) (by decide) (by decide) (by decide) (by decide)
  obtain ⟨b1180, g1180⟩ : ∃ z, z = h1178.size := ⟨_, rfl⟩
  rw [← g1180] at A1180 st1180
  have ne_a1_b1180 : a1 ≠ b1180 := Nat.ne_of_lt (Nat.lt_of_lt_of_le c1179_0.lt (Nat.le_of_eq g1180.symm))
  have ne_tr_b1180 : tr ≠ b1180 := Nat.ne_of_lt (Nat.lt_of_lt_of_le c1179_7.lt (Nat.le_of_eq g1180.symm))
  have ne_b1166_b1180 : b1166 ≠ b1180 := Nat.ne_of_lt (Nat.lt_of_lt_of_le c1179_9.lt (Nat.le_of_eq g1180.symm))
  have ne_b1172_b1180 : b1172 ≠ b1180 := Nat.ne_of_lt (Nat.lt_of_lt_of_le c1179_11.lt (Nat.le_of_eq g1180.symm))
  have ne_b1176_b1180 : b1176 ≠ b1180 := Nat.ne_of_lt (Nat.lt_of_lt_of_le c1179_12.lt (Nat.le_of_eq g1180.symm))
  have g_b1180 : n0 ≤ b1180 := Nat.le_trans Z1178 (Nat.le_of_eq g1180.symm)
  have sz_b1180 : h0.size ≤ b1180 := Nat.le_trans K1178.1 (Nat.le_of_eq g1180.symm)
  have c1181_0 := c1179_0.ext E1180
  have c1181_1 := c1179_1.ext E1180
  have c1181_2 := c1179_2.ext E1180
  have c1181_3 := Fw1178.ext E1180
  have c1181_4 := c1179_4.ext E1180
  have c1181_5 := c1179_5.ext E1180
  have c1181_6 := c1179_6.ext E1180
  have c1181_7 := c1179_7.ext E1180
  have c1181_8 := c1179_8.ext E1180
  have c1181_9 := c1179_9.ext E1180
  have c1181_10 := c1179_10.ext E1180
  have c1181_11 := c1179_11.ext E1180
  have c1181_12 := c1179_12.ext E1180
  have Z1180 : n0 ≤ h1180.size := Nat.le_trans Z1178 E1180.1
  have K1180 : Keep h0 h1180 [a1] := K1178.ext E1180
  have V1180 : Arv Z h1180 b1180 k1180 .double (8 : Int32) [(.double (0 : UInt64)), (.double (0 : UInt64)), (.double (0 : UInt64)), (.double (0 : UInt64)), (.double (0 : UInt64)), (.double (0 : UInt64)), (.double (0 : UInt64)), (.double (0 : UInt64))] (.double (0 : UInt64)) := (Arv.new A1180 (by decide)).pad (pad_rep [] (.double (0 : UInt64)) 8)
  obtain ⟨T1182, h1182, X1182, e1182, W1182, st1182⟩ := putF X1180 hx hZ hown (host := "") (Or.inl (hw _ (List.mem_of_getElem? (i := 31) rfl))) Via.refl e1180 c1181_4 c1181_0 (Or.inr ⟨(hw _ (List.mem_of_getElem? (i := 32) rfl)), rfl, hnm⟩) (hw _ (List.mem_of_getElem? (i := 6) rfl)) (ty := (.array .double)) (by decide) rfl rfl (g := (mkF m 34 #[.val (.ref a1), .val (.ref tr), .val (.int (8 : Int32))] [(.ref b1180), (.ref a1)])) rfl rfl (hb hby d2_34)
  have Fw1182 := c1181_4.same W1182
  have c1183_0 := c1181_0.wr W1182
  have c1183_1 := c1181_1.other W1182 (Or.inr (slot_ne (Or.inr (hw _ (List.mem_of_getElem? (i := 25) rfl))) (Or.inr (hw _ (List.mem_of_getElem? (i := 32) rfl))) (by decide) (t := (.array .double)) (t' := (.array .double)) (by decide) (by decide)))
  have c1183_2 := c1181_2.other W1182 (Or.inr (slot_ne (Or.inr (hw _ (List.mem_of_getElem? (i := 28) rfl))) (Or.inr (hw _ (List.mem_of_getElem? (i := 32) rfl))) (by decide) (t := (.array .boolean)) (t' := (.array .double)) (by decide) (by decide)))
  have c1183_3 := c1181_3.other W1182 (Or.inr (slot_ne (Or.inr (hw _ (List.mem_of_getElem? (i := 30) rfl))) (Or.inr (hw _ (List.mem_of_getElem? (i := 32) rfl))) (by decide) (t := (.array .int)) (t' := (.array .double)) (by decide) (by decide)))
  have c1183_5 := c1181_5.other W1182 (Or.inr (slot_ne (Or.inr (hw _ (List.mem_of_getElem? (i := 34) rfl))) (Or.inr (hw _ (List.mem_of_getElem? (i := 32) rfl))) (by decide) (t := (.array .boolean)) (t' := (.array .double)) (by decide) (by decide)))
  have c1183_6 := c1181_6.other W1182 (Or.inr (slot_ne (Or.inl (hw _ (List.mem_of_getElem? (i := 54) rfl))) (Or.inr (hw _ (List.mem_of_getElem? (i := 32) rfl))) (by decide) (t := .int) (t' := (.array .double)) (by decide) (by decide)))
  have c1183_7 := c1181_7.other W1182 (Ne.symm ne1)
  have c1183_8 := c1181_8.wr W1182
  have c1183_9 := c1181_9.other W1182 (Ne.symm ne_a1_b1166)
  have c1183_10 := c1181_10.wr W1182
  have c1183_11 := c1181_11.other W1182 (Ne.symm ne_a1_b1172)
  have c1183_12 := c1181_12.other W1182 (Ne.symm ne_a1_b1176)
  have c1183_13 := V1180.other W1182 (Ne.symm ne_a1_b1180)
  have Z1182 : n0 ≤ h1182.size := Nat.le_trans Z1180 (Nat.le_of_eq W1182.size.symm)
  have K1182 : Keep h0 h1182 [a1] := K1180.wr W1182 (Or.inl (List.mem_of_getElem? (i := 0) rfl))
  have N1182 := Fr.snoc X1182 N1178 g1
  obtain ⟨T1184, h1184, k1184, X1184, e1184, E1184, A1184, st1184⟩ := newP X1182 hx hZ (hw _ (List.mem_of_getElem? (i := 26) rfl)) e1182 (g := (mkF m 39 #[.val (.ref a1), .val (.ref tr), .val (.int (8 : Int32))] [(.int (8 : Int32)), (.ref a1)])) rfl (hb hby d2_39) rfl (by decide) (cap := 8) (by decide) (by decide) (by decide) (by decide)
  obtain ⟨b1184, g1184⟩ : ∃ z, z = h1182.size := ⟨_, rfl⟩
  rw [← g1184] at A1184 st1184
  have ne_a1_b1184 : a1 ≠ b1184 := Nat.ne_of_lt (Nat.lt_of_lt_of_le c1183_0.lt (Nat.le_of_eq g1184.symm))
  have ne_tr_b1184 : tr ≠ b1184 := Nat.ne_of_lt (Nat.lt_of_lt_of_le c1183_7.lt (Nat.le_of_eq g1184.symm))
  have ne_b1166_b1184 : b1166 ≠ b1184 := Nat.ne_of_lt (Nat.lt_of_lt_of_le c1183_9.lt (Nat.le_of_eq g1184.symm))
  have ne_b1172_b1184 : b1172 ≠ b1184 := Nat.ne_of_lt (Nat.lt_of_lt_of_le c1183_11.lt (Nat.le_of_eq g1184.symm))
  have ne_b1176_b1184 : b1176 ≠ b1184 := Nat.ne_of_lt (Nat.lt_of_lt_of_le c1183_12.lt (Nat.le_of_eq g1184.symm))
  have ne_b1180_b1184 : b1180 ≠ b1184 := Nat.ne_of_lt (Nat.lt_of_lt_of_le c1183_13.lt (Nat.le_of_eq g1184.symm))
  have g_b1184 : n0 ≤ b1184 := Nat.le_trans Z1182 (Nat.le_of_eq g1184.symm)
  have sz_b1184 : h0.size ≤ b1184 := Nat.le_trans K1182.1 (Nat.le_of_eq g1184.symm)
  have c1185_0 := c1183_0.ext E1184
  have c1185_1 := c1183_1.ext E1184
  have c1185_2 := c1183_2.ext E1184
  have c1185_3 := c1183_3.ext E1184
  have c1185_4 := Fw1182.ext E1184
  have c1185_5 := c1183_5.ext E1184
  have c1185_6 := c1183_6.ext E1184
  have c1185_7 := c1183_7.ext E1184
  have c1185_8 := c1183_8.ext E1184
  have c1185_9 := c1183_9.ext E1184
  have c1185_10 := c1183_10.ext E1184
  have c1185_11 := c1183_11.ext E1184
  have c1185_12 := c1183_12.ext E1184
  have c1185_13 := c1183_13.ext E1184
  have Z1184 : n0 ≤ h1184.size := Nat.le_trans Z1182 E1184.1
  have K1184 : Keep h0 h1184 [a1] := K1182.ext E1184
  have V1184 : Arv Z h1184 b1184 k1184 .boolean (8 : Int32) [(.int (0 : Int32)), (.int (0 : Int32)), (.int (0 : Int32)), (.int (0 : Int32)), (.int (0 : Int32)), (.int (0 : Int32)), (.int (0 : Int32)), (.int (0 : Int32))] (.int (0 : Int32)) := (Arv.new A1184 (by decide)).pad (pad_rep [] (.int (0 : Int32)) 8)
  obtain ⟨T1186, h1186, X1186, e1186, W1186, st1186⟩ := putF X1184 hx hZ hown (host := "") (Or.inl (hw _ (List.mem_of_getElem? (i := 33) rfl))) Via.refl e1184 c1185_5 c1185_0 (Or.inr ⟨(hw _ (List.mem_of_getElem? (i := 34) rfl)), rfl, hnm⟩) (hw _ (List.mem_of_getElem? (i := 6) rfl)) (ty := (.array .boolean)) (by decide) rfl rfl (g := (mkF m 41 #[.val (.ref a1), .val (.ref tr), .val (.int (8 : Int32))] [(.ref b1184), (.ref a1)])) rfl rfl (hb hby d2_41)
  have Fw1186 := c1185_5.same W1186
  have c1187_0 := c1185_0.wr W1186
  have c1187_1 := c1185_1.other W1186 (Or.inr (slot_ne (Or.inr (hw _ (List.mem_of_getElem? (i := 25) rfl))) (Or.inr (hw _ (List.mem_of_getElem? (i := 34) rfl))) (by decide) (t := (.array .double)) (t' := (.array .boolean)) (by decide) (by decide)))
  have c1187_2 := c1185_2.other W1186 (Or.inr (slot_ne (Or.inr (hw _ (List.mem_of_getElem? (i := 28) rfl))) (Or.inr (hw _ (List.mem_of_getElem? (i := 34) rfl))) (by decide) (t := (.array .boolean)) (t' := (.array .boolean)) (by decide) (by decide)))
  have c1187_3 := c1185_3.other W1186 (Or.inr (slot_ne (Or.inr (hw _ (List.mem_of_getElem? (i := 30) rfl))) (Or.inr (hw _ (List.mem_of_getElem? (i := 34) rfl))) (by decide) (t := (.array .int)) (t' := (.array .boolean)) (by decide) (by decide)))
  have c1187_4 := c1185_4.other W1186 (Or.inr (slot_ne (Or.inr (hw _ (List.mem_of_getElem? (i := 32) rfl))) (Or.inr (hw _ (List.mem_of_getElem? (i := 34) rfl))) (by decide) (t := (.array .double)) (t' := (.array .boolean)) (by decide) (by decide)))
  have c1187_6 := c1185_6.other W1186 (Or.inr (slot_ne (Or.inl (hw _ (List.mem_of_getElem? (i := 54) rfl))) (Or.inr (hw _ (List.mem_of_getElem? (i := 34) rfl))) (by decide) (t := .int) (t' := (.array .boolean)) (by decide) (by decide)))
  have c1187_7 := c1185_7.other W1186 (Ne.symm ne1)
  have c1187_8 := c1185_8.wr W1186
  have c1187_9 := c1185_9.other W1186 (Ne.symm ne_a1_b1166)
  have c1187_10 := c1185_10.wr W1186
  have c1187_11 := c1185_11.other W1186 (Ne.symm ne_a1_b1172)
  have c1187_12 := c1185_12.other W1186 (Ne.symm ne_a1_b1176)
  have c1187_13 := c1185_13.other W1186 (Ne.symm ne_a1_b1180)
  have c1187_14 := V1184.other W1186 (Ne.symm ne_a1_b1184)
  have Z1186 : n0 ≤ h1186.size := Nat.le_trans Z1184 (Nat.le_of_eq W1186.size.symm)
  have K1186 : Keep h0 h1186 [a1] := K1184.wr W1186 (Or.inl (List.mem_of_getElem? (i := 0) rfl))
  have N1186 := Fr.snoc X1186 N1182 g1
  have P1188 : ∀ t, Steps p.tables e below (T1186.setTop (mkF m 44 #[.val (.ref a1), .val (.ref tr), .val (.int (8 : Int32))] [])) t → Steps p.tables e below (s₁.setTop (entryFrame m #[(.ref a1), (.ref tr), (.int (8 : Int32))] 3)) t := fun t k => P0 t (by
    refine XS.aloadN X0.here hx rfl (hb hby d2_0) rfl rfl ?_
    show Steps p.tables e below (s₁.setTop (mkF m 1 #[.val (.ref a1), .val (.ref tr), .val (.int (8 : Int32))] [(.ref a1)])) _
    refine st1165 _ ?_
    show Steps p.tables e below (T1165.setTop (mkF m 4 #[.val (.ref a1), .val (.ref tr), .val (.int (8 : Int32))] [])) _
    refine XS.aloadN X1165.here hx rfl (hb hby d2_4) rfl rfl ?_
    show Steps p.tables e below (T1165.setTop (mkF m 5 #[.val (.ref a1), .val (.ref tr), .val (.int (8 : Int32))] [(.ref a1)])) _
    refine XS.aloadN X1165.here hx rfl (hb hby d2_5) rfl rfl ?_
    show Steps p.tables e below (T1165.setTop (mkF m 6 #[.val (.ref a1), .val (.ref tr), .val (.int (8 : Int32))] [(.ref tr), (.ref a1)])) _
    refine st1166 _ ?_
    show Steps p.tables e below (T1166.setTop (mkF m 9 #[.val (.ref a1), .val (.ref tr), .val (.int (8 : Int32))] [(.ref b1166), (.ref a1)])) _
    refine st1168 _ ?_
    show Steps p.tables e below (T1168.setTop (mkF m 12 #[.val (.ref a1), .val (.ref tr), .val (.int (8 : Int32))] [(.ref b1166), (.ref a1)])) _
    refine st1169 _ ?_
    show Steps p.tables e below (T1169.setTop (mkF m 15 #[.val (.ref a1), .val (.ref tr), .val (.int (8 : Int32))] [])) _
    refine XS.aloadN X1169.here hx rfl (hb hby d2_15) rfl rfl ?_
    show Steps p.tables e below (T1169.setTop (mkF m 16 #[.val (.ref a1), .val (.ref tr), .val (.int (8 : Int32))] [(.ref a1)])) _
    refine XS.aloadN X1169.here hx rfl (hb hby d2_16) rfl rfl ?_
    show Steps p.tables e below (T1169.setTop (mkF m 17 #[.val (.ref a1), .val (.ref tr), .val (.int (8 : Int32))] [(.ref tr), (.ref a1)])) _
    refine X1169.arraylength hx (by rw [e1169]; exact Ar1171.1) (State.isArrayOf_alike hZ.alike Ar1171.2.1) (g := (mkF m 17 #[.val (.ref a1), .val (.ref tr), .val (.int (8 : Int32))] [(.ref tr), (.ref a1)])) rfl rfl (hb hby d2_17) _ ?_
    rw [len_of S1171 M1171]
    show Steps p.tables e below (T1169.setTop (mkF m 18 #[.val (.ref a1), .val (.ref tr), .val (.int (8 : Int32))] [(.int (2 : Int32)), (.ref a1)])) _
    refine st1172 _ ?_
    show Steps p.tables e below (T1172.setTop (mkF m 20 #[.val (.ref a1), .val (.ref tr), .val (.int (8 : Int32))] [(.ref b1172), (.ref a1)])) _
    refine st1174 _ ?_
    show Steps p.tables e below (T1174.setTop (mkF m 23 #[.val (.ref a1), .val (.ref tr), .val (.int (8 : Int32))] [])) _
    refine XS.aloadN X1174.here hx rfl (hb hby d2_23) rfl rfl ?_
    show Steps p.tables e below (T1174.setTop (mkF m 24 #[.val (.ref a1), .val (.ref tr), .val (.int (8 : Int32))] [(.ref a1)])) _
    refine XS.iloadN X1174.here hx rfl (hb hby d2_24) rfl ?_
    show Steps p.tables e below (T1174.setTop (mkF m 25 #[.val (.ref a1), .val (.ref tr), .val (.int (8 : Int32))] [(.int (8 : Int32)), (.ref a1)])) _
    refine st1176 _ ?_
    show Steps p.tables e below (T1176.setTop (mkF m 27 #[.val (.ref a1), .val (.ref tr), .val (.int (8 : Int32))] [(.ref b1176), (.ref a1)])) _
    refine st1178 _ ?_
    show Steps p.tables e below (T1178.setTop (mkF m 30 #[.val (.ref a1), .val (.ref tr), .val (.int (8 : Int32))] [])) _
    refine XS.aloadN X1178.here hx rfl (hb hby d2_30) rfl rfl ?_
    show Steps p.tables e below (T1178.setTop (mkF m 31 #[.val (.ref a1), .val (.ref tr), .val (.int (8 : Int32))] [(.ref a1)])) _
    refine XS.iloadN X1178.here hx rfl (hb hby d2_31) rfl ?_
    show Steps p.tables e below (T1178.setTop (mkF m 32 #[.val (.ref a1), .val (.ref tr), .val (.int (8 : Int32))] [(.int (8 : Int32)), (.ref a1)])) _
    refine st1180 _ ?_
    show Steps p.tables e below (T1180.setTop (mkF m 34 #[.val (.ref a1), .val (.ref tr), .val (.int (8 : Int32))] [(.ref b1180), (.ref a1)])) _
    refine st1182 _ ?_
    show Steps p.tables e below (T1182.setTop (mkF m 37 #[.val (.ref a1), .val (.ref tr), .val (.int (8 : Int32))] [])) _
    refine XS.aloadN X1182.here hx rfl (hb hby d2_37) rfl rfl ?_
    show Steps p.tables e below (T1182.setTop (mkF m 38 #[.val (.ref a1), .val (.ref tr), .val (.int (8 : Int32))] [(.ref a1)])) _
    refine XS.iloadN X1182.here hx rfl (hb hby d2_38) rfl ?_
    show Steps p.tables e below (T1182.setTop (mkF m 39 #[.val (.ref a1), .val (.ref tr), .val (.int (8 : Int32))] [(.int (8 : Int32)), (.ref a1)])) _
    refine st1184 _ ?_
    show Steps p.tables e below (T1184.setTop (mkF m 41 #[.val (.ref a1), .val (.ref tr), .val (.int (8 : Int32))] [(.ref b1184), (.ref a1)])) _
    refine st1186 _ ?_
    show Steps p.tables e below (T1186.setTop (mkF m 44 #[.val (.ref a1), .val (.ref tr), .val (.int (8 : Int32))] [])) _
    exact k)
  obtain ⟨fs, hr, hrun, hended, hW, hsame⟩ := X1186.leave (v := none) (fun _ => rfl)
  refine ⟨_, _, P1188 _ ?_, hrun, hended, _, _, rfl, ?_, ⟨_, rfl⟩, hW, hsame.mono (by decide) (by decide)⟩
  · exact X1186.returnOut hx Bd.returns (hb hby d2_44) hr
  · show Q_init Z a1 tr kt y0 y1 h0 n0 _ T1186.heap _
    rw [e1186]
    exact ⟨b1166, b1172, b1176, b1180, b1184, kt, k1172, k1176, k1180, k1184, rfl, N1186, K1186, sz_b1166, sz_b1172, sz_b1176, sz_b1180, sz_b1184, ⟨ne_a1_b1166, ne_a1_b1172, ne_a1_b1176, ne_a1_b1180, ne_a1_b1184, ne_b1166_b1172, ne_b1166_b1176, ne_b1166_b1180, ne_b1166_b1184, ne_b1172_b1176, ne_b1172_b1180, ne_b1172_b1184, ne_b1176_b1180, ne_b1176_b1184, ne_b1180_b1184⟩, c1187_0, c1187_1, c1187_2, c1187_3, c1187_4, Fw1186, c1187_6, c1187_9, c1187_11, c1187_12, own_d8 c1187_13, c1187_14⟩
theorem ef_law (m : MethodId) (x0 : Int32) (x1 : Int32) (x2 : Int32) (x3 : Int32) (x4 : Int32) (x5 : Int32) : entryFrame m #[(.int x0), (.int x1), (.int x2), (.int x3), (.int x4), (.int x5)] maxLocals = mkF m 0 #[.val (.int x0), .val (.int x1), .val (.int x2), .val (.int x3), .val (.int x4), .val (.int x5), .unset, .unset, .unset, .unset, .unset, .unset, .unset, .unset, .unset, .unset, .unset, .unset, .unset, .unset, .unset, .unset, .unset, .unset, .unset, .unset, .unset, .unset, .unset, .unset] [] := by first | (simp [entryFrame, mkF, argsToLocals, Value.category, maxLocals]; done) | rfl
def Q_law (Z : State) (u1 : Int32) (u2 : Int32) (u3 : Int32) (u4 : Int32) (u5 : Int32) (u6 : Int32) (h0 : Heap) (n0 : Nat) (v : Option Value) (h : Heap) (L : List Loc) : Prop := v = some (.int 1) ∧ Fr n0 L
theorem pd_3 : parseMethodDescriptor "(I)[I" = some ⟨[.int], some (.array .int)⟩ := by decide +kernel
theorem pd_4 : parseMethodDescriptor "([DI)V" = some ⟨[(.array .double), .int], none⟩ := by decide +kernel
theorem pd_5 : parseMethodDescriptor "([ID)Z" = some ⟨[(.array .int), .double], some .boolean⟩ := by decide +kernel
theorem pd_6 : parseMethodDescriptor "()I" = some ⟨[], some .int⟩ := by decide +kernel
theorem pd_7 : parseMethodDescriptor "([I)Z" = some ⟨[(.array .int)], some .boolean⟩ := by decide +kernel
set_option maxRecDepth 65536 in
set_option maxHeartbeats 40000000 in
theorem rm_law (l : Launch) (Z : State) (a0 : Array Value) (hw : ∀ d ∈ tables_1, d.before a0 Z = true) (ws : List Jvm.Cond) (u1 : Int32) (u2 : Int32) (u3 : Int32) (u4 : Int32) (u5 : Int32) (u6 : Int32) (h0 : Heap) (n0 : Nat) (Z0 : n0 ≤ h0.size) :
    MetFree l x (head1 (Jvm.Cond.code x code maxLocals ret :: ws) room_1) (fun a U => a = #[(.int u1), (.int u2), (.int u3), (.int u4), (.int u5), (.int u6)] ∧ Z.Warmed39 U.vm ∧ U.heap = h0) (fun _ _ _ _ _ => True) (fun _ U o U' => ∃ v L, o = .returned v ∧ Q_law Z u1 u2 u3 u4 u5 u6 h0 n0 v U'.heap L ∧ FrameEnd U o U' L room_1.cells room_1.slots) := by
  refine MetFree.of_bodySF (plainFor_of_name pn_2) hisR ?_
  intro p e s m args below meth c s₁ Bd hml0 hP hK
  obtain ⟨rfl, hZ, hh⟩ := hP
  have hx := Bd.exec
  have hby := Bd.bytes
  have hml : c.maxLocals = 30 := hml0
  have hown : s.vm.findClass "com/example/tributary/tributary/solver/RoomsUndoPinLaw" = some m.cls := findClass_of_methodNamed Bd.named
  have hnm := (name_of_methodNamed Bd.named Bd.method).1
  have X0 : Stand p l e room_1 s m #[(.int u1), (.int u2), (.int u3), (.int u4), (.int u5), (.int u6)] below meth c s₁ [] 0 0 := Stand.of_body Bd
  have e0 : s₁.heap = h0 := by rw [← hh, Bd.state]; rfl
  have N0 := Fr.nil n0
  have K0 : Keep h0 h0 [] := Keep.refl h0 []
  have P0 : ∀ t, Steps p.tables e below (s₁.setTop (mkF m 0 #[.val (.int u1), .val (.int u2), .val (.int u3), .val (.int u4), .val (.int u5), .val (.int u6), .unset, .unset, .unset, .unset, .unset, .unset, .unset, .unset, .unset, .unset, .unset, .unset, .unset, .unset, .unset, .unset, .unset, .unset, .unset, .unset, .unset, .unset, .unset, .unset] [])) t → Steps p.tables e below (s₁.setTop (entryFrame m #[(.int u1), (.int u2), (.int u3), (.int u4), (.int u5), (.int u6)] maxLocals)) t := fun t k => castTop (ef_law m u1 u2 u3 u4 u5 u6) k
  have P1189 : ∀ t, Steps p.tables e below (s₁.setTop (mkF m 18 #[.val (.int u1), .val (.int u2), .val (.int u3), .val (.int u4), .val (.int u5), .val (.int u6), .val (.int (u1 &&& (15 : Int32))), .val (.int (u2 &&& (15 : Int32))), .val (.int (u3 &&& (15 : Int32))), .unset, .unset, .unset, .unset, .unset, .unset, .unset, .unset, .unset, .unset, .unset, .unset, .unset, .unset, .unset, .unset, .unset, .unset, .unset, .unset, .unset] [])) t → Steps p.tables e below (s₁.setTop (entryFrame m #[(.int u1), (.int u2), (.int u3), (.int u4), (.int u5), (.int u6)] maxLocals)) t := fun t k => P0 t (by
    refine XS.iloadN X0.here hx rfl (hb hby at_0) rfl ?_
    show Steps p.tables e below (s₁.setTop (mkF m 1 #[.val (.int u1), .val (.int u2), .val (.int u3), .val (.int u4), .val (.int u5), .val (.int u6), .unset, .unset, .unset, .unset, .unset, .unset, .unset, .unset, .unset, .unset, .unset, .unset, .unset, .unset, .unset, .unset, .unset, .unset, .unset, .unset, .unset, .unset, .unset, .unset] [(.int u1)])) _
    refine XS.bipush X0.here hx rfl (hb hby at_1) ?_
    show Steps p.tables e below (s₁.setTop (mkF m 3 #[.val (.int u1), .val (.int u2), .val (.int u3), .val (.int u4), .val (.int u5), .val (.int u6), .unset, .unset, .unset, .unset, .unset, .unset, .unset, .unset, .unset, .unset, .unset, .unset, .unset, .unset, .unset, .unset, .unset, .unset, .unset, .unset, .unset, .unset, .unset, .unset] [(.int (15 : Int32)), (.int u1)])) _
    refine XS.iand X0.here hx rfl (hb hby at_3) rfl ?_
    show Steps p.tables e below (s₁.setTop (mkF m 4 #[.val (.int u1), .val (.int u2), .val (.int u3), .val (.int u4), .val (.int u5), .val (.int u6), .unset, .unset, .unset, .unset, .unset, .unset, .unset, .unset, .unset, .unset, .unset, .unset, .unset, .unset, .unset, .unset, .unset, .unset, .unset, .unset, .unset, .unset, .unset, .unset] [(.int (u1 &&& (15 : Int32)))])) _
    refine XS.istore X0.here hx rfl (hb hby at_4) rfl (l' := #[.val (.int u1), .val (.int u2), .val (.int u3), .val (.int u4), .val (.int u5), .val (.int u6), .val (.int (u1 &&& (15 : Int32))), .unset, .unset, .unset, .unset, .unset, .unset, .unset, .unset, .unset, .unset, .unset, .unset, .unset, .unset, .unset, .unset, .unset, .unset, .unset, .unset, .unset, .unset, .unset]) rfl ?_
    show Steps p.tables e below (s₁.setTop (mkF m 6 #[.val (.int u1), .val (.int u2), .val (.int u3), .val (.int u4), .val (.int u5), .val (.int u6), .val (.int (u1 &&& (15 : Int32))), .unset, .unset, .unset, .unset, .unset, .unset, .unset, .unset, .unset, .unset, .unset, .unset, .unset, .unset, .unset, .unset, .unset, .unset, .unset, .unset, .unset, .unset, .unset] [])) _
    refine XS.iloadN X0.here hx rfl (hb hby at_6) rfl ?_
    show Steps p.tables e below (s₁.setTop (mkF m 7 #[.val (.int u1), .val (.int u2), .val (.int u3), .val (.int u4), .val (.int u5), .val (.int u6), .val (.int (u1 &&& (15 : Int32))), .unset, .unset, .unset, .unset, .unset, .unset, .unset, .unset, .unset, .unset, .unset, .unset, .unset, .unset, .unset, .unset, .unset, .unset, .unset, .unset, .unset, .unset, .unset] [(.int u2)])) _
    refine XS.bipush X0.here hx rfl (hb hby at_7) ?_
    show Steps p.tables e below (s₁.setTop (mkF m 9 #[.val (.int u1), .val (.int u2), .val (.int u3), .val (.int u4), .val (.int u5), .val (.int u6), .val (.int (u1 &&& (15 : Int32))), .unset, .unset, .unset, .unset, .unset, .unset, .unset, .unset, .unset, .unset, .unset, .unset, .unset, .unset, .unset, .unset, .unset, .unset, .unset, .unset, .unset, .unset, .unset] [(.int (15 : Int32)), (.int u2)])) _
    refine XS.iand X0.here hx rfl (hb hby at_9) rfl ?_
    show Steps p.tables e below (s₁.setTop (mkF m 10 #[.val (.int u1), .val (.int u2), .val (.int u3), .val (.int u4), .val (.int u5), .val (.int u6), .val (.int (u1 &&& (15 : Int32))), .unset, .unset, .unset, .unset, .unset, .unset, .unset, .unset, .unset, .unset, .unset, .unset, .unset, .unset, .unset, .unset, .unset, .unset, .unset, .unset, .unset, .unset, .unset] [(.int (u2 &&& (15 : Int32)))])) _
    refine XS.istore X0.here hx rfl (hb hby at_10) rfl (l' := #[.val (.int u1), .val (.int u2), .val (.int u3), .val (.int u4), .val (.int u5), .val (.int u6), .val (.int (u1 &&& (15 : Int32))), .val (.int (u2 &&& (15 : Int32))), .unset, .unset, .unset, .unset, .unset, .unset, .unset, .unset, .unset, .unset, .unset, .unset, .unset, .unset, .unset, .unset, .unset, .unset, .unset, .unset, .unset, .unset]) rfl ?_
    show Steps p.tables e below (s₁.setTop (mkF m 12 #[.val (.int u1), .val (.int u2), .val (.int u3), .val (.int u4), .val (.int u5), .val (.int u6), .val (.int (u1 &&& (15 : Int32))), .val (.int (u2 &&& (15 : Int32))), .unset, .unset, .unset, .unset, .unset, .unset, .unset, .unset, .unset, .unset, .unset, .unset, .unset, .unset, .unset, .unset, .unset, .unset, .unset, .unset, .unset, .unset] [])) _
    refine XS.iloadN X0.here hx rfl (hb hby at_12) rfl ?_
    show Steps p.tables e below (s₁.setTop (mkF m 13 #[.val (.int u1), .val (.int u2), .val (.int u3), .val (.int u4), .val (.int u5), .val (.int u6), .val (.int (u1 &&& (15 : Int32))), .val (.int (u2 &&& (15 : Int32))), .unset, .unset, .unset, .unset, .unset, .unset, .unset, .unset, .unset, .unset, .unset, .unset, .unset, .unset, .unset, .unset, .unset, .unset, .unset, .unset, .unset, .unset] [(.int u3)])) _
    refine XS.bipush X0.here hx rfl (hb hby at_13) ?_
    show Steps p.tables e below (s₁.setTop (mkF m 15 #[.val (.int u1), .val (.int u2), .val (.int u3), .val (.int u4), .val (.int u5), .val (.int u6), .val (.int (u1 &&& (15 : Int32))), .val (.int (u2 &&& (15 : Int32))), .unset, .unset, .unset, .unset, .unset, .unset, .unset, .unset, .unset, .unset, .unset, .unset, .unset, .unset, .unset, .unset, .unset, .unset, .unset, .unset, .unset, .unset] [(.int (15 : Int32)), (.int u3)])) _
    refine XS.iand X0.here hx rfl (hb hby at_15) rfl ?_
    show Steps p.tables e below (s₁.setTop (mkF m 16 #[.val (.int u1), .val (.int u2), .val (.int u3), .val (.int u4), .val (.int u5), .val (.int u6), .val (.int (u1 &&& (15 : Int32))), .val (.int (u2 &&& (15 : Int32))), .unset, .unset, .unset, .unset, .unset, .unset, .unset, .unset, .unset, .unset, .unset, .unset, .unset, .unset, .unset, .unset, .unset, .unset, .unset, .unset, .unset, .unset] [(.int (u3 &&& (15 : Int32)))])) _
    refine XS.istore X0.here hx rfl (hb hby at_16) rfl (l' := #[.val (.int u1), .val (.int u2), .val (.int u3), .val (.int u4), .val (.int u5), .val (.int u6), .val (.int (u1 &&& (15 : Int32))), .val (.int (u2 &&& (15 : Int32))), .val (.int (u3 &&& (15 : Int32))), .unset, .unset, .unset, .unset, .unset, .unset, .unset, .unset, .unset, .unset, .unset, .unset, .unset, .unset, .unset, .unset, .unset, .unset, .unset, .unset, .unset]) rfl ?_
    show Steps p.tables e below (s₁.setTop (mkF m 18 #[.val (.int u1), .val (.int u2), .val (.int u3), .val (.int u4), .val (.int u5), .val (.int u6), .val (.int (u1 &&& (15 : Int32))), .val (.int (u2 &&& (15 : Int32))), .val (.int (u3 &&& (15 : Int32))), .unset, .unset, .unset, .unset, .unset, .unset, .unset, .unset, .unset, .unset, .unset, .unset, .unset, .unset, .unset, .unset, .unset, .unset, .unset, .unset, .unset] [])) _
    exact k)
  obtain ⟨y0, hy0, qy0⟩ := own_nib u1
  rw [qy0] at P1189
  obtain ⟨y1, hy1, qy1⟩ := own_nib u2
  rw [qy1] at P1189
  obtain ⟨z1, hz1, qz1⟩ := own_nib u3
  rw [qz1] at P1189
  obtain ⟨T1190, h1190, k1190, X1190, e1190, E1190, A1190, st1190⟩ := newP X0 hx hZ (hw _ (List.mem_of_getElem? (i := 0) rfl)) e0 (g := (mkF m 19 #[.val (.int u1), .val (.int u2), .val (.int u3), .val (.int u4), .val (.int u5), .val (.int u6), .val (.int (Int32.ofNat y0)), .val (.int (Int32.ofNat y1)), .val (.int (Int32.ofNat z1)), .unset, .unset, .unset, .unset, .unset, .unset, .unset, .unset, .unset, .unset, .unset, .unset, .unset, .unset, .unset, .unset, .unset, .unset, .unset, .unset, .unset] [(.int (2 : Int32))])) rfl (hb hby at_19) rfl (by decide) (cap := 2) (by decide) (by decide) (by decide) (by decide)
  obtain ⟨b1190, g1190⟩ : ∃ z, z = h0.size := ⟨_, rfl⟩
  rw [← g1190] at A1190 st1190
  have g_b1190 : n0 ≤ b1190 := Nat.le_trans Z0 (Nat.le_of_eq g1190.symm)
  have sz_b1190 : h0.size ≤ b1190 := Nat.le_trans K0.1 (Nat.le_of_eq g1190.symm)
  have Z1190 : n0 ≤ h1190.size := Nat.le_trans Z0 E1190.1
  have K1190 : Keep h0 h1190 [] := K0.ext E1190
  have V1190 : Arv Z h1190 b1190 k1190 .int (2 : Int32) [(.int (0 : Int32)), (.int (0 : Int32))] (.int (0 : Int32)) := (Arv.new A1190 (by decide)).pad (pad_rep [] (.int (0 : Int32)) 2)
  obtain ⟨cl1192, Ar1192, q1192, S1192, M1192, H1192, G1192⟩ := id V1190
  have hin1192 : ¬ ((0 : Int32) < 0 ∨ cl1192.slots.size ≤ ((0 : Int32)).toNatClampNeg) := inb_of S1192 ⟨by decide, by decide⟩
  obtain ⟨T1192, h1192, X1192, e1192, W1192, st1192⟩ := stI X1190 hx hZ e1190 Ar1192 (j := (0 : Int32)) hin1192 (g := (mkF m 24 #[.val (.int u1), .val (.int u2), .val (.int u3), .val (.int u4), .val (.int u5), .val (.int u6), .val (.int (Int32.ofNat y0)), .val (.int (Int32.ofNat y1)), .val (.int (Int32.ofNat z1)), .unset, .unset, .unset, .unset, .unset, .unset, .unset, .unset, .unset, .unset, .unset, .unset, .unset, .unset, .unset, .unset, .unset, .unset, .unset, .unset, .unset] [(.int (0 : Int32)), (.int (0 : Int32)), (.ref b1190), (.ref b1190)])) rfl rfl (hb hby at_24)
  have V1192 := Arv.set Ar1192 q1192 S1192 M1192 H1192 G1192 rfl W1192 0 rfl (Nat.le_of_ble_eq_true rfl)
  have Z1192 : n0 ≤ h1192.size := Nat.le_trans Z1190 (Nat.le_of_eq W1192.size.symm)
  have K1192 : Keep h0 h1192 [] := K1190.wr W1192 (Or.inr sz_b1190)
  have N1192 := Fr.snoc X1192 N0 g_b1190
  obtain ⟨cl1194, Ar1194, q1194, S1194, M1194, H1194, G1194⟩ := id V1192
  have hin1194 : ¬ ((1 : Int32) < 0 ∨ cl1194.slots.size ≤ ((1 : Int32)).toNatClampNeg) := inb_of S1194 ⟨by decide, by decide⟩
  obtain ⟨T1194, h1194, X1194, e1194, W1194, st1194⟩ := stI X1192 hx hZ e1192 Ar1194 (j := (1 : Int32)) hin1194 (g := (mkF m 28 #[.val (.int u1), .val (.int u2), .val (.int u3), .val (.int u4), .val (.int u5), .val (.int u6), .val (.int (Int32.ofNat y0)), .val (.int (Int32.ofNat y1)), .val (.int (Int32.ofNat z1)), .unset, .unset, .unset, .unset, .unset, .unset, .unset, .unset, .unset, .unset, .unset, .unset, .unset, .unset, .unset, .unset, .unset, .unset, .unset, .unset, .unset] [(.int (1 : Int32)), (.int (1 : Int32)), (.ref b1190), (.ref b1190)])) rfl rfl (hb hby at_28)
  have V1194 := Arv.set Ar1194 q1194 S1194 M1194 H1194 G1194 rfl W1194 1 rfl (Nat.le_of_ble_eq_true rfl)
  have Z1194 : n0 ≤ h1194.size := Nat.le_trans Z1192 (Nat.le_of_eq W1194.size.symm)
  have K1194 : Keep h0 h1194 [] := K1192.wr W1194 (Or.inr sz_b1190)
  have N1194 := Fr.snoc X1194 N1192 g_b1190
  obtain ⟨T1196, h1196, k1196, X1196, e1196, E1196, A1196, st1196⟩ := newP X1194 hx hZ (hw _ (List.mem_of_getElem? (i := 0) rfl)) e1194 (g := (mkF m 32 #[.val (.int u1), .val (.int u2), .val (.int u3), .val (.int u4), .val (.int u5), .val (.int u6), .val (.int (Int32.ofNat y0)), .val (.int (Int32.ofNat y1)), .val (.int (Int32.ofNat z1)), .val (.ref b1190), .unset, .unset, .unset, .unset, .unset, .unset, .unset, .unset, .unset, .unset, .unset, .unset, .unset, .unset, .unset, .unset, .unset, .unset, .unset, .unset] [(.int (1 : Int32))])) rfl (hb hby at_32) rfl (by decide) (cap := 1) (by decide) (by decide) (by decide) (by decide)
  obtain ⟨b1196, g1196⟩ : ∃ z, z = h1194.size := ⟨_, rfl⟩
  rw [← g1196] at A1196 st1196
  have ne_b1190_b1196 : b1190 ≠ b1196 := Nat.ne_of_lt (Nat.lt_of_lt_of_le V1194.lt (Nat.le_of_eq g1196.symm))
  have g_b1196 : n0 ≤ b1196 := Nat.le_trans Z1194 (Nat.le_of_eq g1196.symm)
  have sz_b1196 : h0.size ≤ b1196 := Nat.le_trans K1194.1 (Nat.le_of_eq g1196.symm)
  have c1197_0 := V1194.ext E1196
  have Z1196 : n0 ≤ h1196.size := Nat.le_trans Z1194 E1196.1
  have K1196 : Keep h0 h1196 [] := K1194.ext E1196
  have V1196 : Arv Z h1196 b1196 k1196 .int (1 : Int32) [(.int (0 : Int32))] (.int (0 : Int32)) := (Arv.new A1196 (by decide)).pad (pad_rep [] (.int (0 : Int32)) 1)
  obtain ⟨cl1198, Ar1198, q1198, S1198, M1198, H1198, G1198⟩ := id V1196
  have hin1198 : ¬ ((0 : Int32) < 0 ∨ cl1198.slots.size ≤ ((0 : Int32)).toNatClampNeg) := inb_of S1198 ⟨by decide, by decide⟩
  obtain ⟨T1198, h1198, X1198, e1198, W1198, st1198⟩ := stI X1196 hx hZ e1196 Ar1198 (j := (0 : Int32)) hin1198 (g := (mkF m 37 #[.val (.int u1), .val (.int u2), .val (.int u3), .val (.int u4), .val (.int u5), .val (.int u6), .val (.int (Int32.ofNat y0)), .val (.int (Int32.ofNat y1)), .val (.int (Int32.ofNat z1)), .val (.ref b1190), .unset, .unset, .unset, .unset, .unset, .unset, .unset, .unset, .unset, .unset, .unset, .unset, .unset, .unset, .unset, .unset, .unset, .unset, .unset, .unset] [(.int (0 : Int32)), (.int (0 : Int32)), (.ref b1196), (.ref b1196)])) rfl rfl (hb hby at_37)
  have V1198 := Arv.set Ar1198 q1198 S1198 M1198 H1198 G1198 rfl W1198 0 rfl (Nat.le_of_ble_eq_true rfl)
  have c1199_0 := c1197_0.other W1198 ne_b1190_b1196
  have Z1198 : n0 ≤ h1198.size := Nat.le_trans Z1196 (Nat.le_of_eq W1198.size.symm)
  have K1198 : Keep h0 h1198 [] := K1196.wr W1198 (Or.inr sz_b1196)
  have N1198 := Fr.snoc X1198 N1194 g_b1196
  obtain ⟨T1200, h1200, k1200, X1200, e1200, E1200, A1200, st1200⟩ := newP X1198 hx hZ (hw _ (List.mem_of_getElem? (i := 0) rfl)) e1198 (g := (mkF m 41 #[.val (.int u1), .val (.int u2), .val (.int u3), .val (.int u4), .val (.int u5), .val (.int u6), .val (.int (Int32.ofNat y0)), .val (.int (Int32.ofNat y1)), .val (.int (Int32.ofNat z1)), .val (.ref b1190), .val (.ref b1196), .unset, .unset, .unset, .unset, .unset, .unset, .unset, .unset, .unset, .unset, .unset, .unset, .unset, .unset, .unset, .unset, .unset, .unset, .unset] [(.int (1 : Int32))])) rfl (hb hby at_41) rfl (by decide) (cap := 1) (by decide) (by decide) (by decide) (by decide)
  obtain ⟨b1200, g1200⟩ : ∃ z, z = h1198.size := ⟨_, rfl⟩
  rw [← g1200] at A1200 st1200
  have ne_b1190_b1200 : b1190 ≠ b1200 := Nat.ne_of_lt (Nat.lt_of_lt_of_le c1199_0.lt (Nat.le_of_eq g1200.symm))
  have ne_b1196_b1200 : b1196 ≠ b1200 := Nat.ne_of_lt (Nat.lt_of_lt_of_le V1198.lt (Nat.le_of_eq g1200.symm))
  have g_b1200 : n0 ≤ b1200 := Nat.le_trans Z1198 (Nat.le_of_eq g1200.symm)
  have sz_b1200 : h0.size ≤ b1200 := Nat.le_trans K1198.1 (Nat.le_of_eq g1200.symm)
  have c1201_0 := c1199_0.ext E1200
  have c1201_1 := V1198.ext E1200
  have Z1200 : n0 ≤ h1200.size := Nat.le_trans Z1198 E1200.1
  have K1200 : Keep h0 h1200 [] := K1198.ext E1200
  have V1200 : Arv Z h1200 b1200 k1200 .int (1 : Int32) [(.int (0 : Int32))] (.int (0 : Int32)) := (Arv.new A1200 (by decide)).pad (pad_rep [] (.int (0 : Int32)) 1)
  obtain ⟨cl1202, Ar1202, q1202, S1202, M1202, H1202, G1202⟩ := id V1200
  have hin1202 : ¬ ((0 : Int32) < 0 ∨ cl1202.slots.size ≤ ((0 : Int32)).toNatClampNeg) := inb_of S1202 ⟨by decide, by decide⟩
  obtain ⟨T1202, h1202, X1202, e1202, W1202, st1202⟩ := stI X1200 hx hZ e1200 Ar1202 (j := (0 : Int32)) hin1202 (g := (mkF m 46 #[.val (.int u1), .val (.int u2), .val (.int u3), .val (.int u4), .val (.int u5), .val (.int u6), .val (.int (Int32.ofNat y0)), .val (.int (Int32.ofNat y1)), .val (.int (Int32.ofNat z1)), .val (.ref b1190), .val (.ref b1196), .unset, .unset, .unset, .unset, .unset, .unset, .unset, .unset, .unset, .unset, .unset, .unset, .unset, .unset, .unset, .unset, .unset, .unset, .unset] [(.int (1 : Int32)), (.int (0 : Int32)), (.ref b1200), (.ref b1200)])) rfl rfl (hb hby at_46)
  have V1202 := Arv.set Ar1202 q1202 S1202 M1202 H1202 G1202 rfl W1202 0 rfl (Nat.le_of_ble_eq_true rfl)
  have c1203_0 := c1201_0.other W1202 ne_b1190_b1200
  have c1203_1 := c1201_1.other W1202 ne_b1196_b1200
  have Z1202 : n0 ≤ h1202.size := Nat.le_trans Z1200 (Nat.le_of_eq W1202.size.symm)
  have K1202 : Keep h0 h1202 [] := K1200.wr W1202 (Or.inr sz_b1200)
  have N1202 := Fr.snoc X1202 N1198 g_b1200
  obtain ⟨_, _, ⟨T1204, L1204, k1204, n1204⟩, -, X1204, ⟨Lc1204, hQ1204, l1204, y1204, z1204⟩, st1204⟩ := Jvm.LawKit.callS X1202 hx (y := (⟨"com/example/tributary/tributary/solver/RoomsUndoPinLaw", "route", "(I)[I"⟩ : MethodName)) hown (mvT hZ (hw _ (List.mem_of_getElem? (i := 1) rfl))) (mvT hZ (hw _ (List.mem_of_getElem? (i := 2) rfl))) (mvT hZ (hw _ (List.mem_of_getElem? (i := 3) rfl))) (mvT hZ (hw _ (List.mem_of_getElem? (i := 4) rfl))) (by decide) (backOf (W := 0) (rm_route l Z a0 hw [] (u4 &&& (3 : Int32)) h1202 n0 Z1202 ) hZ (hw _ (List.mem_of_getElem? (i := 4) rfl)) (hw _ (List.mem_of_getElem? (i := 3) rfl)) (by decide) (by decide)) (g := (mkF m 52 #[.val (.int u1), .val (.int u2), .val (.int u3), .val (.int u4), .val (.int u5), .val (.int u6), .val (.int (Int32.ofNat y0)), .val (.int (Int32.ofNat y1)), .val (.int (Int32.ofNat z1)), .val (.ref b1190), .val (.ref b1196), .val (.ref b1200), .unset, .unset, .unset, .unset, .unset, .unset, .unset, .unset, .unset, .unset, .unset, .unset, .unset, .unset, .unset, .unset, .unset, .unset] [(.int (u4 &&& (3 : Int32)))])) rfl (by rw [hml]; rfl) (argsL := [(.int (u4 &&& (3 : Int32)))]) (rest := []) (lenOf pd_3 rfl) rfl (by show 2 * 0 + _ ≤ _; exact Nat.le_of_eq rfl) (hb hby at_52) (fun _ _ => ⟨rfl, e1202, (by decide : 3 + 1 ≤ _), (by decide : 4 + 2 ≤ _)⟩)
  dsimp only [Pt.U, Pt.locs, Pt.cells, Pt.slots] at X1204 l1204 y1204 z1204 st1204 hQ1204
  subst l1204 y1204 z1204
  obtain ⟨t2, kt2, rfl, N1204q, Kt2, hst2, Rt2⟩ := hQ1204
  have N1204 := Fr.app N1202 N1204q
  have ne_b1190_t2 : b1190 ≠ t2 := Nat.ne_of_lt (Nat.lt_of_lt_of_le c1203_0.lt hst2)
  have ne_b1196_t2 : b1196 ≠ t2 := Nat.ne_of_lt (Nat.lt_of_lt_of_le c1203_1.lt hst2)
  have ne_b1200_t2 : b1200 ≠ t2 := Nat.ne_of_lt (Nat.lt_of_lt_of_le V1202.lt hst2)
  have g_t2 : n0 ≤ t2 := Nat.le_trans Z1202 hst2
  have sz_t2 : h0.size ≤ t2 := Nat.le_trans K1202.1 hst2
  have c1205_0 := c1203_0.keep Kt2 nin0
  have c1205_1 := c1203_1.keep Kt2 nin0
  have c1205_2 := V1202.keep Kt2 nin0
  have Z1204 : n0 ≤ T1204.heap.size := Nat.le_trans Z1202 Kt2.1
  have K1204 : Keep h0 T1204.heap [] := K1202.trans Kt2 all0
  obtain ⟨_, _, ⟨T1206, L1206, k1206, n1206⟩, -, X1206, ⟨Lc1206, hQ1206, l1206, y1206, z1206⟩, st1206⟩ := Jvm.LawKit.callS X1204 hx (y := (⟨"com/example/tributary/tributary/solver/RoomsUndoPinLaw", "route", "(I)[I"⟩ : MethodName)) hown (mvT hZ (hw _ (List.mem_of_getElem? (i := 1) rfl))) (mvT hZ (hw _ (List.mem_of_getElem? (i := 2) rfl))) (mvT hZ (hw _ (List.mem_of_getElem? (i := 3) rfl))) (mvT hZ (hw _ (List.mem_of_getElem? (i := 4) rfl))) (by decide) (backOf (W := 0) (rm_route l Z a0 hw [] (((u4.toUInt32 >>> ((2 : Int32) &&& 31).toUInt32).toInt32) &&& (3 : Int32)) T1204.heap n0 Z1204 ) hZ (hw _ (List.mem_of_getElem? (i := 4) rfl)) (hw _ (List.mem_of_getElem? (i := 3) rfl)) (by decide) (by decide)) (g := (mkF m 62 #[.val (.int u1), .val (.int u2), .val (.int u3), .val (.int u4), .val (.int u5), .val (.int u6), .val (.int (Int32.ofNat y0)), .val (.int (Int32.ofNat y1)), .val (.int (Int32.ofNat z1)), .val (.ref b1190), .val (.ref b1196), .val (.ref b1200), .val (.ref t2), .unset, .unset, .unset, .unset, .unset, .unset, .unset, .unset, .unset, .unset, .unset, .unset, .unset, .unset, .unset, .unset, .unset] [(.int (((u4.toUInt32 >>> ((2 : Int32) &&& 31).toUInt32).toInt32) &&& (3 : Int32)))])) rfl (by rw [hml]; rfl) (argsL := [(.int (((u4.toUInt32 >>> ((2 : Int32) &&& 31).toUInt32).toInt32) &&& (3 : Int32)))]) (rest := []) (lenOf pd_3 rfl) rfl (by show 2 * 0 + _ ≤ _; exact Nat.le_of_eq rfl) (hb hby at_62) (fun _ _ => ⟨rfl, rfl, (by decide : 4 + 1 ≤ _), (by decide : 6 + 2 ≤ _)⟩)
  dsimp only [Pt.U, Pt.locs, Pt.cells, Pt.slots] at X1206 l1206 y1206 z1206 st1206 hQ1206
  subst l1206 y1206 z1206
  obtain ⟨t3, kt3, rfl, N1206q, Kt3, hst3, Rt3⟩ := hQ1206
  have N1206 := Fr.app N1204 N1206q
  have ne_b1190_t3 : b1190 ≠ t3 := Nat.ne_of_lt (Nat.lt_of_lt_of_le c1205_0.lt hst3)
  have ne_b1196_t3 : b1196 ≠ t3 := Nat.ne_of_lt (Nat.lt_of_lt_of_le c1205_1.lt hst3)
  have ne_b1200_t3 : b1200 ≠ t3 := Nat.ne_of_lt (Nat.lt_of_lt_of_le c1205_2.lt hst3)
  have ne_t2_t3 : t2 ≠ t3 := Nat.ne_of_lt (Nat.lt_of_lt_of_le Rt2.lt hst3)
  have g_t3 : n0 ≤ t3 := Nat.le_trans Z1204 hst3
  have sz_t3 : h0.size ≤ t3 := Nat.le_trans K1204.1 hst3
  have c1207_0 := c1205_0.keep Kt3 nin0
  have c1207_1 := c1205_1.keep Kt3 nin0
  have c1207_2 := c1205_2.keep Kt3 nin0
  have c1207_3 := Rt2.keep Kt3 nin0
  have Z1206 : n0 ≤ T1206.heap.size := Nat.le_trans Z1204 Kt3.1
  have K1206 : Keep h0 T1206.heap [] := K1204.trans Kt3 all0
  have P1208 : ∀ t, Steps p.tables e below (T1206.setTop (mkF m 75 #[.val (.int u1), .val (.int u2), .val (.int u3), .val (.int u4), .val (.int u5), .val (.int u6), .val (.int (Int32.ofNat y0)), .val (.int (Int32.ofNat y1)), .val (.int (Int32.ofNat z1)), .val (.ref b1190), .val (.ref b1196), .val (.ref b1200), .val (.ref t2), .val (.ref t3), .val (.double (FP.i2d (u5 &&& (15 : Int32)))), .second, .unset, .unset, .unset, .unset, .unset, .unset, .unset, .unset, .unset, .unset, .unset, .unset, .unset, .unset] [])) t → Steps p.tables e below (s₁.setTop (entryFrame m #[(.int u1), (.int u2), (.int u3), (.int u4), (.int u5), (.int u6)] maxLocals)) t := fun t k => P1189 t (by
    refine XS.iconst X0.here hx rfl (hb hby at_18) ?_
    show Steps p.tables e below (s₁.setTop (mkF m 19 #[.val (.int u1), .val (.int u2), .val (.int u3), .val (.int u4), .val (.int u5), .val (.int u6), .val (.int (Int32.ofNat y0)), .val (.int (Int32.ofNat y1)), .val (.int (Int32.ofNat z1)), .unset, .unset, .unset, .unset, .unset, .unset, .unset, .unset, .unset, .unset, .unset, .unset, .unset, .unset, .unset, .unset, .unset, .unset, .unset, .unset, .unset] [(.int (2 : Int32))])) _
    refine st1190 _ ?_
    show Steps p.tables e below (T1190.setTop (mkF m 21 #[.val (.int u1), .val (.int u2), .val (.int u3), .val (.int u4), .val (.int u5), .val (.int u6), .val (.int (Int32.ofNat y0)), .val (.int (Int32.ofNat y1)), .val (.int (Int32.ofNat z1)), .unset, .unset, .unset, .unset, .unset, .unset, .unset, .unset, .unset, .unset, .unset, .unset, .unset, .unset, .unset, .unset, .unset, .unset, .unset, .unset, .unset] [(.ref b1190)])) _
    refine XS.dup X1190.here hx rfl (hb hby at_21) rfl rfl ?_
    show Steps p.tables e below (T1190.setTop (mkF m 22 #[.val (.int u1), .val (.int u2), .val (.int u3), .val (.int u4), .val (.int u5), .val (.int u6), .val (.int (Int32.ofNat y0)), .val (.int (Int32.ofNat y1)), .val (.int (Int32.ofNat z1)), .unset, .unset, .unset, .unset, .unset, .unset, .unset, .unset, .unset, .unset, .unset, .unset, .unset, .unset, .unset, .unset, .unset, .unset, .unset, .unset, .unset] [(.ref b1190), (.ref b1190)])) _
    refine XS.iconst X1190.here hx rfl (hb hby at_22) ?_
    show Steps p.tables e below (T1190.setTop (mkF m 23 #[.val (.int u1), .val (.int u2), .val (.int u3), .val (.int u4), .val (.int u5), .val (.int u6), .val (.int (Int32.ofNat y0)), .val (.int (Int32.ofNat y1)), .val (.int (Int32.ofNat z1)), .unset, .unset, .unset, .unset, .unset, .unset, .unset, .unset, .unset, .unset, .unset, .unset, .unset, .unset, .unset, .unset, .unset, .unset, .unset, .unset, .unset] [(.int (0 : Int32)), (.ref b1190), (.ref b1190)])) _
    refine XS.iconst X1190.here hx rfl (hb hby at_23) ?_
    show Steps p.tables e below (T1190.setTop (mkF m 24 #[.val (.int u1), .val (.int u2), .val (.int u3), .val (.int u4), .val (.int u5), .val (.int u6), .val (.int (Int32.ofNat y0)), .val (.int (Int32.ofNat y1)), .val (.int (Int32.ofNat z1)), .unset, .unset, .unset, .unset, .unset, .unset, .unset, .unset, .unset, .unset, .unset, .unset, .unset, .unset, .unset, .unset, .unset, .unset, .unset, .unset, .unset] [(.int (0 : Int32)), (.int (0 : Int32)), (.ref b1190), (.ref b1190)])) _
    refine st1192 _ ?_
    show Steps p.tables e below (T1192.setTop (mkF m 25 #[.val (.int u1), .val (.int u2), .val (.int u3), .val (.int u4), .val (.int u5), .val (.int u6), .val (.int (Int32.ofNat y0)), .val (.int (Int32.ofNat y1)), .val (.int (Int32.ofNat z1)), .unset, .unset, .unset, .unset, .unset, .unset, .unset, .unset, .unset, .unset, .unset, .unset, .unset, .unset, .unset, .unset, .unset, .unset, .unset, .unset, .unset] [(.ref b1190)])) _
    refine XS.dup X1192.here hx rfl (hb hby at_25) rfl rfl ?_
    show Steps p.tables e below (T1192.setTop (mkF m 26 #[.val (.int u1), .val (.int u2), .val (.int u3), .val (.int u4), .val (.int u5), .val (.int u6), .val (.int (Int32.ofNat y0)), .val (.int (Int32.ofNat y1)), .val (.int (Int32.ofNat z1)), .unset, .unset, .unset, .unset, .unset, .unset, .unset, .unset, .unset, .unset, .unset, .unset, .unset, .unset, .unset, .unset, .unset, .unset, .unset, .unset, .unset] [(.ref b1190), (.ref b1190)])) _
    refine XS.iconst X1192.here hx rfl (hb hby at_26) ?_
    show Steps p.tables e below (T1192.setTop (mkF m 27 #[.val (.int u1), .val (.int u2), .val (.int u3), .val (.int u4), .val (.int u5), .val (.int u6), .val (.int (Int32.ofNat y0)), .val (.int (Int32.ofNat y1)), .val (.int (Int32.ofNat z1)), .unset, .unset, .unset, .unset, .unset, .unset, .unset, .unset, .unset, .unset, .unset, .unset, .unset, .unset, .unset, .unset, .unset, .unset, .unset, .unset, .unset] [(.int (1 : Int32)), (.ref b1190), (.ref b1190)])) _
    refine XS.iconst X1192.here hx rfl (hb hby at_27) ?_
    show Steps p.tables e below (T1192.setTop (mkF m 28 #[.val (.int u1), .val (.int u2), .val (.int u3), .val (.int u4), .val (.int u5), .val (.int u6), .val (.int (Int32.ofNat y0)), .val (.int (Int32.ofNat y1)), .val (.int (Int32.ofNat z1)), .unset, .unset, .unset, .unset, .unset, .unset, .unset, .unset, .unset, .unset, .unset, .unset, .unset, .unset, .unset, .unset, .unset, .unset, .unset, .unset, .unset] [(.int (1 : Int32)), (.int (1 : Int32)), (.ref b1190), (.ref b1190)])) _
    refine st1194 _ ?_
    show Steps p.tables e below (T1194.setTop (mkF m 29 #[.val (.int u1), .val (.int u2), .val (.int u3), .val (.int u4), .val (.int u5), .val (.int u6), .val (.int (Int32.ofNat y0)), .val (.int (Int32.ofNat y1)), .val (.int (Int32.ofNat z1)), .unset, .unset, .unset, .unset, .unset, .unset, .unset, .unset, .unset, .unset, .unset, .unset, .unset, .unset, .unset, .unset, .unset, .unset, .unset, .unset, .unset] [(.ref b1190)])) _
    refine XS.astore X1194.here hx rfl (hb hby at_29) rfl rfl (l' := #[.val (.int u1), .val (.int u2), .val (.int u3), .val (.int u4), .val (.int u5), .val (.int u6), .val (.int (Int32.ofNat y0)), .val (.int (Int32.ofNat y1)), .val (.int (Int32.ofNat z1)), .val (.ref b1190), .unset, .unset, .unset, .unset, .unset, .unset, .unset, .unset, .unset, .unset, .unset, .unset, .unset, .unset, .unset, .unset, .unset, .unset, .unset, .unset]) rfl ?_
    show Steps p.tables e below (T1194.setTop (mkF m 31 #[.val (.int u1), .val (.int u2), .val (.int u3), .val (.int u4), .val (.int u5), .val (.int u6), .val (.int (Int32.ofNat y0)), .val (.int (Int32.ofNat y1)), .val (.int (Int32.ofNat z1)), .val (.ref b1190), .unset, .unset, .unset, .unset, .unset, .unset, .unset, .unset, .unset, .unset, .unset, .unset, .unset, .unset, .unset, .unset, .unset, .unset, .unset, .unset] [])) _
    refine XS.iconst X1194.here hx rfl (hb hby at_31) ?_
    show Steps p.tables e below (T1194.setTop (mkF m 32 #[.val (.int u1), .val (.int u2), .val (.int u3), .val (.int u4), .val (.int u5), .val (.int u6), .val (.int (Int32.ofNat y0)), .val (.int (Int32.ofNat y1)), .val (.int (Int32.ofNat z1)), .val (.ref b1190), .unset, .unset, .unset, .unset, .unset, .unset, .unset, .unset, .unset, .unset, .unset, .unset, .unset, .unset, .unset, .unset, .unset, .unset, .unset, .unset] [(.int (1 : Int32))])) _
    refine st1196 _ ?_
    show Steps p.tables e below (T1196.setTop (mkF m 34 #[.val (.int u1), .val (.int u2), .val (.int u3), .val (.int u4), .val (.int u5), .val (.int u6), .val (.int (Int32.ofNat y0)), .val (.int (Int32.ofNat y1)), .val (.int (Int32.ofNat z1)), .val (.ref b1190), .unset, .unset, .unset, .unset, .unset, .unset, .unset, .unset, .unset, .unset, .unset, .unset, .unset, .unset, .unset, .unset, .unset, .unset, .unset, .unset] [(.ref b1196)])) _
    refine XS.dup X1196.here hx rfl (hb hby at_34) rfl rfl ?_
    show Steps p.tables e below (T1196.setTop (mkF m 35 #[.val (.int u1), .val (.int u2), .val (.int u3), .val (.int u4), .val (.int u5), .val (.int u6), .val (.int (Int32.ofNat y0)), .val (.int (Int32.ofNat y1)), .val (.int (Int32.ofNat z1)), .val (.ref b1190), .unset, .unset, .unset, .unset, .unset, .unset, .unset, .unset, .unset, .unset, .unset, .unset, .unset, .unset, .unset, .unset, .unset, .unset, .unset, .unset] [(.ref b1196), (.ref b1196)])) _
    refine XS.iconst X1196.here hx rfl (hb hby at_35) ?_
    show Steps p.tables e below (T1196.setTop (mkF m 36 #[.val (.int u1), .val (.int u2), .val (.int u3), .val (.int u4), .val (.int u5), .val (.int u6), .val (.int (Int32.ofNat y0)), .val (.int (Int32.ofNat y1)), .val (.int (Int32.ofNat z1)), .val (.ref b1190), .unset, .unset, .unset, .unset, .unset, .unset, .unset, .unset, .unset, .unset, .unset, .unset, .unset, .unset, .unset, .unset, .unset, .unset, .unset, .unset] [(.int (0 : Int32)), (.ref b1196), (.ref b1196)])) _
    refine XS.iconst X1196.here hx rfl (hb hby at_36) ?_
    show Steps p.tables e below (T1196.setTop (mkF m 37 #[.val (.int u1), .val (.int u2), .val (.int u3), .val (.int u4), .val (.int u5), .val (.int u6), .val (.int (Int32.ofNat y0)), .val (.int (Int32.ofNat y1)), .val (.int (Int32.ofNat z1)), .val (.ref b1190), .unset, .unset, .unset, .unset, .unset, .unset, .unset, .unset, .unset, .unset, .unset, .unset, .unset, .unset, .unset, .unset, .unset, .unset, .unset, .unset] [(.int (0 : Int32)), (.int (0 : Int32)), (.ref b1196), (.ref b1196)])) _
    refine st1198 _ ?_
    show Steps p.tables e below (T1198.setTop (mkF m 38 #[.val (.int u1), .val (.int u2), .val (.int u3), .val (.int u4), .val (.int u5), .val (.int u6), .val (.int (Int32.ofNat y0)), .val (.int (Int32.ofNat y1)), .val (.int (Int32.ofNat z1)), .val (.ref b1190), .unset, .unset, .unset, .unset, .unset, .unset, .unset, .unset, .unset, .unset, .unset, .unset, .unset, .unset, .unset, .unset, .unset, .unset, .unset, .unset] [(.ref b1196)])) _
    refine XS.astore X1198.here hx rfl (hb hby at_38) rfl rfl (l' := #[.val (.int u1), .val (.int u2), .val (.int u3), .val (.int u4), .val (.int u5), .val (.int u6), .val (.int (Int32.ofNat y0)), .val (.int (Int32.ofNat y1)), .val (.int (Int32.ofNat z1)), .val (.ref b1190), .val (.ref b1196), .unset, .unset, .unset, .unset, .unset, .unset, .unset, .unset, .unset, .unset, .unset, .unset, .unset, .unset, .unset, .unset, .unset, .unset, .unset]) rfl ?_
    show Steps p.tables e below (T1198.setTop (mkF m 40 #[.val (.int u1), .val (.int u2), .val (.int u3), .val (.int u4), .val (.int u5), .val (.int u6), .val (.int (Int32.ofNat y0)), .val (.int (Int32.ofNat y1)), .val (.int (Int32.ofNat z1)), .val (.ref b1190), .val (.ref b1196), .unset, .unset, .unset, .unset, .unset, .unset, .unset, .unset, .unset, .unset, .unset, .unset, .unset, .unset, .unset, .unset, .unset, .unset, .unset] [])) _
    refine XS.iconst X1198.here hx rfl (hb hby at_40) ?_
    show Steps p.tables e below (T1198.setTop (mkF m 41 #[.val (.int u1), .val (.int u2), .val (.int u3), .val (.int u4), .val (.int u5), .val (.int u6), .val (.int (Int32.ofNat y0)), .val (.int (Int32.ofNat y1)), .val (.int (Int32.ofNat z1)), .val (.ref b1190), .val (.ref b1196), .unset, .unset, .unset, .unset, .unset, .unset, .unset, .unset, .unset, .unset, .unset, .unset, .unset, .unset, .unset, .unset, .unset, .unset, .unset] [(.int (1 : Int32))])) _
    refine st1200 _ ?_
    show Steps p.tables e below (T1200.setTop (mkF m 43 #[.val (.int u1), .val (.int u2), .val (.int u3), .val (.int u4), .val (.int u5), .val (.int u6), .val (.int (Int32.ofNat y0)), .val (.int (Int32.ofNat y1)), .val (.int (Int32.ofNat z1)), .val (.ref b1190), .val (.ref b1196), .unset, .unset, .unset, .unset, .unset, .unset, .unset, .unset, .unset, .unset, .unset, .unset, .unset, .unset, .unset, .unset, .unset, .unset, .unset] [(.ref b1200)])) _
    refine XS.dup X1200.here hx rfl (hb hby at_43) rfl rfl ?_
    show Steps p.tables e below (T1200.setTop (mkF m 44 #[.val (.int u1), .val (.int u2), .val (.int u3), .val (.int u4), .val (.int u5), .val (.int u6), .val (.int (Int32.ofNat y0)), .val (.int (Int32.ofNat y1)), .val (.int (Int32.ofNat z1)), .val (.ref b1190), .val (.ref b1196), .unset, .unset, .unset, .unset, .unset, .unset, .unset, .unset, .unset, .unset, .unset, .unset, .unset, .unset, .unset, .unset, .unset, .unset, .unset] [(.ref b1200), (.ref b1200)])) _
    refine XS.iconst X1200.here hx rfl (hb hby at_44) ?_
    show Steps p.tables e below (T1200.setTop (mkF m 45 #[.val (.int u1), .val (.int u2), .val (.int u3), .val (.int u4), .val (.int u5), .val (.int u6), .val (.int (Int32.ofNat y0)), .val (.int (Int32.ofNat y1)), .val (.int (Int32.ofNat z1)), .val (.ref b1190), .val (.ref b1196), .unset, .unset, .unset, .unset, .unset, .unset, .unset, .unset, .unset, .unset, .unset, .unset, .unset, .unset, .unset, .unset, .unset, .unset, .unset] [(.int (0 : Int32)), (.ref b1200), (.ref b1200)])) _
    refine XS.iconst X1200.here hx rfl (hb hby at_45) ?_
    show Steps p.tables e below (T1200.setTop (mkF m 46 #[.val (.int u1), .val (.int u2), .val (.int u3), .val (.int u4), .val (.int u5), .val (.int u6), .val (.int (Int32.ofNat y0)), .val (.int (Int32.ofNat y1)), .val (.int (Int32.ofNat z1)), .val (.ref b1190), .val (.ref b1196), .unset, .unset, .unset, .unset, .unset, .unset, .unset, .unset, .unset, .unset, .unset, .unset, .unset, .unset, .unset, .unset, .unset, .unset, .unset] [(.int (1 : Int32)), (.int (0 : Int32)), (.ref b1200), (.ref b1200)])) _
    refine st1202 _ ?_
    show Steps p.tables e below (T1202.setTop (mkF m 47 #[.val (.int u1), .val (.int u2), .val (.int u3), .val (.int u4), .val (.int u5), .val (.int u6), .val (.int (Int32.ofNat y0)), .val (.int (Int32.ofNat y1)), .val (.int (Int32.ofNat z1)), .val (.ref b1190), .val (.ref b1196), .unset, .unset, .unset, .unset, .unset, .unset, .unset, .unset, .unset, .unset, .unset, .unset, .unset, .unset, .unset, .unset, .unset, .unset, .unset] [(.ref b1200)])) _
    refine XS.astore X1202.here hx rfl (hb hby at_47) rfl rfl (l' := #[.val (.int u1), .val (.int u2), .val (.int u3), .val (.int u4), .val (.int u5), .val (.int u6), .val (.int (Int32.ofNat y0)), .val (.int (Int32.ofNat y1)), .val (.int (Int32.ofNat z1)), .val (.ref b1190), .val (.ref b1196), .val (.ref b1200), .unset, .unset, .unset, .unset, .unset, .unset, .unset, .unset, .unset, .unset, .unset, .unset, .unset, .unset, .unset, .unset, .unset, .unset]) rfl ?_
    show Steps p.tables e below (T1202.setTop (mkF m 49 #[.val (.int u1), .val (.int u2), .val (.int u3), .val (.int u4), .val (.int u5), .val (.int u6), .val (.int (Int32.ofNat y0)), .val (.int (Int32.ofNat y1)), .val (.int (Int32.ofNat z1)), .val (.ref b1190), .val (.ref b1196), .val (.ref b1200), .unset, .unset, .unset, .unset, .unset, .unset, .unset, .unset, .unset, .unset, .unset, .unset, .unset, .unset, .unset, .unset, .unset, .unset] [])) _
    refine XS.iloadN X1202.here hx rfl (hb hby at_49) rfl ?_
    show Steps p.tables e below (T1202.setTop (mkF m 50 #[.val (.int u1), .val (.int u2), .val (.int u3), .val (.int u4), .val (.int u5), .val (.int u6), .val (.int (Int32.ofNat y0)), .val (.int (Int32.ofNat y1)), .val (.int (Int32.ofNat z1)), .val (.ref b1190), .val (.ref b1196), .val (.ref b1200), .unset, .unset, .unset, .unset, .unset, .unset, .unset, .unset, .unset, .unset, .unset, .unset, .unset, .unset, .unset, .unset, .unset, .unset] [(.int u4)])) _
    refine XS.iconst X1202.here hx rfl (hb hby at_50) ?_
    show Steps p.tables e below (T1202.setTop (mkF m 51 #[.val (.int u1), .val (.int u2), .val (.int u3), .val (.int u4), .val (.int u5), .val (.int u6), .val (.int (Int32.ofNat y0)), .val (.int (Int32.ofNat y1)), .val (.int (Int32.ofNat z1)), .val (.ref b1190), .val (.ref b1196), .val (.ref b1200), .unset, .unset, .unset, .unset, .unset, .unset, .unset, .unset, .unset, .unset, .unset, .unset, .unset, .unset, .unset, .unset, .unset, .unset] [(.int (3 : Int32)), (.int u4)])) _
    refine XS.iand X1202.here hx rfl (hb hby at_51) rfl ?_
    show Steps p.tables e below (T1202.setTop (mkF m 52 #[.val (.int u1), .val (.int u2), .val (.int u3), .val (.int u4), .val (.int u5), .val (.int u6), .val (.int (Int32.ofNat y0)), .val (.int (Int32.ofNat y1)), .val (.int (Int32.ofNat z1)), .val (.ref b1190), .val (.ref b1196), .val (.ref b1200), .unset, .unset, .unset, .unset, .unset, .unset, .unset, .unset, .unset, .unset, .unset, .unset, .unset, .unset, .unset, .unset, .unset, .unset] [(.int (u4 &&& (3 : Int32)))])) _
    refine st1204 _ ?_
    show Steps p.tables e below (T1204.setTop (mkF m 55 #[.val (.int u1), .val (.int u2), .val (.int u3), .val (.int u4), .val (.int u5), .val (.int u6), .val (.int (Int32.ofNat y0)), .val (.int (Int32.ofNat y1)), .val (.int (Int32.ofNat z1)), .val (.ref b1190), .val (.ref b1196), .val (.ref b1200), .unset, .unset, .unset, .unset, .unset, .unset, .unset, .unset, .unset, .unset, .unset, .unset, .unset, .unset, .unset, .unset, .unset, .unset] [(.ref t2)])) _
    refine XS.astore X1204.here hx rfl (hb hby at_55) rfl rfl (l' := #[.val (.int u1), .val (.int u2), .val (.int u3), .val (.int u4), .val (.int u5), .val (.int u6), .val (.int (Int32.ofNat y0)), .val (.int (Int32.ofNat y1)), .val (.int (Int32.ofNat z1)), .val (.ref b1190), .val (.ref b1196), .val (.ref b1200), .val (.ref t2), .unset, .unset, .unset, .unset, .unset, .unset, .unset, .unset, .unset, .unset, .unset, .unset, .unset, .unset, .unset, .unset, .unset]) rfl ?_
    show Steps p.tables e below (T1204.setTop (mkF m 57 #[.val (.int u1), .val (.int u2), .val (.int u3), .val (.int u4), .val (.int u5), .val (.int u6), .val (.int (Int32.ofNat y0)), .val (.int (Int32.ofNat y1)), .val (.int (Int32.ofNat z1)), .val (.ref b1190), .val (.ref b1196), .val (.ref b1200), .val (.ref t2), .unset, .unset, .unset, .unset, .unset, .unset, .unset, .unset, .unset, .unset, .unset, .unset, .unset, .unset, .unset, .unset, .unset] [])) _
    refine XS.iloadN X1204.here hx rfl (hb hby at_57) rfl ?_
    show Steps p.tables e below (T1204.setTop (mkF m 58 #[.val (.int u1), .val (.int u2), .val (.int u3), .val (.int u4), .val (.int u5), .val (.int u6), .val (.int (Int32.ofNat y0)), .val (.int (Int32.ofNat y1)), .val (.int (Int32.ofNat z1)), .val (.ref b1190), .val (.ref b1196), .val (.ref b1200), .val (.ref t2), .unset, .unset, .unset, .unset, .unset, .unset, .unset, .unset, .unset, .unset, .unset, .unset, .unset, .unset, .unset, .unset, .unset] [(.int u4)])) _
    refine XS.iconst X1204.here hx rfl (hb hby at_58) ?_
    show Steps p.tables e below (T1204.setTop (mkF m 59 #[.val (.int u1), .val (.int u2), .val (.int u3), .val (.int u4), .val (.int u5), .val (.int u6), .val (.int (Int32.ofNat y0)), .val (.int (Int32.ofNat y1)), .val (.int (Int32.ofNat z1)), .val (.ref b1190), .val (.ref b1196), .val (.ref b1200), .val (.ref t2), .unset, .unset, .unset, .unset, .unset, .unset, .unset, .unset, .unset, .unset, .unset, .unset, .unset, .unset, .unset, .unset, .unset] [(.int (2 : Int32)), (.int u4)])) _
    refine XS.iushr X1204.here hx rfl (hb hby at_59) rfl ?_
    show Steps p.tables e below (T1204.setTop (mkF m 60 #[.val (.int u1), .val (.int u2), .val (.int u3), .val (.int u4), .val (.int u5), .val (.int u6), .val (.int (Int32.ofNat y0)), .val (.int (Int32.ofNat y1)), .val (.int (Int32.ofNat z1)), .val (.ref b1190), .val (.ref b1196), .val (.ref b1200), .val (.ref t2), .unset, .unset, .unset, .unset, .unset, .unset, .unset, .unset, .unset, .unset, .unset, .unset, .unset, .unset, .unset, .unset, .unset] [(.int ((u4.toUInt32 >>> ((2 : Int32) &&& 31).toUInt32).toInt32))])) _
    refine XS.iconst X1204.here hx rfl (hb hby at_60) ?_
    show Steps p.tables e below (T1204.setTop (mkF m 61 #[.val (.int u1), .val (.int u2), .val (.int u3), .val (.int u4), .val (.int u5), .val (.int u6), .val (.int (Int32.ofNat y0)), .val (.int (Int32.ofNat y1)), .val (.int (Int32.ofNat z1)), .val (.ref b1190), .val (.ref b1196), .val (.ref b1200), .val (.ref t2), .unset, .unset, .unset, .unset, .unset, .unset, .unset, .unset, .unset, .unset, .unset, .unset, .unset, .unset, .unset, .unset, .unset] [(.int (3 : Int32)), (.int ((u4.toUInt32 >>> ((2 : Int32) &&& 31).toUInt32).toInt32))])) _
    refine XS.iand X1204.here hx rfl (hb hby at_61) rfl ?_
    show Steps p.tables e below (T1204.setTop (mkF m 62 #[.val (.int u1), .val (.int u2), .val (.int u3), .val (.int u4), .val (.int u5), .val (.int u6), .val (.int (Int32.ofNat y0)), .val (.int (Int32.ofNat y1)), .val (.int (Int32.ofNat z1)), .val (.ref b1190), .val (.ref b1196), .val (.ref b1200), .val (.ref t2), .unset, .unset, .unset, .unset, .unset, .unset, .unset, .unset, .unset, .unset, .unset, .unset, .unset, .unset, .unset, .unset, .unset] [(.int (((u4.toUInt32 >>> ((2 : Int32) &&& 31).toUInt32).toInt32) &&& (3 : Int32)))])) _
    refine st1206 _ ?_
    show Steps p.tables e below (T1206.setTop (mkF m 65 #[.val (.int u1), .val (.int u2), .val (.int u3), .val (.int u4), .val (.int u5), .val (.int u6), .val (.int (Int32.ofNat y0)), .val (.int (Int32.ofNat y1)), .val (.int (Int32.ofNat z1)), .val (.ref b1190), .val (.ref b1196), .val (.ref b1200), .val (.ref t2), .unset, .unset, .unset, .unset, .unset, .unset, .unset, .unset, .unset, .unset, .unset, .unset, .unset, .unset, .unset, .unset, .unset] [(.ref t3)])) _
    refine XS.astore X1206.here hx rfl (hb hby at_65) rfl rfl (l' := #[.val (.int u1), .val (.int u2), .val (.int u3), .val (.int u4), .val (.int u5), .val (.int u6), .val (.int (Int32.ofNat y0)), .val (.int (Int32.ofNat y1)), .val (.int (Int32.ofNat z1)), .val (.ref b1190), .val (.ref b1196), .val (.ref b1200), .val (.ref t2), .val (.ref t3), .unset, .unset, .unset, .unset, .unset, .unset, .unset, .unset, .unset, .unset, .unset, .unset, .unset, .unset, .unset, .unset]) rfl ?_
    show Steps p.tables e below (T1206.setTop (mkF m 67 #[.val (.int u1), .val (.int u2), .val (.int u3), .val (.int u4), .val (.int u5), .val (.int u6), .val (.int (Int32.ofNat y0)), .val (.int (Int32.ofNat y1)), .val (.int (Int32.ofNat z1)), .val (.ref b1190), .val (.ref b1196), .val (.ref b1200), .val (.ref t2), .val (.ref t3), .unset, .unset, .unset, .unset, .unset, .unset, .unset, .unset, .unset, .unset, .unset, .unset, .unset, .unset, .unset, .unset] [])) _
    refine XS.iload X1206.here hx rfl (hb hby at_67) rfl ?_
    show Steps p.tables e below (T1206.setTop (mkF m 69 #[.val (.int u1), .val (.int u2), .val (.int u3), .val (.int u4), .val (.int u5), .val (.int u6), .val (.int (Int32.ofNat y0)), .val (.int (Int32.ofNat y1)), .val (.int (Int32.ofNat z1)), .val (.ref b1190), .val (.ref b1196), .val (.ref b1200), .val (.ref t2), .val (.ref t3), .unset, .unset, .unset, .unset, .unset, .unset, .unset, .unset, .unset, .unset, .unset, .unset, .unset, .unset, .unset, .unset] [(.int u5)])) _
    refine XS.bipush X1206.here hx rfl (hb hby at_69) ?_
    show Steps p.tables e below (T1206.setTop (mkF m 71 #[.val (.int u1), .val (.int u2), .val (.int u3), .val (.int u4), .val (.int u5), .val (.int u6), .val (.int (Int32.ofNat y0)), .val (.int (Int32.ofNat y1)), .val (.int (Int32.ofNat z1)), .val (.ref b1190), .val (.ref b1196), .val (.ref b1200), .val (.ref t2), .val (.ref t3), .unset, .unset, .unset, .unset, .unset, .unset, .unset, .unset, .unset, .unset, .unset, .unset, .unset, .unset, .unset, .unset] [(.int (15 : Int32)), (.int u5)])) _
    refine XS.iand X1206.here hx rfl (hb hby at_71) rfl ?_
    show Steps p.tables e below (T1206.setTop (mkF m 72 #[.val (.int u1), .val (.int u2), .val (.int u3), .val (.int u4), .val (.int u5), .val (.int u6), .val (.int (Int32.ofNat y0)), .val (.int (Int32.ofNat y1)), .val (.int (Int32.ofNat z1)), .val (.ref b1190), .val (.ref b1196), .val (.ref b1200), .val (.ref t2), .val (.ref t3), .unset, .unset, .unset, .unset, .unset, .unset, .unset, .unset, .unset, .unset, .unset, .unset, .unset, .unset, .unset, .unset] [(.int (u5 &&& (15 : Int32)))])) _
    refine XS.i2dS X1206.here hx rfl (hb hby at_72) rfl (v := FP.i2d (u5 &&& (15 : Int32))) rfl ?_
    show Steps p.tables e below (T1206.setTop (mkF m 73 #[.val (.int u1), .val (.int u2), .val (.int u3), .val (.int u4), .val (.int u5), .val (.int u6), .val (.int (Int32.ofNat y0)), .val (.int (Int32.ofNat y1)), .val (.int (Int32.ofNat z1)), .val (.ref b1190), .val (.ref b1196), .val (.ref b1200), .val (.ref t2), .val (.ref t3), .unset, .unset, .unset, .unset, .unset, .unset, .unset, .unset, .unset, .unset, .unset, .unset, .unset, .unset, .unset, .unset] [(.double (FP.i2d (u5 &&& (15 : Int32))))])) _
    refine XS.dstore X1206.here hx rfl (hb hby at_73) rfl (l' := #[.val (.int u1), .val (.int u2), .val (.int u3), .val (.int u4), .val (.int u5), .val (.int u6), .val (.int (Int32.ofNat y0)), .val (.int (Int32.ofNat y1)), .val (.int (Int32.ofNat z1)), .val (.ref b1190), .val (.ref b1196), .val (.ref b1200), .val (.ref t2), .val (.ref t3), .val (.double (FP.i2d (u5 &&& (15 : Int32)))), .second, .unset, .unset, .unset, .unset, .unset, .unset, .unset, .unset, .unset, .unset, .unset, .unset, .unset, .unset]) rfl ?_
    show Steps p.tables e below (T1206.setTop (mkF m 75 #[.val (.int u1), .val (.int u2), .val (.int u3), .val (.int u4), .val (.int u5), .val (.int u6), .val (.int (Int32.ofNat y0)), .val (.int (Int32.ofNat y1)), .val (.int (Int32.ofNat z1)), .val (.ref b1190), .val (.ref b1196), .val (.ref b1200), .val (.ref t2), .val (.ref t3), .val (.double (FP.i2d (u5 &&& (15 : Int32)))), .second, .unset, .unset, .unset, .unset, .unset, .unset, .unset, .unset, .unset, .unset, .unset, .unset, .unset, .unset] [])) _
    exact k)
  obtain ⟨z2, hz2, qz2⟩ := own_nib u5
  rw [qz2] at P1208
  rw [own_i2d z2 hz2] at P1208
  have P1209 : ∀ t, Steps p.tables e below (T1206.setTop (mkF m 85 #[.val (.int u1), .val (.int u2), .val (.int u3), .val (.int u4), .val (.int u5), .val (.int u6), .val (.int (Int32.ofNat y0)), .val (.int (Int32.ofNat y1)), .val (.int (Int32.ofNat z1)), .val (.ref b1190), .val (.ref b1196), .val (.ref b1200), .val (.ref t2), .val (.ref t3), .val (.double (FP.l2d (Int64.ofNat z2))), .second, .val (.double (FP.i2d (((u5.toUInt32 >>> ((4 : Int32) &&& 31).toUInt32).toInt32) &&& (15 : Int32)))), .second, .unset, .unset, .unset, .unset, .unset, .unset, .unset, .unset, .unset, .unset, .unset, .unset] [])) t → Steps p.tables e below (s₁.setTop (entryFrame m #[(.int u1), (.int u2), (.int u3), (.int u4), (.int u5), (.int u6)] maxLocals)) t := fun t k => P1208 t (by
    refine XS.iload X1206.here hx rfl (hb hby at_75) rfl ?_
    show Steps p.tables e below (T1206.setTop (mkF m 77 #[.val (.int u1), .val (.int u2), .val (.int u3), .val (.int u4), .val (.int u5), .val (.int u6), .val (.int (Int32.ofNat y0)), .val (.int (Int32.ofNat y1)), .val (.int (Int32.ofNat z1)), .val (.ref b1190), .val (.ref b1196), .val (.ref b1200), .val (.ref t2), .val (.ref t3), .val (.double (FP.l2d (Int64.ofNat z2))), .second, .unset, .unset, .unset, .unset, .unset, .unset, .unset, .unset, .unset, .unset, .unset, .unset, .unset, .unset] [(.int u5)])) _
    refine XS.iconst X1206.here hx rfl (hb hby at_77) ?_
    show Steps p.tables e below (T1206.setTop (mkF m 78 #[.val (.int u1), .val (.int u2), .val (.int u3), .val (.int u4), .val (.int u5), .val (.int u6), .val (.int (Int32.ofNat y0)), .val (.int (Int32.ofNat y1)), .val (.int (Int32.ofNat z1)), .val (.ref b1190), .val (.ref b1196), .val (.ref b1200), .val (.ref t2), .val (.ref t3), .val (.double (FP.l2d (Int64.ofNat z2))), .second, .unset, .unset, .unset, .unset, .unset, .unset, .unset, .unset, .unset, .unset, .unset, .unset, .unset, .unset] [(.int (4 : Int32)), (.int u5)])) _
    refine XS.iushr X1206.here hx rfl (hb hby at_78) rfl ?_
    show Steps p.tables e below (T1206.setTop (mkF m 79 #[.val (.int u1), .val (.int u2), .val (.int u3), .val (.int u4), .val (.int u5), .val (.int u6), .val (.int (Int32.ofNat y0)), .val (.int (Int32.ofNat y1)), .val (.int (Int32.ofNat z1)), .val (.ref b1190), .val (.ref b1196), .val (.ref b1200), .val (.ref t2), .val (.ref t3), .val (.double (FP.l2d (Int64.ofNat z2))), .second, .unset, .unset, .unset, .unset, .unset, .unset, .unset, .unset, .unset, .unset, .unset, .unset, .unset, .unset] [(.int ((u5.toUInt32 >>> ((4 : Int32) &&& 31).toUInt32).toInt32))])) _
    refine XS.bipush X1206.here hx rfl (hb hby at_79) ?_
    show Steps p.tables e below (T1206.setTop (mkF m 81 #[.val (.int u1), .val (.int u2), .val (.int u3), .val (.int u4), .val (.int u5), .val (.int u6), .val (.int (Int32.ofNat y0)), .val (.int (Int32.ofNat y1)), .val (.int (Int32.ofNat z1)), .val (.ref b1190), .val (.ref b1196), .val (.ref b1200), .val (.ref t2), .val (.ref t3), .val (.double (FP.l2d (Int64.ofNat z2))), .second, .unset, .unset, .unset, .unset, .unset, .unset, .unset, .unset, .unset, .unset, .unset, .unset, .unset, .unset] [(.int (15 : Int32)), (.int ((u5.toUInt32 >>> ((4 : Int32) &&& 31).toUInt32).toInt32))])) _
    refine XS.iand X1206.here hx rfl (hb hby at_81) rfl ?_
    show Steps p.tables e below (T1206.setTop (mkF m 82 #[.val (.int u1), .val (.int u2), .val (.int u3), .val (.int u4), .val (.int u5), .val (.int u6), .val (.int (Int32.ofNat y0)), .val (.int (Int32.ofNat y1)), .val (.int (Int32.ofNat z1)), .val (.ref b1190), .val (.ref b1196), .val (.ref b1200), .val (.ref t2), .val (.ref t3), .val (.double (FP.l2d (Int64.ofNat z2))), .second, .unset, .unset, .unset, .unset, .unset, .unset, .unset, .unset, .unset, .unset, .unset, .unset, .unset, .unset] [(.int (((u5.toUInt32 >>> ((4 : Int32) &&& 31).toUInt32).toInt32) &&& (15 : Int32)))])) _
    refine XS.i2dS X1206.here hx rfl (hb hby at_82) rfl (v := FP.i2d (((u5.toUInt32 >>> ((4 : Int32) &&& 31).toUInt32).toInt32) &&& (15 : Int32))) rfl ?_
    show Steps p.tables e below (T1206.setTop (mkF m 83 #[.val (.int u1), .val (.int u2), .val (.int u3), .val (.int u4), .val (.int u5), .val (.int u6), .val (.int (Int32.ofNat y0)), .val (.int (Int32.ofNat y1)), .val (.int (Int32.ofNat z1)), .val (.ref b1190), .val (.ref b1196), .val (.ref b1200), .val (.ref t2), .val (.ref t3), .val (.double (FP.l2d (Int64.ofNat z2))), .second, .unset, .unset, .unset, .unset, .unset, .unset, .unset, .unset, .unset, .unset, .unset, .unset, .unset, .unset] [(.double (FP.i2d (((u5.toUInt32 >>> ((4 : Int32) &&& 31).toUInt32).toInt32) &&& (15 : Int32))))])) _
    refine XS.dstore X1206.here hx rfl (hb hby at_83) rfl (l' := #[.val (.int u1), .val (.int u2), .val (.int u3), .val (.int u4), .val (.int u5), .val (.int u6), .val (.int (Int32.ofNat y0)), .val (.int (Int32.ofNat y1)), .val (.int (Int32.ofNat z1)), .val (.ref b1190), .val (.ref b1196), .val (.ref b1200), .val (.ref t2), .val (.ref t3), .val (.double (FP.l2d (Int64.ofNat z2))), .second, .val (.double (FP.i2d (((u5.toUInt32 >>> ((4 : Int32) &&& 31).toUInt32).toInt32) &&& (15 : Int32)))), .second, .unset, .unset, .unset, .unset, .unset, .unset, .unset, .unset, .unset, .unset, .unset, .unset]) rfl ?_
    show Steps p.tables e below (T1206.setTop (mkF m 85 #[.val (.int u1), .val (.int u2), .val (.int u3), .val (.int u4), .val (.int u5), .val (.int u6), .val (.int (Int32.ofNat y0)), .val (.int (Int32.ofNat y1)), .val (.int (Int32.ofNat z1)), .val (.ref b1190), .val (.ref b1196), .val (.ref b1200), .val (.ref t2), .val (.ref t3), .val (.double (FP.l2d (Int64.ofNat z2))), .second, .val (.double (FP.i2d (((u5.toUInt32 >>> ((4 : Int32) &&& 31).toUInt32).toInt32) &&& (15 : Int32)))), .second, .unset, .unset, .unset, .unset, .unset, .unset, .unset, .unset, .unset, .unset, .unset, .unset] [])) _
    exact k)
  obtain ⟨z3, hz3, qz3⟩ := own_nib ((u5.toUInt32 >>> ((4 : Int32) &&& 31).toUInt32).toInt32)
  rw [qz3] at P1209
  rw [own_i2d z3 hz3] at P1209
  have P1210 : ∀ t, Steps p.tables e below (T1206.setTop (mkF m 91 #[.val (.int u1), .val (.int u2), .val (.int u3), .val (.int u4), .val (.int u5), .val (.int u6), .val (.int (Int32.ofNat y0)), .val (.int (Int32.ofNat y1)), .val (.int (Int32.ofNat z1)), .val (.ref b1190), .val (.ref b1196), .val (.ref b1200), .val (.ref t2), .val (.ref t3), .val (.double (FP.l2d (Int64.ofNat z2))), .second, .val (.double (FP.l2d (Int64.ofNat z3))), .second, .val (.int (u6 &&& (1 : Int32))), .unset, .unset, .unset, .unset, .unset, .unset, .unset, .unset, .unset, .unset, .unset] [])) t → Steps p.tables e below (s₁.setTop (entryFrame m #[(.int u1), (.int u2), (.int u3), (.int u4), (.int u5), (.int u6)] maxLocals)) t := fun t k => P1209 t (by
    refine XS.iload X1206.here hx rfl (hb hby at_85) rfl ?_
    show Steps p.tables e below (T1206.setTop (mkF m 87 #[.val (.int u1), .val (.int u2), .val (.int u3), .val (.int u4), .val (.int u5), .val (.int u6), .val (.int (Int32.ofNat y0)), .val (.int (Int32.ofNat y1)), .val (.int (Int32.ofNat z1)), .val (.ref b1190), .val (.ref b1196), .val (.ref b1200), .val (.ref t2), .val (.ref t3), .val (.double (FP.l2d (Int64.ofNat z2))), .second, .val (.double (FP.l2d (Int64.ofNat z3))), .second, .unset, .unset, .unset, .unset, .unset, .unset, .unset, .unset, .unset, .unset, .unset, .unset] [(.int u6)])) _
    refine XS.iconst X1206.here hx rfl (hb hby at_87) ?_
    show Steps p.tables e below (T1206.setTop (mkF m 88 #[.val (.int u1), .val (.int u2), .val (.int u3), .val (.int u4), .val (.int u5), .val (.int u6), .val (.int (Int32.ofNat y0)), .val (.int (Int32.ofNat y1)), .val (.int (Int32.ofNat z1)), .val (.ref b1190), .val (.ref b1196), .val (.ref b1200), .val (.ref t2), .val (.ref t3), .val (.double (FP.l2d (Int64.ofNat z2))), .second, .val (.double (FP.l2d (Int64.ofNat z3))), .second, .unset, .unset, .unset, .unset, .unset, .unset, .unset, .unset, .unset, .unset, .unset, .unset] [(.int (1 : Int32)), (.int u6)])) _
    refine XS.iand X1206.here hx rfl (hb hby at_88) rfl ?_
    show Steps p.tables e below (T1206.setTop (mkF m 89 #[.val (.int u1), .val (.int u2), .val (.int u3), .val (.int u4), .val (.int u5), .val (.int u6), .val (.int (Int32.ofNat y0)), .val (.int (Int32.ofNat y1)), .val (.int (Int32.ofNat z1)), .val (.ref b1190), .val (.ref b1196), .val (.ref b1200), .val (.ref t2), .val (.ref t3), .val (.double (FP.l2d (Int64.ofNat z2))), .second, .val (.double (FP.l2d (Int64.ofNat z3))), .second, .unset, .unset, .unset, .unset, .unset, .unset, .unset, .unset, .unset, .unset, .unset, .unset] [(.int (u6 &&& (1 : Int32)))])) _
    refine XS.istore X1206.here hx rfl (hb hby at_89) rfl (l' := #[.val (.int u1), .val (.int u2), .val (.int u3), .val (.int u4), .val (.int u5), .val (.int u6), .val (.int (Int32.ofNat y0)), .val (.int (Int32.ofNat y1)), .val (.int (Int32.ofNat z1)), .val (.ref b1190), .val (.ref b1196), .val (.ref b1200), .val (.ref t2), .val (.ref t3), .val (.double (FP.l2d (Int64.ofNat z2))), .second, .val (.double (FP.l2d (Int64.ofNat z3))), .second, .val (.int (u6 &&& (1 : Int32))), .unset, .unset, .unset, .unset, .unset, .unset, .unset, .unset, .unset, .unset, .unset]) rfl ?_
    show Steps p.tables e below (T1206.setTop (mkF m 91 #[.val (.int u1), .val (.int u2), .val (.int u3), .val (.int u4), .val (.int u5), .val (.int u6), .val (.int (Int32.ofNat y0)), .val (.int (Int32.ofNat y1)), .val (.int (Int32.ofNat z1)), .val (.ref b1190), .val (.ref b1196), .val (.ref b1200), .val (.ref t2), .val (.ref t3), .val (.double (FP.l2d (Int64.ofNat z2))), .second, .val (.double (FP.l2d (Int64.ofNat z3))), .second, .val (.int (u6 &&& (1 : Int32))), .unset, .unset, .unset, .unset, .unset, .unset, .unset, .unset, .unset, .unset, .unset] [])) _
    exact k)
  obtain ⟨kp, hkp⟩ : ∃ z, z = (u6 &&& (1 : Int32)) := ⟨_, rfl⟩
  rw [← hkp] at P1210
  have P1211 : ∀ t, Steps p.tables e below (T1206.setTop (mkF m 100 #[.val (.int u1), .val (.int u2), .val (.int u3), .val (.int u4), .val (.int u5), .val (.int u6), .val (.int (Int32.ofNat y0)), .val (.int (Int32.ofNat y1)), .val (.int (Int32.ofNat z1)), .val (.ref b1190), .val (.ref b1196), .val (.ref b1200), .val (.ref t2), .val (.ref t3), .val (.double (FP.l2d (Int64.ofNat z2))), .second, .val (.double (FP.l2d (Int64.ofNat z3))), .second, .val (.int kp), .val (.int (((u6.toUInt32 >>> ((1 : Int32) &&& 31).toUInt32).toInt32) &&& (15 : Int32))), .unset, .unset, .unset, .unset, .unset, .unset, .unset, .unset, .unset, .unset] [])) t → Steps p.tables e below (s₁.setTop (entryFrame m #[(.int u1), (.int u2), (.int u3), (.int u4), (.int u5), (.int u6)] maxLocals)) t := fun t k => P1210 t (by
    refine XS.iload X1206.here hx rfl (hb hby at_91) rfl ?_
    show Steps p.tables e below (T1206.setTop (mkF m 93 #[.val (.int u1), .val (.int u2), .val (.int u3), .val (.int u4), .val (.int u5), .val (.int u6), .val (.int (Int32.ofNat y0)), .val (.int (Int32.ofNat y1)), .val (.int (Int32.ofNat z1)), .val (.ref b1190), .val (.ref b1196), .val (.ref b1200), .val (.ref t2), .val (.ref t3), .val (.double (FP.l2d (Int64.ofNat z2))), .second, .val (.double (FP.l2d (Int64.ofNat z3))), .second, .val (.int kp), .unset, .unset, .unset, .unset, .unset, .unset, .unset, .unset, .unset, .unset, .unset] [(.int u6)])) _
    refine XS.iconst X1206.here hx rfl (hb hby at_93) ?_
    show Steps p.tables e below (T1206.setTop (mkF m 94 #[.val (.int u1), .val (.int u2), .val (.int u3), .val (.int u4), .val (.int u5), .val (.int u6), .val (.int (Int32.ofNat y0)), .val (.int (Int32.ofNat y1)), .val (.int (Int32.ofNat z1)), .val (.ref b1190), .val (.ref b1196), .val (.ref b1200), .val (.ref t2), .val (.ref t3), .val (.double (FP.l2d (Int64.ofNat z2))), .second, .val (.double (FP.l2d (Int64.ofNat z3))), .second, .val (.int kp), .unset, .unset, .unset, .unset, .unset, .unset, .unset, .unset, .unset, .unset, .unset] [(.int (1 : Int32)), (.int u6)])) _
    refine XS.iushr X1206.here hx rfl (hb hby at_94) rfl ?_
    show Steps p.tables e below (T1206.setTop (mkF m 95 #[.val (.int u1), .val (.int u2), .val (.int u3), .val (.int u4), .val (.int u5), .val (.int u6), .val (.int (Int32.ofNat y0)), .val (.int (Int32.ofNat y1)), .val (.int (Int32.ofNat z1)), .val (.ref b1190), .val (.ref b1196), .val (.ref b1200), .val (.ref t2), .val (.ref t3), .val (.double (FP.l2d (Int64.ofNat z2))), .second, .val (.double (FP.l2d (Int64.ofNat z3))), .second, .val (.int kp), .unset, .unset, .unset, .unset, .unset, .unset, .unset, .unset, .unset, .unset, .unset] [(.int ((u6.toUInt32 >>> ((1 : Int32) &&& 31).toUInt32).toInt32))])) _
    refine XS.bipush X1206.here hx rfl (hb hby at_95) ?_
    show Steps p.tables e below (T1206.setTop (mkF m 97 #[.val (.int u1), .val (.int u2), .val (.int u3), .val (.int u4), .val (.int u5), .val (.int u6), .val (.int (Int32.ofNat y0)), .val (.int (Int32.ofNat y1)), .val (.int (Int32.ofNat z1)), .val (.ref b1190), .val (.ref b1196), .val (.ref b1200), .val (.ref t2), .val (.ref t3), .val (.double (FP.l2d (Int64.ofNat z2))), .second, .val (.double (FP.l2d (Int64.ofNat z3))), .second, .val (.int kp), .unset, .unset, .unset, .unset, .unset, .unset, .unset, .unset, .unset, .unset, .unset] [(.int (15 : Int32)), (.int ((u6.toUInt32 >>> ((1 : Int32) &&& 31).toUInt32).toInt32))])) _
    refine XS.iand X1206.here hx rfl (hb hby at_97) rfl ?_
    show Steps p.tables e below (T1206.setTop (mkF m 98 #[.val (.int u1), .val (.int u2), .val (.int u3), .val (.int u4), .val (.int u5), .val (.int u6), .val (.int (Int32.ofNat y0)), .val (.int (Int32.ofNat y1)), .val (.int (Int32.ofNat z1)), .val (.ref b1190), .val (.ref b1196), .val (.ref b1200), .val (.ref t2), .val (.ref t3), .val (.double (FP.l2d (Int64.ofNat z2))), .second, .val (.double (FP.l2d (Int64.ofNat z3))), .second, .val (.int kp), .unset, .unset, .unset, .unset, .unset, .unset, .unset, .unset, .unset, .unset, .unset] [(.int (((u6.toUInt32 >>> ((1 : Int32) &&& 31).toUInt32).toInt32) &&& (15 : Int32)))])) _
    refine XS.istore X1206.here hx rfl (hb hby at_98) rfl (l' := #[.val (.int u1), .val (.int u2), .val (.int u3), .val (.int u4), .val (.int u5), .val (.int u6), .val (.int (Int32.ofNat y0)), .val (.int (Int32.ofNat y1)), .val (.int (Int32.ofNat z1)), .val (.ref b1190), .val (.ref b1196), .val (.ref b1200), .val (.ref t2), .val (.ref t3), .val (.double (FP.l2d (Int64.ofNat z2))), .second, .val (.double (FP.l2d (Int64.ofNat z3))), .second, .val (.int kp), .val (.int (((u6.toUInt32 >>> ((1 : Int32) &&& 31).toUInt32).toInt32) &&& (15 : Int32))), .unset, .unset, .unset, .unset, .unset, .unset, .unset, .unset, .unset, .unset]) rfl ?_
    show Steps p.tables e below (T1206.setTop (mkF m 100 #[.val (.int u1), .val (.int u2), .val (.int u3), .val (.int u4), .val (.int u5), .val (.int u6), .val (.int (Int32.ofNat y0)), .val (.int (Int32.ofNat y1)), .val (.int (Int32.ofNat z1)), .val (.ref b1190), .val (.ref b1196), .val (.ref b1200), .val (.ref t2), .val (.ref t3), .val (.double (FP.l2d (Int64.ofNat z2))), .second, .val (.double (FP.l2d (Int64.ofNat z3))), .second, .val (.int kp), .val (.int (((u6.toUInt32 >>> ((1 : Int32) &&& 31).toUInt32).toInt32) &&& (15 : Int32))), .unset, .unset, .unset, .unset, .unset, .unset, .unset, .unset, .unset, .unset] [])) _
    exact k)
  obtain ⟨zp, hzp, qzp⟩ := own_nib ((u6.toUInt32 >>> ((1 : Int32) &&& 31).toUInt32).toInt32)
  rw [qzp] at P1211
  have P1212 : ∀ t, Steps p.tables e below (T1206.setTop (mkF m 102 #[.val (.int u1), .val (.int u2), .val (.int u3), .val (.int u4), .val (.int u5), .val (.int u6), .val (.int (Int32.ofNat y0)), .val (.int (Int32.ofNat y1)), .val (.int (Int32.ofNat z1)), .val (.ref b1190), .val (.ref b1196), .val (.ref b1200), .val (.ref t2), .val (.ref t3), .val (.double (FP.l2d (Int64.ofNat z2))), .second, .val (.double (FP.l2d (Int64.ofNat z3))), .second, .val (.int kp), .val (.int (Int32.ofNat zp)), .unset, .unset, .unset, .unset, .unset, .unset, .unset, .unset, .unset, .unset] [(.int kp)])) t → Steps p.tables e below (s₁.setTop (entryFrame m #[(.int u1), (.int u2), (.int u3), (.int u4), (.int u5), (.int u6)] maxLocals)) t := fun t k => P1211 t (by
    refine XS.iload X1206.here hx rfl (hb hby at_100) rfl ?_
    show Steps p.tables e below (T1206.setTop (mkF m 102 #[.val (.int u1), .val (.int u2), .val (.int u3), .val (.int u4), .val (.int u5), .val (.int u6), .val (.int (Int32.ofNat y0)), .val (.int (Int32.ofNat y1)), .val (.int (Int32.ofNat z1)), .val (.ref b1190), .val (.ref b1196), .val (.ref b1200), .val (.ref t2), .val (.ref t3), .val (.double (FP.l2d (Int64.ofNat z2))), .second, .val (.double (FP.l2d (Int64.ofNat z3))), .second, .val (.int kp), .val (.int (Int32.ofNat zp)), .unset, .unset, .unset, .unset, .unset, .unset, .unset, .unset, .unset, .unset] [(.int kp)])) _
    exact k)
  obtain ⟨pr, hpr, P1213⟩ : ∃ (pr : Addr), ((kp = (0 : Int32) ∧ pr = b1196) ∨ (¬ kp = (0 : Int32) ∧ pr = b1200)) ∧ (∀ t, Steps p.tables e below (T1206.setTop (mkF m 112 #[.val (.int u1), .val (.int u2), .val (.int u3), .val (.int u4), .val (.int u5), .val (.int u6), .val (.int (Int32.ofNat y0)), .val (.int (Int32.ofNat y1)), .val (.int (Int32.ofNat z1)), .val (.ref b1190), .val (.ref b1196), .val (.ref b1200), .val (.ref t2), .val (.ref t3), .val (.double (FP.l2d (Int64.ofNat z2))), .second, .val (.double (FP.l2d (Int64.ofNat z3))), .second, .val (.int kp), .val (.int (Int32.ofNat zp)), .unset, .unset, .unset, .unset, .unset, .unset, .unset, .unset, .unset, .unset] [(.ref pr)])) t → Steps p.tables e below (s₁.setTop (entryFrame m #[(.int u1), (.int u2), (.int u3), (.int u4), (.int u5), (.int u6)] maxLocals)) t) := by
    by_cases h102 : kp = (0 : Int32)
    · have P1214 : ∀ t, Steps p.tables e below (T1206.setTop (mkF m 112 #[.val (.int u1), .val (.int u2), .val (.int u3), .val (.int u4), .val (.int u5), .val (.int u6), .val (.int (Int32.ofNat y0)), .val (.int (Int32.ofNat y1)), .val (.int (Int32.ofNat z1)), .val (.ref b1190), .val (.ref b1196), .val (.ref b1200), .val (.ref t2), .val (.ref t3), .val (.double (FP.l2d (Int64.ofNat z2))), .second, .val (.double (FP.l2d (Int64.ofNat z3))), .second, .val (.int kp), .val (.int (Int32.ofNat zp)), .unset, .unset, .unset, .unset, .unset, .unset, .unset, .unset, .unset, .unset] [(.ref b1196)])) t → Steps p.tables e below (s₁.setTop (entryFrame m #[(.int u1), (.int u2), (.int u3), (.int u4), (.int u5), (.int u6)] maxLocals)) t := fun t k => P1212 t (by
        refine XS.ifNo X1206.here hx rfl (hb hby at_102) rfl ((if0 _ _).trans (teq h102).2) ?_
        show Steps p.tables e below (T1206.setTop (mkF m 105 #[.val (.int u1), .val (.int u2), .val (.int u3), .val (.int u4), .val (.int u5), .val (.int u6), .val (.int (Int32.ofNat y0)), .val (.int (Int32.ofNat y1)), .val (.int (Int32.ofNat z1)), .val (.ref b1190), .val (.ref b1196), .val (.ref b1200), .val (.ref t2), .val (.ref t3), .val (.double (FP.l2d (Int64.ofNat z2))), .second, .val (.double (FP.l2d (Int64.ofNat z3))), .second, .val (.int kp), .val (.int (Int32.ofNat zp)), .unset, .unset, .unset, .unset, .unset, .unset, .unset, .unset, .unset, .unset] [])) _
        refine XS.aload X1206.here hx rfl (hb hby at_105) rfl rfl ?_
        show Steps p.tables e below (T1206.setTop (mkF m 107 #[.val (.int u1), .val (.int u2), .val (.int u3), .val (.int u4), .val (.int u5), .val (.int u6), .val (.int (Int32.ofNat y0)), .val (.int (Int32.ofNat y1)), .val (.int (Int32.ofNat z1)), .val (.ref b1190), .val (.ref b1196), .val (.ref b1200), .val (.ref t2), .val (.ref t3), .val (.double (FP.l2d (Int64.ofNat z2))), .second, .val (.double (FP.l2d (Int64.ofNat z3))), .second, .val (.int kp), .val (.int (Int32.ofNat zp)), .unset, .unset, .unset, .unset, .unset, .unset, .unset, .unset, .unset, .unset] [(.ref b1196)])) _
        refine XS.goto X1206.here hx rfl (pc0 := 107) (pc' := 112) rfl (hb hby at_107) (by decide) (by decide) ?_
        show Steps p.tables e below (T1206.setTop (mkF m 112 #[.val (.int u1), .val (.int u2), .val (.int u3), .val (.int u4), .val (.int u5), .val (.int u6), .val (.int (Int32.ofNat y0)), .val (.int (Int32.ofNat y1)), .val (.int (Int32.ofNat z1)), .val (.ref b1190), .val (.ref b1196), .val (.ref b1200), .val (.ref t2), .val (.ref t3), .val (.double (FP.l2d (Int64.ofNat z2))), .second, .val (.double (FP.l2d (Int64.ofNat z3))), .second, .val (.int kp), .val (.int (Int32.ofNat zp)), .unset, .unset, .unset, .unset, .unset, .unset, .unset, .unset, .unset, .unset] [(.ref b1196)])) _
        exact k)
      exact ⟨_, Or.inl ⟨h102, rfl⟩, P1214⟩
    · have P1215 : ∀ t, Steps p.tables e below (T1206.setTop (mkF m 112 #[.val (.int u1), .val (.int u2), .val (.int u3), .val (.int u4), .val (.int u5), .val (.int u6), .val (.int (Int32.ofNat y0)), .val (.int (Int32.ofNat y1)), .val (.int (Int32.ofNat z1)), .val (.ref b1190), .val (.ref b1196), .val (.ref b1200), .val (.ref t2), .val (.ref t3), .val (.double (FP.l2d (Int64.ofNat z2))), .second, .val (.double (FP.l2d (Int64.ofNat z3))), .second, .val (.int kp), .val (.int (Int32.ofNat zp)), .unset, .unset, .unset, .unset, .unset, .unset, .unset, .unset, .unset, .unset] [(.ref b1200)])) t → Steps p.tables e below (s₁.setTop (entryFrame m #[(.int u1), (.int u2), (.int u3), (.int u4), (.int u5), (.int u6)] maxLocals)) t := fun t k => P1212 t (by
        refine XS.ifYes X1206.here hx rfl (pc0 := 102) (pc' := 110) rfl (hb hby at_102) rfl ((if0 _ _).trans (feq h102).2) (by decide) (by decide) ?_
        show Steps p.tables e below (T1206.setTop (mkF m 110 #[.val (.int u1), .val (.int u2), .val (.int u3), .val (.int u4), .val (.int u5), .val (.int u6), .val (.int (Int32.ofNat y0)), .val (.int (Int32.ofNat y1)), .val (.int (Int32.ofNat z1)), .val (.ref b1190), .val (.ref b1196), .val (.ref b1200), .val (.ref t2), .val (.ref t3), .val (.double (FP.l2d (Int64.ofNat z2))), .second, .val (.double (FP.l2d (Int64.ofNat z3))), .second, .val (.int kp), .val (.int (Int32.ofNat zp)), .unset, .unset, .unset, .unset, .unset, .unset, .unset, .unset, .unset, .unset] [])) _
        refine XS.aload X1206.here hx rfl (hb hby at_110) rfl rfl ?_
        show Steps p.tables e below (T1206.setTop (mkF m 112 #[.val (.int u1), .val (.int u2), .val (.int u3), .val (.int u4), .val (.int u5), .val (.int u6), .val (.int (Int32.ofNat y0)), .val (.int (Int32.ofNat y1)), .val (.int (Int32.ofNat z1)), .val (.ref b1190), .val (.ref b1196), .val (.ref b1200), .val (.ref t2), .val (.ref t3), .val (.double (FP.l2d (Int64.ofNat z2))), .second, .val (.double (FP.l2d (Int64.ofNat z3))), .second, .val (.int kp), .val (.int (Int32.ofNat zp)), .unset, .unset, .unset, .unset, .unset, .unset, .unset, .unset, .unset, .unset] [(.ref b1200)])) _
        exact k)
      exact ⟨_, Or.inr ⟨h102, rfl⟩, P1215⟩
  obtain ⟨T1216, h1216, X1216, e1216, E1216, A1216, D1216, -, st1216⟩ := newO X1206 hx hZ hown (hw _ (List.mem_of_getElem? (i := 5) rfl)) (hw _ (List.mem_of_getElem? (i := 6) rfl)) (hw _ (List.mem_of_getElem? (i := 7) rfl)) rfl (g := (mkF m 114 #[.val (.int u1), .val (.int u2), .val (.int u3), .val (.int u4), .val (.int u5), .val (.int u6), .val (.int (Int32.ofNat y0)), .val (.int (Int32.ofNat y1)), .val (.int (Int32.ofNat z1)), .val (.ref b1190), .val (.ref b1196), .val (.ref b1200), .val (.ref t2), .val (.ref t3), .val (.double (FP.l2d (Int64.ofNat z2))), .second, .val (.double (FP.l2d (Int64.ofNat z3))), .second, .val (.int kp), .val (.int (Int32.ofNat zp)), .val (.ref pr), .unset, .unset, .unset, .unset, .unset, .unset, .unset, .unset, .unset] [])) rfl (hb hby at_114) (by decide) (by decide)
  obtain ⟨b1216, g1216⟩ : ∃ z, z = T1206.heap.size := ⟨_, rfl⟩
  rw [← g1216] at A1216 D1216 st1216
  have ne_b1190_b1216 : b1190 ≠ b1216 := Nat.ne_of_lt (Nat.lt_of_lt_of_le c1207_0.lt (Nat.le_of_eq g1216.symm))
  have ne_b1196_b1216 : b1196 ≠ b1216 := Nat.ne_of_lt (Nat.lt_of_lt_of_le c1207_1.lt (Nat.le_of_eq g1216.symm))
  have ne_b1200_b1216 : b1200 ≠ b1216 := Nat.ne_of_lt (Nat.lt_of_lt_of_le c1207_2.lt (Nat.le_of_eq g1216.symm))
  have ne_t2_b1216 : t2 ≠ b1216 := Nat.ne_of_lt (Nat.lt_of_lt_of_le c1207_3.lt (Nat.le_of_eq g1216.symm))
  have ne_t3_b1216 : t3 ≠ b1216 := Nat.ne_of_lt (Nat.lt_of_lt_of_le Rt3.lt (Nat.le_of_eq g1216.symm))
  have g_b1216 : n0 ≤ b1216 := Nat.le_trans Z1206 (Nat.le_of_eq g1216.symm)
  have sz_b1216 : h0.size ≤ b1216 := Nat.le_trans K1206.1 (Nat.le_of_eq g1216.symm)
  have c1217_0 := c1207_0.ext E1216
  have c1217_1 := c1207_1.ext E1216
  have c1217_2 := c1207_2.ext E1216
  have c1217_3 := c1207_3.ext E1216
  have c1217_4 := Rt3.ext E1216
  have Z1216 : n0 ≤ h1216.size := Nat.le_trans Z1206 E1216.1
  have K1216 : Keep h0 h1216 [] := K1206.ext E1216
  have F1216_room : Fld Z h1216 b1216 "com/example/tributary/tributary/solver/Rooms" "room" "[D" .null := D1216 (Or.inr (hw _ (List.mem_of_getElem? (i := 25) rfl))) (ty := (.array .double)) (by decide)
  have F1216_closed : Fld Z h1216 b1216 "com/example/tributary/tributary/solver/Rooms" "closed" "[Z" .null := D1216 (Or.inr (hw _ (List.mem_of_getElem? (i := 28) rfl))) (ty := (.array .boolean)) (by decide)
  have F1216_loggedLink : Fld Z h1216 b1216 "com/example/tributary/tributary/solver/Rooms" "loggedLink" "[I" .null := D1216 (Or.inr (hw _ (List.mem_of_getElem? (i := 30) rfl))) (ty := (.array .int)) (by decide)
  have F1216_loggedRoom : Fld Z h1216 b1216 "com/example/tributary/tributary/solver/Rooms" "loggedRoom" "[D" .null := D1216 (Or.inr (hw _ (List.mem_of_getElem? (i := 32) rfl))) (ty := (.array .double)) (by decide)
  have F1216_loggedClosed : Fld Z h1216 b1216 "com/example/tributary/tributary/solver/Rooms" "loggedClosed" "[Z" .null := D1216 (Or.inr (hw _ (List.mem_of_getElem? (i := 34) rfl))) (ty := (.array .boolean)) (by decide)
  have F1216_logged : Fld Z h1216 b1216 "com/example/tributary/tributary/solver/Rooms" "logged" "I" (.int (0 : Int32)) := D1216 (Or.inl (hw _ (List.mem_of_getElem? (i := 54) rfl))) (ty := .int) (by decide)
  obtain ⟨T1218, h1218, k1218, X1218, e1218, E1218, A1218, B1218, st1218⟩ := own_newD X1216 hx hZ (hw _ (List.mem_of_getElem? (i := 8) rfl)) e1216 (g := (mkF m 119 #[.val (.int u1), .val (.int u2), .val (.int u3), .val (.int u4), .val (.int u5), .val (.int u6), .val (.int (Int32.ofNat y0)), .val (.int (Int32.ofNat y1)), .val (.int (Int32.ofNat z1)), .val (.ref b1190), .val (.ref b1196), .val (.ref b1200), .val (.ref t2), .val (.ref t3), .val (.double (FP.l2d (Int64.ofNat z2))), .second, .val (.double (FP.l2d (Int64.ofNat z3))), .second, .val (.int kp), .val (.int (Int32.ofNat zp)), .val (.ref pr), .unset, .unset, .unset, .unset, .unset, .unset, .unset, .unset, .unset] [(.int (2 : Int32)), (.ref b1216), (.ref b1216)])) rfl (hb hby at_119) rfl (by decide) (cap := 2) (by decide) (by decide) (by decide) (by decide)
  obtain ⟨b1218, g1218⟩ : ∃ z, z = h1216.size := ⟨_, rfl⟩
  rw [← g1218] at A1218 B1218 st1218
  have ne_b1190_b1218 : b1190 ≠ b1218 := Nat.ne_of_lt (Nat.lt_of_lt_of_le c1217_0.lt (Nat.le_of_eq g1218.symm))
  have ne_b1196_b1218 : b1196 ≠ b1218 := Nat.ne_of_lt (Nat.lt_of_lt_of_le c1217_1.lt (Nat.le_of_eq g1218.symm))
  have ne_b1200_b1218 : b1200 ≠ b1218 := Nat.ne_of_lt (Nat.lt_of_lt_of_le c1217_2.lt (Nat.le_of_eq g1218.symm))
  have ne_t2_b1218 : t2 ≠ b1218 := Nat.ne_of_lt (Nat.lt_of_lt_of_le c1217_3.lt (Nat.le_of_eq g1218.symm))
  have ne_t3_b1218 : t3 ≠ b1218 := Nat.ne_of_lt (Nat.lt_of_lt_of_le c1217_4.lt (Nat.le_of_eq g1218.symm))
  have ne_b1216_b1218 : b1216 ≠ b1218 := Nat.ne_of_lt (Nat.lt_of_lt_of_le A1216.lt (Nat.le_of_eq g1218.symm))
  have g_b1218 : n0 ≤ b1218 := Nat.le_trans Z1216 (Nat.le_of_eq g1218.symm)
  have sz_b1218 : h0.size ≤ b1218 := Nat.le_trans K1216.1 (Nat.le_of_eq g1218.symm)
  have c1219_0 := c1217_0.ext E1218
  have c1219_1 := c1217_1.ext E1218
  have c1219_2 := c1217_2.ext E1218
  have c1219_3 := c1217_3.ext E1218
  have c1219_4 := c1217_4.ext E1218
  have c1219_5 := A1216.ext E1218
  have c1219_6 := F1216_room.ext E1218
  have c1219_7 := F1216_closed.ext E1218
  have c1219_8 := F1216_loggedLink.ext E1218
  have c1219_9 := F1216_loggedRoom.ext E1218
  have c1219_10 := F1216_loggedClosed.ext E1218
  have c1219_11 := F1216_logged.ext E1218
  have Z1218 : n0 ≤ h1218.size := Nat.le_trans Z1216 E1218.1
  have K1218 : Keep h0 h1218 [] := K1216.ext E1218
  have V1218 : Arv Z h1218 b1218 k1218 .double (2 : Int32) [(.double (0 : UInt64)), (.double (0 : UInt64))] (.double (0 : UInt64)) := (Arv.new A1218 (by decide)).pad (pad_rep [] (.double (0 : UInt64)) 2)
  obtain ⟨cl1220, Ar1220, q1220, S1220, M1220, H1220, G1220⟩ := id V1218
  have hin1220 : ¬ ((0 : Int32) < 0 ∨ cl1220.slots.size ≤ ((0 : Int32)).toNatClampNeg) := inb_of S1220 ⟨by decide, by decide⟩
  obtain ⟨T1220, h1220, X1220, e1220, W1220, st1220⟩ := stD X1218 hx hZ e1218 Ar1220 (j := (0 : Int32)) hin1220 (g := (mkF m 126 #[.val (.int u1), .val (.int u2), .val (.int u3), .val (.int u4), .val (.int u5), .val (.int u6), .val (.int (Int32.ofNat y0)), .val (.int (Int32.ofNat y1)), .val (.int (Int32.ofNat z1)), .val (.ref b1190), .val (.ref b1196), .val (.ref b1200), .val (.ref t2), .val (.ref t3), .val (.double (FP.l2d (Int64.ofNat z2))), .second, .val (.double (FP.l2d (Int64.ofNat z3))), .second, .val (.int kp), .val (.int (Int32.ofNat zp)), .val (.ref pr), .unset, .unset, .unset, .unset, .unset, .unset, .unset, .unset, .unset] [(.double (FP.i2d (Int32.ofNat y0))), (.int (0 : Int32)), (.ref b1218), (.ref b1218), (.ref b1216), (.ref b1216)])) rfl rfl (hb hby at_126)
  have V1220 := Arv.set Ar1220 q1220 S1220 M1220 H1220 G1220 rfl W1220 0 rfl (Nat.le_of_ble_eq_true rfl)
  have c1221_0 := c1219_0.other W1220 ne_b1190_b1218
  have c1221_1 := c1219_1.other W1220 ne_b1196_b1218
  have c1221_2 := c1219_2.other W1220 ne_b1200_b1218
  have c1221_3 := c1219_3.other W1220 ne_t2_b1218
  have c1221_4 := c1219_4.other W1220 ne_t3_b1218
  have c1221_5 := c1219_5.wr W1220
  have c1221_6 := c1219_6.other W1220 (Or.inl ne_b1216_b1218)
  have c1221_7 := c1219_7.other W1220 (Or.inl ne_b1216_b1218)
  have c1221_8 := c1219_8.other W1220 (Or.inl ne_b1216_b1218)
  have c1221_9 := c1219_9.other W1220 (Or.inl ne_b1216_b1218)
  have c1221_10 := c1219_10.other W1220 (Or.inl ne_b1216_b1218)
  have c1221_11 := c1219_11.other W1220 (Or.inl ne_b1216_b1218)
  have c1221_12 := B1218.wr W1220
  have Z1220 : n0 ≤ h1220.size := Nat.le_trans Z1218 (Nat.le_of_eq W1220.size.symm)
  have K1220 : Keep h0 h1220 [] := K1218.wr W1220 (Or.inr sz_b1218)
  have N1220 := Fr.snoc X1220 N1206 g_b1218
  obtain ⟨cl1222, Ar1222, q1222, S1222, M1222, H1222, G1222⟩ := id V1220
  have hin1222 : ¬ ((1 : Int32) < 0 ∨ cl1222.slots.size ≤ ((1 : Int32)).toNatClampNeg) := inb_of S1222 ⟨by decide, by decide⟩
  obtain ⟨T1222, h1222, X1222, e1222, W1222, st1222⟩ := stD X1220 hx hZ e1220 Ar1222 (j := (1 : Int32)) hin1222 (g := (mkF m 132 #[.val (.int u1), .val (.int u2), .val (.int u3), .val (.int u4), .val (.int u5), .val (.int u6), .val (.int (Int32.ofNat y0)), .val (.int (Int32.ofNat y1)), .val (.int (Int32.ofNat z1)), .val (.ref b1190), .val (.ref b1196), .val (.ref b1200), .val (.ref t2), .val (.ref t3), .val (.double (FP.l2d (Int64.ofNat z2))), .second, .val (.double (FP.l2d (Int64.ofNat z3))), .second, .val (.int kp), .val (.int (Int32.ofNat zp)), .val (.ref pr), .unset, .unset, .unset, .unset, .unset, .unset, .unset, .unset, .unset] [(.double (FP.i2d (Int32.ofNat y1))), (.int (1 : Int32)), (.ref b1218), (.ref b1218), (.ref b1216), (.ref b1216)])) rfl rfl (hb hby at_132)
  have V1222 := Arv.set Ar1222 q1222 S1222 M1222 H1222 G1222 rfl W1222 1 rfl (Nat.le_of_ble_eq_true rfl)
  have c1223_0 := c1221_0.other W1222 ne_b1190_b1218
  have c1223_1 := c1221_1.other W1222 ne_b1196_b1218
  have c1223_2 := c1221_2.other W1222 ne_b1200_b1218
  have c1223_3 := c1221_3.other W1222 ne_t2_b1218
  have c1223_4 := c1221_4.other W1222 ne_t3_b1218
  have c1223_5 := c1221_5.wr W1222
  have c1223_6 := c1221_6.other W1222 (Or.inl ne_b1216_b1218)
  have c1223_7 := c1221_7.other W1222 (Or.inl ne_b1216_b1218)
  have c1223_8 := c1221_8.other W1222 (Or.inl ne_b1216_b1218)
  have c1223_9 := c1221_9.other W1222 (Or.inl ne_b1216_b1218)
  have c1223_10 := c1221_10.other W1222 (Or.inl ne_b1216_b1218)
  have c1223_11 := c1221_11.other W1222 (Or.inl ne_b1216_b1218)
  have c1223_12 := c1221_12.wr W1222
  have Z1222 : n0 ≤ h1222.size := Nat.le_trans Z1220 (Nat.le_of_eq W1222.size.symm)
  have K1222 : Keep h0 h1222 [] := K1220.wr W1222 (Or.inr sz_b1218)
  have N1222 := Fr.snoc X1222 N1220 g_b1218
  have VA : Arv Z h1222 b1218 k1218 .double (2 : Int32) [.double (FP.i2d (Int32.ofNat y0)), .double (FP.i2d (Int32.ofNat y1))] (.double 0) := V1222
  rw [own_i2d y0 hy0, own_i2d y1 hy1] at VA
  obtain ⟨_, _, ⟨T1224, L1224, k1224, n1224⟩, -, X1224, ⟨Lc1224, hQ1224, l1224, y1224, z1224⟩, st1224⟩ := X1222.specialBack hx (y := (⟨"com/example/tributary/tributary/solver/Rooms", "<init>", "([DI)V"⟩ : MethodName)) rfl hown (mvT hZ (hw _ (List.mem_of_getElem? (i := 9) rfl))) (mvT hZ (hw _ (List.mem_of_getElem? (i := 10) rfl))) (mvT hZ (hw _ (List.mem_of_getElem? (i := 11) rfl))) (by decide) (backOf (W := 1) (rm_init l Z a0 hw [] b1216 b1218 k1218 y0 y1 h1222 n0 Z1222 c1223_5 c1223_6 c1223_7 c1223_8 c1223_9 c1223_10 c1223_11 g_b1216 VA c1223_12 ne_b1216_b1218) hZ (hw _ (List.mem_of_getElem? (i := 11) rfl)) (hw _ (List.mem_of_getElem? (i := 7) rfl)) (by decide) (by decide)) (g := (mkF m 135 #[.val (.int u1), .val (.int u2), .val (.int u3), .val (.int u4), .val (.int u5), .val (.int u6), .val (.int (Int32.ofNat y0)), .val (.int (Int32.ofNat y1)), .val (.int (Int32.ofNat z1)), .val (.ref b1190), .val (.ref b1196), .val (.ref b1200), .val (.ref t2), .val (.ref t3), .val (.double (FP.l2d (Int64.ofNat z2))), .second, .val (.double (FP.l2d (Int64.ofNat z3))), .second, .val (.int kp), .val (.int (Int32.ofNat zp)), .val (.ref pr), .unset, .unset, .unset, .unset, .unset, .unset, .unset, .unset, .unset] [(.int (8 : Int32)), (.ref b1218), (.ref b1216), (.ref b1216)])) rfl (by rw [hml]; rfl) (Steps.refl _) (a := b1216) (argsL := [(.ref b1218), (.int (8 : Int32))]) (rest := [(.ref b1216)]) (lenOf pd_4 rfl) rfl (by show 2 * 0 + _ ≤ _; exact Nat.le_of_eq rfl) (hb hby at_135) (fun _ _ => ⟨rfl, e1222, (by decide : 7 + 5 ≤ _), (by decide : 16 + 28 ≤ _)⟩)
  dsimp only [Pt.U, Pt.locs, Pt.cells, Pt.slots] at X1224 l1224 y1224 z1224 st1224 hQ1224
  subst l1224 y1224 z1224
  obtain ⟨ar, ac, al, alr, alc, k1, k2, k3, k4, k5, rfl, N1224q, Ki, hs_ar, hs_ac, hs_al, hs_alr, hs_alc, Di, Bi⟩ := hQ1224
  have N1224 := Fr.app N1222 N1224q
  have ne_b1190_ar : b1190 ≠ ar := Nat.ne_of_lt (Nat.lt_of_lt_of_le c1223_0.lt hs_ar)
  have ne_b1196_ar : b1196 ≠ ar := Nat.ne_of_lt (Nat.lt_of_lt_of_le c1223_1.lt hs_ar)
  have ne_b1200_ar : b1200 ≠ ar := Nat.ne_of_lt (Nat.lt_of_lt_of_le c1223_2.lt hs_ar)
  have ne_t2_ar : t2 ≠ ar := Nat.ne_of_lt (Nat.lt_of_lt_of_le c1223_3.lt hs_ar)
  have ne_t3_ar : t3 ≠ ar := Nat.ne_of_lt (Nat.lt_of_lt_of_le c1223_4.lt hs_ar)
  have ne_b1216_ar : b1216 ≠ ar := Nat.ne_of_lt (Nat.lt_of_lt_of_le c1223_5.lt hs_ar)
  have ne_b1218_ar : b1218 ≠ ar := Nat.ne_of_lt (Nat.lt_of_lt_of_le c1223_12.lt hs_ar)
  have g_ar : n0 ≤ ar := Nat.le_trans Z1222 hs_ar
  have sz_ar : h0.size ≤ ar := Nat.le_trans K1222.1 hs_ar
  have ne_b1190_ac : b1190 ≠ ac := Nat.ne_of_lt (Nat.lt_of_lt_of_le c1223_0.lt hs_ac)
  have ne_b1196_ac : b1196 ≠ ac := Nat.ne_of_lt (Nat.lt_of_lt_of_le c1223_1.lt hs_ac)
  have ne_b1200_ac : b1200 ≠ ac := Nat.ne_of_lt (Nat.lt_of_lt_of_le c1223_2.lt hs_ac)
  have ne_t2_ac : t2 ≠ ac := Nat.ne_of_lt (Nat.lt_of_lt_of_le c1223_3.lt hs_ac)
  have ne_t3_ac : t3 ≠ ac := Nat.ne_of_lt (Nat.lt_of_lt_of_le c1223_4.lt hs_ac)
  have ne_b1216_ac : b1216 ≠ ac := Nat.ne_of_lt (Nat.lt_of_lt_of_le c1223_5.lt hs_ac)
  have ne_b1218_ac : b1218 ≠ ac := Nat.ne_of_lt (Nat.lt_of_lt_of_le c1223_12.lt hs_ac)
  have g_ac : n0 ≤ ac := Nat.le_trans Z1222 hs_ac
  have sz_ac : h0.size ≤ ac := Nat.le_trans K1222.1 hs_ac
  have ne_b1190_al : b1190 ≠ al := Nat.ne_of_lt (Nat.lt_of_lt_of_le c1223_0.lt hs_al)
  have ne_b1196_al : b1196 ≠ al := Nat.ne_of_lt (Nat.lt_of_lt_of_le c1223_1.lt hs_al)
  have ne_b1200_al : b1200 ≠ al := Nat.ne_of_lt (Nat.lt_of_lt_of_le c1223_2.lt hs_al)
  have ne_t2_al : t2 ≠ al := Nat.ne_of_lt (Nat.lt_of_lt_of_le c1223_3.lt hs_al)
  have ne_t3_al : t3 ≠ al := Nat.ne_of_lt (Nat.lt_of_lt_of_le c1223_4.lt hs_al)
  have ne_b1216_al : b1216 ≠ al := Nat.ne_of_lt (Nat.lt_of_lt_of_le c1223_5.lt hs_al)
  have ne_b1218_al : b1218 ≠ al := Nat.ne_of_lt (Nat.lt_of_lt_of_le c1223_12.lt hs_al)
  have g_al : n0 ≤ al := Nat.le_trans Z1222 hs_al
  have sz_al : h0.size ≤ al := Nat.le_trans K1222.1 hs_al
  have ne_b1190_alr : b1190 ≠ alr := Nat.ne_of_lt (Nat.lt_of_lt_of_le c1223_0.lt hs_alr)
  have ne_b1196_alr : b1196 ≠ alr := Nat.ne_of_lt (Nat.lt_of_lt_of_le c1223_1.lt hs_alr)
  have ne_b1200_alr : b1200 ≠ alr := Nat.ne_of_lt (Nat.lt_of_lt_of_le c1223_2.lt hs_alr)
  have ne_t2_alr : t2 ≠ alr := Nat.ne_of_lt (Nat.lt_of_lt_of_le c1223_3.lt hs_alr)
  have ne_t3_alr : t3 ≠ alr := Nat.ne_of_lt (Nat.lt_of_lt_of_le c1223_4.lt hs_alr)
  have ne_b1216_alr : b1216 ≠ alr := Nat.ne_of_lt (Nat.lt_of_lt_of_le c1223_5.lt hs_alr)
  have ne_b1218_alr : b1218 ≠ alr := Nat.ne_of_lt (Nat.lt_of_lt_of_le c1223_12.lt hs_alr)
  have g_alr : n0 ≤ alr := Nat.le_trans Z1222 hs_alr
  have sz_alr : h0.size ≤ alr := Nat.le_trans K1222.1 hs_alr
  have ne_b1190_alc : b1190 ≠ alc := Nat.ne_of_lt (Nat.lt_of_lt_of_le c1223_0.lt hs_alc)
  have ne_b1196_alc : b1196 ≠ alc := Nat.ne_of_lt (Nat.lt_of_lt_of_le c1223_1.lt hs_alc)
  have ne_b1200_alc : b1200 ≠ alc := Nat.ne_of_lt (Nat.lt_of_lt_of_le c1223_2.lt hs_alc)
  have ne_t2_alc : t2 ≠ alc := Nat.ne_of_lt (Nat.lt_of_lt_of_le c1223_3.lt hs_alc)
  have ne_t3_alc : t3 ≠ alc := Nat.ne_of_lt (Nat.lt_of_lt_of_le c1223_4.lt hs_alc)
  have ne_b1216_alc : b1216 ≠ alc := Nat.ne_of_lt (Nat.lt_of_lt_of_le c1223_5.lt hs_alc)
  have ne_b1218_alc : b1218 ≠ alc := Nat.ne_of_lt (Nat.lt_of_lt_of_le c1223_12.lt hs_alc)
  have g_alc : n0 ≤ alc := Nat.le_trans Z1222 hs_alc
  have sz_alc : h0.size ≤ alc := Nat.le_trans K1222.1 hs_alc
  have c1225_0 := c1223_0.keep Ki (ninS ne_b1190_b1216 nin0)
  have c1225_1 := c1223_1.keep Ki (ninS ne_b1196_b1216 nin0)
  have c1225_2 := c1223_2.keep Ki (ninS ne_b1200_b1216 nin0)
  have c1225_3 := c1223_3.keep Ki (ninS ne_t2_b1216 nin0)
  have c1225_4 := c1223_4.keep Ki (ninS ne_t3_b1216 nin0)
  have c1225_5 := c1223_5.keep Ki
  have c1225_6 := c1223_12.keep Ki
  have c1225_7 := V1222.keep Ki (ninS (Ne.symm ne_b1216_b1218) nin0)
  have Z1224 : n0 ≤ T1224.heap.size := Nat.le_trans Z1222 Ki.1
  have K1224 : Keep h0 T1224.heap [] := K1222.trans Ki (allS (Or.inr sz_b1216) all0)
  have Gi : own_G n0 b1216 ar ac al alr alc := ⟨g_b1216, g_ar, g_ac, g_al, g_alr, g_alc⟩
  have P1226 : ∀ t, Steps p.tables e below (T1224.setTop (mkF m 147 #[.val (.int u1), .val (.int u2), .val (.int u3), .val (.int u4), .val (.int u5), .val (.int u6), .val (.int (Int32.ofNat y0)), .val (.int (Int32.ofNat y1)), .val (.int (Int32.ofNat z1)), .val (.ref b1190), .val (.ref b1196), .val (.ref b1200), .val (.ref t2), .val (.ref t3), .val (.double (FP.l2d (Int64.ofNat z2))), .second, .val (.double (FP.l2d (Int64.ofNat z3))), .second, .val (.int kp), .val (.int (Int32.ofNat zp)), .val (.ref pr), .val (.ref b1216), .unset, .unset, .unset, .unset, .unset, .unset, .unset, .unset] [(.double (FP.i2d (Int32.ofNat z1))), (.ref b1190), (.ref b1216)])) t → Steps p.tables e below (s₁.setTop (entryFrame m #[(.int u1), (.int u2), (.int u3), (.int u4), (.int u5), (.int u6)] maxLocals)) t := fun t k => P1213 t (by
    refine XS.astore X1206.here hx rfl (hb hby at_112) rfl rfl (l' := #[.val (.int u1), .val (.int u2), .val (.int u3), .val (.int u4), .val (.int u5), .val (.int u6), .val (.int (Int32.ofNat y0)), .val (.int (Int32.ofNat y1)), .val (.int (Int32.ofNat z1)), .val (.ref b1190), .val (.ref b1196), .val (.ref b1200), .val (.ref t2), .val (.ref t3), .val (.double (FP.l2d (Int64.ofNat z2))), .second, .val (.double (FP.l2d (Int64.ofNat z3))), .second, .val (.int kp), .val (.int (Int32.ofNat zp)), .val (.ref pr), .unset, .unset, .unset, .unset, .unset, .unset, .unset, .unset, .unset]) rfl ?_
    show Steps p.tables e below (T1206.setTop (mkF m 114 #[.val (.int u1), .val (.int u2), .val (.int u3), .val (.int u4), .val (.int u5), .val (.int u6), .val (.int (Int32.ofNat y0)), .val (.int (Int32.ofNat y1)), .val (.int (Int32.ofNat z1)), .val (.ref b1190), .val (.ref b1196), .val (.ref b1200), .val (.ref t2), .val (.ref t3), .val (.double (FP.l2d (Int64.ofNat z2))), .second, .val (.double (FP.l2d (Int64.ofNat z3))), .second, .val (.int kp), .val (.int (Int32.ofNat zp)), .val (.ref pr), .unset, .unset, .unset, .unset, .unset, .unset, .unset, .unset, .unset] [])) _
    refine st1216 _ ?_
    show Steps p.tables e below (T1216.setTop (mkF m 117 #[.val (.int u1), .val (.int u2), .val (.int u3), .val (.int u4), .val (.int u5), .val (.int u6), .val (.int (Int32.ofNat y0)), .val (.int (Int32.ofNat y1)), .val (.int (Int32.ofNat z1)), .val (.ref b1190), .val (.ref b1196), .val (.ref b1200), .val (.ref t2), .val (.ref t3), .val (.double (FP.l2d (Int64.ofNat z2))), .second, .val (.double (FP.l2d (Int64.ofNat z3))), .second, .val (.int kp), .val (.int (Int32.ofNat zp)), .val (.ref pr), .unset, .unset, .unset, .unset, .unset, .unset, .unset, .unset, .unset] [(.ref b1216)])) _
    refine XS.dup X1216.here hx rfl (hb hby at_117) rfl rfl ?_
    show Steps p.tables e below (T1216.setTop (mkF m 118 #[.val (.int u1), .val (.int u2), .val (.int u3), .val (.int u4), .val (.int u5), .val (.int u6), .val (.int (Int32.ofNat y0)), .val (.int (Int32.ofNat y1)), .val (.int (Int32.ofNat z1)), .val (.ref b1190), .val (.ref b1196), .val (.ref b1200), .val (.ref t2), .val (.ref t3), .val (.double (FP.l2d (Int64.ofNat z2))), .second, .val (.double (FP.l2d (Int64.ofNat z3))), .second, .val (.int kp), .val (.int (Int32.ofNat zp)), .val (.ref pr), .unset, .unset, .unset, .unset, .unset, .unset, .unset, .unset, .unset] [(.ref b1216), (.ref b1216)])) _
    refine XS.iconst X1216.here hx rfl (hb hby at_118) ?_
    show Steps p.tables e below (T1216.setTop (mkF m 119 #[.val (.int u1), .val (.int u2), .val (.int u3), .val (.int u4), .val (.int u5), .val (.int u6), .val (.int (Int32.ofNat y0)), .val (.int (Int32.ofNat y1)), .val (.int (Int32.ofNat z1)), .val (.ref b1190), .val (.ref b1196), .val (.ref b1200), .val (.ref t2), .val (.ref t3), .val (.double (FP.l2d (Int64.ofNat z2))), .second, .val (.double (FP.l2d (Int64.ofNat z3))), .second, .val (.int kp), .val (.int (Int32.ofNat zp)), .val (.ref pr), .unset, .unset, .unset, .unset, .unset, .unset, .unset, .unset, .unset] [(.int (2 : Int32)), (.ref b1216), (.ref b1216)])) _
    refine st1218 _ ?_
    show Steps p.tables e below (T1218.setTop (mkF m 121 #[.val (.int u1), .val (.int u2), .val (.int u3), .val (.int u4), .val (.int u5), .val (.int u6), .val (.int (Int32.ofNat y0)), .val (.int (Int32.ofNat y1)), .val (.int (Int32.ofNat z1)), .val (.ref b1190), .val (.ref b1196), .val (.ref b1200), .val (.ref t2), .val (.ref t3), .val (.double (FP.l2d (Int64.ofNat z2))), .second, .val (.double (FP.l2d (Int64.ofNat z3))), .second, .val (.int kp), .val (.int (Int32.ofNat zp)), .val (.ref pr), .unset, .unset, .unset, .unset, .unset, .unset, .unset, .unset, .unset] [(.ref b1218), (.ref b1216), (.ref b1216)])) _
    refine XS.dup X1218.here hx rfl (hb hby at_121) rfl rfl ?_
    show Steps p.tables e below (T1218.setTop (mkF m 122 #[.val (.int u1), .val (.int u2), .val (.int u3), .val (.int u4), .val (.int u5), .val (.int u6), .val (.int (Int32.ofNat y0)), .val (.int (Int32.ofNat y1)), .val (.int (Int32.ofNat z1)), .val (.ref b1190), .val (.ref b1196), .val (.ref b1200), .val (.ref t2), .val (.ref t3), .val (.double (FP.l2d (Int64.ofNat z2))), .second, .val (.double (FP.l2d (Int64.ofNat z3))), .second, .val (.int kp), .val (.int (Int32.ofNat zp)), .val (.ref pr), .unset, .unset, .unset, .unset, .unset, .unset, .unset, .unset, .unset] [(.ref b1218), (.ref b1218), (.ref b1216), (.ref b1216)])) _
    refine XS.iconst X1218.here hx rfl (hb hby at_122) ?_
    show Steps p.tables e below (T1218.setTop (mkF m 123 #[.val (.int u1), .val (.int u2), .val (.int u3), .val (.int u4), .val (.int u5), .val (.int u6), .val (.int (Int32.ofNat y0)), .val (.int (Int32.ofNat y1)), .val (.int (Int32.ofNat z1)), .val (.ref b1190), .val (.ref b1196), .val (.ref b1200), .val (.ref t2), .val (.ref t3), .val (.double (FP.l2d (Int64.ofNat z2))), .second, .val (.double (FP.l2d (Int64.ofNat z3))), .second, .val (.int kp), .val (.int (Int32.ofNat zp)), .val (.ref pr), .unset, .unset, .unset, .unset, .unset, .unset, .unset, .unset, .unset] [(.int (0 : Int32)), (.ref b1218), (.ref b1218), (.ref b1216), (.ref b1216)])) _
    refine XS.iload X1218.here hx rfl (hb hby at_123) rfl ?_
    show Steps p.tables e below (T1218.setTop (mkF m 125 #[.val (.int u1), .val (.int u2), .val (.int u3), .val (.int u4), .val (.int u5), .val (.int u6), .val (.int (Int32.ofNat y0)), .val (.int (Int32.ofNat y1)), .val (.int (Int32.ofNat z1)), .val (.ref b1190), .val (.ref b1196), .val (.ref b1200), .val (.ref t2), .val (.ref t3), .val (.double (FP.l2d (Int64.ofNat z2))), .second, .val (.double (FP.l2d (Int64.ofNat z3))), .second, .val (.int kp), .val (.int (Int32.ofNat zp)), .val (.ref pr), .unset, .unset, .unset, .unset, .unset, .unset, .unset, .unset, .unset] [(.int (Int32.ofNat y0)), (.int (0 : Int32)), (.ref b1218), (.ref b1218), (.ref b1216), (.ref b1216)])) _
    refine XS.i2dS X1218.here hx rfl (hb hby at_125) rfl (v := FP.i2d (Int32.ofNat y0)) rfl ?_
    show Steps p.tables e below (T1218.setTop (mkF m 126 #[.val (.int u1), .val (.int u2), .val (.int u3), .val (.int u4), .val (.int u5), .val (.int u6), .val (.int (Int32.ofNat y0)), .val (.int (Int32.ofNat y1)), .val (.int (Int32.ofNat z1)), .val (.ref b1190), .val (.ref b1196), .val (.ref b1200), .val (.ref t2), .val (.ref t3), .val (.double (FP.l2d (Int64.ofNat z2))), .second, .val (.double (FP.l2d (Int64.ofNat z3))), .second, .val (.int kp), .val (.int (Int32.ofNat zp)), .val (.ref pr), .unset, .unset, .unset, .unset, .unset, .unset, .unset, .unset, .unset] [(.double (FP.i2d (Int32.ofNat y0))), (.int (0 : Int32)), (.ref b1218), (.ref b1218), (.ref b1216), (.ref b1216)])) _
    refine st1220 _ ?_
    show Steps p.tables e below (T1220.setTop (mkF m 127 #[.val (.int u1), .val (.int u2), .val (.int u3), .val (.int u4), .val (.int u5), .val (.int u6), .val (.int (Int32.ofNat y0)), .val (.int (Int32.ofNat y1)), .val (.int (Int32.ofNat z1)), .val (.ref b1190), .val (.ref b1196), .val (.ref b1200), .val (.ref t2), .val (.ref t3), .val (.double (FP.l2d (Int64.ofNat z2))), .second, .val (.double (FP.l2d (Int64.ofNat z3))), .second, .val (.int kp), .val (.int (Int32.ofNat zp)), .val (.ref pr), .unset, .unset, .unset, .unset, .unset, .unset, .unset, .unset, .unset] [(.ref b1218), (.ref b1216), (.ref b1216)])) _
    refine XS.dup X1220.here hx rfl (hb hby at_127) rfl rfl ?_
    show Steps p.tables e below (T1220.setTop (mkF m 128 #[.val (.int u1), .val (.int u2), .val (.int u3), .val (.int u4), .val (.int u5), .val (.int u6), .val (.int (Int32.ofNat y0)), .val (.int (Int32.ofNat y1)), .val (.int (Int32.ofNat z1)), .val (.ref b1190), .val (.ref b1196), .val (.ref b1200), .val (.ref t2), .val (.ref t3), .val (.double (FP.l2d (Int64.ofNat z2))), .second, .val (.double (FP.l2d (Int64.ofNat z3))), .second, .val (.int kp), .val (.int (Int32.ofNat zp)), .val (.ref pr), .unset, .unset, .unset, .unset, .unset, .unset, .unset, .unset, .unset] [(.ref b1218), (.ref b1218), (.ref b1216), (.ref b1216)])) _
    refine XS.iconst X1220.here hx rfl (hb hby at_128) ?_
    show Steps p.tables e below (T1220.setTop (mkF m 129 #[.val (.int u1), .val (.int u2), .val (.int u3), .val (.int u4), .val (.int u5), .val (.int u6), .val (.int (Int32.ofNat y0)), .val (.int (Int32.ofNat y1)), .val (.int (Int32.ofNat z1)), .val (.ref b1190), .val (.ref b1196), .val (.ref b1200), .val (.ref t2), .val (.ref t3), .val (.double (FP.l2d (Int64.ofNat z2))), .second, .val (.double (FP.l2d (Int64.ofNat z3))), .second, .val (.int kp), .val (.int (Int32.ofNat zp)), .val (.ref pr), .unset, .unset, .unset, .unset, .unset, .unset, .unset, .unset, .unset] [(.int (1 : Int32)), (.ref b1218), (.ref b1218), (.ref b1216), (.ref b1216)])) _
    refine XS.iload X1220.here hx rfl (hb hby at_129) rfl ?_
    show Steps p.tables e below (T1220.setTop (mkF m 131 #[.val (.int u1), .val (.int u2), .val (.int u3), .val (.int u4), .val (.int u5), .val (.int u6), .val (.int (Int32.ofNat y0)), .val (.int (Int32.ofNat y1)), .val (.int (Int32.ofNat z1)), .val (.ref b1190), .val (.ref b1196), .val (.ref b1200), .val (.ref t2), .val (.ref t3), .val (.double (FP.l2d (Int64.ofNat z2))), .second, .val (.double (FP.l2d (Int64.ofNat z3))), .second, .val (.int kp), .val (.int (Int32.ofNat zp)), .val (.ref pr), .unset, .unset, .unset, .unset, .unset, .unset, .unset, .unset, .unset] [(.int (Int32.ofNat y1)), (.int (1 : Int32)), (.ref b1218), (.ref b1218), (.ref b1216), (.ref b1216)])) _
    refine XS.i2dS X1220.here hx rfl (hb hby at_131) rfl (v := FP.i2d (Int32.ofNat y1)) rfl ?_
    show Steps p.tables e below (T1220.setTop (mkF m 132 #[.val (.int u1), .val (.int u2), .val (.int u3), .val (.int u4), .val (.int u5), .val (.int u6), .val (.int (Int32.ofNat y0)), .val (.int (Int32.ofNat y1)), .val (.int (Int32.ofNat z1)), .val (.ref b1190), .val (.ref b1196), .val (.ref b1200), .val (.ref t2), .val (.ref t3), .val (.double (FP.l2d (Int64.ofNat z2))), .second, .val (.double (FP.l2d (Int64.ofNat z3))), .second, .val (.int kp), .val (.int (Int32.ofNat zp)), .val (.ref pr), .unset, .unset, .unset, .unset, .unset, .unset, .unset, .unset, .unset] [(.double (FP.i2d (Int32.ofNat y1))), (.int (1 : Int32)), (.ref b1218), (.ref b1218), (.ref b1216), (.ref b1216)])) _
    refine st1222 _ ?_
    show Steps p.tables e below (T1222.setTop (mkF m 133 #[.val (.int u1), .val (.int u2), .val (.int u3), .val (.int u4), .val (.int u5), .val (.int u6), .val (.int (Int32.ofNat y0)), .val (.int (Int32.ofNat y1)), .val (.int (Int32.ofNat z1)), .val (.ref b1190), .val (.ref b1196), .val (.ref b1200), .val (.ref t2), .val (.ref t3), .val (.double (FP.l2d (Int64.ofNat z2))), .second, .val (.double (FP.l2d (Int64.ofNat z3))), .second, .val (.int kp), .val (.int (Int32.ofNat zp)), .val (.ref pr), .unset, .unset, .unset, .unset, .unset, .unset, .unset, .unset, .unset] [(.ref b1218), (.ref b1216), (.ref b1216)])) _
    refine XS.bipush X1222.here hx rfl (hb hby at_133) ?_
    show Steps p.tables e below (T1222.setTop (mkF m 135 #[.val (.int u1), .val (.int u2), .val (.int u3), .val (.int u4), .val (.int u5), .val (.int u6), .val (.int (Int32.ofNat y0)), .val (.int (Int32.ofNat y1)), .val (.int (Int32.ofNat z1)), .val (.ref b1190), .val (.ref b1196), .val (.ref b1200), .val (.ref t2), .val (.ref t3), .val (.double (FP.l2d (Int64.ofNat z2))), .second, .val (.double (FP.l2d (Int64.ofNat z3))), .second, .val (.int kp), .val (.int (Int32.ofNat zp)), .val (.ref pr), .unset, .unset, .unset, .unset, .unset, .unset, .unset, .unset, .unset] [(.int (8 : Int32)), (.ref b1218), (.ref b1216), (.ref b1216)])) _
    refine st1224.trans ?_
    show Steps p.tables e below (T1224.setTop (mkF m 138 #[.val (.int u1), .val (.int u2), .val (.int u3), .val (.int u4), .val (.int u5), .val (.int u6), .val (.int (Int32.ofNat y0)), .val (.int (Int32.ofNat y1)), .val (.int (Int32.ofNat z1)), .val (.ref b1190), .val (.ref b1196), .val (.ref b1200), .val (.ref t2), .val (.ref t3), .val (.double (FP.l2d (Int64.ofNat z2))), .second, .val (.double (FP.l2d (Int64.ofNat z3))), .second, .val (.int kp), .val (.int (Int32.ofNat zp)), .val (.ref pr), .unset, .unset, .unset, .unset, .unset, .unset, .unset, .unset, .unset] [(.ref b1216)])) _
    refine XS.astore X1224.here hx rfl (hb hby at_138) rfl rfl (l' := #[.val (.int u1), .val (.int u2), .val (.int u3), .val (.int u4), .val (.int u5), .val (.int u6), .val (.int (Int32.ofNat y0)), .val (.int (Int32.ofNat y1)), .val (.int (Int32.ofNat z1)), .val (.ref b1190), .val (.ref b1196), .val (.ref b1200), .val (.ref t2), .val (.ref t3), .val (.double (FP.l2d (Int64.ofNat z2))), .second, .val (.double (FP.l2d (Int64.ofNat z3))), .second, .val (.int kp), .val (.int (Int32.ofNat zp)), .val (.ref pr), .val (.ref b1216), .unset, .unset, .unset, .unset, .unset, .unset, .unset, .unset]) rfl ?_
    show Steps p.tables e below (T1224.setTop (mkF m 140 #[.val (.int u1), .val (.int u2), .val (.int u3), .val (.int u4), .val (.int u5), .val (.int u6), .val (.int (Int32.ofNat y0)), .val (.int (Int32.ofNat y1)), .val (.int (Int32.ofNat z1)), .val (.ref b1190), .val (.ref b1196), .val (.ref b1200), .val (.ref t2), .val (.ref t3), .val (.double (FP.l2d (Int64.ofNat z2))), .second, .val (.double (FP.l2d (Int64.ofNat z3))), .second, .val (.int kp), .val (.int (Int32.ofNat zp)), .val (.ref pr), .val (.ref b1216), .unset, .unset, .unset, .unset, .unset, .unset, .unset, .unset] [])) _
    refine XS.aload X1224.here hx rfl (hb hby at_140) rfl rfl ?_
    show Steps p.tables e below (T1224.setTop (mkF m 142 #[.val (.int u1), .val (.int u2), .val (.int u3), .val (.int u4), .val (.int u5), .val (.int u6), .val (.int (Int32.ofNat y0)), .val (.int (Int32.ofNat y1)), .val (.int (Int32.ofNat z1)), .val (.ref b1190), .val (.ref b1196), .val (.ref b1200), .val (.ref t2), .val (.ref t3), .val (.double (FP.l2d (Int64.ofNat z2))), .second, .val (.double (FP.l2d (Int64.ofNat z3))), .second, .val (.int kp), .val (.int (Int32.ofNat zp)), .val (.ref pr), .val (.ref b1216), .unset, .unset, .unset, .unset, .unset, .unset, .unset, .unset] [(.ref b1216)])) _
    refine XS.aload X1224.here hx rfl (hb hby at_142) rfl rfl ?_
    show Steps p.tables e below (T1224.setTop (mkF m 144 #[.val (.int u1), .val (.int u2), .val (.int u3), .val (.int u4), .val (.int u5), .val (.int u6), .val (.int (Int32.ofNat y0)), .val (.int (Int32.ofNat y1)), .val (.int (Int32.ofNat z1)), .val (.ref b1190), .val (.ref b1196), .val (.ref b1200), .val (.ref t2), .val (.ref t3), .val (.double (FP.l2d (Int64.ofNat z2))), .second, .val (.double (FP.l2d (Int64.ofNat z3))), .second, .val (.int kp), .val (.int (Int32.ofNat zp)), .val (.ref pr), .val (.ref b1216), .unset, .unset, .unset, .unset, .unset, .unset, .unset, .unset] [(.ref b1190), (.ref b1216)])) _
    refine XS.iload X1224.here hx rfl (hb hby at_144) rfl ?_
    show Steps p.tables e below (T1224.setTop (mkF m 146 #[.val (.int u1), .val (.int u2), .val (.int u3), .val (.int u4), .val (.int u5), .val (.int u6), .val (.int (Int32.ofNat y0)), .val (.int (Int32.ofNat y1)), .val (.int (Int32.ofNat z1)), .val (.ref b1190), .val (.ref b1196), .val (.ref b1200), .val (.ref t2), .val (.ref t3), .val (.double (FP.l2d (Int64.ofNat z2))), .second, .val (.double (FP.l2d (Int64.ofNat z3))), .second, .val (.int kp), .val (.int (Int32.ofNat zp)), .val (.ref pr), .val (.ref b1216), .unset, .unset, .unset, .unset, .unset, .unset, .unset, .unset] [(.int (Int32.ofNat z1)), (.ref b1190), (.ref b1216)])) _
    refine XS.i2dS X1224.here hx rfl (hb hby at_146) rfl (v := FP.i2d (Int32.ofNat z1)) rfl ?_
    show Steps p.tables e below (T1224.setTop (mkF m 147 #[.val (.int u1), .val (.int u2), .val (.int u3), .val (.int u4), .val (.int u5), .val (.int u6), .val (.int (Int32.ofNat y0)), .val (.int (Int32.ofNat y1)), .val (.int (Int32.ofNat z1)), .val (.ref b1190), .val (.ref b1196), .val (.ref b1200), .val (.ref t2), .val (.ref t3), .val (.double (FP.l2d (Int64.ofNat z2))), .second, .val (.double (FP.l2d (Int64.ofNat z3))), .second, .val (.int kp), .val (.int (Int32.ofNat zp)), .val (.ref pr), .val (.ref b1216), .unset, .unset, .unset, .unset, .unset, .unset, .unset, .unset] [(.double (FP.i2d (Int32.ofNat z1))), (.ref b1190), (.ref b1216)])) _
    exact k)
  rw [own_i2d z1 hz1] at P1226
  obtain ⟨cq1227, kq1227, q1227a, q1227b, q1227c⟩ := isOf hZ rfl Bi.1
  obtain ⟨_, _, ⟨T1227, L1227, k1227, n1227⟩, -, X1227, ⟨Lc1227, hQ1227, l1227, y1227, z1227⟩, st1227⟩ := X1224.virtualBack hx (y := (⟨"com/example/tributary/tributary/solver/Rooms", "tryJob", "([ID)Z"⟩ : MethodName)) (z := (⟨"com/example/tributary/tributary/solver/Rooms", "tryJob", "([ID)Z"⟩ : MethodName)) hown (mvT hZ (hw _ (List.mem_of_getElem? (i := 35) rfl))) (mvT hZ (hw _ (List.mem_of_getElem? (i := 36) rfl))) (notFace_of_selects (args := #[]) (mvT hZ (hw _ (List.mem_of_getElem? (i := 38) rfl)))) (mvT hZ (hw _ (List.mem_of_getElem? (i := 38) rfl))) (mvT hZ (hw _ (List.mem_of_getElem? (i := 37) rfl))) (by decide) (backOf (W := 0) (rm_try2 l Z a0 hw [] b1216 ar ac al alr alc k1 k2 k3 k4 k5 ([y0, y1], [0, 0], [0, 0, 0, 0, 0, 0, 0, 0], [0, 0, 0, 0, 0, 0, 0, 0], [0, 0, 0, 0, 0, 0, 0, 0], 0) b1190 k1190 0 1 z1 T1224.heap n0 Z1224 Bi Di Gi (own_ok0 hy0 hy1) c1225_0 ⟨ne_b1190_b1216, ne_b1190_ar, ne_b1190_ac, ne_b1190_al, ne_b1190_alr, ne_b1190_alc⟩ (by decide) (by decide) hz1 (show 0 + 2 ≤ 8 by decide)) hZ (hw _ (List.mem_of_getElem? (i := 39) rfl)) (hw _ (List.mem_of_getElem? (i := 7) rfl)) (by decide) (by decide)) q1227a q1227c (g := (mkF m 147 #[.val (.int u1), .val (.int u2), .val (.int u3), .val (.int u4), .val (.int u5), .val (.int u6), .val (.int (Int32.ofNat y0)), .val (.int (Int32.ofNat y1)), .val (.int (Int32.ofNat z1)), .val (.ref b1190), .val (.ref b1196), .val (.ref b1200), .val (.ref t2), .val (.ref t3), .val (.double (FP.l2d (Int64.ofNat z2))), .second, .val (.double (FP.l2d (Int64.ofNat z3))), .second, .val (.int kp), .val (.int (Int32.ofNat zp)), .val (.ref pr), .val (.ref b1216), .unset, .unset, .unset, .unset, .unset, .unset, .unset, .unset] [(.double (FP.l2d (Int64.ofNat z1))), (.ref b1190), (.ref b1216)])) rfl (by rw [hml]; rfl) (Steps.refl _) (argsL := [(.ref b1190), (.double (FP.l2d (Int64.ofNat z1)))]) (rest := []) (lenOf pd_5 rfl) rfl (by show 2 * 0 + _ ≤ _; exact Nat.le_of_eq rfl) (hb hby at_147) (fun _ _ => ⟨rfl, rfl, (by decide : 12 + 0 ≤ _), (by decide : 44 + 0 ≤ _)⟩)
  dsimp only [Pt.U, Pt.locs, Pt.cells, Pt.slots] at X1227 l1227 y1227 z1227 st1227 hQ1227
  subst l1227 y1227 z1227
  obtain ⟨f1, rfl, N1227q, Kt1, Bt1⟩ := hQ1227
  have N1227 := Fr.app N1224 N1227q
  have c1228_0 := c1225_0.keep Kt1 (ninS ne_b1190_b1216 (ninS ne_b1190_ar (ninS ne_b1190_ac (ninS ne_b1190_al (ninS ne_b1190_alr (ninS ne_b1190_alc nin0))))))
  have c1228_1 := c1225_1.keep Kt1 (ninS ne_b1196_b1216 (ninS ne_b1196_ar (ninS ne_b1196_ac (ninS ne_b1196_al (ninS ne_b1196_alr (ninS ne_b1196_alc nin0))))))
  have c1228_2 := c1225_2.keep Kt1 (ninS ne_b1200_b1216 (ninS ne_b1200_ar (ninS ne_b1200_ac (ninS ne_b1200_al (ninS ne_b1200_alr (ninS ne_b1200_alc nin0))))))
  have c1228_3 := c1225_3.keep Kt1 (ninS ne_t2_b1216 (ninS ne_t2_ar (ninS ne_t2_ac (ninS ne_t2_al (ninS ne_t2_alr (ninS ne_t2_alc nin0))))))
  have c1228_4 := c1225_4.keep Kt1 (ninS ne_t3_b1216 (ninS ne_t3_ar (ninS ne_t3_ac (ninS ne_t3_al (ninS ne_t3_alr (ninS ne_t3_alc nin0))))))
  have Z1227 : n0 ≤ T1227.heap.size := Nat.le_trans Z1224 Kt1.1
  have K1227 : Keep h0 T1227.heap [] := K1224.trans Kt1 (allS (Or.inr sz_b1216) (allS (Or.inr sz_ar) (allS (Or.inr sz_ac) (allS (Or.inr sz_al) (allS (Or.inr sz_alr) (allS (Or.inr sz_alc) all0))))))
  have P1229 : ∀ t, Steps p.tables e below (T1227.setTop (mkF m 151 #[.val (.int u1), .val (.int u2), .val (.int u3), .val (.int u4), .val (.int u5), .val (.int u6), .val (.int (Int32.ofNat y0)), .val (.int (Int32.ofNat y1)), .val (.int (Int32.ofNat z1)), .val (.ref b1190), .val (.ref b1196), .val (.ref b1200), .val (.ref t2), .val (.ref t3), .val (.double (FP.l2d (Int64.ofNat z2))), .second, .val (.double (FP.l2d (Int64.ofNat z3))), .second, .val (.int kp), .val (.int (Int32.ofNat zp)), .val (.ref pr), .val (.ref b1216), .unset, .unset, .unset, .unset, .unset, .unset, .unset, .unset] [])) t → Steps p.tables e below (s₁.setTop (entryFrame m #[(.int u1), (.int u2), (.int u3), (.int u4), (.int u5), (.int u6)] maxLocals)) t := fun t k => P1226 t (by
    refine st1227.trans ?_
    show Steps p.tables e below (T1227.setTop (mkF m 150 #[.val (.int u1), .val (.int u2), .val (.int u3), .val (.int u4), .val (.int u5), .val (.int u6), .val (.int (Int32.ofNat y0)), .val (.int (Int32.ofNat y1)), .val (.int (Int32.ofNat z1)), .val (.ref b1190), .val (.ref b1196), .val (.ref b1200), .val (.ref t2), .val (.ref t3), .val (.double (FP.l2d (Int64.ofNat z2))), .second, .val (.double (FP.l2d (Int64.ofNat z3))), .second, .val (.int kp), .val (.int (Int32.ofNat zp)), .val (.ref pr), .val (.ref b1216), .unset, .unset, .unset, .unset, .unset, .unset, .unset, .unset] [(.int f1)])) _
    refine XS.pop X1227.here hx rfl (hb hby at_150) rfl rfl ?_
    show Steps p.tables e below (T1227.setTop (mkF m 151 #[.val (.int u1), .val (.int u2), .val (.int u3), .val (.int u4), .val (.int u5), .val (.int u6), .val (.int (Int32.ofNat y0)), .val (.int (Int32.ofNat y1)), .val (.int (Int32.ofNat z1)), .val (.ref b1190), .val (.ref b1196), .val (.ref b1200), .val (.ref t2), .val (.ref t3), .val (.double (FP.l2d (Int64.ofNat z2))), .second, .val (.double (FP.l2d (Int64.ofNat z3))), .second, .val (.int kp), .val (.int (Int32.ofNat zp)), .val (.ref pr), .val (.ref b1216), .unset, .unset, .unset, .unset, .unset, .unset, .unset, .unset] [])) _
    exact k)
  obtain ⟨S1, hS1⟩ : ∃ q, q = own_step z1 (own_step z1 ([y0, y1], [0, 0], [0, 0, 0, 0, 0, 0, 0, 0], [0, 0, 0, 0, 0, 0, 0, 0], [0, 0, 0, 0, 0, 0, 0, 0], 0) 0) 1 := ⟨_, rfl⟩
  rw [← hS1] at Bt1
  have OK1 : own_ok S1 := by rw [hS1]; exact own_ok_step (own_ok_step (own_ok0 hy0 hy1) (by decide)) (by decide)
  obtain ⟨hR0, hR1, hA0, hA1, hk1⟩ := own_s1 hS1
  obtain ⟨cq1230, kq1230, q1230a, q1230b, q1230c⟩ := isOf hZ rfl Bt1.1
  obtain ⟨_, _, ⟨T1230, L1230, k1230, n1230⟩, -, X1230, ⟨Lc1230, hQ1230, l1230, y1230, z1230⟩, st1230⟩ := X1227.virtualBack hx (y := (⟨"com/example/tributary/tributary/solver/Rooms", "mark", "()I"⟩ : MethodName)) (z := (⟨"com/example/tributary/tributary/solver/Rooms", "mark", "()I"⟩ : MethodName)) hown (mvT hZ (hw _ (List.mem_of_getElem? (i := 55) rfl))) (mvT hZ (hw _ (List.mem_of_getElem? (i := 56) rfl))) (notFace_of_selects (args := #[]) (mvT hZ (hw _ (List.mem_of_getElem? (i := 58) rfl)))) (mvT hZ (hw _ (List.mem_of_getElem? (i := 58) rfl))) (mvT hZ (hw _ (List.mem_of_getElem? (i := 57) rfl))) (by decide) (backOf (W := 0) (rm_mark l Z a0 hw [] b1216 ar ac al alr alc k1 k2 k3 k4 k5 S1 T1227.heap n0 Z1227 Bt1 Di Gi OK1) hZ (hw _ (List.mem_of_getElem? (i := 59) rfl)) (hw _ (List.mem_of_getElem? (i := 7) rfl)) (by decide) (by decide)) q1230a q1230c (g := (mkF m 153 #[.val (.int u1), .val (.int u2), .val (.int u3), .val (.int u4), .val (.int u5), .val (.int u6), .val (.int (Int32.ofNat y0)), .val (.int (Int32.ofNat y1)), .val (.int (Int32.ofNat z1)), .val (.ref b1190), .val (.ref b1196), .val (.ref b1200), .val (.ref t2), .val (.ref t3), .val (.double (FP.l2d (Int64.ofNat z2))), .second, .val (.double (FP.l2d (Int64.ofNat z3))), .second, .val (.int kp), .val (.int (Int32.ofNat zp)), .val (.ref pr), .val (.ref b1216), .unset, .unset, .unset, .unset, .unset, .unset, .unset, .unset] [(.ref b1216)])) rfl (by rw [hml]; rfl) (Steps.refl _) (argsL := []) (rest := []) (lenOf pd_6 rfl) rfl (by show 2 * 0 + _ ≤ _; exact Nat.le_of_eq rfl) (hb hby at_153) (fun _ _ => ⟨rfl, rfl, (by decide : 12 + 0 ≤ _), (by decide : 44 + 0 ≤ _)⟩)
  dsimp only [Pt.U, Pt.locs, Pt.cells, Pt.slots] at X1230 l1230 y1230 z1230 st1230 hQ1230
  subst l1230 y1230 z1230
  obtain ⟨rfl, N1230q, e153⟩ := hQ1230
  have N1230 := Fr.app N1227 N1230q
  have P1231 : ∀ t, Steps p.tables e below (T1230.setTop (mkF m 158 #[.val (.int u1), .val (.int u2), .val (.int u3), .val (.int u4), .val (.int u5), .val (.int u6), .val (.int (Int32.ofNat y0)), .val (.int (Int32.ofNat y1)), .val (.int (Int32.ofNat z1)), .val (.ref b1190), .val (.ref b1196), .val (.ref b1200), .val (.ref t2), .val (.ref t3), .val (.double (FP.l2d (Int64.ofNat z2))), .second, .val (.double (FP.l2d (Int64.ofNat z3))), .second, .val (.int kp), .val (.int (Int32.ofNat zp)), .val (.ref pr), .val (.ref b1216), .val (.int (Int32.ofNat S1.2.2.2.2.2)), .unset, .unset, .unset, .unset, .unset, .unset, .unset] [])) t → Steps p.tables e below (s₁.setTop (entryFrame m #[(.int u1), (.int u2), (.int u3), (.int u4), (.int u5), (.int u6)] maxLocals)) t := fun t k => P1229 t (by
    refine XS.aload X1227.here hx rfl (hb hby at_151) rfl rfl ?_
    show Steps p.tables e below (T1227.setTop (mkF m 153 #[.val (.int u1), .val (.int u2), .val (.int u3), .val (.int u4), .val (.int u5), .val (.int u6), .val (.int (Int32.ofNat y0)), .val (.int (Int32.ofNat y1)), .val (.int (Int32.ofNat z1)), .val (.ref b1190), .val (.ref b1196), .val (.ref b1200), .val (.ref t2), .val (.ref t3), .val (.double (FP.l2d (Int64.ofNat z2))), .second, .val (.double (FP.l2d (Int64.ofNat z3))), .second, .val (.int kp), .val (.int (Int32.ofNat zp)), .val (.ref pr), .val (.ref b1216), .unset, .unset, .unset, .unset, .unset, .unset, .unset, .unset] [(.ref b1216)])) _
    refine st1230.trans ?_
    show Steps p.tables e below (T1230.setTop (mkF m 156 #[.val (.int u1), .val (.int u2), .val (.int u3), .val (.int u4), .val (.int u5), .val (.int u6), .val (.int (Int32.ofNat y0)), .val (.int (Int32.ofNat y1)), .val (.int (Int32.ofNat z1)), .val (.ref b1190), .val (.ref b1196), .val (.ref b1200), .val (.ref t2), .val (.ref t3), .val (.double (FP.l2d (Int64.ofNat z2))), .second, .val (.double (FP.l2d (Int64.ofNat z3))), .second, .val (.int kp), .val (.int (Int32.ofNat zp)), .val (.ref pr), .val (.ref b1216), .unset, .unset, .unset, .unset, .unset, .unset, .unset, .unset] [(.int (Int32.ofNat S1.2.2.2.2.2))])) _
    refine XS.istore X1230.here hx rfl (hb hby at_156) rfl (l' := #[.val (.int u1), .val (.int u2), .val (.int u3), .val (.int u4), .val (.int u5), .val (.int u6), .val (.int (Int32.ofNat y0)), .val (.int (Int32.ofNat y1)), .val (.int (Int32.ofNat z1)), .val (.ref b1190), .val (.ref b1196), .val (.ref b1200), .val (.ref t2), .val (.ref t3), .val (.double (FP.l2d (Int64.ofNat z2))), .second, .val (.double (FP.l2d (Int64.ofNat z3))), .second, .val (.int kp), .val (.int (Int32.ofNat zp)), .val (.ref pr), .val (.ref b1216), .val (.int (Int32.ofNat S1.2.2.2.2.2)), .unset, .unset, .unset, .unset, .unset, .unset, .unset]) rfl ?_
    show Steps p.tables e below (T1230.setTop (mkF m 158 #[.val (.int u1), .val (.int u2), .val (.int u3), .val (.int u4), .val (.int u5), .val (.int u6), .val (.int (Int32.ofNat y0)), .val (.int (Int32.ofNat y1)), .val (.int (Int32.ofNat z1)), .val (.ref b1190), .val (.ref b1196), .val (.ref b1200), .val (.ref t2), .val (.ref t3), .val (.double (FP.l2d (Int64.ofNat z2))), .second, .val (.double (FP.l2d (Int64.ofNat z3))), .second, .val (.int kp), .val (.int (Int32.ofNat zp)), .val (.ref pr), .val (.ref b1216), .val (.int (Int32.ofNat S1.2.2.2.2.2)), .unset, .unset, .unset, .unset, .unset, .unset, .unset] [])) _
    exact k)
  rw [hk1] at P1231
  have Bk1 : own_Bk 2 S1 S1 := hk1 ▸ own_Bk_refl S1
  have hkb1 : S1.2.2.2.2.2 ≤ 2 := Nat.le_of_eq hk1
  obtain ⟨T1232, h1232, L1232, S1232, X1232, e1232, N1232, K1232, B1232, OK1232, Bk1232, hkb1232, V1232_b1196, V1232_b1200, V1232_t3,  P1232⟩ : ∃ (T' : State) (h' : Heap) (Lc' : List Loc) (S' : own_S), Stand p l e room_1 s m #[(.int u1), (.int u2), (.int u3), (.int u4), (.int u5), (.int u6)] below meth c T' Lc' 12 44 ∧ T'.heap = h' ∧ Fr n0 Lc' ∧ Keep h0 h' [] ∧ own_St Z h' b1216 ar ac al alr alc k1 k2 k3 k4 k5 S' ∧ own_ok S' ∧ own_Bk 2 S1 S' ∧ S'.2.2.2.2.2 ≤ 4 ∧ Arv Z h' b1196 k1196 .int (1 : Int32) [.int (Int32.ofNat 0)] (.int (0 : Int32)) ∧ Arv Z h' b1200 k1200 .int (1 : Int32) [.int (Int32.ofNat 1)] (.int (0 : Int32)) ∧ own_rt Z h' t3 kt3 ∧  (∀ t, Steps p.tables e below (T'.setTop (mkF m 178 #[.val (.int u1), .val (.int u2), .val (.int u3), .val (.int u4), .val (.int u5), .val (.int u6), .val (.int (Int32.ofNat y0)), .val (.int (Int32.ofNat y1)), .val (.int (Int32.ofNat z1)), .val (.ref b1190), .val (.ref b1196), .val (.ref b1200), .val (.ref t2), .val (.ref t3), .val (.double (FP.l2d (Int64.ofNat z2))), .second, .val (.double (FP.l2d (Int64.ofNat z3))), .second, .val (.int kp), .val (.int (Int32.ofNat zp)), .val (.ref pr), .val (.ref b1216), .val (.int (Int32.ofNat 2)), .unset, .unset, .unset, .unset, .unset, .unset, .unset] [])) t → Steps p.tables e below (s₁.setTop (entryFrame m #[(.int u1), (.int u2), (.int u3), (.int u4), (.int u5), (.int u6)] maxLocals)) t) := by
    rcases c1228_3 with ⟨x1, hx1, VT⟩ | ⟨x1, x2, hx1, hx2, VT⟩
    · obtain ⟨cq1233, kq1233, q1233a, q1233b, q1233c⟩ := isOf hZ e153 Bt1.1
      obtain ⟨_, _, ⟨T1233, L1233, k1233, n1233⟩, -, X1233, ⟨Lc1233, hQ1233, l1233, y1233, z1233⟩, st1233⟩ := X1230.virtualBack hx (y := (⟨"com/example/tributary/tributary/solver/Rooms", "open", "([I)Z"⟩ : MethodName)) (z := (⟨"com/example/tributary/tributary/solver/Rooms", "open", "([I)Z"⟩ : MethodName)) hown (mvT hZ (hw _ (List.mem_of_getElem? (i := 60) rfl))) (mvT hZ (hw _ (List.mem_of_getElem? (i := 61) rfl))) (notFace_of_selects (args := #[]) (mvT hZ (hw _ (List.mem_of_getElem? (i := 63) rfl)))) (mvT hZ (hw _ (List.mem_of_getElem? (i := 63) rfl))) (mvT hZ (hw _ (List.mem_of_getElem? (i := 62) rfl))) (by decide) (backOf (W := 0) (rm_open1 l Z a0 hw [] b1216 ar ac al alr alc k1 k2 k3 k4 k5 S1 t2 kt2 x1 T1227.heap n0 Z1227 Bt1 Di Gi OK1 VT ⟨ne_t2_b1216, ne_t2_ar, ne_t2_ac, ne_t2_al, ne_t2_alr, ne_t2_alc⟩ hx1) hZ (hw _ (List.mem_of_getElem? (i := 64) rfl)) (hw _ (List.mem_of_getElem? (i := 7) rfl)) (by decide) (by decide)) q1233a q1233c (g := (mkF m 162 #[.val (.int u1), .val (.int u2), .val (.int u3), .val (.int u4), .val (.int u5), .val (.int u6), .val (.int (Int32.ofNat y0)), .val (.int (Int32.ofNat y1)), .val (.int (Int32.ofNat z1)), .val (.ref b1190), .val (.ref b1196), .val (.ref b1200), .val (.ref t2), .val (.ref t3), .val (.double (FP.l2d (Int64.ofNat z2))), .second, .val (.double (FP.l2d (Int64.ofNat z3))), .second, .val (.int kp), .val (.int (Int32.ofNat zp)), .val (.ref pr), .val (.ref b1216), .val (.int (Int32.ofNat 2)), .unset, .unset, .unset, .unset, .unset, .unset, .unset] [(.ref t2), (.ref b1216)])) rfl (by rw [hml]; rfl) (Steps.refl _) (argsL := [(.ref t2)]) (rest := []) (lenOf pd_7 rfl) rfl (by show 2 * 0 + _ ≤ _; exact Nat.le_of_eq rfl) (hb hby at_162) (fun _ _ => ⟨rfl, e153, (by decide : 12 + 0 ≤ _), (by decide : 44 + 0 ≤ _)⟩)
      dsimp only [Pt.U, Pt.locs, Pt.cells, Pt.slots] at X1233 l1233 y1233 z1233 st1233 hQ1233
      subst l1233 y1233 z1233
      obtain ⟨fo, rfl, N1233q, eo, ho⟩ := hQ1233
      have N1233 := Fr.app N1230 N1233q
      have P1234 : ∀ t, Steps p.tables e below (T1233.setTop (mkF m 165 #[.val (.int u1), .val (.int u2), .val (.int u3), .val (.int u4), .val (.int u5), .val (.int u6), .val (.int (Int32.ofNat y0)), .val (.int (Int32.ofNat y1)), .val (.int (Int32.ofNat z1)), .val (.ref b1190), .val (.ref b1196), .val (.ref b1200), .val (.ref t2), .val (.ref t3), .val (.double (FP.l2d (Int64.ofNat z2))), .second, .val (.double (FP.l2d (Int64.ofNat z3))), .second, .val (.int kp), .val (.int (Int32.ofNat zp)), .val (.ref pr), .val (.ref b1216), .val (.int (Int32.ofNat 2)), .unset, .unset, .unset, .unset, .unset, .unset, .unset] [(.int fo)])) t → Steps p.tables e below (s₁.setTop (entryFrame m #[(.int u1), (.int u2), (.int u3), (.int u4), (.int u5), (.int u6)] maxLocals)) t := fun t k => P1231 t (by
        refine XS.aload X1230.here hx rfl (hb hby at_158) rfl rfl ?_
        show Steps p.tables e below (T1230.setTop (mkF m 160 #[.val (.int u1), .val (.int u2), .val (.int u3), .val (.int u4), .val (.int u5), .val (.int u6), .val (.int (Int32.ofNat y0)), .val (.int (Int32.ofNat y1)), .val (.int (Int32.ofNat z1)), .val (.ref b1190), .val (.ref b1196), .val (.ref b1200), .val (.ref t2), .val (.ref t3), .val (.double (FP.l2d (Int64.ofNat z2))), .second, .val (.double (FP.l2d (Int64.ofNat z3))), .second, .val (.int kp), .val (.int (Int32.ofNat zp)), .val (.ref pr), .val (.ref b1216), .val (.int (Int32.ofNat 2)), .unset, .unset, .unset, .unset, .unset, .unset, .unset] [(.ref b1216)])) _
        refine XS.aload X1230.here hx rfl (hb hby at_160) rfl rfl ?_
        show Steps p.tables e below (T1230.setTop (mkF m 162 #[.val (.int u1), .val (.int u2), .val (.int u3), .val (.int u4), .val (.int u5), .val (.int u6), .val (.int (Int32.ofNat y0)), .val (.int (Int32.ofNat y1)), .val (.int (Int32.ofNat z1)), .val (.ref b1190), .val (.ref b1196), .val (.ref b1200), .val (.ref t2), .val (.ref t3), .val (.double (FP.l2d (Int64.ofNat z2))), .second, .val (.double (FP.l2d (Int64.ofNat z3))), .second, .val (.int kp), .val (.int (Int32.ofNat zp)), .val (.ref pr), .val (.ref b1216), .val (.int (Int32.ofNat 2)), .unset, .unset, .unset, .unset, .unset, .unset, .unset] [(.ref t2), (.ref b1216)])) _
        refine st1233.trans ?_
        show Steps p.tables e below (T1233.setTop (mkF m 165 #[.val (.int u1), .val (.int u2), .val (.int u3), .val (.int u4), .val (.int u5), .val (.int u6), .val (.int (Int32.ofNat y0)), .val (.int (Int32.ofNat y1)), .val (.int (Int32.ofNat z1)), .val (.ref b1190), .val (.ref b1196), .val (.ref b1200), .val (.ref t2), .val (.ref t3), .val (.double (FP.l2d (Int64.ofNat z2))), .second, .val (.double (FP.l2d (Int64.ofNat z3))), .second, .val (.int kp), .val (.int (Int32.ofNat zp)), .val (.ref pr), .val (.ref b1216), .val (.int (Int32.ofNat 2)), .unset, .unset, .unset, .unset, .unset, .unset, .unset] [(.int fo)])) _
        exact k)
      by_cases hq : fo = (0 : Int32)
      · have P1235 : ∀ t, Steps p.tables e below (T1233.setTop (mkF m 178 #[.val (.int u1), .val (.int u2), .val (.int u3), .val (.int u4), .val (.int u5), .val (.int u6), .val (.int (Int32.ofNat y0)), .val (.int (Int32.ofNat y1)), .val (.int (Int32.ofNat z1)), .val (.ref b1190), .val (.ref b1196), .val (.ref b1200), .val (.ref t2), .val (.ref t3), .val (.double (FP.l2d (Int64.ofNat z2))), .second, .val (.double (FP.l2d (Int64.ofNat z3))), .second, .val (.int kp), .val (.int (Int32.ofNat zp)), .val (.ref pr), .val (.ref b1216), .val (.int (Int32.ofNat 2)), .unset, .unset, .unset, .unset, .unset, .unset, .unset] [])) t → Steps p.tables e below (s₁.setTop (entryFrame m #[(.int u1), (.int u2), (.int u3), (.int u4), (.int u5), (.int u6)] maxLocals)) t := fun t k => P1234 t (by
          refine XS.ifYes X1233.here hx rfl (pc0 := 165) (pc' := 178) rfl (hb hby at_165) rfl ((if0 _ _).trans (teq hq).1) (by decide) (by decide) ?_
          show Steps p.tables e below (T1233.setTop (mkF m 178 #[.val (.int u1), .val (.int u2), .val (.int u3), .val (.int u4), .val (.int u5), .val (.int u6), .val (.int (Int32.ofNat y0)), .val (.int (Int32.ofNat y1)), .val (.int (Int32.ofNat z1)), .val (.ref b1190), .val (.ref b1196), .val (.ref b1200), .val (.ref t2), .val (.ref t3), .val (.double (FP.l2d (Int64.ofNat z2))), .second, .val (.double (FP.l2d (Int64.ofNat z3))), .second, .val (.int kp), .val (.int (Int32.ofNat zp)), .val (.ref pr), .val (.ref b1216), .val (.int (Int32.ofNat 2)), .unset, .unset, .unset, .unset, .unset, .unset, .unset] [])) _
          exact k)
        exact ⟨T1233, T1227.heap, _, S1, X1233, eo, N1233, K1227, Bt1, OK1, Bk1, Nat.le_trans hkb1 (by decide), c1228_1, c1228_2, c1228_4, P1235⟩
      · have hk8 : S1.2.2.2.2.2 + 1 ≤ 8 := by omega
        obtain ⟨cq1236, kq1236, q1236a, q1236b, q1236c⟩ := isOf hZ eo Bt1.1
        obtain ⟨_, _, ⟨T1236, L1236, k1236, n1236⟩, -, X1236, ⟨Lc1236, hQ1236, l1236, y1236, z1236⟩, st1236⟩ := X1233.virtualBack hx (y := (⟨"com/example/tributary/tributary/solver/Rooms", "tryJob", "([ID)Z"⟩ : MethodName)) (z := (⟨"com/example/tributary/tributary/solver/Rooms", "tryJob", "([ID)Z"⟩ : MethodName)) hown (mvT hZ (hw _ (List.mem_of_getElem? (i := 35) rfl))) (mvT hZ (hw _ (List.mem_of_getElem? (i := 36) rfl))) (notFace_of_selects (args := #[]) (mvT hZ (hw _ (List.mem_of_getElem? (i := 38) rfl)))) (mvT hZ (hw _ (List.mem_of_getElem? (i := 38) rfl))) (mvT hZ (hw _ (List.mem_of_getElem? (i := 37) rfl))) (by decide) (backOf (W := 0) (rm_try1 l Z a0 hw [] b1216 ar ac al alr alc k1 k2 k3 k4 k5 S1 t2 kt2 x1 z2 T1227.heap n0 Z1227 Bt1 Di Gi OK1 VT ⟨ne_t2_b1216, ne_t2_ar, ne_t2_ac, ne_t2_al, ne_t2_alr, ne_t2_alc⟩ hx1 hz2 hk8) hZ (hw _ (List.mem_of_getElem? (i := 39) rfl)) (hw _ (List.mem_of_getElem? (i := 7) rfl)) (by decide) (by decide)) q1236a q1236c (g := (mkF m 174 #[.val (.int u1), .val (.int u2), .val (.int u3), .val (.int u4), .val (.int u5), .val (.int u6), .val (.int (Int32.ofNat y0)), .val (.int (Int32.ofNat y1)), .val (.int (Int32.ofNat z1)), .val (.ref b1190), .val (.ref b1196), .val (.ref b1200), .val (.ref t2), .val (.ref t3), .val (.double (FP.l2d (Int64.ofNat z2))), .second, .val (.double (FP.l2d (Int64.ofNat z3))), .second, .val (.int kp), .val (.int (Int32.ofNat zp)), .val (.ref pr), .val (.ref b1216), .val (.int (Int32.ofNat 2)), .unset, .unset, .unset, .unset, .unset, .unset, .unset] [(.double (FP.l2d (Int64.ofNat z2))), (.ref t2), (.ref b1216)])) rfl (by rw [hml]; rfl) (Steps.refl _) (argsL := [(.ref t2), (.double (FP.l2d (Int64.ofNat z2)))]) (rest := []) (lenOf pd_5 rfl) rfl (by show 2 * 0 + _ ≤ _; exact Nat.le_of_eq rfl) (hb hby at_174) (fun _ _ => ⟨rfl, eo, (by decide : 12 + 0 ≤ _), (by decide : 44 + 0 ≤ _)⟩)
        dsimp only [Pt.U, Pt.locs, Pt.cells, Pt.slots] at X1236 l1236 y1236 z1236 st1236 hQ1236
        subst l1236 y1236 z1236
        obtain ⟨rfl, N1236q, Kt, Bt⟩ := hQ1236
        have N1236 := Fr.app N1233 N1236q
        have c1237_0 := c1228_1.keep Kt (ninS ne_b1196_b1216 (ninS ne_b1196_ar (ninS ne_b1196_ac (ninS ne_b1196_al (ninS ne_b1196_alr (ninS ne_b1196_alc nin0))))))
        have c1237_1 := c1228_2.keep Kt (ninS ne_b1200_b1216 (ninS ne_b1200_ar (ninS ne_b1200_ac (ninS ne_b1200_al (ninS ne_b1200_alr (ninS ne_b1200_alc nin0))))))
        have c1237_2 := VT.keep Kt (ninS ne_t2_b1216 (ninS ne_t2_ar (ninS ne_t2_ac (ninS ne_t2_al (ninS ne_t2_alr (ninS ne_t2_alc nin0))))))
        have c1237_3 := c1228_4.keep Kt (ninS ne_t3_b1216 (ninS ne_t3_ar (ninS ne_t3_ac (ninS ne_t3_al (ninS ne_t3_alr (ninS ne_t3_alc nin0))))))
        have Z1236 : n0 ≤ T1236.heap.size := Nat.le_trans Z1227 Kt.1
        have K1236 : Keep h0 T1236.heap [] := K1227.trans Kt (allS (Or.inr sz_b1216) (allS (Or.inr sz_ar) (allS (Or.inr sz_ac) (allS (Or.inr sz_al) (allS (Or.inr sz_alr) (allS (Or.inr sz_alc) all0))))))
        have e1 := own_step_k z2 S1 x1
        have P1238 : ∀ t, Steps p.tables e below (T1236.setTop (mkF m 178 #[.val (.int u1), .val (.int u2), .val (.int u3), .val (.int u4), .val (.int u5), .val (.int u6), .val (.int (Int32.ofNat y0)), .val (.int (Int32.ofNat y1)), .val (.int (Int32.ofNat z1)), .val (.ref b1190), .val (.ref b1196), .val (.ref b1200), .val (.ref t2), .val (.ref t3), .val (.double (FP.l2d (Int64.ofNat z2))), .second, .val (.double (FP.l2d (Int64.ofNat z3))), .second, .val (.int kp), .val (.int (Int32.ofNat zp)), .val (.ref pr), .val (.ref b1216), .val (.int (Int32.ofNat 2)), .unset, .unset, .unset, .unset, .unset, .unset, .unset] [])) t → Steps p.tables e below (s₁.setTop (entryFrame m #[(.int u1), (.int u2), (.int u3), (.int u4), (.int u5), (.int u6)] maxLocals)) t := fun t k => P1234 t (by
          refine XS.ifNo X1233.here hx rfl (hb hby at_165) rfl ((if0 _ _).trans (feq hq).1) ?_
          show Steps p.tables e below (T1233.setTop (mkF m 168 #[.val (.int u1), .val (.int u2), .val (.int u3), .val (.int u4), .val (.int u5), .val (.int u6), .val (.int (Int32.ofNat y0)), .val (.int (Int32.ofNat y1)), .val (.int (Int32.ofNat z1)), .val (.ref b1190), .val (.ref b1196), .val (.ref b1200), .val (.ref t2), .val (.ref t3), .val (.double (FP.l2d (Int64.ofNat z2))), .second, .val (.double (FP.l2d (Int64.ofNat z3))), .second, .val (.int kp), .val (.int (Int32.ofNat zp)), .val (.ref pr), .val (.ref b1216), .val (.int (Int32.ofNat 2)), .unset, .unset, .unset, .unset, .unset, .unset, .unset] [])) _
          refine XS.aload X1233.here hx rfl (hb hby at_168) rfl rfl ?_
          show Steps p.tables e below (T1233.setTop (mkF m 170 #[.val (.int u1), .val (.int u2), .val (.int u3), .val (.int u4), .val (.int u5), .val (.int u6), .val (.int (Int32.ofNat y0)), .val (.int (Int32.ofNat y1)), .val (.int (Int32.ofNat z1)), .val (.ref b1190), .val (.ref b1196), .val (.ref b1200), .val (.ref t2), .val (.ref t3), .val (.double (FP.l2d (Int64.ofNat z2))), .second, .val (.double (FP.l2d (Int64.ofNat z3))), .second, .val (.int kp), .val (.int (Int32.ofNat zp)), .val (.ref pr), .val (.ref b1216), .val (.int (Int32.ofNat 2)), .unset, .unset, .unset, .unset, .unset, .unset, .unset] [(.ref b1216)])) _
          refine XS.aload X1233.here hx rfl (hb hby at_170) rfl rfl ?_
          show Steps p.tables e below (T1233.setTop (mkF m 172 #[.val (.int u1), .val (.int u2), .val (.int u3), .val (.int u4), .val (.int u5), .val (.int u6), .val (.int (Int32.ofNat y0)), .val (.int (Int32.ofNat y1)), .val (.int (Int32.ofNat z1)), .val (.ref b1190), .val (.ref b1196), .val (.ref b1200), .val (.ref t2), .val (.ref t3), .val (.double (FP.l2d (Int64.ofNat z2))), .second, .val (.double (FP.l2d (Int64.ofNat z3))), .second, .val (.int kp), .val (.int (Int32.ofNat zp)), .val (.ref pr), .val (.ref b1216), .val (.int (Int32.ofNat 2)), .unset, .unset, .unset, .unset, .unset, .unset, .unset] [(.ref t2), (.ref b1216)])) _
          refine XS.dload X1233.here hx rfl (hb hby at_172) rfl ?_
          show Steps p.tables e below (T1233.setTop (mkF m 174 #[.val (.int u1), .val (.int u2), .val (.int u3), .val (.int u4), .val (.int u5), .val (.int u6), .val (.int (Int32.ofNat y0)), .val (.int (Int32.ofNat y1)), .val (.int (Int32.ofNat z1)), .val (.ref b1190), .val (.ref b1196), .val (.ref b1200), .val (.ref t2), .val (.ref t3), .val (.double (FP.l2d (Int64.ofNat z2))), .second, .val (.double (FP.l2d (Int64.ofNat z3))), .second, .val (.int kp), .val (.int (Int32.ofNat zp)), .val (.ref pr), .val (.ref b1216), .val (.int (Int32.ofNat 2)), .unset, .unset, .unset, .unset, .unset, .unset, .unset] [(.double (FP.l2d (Int64.ofNat z2))), (.ref t2), (.ref b1216)])) _
          refine st1236.trans ?_
          show Steps p.tables e below (T1236.setTop (mkF m 177 #[.val (.int u1), .val (.int u2), .val (.int u3), .val (.int u4), .val (.int u5), .val (.int u6), .val (.int (Int32.ofNat y0)), .val (.int (Int32.ofNat y1)), .val (.int (Int32.ofNat z1)), .val (.ref b1190), .val (.ref b1196), .val (.ref b1200), .val (.ref t2), .val (.ref t3), .val (.double (FP.l2d (Int64.ofNat z2))), .second, .val (.double (FP.l2d (Int64.ofNat z3))), .second, .val (.int kp), .val (.int (Int32.ofNat zp)), .val (.ref pr), .val (.ref b1216), .val (.int (Int32.ofNat 2)), .unset, .unset, .unset, .unset, .unset, .unset, .unset] [(.int (own_fv z2 (S1.1.getD x1 0)))])) _
          refine XS.pop X1236.here hx rfl (hb hby at_177) rfl rfl ?_
          show Steps p.tables e below (T1236.setTop (mkF m 178 #[.val (.int u1), .val (.int u2), .val (.int u3), .val (.int u4), .val (.int u5), .val (.int u6), .val (.int (Int32.ofNat y0)), .val (.int (Int32.ofNat y1)), .val (.int (Int32.ofNat z1)), .val (.ref b1190), .val (.ref b1196), .val (.ref b1200), .val (.ref t2), .val (.ref t3), .val (.double (FP.l2d (Int64.ofNat z2))), .second, .val (.double (FP.l2d (Int64.ofNat z3))), .second, .val (.int kp), .val (.int (Int32.ofNat zp)), .val (.ref pr), .val (.ref b1216), .val (.int (Int32.ofNat 2)), .unset, .unset, .unset, .unset, .unset, .unset, .unset] [])) _
          exact k)
        exact ⟨T1236, T1236.heap, _, (own_step z2 S1 x1), X1236, rfl, N1236, K1236, Bt, (own_ok_step OK1 hx1), (own_Bk_step OK1 hx1 (by omega) Bk1), (by omega), c1237_0, c1237_1, c1237_3, P1238⟩
    · obtain ⟨cq1239, kq1239, q1239a, q1239b, q1239c⟩ := isOf hZ e153 Bt1.1
      obtain ⟨_, _, ⟨T1239, L1239, k1239, n1239⟩, -, X1239, ⟨Lc1239, hQ1239, l1239, y1239, z1239⟩, st1239⟩ := X1230.virtualBack hx (y := (⟨"com/example/tributary/tributary/solver/Rooms", "open", "([I)Z"⟩ : MethodName)) (z := (⟨"com/example/tributary/tributary/solver/Rooms", "open", "([I)Z"⟩ : MethodName)) hown (mvT hZ (hw _ (List.mem_of_getElem? (i := 60) rfl))) (mvT hZ (hw _ (List.mem_of_getElem? (i := 61) rfl))) (notFace_of_selects (args := #[]) (mvT hZ (hw _ (List.mem_of_getElem? (i := 63) rfl)))) (mvT hZ (hw _ (List.mem_of_getElem? (i := 63) rfl))) (mvT hZ (hw _ (List.mem_of_getElem? (i := 62) rfl))) (by decide) (backOf (W := 0) (rm_open2 l Z a0 hw [] b1216 ar ac al alr alc k1 k2 k3 k4 k5 S1 t2 kt2 x1 x2 T1227.heap n0 Z1227 Bt1 Di Gi OK1 VT ⟨ne_t2_b1216, ne_t2_ar, ne_t2_ac, ne_t2_al, ne_t2_alr, ne_t2_alc⟩ hx1 hx2) hZ (hw _ (List.mem_of_getElem? (i := 64) rfl)) (hw _ (List.mem_of_getElem? (i := 7) rfl)) (by decide) (by decide)) q1239a q1239c (g := (mkF m 162 #[.val (.int u1), .val (.int u2), .val (.int u3), .val (.int u4), .val (.int u5), .val (.int u6), .val (.int (Int32.ofNat y0)), .val (.int (Int32.ofNat y1)), .val (.int (Int32.ofNat z1)), .val (.ref b1190), .val (.ref b1196), .val (.ref b1200), .val (.ref t2), .val (.ref t3), .val (.double (FP.l2d (Int64.ofNat z2))), .second, .val (.double (FP.l2d (Int64.ofNat z3))), .second, .val (.int kp), .val (.int (Int32.ofNat zp)), .val (.ref pr), .val (.ref b1216), .val (.int (Int32.ofNat 2)), .unset, .unset, .unset, .unset, .unset, .unset, .unset] [(.ref t2), (.ref b1216)])) rfl (by rw [hml]; rfl) (Steps.refl _) (argsL := [(.ref t2)]) (rest := []) (lenOf pd_7 rfl) rfl (by show 2 * 0 + _ ≤ _; exact Nat.le_of_eq rfl) (hb hby at_162) (fun _ _ => ⟨rfl, e153, (by decide : 12 + 0 ≤ _), (by decide : 44 + 0 ≤ _)⟩)
      dsimp only [Pt.U, Pt.locs, Pt.cells, Pt.slots] at X1239 l1239 y1239 z1239 st1239 hQ1239
      subst l1239 y1239 z1239
      obtain ⟨fo, rfl, N1239q, eo, ho⟩ := hQ1239
      have N1239 := Fr.app N1230 N1239q
      have P1240 : ∀ t, Steps p.tables e below (T1239.setTop (mkF m 165 #[.val (.int u1), .val (.int u2), .val (.int u3), .val (.int u4), .val (.int u5), .val (.int u6), .val (.int (Int32.ofNat y0)), .val (.int (Int32.ofNat y1)), .val (.int (Int32.ofNat z1)), .val (.ref b1190), .val (.ref b1196), .val (.ref b1200), .val (.ref t2), .val (.ref t3), .val (.double (FP.l2d (Int64.ofNat z2))), .second, .val (.double (FP.l2d (Int64.ofNat z3))), .second, .val (.int kp), .val (.int (Int32.ofNat zp)), .val (.ref pr), .val (.ref b1216), .val (.int (Int32.ofNat 2)), .unset, .unset, .unset, .unset, .unset, .unset, .unset] [(.int fo)])) t → Steps p.tables e below (s₁.setTop (entryFrame m #[(.int u1), (.int u2), (.int u3), (.int u4), (.int u5), (.int u6)] maxLocals)) t := fun t k => P1231 t (by
        refine XS.aload X1230.here hx rfl (hb hby at_158) rfl rfl ?_
        show Steps p.tables e below (T1230.setTop (mkF m 160 #[.val (.int u1), .val (.int u2), .val (.int u3), .val (.int u4), .val (.int u5), .val (.int u6), .val (.int (Int32.ofNat y0)), .val (.int (Int32.ofNat y1)), .val (.int (Int32.ofNat z1)), .val (.ref b1190), .val (.ref b1196), .val (.ref b1200), .val (.ref t2), .val (.ref t3), .val (.double (FP.l2d (Int64.ofNat z2))), .second, .val (.double (FP.l2d (Int64.ofNat z3))), .second, .val (.int kp), .val (.int (Int32.ofNat zp)), .val (.ref pr), .val (.ref b1216), .val (.int (Int32.ofNat 2)), .unset, .unset, .unset, .unset, .unset, .unset, .unset] [(.ref b1216)])) _
        refine XS.aload X1230.here hx rfl (hb hby at_160) rfl rfl ?_
        show Steps p.tables e below (T1230.setTop (mkF m 162 #[.val (.int u1), .val (.int u2), .val (.int u3), .val (.int u4), .val (.int u5), .val (.int u6), .val (.int (Int32.ofNat y0)), .val (.int (Int32.ofNat y1)), .val (.int (Int32.ofNat z1)), .val (.ref b1190), .val (.ref b1196), .val (.ref b1200), .val (.ref t2), .val (.ref t3), .val (.double (FP.l2d (Int64.ofNat z2))), .second, .val (.double (FP.l2d (Int64.ofNat z3))), .second, .val (.int kp), .val (.int (Int32.ofNat zp)), .val (.ref pr), .val (.ref b1216), .val (.int (Int32.ofNat 2)), .unset, .unset, .unset, .unset, .unset, .unset, .unset] [(.ref t2), (.ref b1216)])) _
        refine st1239.trans ?_
        show Steps p.tables e below (T1239.setTop (mkF m 165 #[.val (.int u1), .val (.int u2), .val (.int u3), .val (.int u4), .val (.int u5), .val (.int u6), .val (.int (Int32.ofNat y0)), .val (.int (Int32.ofNat y1)), .val (.int (Int32.ofNat z1)), .val (.ref b1190), .val (.ref b1196), .val (.ref b1200), .val (.ref t2), .val (.ref t3), .val (.double (FP.l2d (Int64.ofNat z2))), .second, .val (.double (FP.l2d (Int64.ofNat z3))), .second, .val (.int kp), .val (.int (Int32.ofNat zp)), .val (.ref pr), .val (.ref b1216), .val (.int (Int32.ofNat 2)), .unset, .unset, .unset, .unset, .unset, .unset, .unset] [(.int fo)])) _
        exact k)
      by_cases hq : fo = (0 : Int32)
      · have P1241 : ∀ t, Steps p.tables e below (T1239.setTop (mkF m 178 #[.val (.int u1), .val (.int u2), .val (.int u3), .val (.int u4), .val (.int u5), .val (.int u6), .val (.int (Int32.ofNat y0)), .val (.int (Int32.ofNat y1)), .val (.int (Int32.ofNat z1)), .val (.ref b1190), .val (.ref b1196), .val (.ref b1200), .val (.ref t2), .val (.ref t3), .val (.double (FP.l2d (Int64.ofNat z2))), .second, .val (.double (FP.l2d (Int64.ofNat z3))), .second, .val (.int kp), .val (.int (Int32.ofNat zp)), .val (.ref pr), .val (.ref b1216), .val (.int (Int32.ofNat 2)), .unset, .unset, .unset, .unset, .unset, .unset, .unset] [])) t → Steps p.tables e below (s₁.setTop (entryFrame m #[(.int u1), (.int u2), (.int u3), (.int u4), (.int u5), (.int u6)] maxLocals)) t := fun t k => P1240 t (by
          refine XS.ifYes X1239.here hx rfl (pc0 := 165) (pc' := 178) rfl (hb hby at_165) rfl ((if0 _ _).trans (teq hq).1) (by decide) (by decide) ?_
          show Steps p.tables e below (T1239.setTop (mkF m 178 #[.val (.int u1), .val (.int u2), .val (.int u3), .val (.int u4), .val (.int u5), .val (.int u6), .val (.int (Int32.ofNat y0)), .val (.int (Int32.ofNat y1)), .val (.int (Int32.ofNat z1)), .val (.ref b1190), .val (.ref b1196), .val (.ref b1200), .val (.ref t2), .val (.ref t3), .val (.double (FP.l2d (Int64.ofNat z2))), .second, .val (.double (FP.l2d (Int64.ofNat z3))), .second, .val (.int kp), .val (.int (Int32.ofNat zp)), .val (.ref pr), .val (.ref b1216), .val (.int (Int32.ofNat 2)), .unset, .unset, .unset, .unset, .unset, .unset, .unset] [])) _
          exact k)
        exact ⟨T1239, T1227.heap, _, S1, X1239, eo, N1239, K1227, Bt1, OK1, Bk1, Nat.le_trans hkb1 (by decide), c1228_1, c1228_2, c1228_4, P1241⟩
      · have hk8 : S1.2.2.2.2.2 + 2 ≤ 8 := by omega
        obtain ⟨cq1242, kq1242, q1242a, q1242b, q1242c⟩ := isOf hZ eo Bt1.1
        obtain ⟨_, _, ⟨T1242, L1242, k1242, n1242⟩, -, X1242, ⟨Lc1242, hQ1242, l1242, y1242, z1242⟩, st1242⟩ := X1239.virtualBack hx (y := (⟨"com/example/tributary/tributary/solver/Rooms", "tryJob", "([ID)Z"⟩ : MethodName)) (z := (⟨"com/example/tributary/tributary/solver/Rooms", "tryJob", "([ID)Z"⟩ : MethodName)) hown (mvT hZ (hw _ (List.mem_of_getElem? (i := 35) rfl))) (mvT hZ (hw _ (List.mem_of_getElem? (i := 36) rfl))) (notFace_of_selects (args := #[]) (mvT hZ (hw _ (List.mem_of_getElem? (i := 38) rfl)))) (mvT hZ (hw _ (List.mem_of_getElem? (i := 38) rfl))) (mvT hZ (hw _ (List.mem_of_getElem? (i := 37) rfl))) (by decide) (backOf (W := 0) (rm_try2 l Z a0 hw [] b1216 ar ac al alr alc k1 k2 k3 k4 k5 S1 t2 kt2 x1 x2 z2 T1227.heap n0 Z1227 Bt1 Di Gi OK1 VT ⟨ne_t2_b1216, ne_t2_ar, ne_t2_ac, ne_t2_al, ne_t2_alr, ne_t2_alc⟩ hx1 hx2 hz2 hk8) hZ (hw _ (List.mem_of_getElem? (i := 39) rfl)) (hw _ (List.mem_of_getElem? (i := 7) rfl)) (by decide) (by decide)) q1242a q1242c (g := (mkF m 174 #[.val (.int u1), .val (.int u2), .val (.int u3), .val (.int u4), .val (.int u5), .val (.int u6), .val (.int (Int32.ofNat y0)), .val (.int (Int32.ofNat y1)), .val (.int (Int32.ofNat z1)), .val (.ref b1190), .val (.ref b1196), .val (.ref b1200), .val (.ref t2), .val (.ref t3), .val (.double (FP.l2d (Int64.ofNat z2))), .second, .val (.double (FP.l2d (Int64.ofNat z3))), .second, .val (.int kp), .val (.int (Int32.ofNat zp)), .val (.ref pr), .val (.ref b1216), .val (.int (Int32.ofNat 2)), .unset, .unset, .unset, .unset, .unset, .unset, .unset] [(.double (FP.l2d (Int64.ofNat z2))), (.ref t2), (.ref b1216)])) rfl (by rw [hml]; rfl) (Steps.refl _) (argsL := [(.ref t2), (.double (FP.l2d (Int64.ofNat z2)))]) (rest := []) (lenOf pd_5 rfl) rfl (by show 2 * 0 + _ ≤ _; exact Nat.le_of_eq rfl) (hb hby at_174) (fun _ _ => ⟨rfl, eo, (by decide : 12 + 0 ≤ _), (by decide : 44 + 0 ≤ _)⟩)
        dsimp only [Pt.U, Pt.locs, Pt.cells, Pt.slots] at X1242 l1242 y1242 z1242 st1242 hQ1242
        subst l1242 y1242 z1242
        obtain ⟨ft, rfl, N1242q, Kt, Bt⟩ := hQ1242
        have N1242 := Fr.app N1239 N1242q
        have c1243_0 := c1228_1.keep Kt (ninS ne_b1196_b1216 (ninS ne_b1196_ar (ninS ne_b1196_ac (ninS ne_b1196_al (ninS ne_b1196_alr (ninS ne_b1196_alc nin0))))))
        have c1243_1 := c1228_2.keep Kt (ninS ne_b1200_b1216 (ninS ne_b1200_ar (ninS ne_b1200_ac (ninS ne_b1200_al (ninS ne_b1200_alr (ninS ne_b1200_alc nin0))))))
        have c1243_2 := VT.keep Kt (ninS ne_t2_b1216 (ninS ne_t2_ar (ninS ne_t2_ac (ninS ne_t2_al (ninS ne_t2_alr (ninS ne_t2_alc nin0))))))
        have c1243_3 := c1228_4.keep Kt (ninS ne_t3_b1216 (ninS ne_t3_ar (ninS ne_t3_ac (ninS ne_t3_al (ninS ne_t3_alr (ninS ne_t3_alc nin0))))))
        have Z1242 : n0 ≤ T1242.heap.size := Nat.le_trans Z1227 Kt.1
        have K1242 : Keep h0 T1242.heap [] := K1227.trans Kt (allS (Or.inr sz_b1216) (allS (Or.inr sz_ar) (allS (Or.inr sz_ac) (allS (Or.inr sz_al) (allS (Or.inr sz_alr) (allS (Or.inr sz_alc) all0))))))
        have e1 := own_step_k z2 S1 x1
        have e2 := own_step_k z2 (own_step z2 S1 x1) x2
        have P1244 : ∀ t, Steps p.tables e below (T1242.setTop (mkF m 178 #[.val (.int u1), .val (.int u2), .val (.int u3), .val (.int u4), .val (.int u5), .val (.int u6), .val (.int (Int32.ofNat y0)), .val (.int (Int32.ofNat y1)), .val (.int (Int32.ofNat z1)), .val (.ref b1190), .val (.ref b1196), .val (.ref b1200), .val (.ref t2), .val (.ref t3), .val (.double (FP.l2d (Int64.ofNat z2))), .second, .val (.double (FP.l2d (Int64.ofNat z3))), .second, .val (.int kp), .val (.int (Int32.ofNat zp)), .val (.ref pr), .val (.ref b1216), .val (.int (Int32.ofNat 2)), .unset, .unset, .unset, .unset, .unset, .unset, .unset] [])) t → Steps p.tables e below (s₁.setTop (entryFrame m #[(.int u1), (.int u2), (.int u3), (.int u4), (.int u5), (.int u6)] maxLocals)) t := fun t k => P1240 t (by
          refine XS.ifNo X1239.here hx rfl (hb hby at_165) rfl ((if0 _ _).trans (feq hq).1) ?_
          show Steps p.tables e below (T1239.setTop (mkF m 168 #[.val (.int u1), .val (.int u2), .val (.int u3), .val (.int u4), .val (.int u5), .val (.int u6), .val (.int (Int32.ofNat y0)), .val (.int (Int32.ofNat y1)), .val (.int (Int32.ofNat z1)), .val (.ref b1190), .val (.ref b1196), .val (.ref b1200), .val (.ref t2), .val (.ref t3), .val (.double (FP.l2d (Int64.ofNat z2))), .second, .val (.double (FP.l2d (Int64.ofNat z3))), .second, .val (.int kp), .val (.int (Int32.ofNat zp)), .val (.ref pr), .val (.ref b1216), .val (.int (Int32.ofNat 2)), .unset, .unset, .unset, .unset, .unset, .unset, .unset] [])) _
          refine XS.aload X1239.here hx rfl (hb hby at_168) rfl rfl ?_
          show Steps p.tables e below (T1239.setTop (mkF m 170 #[.val (.int u1), .val (.int u2), .val (.int u3), .val (.int u4), .val (.int u5), .val (.int u6), .val (.int (Int32.ofNat y0)), .val (.int (Int32.ofNat y1)), .val (.int (Int32.ofNat z1)), .val (.ref b1190), .val (.ref b1196), .val (.ref b1200), .val (.ref t2), .val (.ref t3), .val (.double (FP.l2d (Int64.ofNat z2))), .second, .val (.double (FP.l2d (Int64.ofNat z3))), .second, .val (.int kp), .val (.int (Int32.ofNat zp)), .val (.ref pr), .val (.ref b1216), .val (.int (Int32.ofNat 2)), .unset, .unset, .unset, .unset, .unset, .unset, .unset] [(.ref b1216)])) _
          refine XS.aload X1239.here hx rfl (hb hby at_170) rfl rfl ?_
          show Steps p.tables e below (T1239.setTop (mkF m 172 #[.val (.int u1), .val (.int u2), .val (.int u3), .val (.int u4), .val (.int u5), .val (.int u6), .val (.int (Int32.ofNat y0)), .val (.int (Int32.ofNat y1)), .val (.int (Int32.ofNat z1)), .val (.ref b1190), .val (.ref b1196), .val (.ref b1200), .val (.ref t2), .val (.ref t3), .val (.double (FP.l2d (Int64.ofNat z2))), .second, .val (.double (FP.l2d (Int64.ofNat z3))), .second, .val (.int kp), .val (.int (Int32.ofNat zp)), .val (.ref pr), .val (.ref b1216), .val (.int (Int32.ofNat 2)), .unset, .unset, .unset, .unset, .unset, .unset, .unset] [(.ref t2), (.ref b1216)])) _
          refine XS.dload X1239.here hx rfl (hb hby at_172) rfl ?_
          show Steps p.tables e below (T1239.setTop (mkF m 174 #[.val (.int u1), .val (.int u2), .val (.int u3), .val (.int u4), .val (.int u5), .val (.int u6), .val (.int (Int32.ofNat y0)), .val (.int (Int32.ofNat y1)), .val (.int (Int32.ofNat z1)), .val (.ref b1190), .val (.ref b1196), .val (.ref b1200), .val (.ref t2), .val (.ref t3), .val (.double (FP.l2d (Int64.ofNat z2))), .second, .val (.double (FP.l2d (Int64.ofNat z3))), .second, .val (.int kp), .val (.int (Int32.ofNat zp)), .val (.ref pr), .val (.ref b1216), .val (.int (Int32.ofNat 2)), .unset, .unset, .unset, .unset, .unset, .unset, .unset] [(.double (FP.l2d (Int64.ofNat z2))), (.ref t2), (.ref b1216)])) _
          refine st1242.trans ?_
          show Steps p.tables e below (T1242.setTop (mkF m 177 #[.val (.int u1), .val (.int u2), .val (.int u3), .val (.int u4), .val (.int u5), .val (.int u6), .val (.int (Int32.ofNat y0)), .val (.int (Int32.ofNat y1)), .val (.int (Int32.ofNat z1)), .val (.ref b1190), .val (.ref b1196), .val (.ref b1200), .val (.ref t2), .val (.ref t3), .val (.double (FP.l2d (Int64.ofNat z2))), .second, .val (.double (FP.l2d (Int64.ofNat z3))), .second, .val (.int kp), .val (.int (Int32.ofNat zp)), .val (.ref pr), .val (.ref b1216), .val (.int (Int32.ofNat 2)), .unset, .unset, .unset, .unset, .unset, .unset, .unset] [(.int ft)])) _
          refine XS.pop X1242.here hx rfl (hb hby at_177) rfl rfl ?_
          show Steps p.tables e below (T1242.setTop (mkF m 178 #[.val (.int u1), .val (.int u2), .val (.int u3), .val (.int u4), .val (.int u5), .val (.int u6), .val (.int (Int32.ofNat y0)), .val (.int (Int32.ofNat y1)), .val (.int (Int32.ofNat z1)), .val (.ref b1190), .val (.ref b1196), .val (.ref b1200), .val (.ref t2), .val (.ref t3), .val (.double (FP.l2d (Int64.ofNat z2))), .second, .val (.double (FP.l2d (Int64.ofNat z3))), .second, .val (.int kp), .val (.int (Int32.ofNat zp)), .val (.ref pr), .val (.ref b1216), .val (.int (Int32.ofNat 2)), .unset, .unset, .unset, .unset, .unset, .unset, .unset] [])) _
          exact k)
        exact ⟨T1242, T1242.heap, _, (own_step z2 (own_step z2 S1 x1) x2), X1242, rfl, N1242, K1242, Bt, (own_ok_step (own_ok_step OK1 hx1) hx2), (own_Bk_step (own_ok_step OK1 hx1) hx2 (by omega) (own_Bk_step OK1 hx1 (by omega) Bk1)), (by omega), c1243_0, c1243_1, c1243_3, P1244⟩
  have Z1232 : n0 ≤ h1232.size := Nat.le_trans Z0 K1232.1
  obtain ⟨T1245, h1245, L1245, S1245, X1245, e1245, N1245, K1245, B1245, OK1245, Bk1245, hkb1245, V1245_b1196, V1245_b1200,  P1245⟩ : ∃ (T' : State) (h' : Heap) (Lc' : List Loc) (S' : own_S), Stand p l e room_1 s m #[(.int u1), (.int u2), (.int u3), (.int u4), (.int u5), (.int u6)] below meth c T' Lc' 12 44 ∧ T'.heap = h' ∧ Fr n0 Lc' ∧ Keep h0 h' [] ∧ own_St Z h' b1216 ar ac al alr alc k1 k2 k3 k4 k5 S' ∧ own_ok S' ∧ own_Bk 2 S1 S' ∧ S'.2.2.2.2.2 ≤ 6 ∧ Arv Z h' b1196 k1196 .int (1 : Int32) [.int (Int32.ofNat 0)] (.int (0 : Int32)) ∧ Arv Z h' b1200 k1200 .int (1 : Int32) [.int (Int32.ofNat 1)] (.int (0 : Int32)) ∧  (∀ t, Steps p.tables e below (T'.setTop (mkF m 198 #[.val (.int u1), .val (.int u2), .val (.int u3), .val (.int u4), .val (.int u5), .val (.int u6), .val (.int (Int32.ofNat y0)), .val (.int (Int32.ofNat y1)), .val (.int (Int32.ofNat z1)), .val (.ref b1190), .val (.ref b1196), .val (.ref b1200), .val (.ref t2), .val (.ref t3), .val (.double (FP.l2d (Int64.ofNat z2))), .second, .val (.double (FP.l2d (Int64.ofNat z3))), .second, .val (.int kp), .val (.int (Int32.ofNat zp)), .val (.ref pr), .val (.ref b1216), .val (.int (Int32.ofNat 2)), .unset, .unset, .unset, .unset, .unset, .unset, .unset] [])) t → Steps p.tables e below (s₁.setTop (entryFrame m #[(.int u1), (.int u2), (.int u3), (.int u4), (.int u5), (.int u6)] maxLocals)) t) := by
    rcases V1232_t3 with ⟨x1, hx1, VT⟩ | ⟨x1, x2, hx1, hx2, VT⟩
    · obtain ⟨cq1246, kq1246, q1246a, q1246b, q1246c⟩ := isOf hZ e1232 B1232.1
      obtain ⟨_, _, ⟨T1246, L1246, k1246, n1246⟩, -, X1246, ⟨Lc1246, hQ1246, l1246, y1246, z1246⟩, st1246⟩ := X1232.virtualBack hx (y := (⟨"com/example/tributary/tributary/solver/Rooms", "open", "([I)Z"⟩ : MethodName)) (z := (⟨"com/example/tributary/tributary/solver/Rooms", "open", "([I)Z"⟩ : MethodName)) hown (mvT hZ (hw _ (List.mem_of_getElem? (i := 60) rfl))) (mvT hZ (hw _ (List.mem_of_getElem? (i := 61) rfl))) (notFace_of_selects (args := #[]) (mvT hZ (hw _ (List.mem_of_getElem? (i := 63) rfl)))) (mvT hZ (hw _ (List.mem_of_getElem? (i := 63) rfl))) (mvT hZ (hw _ (List.mem_of_getElem? (i := 62) rfl))) (by decide) (backOf (W := 0) (rm_open1 l Z a0 hw [] b1216 ar ac al alr alc k1 k2 k3 k4 k5 S1232 t3 kt3 x1 h1232 n0 Z1232 B1232 Di Gi OK1232 VT ⟨ne_t3_b1216, ne_t3_ar, ne_t3_ac, ne_t3_al, ne_t3_alr, ne_t3_alc⟩ hx1) hZ (hw _ (List.mem_of_getElem? (i := 64) rfl)) (hw _ (List.mem_of_getElem? (i := 7) rfl)) (by decide) (by decide)) q1246a q1246c (g := (mkF m 182 #[.val (.int u1), .val (.int u2), .val (.int u3), .val (.int u4), .val (.int u5), .val (.int u6), .val (.int (Int32.ofNat y0)), .val (.int (Int32.ofNat y1)), .val (.int (Int32.ofNat z1)), .val (.ref b1190), .val (.ref b1196), .val (.ref b1200), .val (.ref t2), .val (.ref t3), .val (.double (FP.l2d (Int64.ofNat z2))), .second, .val (.double (FP.l2d (Int64.ofNat z3))), .second, .val (.int kp), .val (.int (Int32.ofNat zp)), .val (.ref pr), .val (.ref b1216), .val (.int (Int32.ofNat 2)), .unset, .unset, .unset, .unset, .unset, .unset, .unset] [(.ref t3), (.ref b1216)])) rfl (by rw [hml]; rfl) (Steps.refl _) (argsL := [(.ref t3)]) (rest := []) (lenOf pd_7 rfl) rfl (by show 2 * 0 + _ ≤ _; exact Nat.le_of_eq rfl) (hb hby at_182) (fun _ _ => ⟨rfl, e1232, (by decide : 12 + 0 ≤ _), (by decide : 44 + 0 ≤ _)⟩)
      dsimp only [Pt.U, Pt.locs, Pt.cells, Pt.slots] at X1246 l1246 y1246 z1246 st1246 hQ1246
      subst l1246 y1246 z1246
      obtain ⟨fo, rfl, N1246q, eo, ho⟩ := hQ1246
      have N1246 := Fr.app N1232 N1246q
      have P1247 : ∀ t, Steps p.tables e below (T1246.setTop (mkF m 185 #[.val (.int u1), .val (.int u2), .val (.int u3), .val (.int u4), .val (.int u5), .val (.int u6), .val (.int (Int32.ofNat y0)), .val (.int (Int32.ofNat y1)), .val (.int (Int32.ofNat z1)), .val (.ref b1190), .val (.ref b1196), .val (.ref b1200), .val (.ref t2), .val (.ref t3), .val (.double (FP.l2d (Int64.ofNat z2))), .second, .val (.double (FP.l2d (Int64.ofNat z3))), .second, .val (.int kp), .val (.int (Int32.ofNat zp)), .val (.ref pr), .val (.ref b1216), .val (.int (Int32.ofNat 2)), .unset, .unset, .unset, .unset, .unset, .unset, .unset] [(.int fo)])) t → Steps p.tables e below (s₁.setTop (entryFrame m #[(.int u1), (.int u2), (.int u3), (.int u4), (.int u5), (.int u6)] maxLocals)) t := fun t k => P1232 t (by
        refine XS.aload X1232.here hx rfl (hb hby at_178) rfl rfl ?_
        show Steps p.tables e below (T1232.setTop (mkF m 180 #[.val (.int u1), .val (.int u2), .val (.int u3), .val (.int u4), .val (.int u5), .val (.int u6), .val (.int (Int32.ofNat y0)), .val (.int (Int32.ofNat y1)), .val (.int (Int32.ofNat z1)), .val (.ref b1190), .val (.ref b1196), .val (.ref b1200), .val (.ref t2), .val (.ref t3), .val (.double (FP.l2d (Int64.ofNat z2))), .second, .val (.double (FP.l2d (Int64.ofNat z3))), .second, .val (.int kp), .val (.int (Int32.ofNat zp)), .val (.ref pr), .val (.ref b1216), .val (.int (Int32.ofNat 2)), .unset, .unset, .unset, .unset, .unset, .unset, .unset] [(.ref b1216)])) _
        refine XS.aload X1232.here hx rfl (hb hby at_180) rfl rfl ?_
        show Steps p.tables e below (T1232.setTop (mkF m 182 #[.val (.int u1), .val (.int u2), .val (.int u3), .val (.int u4), .val (.int u5), .val (.int u6), .val (.int (Int32.ofNat y0)), .val (.int (Int32.ofNat y1)), .val (.int (Int32.ofNat z1)), .val (.ref b1190), .val (.ref b1196), .val (.ref b1200), .val (.ref t2), .val (.ref t3), .val (.double (FP.l2d (Int64.ofNat z2))), .second, .val (.double (FP.l2d (Int64.ofNat z3))), .second, .val (.int kp), .val (.int (Int32.ofNat zp)), .val (.ref pr), .val (.ref b1216), .val (.int (Int32.ofNat 2)), .unset, .unset, .unset, .unset, .unset, .unset, .unset] [(.ref t3), (.ref b1216)])) _
        refine st1246.trans ?_
        show Steps p.tables e below (T1246.setTop (mkF m 185 #[.val (.int u1), .val (.int u2), .val (.int u3), .val (.int u4), .val (.int u5), .val (.int u6), .val (.int (Int32.ofNat y0)), .val (.int (Int32.ofNat y1)), .val (.int (Int32.ofNat z1)), .val (.ref b1190), .val (.ref b1196), .val (.ref b1200), .val (.ref t2), .val (.ref t3), .val (.double (FP.l2d (Int64.ofNat z2))), .second, .val (.double (FP.l2d (Int64.ofNat z3))), .second, .val (.int kp), .val (.int (Int32.ofNat zp)), .val (.ref pr), .val (.ref b1216), .val (.int (Int32.ofNat 2)), .unset, .unset, .unset, .unset, .unset, .unset, .unset] [(.int fo)])) _
        exact k)
      by_cases hq : fo = (0 : Int32)
      · have P1248 : ∀ t, Steps p.tables e below (T1246.setTop (mkF m 198 #[.val (.int u1), .val (.int u2), .val (.int u3), .val (.int u4), .val (.int u5), .val (.int u6), .val (.int (Int32.ofNat y0)), .val (.int (Int32.ofNat y1)), .val (.int (Int32.ofNat z1)), .val (.ref b1190), .val (.ref b1196), .val (.ref b1200), .val (.ref t2), .val (.ref t3), .val (.double (FP.l2d (Int64.ofNat z2))), .second, .val (.double (FP.l2d (Int64.ofNat z3))), .second, .val (.int kp), .val (.int (Int32.ofNat zp)), .val (.ref pr), .val (.ref b1216), .val (.int (Int32.ofNat 2)), .unset, .unset, .unset, .unset, .unset, .unset, .unset] [])) t → Steps p.tables e below (s₁.setTop (entryFrame m #[(.int u1), (.int u2), (.int u3), (.int u4), (.int u5), (.int u6)] maxLocals)) t := fun t k => P1247 t (by
          refine XS.ifYes X1246.here hx rfl (pc0 := 185) (pc' := 198) rfl (hb hby at_185) rfl ((if0 _ _).trans (teq hq).1) (by decide) (by decide) ?_
          show Steps p.tables e below (T1246.setTop (mkF m 198 #[.val (.int u1), .val (.int u2), .val (.int u3), .val (.int u4), .val (.int u5), .val (.int u6), .val (.int (Int32.ofNat y0)), .val (.int (Int32.ofNat y1)), .val (.int (Int32.ofNat z1)), .val (.ref b1190), .val (.ref b1196), .val (.ref b1200), .val (.ref t2), .val (.ref t3), .val (.double (FP.l2d (Int64.ofNat z2))), .second, .val (.double (FP.l2d (Int64.ofNat z3))), .second, .val (.int kp), .val (.int (Int32.ofNat zp)), .val (.ref pr), .val (.ref b1216), .val (.int (Int32.ofNat 2)), .unset, .unset, .unset, .unset, .unset, .unset, .unset] [])) _
          exact k)
        exact ⟨T1246, h1232, _, S1232, X1246, eo, N1246, K1232, B1232, OK1232, Bk1232, Nat.le_trans hkb1232 (by decide), V1232_b1196, V1232_b1200, P1248⟩
      · have hk8 : S1232.2.2.2.2.2 + 1 ≤ 8 := by omega
        obtain ⟨cq1249, kq1249, q1249a, q1249b, q1249c⟩ := isOf hZ eo B1232.1
        obtain ⟨_, _, ⟨T1249, L1249, k1249, n1249⟩, -, X1249, ⟨Lc1249, hQ1249, l1249, y1249, z1249⟩, st1249⟩ := X1246.virtualBack hx (y := (⟨"com/example/tributary/tributary/solver/Rooms", "tryJob", "([ID)Z"⟩ : MethodName)) (z := (⟨"com/example/tributary/tributary/solver/Rooms", "tryJob", "([ID)Z"⟩ : MethodName)) hown (mvT hZ (hw _ (List.mem_of_getElem? (i := 35) rfl))) (mvT hZ (hw _ (List.mem_of_getElem? (i := 36) rfl))) (notFace_of_selects (args := #[]) (mvT hZ (hw _ (List.mem_of_getElem? (i := 38) rfl)))) (mvT hZ (hw _ (List.mem_of_getElem? (i := 38) rfl))) (mvT hZ (hw _ (List.mem_of_getElem? (i := 37) rfl))) (by decide) (backOf (W := 0) (rm_try1 l Z a0 hw [] b1216 ar ac al alr alc k1 k2 k3 k4 k5 S1232 t3 kt3 x1 z3 h1232 n0 Z1232 B1232 Di Gi OK1232 VT ⟨ne_t3_b1216, ne_t3_ar, ne_t3_ac, ne_t3_al, ne_t3_alr, ne_t3_alc⟩ hx1 hz3 hk8) hZ (hw _ (List.mem_of_getElem? (i := 39) rfl)) (hw _ (List.mem_of_getElem? (i := 7) rfl)) (by decide) (by decide)) q1249a q1249c (g := (mkF m 194 #[.val (.int u1), .val (.int u2), .val (.int u3), .val (.int u4), .val (.int u5), .val (.int u6), .val (.int (Int32.ofNat y0)), .val (.int (Int32.ofNat y1)), .val (.int (Int32.ofNat z1)), .val (.ref b1190), .val (.ref b1196), .val (.ref b1200), .val (.ref t2), .val (.ref t3), .val (.double (FP.l2d (Int64.ofNat z2))), .second, .val (.double (FP.l2d (Int64.ofNat z3))), .second, .val (.int kp), .val (.int (Int32.ofNat zp)), .val (.ref pr), .val (.ref b1216), .val (.int (Int32.ofNat 2)), .unset, .unset, .unset, .unset, .unset, .unset, .unset] [(.double (FP.l2d (Int64.ofNat z3))), (.ref t3), (.ref b1216)])) rfl (by rw [hml]; rfl) (Steps.refl _) (argsL := [(.ref t3), (.double (FP.l2d (Int64.ofNat z3)))]) (rest := []) (lenOf pd_5 rfl) rfl (by show 2 * 0 + _ ≤ _; exact Nat.le_of_eq rfl) (hb hby at_194) (fun _ _ => ⟨rfl, eo, (by decide : 12 + 0 ≤ _), (by decide : 44 + 0 ≤ _)⟩)
        dsimp only [Pt.U, Pt.locs, Pt.cells, Pt.slots] at X1249 l1249 y1249 z1249 st1249 hQ1249
        subst l1249 y1249 z1249
        obtain ⟨rfl, N1249q, Kt, Bt⟩ := hQ1249
        have N1249 := Fr.app N1246 N1249q
        have c1250_0 := V1232_b1196.keep Kt (ninS ne_b1196_b1216 (ninS ne_b1196_ar (ninS ne_b1196_ac (ninS ne_b1196_al (ninS ne_b1196_alr (ninS ne_b1196_alc nin0))))))
        have c1250_1 := V1232_b1200.keep Kt (ninS ne_b1200_b1216 (ninS ne_b1200_ar (ninS ne_b1200_ac (ninS ne_b1200_al (ninS ne_b1200_alr (ninS ne_b1200_alc nin0))))))
        have c1250_2 := VT.keep Kt (ninS ne_t3_b1216 (ninS ne_t3_ar (ninS ne_t3_ac (ninS ne_t3_al (ninS ne_t3_alr (ninS ne_t3_alc nin0))))))
        have Z1249 : n0 ≤ T1249.heap.size := Nat.le_trans Z1232 Kt.1
        have K1249 : Keep h0 T1249.heap [] := K1232.trans Kt (allS (Or.inr sz_b1216) (allS (Or.inr sz_ar) (allS (Or.inr sz_ac) (allS (Or.inr sz_al) (allS (Or.inr sz_alr) (allS (Or.inr sz_alc) all0))))))
        have e1 := own_step_k z3 S1232 x1
        have P1251 : ∀ t, Steps p.tables e below (T1249.setTop (mkF m 198 #[.val (.int u1), .val (.int u2), .val (.int u3), .val (.int u4), .val (.int u5), .val (.int u6), .val (.int (Int32.ofNat y0)), .val (.int (Int32.ofNat y1)), .val (.int (Int32.ofNat z1)), .val (.ref b1190), .val (.ref b1196), .val (.ref b1200), .val (.ref t2), .val (.ref t3), .val (.double (FP.l2d (Int64.ofNat z2))), .second, .val (.double (FP.l2d (Int64.ofNat z3))), .second, .val (.int kp), .val (.int (Int32.ofNat zp)), .val (.ref pr), .val (.ref b1216), .val (.int (Int32.ofNat 2)), .unset, .unset, .unset, .unset, .unset, .unset, .unset] [])) t → Steps p.tables e below (s₁.setTop (entryFrame m #[(.int u1), (.int u2), (.int u3), (.int u4), (.int u5), (.int u6)] maxLocals)) t := fun t k => P1247 t (by
          refine XS.ifNo X1246.here hx rfl (hb hby at_185) rfl ((if0 _ _).trans (feq hq).1) ?_
          show Steps p.tables e below (T1246.setTop (mkF m 188 #[.val (.int u1), .val (.int u2), .val (.int u3), .val (.int u4), .val (.int u5), .val (.int u6), .val (.int (Int32.ofNat y0)), .val (.int (Int32.ofNat y1)), .val (.int (Int32.ofNat z1)), .val (.ref b1190), .val (.ref b1196), .val (.ref b1200), .val (.ref t2), .val (.ref t3), .val (.double (FP.l2d (Int64.ofNat z2))), .second, .val (.double (FP.l2d (Int64.ofNat z3))), .second, .val (.int kp), .val (.int (Int32.ofNat zp)), .val (.ref pr), .val (.ref b1216), .val (.int (Int32.ofNat 2)), .unset, .unset, .unset, .unset, .unset, .unset, .unset] [])) _
          refine XS.aload X1246.here hx rfl (hb hby at_188) rfl rfl ?_
          show Steps p.tables e below (T1246.setTop (mkF m 190 #[.val (.int u1), .val (.int u2), .val (.int u3), .val (.int u4), .val (.int u5), .val (.int u6), .val (.int (Int32.ofNat y0)), .val (.int (Int32.ofNat y1)), .val (.int (Int32.ofNat z1)), .val (.ref b1190), .val (.ref b1196), .val (.ref b1200), .val (.ref t2), .val (.ref t3), .val (.double (FP.l2d (Int64.ofNat z2))), .second, .val (.double (FP.l2d (Int64.ofNat z3))), .second, .val (.int kp), .val (.int (Int32.ofNat zp)), .val (.ref pr), .val (.ref b1216), .val (.int (Int32.ofNat 2)), .unset, .unset, .unset, .unset, .unset, .unset, .unset] [(.ref b1216)])) _
          refine XS.aload X1246.here hx rfl (hb hby at_190) rfl rfl ?_
          show Steps p.tables e below (T1246.setTop (mkF m 192 #[.val (.int u1), .val (.int u2), .val (.int u3), .val (.int u4), .val (.int u5), .val (.int u6), .val (.int (Int32.ofNat y0)), .val (.int (Int32.ofNat y1)), .val (.int (Int32.ofNat z1)), .val (.ref b1190), .val (.ref b1196), .val (.ref b1200), .val (.ref t2), .val (.ref t3), .val (.double (FP.l2d (Int64.ofNat z2))), .second, .val (.double (FP.l2d (Int64.ofNat z3))), .second, .val (.int kp), .val (.int (Int32.ofNat zp)), .val (.ref pr), .val (.ref b1216), .val (.int (Int32.ofNat 2)), .unset, .unset, .unset, .unset, .unset, .unset, .unset] [(.ref t3), (.ref b1216)])) _
          refine XS.dload X1246.here hx rfl (hb hby at_192) rfl ?_
          show Steps p.tables e below (T1246.setTop (mkF m 194 #[.val (.int u1), .val (.int u2), .val (.int u3), .val (.int u4), .val (.int u5), .val (.int u6), .val (.int (Int32.ofNat y0)), .val (.int (Int32.ofNat y1)), .val (.int (Int32.ofNat z1)), .val (.ref b1190), .val (.ref b1196), .val (.ref b1200), .val (.ref t2), .val (.ref t3), .val (.double (FP.l2d (Int64.ofNat z2))), .second, .val (.double (FP.l2d (Int64.ofNat z3))), .second, .val (.int kp), .val (.int (Int32.ofNat zp)), .val (.ref pr), .val (.ref b1216), .val (.int (Int32.ofNat 2)), .unset, .unset, .unset, .unset, .unset, .unset, .unset] [(.double (FP.l2d (Int64.ofNat z3))), (.ref t3), (.ref b1216)])) _
          refine st1249.trans ?_
          show Steps p.tables e below (T1249.setTop (mkF m 197 #[.val (.int u1), .val (.int u2), .val (.int u3), .val (.int u4), .val (.int u5), .val (.int u6), .val (.int (Int32.ofNat y0)), .val (.int (Int32.ofNat y1)), .val (.int (Int32.ofNat z1)), .val (.ref b1190), .val (.ref b1196), .val (.ref b1200), .val (.ref t2), .val (.ref t3), .val (.double (FP.l2d (Int64.ofNat z2))), .second, .val (.double (FP.l2d (Int64.ofNat z3))), .second, .val (.int kp), .val (.int (Int32.ofNat zp)), .val (.ref pr), .val (.ref b1216), .val (.int (Int32.ofNat 2)), .unset, .unset, .unset, .unset, .unset, .unset, .unset] [(.int (own_fv z3 (S1232.1.getD x1 0)))])) _
          refine XS.pop X1249.here hx rfl (hb hby at_197) rfl rfl ?_
          show Steps p.tables e below (T1249.setTop (mkF m 198 #[.val (.int u1), .val (.int u2), .val (.int u3), .val (.int u4), .val (.int u5), .val (.int u6), .val (.int (Int32.ofNat y0)), .val (.int (Int32.ofNat y1)), .val (.int (Int32.ofNat z1)), .val (.ref b1190), .val (.ref b1196), .val (.ref b1200), .val (.ref t2), .val (.ref t3), .val (.double (FP.l2d (Int64.ofNat z2))), .second, .val (.double (FP.l2d (Int64.ofNat z3))), .second, .val (.int kp), .val (.int (Int32.ofNat zp)), .val (.ref pr), .val (.ref b1216), .val (.int (Int32.ofNat 2)), .unset, .unset, .unset, .unset, .unset, .unset, .unset] [])) _
          exact k)
        exact ⟨T1249, T1249.heap, _, (own_step z3 S1232 x1), X1249, rfl, N1249, K1249, Bt, (own_ok_step OK1232 hx1), (own_Bk_step OK1232 hx1 (by omega) Bk1232), (by omega), c1250_0, c1250_1, P1251⟩
    · obtain ⟨cq1252, kq1252, q1252a, q1252b, q1252c⟩ := isOf hZ e1232 B1232.1
      obtain ⟨_, _, ⟨T1252, L1252, k1252, n1252⟩, -, X1252, ⟨Lc1252, hQ1252, l1252, y1252, z1252⟩, st1252⟩ := X1232.virtualBack hx (y := (⟨"com/example/tributary/tributary/solver/Rooms", "open", "([I)Z"⟩ : MethodName)) (z := (⟨"com/example/tributary/tributary/solver/Rooms", "open", "([I)Z"⟩ : MethodName)) hown (mvT hZ (hw _ (List.mem_of_getElem? (i := 60) rfl))) (mvT hZ (hw _ (List.mem_of_getElem? (i := 61) rfl))) (notFace_of_selects (args := #[]) (mvT hZ (hw _ (List.mem_of_getElem? (i := 63) rfl)))) (mvT hZ (hw _ (List.mem_of_getElem? (i := 63) rfl))) (mvT hZ (hw _ (List.mem_of_getElem? (i := 62) rfl))) (by decide) (backOf (W := 0) (rm_open2 l Z a0 hw [] b1216 ar ac al alr alc k1 k2 k3 k4 k5 S1232 t3 kt3 x1 x2 h1232 n0 Z1232 B1232 Di Gi OK1232 VT ⟨ne_t3_b1216, ne_t3_ar, ne_t3_ac, ne_t3_al, ne_t3_alr, ne_t3_alc⟩ hx1 hx2) hZ (hw _ (List.mem_of_getElem? (i := 64) rfl)) (hw _ (List.mem_of_getElem? (i := 7) rfl)) (by decide) (by decide)) q1252a q1252c (g := (mkF m 182 #[.val (.int u1), .val (.int u2), .val (.int u3), .val (.int u4), .val (.int u5), .val (.int u6), .val (.int (Int32.ofNat y0)), .val (.int (Int32.ofNat y1)), .val (.int (Int32.ofNat z1)), .val (.ref b1190), .val (.ref b1196), .val (.ref b1200), .val (.ref t2), .val (.ref t3), .val (.double (FP.l2d (Int64.ofNat z2))), .second, .val (.double (FP.l2d (Int64.ofNat z3))), .second, .val (.int kp), .val (.int (Int32.ofNat zp)), .val (.ref pr), .val (.ref b1216), .val (.int (Int32.ofNat 2)), .unset, .unset, .unset, .unset, .unset, .unset, .unset] [(.ref t3), (.ref b1216)])) rfl (by rw [hml]; rfl) (Steps.refl _) (argsL := [(.ref t3)]) (rest := []) (lenOf pd_7 rfl) rfl (by show 2 * 0 + _ ≤ _; exact Nat.le_of_eq rfl) (hb hby at_182) (fun _ _ => ⟨rfl, e1232, (by decide : 12 + 0 ≤ _), (by decide : 44 + 0 ≤ _)⟩)
      dsimp only [Pt.U, Pt.locs, Pt.cells, Pt.slots] at X1252 l1252 y1252 z1252 st1252 hQ1252
      subst l1252 y1252 z1252
      obtain ⟨fo, rfl, N1252q, eo, ho⟩ := hQ1252
      have N1252 := Fr.app N1232 N1252q
      have P1253 : ∀ t, Steps p.tables e below (T1252.setTop (mkF m 185 #[.val (.int u1), .val (.int u2), .val (.int u3), .val (.int u4), .val (.int u5), .val (.int u6), .val (.int (Int32.ofNat y0)), .val (.int (Int32.ofNat y1)), .val (.int (Int32.ofNat z1)), .val (.ref b1190), .val (.ref b1196), .val (.ref b1200), .val (.ref t2), .val (.ref t3), .val (.double (FP.l2d (Int64.ofNat z2))), .second, .val (.double (FP.l2d (Int64.ofNat z3))), .second, .val (.int kp), .val (.int (Int32.ofNat zp)), .val (.ref pr), .val (.ref b1216), .val (.int (Int32.ofNat 2)), .unset, .unset, .unset, .unset, .unset, .unset, .unset] [(.int fo)])) t → Steps p.tables e below (s₁.setTop (entryFrame m #[(.int u1), (.int u2), (.int u3), (.int u4), (.int u5), (.int u6)] maxLocals)) t := fun t k => P1232 t (by
        refine XS.aload X1232.here hx rfl (hb hby at_178) rfl rfl ?_
        show Steps p.tables e below (T1232.setTop (mkF m 180 #[.val (.int u1), .val (.int u2), .val (.int u3), .val (.int u4), .val (.int u5), .val (.int u6), .val (.int (Int32.ofNat y0)), .val (.int (Int32.ofNat y1)), .val (.int (Int32.ofNat z1)), .val (.ref b1190), .val (.ref b1196), .val (.ref b1200), .val (.ref t2), .val (.ref t3), .val (.double (FP.l2d (Int64.ofNat z2))), .second, .val (.double (FP.l2d (Int64.ofNat z3))), .second, .val (.int kp), .val (.int (Int32.ofNat zp)), .val (.ref pr), .val (.ref b1216), .val (.int (Int32.ofNat 2)), .unset, .unset, .unset, .unset, .unset, .unset, .unset] [(.ref b1216)])) _
        refine XS.aload X1232.here hx rfl (hb hby at_180) rfl rfl ?_
        show Steps p.tables e below (T1232.setTop (mkF m 182 #[.val (.int u1), .val (.int u2), .val (.int u3), .val (.int u4), .val (.int u5), .val (.int u6), .val (.int (Int32.ofNat y0)), .val (.int (Int32.ofNat y1)), .val (.int (Int32.ofNat z1)), .val (.ref b1190), .val (.ref b1196), .val (.ref b1200), .val (.ref t2), .val (.ref t3), .val (.double (FP.l2d (Int64.ofNat z2))), .second, .val (.double (FP.l2d (Int64.ofNat z3))), .second, .val (.int kp), .val (.int (Int32.ofNat zp)), .val (.ref pr), .val (.ref b1216), .val (.int (Int32.ofNat 2)), .unset, .unset, .unset, .unset, .unset, .unset, .unset] [(.ref t3), (.ref b1216)])) _
        refine st1252.trans ?_
        show Steps p.tables e below (T1252.setTop (mkF m 185 #[.val (.int u1), .val (.int u2), .val (.int u3), .val (.int u4), .val (.int u5), .val (.int u6), .val (.int (Int32.ofNat y0)), .val (.int (Int32.ofNat y1)), .val (.int (Int32.ofNat z1)), .val (.ref b1190), .val (.ref b1196), .val (.ref b1200), .val (.ref t2), .val (.ref t3), .val (.double (FP.l2d (Int64.ofNat z2))), .second, .val (.double (FP.l2d (Int64.ofNat z3))), .second, .val (.int kp), .val (.int (Int32.ofNat zp)), .val (.ref pr), .val (.ref b1216), .val (.int (Int32.ofNat 2)), .unset, .unset, .unset, .unset, .unset, .unset, .unset] [(.int fo)])) _
        exact k)
      by_cases hq : fo = (0 : Int32)
      · have P1254 : ∀ t, Steps p.tables e below (T1252.setTop (mkF m 198 #[.val (.int u1), .val (.int u2), .val (.int u3), .val (.int u4), .val (.int u5), .val (.int u6), .val (.int (Int32.ofNat y0)), .val (.int (Int32.ofNat y1)), .val (.int (Int32.ofNat z1)), .val (.ref b1190), .val (.ref b1196), .val (.ref b1200), .val (.ref t2), .val (.ref t3), .val (.double (FP.l2d (Int64.ofNat z2))), .second, .val (.double (FP.l2d (Int64.ofNat z3))), .second, .val (.int kp), .val (.int (Int32.ofNat zp)), .val (.ref pr), .val (.ref b1216), .val (.int (Int32.ofNat 2)), .unset, .unset, .unset, .unset, .unset, .unset, .unset] [])) t → Steps p.tables e below (s₁.setTop (entryFrame m #[(.int u1), (.int u2), (.int u3), (.int u4), (.int u5), (.int u6)] maxLocals)) t := fun t k => P1253 t (by
          refine XS.ifYes X1252.here hx rfl (pc0 := 185) (pc' := 198) rfl (hb hby at_185) rfl ((if0 _ _).trans (teq hq).1) (by decide) (by decide) ?_
          show Steps p.tables e below (T1252.setTop (mkF m 198 #[.val (.int u1), .val (.int u2), .val (.int u3), .val (.int u4), .val (.int u5), .val (.int u6), .val (.int (Int32.ofNat y0)), .val (.int (Int32.ofNat y1)), .val (.int (Int32.ofNat z1)), .val (.ref b1190), .val (.ref b1196), .val (.ref b1200), .val (.ref t2), .val (.ref t3), .val (.double (FP.l2d (Int64.ofNat z2))), .second, .val (.double (FP.l2d (Int64.ofNat z3))), .second, .val (.int kp), .val (.int (Int32.ofNat zp)), .val (.ref pr), .val (.ref b1216), .val (.int (Int32.ofNat 2)), .unset, .unset, .unset, .unset, .unset, .unset, .unset] [])) _
          exact k)
        exact ⟨T1252, h1232, _, S1232, X1252, eo, N1252, K1232, B1232, OK1232, Bk1232, Nat.le_trans hkb1232 (by decide), V1232_b1196, V1232_b1200, P1254⟩
      · have hk8 : S1232.2.2.2.2.2 + 2 ≤ 8 := by omega
        obtain ⟨cq1255, kq1255, q1255a, q1255b, q1255c⟩ := isOf hZ eo B1232.1
        obtain ⟨_, _, ⟨T1255, L1255, k1255, n1255⟩, -, X1255, ⟨Lc1255, hQ1255, l1255, y1255, z1255⟩, st1255⟩ := X1252.virtualBack hx (y := (⟨"com/example/tributary/tributary/solver/Rooms", "tryJob", "([ID)Z"⟩ : MethodName)) (z := (⟨"com/example/tributary/tributary/solver/Rooms", "tryJob", "([ID)Z"⟩ : MethodName)) hown (mvT hZ (hw _ (List.mem_of_getElem? (i := 35) rfl))) (mvT hZ (hw _ (List.mem_of_getElem? (i := 36) rfl))) (notFace_of_selects (args := #[]) (mvT hZ (hw _ (List.mem_of_getElem? (i := 38) rfl)))) (mvT hZ (hw _ (List.mem_of_getElem? (i := 38) rfl))) (mvT hZ (hw _ (List.mem_of_getElem? (i := 37) rfl))) (by decide) (backOf (W := 0) (rm_try2 l Z a0 hw [] b1216 ar ac al alr alc k1 k2 k3 k4 k5 S1232 t3 kt3 x1 x2 z3 h1232 n0 Z1232 B1232 Di Gi OK1232 VT ⟨ne_t3_b1216, ne_t3_ar, ne_t3_ac, ne_t3_al, ne_t3_alr, ne_t3_alc⟩ hx1 hx2 hz3 hk8) hZ (hw _ (List.mem_of_getElem? (i := 39) rfl)) (hw _ (List.mem_of_getElem? (i := 7) rfl)) (by decide) (by decide)) q1255a q1255c (g := (mkF m 194 #[.val (.int u1), .val (.int u2), .val (.int u3), .val (.int u4), .val (.int u5), .val (.int u6), .val (.int (Int32.ofNat y0)), .val (.int (Int32.ofNat y1)), .val (.int (Int32.ofNat z1)), .val (.ref b1190), .val (.ref b1196), .val (.ref b1200), .val (.ref t2), .val (.ref t3), .val (.double (FP.l2d (Int64.ofNat z2))), .second, .val (.double (FP.l2d (Int64.ofNat z3))), .second, .val (.int kp), .val (.int (Int32.ofNat zp)), .val (.ref pr), .val (.ref b1216), .val (.int (Int32.ofNat 2)), .unset, .unset, .unset, .unset, .unset, .unset, .unset] [(.double (FP.l2d (Int64.ofNat z3))), (.ref t3), (.ref b1216)])) rfl (by rw [hml]; rfl) (Steps.refl _) (argsL := [(.ref t3), (.double (FP.l2d (Int64.ofNat z3)))]) (rest := []) (lenOf pd_5 rfl) rfl (by show 2 * 0 + _ ≤ _; exact Nat.le_of_eq rfl) (hb hby at_194) (fun _ _ => ⟨rfl, eo, (by decide : 12 + 0 ≤ _), (by decide : 44 + 0 ≤ _)⟩)
        dsimp only [Pt.U, Pt.locs, Pt.cells, Pt.slots] at X1255 l1255 y1255 z1255 st1255 hQ1255
        subst l1255 y1255 z1255
        obtain ⟨ft, rfl, N1255q, Kt, Bt⟩ := hQ1255
        have N1255 := Fr.app N1252 N1255q
        have c1256_0 := V1232_b1196.keep Kt (ninS ne_b1196_b1216 (ninS ne_b1196_ar (ninS ne_b1196_ac (ninS ne_b1196_al (ninS ne_b1196_alr (ninS ne_b1196_alc nin0))))))
        have c1256_1 := V1232_b1200.keep Kt (ninS ne_b1200_b1216 (ninS ne_b1200_ar (ninS ne_b1200_ac (ninS ne_b1200_al (ninS ne_b1200_alr (ninS ne_b1200_alc nin0))))))
        have c1256_2 := VT.keep Kt (ninS ne_t3_b1216 (ninS ne_t3_ar (ninS ne_t3_ac (ninS ne_t3_al (ninS ne_t3_alr (ninS ne_t3_alc nin0))))))
        have Z1255 : n0 ≤ T1255.heap.size := Nat.le_trans Z1232 Kt.1
        have K1255 : Keep h0 T1255.heap [] := K1232.trans Kt (allS (Or.inr sz_b1216) (allS (Or.inr sz_ar) (allS (Or.inr sz_ac) (allS (Or.inr sz_al) (allS (Or.inr sz_alr) (allS (Or.inr sz_alc) all0))))))
        have e1 := own_step_k z3 S1232 x1
        have e2 := own_step_k z3 (own_step z3 S1232 x1) x2
        have P1257 : ∀ t, Steps p.tables e below (T1255.setTop (mkF m 198 #[.val (.int u1), .val (.int u2), .val (.int u3), .val (.int u4), .val (.int u5), .val (.int u6), .val (.int (Int32.ofNat y0)), .val (.int (Int32.ofNat y1)), .val (.int (Int32.ofNat z1)), .val (.ref b1190), .val (.ref b1196), .val (.ref b1200), .val (.ref t2), .val (.ref t3), .val (.double (FP.l2d (Int64.ofNat z2))), .second, .val (.double (FP.l2d (Int64.ofNat z3))), .second, .val (.int kp), .val (.int (Int32.ofNat zp)), .val (.ref pr), .val (.ref b1216), .val (.int (Int32.ofNat 2)), .unset, .unset, .unset, .unset, .unset, .unset, .unset] [])) t → Steps p.tables e below (s₁.setTop (entryFrame m #[(.int u1), (.int u2), (.int u3), (.int u4), (.int u5), (.int u6)] maxLocals)) t := fun t k => P1253 t (by
          refine XS.ifNo X1252.here hx rfl (hb hby at_185) rfl ((if0 _ _).trans (feq hq).1) ?_
          show Steps p.tables e below (T1252.setTop (mkF m 188 #[.val (.int u1), .val (.int u2), .val (.int u3), .val (.int u4), .val (.int u5), .val (.int u6), .val (.int (Int32.ofNat y0)), .val (.int (Int32.ofNat y1)), .val (.int (Int32.ofNat z1)), .val (.ref b1190), .val (.ref b1196), .val (.ref b1200), .val (.ref t2), .val (.ref t3), .val (.double (FP.l2d (Int64.ofNat z2))), .second, .val (.double (FP.l2d (Int64.ofNat z3))), .second, .val (.int kp), .val (.int (Int32.ofNat zp)), .val (.ref pr), .val (.ref b1216), .val (.int (Int32.ofNat 2)), .unset, .unset, .unset, .unset, .unset, .unset, .unset] [])) _
          refine XS.aload X1252.here hx rfl (hb hby at_188) rfl rfl ?_
          show Steps p.tables e below (T1252.setTop (mkF m 190 #[.val (.int u1), .val (.int u2), .val (.int u3), .val (.int u4), .val (.int u5), .val (.int u6), .val (.int (Int32.ofNat y0)), .val (.int (Int32.ofNat y1)), .val (.int (Int32.ofNat z1)), .val (.ref b1190), .val (.ref b1196), .val (.ref b1200), .val (.ref t2), .val (.ref t3), .val (.double (FP.l2d (Int64.ofNat z2))), .second, .val (.double (FP.l2d (Int64.ofNat z3))), .second, .val (.int kp), .val (.int (Int32.ofNat zp)), .val (.ref pr), .val (.ref b1216), .val (.int (Int32.ofNat 2)), .unset, .unset, .unset, .unset, .unset, .unset, .unset] [(.ref b1216)])) _
          refine XS.aload X1252.here hx rfl (hb hby at_190) rfl rfl ?_
          show Steps p.tables e below (T1252.setTop (mkF m 192 #[.val (.int u1), .val (.int u2), .val (.int u3), .val (.int u4), .val (.int u5), .val (.int u6), .val (.int (Int32.ofNat y0)), .val (.int (Int32.ofNat y1)), .val (.int (Int32.ofNat z1)), .val (.ref b1190), .val (.ref b1196), .val (.ref b1200), .val (.ref t2), .val (.ref t3), .val (.double (FP.l2d (Int64.ofNat z2))), .second, .val (.double (FP.l2d (Int64.ofNat z3))), .second, .val (.int kp), .val (.int (Int32.ofNat zp)), .val (.ref pr), .val (.ref b1216), .val (.int (Int32.ofNat 2)), .unset, .unset, .unset, .unset, .unset, .unset, .unset] [(.ref t3), (.ref b1216)])) _
          refine XS.dload X1252.here hx rfl (hb hby at_192) rfl ?_
          show Steps p.tables e below (T1252.setTop (mkF m 194 #[.val (.int u1), .val (.int u2), .val (.int u3), .val (.int u4), .val (.int u5), .val (.int u6), .val (.int (Int32.ofNat y0)), .val (.int (Int32.ofNat y1)), .val (.int (Int32.ofNat z1)), .val (.ref b1190), .val (.ref b1196), .val (.ref b1200), .val (.ref t2), .val (.ref t3), .val (.double (FP.l2d (Int64.ofNat z2))), .second, .val (.double (FP.l2d (Int64.ofNat z3))), .second, .val (.int kp), .val (.int (Int32.ofNat zp)), .val (.ref pr), .val (.ref b1216), .val (.int (Int32.ofNat 2)), .unset, .unset, .unset, .unset, .unset, .unset, .unset] [(.double (FP.l2d (Int64.ofNat z3))), (.ref t3), (.ref b1216)])) _
          refine st1255.trans ?_
          show Steps p.tables e below (T1255.setTop (mkF m 197 #[.val (.int u1), .val (.int u2), .val (.int u3), .val (.int u4), .val (.int u5), .val (.int u6), .val (.int (Int32.ofNat y0)), .val (.int (Int32.ofNat y1)), .val (.int (Int32.ofNat z1)), .val (.ref b1190), .val (.ref b1196), .val (.ref b1200), .val (.ref t2), .val (.ref t3), .val (.double (FP.l2d (Int64.ofNat z2))), .second, .val (.double (FP.l2d (Int64.ofNat z3))), .second, .val (.int kp), .val (.int (Int32.ofNat zp)), .val (.ref pr), .val (.ref b1216), .val (.int (Int32.ofNat 2)), .unset, .unset, .unset, .unset, .unset, .unset, .unset] [(.int ft)])) _
          refine XS.pop X1255.here hx rfl (hb hby at_197) rfl rfl ?_
          show Steps p.tables e below (T1255.setTop (mkF m 198 #[.val (.int u1), .val (.int u2), .val (.int u3), .val (.int u4), .val (.int u5), .val (.int u6), .val (.int (Int32.ofNat y0)), .val (.int (Int32.ofNat y1)), .val (.int (Int32.ofNat z1)), .val (.ref b1190), .val (.ref b1196), .val (.ref b1200), .val (.ref t2), .val (.ref t3), .val (.double (FP.l2d (Int64.ofNat z2))), .second, .val (.double (FP.l2d (Int64.ofNat z3))), .second, .val (.int kp), .val (.int (Int32.ofNat zp)), .val (.ref pr), .val (.ref b1216), .val (.int (Int32.ofNat 2)), .unset, .unset, .unset, .unset, .unset, .unset, .unset] [])) _
          exact k)
        exact ⟨T1255, T1255.heap, _, (own_step z3 (own_step z3 S1232 x1) x2), X1255, rfl, N1255, K1255, Bt, (own_ok_step (own_ok_step OK1232 hx1) hx2), (own_Bk_step (own_ok_step OK1232 hx1) hx2 (by omega) (own_Bk_step OK1232 hx1 (by omega) Bk1232)), (by omega), c1256_0, c1256_1, P1257⟩
  have Z1245 : n0 ≤ h1245.size := Nat.le_trans Z0 K1245.1
  obtain ⟨cq1258, kq1258, q1258a, q1258b, q1258c⟩ := isOf hZ e1245 B1245.1
  obtain ⟨_, _, ⟨T1258, L1258, k1258, n1258⟩, -, X1258, ⟨Lc1258, hQ1258, l1258, y1258, z1258⟩, st1258⟩ := X1245.virtualBack hx (y := (⟨"com/example/tributary/tributary/solver/Rooms", "undo", "(I)V"⟩ : MethodName)) (z := (⟨"com/example/tributary/tributary/solver/Rooms", "undo", "(I)V"⟩ : MethodName)) hown (mvT hZ (hw _ (List.mem_of_getElem? (i := 65) rfl))) (mvT hZ (hw _ (List.mem_of_getElem? (i := 66) rfl))) (notFace_of_selects (args := #[]) (mvT hZ (hw _ (List.mem_of_getElem? (i := 68) rfl)))) (mvT hZ (hw _ (List.mem_of_getElem? (i := 68) rfl))) (mvT hZ (hw _ (List.mem_of_getElem? (i := 67) rfl))) (by decide) (backOf (W := 0) (rm_undo l Z a0 hw [] b1216 ar ac al alr alc k1 k2 k3 k4 k5 S1245 2 h1245 n0 Z1245 B1245 Di Gi OK1245 Bk1245.1 (by omega)) hZ (hw _ (List.mem_of_getElem? (i := 69) rfl)) (hw _ (List.mem_of_getElem? (i := 7) rfl)) (by decide) (by decide)) q1258a q1258c (g := (mkF m 202 #[.val (.int u1), .val (.int u2), .val (.int u3), .val (.int u4), .val (.int u5), .val (.int u6), .val (.int (Int32.ofNat y0)), .val (.int (Int32.ofNat y1)), .val (.int (Int32.ofNat z1)), .val (.ref b1190), .val (.ref b1196), .val (.ref b1200), .val (.ref t2), .val (.ref t3), .val (.double (FP.l2d (Int64.ofNat z2))), .second, .val (.double (FP.l2d (Int64.ofNat z3))), .second, .val (.int kp), .val (.int (Int32.ofNat zp)), .val (.ref pr), .val (.ref b1216), .val (.int (Int32.ofNat 2)), .unset, .unset, .unset, .unset, .unset, .unset, .unset] [(.int (Int32.ofNat 2)), (.ref b1216)])) rfl (by rw [hml]; rfl) (Steps.refl _) (argsL := [(.int (Int32.ofNat 2))]) (rest := []) (lenOf pd_2 rfl) rfl (by show 2 * 0 + _ ≤ _; exact Nat.le_of_eq rfl) (hb hby at_202) (fun _ _ => ⟨rfl, e1245, (by decide : 12 + 0 ≤ _), (by decide : 44 + 0 ≤ _)⟩)
  dsimp only [Pt.U, Pt.locs, Pt.cells, Pt.slots] at X1258 l1258 y1258 z1258 st1258 hQ1258
  subst l1258 y1258 z1258
  obtain ⟨rfl, N1258q, Ku, Bu⟩ := hQ1258
  have N1258 := Fr.app N1245 N1258q
  have c1259_0 := V1245_b1196.keep Ku (ninS ne_b1196_b1216 (ninS ne_b1196_ar (ninS ne_b1196_ac (ninS ne_b1196_al (ninS ne_b1196_alr (ninS ne_b1196_alc nin0))))))
  have c1259_1 := V1245_b1200.keep Ku (ninS ne_b1200_b1216 (ninS ne_b1200_ar (ninS ne_b1200_ac (ninS ne_b1200_al (ninS ne_b1200_alr (ninS ne_b1200_alc nin0))))))
  have Z1258 : n0 ≤ T1258.heap.size := Nat.le_trans Z1245 Ku.1
  have K1258 : Keep h0 T1258.heap [] := K1245.trans Ku (allS (Or.inr sz_b1216) (allS (Or.inr sz_ar) (allS (Or.inr sz_ac) (allS (Or.inr sz_al) (allS (Or.inr sz_alr) (allS (Or.inr sz_alc) all0))))))
  have P1260 : ∀ t, Steps p.tables e below (T1258.setTop (mkF m 205 #[.val (.int u1), .val (.int u2), .val (.int u3), .val (.int u4), .val (.int u5), .val (.int u6), .val (.int (Int32.ofNat y0)), .val (.int (Int32.ofNat y1)), .val (.int (Int32.ofNat z1)), .val (.ref b1190), .val (.ref b1196), .val (.ref b1200), .val (.ref t2), .val (.ref t3), .val (.double (FP.l2d (Int64.ofNat z2))), .second, .val (.double (FP.l2d (Int64.ofNat z3))), .second, .val (.int kp), .val (.int (Int32.ofNat zp)), .val (.ref pr), .val (.ref b1216), .val (.int (Int32.ofNat 2)), .unset, .unset, .unset, .unset, .unset, .unset, .unset] [])) t → Steps p.tables e below (s₁.setTop (entryFrame m #[(.int u1), (.int u2), (.int u3), (.int u4), (.int u5), (.int u6)] maxLocals)) t := fun t k => P1245 t (by
    refine XS.aload X1245.here hx rfl (hb hby at_198) rfl rfl ?_
    show Steps p.tables e below (T1245.setTop (mkF m 200 #[.val (.int u1), .val (.int u2), .val (.int u3), .val (.int u4), .val (.int u5), .val (.int u6), .val (.int (Int32.ofNat y0)), .val (.int (Int32.ofNat y1)), .val (.int (Int32.ofNat z1)), .val (.ref b1190), .val (.ref b1196), .val (.ref b1200), .val (.ref t2), .val (.ref t3), .val (.double (FP.l2d (Int64.ofNat z2))), .second, .val (.double (FP.l2d (Int64.ofNat z3))), .second, .val (.int kp), .val (.int (Int32.ofNat zp)), .val (.ref pr), .val (.ref b1216), .val (.int (Int32.ofNat 2)), .unset, .unset, .unset, .unset, .unset, .unset, .unset] [(.ref b1216)])) _
    refine XS.iload X1245.here hx rfl (hb hby at_200) rfl ?_
    show Steps p.tables e below (T1245.setTop (mkF m 202 #[.val (.int u1), .val (.int u2), .val (.int u3), .val (.int u4), .val (.int u5), .val (.int u6), .val (.int (Int32.ofNat y0)), .val (.int (Int32.ofNat y1)), .val (.int (Int32.ofNat z1)), .val (.ref b1190), .val (.ref b1196), .val (.ref b1200), .val (.ref t2), .val (.ref t3), .val (.double (FP.l2d (Int64.ofNat z2))), .second, .val (.double (FP.l2d (Int64.ofNat z3))), .second, .val (.int kp), .val (.int (Int32.ofNat zp)), .val (.ref pr), .val (.ref b1216), .val (.int (Int32.ofNat 2)), .unset, .unset, .unset, .unset, .unset, .unset, .unset] [(.int (Int32.ofNat 2)), (.ref b1216)])) _
    refine st1258.trans ?_
    show Steps p.tables e below (T1258.setTop (mkF m 205 #[.val (.int u1), .val (.int u2), .val (.int u3), .val (.int u4), .val (.int u5), .val (.int u6), .val (.int (Int32.ofNat y0)), .val (.int (Int32.ofNat y1)), .val (.int (Int32.ofNat z1)), .val (.ref b1190), .val (.ref b1196), .val (.ref b1200), .val (.ref t2), .val (.ref t3), .val (.double (FP.l2d (Int64.ofNat z2))), .second, .val (.double (FP.l2d (Int64.ofNat z3))), .second, .val (.int kp), .val (.int (Int32.ofNat zp)), .val (.ref pr), .val (.ref b1216), .val (.int (Int32.ofNat 2)), .unset, .unset, .unset, .unset, .unset, .unset, .unset] [])) _
    exact k)
  obtain ⟨S4, hS4⟩ : ∃ q, q = own_uns (S1245.2.2.2.2.2 - 2) S1245 := ⟨_, rfl⟩
  rw [← hS4] at Bu
  have OK4 : own_ok S4 := by rw [hS4]; exact own_ok_uns OK1245 _
  obtain ⟨hm1, hm2, hm3, -⟩ : own_sim S4 S1 := by rw [hS4]; exact Bk1245.2
  have hk4 : S4.2.2.2.2.2 = 2 := hm3.trans hk1
  obtain ⟨cl0, cl1, rm0, rm1, hcl0, hcl1, hrm0, hrm1, P1261⟩ : ∃ (cl0 : Int32) (cl1 : Int32) (rm0 : Int32) (rm1 : Int32), (cl0 = Int32.ofNat (S1.2.1.getD 0 0)) ∧ (cl1 = Int32.ofNat (S1.2.1.getD 1 0)) ∧ (rm0 = Int32.ofNat (S1.1.getD 0 0)) ∧ (rm1 = Int32.ofNat (S1.1.getD 1 0)) ∧ (∀ t, Steps p.tables e below (T1258.setTop (mkF m 267 #[.val (.int u1), .val (.int u2), .val (.int u3), .val (.int u4), .val (.int u5), .val (.int u6), .val (.int (Int32.ofNat y0)), .val (.int (Int32.ofNat y1)), .val (.int (Int32.ofNat z1)), .val (.ref b1190), .val (.ref b1196), .val (.ref b1200), .val (.ref t2), .val (.ref t3), .val (.double (FP.l2d (Int64.ofNat z2))), .second, .val (.double (FP.l2d (Int64.ofNat z3))), .second, .val (.int kp), .val (.int (Int32.ofNat zp)), .val (.ref pr), .val (.ref b1216), .val (.int (Int32.ofNat 2)), .val (.int cl0), .val (.int cl1), .val (.int rm0), .val (.int rm1), .unset, .unset, .unset] [])) t → Steps p.tables e below (s₁.setTop (entryFrame m #[(.int u1), (.int u2), (.int u3), (.int u4), (.int u5), (.int u6)] maxLocals)) t) := by
    by_cases H0 : z1 ≤ y0
    · by_cases H1 : z1 ≤ y1
      · have P1262 : ∀ t, Steps p.tables e below (T1258.setTop (mkF m 267 #[.val (.int u1), .val (.int u2), .val (.int u3), .val (.int u4), .val (.int u5), .val (.int u6), .val (.int (Int32.ofNat y0)), .val (.int (Int32.ofNat y1)), .val (.int (Int32.ofNat z1)), .val (.ref b1190), .val (.ref b1196), .val (.ref b1200), .val (.ref t2), .val (.ref t3), .val (.double (FP.l2d (Int64.ofNat z2))), .second, .val (.double (FP.l2d (Int64.ofNat z3))), .second, .val (.int kp), .val (.int (Int32.ofNat zp)), .val (.ref pr), .val (.ref b1216), .val (.int (Int32.ofNat 2)), .val (.int (0 : Int32)), .val (.int (0 : Int32)), .val (.int ((Int32.ofNat y0) - (Int32.ofNat z1))), .val (.int ((Int32.ofNat y1) - (Int32.ofNat z1))), .unset, .unset, .unset] [])) t → Steps p.tables e below (s₁.setTop (entryFrame m #[(.int u1), (.int u2), (.int u3), (.int u4), (.int u5), (.int u6)] maxLocals)) t := fun t k => P1260 t (by
          refine XS.iload X1258.here hx rfl (hb hby at_205) rfl ?_
          show Steps p.tables e below (T1258.setTop (mkF m 207 #[.val (.int u1), .val (.int u2), .val (.int u3), .val (.int u4), .val (.int u5), .val (.int u6), .val (.int (Int32.ofNat y0)), .val (.int (Int32.ofNat y1)), .val (.int (Int32.ofNat z1)), .val (.ref b1190), .val (.ref b1196), .val (.ref b1200), .val (.ref t2), .val (.ref t3), .val (.double (FP.l2d (Int64.ofNat z2))), .second, .val (.double (FP.l2d (Int64.ofNat z3))), .second, .val (.int kp), .val (.int (Int32.ofNat zp)), .val (.ref pr), .val (.ref b1216), .val (.int (Int32.ofNat 2)), .unset, .unset, .unset, .unset, .unset, .unset, .unset] [(.int (Int32.ofNat z1))])) _
          refine XS.iload X1258.here hx rfl (hb hby at_207) rfl ?_
          show Steps p.tables e below (T1258.setTop (mkF m 209 #[.val (.int u1), .val (.int u2), .val (.int u3), .val (.int u4), .val (.int u5), .val (.int u6), .val (.int (Int32.ofNat y0)), .val (.int (Int32.ofNat y1)), .val (.int (Int32.ofNat z1)), .val (.ref b1190), .val (.ref b1196), .val (.ref b1200), .val (.ref t2), .val (.ref t3), .val (.double (FP.l2d (Int64.ofNat z2))), .second, .val (.double (FP.l2d (Int64.ofNat z3))), .second, .val (.int kp), .val (.int (Int32.ofNat zp)), .val (.ref pr), .val (.ref b1216), .val (.int (Int32.ofNat 2)), .unset, .unset, .unset, .unset, .unset, .unset, .unset] [(.int (Int32.ofNat y0)), (.int (Int32.ofNat z1))])) _
          refine XS.icmpYes X1258.here hx rfl (pc0 := 209) (pc' := 216) rfl (hb hby at_209) rfl (flt (fun q => absurd ((own_ltI y0 hy0 z1 hz1).mp q) (by omega))).2.2.2 (by decide) (by decide) ?_
          show Steps p.tables e below (T1258.setTop (mkF m 216 #[.val (.int u1), .val (.int u2), .val (.int u3), .val (.int u4), .val (.int u5), .val (.int u6), .val (.int (Int32.ofNat y0)), .val (.int (Int32.ofNat y1)), .val (.int (Int32.ofNat z1)), .val (.ref b1190), .val (.ref b1196), .val (.ref b1200), .val (.ref t2), .val (.ref t3), .val (.double (FP.l2d (Int64.ofNat z2))), .second, .val (.double (FP.l2d (Int64.ofNat z3))), .second, .val (.int kp), .val (.int (Int32.ofNat zp)), .val (.ref pr), .val (.ref b1216), .val (.int (Int32.ofNat 2)), .unset, .unset, .unset, .unset, .unset, .unset, .unset] [])) _
          refine XS.iconst X1258.here hx rfl (hb hby at_216) ?_
          show Steps p.tables e below (T1258.setTop (mkF m 217 #[.val (.int u1), .val (.int u2), .val (.int u3), .val (.int u4), .val (.int u5), .val (.int u6), .val (.int (Int32.ofNat y0)), .val (.int (Int32.ofNat y1)), .val (.int (Int32.ofNat z1)), .val (.ref b1190), .val (.ref b1196), .val (.ref b1200), .val (.ref t2), .val (.ref t3), .val (.double (FP.l2d (Int64.ofNat z2))), .second, .val (.double (FP.l2d (Int64.ofNat z3))), .second, .val (.int kp), .val (.int (Int32.ofNat zp)), .val (.ref pr), .val (.ref b1216), .val (.int (Int32.ofNat 2)), .unset, .unset, .unset, .unset, .unset, .unset, .unset] [(.int (0 : Int32))])) _
          refine XS.istore X1258.here hx rfl (hb hby at_217) rfl (l' := #[.val (.int u1), .val (.int u2), .val (.int u3), .val (.int u4), .val (.int u5), .val (.int u6), .val (.int (Int32.ofNat y0)), .val (.int (Int32.ofNat y1)), .val (.int (Int32.ofNat z1)), .val (.ref b1190), .val (.ref b1196), .val (.ref b1200), .val (.ref t2), .val (.ref t3), .val (.double (FP.l2d (Int64.ofNat z2))), .second, .val (.double (FP.l2d (Int64.ofNat z3))), .second, .val (.int kp), .val (.int (Int32.ofNat zp)), .val (.ref pr), .val (.ref b1216), .val (.int (Int32.ofNat 2)), .val (.int (0 : Int32)), .unset, .unset, .unset, .unset, .unset, .unset]) rfl ?_
          show Steps p.tables e below (T1258.setTop (mkF m 219 #[.val (.int u1), .val (.int u2), .val (.int u3), .val (.int u4), .val (.int u5), .val (.int u6), .val (.int (Int32.ofNat y0)), .val (.int (Int32.ofNat y1)), .val (.int (Int32.ofNat z1)), .val (.ref b1190), .val (.ref b1196), .val (.ref b1200), .val (.ref t2), .val (.ref t3), .val (.double (FP.l2d (Int64.ofNat z2))), .second, .val (.double (FP.l2d (Int64.ofNat z3))), .second, .val (.int kp), .val (.int (Int32.ofNat zp)), .val (.ref pr), .val (.ref b1216), .val (.int (Int32.ofNat 2)), .val (.int (0 : Int32)), .unset, .unset, .unset, .unset, .unset, .unset] [])) _
          refine XS.iload X1258.here hx rfl (hb hby at_219) rfl ?_
          show Steps p.tables e below (T1258.setTop (mkF m 221 #[.val (.int u1), .val (.int u2), .val (.int u3), .val (.int u4), .val (.int u5), .val (.int u6), .val (.int (Int32.ofNat y0)), .val (.int (Int32.ofNat y1)), .val (.int (Int32.ofNat z1)), .val (.ref b1190), .val (.ref b1196), .val (.ref b1200), .val (.ref t2), .val (.ref t3), .val (.double (FP.l2d (Int64.ofNat z2))), .second, .val (.double (FP.l2d (Int64.ofNat z3))), .second, .val (.int kp), .val (.int (Int32.ofNat zp)), .val (.ref pr), .val (.ref b1216), .val (.int (Int32.ofNat 2)), .val (.int (0 : Int32)), .unset, .unset, .unset, .unset, .unset, .unset] [(.int (Int32.ofNat z1))])) _
          refine XS.iload X1258.here hx rfl (hb hby at_221) rfl ?_
          show Steps p.tables e below (T1258.setTop (mkF m 223 #[.val (.int u1), .val (.int u2), .val (.int u3), .val (.int u4), .val (.int u5), .val (.int u6), .val (.int (Int32.ofNat y0)), .val (.int (Int32.ofNat y1)), .val (.int (Int32.ofNat z1)), .val (.ref b1190), .val (.ref b1196), .val (.ref b1200), .val (.ref t2), .val (.ref t3), .val (.double (FP.l2d (Int64.ofNat z2))), .second, .val (.double (FP.l2d (Int64.ofNat z3))), .second, .val (.int kp), .val (.int (Int32.ofNat zp)), .val (.ref pr), .val (.ref b1216), .val (.int (Int32.ofNat 2)), .val (.int (0 : Int32)), .unset, .unset, .unset, .unset, .unset, .unset] [(.int (Int32.ofNat y1)), (.int (Int32.ofNat z1))])) _
          refine XS.icmpYes X1258.here hx rfl (pc0 := 223) (pc' := 230) rfl (hb hby at_223) rfl (flt (fun q => absurd ((own_ltI y1 hy1 z1 hz1).mp q) (by omega))).2.2.2 (by decide) (by decide) ?_
          show Steps p.tables e below (T1258.setTop (mkF m 230 #[.val (.int u1), .val (.int u2), .val (.int u3), .val (.int u4), .val (.int u5), .val (.int u6), .val (.int (Int32.ofNat y0)), .val (.int (Int32.ofNat y1)), .val (.int (Int32.ofNat z1)), .val (.ref b1190), .val (.ref b1196), .val (.ref b1200), .val (.ref t2), .val (.ref t3), .val (.double (FP.l2d (Int64.ofNat z2))), .second, .val (.double (FP.l2d (Int64.ofNat z3))), .second, .val (.int kp), .val (.int (Int32.ofNat zp)), .val (.ref pr), .val (.ref b1216), .val (.int (Int32.ofNat 2)), .val (.int (0 : Int32)), .unset, .unset, .unset, .unset, .unset, .unset] [])) _
          refine XS.iconst X1258.here hx rfl (hb hby at_230) ?_
          show Steps p.tables e below (T1258.setTop (mkF m 231 #[.val (.int u1), .val (.int u2), .val (.int u3), .val (.int u4), .val (.int u5), .val (.int u6), .val (.int (Int32.ofNat y0)), .val (.int (Int32.ofNat y1)), .val (.int (Int32.ofNat z1)), .val (.ref b1190), .val (.ref b1196), .val (.ref b1200), .val (.ref t2), .val (.ref t3), .val (.double (FP.l2d (Int64.ofNat z2))), .second, .val (.double (FP.l2d (Int64.ofNat z3))), .second, .val (.int kp), .val (.int (Int32.ofNat zp)), .val (.ref pr), .val (.ref b1216), .val (.int (Int32.ofNat 2)), .val (.int (0 : Int32)), .unset, .unset, .unset, .unset, .unset, .unset] [(.int (0 : Int32))])) _
          refine XS.istore X1258.here hx rfl (hb hby at_231) rfl (l' := #[.val (.int u1), .val (.int u2), .val (.int u3), .val (.int u4), .val (.int u5), .val (.int u6), .val (.int (Int32.ofNat y0)), .val (.int (Int32.ofNat y1)), .val (.int (Int32.ofNat z1)), .val (.ref b1190), .val (.ref b1196), .val (.ref b1200), .val (.ref t2), .val (.ref t3), .val (.double (FP.l2d (Int64.ofNat z2))), .second, .val (.double (FP.l2d (Int64.ofNat z3))), .second, .val (.int kp), .val (.int (Int32.ofNat zp)), .val (.ref pr), .val (.ref b1216), .val (.int (Int32.ofNat 2)), .val (.int (0 : Int32)), .val (.int (0 : Int32)), .unset, .unset, .unset, .unset, .unset]) rfl ?_
          show Steps p.tables e below (T1258.setTop (mkF m 233 #[.val (.int u1), .val (.int u2), .val (.int u3), .val (.int u4), .val (.int u5), .val (.int u6), .val (.int (Int32.ofNat y0)), .val (.int (Int32.ofNat y1)), .val (.int (Int32.ofNat z1)), .val (.ref b1190), .val (.ref b1196), .val (.ref b1200), .val (.ref t2), .val (.ref t3), .val (.double (FP.l2d (Int64.ofNat z2))), .second, .val (.double (FP.l2d (Int64.ofNat z3))), .second, .val (.int kp), .val (.int (Int32.ofNat zp)), .val (.ref pr), .val (.ref b1216), .val (.int (Int32.ofNat 2)), .val (.int (0 : Int32)), .val (.int (0 : Int32)), .unset, .unset, .unset, .unset, .unset] [])) _
          refine XS.iload X1258.here hx rfl (hb hby at_233) rfl ?_
          show Steps p.tables e below (T1258.setTop (mkF m 235 #[.val (.int u1), .val (.int u2), .val (.int u3), .val (.int u4), .val (.int u5), .val (.int u6), .val (.int (Int32.ofNat y0)), .val (.int (Int32.ofNat y1)), .val (.int (Int32.ofNat z1)), .val (.ref b1190), .val (.ref b1196), .val (.ref b1200), .val (.ref t2), .val (.ref t3), .val (.double (FP.l2d (Int64.ofNat z2))), .second, .val (.double (FP.l2d (Int64.ofNat z3))), .second, .val (.int kp), .val (.int (Int32.ofNat zp)), .val (.ref pr), .val (.ref b1216), .val (.int (Int32.ofNat 2)), .val (.int (0 : Int32)), .val (.int (0 : Int32)), .unset, .unset, .unset, .unset, .unset] [(.int (0 : Int32))])) _
          refine XS.ifYes X1258.here hx rfl (pc0 := 235) (pc' := 243) rfl (hb hby at_235) rfl ((if0 _ _).trans (teq rfl).1) (by decide) (by decide) ?_
          show Steps p.tables e below (T1258.setTop (mkF m 243 #[.val (.int u1), .val (.int u2), .val (.int u3), .val (.int u4), .val (.int u5), .val (.int u6), .val (.int (Int32.ofNat y0)), .val (.int (Int32.ofNat y1)), .val (.int (Int32.ofNat z1)), .val (.ref b1190), .val (.ref b1196), .val (.ref b1200), .val (.ref t2), .val (.ref t3), .val (.double (FP.l2d (Int64.ofNat z2))), .second, .val (.double (FP.l2d (Int64.ofNat z3))), .second, .val (.int kp), .val (.int (Int32.ofNat zp)), .val (.ref pr), .val (.ref b1216), .val (.int (Int32.ofNat 2)), .val (.int (0 : Int32)), .val (.int (0 : Int32)), .unset, .unset, .unset, .unset, .unset] [])) _
          refine XS.iload X1258.here hx rfl (hb hby at_243) rfl ?_
          show Steps p.tables e below (T1258.setTop (mkF m 245 #[.val (.int u1), .val (.int u2), .val (.int u3), .val (.int u4), .val (.int u5), .val (.int u6), .val (.int (Int32.ofNat y0)), .val (.int (Int32.ofNat y1)), .val (.int (Int32.ofNat z1)), .val (.ref b1190), .val (.ref b1196), .val (.ref b1200), .val (.ref t2), .val (.ref t3), .val (.double (FP.l2d (Int64.ofNat z2))), .second, .val (.double (FP.l2d (Int64.ofNat z3))), .second, .val (.int kp), .val (.int (Int32.ofNat zp)), .val (.ref pr), .val (.ref b1216), .val (.int (Int32.ofNat 2)), .val (.int (0 : Int32)), .val (.int (0 : Int32)), .unset, .unset, .unset, .unset, .unset] [(.int (Int32.ofNat y0))])) _
          refine XS.iload X1258.here hx rfl (hb hby at_245) rfl ?_
          show Steps p.tables e below (T1258.setTop (mkF m 247 #[.val (.int u1), .val (.int u2), .val (.int u3), .val (.int u4), .val (.int u5), .val (.int u6), .val (.int (Int32.ofNat y0)), .val (.int (Int32.ofNat y1)), .val (.int (Int32.ofNat z1)), .val (.ref b1190), .val (.ref b1196), .val (.ref b1200), .val (.ref t2), .val (.ref t3), .val (.double (FP.l2d (Int64.ofNat z2))), .second, .val (.double (FP.l2d (Int64.ofNat z3))), .second, .val (.int kp), .val (.int (Int32.ofNat zp)), .val (.ref pr), .val (.ref b1216), .val (.int (Int32.ofNat 2)), .val (.int (0 : Int32)), .val (.int (0 : Int32)), .unset, .unset, .unset, .unset, .unset] [(.int (Int32.ofNat z1)), (.int (Int32.ofNat y0))])) _
          refine XS.isub X1258.here hx rfl (hb hby at_247) rfl ?_
          show Steps p.tables e below (T1258.setTop (mkF m 248 #[.val (.int u1), .val (.int u2), .val (.int u3), .val (.int u4), .val (.int u5), .val (.int u6), .val (.int (Int32.ofNat y0)), .val (.int (Int32.ofNat y1)), .val (.int (Int32.ofNat z1)), .val (.ref b1190), .val (.ref b1196), .val (.ref b1200), .val (.ref t2), .val (.ref t3), .val (.double (FP.l2d (Int64.ofNat z2))), .second, .val (.double (FP.l2d (Int64.ofNat z3))), .second, .val (.int kp), .val (.int (Int32.ofNat zp)), .val (.ref pr), .val (.ref b1216), .val (.int (Int32.ofNat 2)), .val (.int (0 : Int32)), .val (.int (0 : Int32)), .unset, .unset, .unset, .unset, .unset] [(.int ((Int32.ofNat y0) - (Int32.ofNat z1)))])) _
          refine XS.istore X1258.here hx rfl (hb hby at_248) rfl (l' := #[.val (.int u1), .val (.int u2), .val (.int u3), .val (.int u4), .val (.int u5), .val (.int u6), .val (.int (Int32.ofNat y0)), .val (.int (Int32.ofNat y1)), .val (.int (Int32.ofNat z1)), .val (.ref b1190), .val (.ref b1196), .val (.ref b1200), .val (.ref t2), .val (.ref t3), .val (.double (FP.l2d (Int64.ofNat z2))), .second, .val (.double (FP.l2d (Int64.ofNat z3))), .second, .val (.int kp), .val (.int (Int32.ofNat zp)), .val (.ref pr), .val (.ref b1216), .val (.int (Int32.ofNat 2)), .val (.int (0 : Int32)), .val (.int (0 : Int32)), .val (.int ((Int32.ofNat y0) - (Int32.ofNat z1))), .unset, .unset, .unset, .unset]) rfl ?_
          show Steps p.tables e below (T1258.setTop (mkF m 250 #[.val (.int u1), .val (.int u2), .val (.int u3), .val (.int u4), .val (.int u5), .val (.int u6), .val (.int (Int32.ofNat y0)), .val (.int (Int32.ofNat y1)), .val (.int (Int32.ofNat z1)), .val (.ref b1190), .val (.ref b1196), .val (.ref b1200), .val (.ref t2), .val (.ref t3), .val (.double (FP.l2d (Int64.ofNat z2))), .second, .val (.double (FP.l2d (Int64.ofNat z3))), .second, .val (.int kp), .val (.int (Int32.ofNat zp)), .val (.ref pr), .val (.ref b1216), .val (.int (Int32.ofNat 2)), .val (.int (0 : Int32)), .val (.int (0 : Int32)), .val (.int ((Int32.ofNat y0) - (Int32.ofNat z1))), .unset, .unset, .unset, .unset] [])) _
          refine XS.iload X1258.here hx rfl (hb hby at_250) rfl ?_
          show Steps p.tables e below (T1258.setTop (mkF m 252 #[.val (.int u1), .val (.int u2), .val (.int u3), .val (.int u4), .val (.int u5), .val (.int u6), .val (.int (Int32.ofNat y0)), .val (.int (Int32.ofNat y1)), .val (.int (Int32.ofNat z1)), .val (.ref b1190), .val (.ref b1196), .val (.ref b1200), .val (.ref t2), .val (.ref t3), .val (.double (FP.l2d (Int64.ofNat z2))), .second, .val (.double (FP.l2d (Int64.ofNat z3))), .second, .val (.int kp), .val (.int (Int32.ofNat zp)), .val (.ref pr), .val (.ref b1216), .val (.int (Int32.ofNat 2)), .val (.int (0 : Int32)), .val (.int (0 : Int32)), .val (.int ((Int32.ofNat y0) - (Int32.ofNat z1))), .unset, .unset, .unset, .unset] [(.int (0 : Int32))])) _
          refine XS.ifYes X1258.here hx rfl (pc0 := 252) (pc' := 260) rfl (hb hby at_252) rfl ((if0 _ _).trans (teq rfl).1) (by decide) (by decide) ?_
          show Steps p.tables e below (T1258.setTop (mkF m 260 #[.val (.int u1), .val (.int u2), .val (.int u3), .val (.int u4), .val (.int u5), .val (.int u6), .val (.int (Int32.ofNat y0)), .val (.int (Int32.ofNat y1)), .val (.int (Int32.ofNat z1)), .val (.ref b1190), .val (.ref b1196), .val (.ref b1200), .val (.ref t2), .val (.ref t3), .val (.double (FP.l2d (Int64.ofNat z2))), .second, .val (.double (FP.l2d (Int64.ofNat z3))), .second, .val (.int kp), .val (.int (Int32.ofNat zp)), .val (.ref pr), .val (.ref b1216), .val (.int (Int32.ofNat 2)), .val (.int (0 : Int32)), .val (.int (0 : Int32)), .val (.int ((Int32.ofNat y0) - (Int32.ofNat z1))), .unset, .unset, .unset, .unset] [])) _
          refine XS.iload X1258.here hx rfl (hb hby at_260) rfl ?_
          show Steps p.tables e below (T1258.setTop (mkF m 262 #[.val (.int u1), .val (.int u2), .val (.int u3), .val (.int u4), .val (.int u5), .val (.int u6), .val (.int (Int32.ofNat y0)), .val (.int (Int32.ofNat y1)), .val (.int (Int32.ofNat z1)), .val (.ref b1190), .val (.ref b1196), .val (.ref b1200), .val (.ref t2), .val (.ref t3), .val (.double (FP.l2d (Int64.ofNat z2))), .second, .val (.double (FP.l2d (Int64.ofNat z3))), .second, .val (.int kp), .val (.int (Int32.ofNat zp)), .val (.ref pr), .val (.ref b1216), .val (.int (Int32.ofNat 2)), .val (.int (0 : Int32)), .val (.int (0 : Int32)), .val (.int ((Int32.ofNat y0) - (Int32.ofNat z1))), .unset, .unset, .unset, .unset] [(.int (Int32.ofNat y1))])) _
          refine XS.iload X1258.here hx rfl (hb hby at_262) rfl ?_
          show Steps p.tables e below (T1258.setTop (mkF m 264 #[.val (.int u1), .val (.int u2), .val (.int u3), .val (.int u4), .val (.int u5), .val (.int u6), .val (.int (Int32.ofNat y0)), .val (.int (Int32.ofNat y1)), .val (.int (Int32.ofNat z1)), .val (.ref b1190), .val (.ref b1196), .val (.ref b1200), .val (.ref t2), .val (.ref t3), .val (.double (FP.l2d (Int64.ofNat z2))), .second, .val (.double (FP.l2d (Int64.ofNat z3))), .second, .val (.int kp), .val (.int (Int32.ofNat zp)), .val (.ref pr), .val (.ref b1216), .val (.int (Int32.ofNat 2)), .val (.int (0 : Int32)), .val (.int (0 : Int32)), .val (.int ((Int32.ofNat y0) - (Int32.ofNat z1))), .unset, .unset, .unset, .unset] [(.int (Int32.ofNat z1)), (.int (Int32.ofNat y1))])) _
          refine XS.isub X1258.here hx rfl (hb hby at_264) rfl ?_
          show Steps p.tables e below (T1258.setTop (mkF m 265 #[.val (.int u1), .val (.int u2), .val (.int u3), .val (.int u4), .val (.int u5), .val (.int u6), .val (.int (Int32.ofNat y0)), .val (.int (Int32.ofNat y1)), .val (.int (Int32.ofNat z1)), .val (.ref b1190), .val (.ref b1196), .val (.ref b1200), .val (.ref t2), .val (.ref t3), .val (.double (FP.l2d (Int64.ofNat z2))), .second, .val (.double (FP.l2d (Int64.ofNat z3))), .second, .val (.int kp), .val (.int (Int32.ofNat zp)), .val (.ref pr), .val (.ref b1216), .val (.int (Int32.ofNat 2)), .val (.int (0 : Int32)), .val (.int (0 : Int32)), .val (.int ((Int32.ofNat y0) - (Int32.ofNat z1))), .unset, .unset, .unset, .unset] [(.int ((Int32.ofNat y1) - (Int32.ofNat z1)))])) _
          refine XS.istore X1258.here hx rfl (hb hby at_265) rfl (l' := #[.val (.int u1), .val (.int u2), .val (.int u3), .val (.int u4), .val (.int u5), .val (.int u6), .val (.int (Int32.ofNat y0)), .val (.int (Int32.ofNat y1)), .val (.int (Int32.ofNat z1)), .val (.ref b1190), .val (.ref b1196), .val (.ref b1200), .val (.ref t2), .val (.ref t3), .val (.double (FP.l2d (Int64.ofNat z2))), .second, .val (.double (FP.l2d (Int64.ofNat z3))), .second, .val (.int kp), .val (.int (Int32.ofNat zp)), .val (.ref pr), .val (.ref b1216), .val (.int (Int32.ofNat 2)), .val (.int (0 : Int32)), .val (.int (0 : Int32)), .val (.int ((Int32.ofNat y0) - (Int32.ofNat z1))), .val (.int ((Int32.ofNat y1) - (Int32.ofNat z1))), .unset, .unset, .unset]) rfl ?_
          show Steps p.tables e below (T1258.setTop (mkF m 267 #[.val (.int u1), .val (.int u2), .val (.int u3), .val (.int u4), .val (.int u5), .val (.int u6), .val (.int (Int32.ofNat y0)), .val (.int (Int32.ofNat y1)), .val (.int (Int32.ofNat z1)), .val (.ref b1190), .val (.ref b1196), .val (.ref b1200), .val (.ref t2), .val (.ref t3), .val (.double (FP.l2d (Int64.ofNat z2))), .second, .val (.double (FP.l2d (Int64.ofNat z3))), .second, .val (.int kp), .val (.int (Int32.ofNat zp)), .val (.ref pr), .val (.ref b1216), .val (.int (Int32.ofNat 2)), .val (.int (0 : Int32)), .val (.int (0 : Int32)), .val (.int ((Int32.ofNat y0) - (Int32.ofNat z1))), .val (.int ((Int32.ofNat y1) - (Int32.ofNat z1))), .unset, .unset, .unset] [])) _
          exact k)
        exact ⟨_, _, _, _, (by rw [hA0, if_pos H0]; rfl), (by rw [hA1, if_pos H1]; rfl), (by rw [hR0, if_pos H0]; exact own_subI y0 hy0 z1 H0), (by rw [hR1, if_pos H1]; exact own_subI y1 hy1 z1 H1), P1262⟩
      · have P1263 : ∀ t, Steps p.tables e below (T1258.setTop (mkF m 267 #[.val (.int u1), .val (.int u2), .val (.int u3), .val (.int u4), .val (.int u5), .val (.int u6), .val (.int (Int32.ofNat y0)), .val (.int (Int32.ofNat y1)), .val (.int (Int32.ofNat z1)), .val (.ref b1190), .val (.ref b1196), .val (.ref b1200), .val (.ref t2), .val (.ref t3), .val (.double (FP.l2d (Int64.ofNat z2))), .second, .val (.double (FP.l2d (Int64.ofNat z3))), .second, .val (.int kp), .val (.int (Int32.ofNat zp)), .val (.ref pr), .val (.ref b1216), .val (.int (Int32.ofNat 2)), .val (.int (0 : Int32)), .val (.int (1 : Int32)), .val (.int ((Int32.ofNat y0) - (Int32.ofNat z1))), .val (.int (Int32.ofNat y1)), .unset, .unset, .unset] [])) t → Steps p.tables e below (s₁.setTop (entryFrame m #[(.int u1), (.int u2), (.int u3), (.int u4), (.int u5), (.int u6)] maxLocals)) t := fun t k => P1260 t (by
          refine XS.iload X1258.here hx rfl (hb hby at_205) rfl ?_
          show Steps p.tables e below (T1258.setTop (mkF m 207 #[.val (.int u1), .val (.int u2), .val (.int u3), .val (.int u4), .val (.int u5), .val (.int u6), .val (.int (Int32.ofNat y0)), .val (.int (Int32.ofNat y1)), .val (.int (Int32.ofNat z1)), .val (.ref b1190), .val (.ref b1196), .val (.ref b1200), .val (.ref t2), .val (.ref t3), .val (.double (FP.l2d (Int64.ofNat z2))), .second, .val (.double (FP.l2d (Int64.ofNat z3))), .second, .val (.int kp), .val (.int (Int32.ofNat zp)), .val (.ref pr), .val (.ref b1216), .val (.int (Int32.ofNat 2)), .unset, .unset, .unset, .unset, .unset, .unset, .unset] [(.int (Int32.ofNat z1))])) _
          refine XS.iload X1258.here hx rfl (hb hby at_207) rfl ?_
          show Steps p.tables e below (T1258.setTop (mkF m 209 #[.val (.int u1), .val (.int u2), .val (.int u3), .val (.int u4), .val (.int u5), .val (.int u6), .val (.int (Int32.ofNat y0)), .val (.int (Int32.ofNat y1)), .val (.int (Int32.ofNat z1)), .val (.ref b1190), .val (.ref b1196), .val (.ref b1200), .val (.ref t2), .val (.ref t3), .val (.double (FP.l2d (Int64.ofNat z2))), .second, .val (.double (FP.l2d (Int64.ofNat z3))), .second, .val (.int kp), .val (.int (Int32.ofNat zp)), .val (.ref pr), .val (.ref b1216), .val (.int (Int32.ofNat 2)), .unset, .unset, .unset, .unset, .unset, .unset, .unset] [(.int (Int32.ofNat y0)), (.int (Int32.ofNat z1))])) _
          refine XS.icmpYes X1258.here hx rfl (pc0 := 209) (pc' := 216) rfl (hb hby at_209) rfl (flt (fun q => absurd ((own_ltI y0 hy0 z1 hz1).mp q) (by omega))).2.2.2 (by decide) (by decide) ?_
          show Steps p.tables e below (T1258.setTop (mkF m 216 #[.val (.int u1), .val (.int u2), .val (.int u3), .val (.int u4), .val (.int u5), .val (.int u6), .val (.int (Int32.ofNat y0)), .val (.int (Int32.ofNat y1)), .val (.int (Int32.ofNat z1)), .val (.ref b1190), .val (.ref b1196), .val (.ref b1200), .val (.ref t2), .val (.ref t3), .val (.double (FP.l2d (Int64.ofNat z2))), .second, .val (.double (FP.l2d (Int64.ofNat z3))), .second, .val (.int kp), .val (.int (Int32.ofNat zp)), .val (.ref pr), .val (.ref b1216), .val (.int (Int32.ofNat 2)), .unset, .unset, .unset, .unset, .unset, .unset, .unset] [])) _
          refine XS.iconst X1258.here hx rfl (hb hby at_216) ?_
          show Steps p.tables e below (T1258.setTop (mkF m 217 #[.val (.int u1), .val (.int u2), .val (.int u3), .val (.int u4), .val (.int u5), .val (.int u6), .val (.int (Int32.ofNat y0)), .val (.int (Int32.ofNat y1)), .val (.int (Int32.ofNat z1)), .val (.ref b1190), .val (.ref b1196), .val (.ref b1200), .val (.ref t2), .val (.ref t3), .val (.double (FP.l2d (Int64.ofNat z2))), .second, .val (.double (FP.l2d (Int64.ofNat z3))), .second, .val (.int kp), .val (.int (Int32.ofNat zp)), .val (.ref pr), .val (.ref b1216), .val (.int (Int32.ofNat 2)), .unset, .unset, .unset, .unset, .unset, .unset, .unset] [(.int (0 : Int32))])) _
          refine XS.istore X1258.here hx rfl (hb hby at_217) rfl (l' := #[.val (.int u1), .val (.int u2), .val (.int u3), .val (.int u4), .val (.int u5), .val (.int u6), .val (.int (Int32.ofNat y0)), .val (.int (Int32.ofNat y1)), .val (.int (Int32.ofNat z1)), .val (.ref b1190), .val (.ref b1196), .val (.ref b1200), .val (.ref t2), .val (.ref t3), .val (.double (FP.l2d (Int64.ofNat z2))), .second, .val (.double (FP.l2d (Int64.ofNat z3))), .second, .val (.int kp), .val (.int (Int32.ofNat zp)), .val (.ref pr), .val (.ref b1216), .val (.int (Int32.ofNat 2)), .val (.int (0 : Int32)), .unset, .unset, .unset, .unset, .unset, .unset]) rfl ?_
          show Steps p.tables e below (T1258.setTop (mkF m 219 #[.val (.int u1), .val (.int u2), .val (.int u3), .val (.int u4), .val (.int u5), .val (.int u6), .val (.int (Int32.ofNat y0)), .val (.int (Int32.ofNat y1)), .val (.int (Int32.ofNat z1)), .val (.ref b1190), .val (.ref b1196), .val (.ref b1200), .val (.ref t2), .val (.ref t3), .val (.double (FP.l2d (Int64.ofNat z2))), .second, .val (.double (FP.l2d (Int64.ofNat z3))), .second, .val (.int kp), .val (.int (Int32.ofNat zp)), .val (.ref pr), .val (.ref b1216), .val (.int (Int32.ofNat 2)), .val (.int (0 : Int32)), .unset, .unset, .unset, .unset, .unset, .unset] [])) _
          refine XS.iload X1258.here hx rfl (hb hby at_219) rfl ?_
          show Steps p.tables e below (T1258.setTop (mkF m 221 #[.val (.int u1), .val (.int u2), .val (.int u3), .val (.int u4), .val (.int u5), .val (.int u6), .val (.int (Int32.ofNat y0)), .val (.int (Int32.ofNat y1)), .val (.int (Int32.ofNat z1)), .val (.ref b1190), .val (.ref b1196), .val (.ref b1200), .val (.ref t2), .val (.ref t3), .val (.double (FP.l2d (Int64.ofNat z2))), .second, .val (.double (FP.l2d (Int64.ofNat z3))), .second, .val (.int kp), .val (.int (Int32.ofNat zp)), .val (.ref pr), .val (.ref b1216), .val (.int (Int32.ofNat 2)), .val (.int (0 : Int32)), .unset, .unset, .unset, .unset, .unset, .unset] [(.int (Int32.ofNat z1))])) _
          refine XS.iload X1258.here hx rfl (hb hby at_221) rfl ?_
          show Steps p.tables e below (T1258.setTop (mkF m 223 #[.val (.int u1), .val (.int u2), .val (.int u3), .val (.int u4), .val (.int u5), .val (.int u6), .val (.int (Int32.ofNat y0)), .val (.int (Int32.ofNat y1)), .val (.int (Int32.ofNat z1)), .val (.ref b1190), .val (.ref b1196), .val (.ref b1200), .val (.ref t2), .val (.ref t3), .val (.double (FP.l2d (Int64.ofNat z2))), .second, .val (.double (FP.l2d (Int64.ofNat z3))), .second, .val (.int kp), .val (.int (Int32.ofNat zp)), .val (.ref pr), .val (.ref b1216), .val (.int (Int32.ofNat 2)), .val (.int (0 : Int32)), .unset, .unset, .unset, .unset, .unset, .unset] [(.int (Int32.ofNat y1)), (.int (Int32.ofNat z1))])) _
          refine XS.icmpNo X1258.here hx rfl (hb hby at_223) rfl (tlt ((own_ltI y1 hy1 z1 hz1).mpr (by omega))).2.2.2 ?_
          show Steps p.tables e below (T1258.setTop (mkF m 226 #[.val (.int u1), .val (.int u2), .val (.int u3), .val (.int u4), .val (.int u5), .val (.int u6), .val (.int (Int32.ofNat y0)), .val (.int (Int32.ofNat y1)), .val (.int (Int32.ofNat z1)), .val (.ref b1190), .val (.ref b1196), .val (.ref b1200), .val (.ref t2), .val (.ref t3), .val (.double (FP.l2d (Int64.ofNat z2))), .second, .val (.double (FP.l2d (Int64.ofNat z3))), .second, .val (.int kp), .val (.int (Int32.ofNat zp)), .val (.ref pr), .val (.ref b1216), .val (.int (Int32.ofNat 2)), .val (.int (0 : Int32)), .unset, .unset, .unset, .unset, .unset, .unset] [])) _
          refine XS.iconst X1258.here hx rfl (hb hby at_226) ?_
          show Steps p.tables e below (T1258.setTop (mkF m 227 #[.val (.int u1), .val (.int u2), .val (.int u3), .val (.int u4), .val (.int u5), .val (.int u6), .val (.int (Int32.ofNat y0)), .val (.int (Int32.ofNat y1)), .val (.int (Int32.ofNat z1)), .val (.ref b1190), .val (.ref b1196), .val (.ref b1200), .val (.ref t2), .val (.ref t3), .val (.double (FP.l2d (Int64.ofNat z2))), .second, .val (.double (FP.l2d (Int64.ofNat z3))), .second, .val (.int kp), .val (.int (Int32.ofNat zp)), .val (.ref pr), .val (.ref b1216), .val (.int (Int32.ofNat 2)), .val (.int (0 : Int32)), .unset, .unset, .unset, .unset, .unset, .unset] [(.int (1 : Int32))])) _
          refine XS.goto X1258.here hx rfl (pc0 := 227) (pc' := 231) rfl (hb hby at_227) (by decide) (by decide) ?_
          show Steps p.tables e below (T1258.setTop (mkF m 231 #[.val (.int u1), .val (.int u2), .val (.int u3), .val (.int u4), .val (.int u5), .val (.int u6), .val (.int (Int32.ofNat y0)), .val (.int (Int32.ofNat y1)), .val (.int (Int32.ofNat z1)), .val (.ref b1190), .val (.ref b1196), .val (.ref b1200), .val (.ref t2), .val (.ref t3), .val (.double (FP.l2d (Int64.ofNat z2))), .second, .val (.double (FP.l2d (Int64.ofNat z3))), .second, .val (.int kp), .val (.int (Int32.ofNat zp)), .val (.ref pr), .val (.ref b1216), .val (.int (Int32.ofNat 2)), .val (.int (0 : Int32)), .unset, .unset, .unset, .unset, .unset, .unset] [(.int (1 : Int32))])) _
          refine XS.istore X1258.here hx rfl (hb hby at_231) rfl (l' := #[.val (.int u1), .val (.int u2), .val (.int u3), .val (.int u4), .val (.int u5), .val (.int u6), .val (.int (Int32.ofNat y0)), .val (.int (Int32.ofNat y1)), .val (.int (Int32.ofNat z1)), .val (.ref b1190), .val (.ref b1196), .val (.ref b1200), .val (.ref t2), .val (.ref t3), .val (.double (FP.l2d (Int64.ofNat z2))), .second, .val (.double (FP.l2d (Int64.ofNat z3))), .second, .val (.int kp), .val (.int (Int32.ofNat zp)), .val (.ref pr), .val (.ref b1216), .val (.int (Int32.ofNat 2)), .val (.int (0 : Int32)), .val (.int (1 : Int32)), .unset, .unset, .unset, .unset, .unset]) rfl ?_
          show Steps p.tables e below (T1258.setTop (mkF m 233 #[.val (.int u1), .val (.int u2), .val (.int u3), .val (.int u4), .val (.int u5), .val (.int u6), .val (.int (Int32.ofNat y0)), .val (.int (Int32.ofNat y1)), .val (.int (Int32.ofNat z1)), .val (.ref b1190), .val (.ref b1196), .val (.ref b1200), .val (.ref t2), .val (.ref t3), .val (.double (FP.l2d (Int64.ofNat z2))), .second, .val (.double (FP.l2d (Int64.ofNat z3))), .second, .val (.int kp), .val (.int (Int32.ofNat zp)), .val (.ref pr), .val (.ref b1216), .val (.int (Int32.ofNat 2)), .val (.int (0 : Int32)), .val (.int (1 : Int32)), .unset, .unset, .unset, .unset, .unset] [])) _
          refine XS.iload X1258.here hx rfl (hb hby at_233) rfl ?_
          show Steps p.tables e below (T1258.setTop (mkF m 235 #[.val (.int u1), .val (.int u2), .val (.int u3), .val (.int u4), .val (.int u5), .val (.int u6), .val (.int (Int32.ofNat y0)), .val (.int (Int32.ofNat y1)), .val (.int (Int32.ofNat z1)), .val (.ref b1190), .val (.ref b1196), .val (.ref b1200), .val (.ref t2), .val (.ref t3), .val (.double (FP.l2d (Int64.ofNat z2))), .second, .val (.double (FP.l2d (Int64.ofNat z3))), .second, .val (.int kp), .val (.int (Int32.ofNat zp)), .val (.ref pr), .val (.ref b1216), .val (.int (Int32.ofNat 2)), .val (.int (0 : Int32)), .val (.int (1 : Int32)), .unset, .unset, .unset, .unset, .unset] [(.int (0 : Int32))])) _
          refine XS.ifYes X1258.here hx rfl (pc0 := 235) (pc' := 243) rfl (hb hby at_235) rfl ((if0 _ _).trans (teq rfl).1) (by decide) (by decide) ?_
          show Steps p.tables e below (T1258.setTop (mkF m 243 #[.val (.int u1), .val (.int u2), .val (.int u3), .val (.int u4), .val (.int u5), .val (.int u6), .val (.int (Int32.ofNat y0)), .val (.int (Int32.ofNat y1)), .val (.int (Int32.ofNat z1)), .val (.ref b1190), .val (.ref b1196), .val (.ref b1200), .val (.ref t2), .val (.ref t3), .val (.double (FP.l2d (Int64.ofNat z2))), .second, .val (.double (FP.l2d (Int64.ofNat z3))), .second, .val (.int kp), .val (.int (Int32.ofNat zp)), .val (.ref pr), .val (.ref b1216), .val (.int (Int32.ofNat 2)), .val (.int (0 : Int32)), .val (.int (1 : Int32)), .unset, .unset, .unset, .unset, .unset] [])) _
          refine XS.iload X1258.here hx rfl (hb hby at_243) rfl ?_
          show Steps p.tables e below (T1258.setTop (mkF m 245 #[.val (.int u1), .val (.int u2), .val (.int u3), .val (.int u4), .val (.int u5), .val (.int u6), .val (.int (Int32.ofNat y0)), .val (.int (Int32.ofNat y1)), .val (.int (Int32.ofNat z1)), .val (.ref b1190), .val (.ref b1196), .val (.ref b1200), .val (.ref t2), .val (.ref t3), .val (.double (FP.l2d (Int64.ofNat z2))), .second, .val (.double (FP.l2d (Int64.ofNat z3))), .second, .val (.int kp), .val (.int (Int32.ofNat zp)), .val (.ref pr), .val (.ref b1216), .val (.int (Int32.ofNat 2)), .val (.int (0 : Int32)), .val (.int (1 : Int32)), .unset, .unset, .unset, .unset, .unset] [(.int (Int32.ofNat y0))])) _
          refine XS.iload X1258.here hx rfl (hb hby at_245) rfl ?_
          show Steps p.tables e below (T1258.setTop (mkF m 247 #[.val (.int u1), .val (.int u2), .val (.int u3), .val (.int u4), .val (.int u5), .val (.int u6), .val (.int (Int32.ofNat y0)), .val (.int (Int32.ofNat y1)), .val (.int (Int32.ofNat z1)), .val (.ref b1190), .val (.ref b1196), .val (.ref b1200), .val (.ref t2), .val (.ref t3), .val (.double (FP.l2d (Int64.ofNat z2))), .second, .val (.double (FP.l2d (Int64.ofNat z3))), .second, .val (.int kp), .val (.int (Int32.ofNat zp)), .val (.ref pr), .val (.ref b1216), .val (.int (Int32.ofNat 2)), .val (.int (0 : Int32)), .val (.int (1 : Int32)), .unset, .unset, .unset, .unset, .unset] [(.int (Int32.ofNat z1)), (.int (Int32.ofNat y0))])) _
          refine XS.isub X1258.here hx rfl (hb hby at_247) rfl ?_
          show Steps p.tables e below (T1258.setTop (mkF m 248 #[.val (.int u1), .val (.int u2), .val (.int u3), .val (.int u4), .val (.int u5), .val (.int u6), .val (.int (Int32.ofNat y0)), .val (.int (Int32.ofNat y1)), .val (.int (Int32.ofNat z1)), .val (.ref b1190), .val (.ref b1196), .val (.ref b1200), .val (.ref t2), .val (.ref t3), .val (.double (FP.l2d (Int64.ofNat z2))), .second, .val (.double (FP.l2d (Int64.ofNat z3))), .second, .val (.int kp), .val (.int (Int32.ofNat zp)), .val (.ref pr), .val (.ref b1216), .val (.int (Int32.ofNat 2)), .val (.int (0 : Int32)), .val (.int (1 : Int32)), .unset, .unset, .unset, .unset, .unset] [(.int ((Int32.ofNat y0) - (Int32.ofNat z1)))])) _
          refine XS.istore X1258.here hx rfl (hb hby at_248) rfl (l' := #[.val (.int u1), .val (.int u2), .val (.int u3), .val (.int u4), .val (.int u5), .val (.int u6), .val (.int (Int32.ofNat y0)), .val (.int (Int32.ofNat y1)), .val (.int (Int32.ofNat z1)), .val (.ref b1190), .val (.ref b1196), .val (.ref b1200), .val (.ref t2), .val (.ref t3), .val (.double (FP.l2d (Int64.ofNat z2))), .second, .val (.double (FP.l2d (Int64.ofNat z3))), .second, .val (.int kp), .val (.int (Int32.ofNat zp)), .val (.ref pr), .val (.ref b1216), .val (.int (Int32.ofNat 2)), .val (.int (0 : Int32)), .val (.int (1 : Int32)), .val (.int ((Int32.ofNat y0) - (Int32.ofNat z1))), .unset, .unset, .unset, .unset]) rfl ?_
          show Steps p.tables e below (T1258.setTop (mkF m 250 #[.val (.int u1), .val (.int u2), .val (.int u3), .val (.int u4), .val (.int u5), .val (.int u6), .val (.int (Int32.ofNat y0)), .val (.int (Int32.ofNat y1)), .val (.int (Int32.ofNat z1)), .val (.ref b1190), .val (.ref b1196), .val (.ref b1200), .val (.ref t2), .val (.ref t3), .val (.double (FP.l2d (Int64.ofNat z2))), .second, .val (.double (FP.l2d (Int64.ofNat z3))), .second, .val (.int kp), .val (.int (Int32.ofNat zp)), .val (.ref pr), .val (.ref b1216), .val (.int (Int32.ofNat 2)), .val (.int (0 : Int32)), .val (.int (1 : Int32)), .val (.int ((Int32.ofNat y0) - (Int32.ofNat z1))), .unset, .unset, .unset, .unset] [])) _
          refine XS.iload X1258.here hx rfl (hb hby at_250) rfl ?_
          show Steps p.tables e below (T1258.setTop (mkF m 252 #[.val (.int u1), .val (.int u2), .val (.int u3), .val (.int u4), .val (.int u5), .val (.int u6), .val (.int (Int32.ofNat y0)), .val (.int (Int32.ofNat y1)), .val (.int (Int32.ofNat z1)), .val (.ref b1190), .val (.ref b1196), .val (.ref b1200), .val (.ref t2), .val (.ref t3), .val (.double (FP.l2d (Int64.ofNat z2))), .second, .val (.double (FP.l2d (Int64.ofNat z3))), .second, .val (.int kp), .val (.int (Int32.ofNat zp)), .val (.ref pr), .val (.ref b1216), .val (.int (Int32.ofNat 2)), .val (.int (0 : Int32)), .val (.int (1 : Int32)), .val (.int ((Int32.ofNat y0) - (Int32.ofNat z1))), .unset, .unset, .unset, .unset] [(.int (1 : Int32))])) _
          refine XS.ifNo X1258.here hx rfl (hb hby at_252) rfl ((if0 _ _).trans (feq (by decide)).1) ?_
          show Steps p.tables e below (T1258.setTop (mkF m 255 #[.val (.int u1), .val (.int u2), .val (.int u3), .val (.int u4), .val (.int u5), .val (.int u6), .val (.int (Int32.ofNat y0)), .val (.int (Int32.ofNat y1)), .val (.int (Int32.ofNat z1)), .val (.ref b1190), .val (.ref b1196), .val (.ref b1200), .val (.ref t2), .val (.ref t3), .val (.double (FP.l2d (Int64.ofNat z2))), .second, .val (.double (FP.l2d (Int64.ofNat z3))), .second, .val (.int kp), .val (.int (Int32.ofNat zp)), .val (.ref pr), .val (.ref b1216), .val (.int (Int32.ofNat 2)), .val (.int (0 : Int32)), .val (.int (1 : Int32)), .val (.int ((Int32.ofNat y0) - (Int32.ofNat z1))), .unset, .unset, .unset, .unset] [])) _
          refine XS.iload X1258.here hx rfl (hb hby at_255) rfl ?_
          show Steps p.tables e below (T1258.setTop (mkF m 257 #[.val (.int u1), .val (.int u2), .val (.int u3), .val (.int u4), .val (.int u5), .val (.int u6), .val (.int (Int32.ofNat y0)), .val (.int (Int32.ofNat y1)), .val (.int (Int32.ofNat z1)), .val (.ref b1190), .val (.ref b1196), .val (.ref b1200), .val (.ref t2), .val (.ref t3), .val (.double (FP.l2d (Int64.ofNat z2))), .second, .val (.double (FP.l2d (Int64.ofNat z3))), .second, .val (.int kp), .val (.int (Int32.ofNat zp)), .val (.ref pr), .val (.ref b1216), .val (.int (Int32.ofNat 2)), .val (.int (0 : Int32)), .val (.int (1 : Int32)), .val (.int ((Int32.ofNat y0) - (Int32.ofNat z1))), .unset, .unset, .unset, .unset] [(.int (Int32.ofNat y1))])) _
          refine XS.goto X1258.here hx rfl (pc0 := 257) (pc' := 265) rfl (hb hby at_257) (by decide) (by decide) ?_
          show Steps p.tables e below (T1258.setTop (mkF m 265 #[.val (.int u1), .val (.int u2), .val (.int u3), .val (.int u4), .val (.int u5), .val (.int u6), .val (.int (Int32.ofNat y0)), .val (.int (Int32.ofNat y1)), .val (.int (Int32.ofNat z1)), .val (.ref b1190), .val (.ref b1196), .val (.ref b1200), .val (.ref t2), .val (.ref t3), .val (.double (FP.l2d (Int64.ofNat z2))), .second, .val (.double (FP.l2d (Int64.ofNat z3))), .second, .val (.int kp), .val (.int (Int32.ofNat zp)), .val (.ref pr), .val (.ref b1216), .val (.int (Int32.ofNat 2)), .val (.int (0 : Int32)), .val (.int (1 : Int32)), .val (.int ((Int32.ofNat y0) - (Int32.ofNat z1))), .unset, .unset, .unset, .unset] [(.int (Int32.ofNat y1))])) _
          refine XS.istore X1258.here hx rfl (hb hby at_265) rfl (l' := #[.val (.int u1), .val (.int u2), .val (.int u3), .val (.int u4), .val (.int u5), .val (.int u6), .val (.int (Int32.ofNat y0)), .val (.int (Int32.ofNat y1)), .val (.int (Int32.ofNat z1)), .val (.ref b1190), .val (.ref b1196), .val (.ref b1200), .val (.ref t2), .val (.ref t3), .val (.double (FP.l2d (Int64.ofNat z2))), .second, .val (.double (FP.l2d (Int64.ofNat z3))), .second, .val (.int kp), .val (.int (Int32.ofNat zp)), .val (.ref pr), .val (.ref b1216), .val (.int (Int32.ofNat 2)), .val (.int (0 : Int32)), .val (.int (1 : Int32)), .val (.int ((Int32.ofNat y0) - (Int32.ofNat z1))), .val (.int (Int32.ofNat y1)), .unset, .unset, .unset]) rfl ?_
          show Steps p.tables e below (T1258.setTop (mkF m 267 #[.val (.int u1), .val (.int u2), .val (.int u3), .val (.int u4), .val (.int u5), .val (.int u6), .val (.int (Int32.ofNat y0)), .val (.int (Int32.ofNat y1)), .val (.int (Int32.ofNat z1)), .val (.ref b1190), .val (.ref b1196), .val (.ref b1200), .val (.ref t2), .val (.ref t3), .val (.double (FP.l2d (Int64.ofNat z2))), .second, .val (.double (FP.l2d (Int64.ofNat z3))), .second, .val (.int kp), .val (.int (Int32.ofNat zp)), .val (.ref pr), .val (.ref b1216), .val (.int (Int32.ofNat 2)), .val (.int (0 : Int32)), .val (.int (1 : Int32)), .val (.int ((Int32.ofNat y0) - (Int32.ofNat z1))), .val (.int (Int32.ofNat y1)), .unset, .unset, .unset] [])) _
          exact k)
        exact ⟨_, _, _, _, (by rw [hA0, if_pos H0]; rfl), (by rw [hA1, if_neg H1]; rfl), (by rw [hR0, if_pos H0]; exact own_subI y0 hy0 z1 H0), (by rw [hR1, if_neg H1]), P1263⟩
    · by_cases H1 : z1 ≤ y1
      · have P1264 : ∀ t, Steps p.tables e below (T1258.setTop (mkF m 267 #[.val (.int u1), .val (.int u2), .val (.int u3), .val (.int u4), .val (.int u5), .val (.int u6), .val (.int (Int32.ofNat y0)), .val (.int (Int32.ofNat y1)), .val (.int (Int32.ofNat z1)), .val (.ref b1190), .val (.ref b1196), .val (.ref b1200), .val (.ref t2), .val (.ref t3), .val (.double (FP.l2d (Int64.ofNat z2))), .second, .val (.double (FP.l2d (Int64.ofNat z3))), .second, .val (.int kp), .val (.int (Int32.ofNat zp)), .val (.ref pr), .val (.ref b1216), .val (.int (Int32.ofNat 2)), .val (.int (1 : Int32)), .val (.int (0 : Int32)), .val (.int (Int32.ofNat y0)), .val (.int ((Int32.ofNat y1) - (Int32.ofNat z1))), .unset, .unset, .unset] [])) t → Steps p.tables e below (s₁.setTop (entryFrame m #[(.int u1), (.int u2), (.int u3), (.int u4), (.int u5), (.int u6)] maxLocals)) t := fun t k => P1260 t (by
          refine XS.iload X1258.here hx rfl (hb hby at_205) rfl ?_
          show Steps p.tables e below (T1258.setTop (mkF m 207 #[.val (.int u1), .val (.int u2), .val (.int u3), .val (.int u4), .val (.int u5), .val (.int u6), .val (.int (Int32.ofNat y0)), .val (.int (Int32.ofNat y1)), .val (.int (Int32.ofNat z1)), .val (.ref b1190), .val (.ref b1196), .val (.ref b1200), .val (.ref t2), .val (.ref t3), .val (.double (FP.l2d (Int64.ofNat z2))), .second, .val (.double (FP.l2d (Int64.ofNat z3))), .second, .val (.int kp), .val (.int (Int32.ofNat zp)), .val (.ref pr), .val (.ref b1216), .val (.int (Int32.ofNat 2)), .unset, .unset, .unset, .unset, .unset, .unset, .unset] [(.int (Int32.ofNat z1))])) _
          refine XS.iload X1258.here hx rfl (hb hby at_207) rfl ?_
          show Steps p.tables e below (T1258.setTop (mkF m 209 #[.val (.int u1), .val (.int u2), .val (.int u3), .val (.int u4), .val (.int u5), .val (.int u6), .val (.int (Int32.ofNat y0)), .val (.int (Int32.ofNat y1)), .val (.int (Int32.ofNat z1)), .val (.ref b1190), .val (.ref b1196), .val (.ref b1200), .val (.ref t2), .val (.ref t3), .val (.double (FP.l2d (Int64.ofNat z2))), .second, .val (.double (FP.l2d (Int64.ofNat z3))), .second, .val (.int kp), .val (.int (Int32.ofNat zp)), .val (.ref pr), .val (.ref b1216), .val (.int (Int32.ofNat 2)), .unset, .unset, .unset, .unset, .unset, .unset, .unset] [(.int (Int32.ofNat y0)), (.int (Int32.ofNat z1))])) _
          refine XS.icmpNo X1258.here hx rfl (hb hby at_209) rfl (tlt ((own_ltI y0 hy0 z1 hz1).mpr (by omega))).2.2.2 ?_
          show Steps p.tables e below (T1258.setTop (mkF m 212 #[.val (.int u1), .val (.int u2), .val (.int u3), .val (.int u4), .val (.int u5), .val (.int u6), .val (.int (Int32.ofNat y0)), .val (.int (Int32.ofNat y1)), .val (.int (Int32.ofNat z1)), .val (.ref b1190), .val (.ref b1196), .val (.ref b1200), .val (.ref t2), .val (.ref t3), .val (.double (FP.l2d (Int64.ofNat z2))), .second, .val (.double (FP.l2d (Int64.ofNat z3))), .second, .val (.int kp), .val (.int (Int32.ofNat zp)), .val (.ref pr), .val (.ref b1216), .val (.int (Int32.ofNat 2)), .unset, .unset, .unset, .unset, .unset, .unset, .unset] [])) _
          refine XS.iconst X1258.here hx rfl (hb hby at_212) ?_
          show Steps p.tables e below (T1258.setTop (mkF m 213 #[.val (.int u1), .val (.int u2), .val (.int u3), .val (.int u4), .val (.int u5), .val (.int u6), .val (.int (Int32.ofNat y0)), .val (.int (Int32.ofNat y1)), .val (.int (Int32.ofNat z1)), .val (.ref b1190), .val (.ref b1196), .val (.ref b1200), .val (.ref t2), .val (.ref t3), .val (.double (FP.l2d (Int64.ofNat z2))), .second, .val (.double (FP.l2d (Int64.ofNat z3))), .second, .val (.int kp), .val (.int (Int32.ofNat zp)), .val (.ref pr), .val (.ref b1216), .val (.int (Int32.ofNat 2)), .unset, .unset, .unset, .unset, .unset, .unset, .unset] [(.int (1 : Int32))])) _
          refine XS.goto X1258.here hx rfl (pc0 := 213) (pc' := 217) rfl (hb hby at_213) (by decide) (by decide) ?_
          show Steps p.tables e below (T1258.setTop (mkF m 217 #[.val (.int u1), .val (.int u2), .val (.int u3), .val (.int u4), .val (.int u5), .val (.int u6), .val (.int (Int32.ofNat y0)), .val (.int (Int32.ofNat y1)), .val (.int (Int32.ofNat z1)), .val (.ref b1190), .val (.ref b1196), .val (.ref b1200), .val (.ref t2), .val (.ref t3), .val (.double (FP.l2d (Int64.ofNat z2))), .second, .val (.double (FP.l2d (Int64.ofNat z3))), .second, .val (.int kp), .val (.int (Int32.ofNat zp)), .val (.ref pr), .val (.ref b1216), .val (.int (Int32.ofNat 2)), .unset, .unset, .unset, .unset, .unset, .unset, .unset] [(.int (1 : Int32))])) _
          refine XS.istore X1258.here hx rfl (hb hby at_217) rfl (l' := #[.val (.int u1), .val (.int u2), .val (.int u3), .val (.int u4), .val (.int u5), .val (.int u6), .val (.int (Int32.ofNat y0)), .val (.int (Int32.ofNat y1)), .val (.int (Int32.ofNat z1)), .val (.ref b1190), .val (.ref b1196), .val (.ref b1200), .val (.ref t2), .val (.ref t3), .val (.double (FP.l2d (Int64.ofNat z2))), .second, .val (.double (FP.l2d (Int64.ofNat z3))), .second, .val (.int kp), .val (.int (Int32.ofNat zp)), .val (.ref pr), .val (.ref b1216), .val (.int (Int32.ofNat 2)), .val (.int (1 : Int32)), .unset, .unset, .unset, .unset, .unset, .unset]) rfl ?_
          show Steps p.tables e below (T1258.setTop (mkF m 219 #[.val (.int u1), .val (.int u2), .val (.int u3), .val (.int u4), .val (.int u5), .val (.int u6), .val (.int (Int32.ofNat y0)), .val (.int (Int32.ofNat y1)), .val (.int (Int32.ofNat z1)), .val (.ref b1190), .val (.ref b1196), .val (.ref b1200), .val (.ref t2), .val (.ref t3), .val (.double (FP.l2d (Int64.ofNat z2))), .second, .val (.double (FP.l2d (Int64.ofNat z3))), .second, .val (.int kp), .val (.int (Int32.ofNat zp)), .val (.ref pr), .val (.ref b1216), .val (.int (Int32.ofNat 2)), .val (.int (1 : Int32)), .unset, .unset, .unset, .unset, .unset, .unset] [])) _
          refine XS.iload X1258.here hx rfl (hb hby at_219) rfl ?_
          show Steps p.tables e below (T1258.setTop (mkF m 221 #[.val (.int u1), .val (.int u2), .val (.int u3), .val (.int u4), .val (.int u5), .val (.int u6), .val (.int (Int32.ofNat y0)), .val (.int (Int32.ofNat y1)), .val (.int (Int32.ofNat z1)), .val (.ref b1190), .val (.ref b1196), .val (.ref b1200), .val (.ref t2), .val (.ref t3), .val (.double (FP.l2d (Int64.ofNat z2))), .second, .val (.double (FP.l2d (Int64.ofNat z3))), .second, .val (.int kp), .val (.int (Int32.ofNat zp)), .val (.ref pr), .val (.ref b1216), .val (.int (Int32.ofNat 2)), .val (.int (1 : Int32)), .unset, .unset, .unset, .unset, .unset, .unset] [(.int (Int32.ofNat z1))])) _
          refine XS.iload X1258.here hx rfl (hb hby at_221) rfl ?_
          show Steps p.tables e below (T1258.setTop (mkF m 223 #[.val (.int u1), .val (.int u2), .val (.int u3), .val (.int u4), .val (.int u5), .val (.int u6), .val (.int (Int32.ofNat y0)), .val (.int (Int32.ofNat y1)), .val (.int (Int32.ofNat z1)), .val (.ref b1190), .val (.ref b1196), .val (.ref b1200), .val (.ref t2), .val (.ref t3), .val (.double (FP.l2d (Int64.ofNat z2))), .second, .val (.double (FP.l2d (Int64.ofNat z3))), .second, .val (.int kp), .val (.int (Int32.ofNat zp)), .val (.ref pr), .val (.ref b1216), .val (.int (Int32.ofNat 2)), .val (.int (1 : Int32)), .unset, .unset, .unset, .unset, .unset, .unset] [(.int (Int32.ofNat y1)), (.int (Int32.ofNat z1))])) _
          refine XS.icmpYes X1258.here hx rfl (pc0 := 223) (pc' := 230) rfl (hb hby at_223) rfl (flt (fun q => absurd ((own_ltI y1 hy1 z1 hz1).mp q) (by omega))).2.2.2 (by decide) (by decide) ?_
          show Steps p.tables e below (T1258.setTop (mkF m 230 #[.val (.int u1), .val (.int u2), .val (.int u3), .val (.int u4), .val (.int u5), .val (.int u6), .val (.int (Int32.ofNat y0)), .val (.int (Int32.ofNat y1)), .val (.int (Int32.ofNat z1)), .val (.ref b1190), .val (.ref b1196), .val (.ref b1200), .val (.ref t2), .val (.ref t3), .val (.double (FP.l2d (Int64.ofNat z2))), .second, .val (.double (FP.l2d (Int64.ofNat z3))), .second, .val (.int kp), .val (.int (Int32.ofNat zp)), .val (.ref pr), .val (.ref b1216), .val (.int (Int32.ofNat 2)), .val (.int (1 : Int32)), .unset, .unset, .unset, .unset, .unset, .unset] [])) _
          refine XS.iconst X1258.here hx rfl (hb hby at_230) ?_
          show Steps p.tables e below (T1258.setTop (mkF m 231 #[.val (.int u1), .val (.int u2), .val (.int u3), .val (.int u4), .val (.int u5), .val (.int u6), .val (.int (Int32.ofNat y0)), .val (.int (Int32.ofNat y1)), .val (.int (Int32.ofNat z1)), .val (.ref b1190), .val (.ref b1196), .val (.ref b1200), .val (.ref t2), .val (.ref t3), .val (.double (FP.l2d (Int64.ofNat z2))), .second, .val (.double (FP.l2d (Int64.ofNat z3))), .second, .val (.int kp), .val (.int (Int32.ofNat zp)), .val (.ref pr), .val (.ref b1216), .val (.int (Int32.ofNat 2)), .val (.int (1 : Int32)), .unset, .unset, .unset, .unset, .unset, .unset] [(.int (0 : Int32))])) _
          refine XS.istore X1258.here hx rfl (hb hby at_231) rfl (l' := #[.val (.int u1), .val (.int u2), .val (.int u3), .val (.int u4), .val (.int u5), .val (.int u6), .val (.int (Int32.ofNat y0)), .val (.int (Int32.ofNat y1)), .val (.int (Int32.ofNat z1)), .val (.ref b1190), .val (.ref b1196), .val (.ref b1200), .val (.ref t2), .val (.ref t3), .val (.double (FP.l2d (Int64.ofNat z2))), .second, .val (.double (FP.l2d (Int64.ofNat z3))), .second, .val (.int kp), .val (.int (Int32.ofNat zp)), .val (.ref pr), .val (.ref b1216), .val (.int (Int32.ofNat 2)), .val (.int (1 : Int32)), .val (.int (0 : Int32)), .unset, .unset, .unset, .unset, .unset]) rfl ?_
          show Steps p.tables e below (T1258.setTop (mkF m 233 #[.val (.int u1), .val (.int u2), .val (.int u3), .val (.int u4), .val (.int u5), .val (.int u6), .val (.int (Int32.ofNat y0)), .val (.int (Int32.ofNat y1)), .val (.int (Int32.ofNat z1)), .val (.ref b1190), .val (.ref b1196), .val (.ref b1200), .val (.ref t2), .val (.ref t3), .val (.double (FP.l2d (Int64.ofNat z2))), .second, .val (.double (FP.l2d (Int64.ofNat z3))), .second, .val (.int kp), .val (.int (Int32.ofNat zp)), .val (.ref pr), .val (.ref b1216), .val (.int (Int32.ofNat 2)), .val (.int (1 : Int32)), .val (.int (0 : Int32)), .unset, .unset, .unset, .unset, .unset] [])) _
          refine XS.iload X1258.here hx rfl (hb hby at_233) rfl ?_
          show Steps p.tables e below (T1258.setTop (mkF m 235 #[.val (.int u1), .val (.int u2), .val (.int u3), .val (.int u4), .val (.int u5), .val (.int u6), .val (.int (Int32.ofNat y0)), .val (.int (Int32.ofNat y1)), .val (.int (Int32.ofNat z1)), .val (.ref b1190), .val (.ref b1196), .val (.ref b1200), .val (.ref t2), .val (.ref t3), .val (.double (FP.l2d (Int64.ofNat z2))), .second, .val (.double (FP.l2d (Int64.ofNat z3))), .second, .val (.int kp), .val (.int (Int32.ofNat zp)), .val (.ref pr), .val (.ref b1216), .val (.int (Int32.ofNat 2)), .val (.int (1 : Int32)), .val (.int (0 : Int32)), .unset, .unset, .unset, .unset, .unset] [(.int (1 : Int32))])) _
          refine XS.ifNo X1258.here hx rfl (hb hby at_235) rfl ((if0 _ _).trans (feq (by decide)).1) ?_
          show Steps p.tables e below (T1258.setTop (mkF m 238 #[.val (.int u1), .val (.int u2), .val (.int u3), .val (.int u4), .val (.int u5), .val (.int u6), .val (.int (Int32.ofNat y0)), .val (.int (Int32.ofNat y1)), .val (.int (Int32.ofNat z1)), .val (.ref b1190), .val (.ref b1196), .val (.ref b1200), .val (.ref t2), .val (.ref t3), .val (.double (FP.l2d (Int64.ofNat z2))), .second, .val (.double (FP.l2d (Int64.ofNat z3))), .second, .val (.int kp), .val (.int (Int32.ofNat zp)), .val (.ref pr), .val (.ref b1216), .val (.int (Int32.ofNat 2)), .val (.int (1 : Int32)), .val (.int (0 : Int32)), .unset, .unset, .unset, .unset, .unset] [])) _
          refine XS.iload X1258.here hx rfl (hb hby at_238) rfl ?_
          show Steps p.tables e below (T1258.setTop (mkF m 240 #[.val (.int u1), .val (.int u2), .val (.int u3), .val (.int u4), .val (.int u5), .val (.int u6), .val (.int (Int32.ofNat y0)), .val (.int (Int32.ofNat y1)), .val (.int (Int32.ofNat z1)), .val (.ref b1190), .val (.ref b1196), .val (.ref b1200), .val (.ref t2), .val (.ref t3), .val (.double (FP.l2d (Int64.ofNat z2))), .second, .val (.double (FP.l2d (Int64.ofNat z3))), .second, .val (.int kp), .val (.int (Int32.ofNat zp)), .val (.ref pr), .val (.ref b1216), .val (.int (Int32.ofNat 2)), .val (.int (1 : Int32)), .val (.int (0 : Int32)), .unset, .unset, .unset, .unset, .unset] [(.int (Int32.ofNat y0))])) _
          refine XS.goto X1258.here hx rfl (pc0 := 240) (pc' := 248) rfl (hb hby at_240) (by decide) (by decide) ?_
          show Steps p.tables e below (T1258.setTop (mkF m 248 #[.val (.int u1), .val (.int u2), .val (.int u3), .val (.int u4), .val (.int u5), .val (.int u6), .val (.int (Int32.ofNat y0)), .val (.int (Int32.ofNat y1)), .val (.int (Int32.ofNat z1)), .val (.ref b1190), .val (.ref b1196), .val (.ref b1200), .val (.ref t2), .val (.ref t3), .val (.double (FP.l2d (Int64.ofNat z2))), .second, .val (.double (FP.l2d (Int64.ofNat z3))), .second, .val (.int kp), .val (.int (Int32.ofNat zp)), .val (.ref pr), .val (.ref b1216), .val (.int (Int32.ofNat 2)), .val (.int (1 : Int32)), .val (.int (0 : Int32)), .unset, .unset, .unset, .unset, .unset] [(.int (Int32.ofNat y0))])) _
          refine XS.istore X1258.here hx rfl (hb hby at_248) rfl (l' := #[.val (.int u1), .val (.int u2), .val (.int u3), .val (.int u4), .val (.int u5), .val (.int u6), .val (.int (Int32.ofNat y0)), .val (.int (Int32.ofNat y1)), .val (.int (Int32.ofNat z1)), .val (.ref b1190), .val (.ref b1196), .val (.ref b1200), .val (.ref t2), .val (.ref t3), .val (.double (FP.l2d (Int64.ofNat z2))), .second, .val (.double (FP.l2d (Int64.ofNat z3))), .second, .val (.int kp), .val (.int (Int32.ofNat zp)), .val (.ref pr), .val (.ref b1216), .val (.int (Int32.ofNat 2)), .val (.int (1 : Int32)), .val (.int (0 : Int32)), .val (.int (Int32.ofNat y0)), .unset, .unset, .unset, .unset]) rfl ?_
          show Steps p.tables e below (T1258.setTop (mkF m 250 #[.val (.int u1), .val (.int u2), .val (.int u3), .val (.int u4), .val (.int u5), .val (.int u6), .val (.int (Int32.ofNat y0)), .val (.int (Int32.ofNat y1)), .val (.int (Int32.ofNat z1)), .val (.ref b1190), .val (.ref b1196), .val (.ref b1200), .val (.ref t2), .val (.ref t3), .val (.double (FP.l2d (Int64.ofNat z2))), .second, .val (.double (FP.l2d (Int64.ofNat z3))), .second, .val (.int kp), .val (.int (Int32.ofNat zp)), .val (.ref pr), .val (.ref b1216), .val (.int (Int32.ofNat 2)), .val (.int (1 : Int32)), .val (.int (0 : Int32)), .val (.int (Int32.ofNat y0)), .unset, .unset, .unset, .unset] [])) _
          refine XS.iload X1258.here hx rfl (hb hby at_250) rfl ?_
          show Steps p.tables e below (T1258.setTop (mkF m 252 #[.val (.int u1), .val (.int u2), .val (.int u3), .val (.int u4), .val (.int u5), .val (.int u6), .val (.int (Int32.ofNat y0)), .val (.int (Int32.ofNat y1)), .val (.int (Int32.ofNat z1)), .val (.ref b1190), .val (.ref b1196), .val (.ref b1200), .val (.ref t2), .val (.ref t3), .val (.double (FP.l2d (Int64.ofNat z2))), .second, .val (.double (FP.l2d (Int64.ofNat z3))), .second, .val (.int kp), .val (.int (Int32.ofNat zp)), .val (.ref pr), .val (.ref b1216), .val (.int (Int32.ofNat 2)), .val (.int (1 : Int32)), .val (.int (0 : Int32)), .val (.int (Int32.ofNat y0)), .unset, .unset, .unset, .unset] [(.int (0 : Int32))])) _
          refine XS.ifYes X1258.here hx rfl (pc0 := 252) (pc' := 260) rfl (hb hby at_252) rfl ((if0 _ _).trans (teq rfl).1) (by decide) (by decide) ?_
          show Steps p.tables e below (T1258.setTop (mkF m 260 #[.val (.int u1), .val (.int u2), .val (.int u3), .val (.int u4), .val (.int u5), .val (.int u6), .val (.int (Int32.ofNat y0)), .val (.int (Int32.ofNat y1)), .val (.int (Int32.ofNat z1)), .val (.ref b1190), .val (.ref b1196), .val (.ref b1200), .val (.ref t2), .val (.ref t3), .val (.double (FP.l2d (Int64.ofNat z2))), .second, .val (.double (FP.l2d (Int64.ofNat z3))), .second, .val (.int kp), .val (.int (Int32.ofNat zp)), .val (.ref pr), .val (.ref b1216), .val (.int (Int32.ofNat 2)), .val (.int (1 : Int32)), .val (.int (0 : Int32)), .val (.int (Int32.ofNat y0)), .unset, .unset, .unset, .unset] [])) _
          refine XS.iload X1258.here hx rfl (hb hby at_260) rfl ?_
          show Steps p.tables e below (T1258.setTop (mkF m 262 #[.val (.int u1), .val (.int u2), .val (.int u3), .val (.int u4), .val (.int u5), .val (.int u6), .val (.int (Int32.ofNat y0)), .val (.int (Int32.ofNat y1)), .val (.int (Int32.ofNat z1)), .val (.ref b1190), .val (.ref b1196), .val (.ref b1200), .val (.ref t2), .val (.ref t3), .val (.double (FP.l2d (Int64.ofNat z2))), .second, .val (.double (FP.l2d (Int64.ofNat z3))), .second, .val (.int kp), .val (.int (Int32.ofNat zp)), .val (.ref pr), .val (.ref b1216), .val (.int (Int32.ofNat 2)), .val (.int (1 : Int32)), .val (.int (0 : Int32)), .val (.int (Int32.ofNat y0)), .unset, .unset, .unset, .unset] [(.int (Int32.ofNat y1))])) _
          refine XS.iload X1258.here hx rfl (hb hby at_262) rfl ?_
          show Steps p.tables e below (T1258.setTop (mkF m 264 #[.val (.int u1), .val (.int u2), .val (.int u3), .val (.int u4), .val (.int u5), .val (.int u6), .val (.int (Int32.ofNat y0)), .val (.int (Int32.ofNat y1)), .val (.int (Int32.ofNat z1)), .val (.ref b1190), .val (.ref b1196), .val (.ref b1200), .val (.ref t2), .val (.ref t3), .val (.double (FP.l2d (Int64.ofNat z2))), .second, .val (.double (FP.l2d (Int64.ofNat z3))), .second, .val (.int kp), .val (.int (Int32.ofNat zp)), .val (.ref pr), .val (.ref b1216), .val (.int (Int32.ofNat 2)), .val (.int (1 : Int32)), .val (.int (0 : Int32)), .val (.int (Int32.ofNat y0)), .unset, .unset, .unset, .unset] [(.int (Int32.ofNat z1)), (.int (Int32.ofNat y1))])) _
          refine XS.isub X1258.here hx rfl (hb hby at_264) rfl ?_
          show Steps p.tables e below (T1258.setTop (mkF m 265 #[.val (.int u1), .val (.int u2), .val (.int u3), .val (.int u4), .val (.int u5), .val (.int u6), .val (.int (Int32.ofNat y0)), .val (.int (Int32.ofNat y1)), .val (.int (Int32.ofNat z1)), .val (.ref b1190), .val (.ref b1196), .val (.ref b1200), .val (.ref t2), .val (.ref t3), .val (.double (FP.l2d (Int64.ofNat z2))), .second, .val (.double (FP.l2d (Int64.ofNat z3))), .second, .val (.int kp), .val (.int (Int32.ofNat zp)), .val (.ref pr), .val (.ref b1216), .val (.int (Int32.ofNat 2)), .val (.int (1 : Int32)), .val (.int (0 : Int32)), .val (.int (Int32.ofNat y0)), .unset, .unset, .unset, .unset] [(.int ((Int32.ofNat y1) - (Int32.ofNat z1)))])) _
          refine XS.istore X1258.here hx rfl (hb hby at_265) rfl (l' := #[.val (.int u1), .val (.int u2), .val (.int u3), .val (.int u4), .val (.int u5), .val (.int u6), .val (.int (Int32.ofNat y0)), .val (.int (Int32.ofNat y1)), .val (.int (Int32.ofNat z1)), .val (.ref b1190), .val (.ref b1196), .val (.ref b1200), .val (.ref t2), .val (.ref t3), .val (.double (FP.l2d (Int64.ofNat z2))), .second, .val (.double (FP.l2d (Int64.ofNat z3))), .second, .val (.int kp), .val (.int (Int32.ofNat zp)), .val (.ref pr), .val (.ref b1216), .val (.int (Int32.ofNat 2)), .val (.int (1 : Int32)), .val (.int (0 : Int32)), .val (.int (Int32.ofNat y0)), .val (.int ((Int32.ofNat y1) - (Int32.ofNat z1))), .unset, .unset, .unset]) rfl ?_
          show Steps p.tables e below (T1258.setTop (mkF m 267 #[.val (.int u1), .val (.int u2), .val (.int u3), .val (.int u4), .val (.int u5), .val (.int u6), .val (.int (Int32.ofNat y0)), .val (.int (Int32.ofNat y1)), .val (.int (Int32.ofNat z1)), .val (.ref b1190), .val (.ref b1196), .val (.ref b1200), .val (.ref t2), .val (.ref t3), .val (.double (FP.l2d (Int64.ofNat z2))), .second, .val (.double (FP.l2d (Int64.ofNat z3))), .second, .val (.int kp), .val (.int (Int32.ofNat zp)), .val (.ref pr), .val (.ref b1216), .val (.int (Int32.ofNat 2)), .val (.int (1 : Int32)), .val (.int (0 : Int32)), .val (.int (Int32.ofNat y0)), .val (.int ((Int32.ofNat y1) - (Int32.ofNat z1))), .unset, .unset, .unset] [])) _
          exact k)
        exact ⟨_, _, _, _, (by rw [hA0, if_neg H0]; rfl), (by rw [hA1, if_pos H1]; rfl), (by rw [hR0, if_neg H0]), (by rw [hR1, if_pos H1]; exact own_subI y1 hy1 z1 H1), P1264⟩
      · have P1265 : ∀ t, Steps p.tables e below (T1258.setTop (mkF m 267 #[.val (.int u1), .val (.int u2), .val (.int u3), .val (.int u4), .val (.int u5), .val (.int u6), .val (.int (Int32.ofNat y0)), .val (.int (Int32.ofNat y1)), .val (.int (Int32.ofNat z1)), .val (.ref b1190), .val (.ref b1196), .val (.ref b1200), .val (.ref t2), .val (.ref t3), .val (.double (FP.l2d (Int64.ofNat z2))), .second, .val (.double (FP.l2d (Int64.ofNat z3))), .second, .val (.int kp), .val (.int (Int32.ofNat zp)), .val (.ref pr), .val (.ref b1216), .val (.int (Int32.ofNat 2)), .val (.int (1 : Int32)), .val (.int (1 : Int32)), .val (.int (Int32.ofNat y0)), .val (.int (Int32.ofNat y1)), .unset, .unset, .unset] [])) t → Steps p.tables e below (s₁.setTop (entryFrame m #[(.int u1), (.int u2), (.int u3), (.int u4), (.int u5), (.int u6)] maxLocals)) t := fun t k => P1260 t (by
          refine XS.iload X1258.here hx rfl (hb hby at_205) rfl ?_
          show Steps p.tables e below (T1258.setTop (mkF m 207 #[.val (.int u1), .val (.int u2), .val (.int u3), .val (.int u4), .val (.int u5), .val (.int u6), .val (.int (Int32.ofNat y0)), .val (.int (Int32.ofNat y1)), .val (.int (Int32.ofNat z1)), .val (.ref b1190), .val (.ref b1196), .val (.ref b1200), .val (.ref t2), .val (.ref t3), .val (.double (FP.l2d (Int64.ofNat z2))), .second, .val (.double (FP.l2d (Int64.ofNat z3))), .second, .val (.int kp), .val (.int (Int32.ofNat zp)), .val (.ref pr), .val (.ref b1216), .val (.int (Int32.ofNat 2)), .unset, .unset, .unset, .unset, .unset, .unset, .unset] [(.int (Int32.ofNat z1))])) _
          refine XS.iload X1258.here hx rfl (hb hby at_207) rfl ?_
          show Steps p.tables e below (T1258.setTop (mkF m 209 #[.val (.int u1), .val (.int u2), .val (.int u3), .val (.int u4), .val (.int u5), .val (.int u6), .val (.int (Int32.ofNat y0)), .val (.int (Int32.ofNat y1)), .val (.int (Int32.ofNat z1)), .val (.ref b1190), .val (.ref b1196), .val (.ref b1200), .val (.ref t2), .val (.ref t3), .val (.double (FP.l2d (Int64.ofNat z2))), .second, .val (.double (FP.l2d (Int64.ofNat z3))), .second, .val (.int kp), .val (.int (Int32.ofNat zp)), .val (.ref pr), .val (.ref b1216), .val (.int (Int32.ofNat 2)), .unset, .unset, .unset, .unset, .unset, .unset, .unset] [(.int (Int32.ofNat y0)), (.int (Int32.ofNat z1))])) _
          refine XS.icmpNo X1258.here hx rfl (hb hby at_209) rfl (tlt ((own_ltI y0 hy0 z1 hz1).mpr (by omega))).2.2.2 ?_
          show Steps p.tables e below (T1258.setTop (mkF m 212 #[.val (.int u1), .val (.int u2), .val (.int u3), .val (.int u4), .val (.int u5), .val (.int u6), .val (.int (Int32.ofNat y0)), .val (.int (Int32.ofNat y1)), .val (.int (Int32.ofNat z1)), .val (.ref b1190), .val (.ref b1196), .val (.ref b1200), .val (.ref t2), .val (.ref t3), .val (.double (FP.l2d (Int64.ofNat z2))), .second, .val (.double (FP.l2d (Int64.ofNat z3))), .second, .val (.int kp), .val (.int (Int32.ofNat zp)), .val (.ref pr), .val (.ref b1216), .val (.int (Int32.ofNat 2)), .unset, .unset, .unset, .unset, .unset, .unset, .unset] [])) _
          refine XS.iconst X1258.here hx rfl (hb hby at_212) ?_
          show Steps p.tables e below (T1258.setTop (mkF m 213 #[.val (.int u1), .val (.int u2), .val (.int u3), .val (.int u4), .val (.int u5), .val (.int u6), .val (.int (Int32.ofNat y0)), .val (.int (Int32.ofNat y1)), .val (.int (Int32.ofNat z1)), .val (.ref b1190), .val (.ref b1196), .val (.ref b1200), .val (.ref t2), .val (.ref t3), .val (.double (FP.l2d (Int64.ofNat z2))), .second, .val (.double (FP.l2d (Int64.ofNat z3))), .second, .val (.int kp), .val (.int (Int32.ofNat zp)), .val (.ref pr), .val (.ref b1216), .val (.int (Int32.ofNat 2)), .unset, .unset, .unset, .unset, .unset, .unset, .unset] [(.int (1 : Int32))])) _
          refine XS.goto X1258.here hx rfl (pc0 := 213) (pc' := 217) rfl (hb hby at_213) (by decide) (by decide) ?_
          show Steps p.tables e below (T1258.setTop (mkF m 217 #[.val (.int u1), .val (.int u2), .val (.int u3), .val (.int u4), .val (.int u5), .val (.int u6), .val (.int (Int32.ofNat y0)), .val (.int (Int32.ofNat y1)), .val (.int (Int32.ofNat z1)), .val (.ref b1190), .val (.ref b1196), .val (.ref b1200), .val (.ref t2), .val (.ref t3), .val (.double (FP.l2d (Int64.ofNat z2))), .second, .val (.double (FP.l2d (Int64.ofNat z3))), .second, .val (.int kp), .val (.int (Int32.ofNat zp)), .val (.ref pr), .val (.ref b1216), .val (.int (Int32.ofNat 2)), .unset, .unset, .unset, .unset, .unset, .unset, .unset] [(.int (1 : Int32))])) _
          refine XS.istore X1258.here hx rfl (hb hby at_217) rfl (l' := #[.val (.int u1), .val (.int u2), .val (.int u3), .val (.int u4), .val (.int u5), .val (.int u6), .val (.int (Int32.ofNat y0)), .val (.int (Int32.ofNat y1)), .val (.int (Int32.ofNat z1)), .val (.ref b1190), .val (.ref b1196), .val (.ref b1200), .val (.ref t2), .val (.ref t3), .val (.double (FP.l2d (Int64.ofNat z2))), .second, .val (.double (FP.l2d (Int64.ofNat z3))), .second, .val (.int kp), .val (.int (Int32.ofNat zp)), .val (.ref pr), .val (.ref b1216), .val (.int (Int32.ofNat 2)), .val (.int (1 : Int32)), .unset, .unset, .unset, .unset, .unset, .unset]) rfl ?_
          show Steps p.tables e below (T1258.setTop (mkF m 219 #[.val (.int u1), .val (.int u2), .val (.int u3), .val (.int u4), .val (.int u5), .val (.int u6), .val (.int (Int32.ofNat y0)), .val (.int (Int32.ofNat y1)), .val (.int (Int32.ofNat z1)), .val (.ref b1190), .val (.ref b1196), .val (.ref b1200), .val (.ref t2), .val (.ref t3), .val (.double (FP.l2d (Int64.ofNat z2))), .second, .val (.double (FP.l2d (Int64.ofNat z3))), .second, .val (.int kp), .val (.int (Int32.ofNat zp)), .val (.ref pr), .val (.ref b1216), .val (.int (Int32.ofNat 2)), .val (.int (1 : Int32)), .unset, .unset, .unset, .unset, .unset, .unset] [])) _
          refine XS.iload X1258.here hx rfl (hb hby at_219) rfl ?_
          show Steps p.tables e below (T1258.setTop (mkF m 221 #[.val (.int u1), .val (.int u2), .val (.int u3), .val (.int u4), .val (.int u5), .val (.int u6), .val (.int (Int32.ofNat y0)), .val (.int (Int32.ofNat y1)), .val (.int (Int32.ofNat z1)), .val (.ref b1190), .val (.ref b1196), .val (.ref b1200), .val (.ref t2), .val (.ref t3), .val (.double (FP.l2d (Int64.ofNat z2))), .second, .val (.double (FP.l2d (Int64.ofNat z3))), .second, .val (.int kp), .val (.int (Int32.ofNat zp)), .val (.ref pr), .val (.ref b1216), .val (.int (Int32.ofNat 2)), .val (.int (1 : Int32)), .unset, .unset, .unset, .unset, .unset, .unset] [(.int (Int32.ofNat z1))])) _
          refine XS.iload X1258.here hx rfl (hb hby at_221) rfl ?_
          show Steps p.tables e below (T1258.setTop (mkF m 223 #[.val (.int u1), .val (.int u2), .val (.int u3), .val (.int u4), .val (.int u5), .val (.int u6), .val (.int (Int32.ofNat y0)), .val (.int (Int32.ofNat y1)), .val (.int (Int32.ofNat z1)), .val (.ref b1190), .val (.ref b1196), .val (.ref b1200), .val (.ref t2), .val (.ref t3), .val (.double (FP.l2d (Int64.ofNat z2))), .second, .val (.double (FP.l2d (Int64.ofNat z3))), .second, .val (.int kp), .val (.int (Int32.ofNat zp)), .val (.ref pr), .val (.ref b1216), .val (.int (Int32.ofNat 2)), .val (.int (1 : Int32)), .unset, .unset, .unset, .unset, .unset, .unset] [(.int (Int32.ofNat y1)), (.int (Int32.ofNat z1))])) _
          refine XS.icmpNo X1258.here hx rfl (hb hby at_223) rfl (tlt ((own_ltI y1 hy1 z1 hz1).mpr (by omega))).2.2.2 ?_
          show Steps p.tables e below (T1258.setTop (mkF m 226 #[.val (.int u1), .val (.int u2), .val (.int u3), .val (.int u4), .val (.int u5), .val (.int u6), .val (.int (Int32.ofNat y0)), .val (.int (Int32.ofNat y1)), .val (.int (Int32.ofNat z1)), .val (.ref b1190), .val (.ref b1196), .val (.ref b1200), .val (.ref t2), .val (.ref t3), .val (.double (FP.l2d (Int64.ofNat z2))), .second, .val (.double (FP.l2d (Int64.ofNat z3))), .second, .val (.int kp), .val (.int (Int32.ofNat zp)), .val (.ref pr), .val (.ref b1216), .val (.int (Int32.ofNat 2)), .val (.int (1 : Int32)), .unset, .unset, .unset, .unset, .unset, .unset] [])) _
          refine XS.iconst X1258.here hx rfl (hb hby at_226) ?_
          show Steps p.tables e below (T1258.setTop (mkF m 227 #[.val (.int u1), .val (.int u2), .val (.int u3), .val (.int u4), .val (.int u5), .val (.int u6), .val (.int (Int32.ofNat y0)), .val (.int (Int32.ofNat y1)), .val (.int (Int32.ofNat z1)), .val (.ref b1190), .val (.ref b1196), .val (.ref b1200), .val (.ref t2), .val (.ref t3), .val (.double (FP.l2d (Int64.ofNat z2))), .second, .val (.double (FP.l2d (Int64.ofNat z3))), .second, .val (.int kp), .val (.int (Int32.ofNat zp)), .val (.ref pr), .val (.ref b1216), .val (.int (Int32.ofNat 2)), .val (.int (1 : Int32)), .unset, .unset, .unset, .unset, .unset, .unset] [(.int (1 : Int32))])) _
          refine XS.goto X1258.here hx rfl (pc0 := 227) (pc' := 231) rfl (hb hby at_227) (by decide) (by decide) ?_
          show Steps p.tables e below (T1258.setTop (mkF m 231 #[.val (.int u1), .val (.int u2), .val (.int u3), .val (.int u4), .val (.int u5), .val (.int u6), .val (.int (Int32.ofNat y0)), .val (.int (Int32.ofNat y1)), .val (.int (Int32.ofNat z1)), .val (.ref b1190), .val (.ref b1196), .val (.ref b1200), .val (.ref t2), .val (.ref t3), .val (.double (FP.l2d (Int64.ofNat z2))), .second, .val (.double (FP.l2d (Int64.ofNat z3))), .second, .val (.int kp), .val (.int (Int32.ofNat zp)), .val (.ref pr), .val (.ref b1216), .val (.int (Int32.ofNat 2)), .val (.int (1 : Int32)), .unset, .unset, .unset, .unset, .unset, .unset] [(.int (1 : Int32))])) _
          refine XS.istore X1258.here hx rfl (hb hby at_231) rfl (l' := #[.val (.int u1), .val (.int u2), .val (.int u3), .val (.int u4), .val (.int u5), .val (.int u6), .val (.int (Int32.ofNat y0)), .val (.int (Int32.ofNat y1)), .val (.int (Int32.ofNat z1)), .val (.ref b1190), .val (.ref b1196), .val (.ref b1200), .val (.ref t2), .val (.ref t3), .val (.double (FP.l2d (Int64.ofNat z2))), .second, .val (.double (FP.l2d (Int64.ofNat z3))), .second, .val (.int kp), .val (.int (Int32.ofNat zp)), .val (.ref pr), .val (.ref b1216), .val (.int (Int32.ofNat 2)), .val (.int (1 : Int32)), .val (.int (1 : Int32)), .unset, .unset, .unset, .unset, .unset]) rfl ?_
          show Steps p.tables e below (T1258.setTop (mkF m 233 #[.val (.int u1), .val (.int u2), .val (.int u3), .val (.int u4), .val (.int u5), .val (.int u6), .val (.int (Int32.ofNat y0)), .val (.int (Int32.ofNat y1)), .val (.int (Int32.ofNat z1)), .val (.ref b1190), .val (.ref b1196), .val (.ref b1200), .val (.ref t2), .val (.ref t3), .val (.double (FP.l2d (Int64.ofNat z2))), .second, .val (.double (FP.l2d (Int64.ofNat z3))), .second, .val (.int kp), .val (.int (Int32.ofNat zp)), .val (.ref pr), .val (.ref b1216), .val (.int (Int32.ofNat 2)), .val (.int (1 : Int32)), .val (.int (1 : Int32)), .unset, .unset, .unset, .unset, .unset] [])) _
          refine XS.iload X1258.here hx rfl (hb hby at_233) rfl ?_
          show Steps p.tables e below (T1258.setTop (mkF m 235 #[.val (.int u1), .val (.int u2), .val (.int u3), .val (.int u4), .val (.int u5), .val (.int u6), .val (.int (Int32.ofNat y0)), .val (.int (Int32.ofNat y1)), .val (.int (Int32.ofNat z1)), .val (.ref b1190), .val (.ref b1196), .val (.ref b1200), .val (.ref t2), .val (.ref t3), .val (.double (FP.l2d (Int64.ofNat z2))), .second, .val (.double (FP.l2d (Int64.ofNat z3))), .second, .val (.int kp), .val (.int (Int32.ofNat zp)), .val (.ref pr), .val (.ref b1216), .val (.int (Int32.ofNat 2)), .val (.int (1 : Int32)), .val (.int (1 : Int32)), .unset, .unset, .unset, .unset, .unset] [(.int (1 : Int32))])) _
          refine XS.ifNo X1258.here hx rfl (hb hby at_235) rfl ((if0 _ _).trans (feq (by decide)).1) ?_
          show Steps p.tables e below (T1258.setTop (mkF m 238 #[.val (.int u1), .val (.int u2), .val (.int u3), .val (.int u4), .val (.int u5), .val (.int u6), .val (.int (Int32.ofNat y0)), .val (.int (Int32.ofNat y1)), .val (.int (Int32.ofNat z1)), .val (.ref b1190), .val (.ref b1196), .val (.ref b1200), .val (.ref t2), .val (.ref t3), .val (.double (FP.l2d (Int64.ofNat z2))), .second, .val (.double (FP.l2d (Int64.ofNat z3))), .second, .val (.int kp), .val (.int (Int32.ofNat zp)), .val (.ref pr), .val (.ref b1216), .val (.int (Int32.ofNat 2)), .val (.int (1 : Int32)), .val (.int (1 : Int32)), .unset, .unset, .unset, .unset, .unset] [])) _
          refine XS.iload X1258.here hx rfl (hb hby at_238) rfl ?_
          show Steps p.tables e below (T1258.setTop (mkF m 240 #[.val (.int u1), .val (.int u2), .val (.int u3), .val (.int u4), .val (.int u5), .val (.int u6), .val (.int (Int32.ofNat y0)), .val (.int (Int32.ofNat y1)), .val (.int (Int32.ofNat z1)), .val (.ref b1190), .val (.ref b1196), .val (.ref b1200), .val (.ref t2), .val (.ref t3), .val (.double (FP.l2d (Int64.ofNat z2))), .second, .val (.double (FP.l2d (Int64.ofNat z3))), .second, .val (.int kp), .val (.int (Int32.ofNat zp)), .val (.ref pr), .val (.ref b1216), .val (.int (Int32.ofNat 2)), .val (.int (1 : Int32)), .val (.int (1 : Int32)), .unset, .unset, .unset, .unset, .unset] [(.int (Int32.ofNat y0))])) _
          refine XS.goto X1258.here hx rfl (pc0 := 240) (pc' := 248) rfl (hb hby at_240) (by decide) (by decide) ?_
          show Steps p.tables e below (T1258.setTop (mkF m 248 #[.val (.int u1), .val (.int u2), .val (.int u3), .val (.int u4), .val (.int u5), .val (.int u6), .val (.int (Int32.ofNat y0)), .val (.int (Int32.ofNat y1)), .val (.int (Int32.ofNat z1)), .val (.ref b1190), .val (.ref b1196), .val (.ref b1200), .val (.ref t2), .val (.ref t3), .val (.double (FP.l2d (Int64.ofNat z2))), .second, .val (.double (FP.l2d (Int64.ofNat z3))), .second, .val (.int kp), .val (.int (Int32.ofNat zp)), .val (.ref pr), .val (.ref b1216), .val (.int (Int32.ofNat 2)), .val (.int (1 : Int32)), .val (.int (1 : Int32)), .unset, .unset, .unset, .unset, .unset] [(.int (Int32.ofNat y0))])) _
          refine XS.istore X1258.here hx rfl (hb hby at_248) rfl (l' := #[.val (.int u1), .val (.int u2), .val (.int u3), .val (.int u4), .val (.int u5), .val (.int u6), .val (.int (Int32.ofNat y0)), .val (.int (Int32.ofNat y1)), .val (.int (Int32.ofNat z1)), .val (.ref b1190), .val (.ref b1196), .val (.ref b1200), .val (.ref t2), .val (.ref t3), .val (.double (FP.l2d (Int64.ofNat z2))), .second, .val (.double (FP.l2d (Int64.ofNat z3))), .second, .val (.int kp), .val (.int (Int32.ofNat zp)), .val (.ref pr), .val (.ref b1216), .val (.int (Int32.ofNat 2)), .val (.int (1 : Int32)), .val (.int (1 : Int32)), .val (.int (Int32.ofNat y0)), .unset, .unset, .unset, .unset]) rfl ?_
          show Steps p.tables e below (T1258.setTop (mkF m 250 #[.val (.int u1), .val (.int u2), .val (.int u3), .val (.int u4), .val (.int u5), .val (.int u6), .val (.int (Int32.ofNat y0)), .val (.int (Int32.ofNat y1)), .val (.int (Int32.ofNat z1)), .val (.ref b1190), .val (.ref b1196), .val (.ref b1200), .val (.ref t2), .val (.ref t3), .val (.double (FP.l2d (Int64.ofNat z2))), .second, .val (.double (FP.l2d (Int64.ofNat z3))), .second, .val (.int kp), .val (.int (Int32.ofNat zp)), .val (.ref pr), .val (.ref b1216), .val (.int (Int32.ofNat 2)), .val (.int (1 : Int32)), .val (.int (1 : Int32)), .val (.int (Int32.ofNat y0)), .unset, .unset, .unset, .unset] [])) _
          refine XS.iload X1258.here hx rfl (hb hby at_250) rfl ?_
          show Steps p.tables e below (T1258.setTop (mkF m 252 #[.val (.int u1), .val (.int u2), .val (.int u3), .val (.int u4), .val (.int u5), .val (.int u6), .val (.int (Int32.ofNat y0)), .val (.int (Int32.ofNat y1)), .val (.int (Int32.ofNat z1)), .val (.ref b1190), .val (.ref b1196), .val (.ref b1200), .val (.ref t2), .val (.ref t3), .val (.double (FP.l2d (Int64.ofNat z2))), .second, .val (.double (FP.l2d (Int64.ofNat z3))), .second, .val (.int kp), .val (.int (Int32.ofNat zp)), .val (.ref pr), .val (.ref b1216), .val (.int (Int32.ofNat 2)), .val (.int (1 : Int32)), .val (.int (1 : Int32)), .val (.int (Int32.ofNat y0)), .unset, .unset, .unset, .unset] [(.int (1 : Int32))])) _
          refine XS.ifNo X1258.here hx rfl (hb hby at_252) rfl ((if0 _ _).trans (feq (by decide)).1) ?_
          show Steps p.tables e below (T1258.setTop (mkF m 255 #[.val (.int u1), .val (.int u2), .val (.int u3), .val (.int u4), .val (.int u5), .val (.int u6), .val (.int (Int32.ofNat y0)), .val (.int (Int32.ofNat y1)), .val (.int (Int32.ofNat z1)), .val (.ref b1190), .val (.ref b1196), .val (.ref b1200), .val (.ref t2), .val (.ref t3), .val (.double (FP.l2d (Int64.ofNat z2))), .second, .val (.double (FP.l2d (Int64.ofNat z3))), .second, .val (.int kp), .val (.int (Int32.ofNat zp)), .val (.ref pr), .val (.ref b1216), .val (.int (Int32.ofNat 2)), .val (.int (1 : Int32)), .val (.int (1 : Int32)), .val (.int (Int32.ofNat y0)), .unset, .unset, .unset, .unset] [])) _
          refine XS.iload X1258.here hx rfl (hb hby at_255) rfl ?_
          show Steps p.tables e below (T1258.setTop (mkF m 257 #[.val (.int u1), .val (.int u2), .val (.int u3), .val (.int u4), .val (.int u5), .val (.int u6), .val (.int (Int32.ofNat y0)), .val (.int (Int32.ofNat y1)), .val (.int (Int32.ofNat z1)), .val (.ref b1190), .val (.ref b1196), .val (.ref b1200), .val (.ref t2), .val (.ref t3), .val (.double (FP.l2d (Int64.ofNat z2))), .second, .val (.double (FP.l2d (Int64.ofNat z3))), .second, .val (.int kp), .val (.int (Int32.ofNat zp)), .val (.ref pr), .val (.ref b1216), .val (.int (Int32.ofNat 2)), .val (.int (1 : Int32)), .val (.int (1 : Int32)), .val (.int (Int32.ofNat y0)), .unset, .unset, .unset, .unset] [(.int (Int32.ofNat y1))])) _
          refine XS.goto X1258.here hx rfl (pc0 := 257) (pc' := 265) rfl (hb hby at_257) (by decide) (by decide) ?_
          show Steps p.tables e below (T1258.setTop (mkF m 265 #[.val (.int u1), .val (.int u2), .val (.int u3), .val (.int u4), .val (.int u5), .val (.int u6), .val (.int (Int32.ofNat y0)), .val (.int (Int32.ofNat y1)), .val (.int (Int32.ofNat z1)), .val (.ref b1190), .val (.ref b1196), .val (.ref b1200), .val (.ref t2), .val (.ref t3), .val (.double (FP.l2d (Int64.ofNat z2))), .second, .val (.double (FP.l2d (Int64.ofNat z3))), .second, .val (.int kp), .val (.int (Int32.ofNat zp)), .val (.ref pr), .val (.ref b1216), .val (.int (Int32.ofNat 2)), .val (.int (1 : Int32)), .val (.int (1 : Int32)), .val (.int (Int32.ofNat y0)), .unset, .unset, .unset, .unset] [(.int (Int32.ofNat y1))])) _
          refine XS.istore X1258.here hx rfl (hb hby at_265) rfl (l' := #[.val (.int u1), .val (.int u2), .val (.int u3), .val (.int u4), .val (.int u5), .val (.int u6), .val (.int (Int32.ofNat y0)), .val (.int (Int32.ofNat y1)), .val (.int (Int32.ofNat z1)), .val (.ref b1190), .val (.ref b1196), .val (.ref b1200), .val (.ref t2), .val (.ref t3), .val (.double (FP.l2d (Int64.ofNat z2))), .second, .val (.double (FP.l2d (Int64.ofNat z3))), .second, .val (.int kp), .val (.int (Int32.ofNat zp)), .val (.ref pr), .val (.ref b1216), .val (.int (Int32.ofNat 2)), .val (.int (1 : Int32)), .val (.int (1 : Int32)), .val (.int (Int32.ofNat y0)), .val (.int (Int32.ofNat y1)), .unset, .unset, .unset]) rfl ?_
          show Steps p.tables e below (T1258.setTop (mkF m 267 #[.val (.int u1), .val (.int u2), .val (.int u3), .val (.int u4), .val (.int u5), .val (.int u6), .val (.int (Int32.ofNat y0)), .val (.int (Int32.ofNat y1)), .val (.int (Int32.ofNat z1)), .val (.ref b1190), .val (.ref b1196), .val (.ref b1200), .val (.ref t2), .val (.ref t3), .val (.double (FP.l2d (Int64.ofNat z2))), .second, .val (.double (FP.l2d (Int64.ofNat z3))), .second, .val (.int kp), .val (.int (Int32.ofNat zp)), .val (.ref pr), .val (.ref b1216), .val (.int (Int32.ofNat 2)), .val (.int (1 : Int32)), .val (.int (1 : Int32)), .val (.int (Int32.ofNat y0)), .val (.int (Int32.ofNat y1)), .unset, .unset, .unset] [])) _
          exact k)
        exact ⟨_, _, _, _, (by rw [hA0, if_neg H0]; rfl), (by rw [hA1, if_neg H1]; rfl), (by rw [hR0, if_neg H0]), (by rw [hR1, if_neg H1]), P1265⟩
  obtain ⟨cq1266, kq1266, q1266a, q1266b, q1266c⟩ := isOf hZ rfl Bu.1
  obtain ⟨_, _, ⟨T1266, L1266, k1266, n1266⟩, -, X1266, ⟨Lc1266, hQ1266, l1266, y1266, z1266⟩, st1266⟩ := X1258.virtualBack hx (y := (⟨"com/example/tributary/tributary/solver/Rooms", "mark", "()I"⟩ : MethodName)) (z := (⟨"com/example/tributary/tributary/solver/Rooms", "mark", "()I"⟩ : MethodName)) hown (mvT hZ (hw _ (List.mem_of_getElem? (i := 55) rfl))) (mvT hZ (hw _ (List.mem_of_getElem? (i := 56) rfl))) (notFace_of_selects (args := #[]) (mvT hZ (hw _ (List.mem_of_getElem? (i := 58) rfl)))) (mvT hZ (hw _ (List.mem_of_getElem? (i := 58) rfl))) (mvT hZ (hw _ (List.mem_of_getElem? (i := 57) rfl))) (by decide) (backOf (W := 0) (rm_mark l Z a0 hw [] b1216 ar ac al alr alc k1 k2 k3 k4 k5 S4 T1258.heap n0 Z1258 Bu Di Gi OK4) hZ (hw _ (List.mem_of_getElem? (i := 59) rfl)) (hw _ (List.mem_of_getElem? (i := 7) rfl)) (by decide) (by decide)) q1266a q1266c (g := (mkF m 275 #[.val (.int u1), .val (.int u2), .val (.int u3), .val (.int u4), .val (.int u5), .val (.int u6), .val (.int (Int32.ofNat y0)), .val (.int (Int32.ofNat y1)), .val (.int (Int32.ofNat z1)), .val (.ref b1190), .val (.ref b1196), .val (.ref b1200), .val (.ref t2), .val (.ref t3), .val (.double (FP.l2d (Int64.ofNat z2))), .second, .val (.double (FP.l2d (Int64.ofNat z3))), .second, .val (.int kp), .val (.int (Int32.ofNat zp)), .val (.ref pr), .val (.ref b1216), .val (.int (Int32.ofNat 2)), .val (.int cl0), .val (.int cl1), .val (.int rm0), .val (.int rm1), .unset, .unset, .unset] [(.ref b1216)])) rfl (by rw [hml]; rfl) (Steps.refl _) (argsL := []) (rest := []) (lenOf pd_6 rfl) rfl (by show 2 * 0 + _ ≤ _; exact Nat.le_of_eq rfl) (hb hby at_275) (fun _ _ => ⟨rfl, rfl, (by decide : 12 + 0 ≤ _), (by decide : 44 + 0 ≤ _)⟩)
  dsimp only [Pt.U, Pt.locs, Pt.cells, Pt.slots] at X1266 l1266 y1266 z1266 st1266 hQ1266
  subst l1266 y1266 z1266
  obtain ⟨rfl, N1266q, e275⟩ := hQ1266
  have N1266 := Fr.app N1258 N1266q
  obtain ⟨cq1267, kq1267, q1267a, q1267b, q1267c⟩ := isOf hZ e275 Bu.1
  obtain ⟨_, _, ⟨T1267, L1267, k1267, n1267⟩, -, X1267, ⟨Lc1267, hQ1267, l1267, y1267, z1267⟩, st1267⟩ := X1266.virtualBack hx (y := (⟨"com/example/tributary/tributary/solver/Rooms", "open", "([I)Z"⟩ : MethodName)) (z := (⟨"com/example/tributary/tributary/solver/Rooms", "open", "([I)Z"⟩ : MethodName)) hown (mvT hZ (hw _ (List.mem_of_getElem? (i := 60) rfl))) (mvT hZ (hw _ (List.mem_of_getElem? (i := 61) rfl))) (notFace_of_selects (args := #[]) (mvT hZ (hw _ (List.mem_of_getElem? (i := 63) rfl)))) (mvT hZ (hw _ (List.mem_of_getElem? (i := 63) rfl))) (mvT hZ (hw _ (List.mem_of_getElem? (i := 62) rfl))) (by decide) (backOf (W := 0) (rm_open1 l Z a0 hw [] b1216 ar ac al alr alc k1 k2 k3 k4 k5 S4 b1196 k1196 0 T1258.heap n0 Z1258 Bu Di Gi OK4 c1259_0 ⟨ne_b1196_b1216, ne_b1196_ar, ne_b1196_ac, ne_b1196_al, ne_b1196_alr, ne_b1196_alc⟩ (by decide)) hZ (hw _ (List.mem_of_getElem? (i := 64) rfl)) (hw _ (List.mem_of_getElem? (i := 7) rfl)) (by decide) (by decide)) q1267a q1267c (g := (mkF m 286 #[.val (.int u1), .val (.int u2), .val (.int u3), .val (.int u4), .val (.int u5), .val (.int u6), .val (.int (Int32.ofNat y0)), .val (.int (Int32.ofNat y1)), .val (.int (Int32.ofNat z1)), .val (.ref b1190), .val (.ref b1196), .val (.ref b1200), .val (.ref t2), .val (.ref t3), .val (.double (FP.l2d (Int64.ofNat z2))), .second, .val (.double (FP.l2d (Int64.ofNat z3))), .second, .val (.int kp), .val (.int (Int32.ofNat zp)), .val (.ref pr), .val (.ref b1216), .val (.int (Int32.ofNat 2)), .val (.int cl0), .val (.int cl1), .val (.int rm0), .val (.int rm1), .unset, .unset, .unset] [(.ref b1196), (.ref b1216)])) rfl (by rw [hml]; rfl) (Steps.refl _) (argsL := [(.ref b1196)]) (rest := []) (lenOf pd_7 rfl) rfl (by show 2 * 0 + _ ≤ _; exact Nat.le_of_eq rfl) (hb hby at_286) (fun _ _ => ⟨rfl, e275, (by decide : 12 + 0 ≤ _), (by decide : 44 + 0 ≤ _)⟩)
  dsimp only [Pt.U, Pt.locs, Pt.cells, Pt.slots] at X1267 l1267 y1267 z1267 st1267 hQ1267
  subst l1267 y1267 z1267
  obtain ⟨q0, rfl, N1267q, eq0, hqa0, hqb0⟩ := hQ1267
  have N1267 := Fr.app N1266 N1267q
  obtain ⟨hza0, hzb0⟩ := own_z01 (i := 0) OK1 hm2 hcl0
  have P1268 : ∀ t, Steps p.tables e below (T1267.setTop (mkF m 291 #[.val (.int u1), .val (.int u2), .val (.int u3), .val (.int u4), .val (.int u5), .val (.int u6), .val (.int (Int32.ofNat y0)), .val (.int (Int32.ofNat y1)), .val (.int (Int32.ofNat z1)), .val (.ref b1190), .val (.ref b1196), .val (.ref b1200), .val (.ref t2), .val (.ref t3), .val (.double (FP.l2d (Int64.ofNat z2))), .second, .val (.double (FP.l2d (Int64.ofNat z3))), .second, .val (.int kp), .val (.int (Int32.ofNat zp)), .val (.ref pr), .val (.ref b1216), .val (.int (Int32.ofNat 2)), .val (.int cl0), .val (.int cl1), .val (.int rm0), .val (.int rm1), .unset, .unset, .unset] [(.int cl0), (.int q0)])) t → Steps p.tables e below (s₁.setTop (entryFrame m #[(.int u1), (.int u2), (.int u3), (.int u4), (.int u5), (.int u6)] maxLocals)) t := fun t k => P1261 t (by
    refine XS.iload X1258.here hx rfl (hb hby at_267) rfl ?_
    show Steps p.tables e below (T1258.setTop (mkF m 269 #[.val (.int u1), .val (.int u2), .val (.int u3), .val (.int u4), .val (.int u5), .val (.int u6), .val (.int (Int32.ofNat y0)), .val (.int (Int32.ofNat y1)), .val (.int (Int32.ofNat z1)), .val (.ref b1190), .val (.ref b1196), .val (.ref b1200), .val (.ref t2), .val (.ref t3), .val (.double (FP.l2d (Int64.ofNat z2))), .second, .val (.double (FP.l2d (Int64.ofNat z3))), .second, .val (.int kp), .val (.int (Int32.ofNat zp)), .val (.ref pr), .val (.ref b1216), .val (.int (Int32.ofNat 2)), .val (.int cl0), .val (.int cl1), .val (.int rm0), .val (.int rm1), .unset, .unset, .unset] [(.int (Int32.ofNat 2))])) _
    refine XS.iconst X1258.here hx rfl (hb hby at_269) ?_
    show Steps p.tables e below (T1258.setTop (mkF m 270 #[.val (.int u1), .val (.int u2), .val (.int u3), .val (.int u4), .val (.int u5), .val (.int u6), .val (.int (Int32.ofNat y0)), .val (.int (Int32.ofNat y1)), .val (.int (Int32.ofNat z1)), .val (.ref b1190), .val (.ref b1196), .val (.ref b1200), .val (.ref t2), .val (.ref t3), .val (.double (FP.l2d (Int64.ofNat z2))), .second, .val (.double (FP.l2d (Int64.ofNat z3))), .second, .val (.int kp), .val (.int (Int32.ofNat zp)), .val (.ref pr), .val (.ref b1216), .val (.int (Int32.ofNat 2)), .val (.int cl0), .val (.int cl1), .val (.int rm0), .val (.int rm1), .unset, .unset, .unset] [(.int (2 : Int32)), (.int (Int32.ofNat 2))])) _
    refine XS.icmpNo X1258.here hx rfl (hb hby at_270) rfl (teq rfl).2 ?_
    show Steps p.tables e below (T1258.setTop (mkF m 273 #[.val (.int u1), .val (.int u2), .val (.int u3), .val (.int u4), .val (.int u5), .val (.int u6), .val (.int (Int32.ofNat y0)), .val (.int (Int32.ofNat y1)), .val (.int (Int32.ofNat z1)), .val (.ref b1190), .val (.ref b1196), .val (.ref b1200), .val (.ref t2), .val (.ref t3), .val (.double (FP.l2d (Int64.ofNat z2))), .second, .val (.double (FP.l2d (Int64.ofNat z3))), .second, .val (.int kp), .val (.int (Int32.ofNat zp)), .val (.ref pr), .val (.ref b1216), .val (.int (Int32.ofNat 2)), .val (.int cl0), .val (.int cl1), .val (.int rm0), .val (.int rm1), .unset, .unset, .unset] [])) _
    refine XS.aload X1258.here hx rfl (hb hby at_273) rfl rfl ?_
    show Steps p.tables e below (T1258.setTop (mkF m 275 #[.val (.int u1), .val (.int u2), .val (.int u3), .val (.int u4), .val (.int u5), .val (.int u6), .val (.int (Int32.ofNat y0)), .val (.int (Int32.ofNat y1)), .val (.int (Int32.ofNat z1)), .val (.ref b1190), .val (.ref b1196), .val (.ref b1200), .val (.ref t2), .val (.ref t3), .val (.double (FP.l2d (Int64.ofNat z2))), .second, .val (.double (FP.l2d (Int64.ofNat z3))), .second, .val (.int kp), .val (.int (Int32.ofNat zp)), .val (.ref pr), .val (.ref b1216), .val (.int (Int32.ofNat 2)), .val (.int cl0), .val (.int cl1), .val (.int rm0), .val (.int rm1), .unset, .unset, .unset] [(.ref b1216)])) _
    refine st1266.trans ?_
    show Steps p.tables e below (T1266.setTop (mkF m 278 #[.val (.int u1), .val (.int u2), .val (.int u3), .val (.int u4), .val (.int u5), .val (.int u6), .val (.int (Int32.ofNat y0)), .val (.int (Int32.ofNat y1)), .val (.int (Int32.ofNat z1)), .val (.ref b1190), .val (.ref b1196), .val (.ref b1200), .val (.ref t2), .val (.ref t3), .val (.double (FP.l2d (Int64.ofNat z2))), .second, .val (.double (FP.l2d (Int64.ofNat z3))), .second, .val (.int kp), .val (.int (Int32.ofNat zp)), .val (.ref pr), .val (.ref b1216), .val (.int (Int32.ofNat 2)), .val (.int cl0), .val (.int cl1), .val (.int rm0), .val (.int rm1), .unset, .unset, .unset] [(.int (Int32.ofNat S4.2.2.2.2.2))])) _
    refine XS.iconst X1266.here hx rfl (hb hby at_278) ?_
    show Steps p.tables e below (T1266.setTop (mkF m 279 #[.val (.int u1), .val (.int u2), .val (.int u3), .val (.int u4), .val (.int u5), .val (.int u6), .val (.int (Int32.ofNat y0)), .val (.int (Int32.ofNat y1)), .val (.int (Int32.ofNat z1)), .val (.ref b1190), .val (.ref b1196), .val (.ref b1200), .val (.ref t2), .val (.ref t3), .val (.double (FP.l2d (Int64.ofNat z2))), .second, .val (.double (FP.l2d (Int64.ofNat z3))), .second, .val (.int kp), .val (.int (Int32.ofNat zp)), .val (.ref pr), .val (.ref b1216), .val (.int (Int32.ofNat 2)), .val (.int cl0), .val (.int cl1), .val (.int rm0), .val (.int rm1), .unset, .unset, .unset] [(.int (2 : Int32)), (.int (Int32.ofNat S4.2.2.2.2.2))])) _
    refine XS.icmpNo X1266.here hx rfl (hb hby at_279) rfl (teq (congrArg Int32.ofNat hk4)).2 ?_
    show Steps p.tables e below (T1266.setTop (mkF m 282 #[.val (.int u1), .val (.int u2), .val (.int u3), .val (.int u4), .val (.int u5), .val (.int u6), .val (.int (Int32.ofNat y0)), .val (.int (Int32.ofNat y1)), .val (.int (Int32.ofNat z1)), .val (.ref b1190), .val (.ref b1196), .val (.ref b1200), .val (.ref t2), .val (.ref t3), .val (.double (FP.l2d (Int64.ofNat z2))), .second, .val (.double (FP.l2d (Int64.ofNat z3))), .second, .val (.int kp), .val (.int (Int32.ofNat zp)), .val (.ref pr), .val (.ref b1216), .val (.int (Int32.ofNat 2)), .val (.int cl0), .val (.int cl1), .val (.int rm0), .val (.int rm1), .unset, .unset, .unset] [])) _
    refine XS.aload X1266.here hx rfl (hb hby at_282) rfl rfl ?_
    show Steps p.tables e below (T1266.setTop (mkF m 284 #[.val (.int u1), .val (.int u2), .val (.int u3), .val (.int u4), .val (.int u5), .val (.int u6), .val (.int (Int32.ofNat y0)), .val (.int (Int32.ofNat y1)), .val (.int (Int32.ofNat z1)), .val (.ref b1190), .val (.ref b1196), .val (.ref b1200), .val (.ref t2), .val (.ref t3), .val (.double (FP.l2d (Int64.ofNat z2))), .second, .val (.double (FP.l2d (Int64.ofNat z3))), .second, .val (.int kp), .val (.int (Int32.ofNat zp)), .val (.ref pr), .val (.ref b1216), .val (.int (Int32.ofNat 2)), .val (.int cl0), .val (.int cl1), .val (.int rm0), .val (.int rm1), .unset, .unset, .unset] [(.ref b1216)])) _
    refine XS.aload X1266.here hx rfl (hb hby at_284) rfl rfl ?_
    show Steps p.tables e below (T1266.setTop (mkF m 286 #[.val (.int u1), .val (.int u2), .val (.int u3), .val (.int u4), .val (.int u5), .val (.int u6), .val (.int (Int32.ofNat y0)), .val (.int (Int32.ofNat y1)), .val (.int (Int32.ofNat z1)), .val (.ref b1190), .val (.ref b1196), .val (.ref b1200), .val (.ref t2), .val (.ref t3), .val (.double (FP.l2d (Int64.ofNat z2))), .second, .val (.double (FP.l2d (Int64.ofNat z3))), .second, .val (.int kp), .val (.int (Int32.ofNat zp)), .val (.ref pr), .val (.ref b1216), .val (.int (Int32.ofNat 2)), .val (.int cl0), .val (.int cl1), .val (.int rm0), .val (.int rm1), .unset, .unset, .unset] [(.ref b1196), (.ref b1216)])) _
    refine st1267.trans ?_
    show Steps p.tables e below (T1267.setTop (mkF m 289 #[.val (.int u1), .val (.int u2), .val (.int u3), .val (.int u4), .val (.int u5), .val (.int u6), .val (.int (Int32.ofNat y0)), .val (.int (Int32.ofNat y1)), .val (.int (Int32.ofNat z1)), .val (.ref b1190), .val (.ref b1196), .val (.ref b1200), .val (.ref t2), .val (.ref t3), .val (.double (FP.l2d (Int64.ofNat z2))), .second, .val (.double (FP.l2d (Int64.ofNat z3))), .second, .val (.int kp), .val (.int (Int32.ofNat zp)), .val (.ref pr), .val (.ref b1216), .val (.int (Int32.ofNat 2)), .val (.int cl0), .val (.int cl1), .val (.int rm0), .val (.int rm1), .unset, .unset, .unset] [(.int q0)])) _
    refine XS.iload X1267.here hx rfl (hb hby at_289) rfl ?_
    show Steps p.tables e below (T1267.setTop (mkF m 291 #[.val (.int u1), .val (.int u2), .val (.int u3), .val (.int u4), .val (.int u5), .val (.int u6), .val (.int (Int32.ofNat y0)), .val (.int (Int32.ofNat y1)), .val (.int (Int32.ofNat z1)), .val (.ref b1190), .val (.ref b1196), .val (.ref b1200), .val (.ref t2), .val (.ref t3), .val (.double (FP.l2d (Int64.ofNat z2))), .second, .val (.double (FP.l2d (Int64.ofNat z3))), .second, .val (.int kp), .val (.int (Int32.ofNat zp)), .val (.ref pr), .val (.ref b1216), .val (.int (Int32.ofNat 2)), .val (.int cl0), .val (.int cl1), .val (.int rm0), .val (.int rm1), .unset, .unset, .unset] [(.int cl0), (.int q0)])) _
    exact k)
  have P1269 : (∀ t, Steps p.tables e below (T1267.setTop (mkF m 302 #[.val (.int u1), .val (.int u2), .val (.int u3), .val (.int u4), .val (.int u5), .val (.int u6), .val (.int (Int32.ofNat y0)), .val (.int (Int32.ofNat y1)), .val (.int (Int32.ofNat z1)), .val (.ref b1190), .val (.ref b1196), .val (.ref b1200), .val (.ref t2), .val (.ref t3), .val (.double (FP.l2d (Int64.ofNat z2))), .second, .val (.double (FP.l2d (Int64.ofNat z3))), .second, .val (.int kp), .val (.int (Int32.ofNat zp)), .val (.ref pr), .val (.ref b1216), .val (.int (Int32.ofNat 2)), .val (.int cl0), .val (.int cl1), .val (.int rm0), .val (.int rm1), .unset, .unset, .unset] [])) t → Steps p.tables e below (s₁.setTop (entryFrame m #[(.int u1), (.int u2), (.int u3), (.int u4), (.int u5), (.int u6)] maxLocals)) t) := by
    by_cases hd0 : cl0 = (0 : Int32)
    · have P1270 : ∀ t, Steps p.tables e below (T1267.setTop (mkF m 302 #[.val (.int u1), .val (.int u2), .val (.int u3), .val (.int u4), .val (.int u5), .val (.int u6), .val (.int (Int32.ofNat y0)), .val (.int (Int32.ofNat y1)), .val (.int (Int32.ofNat z1)), .val (.ref b1190), .val (.ref b1196), .val (.ref b1200), .val (.ref t2), .val (.ref t3), .val (.double (FP.l2d (Int64.ofNat z2))), .second, .val (.double (FP.l2d (Int64.ofNat z3))), .second, .val (.int kp), .val (.int (Int32.ofNat zp)), .val (.ref pr), .val (.ref b1216), .val (.int (Int32.ofNat 2)), .val (.int cl0), .val (.int cl1), .val (.int rm0), .val (.int rm1), .unset, .unset, .unset] [])) t → Steps p.tables e below (s₁.setTop (entryFrame m #[(.int u1), (.int u2), (.int u3), (.int u4), (.int u5), (.int u6)] maxLocals)) t := fun t k => P1268 t (by
        refine XS.ifNo X1267.here hx rfl (hb hby at_291) rfl ((if0 _ _).trans (teq hd0).2) ?_
        show Steps p.tables e below (T1267.setTop (mkF m 294 #[.val (.int u1), .val (.int u2), .val (.int u3), .val (.int u4), .val (.int u5), .val (.int u6), .val (.int (Int32.ofNat y0)), .val (.int (Int32.ofNat y1)), .val (.int (Int32.ofNat z1)), .val (.ref b1190), .val (.ref b1196), .val (.ref b1200), .val (.ref t2), .val (.ref t3), .val (.double (FP.l2d (Int64.ofNat z2))), .second, .val (.double (FP.l2d (Int64.ofNat z3))), .second, .val (.int kp), .val (.int (Int32.ofNat zp)), .val (.ref pr), .val (.ref b1216), .val (.int (Int32.ofNat 2)), .val (.int cl0), .val (.int cl1), .val (.int rm0), .val (.int rm1), .unset, .unset, .unset] [(.int q0)])) _
        refine XS.iconst X1267.here hx rfl (hb hby at_294) ?_
        show Steps p.tables e below (T1267.setTop (mkF m 295 #[.val (.int u1), .val (.int u2), .val (.int u3), .val (.int u4), .val (.int u5), .val (.int u6), .val (.int (Int32.ofNat y0)), .val (.int (Int32.ofNat y1)), .val (.int (Int32.ofNat z1)), .val (.ref b1190), .val (.ref b1196), .val (.ref b1200), .val (.ref t2), .val (.ref t3), .val (.double (FP.l2d (Int64.ofNat z2))), .second, .val (.double (FP.l2d (Int64.ofNat z3))), .second, .val (.int kp), .val (.int (Int32.ofNat zp)), .val (.ref pr), .val (.ref b1216), .val (.int (Int32.ofNat 2)), .val (.int cl0), .val (.int cl1), .val (.int rm0), .val (.int rm1), .unset, .unset, .unset] [(.int (1 : Int32)), (.int q0)])) _
        refine XS.goto X1267.here hx rfl (pc0 := 295) (pc' := 299) rfl (hb hby at_295) (by decide) (by decide) ?_
        show Steps p.tables e below (T1267.setTop (mkF m 299 #[.val (.int u1), .val (.int u2), .val (.int u3), .val (.int u4), .val (.int u5), .val (.int u6), .val (.int (Int32.ofNat y0)), .val (.int (Int32.ofNat y1)), .val (.int (Int32.ofNat z1)), .val (.ref b1190), .val (.ref b1196), .val (.ref b1200), .val (.ref t2), .val (.ref t3), .val (.double (FP.l2d (Int64.ofNat z2))), .second, .val (.double (FP.l2d (Int64.ofNat z3))), .second, .val (.int kp), .val (.int (Int32.ofNat zp)), .val (.ref pr), .val (.ref b1216), .val (.int (Int32.ofNat 2)), .val (.int cl0), .val (.int cl1), .val (.int rm0), .val (.int rm1), .unset, .unset, .unset] [(.int (1 : Int32)), (.int q0)])) _
        refine XS.icmpNo X1267.here hx rfl (hb hby at_299) rfl (teq (hqa0 (hza0 hd0))).2 ?_
        show Steps p.tables e below (T1267.setTop (mkF m 302 #[.val (.int u1), .val (.int u2), .val (.int u3), .val (.int u4), .val (.int u5), .val (.int u6), .val (.int (Int32.ofNat y0)), .val (.int (Int32.ofNat y1)), .val (.int (Int32.ofNat z1)), .val (.ref b1190), .val (.ref b1196), .val (.ref b1200), .val (.ref t2), .val (.ref t3), .val (.double (FP.l2d (Int64.ofNat z2))), .second, .val (.double (FP.l2d (Int64.ofNat z3))), .second, .val (.int kp), .val (.int (Int32.ofNat zp)), .val (.ref pr), .val (.ref b1216), .val (.int (Int32.ofNat 2)), .val (.int cl0), .val (.int cl1), .val (.int rm0), .val (.int rm1), .unset, .unset, .unset] [])) _
        exact k)
      exact P1270
    · have P1271 : ∀ t, Steps p.tables e below (T1267.setTop (mkF m 302 #[.val (.int u1), .val (.int u2), .val (.int u3), .val (.int u4), .val (.int u5), .val (.int u6), .val (.int (Int32.ofNat y0)), .val (.int (Int32.ofNat y1)), .val (.int (Int32.ofNat z1)), .val (.ref b1190), .val (.ref b1196), .val (.ref b1200), .val (.ref t2), .val (.ref t3), .val (.double (FP.l2d (Int64.ofNat z2))), .second, .val (.double (FP.l2d (Int64.ofNat z3))), .second, .val (.int kp), .val (.int (Int32.ofNat zp)), .val (.ref pr), .val (.ref b1216), .val (.int (Int32.ofNat 2)), .val (.int cl0), .val (.int cl1), .val (.int rm0), .val (.int rm1), .unset, .unset, .unset] [])) t → Steps p.tables e below (s₁.setTop (entryFrame m #[(.int u1), (.int u2), (.int u3), (.int u4), (.int u5), (.int u6)] maxLocals)) t := fun t k => P1268 t (by
        refine XS.ifYes X1267.here hx rfl (pc0 := 291) (pc' := 298) rfl (hb hby at_291) rfl ((if0 _ _).trans (feq hd0).2) (by decide) (by decide) ?_
        show Steps p.tables e below (T1267.setTop (mkF m 298 #[.val (.int u1), .val (.int u2), .val (.int u3), .val (.int u4), .val (.int u5), .val (.int u6), .val (.int (Int32.ofNat y0)), .val (.int (Int32.ofNat y1)), .val (.int (Int32.ofNat z1)), .val (.ref b1190), .val (.ref b1196), .val (.ref b1200), .val (.ref t2), .val (.ref t3), .val (.double (FP.l2d (Int64.ofNat z2))), .second, .val (.double (FP.l2d (Int64.ofNat z3))), .second, .val (.int kp), .val (.int (Int32.ofNat zp)), .val (.ref pr), .val (.ref b1216), .val (.int (Int32.ofNat 2)), .val (.int cl0), .val (.int cl1), .val (.int rm0), .val (.int rm1), .unset, .unset, .unset] [(.int q0)])) _
        refine XS.iconst X1267.here hx rfl (hb hby at_298) ?_
        show Steps p.tables e below (T1267.setTop (mkF m 299 #[.val (.int u1), .val (.int u2), .val (.int u3), .val (.int u4), .val (.int u5), .val (.int u6), .val (.int (Int32.ofNat y0)), .val (.int (Int32.ofNat y1)), .val (.int (Int32.ofNat z1)), .val (.ref b1190), .val (.ref b1196), .val (.ref b1200), .val (.ref t2), .val (.ref t3), .val (.double (FP.l2d (Int64.ofNat z2))), .second, .val (.double (FP.l2d (Int64.ofNat z3))), .second, .val (.int kp), .val (.int (Int32.ofNat zp)), .val (.ref pr), .val (.ref b1216), .val (.int (Int32.ofNat 2)), .val (.int cl0), .val (.int cl1), .val (.int rm0), .val (.int rm1), .unset, .unset, .unset] [(.int (0 : Int32)), (.int q0)])) _
        refine XS.icmpNo X1267.here hx rfl (hb hby at_299) rfl (teq (hqb0 (hzb0 hd0))).2 ?_
        show Steps p.tables e below (T1267.setTop (mkF m 302 #[.val (.int u1), .val (.int u2), .val (.int u3), .val (.int u4), .val (.int u5), .val (.int u6), .val (.int (Int32.ofNat y0)), .val (.int (Int32.ofNat y1)), .val (.int (Int32.ofNat z1)), .val (.ref b1190), .val (.ref b1196), .val (.ref b1200), .val (.ref t2), .val (.ref t3), .val (.double (FP.l2d (Int64.ofNat z2))), .second, .val (.double (FP.l2d (Int64.ofNat z3))), .second, .val (.int kp), .val (.int (Int32.ofNat zp)), .val (.ref pr), .val (.ref b1216), .val (.int (Int32.ofNat 2)), .val (.int cl0), .val (.int cl1), .val (.int rm0), .val (.int rm1), .unset, .unset, .unset] [])) _
        exact k)
      exact P1271
  obtain ⟨cq1272, kq1272, q1272a, q1272b, q1272c⟩ := isOf hZ eq0 Bu.1
  obtain ⟨_, _, ⟨T1272, L1272, k1272, n1272⟩, -, X1272, ⟨Lc1272, hQ1272, l1272, y1272, z1272⟩, st1272⟩ := X1267.virtualBack hx (y := (⟨"com/example/tributary/tributary/solver/Rooms", "open", "([I)Z"⟩ : MethodName)) (z := (⟨"com/example/tributary/tributary/solver/Rooms", "open", "([I)Z"⟩ : MethodName)) hown (mvT hZ (hw _ (List.mem_of_getElem? (i := 60) rfl))) (mvT hZ (hw _ (List.mem_of_getElem? (i := 61) rfl))) (notFace_of_selects (args := #[]) (mvT hZ (hw _ (List.mem_of_getElem? (i := 63) rfl)))) (mvT hZ (hw _ (List.mem_of_getElem? (i := 63) rfl))) (mvT hZ (hw _ (List.mem_of_getElem? (i := 62) rfl))) (by decide) (backOf (W := 0) (rm_open1 l Z a0 hw [] b1216 ar ac al alr alc k1 k2 k3 k4 k5 S4 b1200 k1200 1 T1258.heap n0 Z1258 Bu Di Gi OK4 c1259_1 ⟨ne_b1200_b1216, ne_b1200_ar, ne_b1200_ac, ne_b1200_al, ne_b1200_alr, ne_b1200_alc⟩ (by decide)) hZ (hw _ (List.mem_of_getElem? (i := 64) rfl)) (hw _ (List.mem_of_getElem? (i := 7) rfl)) (by decide) (by decide)) q1272a q1272c (g := (mkF m 306 #[.val (.int u1), .val (.int u2), .val (.int u3), .val (.int u4), .val (.int u5), .val (.int u6), .val (.int (Int32.ofNat y0)), .val (.int (Int32.ofNat y1)), .val (.int (Int32.ofNat z1)), .val (.ref b1190), .val (.ref b1196), .val (.ref b1200), .val (.ref t2), .val (.ref t3), .val (.double (FP.l2d (Int64.ofNat z2))), .second, .val (.double (FP.l2d (Int64.ofNat z3))), .second, .val (.int kp), .val (.int (Int32.ofNat zp)), .val (.ref pr), .val (.ref b1216), .val (.int (Int32.ofNat 2)), .val (.int cl0), .val (.int cl1), .val (.int rm0), .val (.int rm1), .unset, .unset, .unset] [(.ref b1200), (.ref b1216)])) rfl (by rw [hml]; rfl) (Steps.refl _) (argsL := [(.ref b1200)]) (rest := []) (lenOf pd_7 rfl) rfl (by show 2 * 0 + _ ≤ _; exact Nat.le_of_eq rfl) (hb hby at_306) (fun _ _ => ⟨rfl, eq0, (by decide : 12 + 0 ≤ _), (by decide : 44 + 0 ≤ _)⟩)
  dsimp only [Pt.U, Pt.locs, Pt.cells, Pt.slots] at X1272 l1272 y1272 z1272 st1272 hQ1272
  subst l1272 y1272 z1272
  obtain ⟨q1, rfl, N1272q, eq1, hqa1, hqb1⟩ := hQ1272
  have N1272 := Fr.app N1267 N1272q
  obtain ⟨hza1, hzb1⟩ := own_z01 (i := 1) OK1 hm2 hcl1
  have P1273 : ∀ t, Steps p.tables e below (T1272.setTop (mkF m 311 #[.val (.int u1), .val (.int u2), .val (.int u3), .val (.int u4), .val (.int u5), .val (.int u6), .val (.int (Int32.ofNat y0)), .val (.int (Int32.ofNat y1)), .val (.int (Int32.ofNat z1)), .val (.ref b1190), .val (.ref b1196), .val (.ref b1200), .val (.ref t2), .val (.ref t3), .val (.double (FP.l2d (Int64.ofNat z2))), .second, .val (.double (FP.l2d (Int64.ofNat z3))), .second, .val (.int kp), .val (.int (Int32.ofNat zp)), .val (.ref pr), .val (.ref b1216), .val (.int (Int32.ofNat 2)), .val (.int cl0), .val (.int cl1), .val (.int rm0), .val (.int rm1), .unset, .unset, .unset] [(.int cl1), (.int q1)])) t → Steps p.tables e below (s₁.setTop (entryFrame m #[(.int u1), (.int u2), (.int u3), (.int u4), (.int u5), (.int u6)] maxLocals)) t := fun t k => P1269 t (by
    refine XS.aload X1267.here hx rfl (hb hby at_302) rfl rfl ?_
    show Steps p.tables e below (T1267.setTop (mkF m 304 #[.val (.int u1), .val (.int u2), .val (.int u3), .val (.int u4), .val (.int u5), .val (.int u6), .val (.int (Int32.ofNat y0)), .val (.int (Int32.ofNat y1)), .val (.int (Int32.ofNat z1)), .val (.ref b1190), .val (.ref b1196), .val (.ref b1200), .val (.ref t2), .val (.ref t3), .val (.double (FP.l2d (Int64.ofNat z2))), .second, .val (.double (FP.l2d (Int64.ofNat z3))), .second, .val (.int kp), .val (.int (Int32.ofNat zp)), .val (.ref pr), .val (.ref b1216), .val (.int (Int32.ofNat 2)), .val (.int cl0), .val (.int cl1), .val (.int rm0), .val (.int rm1), .unset, .unset, .unset] [(.ref b1216)])) _
    refine XS.aload X1267.here hx rfl (hb hby at_304) rfl rfl ?_
    show Steps p.tables e below (T1267.setTop (mkF m 306 #[.val (.int u1), .val (.int u2), .val (.int u3), .val (.int u4), .val (.int u5), .val (.int u6), .val (.int (Int32.ofNat y0)), .val (.int (Int32.ofNat y1)), .val (.int (Int32.ofNat z1)), .val (.ref b1190), .val (.ref b1196), .val (.ref b1200), .val (.ref t2), .val (.ref t3), .val (.double (FP.l2d (Int64.ofNat z2))), .second, .val (.double (FP.l2d (Int64.ofNat z3))), .second, .val (.int kp), .val (.int (Int32.ofNat zp)), .val (.ref pr), .val (.ref b1216), .val (.int (Int32.ofNat 2)), .val (.int cl0), .val (.int cl1), .val (.int rm0), .val (.int rm1), .unset, .unset, .unset] [(.ref b1200), (.ref b1216)])) _
    refine st1272.trans ?_
    show Steps p.tables e below (T1272.setTop (mkF m 309 #[.val (.int u1), .val (.int u2), .val (.int u3), .val (.int u4), .val (.int u5), .val (.int u6), .val (.int (Int32.ofNat y0)), .val (.int (Int32.ofNat y1)), .val (.int (Int32.ofNat z1)), .val (.ref b1190), .val (.ref b1196), .val (.ref b1200), .val (.ref t2), .val (.ref t3), .val (.double (FP.l2d (Int64.ofNat z2))), .second, .val (.double (FP.l2d (Int64.ofNat z3))), .second, .val (.int kp), .val (.int (Int32.ofNat zp)), .val (.ref pr), .val (.ref b1216), .val (.int (Int32.ofNat 2)), .val (.int cl0), .val (.int cl1), .val (.int rm0), .val (.int rm1), .unset, .unset, .unset] [(.int q1)])) _
    refine XS.iload X1272.here hx rfl (hb hby at_309) rfl ?_
    show Steps p.tables e below (T1272.setTop (mkF m 311 #[.val (.int u1), .val (.int u2), .val (.int u3), .val (.int u4), .val (.int u5), .val (.int u6), .val (.int (Int32.ofNat y0)), .val (.int (Int32.ofNat y1)), .val (.int (Int32.ofNat z1)), .val (.ref b1190), .val (.ref b1196), .val (.ref b1200), .val (.ref t2), .val (.ref t3), .val (.double (FP.l2d (Int64.ofNat z2))), .second, .val (.double (FP.l2d (Int64.ofNat z3))), .second, .val (.int kp), .val (.int (Int32.ofNat zp)), .val (.ref pr), .val (.ref b1216), .val (.int (Int32.ofNat 2)), .val (.int cl0), .val (.int cl1), .val (.int rm0), .val (.int rm1), .unset, .unset, .unset] [(.int cl1), (.int q1)])) _
    exact k)
  have P1274 : (∀ t, Steps p.tables e below (T1272.setTop (mkF m 322 #[.val (.int u1), .val (.int u2), .val (.int u3), .val (.int u4), .val (.int u5), .val (.int u6), .val (.int (Int32.ofNat y0)), .val (.int (Int32.ofNat y1)), .val (.int (Int32.ofNat z1)), .val (.ref b1190), .val (.ref b1196), .val (.ref b1200), .val (.ref t2), .val (.ref t3), .val (.double (FP.l2d (Int64.ofNat z2))), .second, .val (.double (FP.l2d (Int64.ofNat z3))), .second, .val (.int kp), .val (.int (Int32.ofNat zp)), .val (.ref pr), .val (.ref b1216), .val (.int (Int32.ofNat 2)), .val (.int cl0), .val (.int cl1), .val (.int rm0), .val (.int rm1), .unset, .unset, .unset] [])) t → Steps p.tables e below (s₁.setTop (entryFrame m #[(.int u1), (.int u2), (.int u3), (.int u4), (.int u5), (.int u6)] maxLocals)) t) := by
    by_cases hd1 : cl1 = (0 : Int32)
    · have P1275 : ∀ t, Steps p.tables e below (T1272.setTop (mkF m 322 #[.val (.int u1), .val (.int u2), .val (.int u3), .val (.int u4), .val (.int u5), .val (.int u6), .val (.int (Int32.ofNat y0)), .val (.int (Int32.ofNat y1)), .val (.int (Int32.ofNat z1)), .val (.ref b1190), .val (.ref b1196), .val (.ref b1200), .val (.ref t2), .val (.ref t3), .val (.double (FP.l2d (Int64.ofNat z2))), .second, .val (.double (FP.l2d (Int64.ofNat z3))), .second, .val (.int kp), .val (.int (Int32.ofNat zp)), .val (.ref pr), .val (.ref b1216), .val (.int (Int32.ofNat 2)), .val (.int cl0), .val (.int cl1), .val (.int rm0), .val (.int rm1), .unset, .unset, .unset] [])) t → Steps p.tables e below (s₁.setTop (entryFrame m #[(.int u1), (.int u2), (.int u3), (.int u4), (.int u5), (.int u6)] maxLocals)) t := fun t k => P1273 t (by
        refine XS.ifNo X1272.here hx rfl (hb hby at_311) rfl ((if0 _ _).trans (teq hd1).2) ?_
        show Steps p.tables e below (T1272.setTop (mkF m 314 #[.val (.int u1), .val (.int u2), .val (.int u3), .val (.int u4), .val (.int u5), .val (.int u6), .val (.int (Int32.ofNat y0)), .val (.int (Int32.ofNat y1)), .val (.int (Int32.ofNat z1)), .val (.ref b1190), .val (.ref b1196), .val (.ref b1200), .val (.ref t2), .val (.ref t3), .val (.double (FP.l2d (Int64.ofNat z2))), .second, .val (.double (FP.l2d (Int64.ofNat z3))), .second, .val (.int kp), .val (.int (Int32.ofNat zp)), .val (.ref pr), .val (.ref b1216), .val (.int (Int32.ofNat 2)), .val (.int cl0), .val (.int cl1), .val (.int rm0), .val (.int rm1), .unset, .unset, .unset] [(.int q1)])) _
        refine XS.iconst X1272.here hx rfl (hb hby at_314) ?_
        show Steps p.tables e below (T1272.setTop (mkF m 315 #[.val (.int u1), .val (.int u2), .val (.int u3), .val (.int u4), .val (.int u5), .val (.int u6), .val (.int (Int32.ofNat y0)), .val (.int (Int32.ofNat y1)), .val (.int (Int32.ofNat z1)), .val (.ref b1190), .val (.ref b1196), .val (.ref b1200), .val (.ref t2), .val (.ref t3), .val (.double (FP.l2d (Int64.ofNat z2))), .second, .val (.double (FP.l2d (Int64.ofNat z3))), .second, .val (.int kp), .val (.int (Int32.ofNat zp)), .val (.ref pr), .val (.ref b1216), .val (.int (Int32.ofNat 2)), .val (.int cl0), .val (.int cl1), .val (.int rm0), .val (.int rm1), .unset, .unset, .unset] [(.int (1 : Int32)), (.int q1)])) _
        refine XS.goto X1272.here hx rfl (pc0 := 315) (pc' := 319) rfl (hb hby at_315) (by decide) (by decide) ?_
        show Steps p.tables e below (T1272.setTop (mkF m 319 #[.val (.int u1), .val (.int u2), .val (.int u3), .val (.int u4), .val (.int u5), .val (.int u6), .val (.int (Int32.ofNat y0)), .val (.int (Int32.ofNat y1)), .val (.int (Int32.ofNat z1)), .val (.ref b1190), .val (.ref b1196), .val (.ref b1200), .val (.ref t2), .val (.ref t3), .val (.double (FP.l2d (Int64.ofNat z2))), .second, .val (.double (FP.l2d (Int64.ofNat z3))), .second, .val (.int kp), .val (.int (Int32.ofNat zp)), .val (.ref pr), .val (.ref b1216), .val (.int (Int32.ofNat 2)), .val (.int cl0), .val (.int cl1), .val (.int rm0), .val (.int rm1), .unset, .unset, .unset] [(.int (1 : Int32)), (.int q1)])) _
        refine XS.icmpNo X1272.here hx rfl (hb hby at_319) rfl (teq (hqa1 (hza1 hd1))).2 ?_
        show Steps p.tables e below (T1272.setTop (mkF m 322 #[.val (.int u1), .val (.int u2), .val (.int u3), .val (.int u4), .val (.int u5), .val (.int u6), .val (.int (Int32.ofNat y0)), .val (.int (Int32.ofNat y1)), .val (.int (Int32.ofNat z1)), .val (.ref b1190), .val (.ref b1196), .val (.ref b1200), .val (.ref t2), .val (.ref t3), .val (.double (FP.l2d (Int64.ofNat z2))), .second, .val (.double (FP.l2d (Int64.ofNat z3))), .second, .val (.int kp), .val (.int (Int32.ofNat zp)), .val (.ref pr), .val (.ref b1216), .val (.int (Int32.ofNat 2)), .val (.int cl0), .val (.int cl1), .val (.int rm0), .val (.int rm1), .unset, .unset, .unset] [])) _
        exact k)
      exact P1275
    · have P1276 : ∀ t, Steps p.tables e below (T1272.setTop (mkF m 322 #[.val (.int u1), .val (.int u2), .val (.int u3), .val (.int u4), .val (.int u5), .val (.int u6), .val (.int (Int32.ofNat y0)), .val (.int (Int32.ofNat y1)), .val (.int (Int32.ofNat z1)), .val (.ref b1190), .val (.ref b1196), .val (.ref b1200), .val (.ref t2), .val (.ref t3), .val (.double (FP.l2d (Int64.ofNat z2))), .second, .val (.double (FP.l2d (Int64.ofNat z3))), .second, .val (.int kp), .val (.int (Int32.ofNat zp)), .val (.ref pr), .val (.ref b1216), .val (.int (Int32.ofNat 2)), .val (.int cl0), .val (.int cl1), .val (.int rm0), .val (.int rm1), .unset, .unset, .unset] [])) t → Steps p.tables e below (s₁.setTop (entryFrame m #[(.int u1), (.int u2), (.int u3), (.int u4), (.int u5), (.int u6)] maxLocals)) t := fun t k => P1273 t (by
        refine XS.ifYes X1272.here hx rfl (pc0 := 311) (pc' := 318) rfl (hb hby at_311) rfl ((if0 _ _).trans (feq hd1).2) (by decide) (by decide) ?_
        show Steps p.tables e below (T1272.setTop (mkF m 318 #[.val (.int u1), .val (.int u2), .val (.int u3), .val (.int u4), .val (.int u5), .val (.int u6), .val (.int (Int32.ofNat y0)), .val (.int (Int32.ofNat y1)), .val (.int (Int32.ofNat z1)), .val (.ref b1190), .val (.ref b1196), .val (.ref b1200), .val (.ref t2), .val (.ref t3), .val (.double (FP.l2d (Int64.ofNat z2))), .second, .val (.double (FP.l2d (Int64.ofNat z3))), .second, .val (.int kp), .val (.int (Int32.ofNat zp)), .val (.ref pr), .val (.ref b1216), .val (.int (Int32.ofNat 2)), .val (.int cl0), .val (.int cl1), .val (.int rm0), .val (.int rm1), .unset, .unset, .unset] [(.int q1)])) _
        refine XS.iconst X1272.here hx rfl (hb hby at_318) ?_
        show Steps p.tables e below (T1272.setTop (mkF m 319 #[.val (.int u1), .val (.int u2), .val (.int u3), .val (.int u4), .val (.int u5), .val (.int u6), .val (.int (Int32.ofNat y0)), .val (.int (Int32.ofNat y1)), .val (.int (Int32.ofNat z1)), .val (.ref b1190), .val (.ref b1196), .val (.ref b1200), .val (.ref t2), .val (.ref t3), .val (.double (FP.l2d (Int64.ofNat z2))), .second, .val (.double (FP.l2d (Int64.ofNat z3))), .second, .val (.int kp), .val (.int (Int32.ofNat zp)), .val (.ref pr), .val (.ref b1216), .val (.int (Int32.ofNat 2)), .val (.int cl0), .val (.int cl1), .val (.int rm0), .val (.int rm1), .unset, .unset, .unset] [(.int (0 : Int32)), (.int q1)])) _
        refine XS.icmpNo X1272.here hx rfl (hb hby at_319) rfl (teq (hqb1 (hzb1 hd1))).2 ?_
        show Steps p.tables e below (T1272.setTop (mkF m 322 #[.val (.int u1), .val (.int u2), .val (.int u3), .val (.int u4), .val (.int u5), .val (.int u6), .val (.int (Int32.ofNat y0)), .val (.int (Int32.ofNat y1)), .val (.int (Int32.ofNat z1)), .val (.ref b1190), .val (.ref b1196), .val (.ref b1200), .val (.ref t2), .val (.ref t3), .val (.double (FP.l2d (Int64.ofNat z2))), .second, .val (.double (FP.l2d (Int64.ofNat z3))), .second, .val (.int kp), .val (.int (Int32.ofNat zp)), .val (.ref pr), .val (.ref b1216), .val (.int (Int32.ofNat 2)), .val (.int cl0), .val (.int cl1), .val (.int rm0), .val (.int rm1), .unset, .unset, .unset] [])) _
        exact k)
      exact P1276
  have P1277 : ∀ t, Steps p.tables e below (T1272.setTop (mkF m 331 #[.val (.int u1), .val (.int u2), .val (.int u3), .val (.int u4), .val (.int u5), .val (.int u6), .val (.int (Int32.ofNat y0)), .val (.int (Int32.ofNat y1)), .val (.int (Int32.ofNat z1)), .val (.ref b1190), .val (.ref b1196), .val (.ref b1200), .val (.ref t2), .val (.ref t3), .val (.double (FP.l2d (Int64.ofNat z2))), .second, .val (.double (FP.l2d (Int64.ofNat z3))), .second, .val (.int kp), .val (.int (Int32.ofNat zp)), .val (.ref pr), .val (.ref b1216), .val (.int (Int32.ofNat 2)), .val (.int cl0), .val (.int cl1), .val (.int rm0), .val (.int rm1), .val (.int (1 : Int32)), .unset, .unset] [(.int kp)])) t → Steps p.tables e below (s₁.setTop (entryFrame m #[(.int u1), (.int u2), (.int u3), (.int u4), (.int u5), (.int u6)] maxLocals)) t := fun t k => P1274 t (by
    refine XS.iconst X1272.here hx rfl (hb hby at_322) ?_
    show Steps p.tables e below (T1272.setTop (mkF m 323 #[.val (.int u1), .val (.int u2), .val (.int u3), .val (.int u4), .val (.int u5), .val (.int u6), .val (.int (Int32.ofNat y0)), .val (.int (Int32.ofNat y1)), .val (.int (Int32.ofNat z1)), .val (.ref b1190), .val (.ref b1196), .val (.ref b1200), .val (.ref t2), .val (.ref t3), .val (.double (FP.l2d (Int64.ofNat z2))), .second, .val (.double (FP.l2d (Int64.ofNat z3))), .second, .val (.int kp), .val (.int (Int32.ofNat zp)), .val (.ref pr), .val (.ref b1216), .val (.int (Int32.ofNat 2)), .val (.int cl0), .val (.int cl1), .val (.int rm0), .val (.int rm1), .unset, .unset, .unset] [(.int (1 : Int32))])) _
    refine XS.goto X1272.here hx rfl (pc0 := 323) (pc' := 327) rfl (hb hby at_323) (by decide) (by decide) ?_
    show Steps p.tables e below (T1272.setTop (mkF m 327 #[.val (.int u1), .val (.int u2), .val (.int u3), .val (.int u4), .val (.int u5), .val (.int u6), .val (.int (Int32.ofNat y0)), .val (.int (Int32.ofNat y1)), .val (.int (Int32.ofNat z1)), .val (.ref b1190), .val (.ref b1196), .val (.ref b1200), .val (.ref t2), .val (.ref t3), .val (.double (FP.l2d (Int64.ofNat z2))), .second, .val (.double (FP.l2d (Int64.ofNat z3))), .second, .val (.int kp), .val (.int (Int32.ofNat zp)), .val (.ref pr), .val (.ref b1216), .val (.int (Int32.ofNat 2)), .val (.int cl0), .val (.int cl1), .val (.int rm0), .val (.int rm1), .unset, .unset, .unset] [(.int (1 : Int32))])) _
    refine XS.istore X1272.here hx rfl (hb hby at_327) rfl (l' := #[.val (.int u1), .val (.int u2), .val (.int u3), .val (.int u4), .val (.int u5), .val (.int u6), .val (.int (Int32.ofNat y0)), .val (.int (Int32.ofNat y1)), .val (.int (Int32.ofNat z1)), .val (.ref b1190), .val (.ref b1196), .val (.ref b1200), .val (.ref t2), .val (.ref t3), .val (.double (FP.l2d (Int64.ofNat z2))), .second, .val (.double (FP.l2d (Int64.ofNat z3))), .second, .val (.int kp), .val (.int (Int32.ofNat zp)), .val (.ref pr), .val (.ref b1216), .val (.int (Int32.ofNat 2)), .val (.int cl0), .val (.int cl1), .val (.int rm0), .val (.int rm1), .val (.int (1 : Int32)), .unset, .unset]) rfl ?_
    show Steps p.tables e below (T1272.setTop (mkF m 329 #[.val (.int u1), .val (.int u2), .val (.int u3), .val (.int u4), .val (.int u5), .val (.int u6), .val (.int (Int32.ofNat y0)), .val (.int (Int32.ofNat y1)), .val (.int (Int32.ofNat z1)), .val (.ref b1190), .val (.ref b1196), .val (.ref b1200), .val (.ref t2), .val (.ref t3), .val (.double (FP.l2d (Int64.ofNat z2))), .second, .val (.double (FP.l2d (Int64.ofNat z3))), .second, .val (.int kp), .val (.int (Int32.ofNat zp)), .val (.ref pr), .val (.ref b1216), .val (.int (Int32.ofNat 2)), .val (.int cl0), .val (.int cl1), .val (.int rm0), .val (.int rm1), .val (.int (1 : Int32)), .unset, .unset] [])) _
    refine XS.iload X1272.here hx rfl (hb hby at_329) rfl ?_
    show Steps p.tables e below (T1272.setTop (mkF m 331 #[.val (.int u1), .val (.int u2), .val (.int u3), .val (.int u4), .val (.int u5), .val (.int u6), .val (.int (Int32.ofNat y0)), .val (.int (Int32.ofNat y1)), .val (.int (Int32.ofNat z1)), .val (.ref b1190), .val (.ref b1196), .val (.ref b1200), .val (.ref t2), .val (.ref t3), .val (.double (FP.l2d (Int64.ofNat z2))), .second, .val (.double (FP.l2d (Int64.ofNat z3))), .second, .val (.int kp), .val (.int (Int32.ofNat zp)), .val (.ref pr), .val (.ref b1216), .val (.int (Int32.ofNat 2)), .val (.int cl0), .val (.int cl1), .val (.int rm0), .val (.int rm1), .val (.int (1 : Int32)), .unset, .unset] [(.int kp)])) _
    exact k)
  by_cases h331 : kp = (0 : Int32)
  · have P1278 : ∀ t, Steps p.tables e below (T1272.setTop (mkF m 334 #[.val (.int u1), .val (.int u2), .val (.int u3), .val (.int u4), .val (.int u5), .val (.int u6), .val (.int (Int32.ofNat y0)), .val (.int (Int32.ofNat y1)), .val (.int (Int32.ofNat z1)), .val (.ref b1190), .val (.ref b1196), .val (.ref b1200), .val (.ref t2), .val (.ref t3), .val (.double (FP.l2d (Int64.ofNat z2))), .second, .val (.double (FP.l2d (Int64.ofNat z3))), .second, .val (.int kp), .val (.int (Int32.ofNat zp)), .val (.ref pr), .val (.ref b1216), .val (.int (Int32.ofNat 2)), .val (.int cl0), .val (.int cl1), .val (.int rm0), .val (.int rm1), .val (.int (1 : Int32)), .unset, .unset] [])) t → Steps p.tables e below (s₁.setTop (entryFrame m #[(.int u1), (.int u2), (.int u3), (.int u4), (.int u5), (.int u6)] maxLocals)) t := fun t k => P1277 t (by
      refine XS.ifNo X1272.here hx rfl (hb hby at_331) rfl ((if0 _ _).trans (teq h331).2) ?_
      show Steps p.tables e below (T1272.setTop (mkF m 334 #[.val (.int u1), .val (.int u2), .val (.int u3), .val (.int u4), .val (.int u5), .val (.int u6), .val (.int (Int32.ofNat y0)), .val (.int (Int32.ofNat y1)), .val (.int (Int32.ofNat z1)), .val (.ref b1190), .val (.ref b1196), .val (.ref b1200), .val (.ref t2), .val (.ref t3), .val (.double (FP.l2d (Int64.ofNat z2))), .second, .val (.double (FP.l2d (Int64.ofNat z3))), .second, .val (.int kp), .val (.int (Int32.ofNat zp)), .val (.ref pr), .val (.ref b1216), .val (.int (Int32.ofNat 2)), .val (.int cl0), .val (.int cl1), .val (.int rm0), .val (.int rm1), .val (.int (1 : Int32)), .unset, .unset] [])) _
      exact k)
    have hpe : pr = b1196 := (hpr.resolve_right (fun q => q.1 h331)).2
    rw [hpe] at P1278
    have P1279 : ∀ t, Steps p.tables e below (T1272.setTop (mkF m 364 #[.val (.int u1), .val (.int u2), .val (.int u3), .val (.int u4), .val (.int u5), .val (.int u6), .val (.int (Int32.ofNat y0)), .val (.int (Int32.ofNat y1)), .val (.int (Int32.ofNat z1)), .val (.ref b1190), .val (.ref b1196), .val (.ref b1200), .val (.ref t2), .val (.ref t3), .val (.double (FP.l2d (Int64.ofNat z2))), .second, .val (.double (FP.l2d (Int64.ofNat z3))), .second, .val (.int kp), .val (.int (Int32.ofNat zp)), .val (.ref b1196), .val (.ref b1216), .val (.int (Int32.ofNat 2)), .val (.int cl0), .val (.int cl1), .val (.int rm0), .val (.int rm1), .val (.int (1 : Int32)), .val (.int cl0), .val (.int rm0)] [(.int cl0)])) t → Steps p.tables e below (s₁.setTop (entryFrame m #[(.int u1), (.int u2), (.int u3), (.int u4), (.int u5), (.int u6)] maxLocals)) t := fun t k => P1278 t (by
      refine XS.iload X1272.here hx rfl (hb hby at_334) rfl ?_
      show Steps p.tables e below (T1272.setTop (mkF m 336 #[.val (.int u1), .val (.int u2), .val (.int u3), .val (.int u4), .val (.int u5), .val (.int u6), .val (.int (Int32.ofNat y0)), .val (.int (Int32.ofNat y1)), .val (.int (Int32.ofNat z1)), .val (.ref b1190), .val (.ref b1196), .val (.ref b1200), .val (.ref t2), .val (.ref t3), .val (.double (FP.l2d (Int64.ofNat z2))), .second, .val (.double (FP.l2d (Int64.ofNat z3))), .second, .val (.int kp), .val (.int (Int32.ofNat zp)), .val (.ref b1196), .val (.ref b1216), .val (.int (Int32.ofNat 2)), .val (.int cl0), .val (.int cl1), .val (.int rm0), .val (.int rm1), .val (.int (1 : Int32)), .unset, .unset] [(.int cl0)])) _
      refine XS.goto X1272.here hx rfl (pc0 := 336) (pc' := 341) rfl (hb hby at_336) (by decide) (by decide) ?_
      show Steps p.tables e below (T1272.setTop (mkF m 341 #[.val (.int u1), .val (.int u2), .val (.int u3), .val (.int u4), .val (.int u5), .val (.int u6), .val (.int (Int32.ofNat y0)), .val (.int (Int32.ofNat y1)), .val (.int (Int32.ofNat z1)), .val (.ref b1190), .val (.ref b1196), .val (.ref b1200), .val (.ref t2), .val (.ref t3), .val (.double (FP.l2d (Int64.ofNat z2))), .second, .val (.double (FP.l2d (Int64.ofNat z3))), .second, .val (.int kp), .val (.int (Int32.ofNat zp)), .val (.ref b1196), .val (.ref b1216), .val (.int (Int32.ofNat 2)), .val (.int cl0), .val (.int cl1), .val (.int rm0), .val (.int rm1), .val (.int (1 : Int32)), .unset, .unset] [(.int cl0)])) _
      refine XS.istore X1272.here hx rfl (hb hby at_341) rfl (l' := #[.val (.int u1), .val (.int u2), .val (.int u3), .val (.int u4), .val (.int u5), .val (.int u6), .val (.int (Int32.ofNat y0)), .val (.int (Int32.ofNat y1)), .val (.int (Int32.ofNat z1)), .val (.ref b1190), .val (.ref b1196), .val (.ref b1200), .val (.ref t2), .val (.ref t3), .val (.double (FP.l2d (Int64.ofNat z2))), .second, .val (.double (FP.l2d (Int64.ofNat z3))), .second, .val (.int kp), .val (.int (Int32.ofNat zp)), .val (.ref b1196), .val (.ref b1216), .val (.int (Int32.ofNat 2)), .val (.int cl0), .val (.int cl1), .val (.int rm0), .val (.int rm1), .val (.int (1 : Int32)), .val (.int cl0), .unset]) rfl ?_
      show Steps p.tables e below (T1272.setTop (mkF m 343 #[.val (.int u1), .val (.int u2), .val (.int u3), .val (.int u4), .val (.int u5), .val (.int u6), .val (.int (Int32.ofNat y0)), .val (.int (Int32.ofNat y1)), .val (.int (Int32.ofNat z1)), .val (.ref b1190), .val (.ref b1196), .val (.ref b1200), .val (.ref t2), .val (.ref t3), .val (.double (FP.l2d (Int64.ofNat z2))), .second, .val (.double (FP.l2d (Int64.ofNat z3))), .second, .val (.int kp), .val (.int (Int32.ofNat zp)), .val (.ref b1196), .val (.ref b1216), .val (.int (Int32.ofNat 2)), .val (.int cl0), .val (.int cl1), .val (.int rm0), .val (.int rm1), .val (.int (1 : Int32)), .val (.int cl0), .unset] [])) _
      refine XS.iload X1272.here hx rfl (hb hby at_343) rfl ?_
      show Steps p.tables e below (T1272.setTop (mkF m 345 #[.val (.int u1), .val (.int u2), .val (.int u3), .val (.int u4), .val (.int u5), .val (.int u6), .val (.int (Int32.ofNat y0)), .val (.int (Int32.ofNat y1)), .val (.int (Int32.ofNat z1)), .val (.ref b1190), .val (.ref b1196), .val (.ref b1200), .val (.ref t2), .val (.ref t3), .val (.double (FP.l2d (Int64.ofNat z2))), .second, .val (.double (FP.l2d (Int64.ofNat z3))), .second, .val (.int kp), .val (.int (Int32.ofNat zp)), .val (.ref b1196), .val (.ref b1216), .val (.int (Int32.ofNat 2)), .val (.int cl0), .val (.int cl1), .val (.int rm0), .val (.int rm1), .val (.int (1 : Int32)), .val (.int cl0), .unset] [(.int kp)])) _
      refine XS.ifNo X1272.here hx rfl (hb hby at_345) rfl ((if0 _ _).trans (teq h331).2) ?_
      show Steps p.tables e below (T1272.setTop (mkF m 348 #[.val (.int u1), .val (.int u2), .val (.int u3), .val (.int u4), .val (.int u5), .val (.int u6), .val (.int (Int32.ofNat y0)), .val (.int (Int32.ofNat y1)), .val (.int (Int32.ofNat z1)), .val (.ref b1190), .val (.ref b1196), .val (.ref b1200), .val (.ref t2), .val (.ref t3), .val (.double (FP.l2d (Int64.ofNat z2))), .second, .val (.double (FP.l2d (Int64.ofNat z3))), .second, .val (.int kp), .val (.int (Int32.ofNat zp)), .val (.ref b1196), .val (.ref b1216), .val (.int (Int32.ofNat 2)), .val (.int cl0), .val (.int cl1), .val (.int rm0), .val (.int rm1), .val (.int (1 : Int32)), .val (.int cl0), .unset] [])) _
      refine XS.iload X1272.here hx rfl (hb hby at_348) rfl ?_
      show Steps p.tables e below (T1272.setTop (mkF m 350 #[.val (.int u1), .val (.int u2), .val (.int u3), .val (.int u4), .val (.int u5), .val (.int u6), .val (.int (Int32.ofNat y0)), .val (.int (Int32.ofNat y1)), .val (.int (Int32.ofNat z1)), .val (.ref b1190), .val (.ref b1196), .val (.ref b1200), .val (.ref t2), .val (.ref t3), .val (.double (FP.l2d (Int64.ofNat z2))), .second, .val (.double (FP.l2d (Int64.ofNat z3))), .second, .val (.int kp), .val (.int (Int32.ofNat zp)), .val (.ref b1196), .val (.ref b1216), .val (.int (Int32.ofNat 2)), .val (.int cl0), .val (.int cl1), .val (.int rm0), .val (.int rm1), .val (.int (1 : Int32)), .val (.int cl0), .unset] [(.int rm0)])) _
      refine XS.goto X1272.here hx rfl (pc0 := 350) (pc' := 355) rfl (hb hby at_350) (by decide) (by decide) ?_
      show Steps p.tables e below (T1272.setTop (mkF m 355 #[.val (.int u1), .val (.int u2), .val (.int u3), .val (.int u4), .val (.int u5), .val (.int u6), .val (.int (Int32.ofNat y0)), .val (.int (Int32.ofNat y1)), .val (.int (Int32.ofNat z1)), .val (.ref b1190), .val (.ref b1196), .val (.ref b1200), .val (.ref t2), .val (.ref t3), .val (.double (FP.l2d (Int64.ofNat z2))), .second, .val (.double (FP.l2d (Int64.ofNat z3))), .second, .val (.int kp), .val (.int (Int32.ofNat zp)), .val (.ref b1196), .val (.ref b1216), .val (.int (Int32.ofNat 2)), .val (.int cl0), .val (.int cl1), .val (.int rm0), .val (.int rm1), .val (.int (1 : Int32)), .val (.int cl0), .unset] [(.int rm0)])) _
      refine XS.istore X1272.here hx rfl (hb hby at_355) rfl (l' := #[.val (.int u1), .val (.int u2), .val (.int u3), .val (.int u4), .val (.int u5), .val (.int u6), .val (.int (Int32.ofNat y0)), .val (.int (Int32.ofNat y1)), .val (.int (Int32.ofNat z1)), .val (.ref b1190), .val (.ref b1196), .val (.ref b1200), .val (.ref t2), .val (.ref t3), .val (.double (FP.l2d (Int64.ofNat z2))), .second, .val (.double (FP.l2d (Int64.ofNat z3))), .second, .val (.int kp), .val (.int (Int32.ofNat zp)), .val (.ref b1196), .val (.ref b1216), .val (.int (Int32.ofNat 2)), .val (.int cl0), .val (.int cl1), .val (.int rm0), .val (.int rm1), .val (.int (1 : Int32)), .val (.int cl0), .val (.int rm0)]) rfl ?_
      show Steps p.tables e below (T1272.setTop (mkF m 357 #[.val (.int u1), .val (.int u2), .val (.int u3), .val (.int u4), .val (.int u5), .val (.int u6), .val (.int (Int32.ofNat y0)), .val (.int (Int32.ofNat y1)), .val (.int (Int32.ofNat z1)), .val (.ref b1190), .val (.ref b1196), .val (.ref b1200), .val (.ref t2), .val (.ref t3), .val (.double (FP.l2d (Int64.ofNat z2))), .second, .val (.double (FP.l2d (Int64.ofNat z3))), .second, .val (.int kp), .val (.int (Int32.ofNat zp)), .val (.ref b1196), .val (.ref b1216), .val (.int (Int32.ofNat 2)), .val (.int cl0), .val (.int cl1), .val (.int rm0), .val (.int rm1), .val (.int (1 : Int32)), .val (.int cl0), .val (.int rm0)] [])) _
      refine XS.iload X1272.here hx rfl (hb hby at_357) rfl ?_
      show Steps p.tables e below (T1272.setTop (mkF m 359 #[.val (.int u1), .val (.int u2), .val (.int u3), .val (.int u4), .val (.int u5), .val (.int u6), .val (.int (Int32.ofNat y0)), .val (.int (Int32.ofNat y1)), .val (.int (Int32.ofNat z1)), .val (.ref b1190), .val (.ref b1196), .val (.ref b1200), .val (.ref t2), .val (.ref t3), .val (.double (FP.l2d (Int64.ofNat z2))), .second, .val (.double (FP.l2d (Int64.ofNat z3))), .second, .val (.int kp), .val (.int (Int32.ofNat zp)), .val (.ref b1196), .val (.ref b1216), .val (.int (Int32.ofNat 2)), .val (.int cl0), .val (.int cl1), .val (.int rm0), .val (.int rm1), .val (.int (1 : Int32)), .val (.int cl0), .val (.int rm0)] [(.int (1 : Int32))])) _
      refine XS.ifNo X1272.here hx rfl (hb hby at_359) rfl ((if0 _ _).trans (feq (by decide)).1) ?_
      show Steps p.tables e below (T1272.setTop (mkF m 362 #[.val (.int u1), .val (.int u2), .val (.int u3), .val (.int u4), .val (.int u5), .val (.int u6), .val (.int (Int32.ofNat y0)), .val (.int (Int32.ofNat y1)), .val (.int (Int32.ofNat z1)), .val (.ref b1190), .val (.ref b1196), .val (.ref b1200), .val (.ref t2), .val (.ref t3), .val (.double (FP.l2d (Int64.ofNat z2))), .second, .val (.double (FP.l2d (Int64.ofNat z3))), .second, .val (.int kp), .val (.int (Int32.ofNat zp)), .val (.ref b1196), .val (.ref b1216), .val (.int (Int32.ofNat 2)), .val (.int cl0), .val (.int cl1), .val (.int rm0), .val (.int rm1), .val (.int (1 : Int32)), .val (.int cl0), .val (.int rm0)] [])) _
      refine XS.iload X1272.here hx rfl (hb hby at_362) rfl ?_
      show Steps p.tables e below (T1272.setTop (mkF m 364 #[.val (.int u1), .val (.int u2), .val (.int u3), .val (.int u4), .val (.int u5), .val (.int u6), .val (.int (Int32.ofNat y0)), .val (.int (Int32.ofNat y1)), .val (.int (Int32.ofNat z1)), .val (.ref b1190), .val (.ref b1196), .val (.ref b1200), .val (.ref t2), .val (.ref t3), .val (.double (FP.l2d (Int64.ofNat z2))), .second, .val (.double (FP.l2d (Int64.ofNat z3))), .second, .val (.int kp), .val (.int (Int32.ofNat zp)), .val (.ref b1196), .val (.ref b1216), .val (.int (Int32.ofNat 2)), .val (.int cl0), .val (.int cl1), .val (.int rm0), .val (.int rm1), .val (.int (1 : Int32)), .val (.int cl0), .val (.int rm0)] [(.int cl0)])) _
      exact k)
    by_cases h364 : cl0 = (0 : Int32)
    · have P1280 : ∀ t, Steps p.tables e below (T1272.setTop (mkF m 377 #[.val (.int u1), .val (.int u2), .val (.int u3), .val (.int u4), .val (.int u5), .val (.int u6), .val (.int (Int32.ofNat y0)), .val (.int (Int32.ofNat y1)), .val (.int (Int32.ofNat z1)), .val (.ref b1190), .val (.ref b1196), .val (.ref b1200), .val (.ref t2), .val (.ref t3), .val (.double (FP.l2d (Int64.ofNat z2))), .second, .val (.double (FP.l2d (Int64.ofNat z3))), .second, .val (.int kp), .val (.int (Int32.ofNat zp)), .val (.ref b1196), .val (.ref b1216), .val (.int (Int32.ofNat 2)), .val (.int cl0), .val (.int cl1), .val (.int rm0), .val (.int rm1), .val (.int (1 : Int32)), .val (.int cl0), .val (.int rm0)] [(.double (FP.i2d (Int32.ofNat zp))), (.ref b1196), (.ref b1216)])) t → Steps p.tables e below (s₁.setTop (entryFrame m #[(.int u1), (.int u2), (.int u3), (.int u4), (.int u5), (.int u6)] maxLocals)) t := fun t k => P1279 t (by
        refine XS.ifYes X1272.here hx rfl (pc0 := 364) (pc' := 370) rfl (hb hby at_364) rfl ((if0 _ _).trans (teq h364).1) (by decide) (by decide) ?_
        show Steps p.tables e below (T1272.setTop (mkF m 370 #[.val (.int u1), .val (.int u2), .val (.int u3), .val (.int u4), .val (.int u5), .val (.int u6), .val (.int (Int32.ofNat y0)), .val (.int (Int32.ofNat y1)), .val (.int (Int32.ofNat z1)), .val (.ref b1190), .val (.ref b1196), .val (.ref b1200), .val (.ref t2), .val (.ref t3), .val (.double (FP.l2d (Int64.ofNat z2))), .second, .val (.double (FP.l2d (Int64.ofNat z3))), .second, .val (.int kp), .val (.int (Int32.ofNat zp)), .val (.ref b1196), .val (.ref b1216), .val (.int (Int32.ofNat 2)), .val (.int cl0), .val (.int cl1), .val (.int rm0), .val (.int rm1), .val (.int (1 : Int32)), .val (.int cl0), .val (.int rm0)] [])) _
        refine XS.aload X1272.here hx rfl (hb hby at_370) rfl rfl ?_
        show Steps p.tables e below (T1272.setTop (mkF m 372 #[.val (.int u1), .val (.int u2), .val (.int u3), .val (.int u4), .val (.int u5), .val (.int u6), .val (.int (Int32.ofNat y0)), .val (.int (Int32.ofNat y1)), .val (.int (Int32.ofNat z1)), .val (.ref b1190), .val (.ref b1196), .val (.ref b1200), .val (.ref t2), .val (.ref t3), .val (.double (FP.l2d (Int64.ofNat z2))), .second, .val (.double (FP.l2d (Int64.ofNat z3))), .second, .val (.int kp), .val (.int (Int32.ofNat zp)), .val (.ref b1196), .val (.ref b1216), .val (.int (Int32.ofNat 2)), .val (.int cl0), .val (.int cl1), .val (.int rm0), .val (.int rm1), .val (.int (1 : Int32)), .val (.int cl0), .val (.int rm0)] [(.ref b1216)])) _
        refine XS.aload X1272.here hx rfl (hb hby at_372) rfl rfl ?_
        show Steps p.tables e below (T1272.setTop (mkF m 374 #[.val (.int u1), .val (.int u2), .val (.int u3), .val (.int u4), .val (.int u5), .val (.int u6), .val (.int (Int32.ofNat y0)), .val (.int (Int32.ofNat y1)), .val (.int (Int32.ofNat z1)), .val (.ref b1190), .val (.ref b1196), .val (.ref b1200), .val (.ref t2), .val (.ref t3), .val (.double (FP.l2d (Int64.ofNat z2))), .second, .val (.double (FP.l2d (Int64.ofNat z3))), .second, .val (.int kp), .val (.int (Int32.ofNat zp)), .val (.ref b1196), .val (.ref b1216), .val (.int (Int32.ofNat 2)), .val (.int cl0), .val (.int cl1), .val (.int rm0), .val (.int rm1), .val (.int (1 : Int32)), .val (.int cl0), .val (.int rm0)] [(.ref b1196), (.ref b1216)])) _
        refine XS.iload X1272.here hx rfl (hb hby at_374) rfl ?_
        show Steps p.tables e below (T1272.setTop (mkF m 376 #[.val (.int u1), .val (.int u2), .val (.int u3), .val (.int u4), .val (.int u5), .val (.int u6), .val (.int (Int32.ofNat y0)), .val (.int (Int32.ofNat y1)), .val (.int (Int32.ofNat z1)), .val (.ref b1190), .val (.ref b1196), .val (.ref b1200), .val (.ref t2), .val (.ref t3), .val (.double (FP.l2d (Int64.ofNat z2))), .second, .val (.double (FP.l2d (Int64.ofNat z3))), .second, .val (.int kp), .val (.int (Int32.ofNat zp)), .val (.ref b1196), .val (.ref b1216), .val (.int (Int32.ofNat 2)), .val (.int cl0), .val (.int cl1), .val (.int rm0), .val (.int rm1), .val (.int (1 : Int32)), .val (.int cl0), .val (.int rm0)] [(.int (Int32.ofNat zp)), (.ref b1196), (.ref b1216)])) _
        refine XS.i2dS X1272.here hx rfl (hb hby at_376) rfl (v := FP.i2d (Int32.ofNat zp)) rfl ?_
        show Steps p.tables e below (T1272.setTop (mkF m 377 #[.val (.int u1), .val (.int u2), .val (.int u3), .val (.int u4), .val (.int u5), .val (.int u6), .val (.int (Int32.ofNat y0)), .val (.int (Int32.ofNat y1)), .val (.int (Int32.ofNat z1)), .val (.ref b1190), .val (.ref b1196), .val (.ref b1200), .val (.ref t2), .val (.ref t3), .val (.double (FP.l2d (Int64.ofNat z2))), .second, .val (.double (FP.l2d (Int64.ofNat z3))), .second, .val (.int kp), .val (.int (Int32.ofNat zp)), .val (.ref b1196), .val (.ref b1216), .val (.int (Int32.ofNat 2)), .val (.int cl0), .val (.int cl1), .val (.int rm0), .val (.int rm1), .val (.int (1 : Int32)), .val (.int cl0), .val (.int rm0)] [(.double (FP.i2d (Int32.ofNat zp))), (.ref b1196), (.ref b1216)])) _
        exact k)
      rw [own_i2d zp hzp] at P1280
      obtain ⟨cq1281, kq1281, q1281a, q1281b, q1281c⟩ := isOf hZ eq1 Bu.1
      obtain ⟨_, _, ⟨T1281, L1281, k1281, n1281⟩, -, X1281, ⟨Lc1281, hQ1281, l1281, y1281, z1281⟩, st1281⟩ := X1272.virtualBack hx (y := (⟨"com/example/tributary/tributary/solver/Rooms", "tryJob", "([ID)Z"⟩ : MethodName)) (z := (⟨"com/example/tributary/tributary/solver/Rooms", "tryJob", "([ID)Z"⟩ : MethodName)) hown (mvT hZ (hw _ (List.mem_of_getElem? (i := 35) rfl))) (mvT hZ (hw _ (List.mem_of_getElem? (i := 36) rfl))) (notFace_of_selects (args := #[]) (mvT hZ (hw _ (List.mem_of_getElem? (i := 38) rfl)))) (mvT hZ (hw _ (List.mem_of_getElem? (i := 38) rfl))) (mvT hZ (hw _ (List.mem_of_getElem? (i := 37) rfl))) (by decide) (backOf (W := 0) (rm_try1 l Z a0 hw [] b1216 ar ac al alr alc k1 k2 k3 k4 k5 S4 b1196 k1196 0 zp T1258.heap n0 Z1258 Bu Di Gi OK4 c1259_0 ⟨ne_b1196_b1216, ne_b1196_ar, ne_b1196_ac, ne_b1196_al, ne_b1196_alr, ne_b1196_alc⟩ (by decide) hzp (by omega)) hZ (hw _ (List.mem_of_getElem? (i := 39) rfl)) (hw _ (List.mem_of_getElem? (i := 7) rfl)) (by decide) (by decide)) q1281a q1281c (g := (mkF m 377 #[.val (.int u1), .val (.int u2), .val (.int u3), .val (.int u4), .val (.int u5), .val (.int u6), .val (.int (Int32.ofNat y0)), .val (.int (Int32.ofNat y1)), .val (.int (Int32.ofNat z1)), .val (.ref b1190), .val (.ref b1196), .val (.ref b1200), .val (.ref t2), .val (.ref t3), .val (.double (FP.l2d (Int64.ofNat z2))), .second, .val (.double (FP.l2d (Int64.ofNat z3))), .second, .val (.int kp), .val (.int (Int32.ofNat zp)), .val (.ref b1196), .val (.ref b1216), .val (.int (Int32.ofNat 2)), .val (.int cl0), .val (.int cl1), .val (.int rm0), .val (.int rm1), .val (.int (1 : Int32)), .val (.int cl0), .val (.int rm0)] [(.double (FP.l2d (Int64.ofNat zp))), (.ref b1196), (.ref b1216)])) rfl (by rw [hml]; rfl) (Steps.refl _) (argsL := [(.ref b1196), (.double (FP.l2d (Int64.ofNat zp)))]) (rest := []) (lenOf pd_5 rfl) rfl (by show 2 * 0 + _ ≤ _; exact Nat.le_of_eq rfl) (hb hby at_377) (fun _ _ => ⟨rfl, eq1, (by decide : 12 + 0 ≤ _), (by decide : 44 + 0 ≤ _)⟩)
      dsimp only [Pt.U, Pt.locs, Pt.cells, Pt.slots] at X1281 l1281 y1281 z1281 st1281 hQ1281
      subst l1281 y1281 z1281
      obtain ⟨rfl, N1281q, Kp, Bp⟩ := hQ1281
      have N1281 := Fr.app N1272 N1281q
      have c1282_0 := c1259_0.keep Kp (ninS ne_b1196_b1216 (ninS ne_b1196_ar (ninS ne_b1196_ac (ninS ne_b1196_al (ninS ne_b1196_alr (ninS ne_b1196_alc nin0))))))
      have c1282_1 := c1259_1.keep Kp (ninS ne_b1200_b1216 (ninS ne_b1200_ar (ninS ne_b1200_ac (ninS ne_b1200_al (ninS ne_b1200_alr (ninS ne_b1200_alc nin0))))))
      have Z1281 : n0 ≤ T1281.heap.size := Nat.le_trans Z1258 Kp.1
      have K1281 : Keep h0 T1281.heap [] := K1258.trans Kp (allS (Or.inr sz_b1216) (allS (Or.inr sz_ar) (allS (Or.inr sz_ac) (allS (Or.inr sz_al) (allS (Or.inr sz_alr) (allS (Or.inr sz_alc) all0))))))
      obtain ⟨hfa, hfb⟩ := own_fin (i := 0) (z := zp) OK1 hm1 hrm0 hzp
      have P1283 : ∀ t, Steps p.tables e below (T1281.setTop (mkF m 384 #[.val (.int u1), .val (.int u2), .val (.int u3), .val (.int u4), .val (.int u5), .val (.int u6), .val (.int (Int32.ofNat y0)), .val (.int (Int32.ofNat y1)), .val (.int (Int32.ofNat z1)), .val (.ref b1190), .val (.ref b1196), .val (.ref b1200), .val (.ref t2), .val (.ref t3), .val (.double (FP.l2d (Int64.ofNat z2))), .second, .val (.double (FP.l2d (Int64.ofNat z3))), .second, .val (.int kp), .val (.int (Int32.ofNat zp)), .val (.ref b1196), .val (.ref b1216), .val (.int (Int32.ofNat 2)), .val (.int cl0), .val (.int cl1), .val (.int rm0), .val (.int rm1), .val (.int (1 : Int32)), .val (.int cl0), .val (.int rm0)] [(.int rm0), (.int (Int32.ofNat zp)), (.int (own_fv zp (S4.1.getD 0 0)))])) t → Steps p.tables e below (s₁.setTop (entryFrame m #[(.int u1), (.int u2), (.int u3), (.int u4), (.int u5), (.int u6)] maxLocals)) t := fun t k => P1280 t (by
        refine st1281.trans ?_
        show Steps p.tables e below (T1281.setTop (mkF m 380 #[.val (.int u1), .val (.int u2), .val (.int u3), .val (.int u4), .val (.int u5), .val (.int u6), .val (.int (Int32.ofNat y0)), .val (.int (Int32.ofNat y1)), .val (.int (Int32.ofNat z1)), .val (.ref b1190), .val (.ref b1196), .val (.ref b1200), .val (.ref t2), .val (.ref t3), .val (.double (FP.l2d (Int64.ofNat z2))), .second, .val (.double (FP.l2d (Int64.ofNat z3))), .second, .val (.int kp), .val (.int (Int32.ofNat zp)), .val (.ref b1196), .val (.ref b1216), .val (.int (Int32.ofNat 2)), .val (.int cl0), .val (.int cl1), .val (.int rm0), .val (.int rm1), .val (.int (1 : Int32)), .val (.int cl0), .val (.int rm0)] [(.int (own_fv zp (S4.1.getD 0 0)))])) _
        refine XS.iload X1281.here hx rfl (hb hby at_380) rfl ?_
        show Steps p.tables e below (T1281.setTop (mkF m 382 #[.val (.int u1), .val (.int u2), .val (.int u3), .val (.int u4), .val (.int u5), .val (.int u6), .val (.int (Int32.ofNat y0)), .val (.int (Int32.ofNat y1)), .val (.int (Int32.ofNat z1)), .val (.ref b1190), .val (.ref b1196), .val (.ref b1200), .val (.ref t2), .val (.ref t3), .val (.double (FP.l2d (Int64.ofNat z2))), .second, .val (.double (FP.l2d (Int64.ofNat z3))), .second, .val (.int kp), .val (.int (Int32.ofNat zp)), .val (.ref b1196), .val (.ref b1216), .val (.int (Int32.ofNat 2)), .val (.int cl0), .val (.int cl1), .val (.int rm0), .val (.int rm1), .val (.int (1 : Int32)), .val (.int cl0), .val (.int rm0)] [(.int (Int32.ofNat zp)), (.int (own_fv zp (S4.1.getD 0 0)))])) _
        refine XS.iload X1281.here hx rfl (hb hby at_382) rfl ?_
        show Steps p.tables e below (T1281.setTop (mkF m 384 #[.val (.int u1), .val (.int u2), .val (.int u3), .val (.int u4), .val (.int u5), .val (.int u6), .val (.int (Int32.ofNat y0)), .val (.int (Int32.ofNat y1)), .val (.int (Int32.ofNat z1)), .val (.ref b1190), .val (.ref b1196), .val (.ref b1200), .val (.ref t2), .val (.ref t3), .val (.double (FP.l2d (Int64.ofNat z2))), .second, .val (.double (FP.l2d (Int64.ofNat z3))), .second, .val (.int kp), .val (.int (Int32.ofNat zp)), .val (.ref b1196), .val (.ref b1216), .val (.int (Int32.ofNat 2)), .val (.int cl0), .val (.int cl1), .val (.int rm0), .val (.int rm1), .val (.int (1 : Int32)), .val (.int cl0), .val (.int rm0)] [(.int rm0), (.int (Int32.ofNat zp)), (.int (own_fv zp (S4.1.getD 0 0)))])) _
        exact k)
      by_cases h384 : rm0 < (Int32.ofNat zp)
      · have P1284 : ∀ t, Steps p.tables e below (T1281.setTop (mkF m 400 #[.val (.int u1), .val (.int u2), .val (.int u3), .val (.int u4), .val (.int u5), .val (.int u6), .val (.int (Int32.ofNat y0)), .val (.int (Int32.ofNat y1)), .val (.int (Int32.ofNat z1)), .val (.ref b1190), .val (.ref b1196), .val (.ref b1200), .val (.ref t2), .val (.ref t3), .val (.double (FP.l2d (Int64.ofNat z2))), .second, .val (.double (FP.l2d (Int64.ofNat z3))), .second, .val (.int kp), .val (.int (Int32.ofNat zp)), .val (.ref b1196), .val (.ref b1216), .val (.int (Int32.ofNat 2)), .val (.int cl0), .val (.int cl1), .val (.int rm0), .val (.int rm1), .val (.int (1 : Int32)), .val (.int cl0), .val (.int rm0)] [(.int (1 : Int32))])) t → Steps p.tables e below (s₁.setTop (entryFrame m #[(.int u1), (.int u2), (.int u3), (.int u4), (.int u5), (.int u6)] maxLocals)) t := fun t k => P1283 t (by
          refine XS.icmpYes X1281.here hx rfl (pc0 := 384) (pc' := 391) rfl (hb hby at_384) rfl (tlt h384).2.2.1 (by decide) (by decide) ?_
          show Steps p.tables e below (T1281.setTop (mkF m 391 #[.val (.int u1), .val (.int u2), .val (.int u3), .val (.int u4), .val (.int u5), .val (.int u6), .val (.int (Int32.ofNat y0)), .val (.int (Int32.ofNat y1)), .val (.int (Int32.ofNat z1)), .val (.ref b1190), .val (.ref b1196), .val (.ref b1200), .val (.ref t2), .val (.ref t3), .val (.double (FP.l2d (Int64.ofNat z2))), .second, .val (.double (FP.l2d (Int64.ofNat z3))), .second, .val (.int kp), .val (.int (Int32.ofNat zp)), .val (.ref b1196), .val (.ref b1216), .val (.int (Int32.ofNat 2)), .val (.int cl0), .val (.int cl1), .val (.int rm0), .val (.int rm1), .val (.int (1 : Int32)), .val (.int cl0), .val (.int rm0)] [(.int (own_fv zp (S4.1.getD 0 0)))])) _
          refine XS.iconst X1281.here hx rfl (hb hby at_391) ?_
          show Steps p.tables e below (T1281.setTop (mkF m 392 #[.val (.int u1), .val (.int u2), .val (.int u3), .val (.int u4), .val (.int u5), .val (.int u6), .val (.int (Int32.ofNat y0)), .val (.int (Int32.ofNat y1)), .val (.int (Int32.ofNat z1)), .val (.ref b1190), .val (.ref b1196), .val (.ref b1200), .val (.ref t2), .val (.ref t3), .val (.double (FP.l2d (Int64.ofNat z2))), .second, .val (.double (FP.l2d (Int64.ofNat z3))), .second, .val (.int kp), .val (.int (Int32.ofNat zp)), .val (.ref b1196), .val (.ref b1216), .val (.int (Int32.ofNat 2)), .val (.int cl0), .val (.int cl1), .val (.int rm0), .val (.int rm1), .val (.int (1 : Int32)), .val (.int cl0), .val (.int rm0)] [(.int (0 : Int32)), (.int (own_fv zp (S4.1.getD 0 0)))])) _
          refine XS.icmpNo X1281.here hx rfl (hb hby at_392) rfl (teq (hfa h384)).2 ?_
          show Steps p.tables e below (T1281.setTop (mkF m 395 #[.val (.int u1), .val (.int u2), .val (.int u3), .val (.int u4), .val (.int u5), .val (.int u6), .val (.int (Int32.ofNat y0)), .val (.int (Int32.ofNat y1)), .val (.int (Int32.ofNat z1)), .val (.ref b1190), .val (.ref b1196), .val (.ref b1200), .val (.ref t2), .val (.ref t3), .val (.double (FP.l2d (Int64.ofNat z2))), .second, .val (.double (FP.l2d (Int64.ofNat z3))), .second, .val (.int kp), .val (.int (Int32.ofNat zp)), .val (.ref b1196), .val (.ref b1216), .val (.int (Int32.ofNat 2)), .val (.int cl0), .val (.int cl1), .val (.int rm0), .val (.int rm1), .val (.int (1 : Int32)), .val (.int cl0), .val (.int rm0)] [])) _
          refine XS.iconst X1281.here hx rfl (hb hby at_395) ?_
          show Steps p.tables e below (T1281.setTop (mkF m 396 #[.val (.int u1), .val (.int u2), .val (.int u3), .val (.int u4), .val (.int u5), .val (.int u6), .val (.int (Int32.ofNat y0)), .val (.int (Int32.ofNat y1)), .val (.int (Int32.ofNat z1)), .val (.ref b1190), .val (.ref b1196), .val (.ref b1200), .val (.ref t2), .val (.ref t3), .val (.double (FP.l2d (Int64.ofNat z2))), .second, .val (.double (FP.l2d (Int64.ofNat z3))), .second, .val (.int kp), .val (.int (Int32.ofNat zp)), .val (.ref b1196), .val (.ref b1216), .val (.int (Int32.ofNat 2)), .val (.int cl0), .val (.int cl1), .val (.int rm0), .val (.int rm1), .val (.int (1 : Int32)), .val (.int cl0), .val (.int rm0)] [(.int (1 : Int32))])) _
          refine XS.goto X1281.here hx rfl (pc0 := 396) (pc' := 400) rfl (hb hby at_396) (by decide) (by decide) ?_
          show Steps p.tables e below (T1281.setTop (mkF m 400 #[.val (.int u1), .val (.int u2), .val (.int u3), .val (.int u4), .val (.int u5), .val (.int u6), .val (.int (Int32.ofNat y0)), .val (.int (Int32.ofNat y1)), .val (.int (Int32.ofNat z1)), .val (.ref b1190), .val (.ref b1196), .val (.ref b1200), .val (.ref t2), .val (.ref t3), .val (.double (FP.l2d (Int64.ofNat z2))), .second, .val (.double (FP.l2d (Int64.ofNat z3))), .second, .val (.int kp), .val (.int (Int32.ofNat zp)), .val (.ref b1196), .val (.ref b1216), .val (.int (Int32.ofNat 2)), .val (.int cl0), .val (.int cl1), .val (.int rm0), .val (.int rm1), .val (.int (1 : Int32)), .val (.int cl0), .val (.int rm0)] [(.int (1 : Int32))])) _
          exact k)
        obtain ⟨fs, hr, hrun, hended, hW, hsame⟩ := X1281.leave (v := some (.int (1 : Int32))) (fun h => by rw [Bd.returns] at h; cases h)
        refine ⟨_, _, P1284 _ ?_, hrun, hended, _, _, rfl, ?_, ⟨_, rfl⟩, hW, hsame.mono (by decide) (by decide)⟩
        · exact retN X1281 hx (t := .boolean) Bd.returns (by simp) (hb hby at_400) hr
        · show Q_law Z u1 u2 u3 u4 u5 u6 h0 n0 _ T1281.heap _
          exact ⟨rfl, N1281⟩
      · have P1285 : ∀ t, Steps p.tables e below (T1281.setTop (mkF m 400 #[.val (.int u1), .val (.int u2), .val (.int u3), .val (.int u4), .val (.int u5), .val (.int u6), .val (.int (Int32.ofNat y0)), .val (.int (Int32.ofNat y1)), .val (.int (Int32.ofNat z1)), .val (.ref b1190), .val (.ref b1196), .val (.ref b1200), .val (.ref t2), .val (.ref t3), .val (.double (FP.l2d (Int64.ofNat z2))), .second, .val (.double (FP.l2d (Int64.ofNat z3))), .second, .val (.int kp), .val (.int (Int32.ofNat zp)), .val (.ref b1196), .val (.ref b1216), .val (.int (Int32.ofNat 2)), .val (.int cl0), .val (.int cl1), .val (.int rm0), .val (.int rm1), .val (.int (1 : Int32)), .val (.int cl0), .val (.int rm0)] [(.int (1 : Int32))])) t → Steps p.tables e below (s₁.setTop (entryFrame m #[(.int u1), (.int u2), (.int u3), (.int u4), (.int u5), (.int u6)] maxLocals)) t := fun t k => P1283 t (by
          refine XS.icmpNo X1281.here hx rfl (hb hby at_384) rfl (flt h384).2.2.1 ?_
          show Steps p.tables e below (T1281.setTop (mkF m 387 #[.val (.int u1), .val (.int u2), .val (.int u3), .val (.int u4), .val (.int u5), .val (.int u6), .val (.int (Int32.ofNat y0)), .val (.int (Int32.ofNat y1)), .val (.int (Int32.ofNat z1)), .val (.ref b1190), .val (.ref b1196), .val (.ref b1200), .val (.ref t2), .val (.ref t3), .val (.double (FP.l2d (Int64.ofNat z2))), .second, .val (.double (FP.l2d (Int64.ofNat z3))), .second, .val (.int kp), .val (.int (Int32.ofNat zp)), .val (.ref b1196), .val (.ref b1216), .val (.int (Int32.ofNat 2)), .val (.int cl0), .val (.int cl1), .val (.int rm0), .val (.int rm1), .val (.int (1 : Int32)), .val (.int cl0), .val (.int rm0)] [(.int (own_fv zp (S4.1.getD 0 0)))])) _
          refine XS.iconst X1281.here hx rfl (hb hby at_387) ?_
          show Steps p.tables e below (T1281.setTop (mkF m 388 #[.val (.int u1), .val (.int u2), .val (.int u3), .val (.int u4), .val (.int u5), .val (.int u6), .val (.int (Int32.ofNat y0)), .val (.int (Int32.ofNat y1)), .val (.int (Int32.ofNat z1)), .val (.ref b1190), .val (.ref b1196), .val (.ref b1200), .val (.ref t2), .val (.ref t3), .val (.double (FP.l2d (Int64.ofNat z2))), .second, .val (.double (FP.l2d (Int64.ofNat z3))), .second, .val (.int kp), .val (.int (Int32.ofNat zp)), .val (.ref b1196), .val (.ref b1216), .val (.int (Int32.ofNat 2)), .val (.int cl0), .val (.int cl1), .val (.int rm0), .val (.int rm1), .val (.int (1 : Int32)), .val (.int cl0), .val (.int rm0)] [(.int (1 : Int32)), (.int (own_fv zp (S4.1.getD 0 0)))])) _
          refine XS.goto X1281.here hx rfl (pc0 := 388) (pc' := 392) rfl (hb hby at_388) (by decide) (by decide) ?_
          show Steps p.tables e below (T1281.setTop (mkF m 392 #[.val (.int u1), .val (.int u2), .val (.int u3), .val (.int u4), .val (.int u5), .val (.int u6), .val (.int (Int32.ofNat y0)), .val (.int (Int32.ofNat y1)), .val (.int (Int32.ofNat z1)), .val (.ref b1190), .val (.ref b1196), .val (.ref b1200), .val (.ref t2), .val (.ref t3), .val (.double (FP.l2d (Int64.ofNat z2))), .second, .val (.double (FP.l2d (Int64.ofNat z3))), .second, .val (.int kp), .val (.int (Int32.ofNat zp)), .val (.ref b1196), .val (.ref b1216), .val (.int (Int32.ofNat 2)), .val (.int cl0), .val (.int cl1), .val (.int rm0), .val (.int rm1), .val (.int (1 : Int32)), .val (.int cl0), .val (.int rm0)] [(.int (1 : Int32)), (.int (own_fv zp (S4.1.getD 0 0)))])) _
          refine XS.icmpNo X1281.here hx rfl (hb hby at_392) rfl (teq (hfb h384)).2 ?_
          show Steps p.tables e below (T1281.setTop (mkF m 395 #[.val (.int u1), .val (.int u2), .val (.int u3), .val (.int u4), .val (.int u5), .val (.int u6), .val (.int (Int32.ofNat y0)), .val (.int (Int32.ofNat y1)), .val (.int (Int32.ofNat z1)), .val (.ref b1190), .val (.ref b1196), .val (.ref b1200), .val (.ref t2), .val (.ref t3), .val (.double (FP.l2d (Int64.ofNat z2))), .second, .val (.double (FP.l2d (Int64.ofNat z3))), .second, .val (.int kp), .val (.int (Int32.ofNat zp)), .val (.ref b1196), .val (.ref b1216), .val (.int (Int32.ofNat 2)), .val (.int cl0), .val (.int cl1), .val (.int rm0), .val (.int rm1), .val (.int (1 : Int32)), .val (.int cl0), .val (.int rm0)] [])) _
          refine XS.iconst X1281.here hx rfl (hb hby at_395) ?_
          show Steps p.tables e below (T1281.setTop (mkF m 396 #[.val (.int u1), .val (.int u2), .val (.int u3), .val (.int u4), .val (.int u5), .val (.int u6), .val (.int (Int32.ofNat y0)), .val (.int (Int32.ofNat y1)), .val (.int (Int32.ofNat z1)), .val (.ref b1190), .val (.ref b1196), .val (.ref b1200), .val (.ref t2), .val (.ref t3), .val (.double (FP.l2d (Int64.ofNat z2))), .second, .val (.double (FP.l2d (Int64.ofNat z3))), .second, .val (.int kp), .val (.int (Int32.ofNat zp)), .val (.ref b1196), .val (.ref b1216), .val (.int (Int32.ofNat 2)), .val (.int cl0), .val (.int cl1), .val (.int rm0), .val (.int rm1), .val (.int (1 : Int32)), .val (.int cl0), .val (.int rm0)] [(.int (1 : Int32))])) _
          refine XS.goto X1281.here hx rfl (pc0 := 396) (pc' := 400) rfl (hb hby at_396) (by decide) (by decide) ?_
          show Steps p.tables e below (T1281.setTop (mkF m 400 #[.val (.int u1), .val (.int u2), .val (.int u3), .val (.int u4), .val (.int u5), .val (.int u6), .val (.int (Int32.ofNat y0)), .val (.int (Int32.ofNat y1)), .val (.int (Int32.ofNat z1)), .val (.ref b1190), .val (.ref b1196), .val (.ref b1200), .val (.ref t2), .val (.ref t3), .val (.double (FP.l2d (Int64.ofNat z2))), .second, .val (.double (FP.l2d (Int64.ofNat z3))), .second, .val (.int kp), .val (.int (Int32.ofNat zp)), .val (.ref b1196), .val (.ref b1216), .val (.int (Int32.ofNat 2)), .val (.int cl0), .val (.int cl1), .val (.int rm0), .val (.int rm1), .val (.int (1 : Int32)), .val (.int cl0), .val (.int rm0)] [(.int (1 : Int32))])) _
          exact k)
        obtain ⟨fs, hr, hrun, hended, hW, hsame⟩ := X1281.leave (v := some (.int (1 : Int32))) (fun h => by rw [Bd.returns] at h; cases h)
        refine ⟨_, _, P1285 _ ?_, hrun, hended, _, _, rfl, ?_, ⟨_, rfl⟩, hW, hsame.mono (by decide) (by decide)⟩
        · exact retN X1281 hx (t := .boolean) Bd.returns (by simp) (hb hby at_400) hr
        · show Q_law Z u1 u2 u3 u4 u5 u6 h0 n0 _ T1281.heap _
          exact ⟨rfl, N1281⟩
    · have P1286 : ∀ t, Steps p.tables e below (T1272.setTop (mkF m 369 #[.val (.int u1), .val (.int u2), .val (.int u3), .val (.int u4), .val (.int u5), .val (.int u6), .val (.int (Int32.ofNat y0)), .val (.int (Int32.ofNat y1)), .val (.int (Int32.ofNat z1)), .val (.ref b1190), .val (.ref b1196), .val (.ref b1200), .val (.ref t2), .val (.ref t3), .val (.double (FP.l2d (Int64.ofNat z2))), .second, .val (.double (FP.l2d (Int64.ofNat z3))), .second, .val (.int kp), .val (.int (Int32.ofNat zp)), .val (.ref b1196), .val (.ref b1216), .val (.int (Int32.ofNat 2)), .val (.int cl0), .val (.int cl1), .val (.int rm0), .val (.int rm1), .val (.int (1 : Int32)), .val (.int cl0), .val (.int rm0)] [(.int (1 : Int32))])) t → Steps p.tables e below (s₁.setTop (entryFrame m #[(.int u1), (.int u2), (.int u3), (.int u4), (.int u5), (.int u6)] maxLocals)) t := fun t k => P1279 t (by
        refine XS.ifNo X1272.here hx rfl (hb hby at_364) rfl ((if0 _ _).trans (feq h364).1) ?_
        show Steps p.tables e below (T1272.setTop (mkF m 367 #[.val (.int u1), .val (.int u2), .val (.int u3), .val (.int u4), .val (.int u5), .val (.int u6), .val (.int (Int32.ofNat y0)), .val (.int (Int32.ofNat y1)), .val (.int (Int32.ofNat z1)), .val (.ref b1190), .val (.ref b1196), .val (.ref b1200), .val (.ref t2), .val (.ref t3), .val (.double (FP.l2d (Int64.ofNat z2))), .second, .val (.double (FP.l2d (Int64.ofNat z3))), .second, .val (.int kp), .val (.int (Int32.ofNat zp)), .val (.ref b1196), .val (.ref b1216), .val (.int (Int32.ofNat 2)), .val (.int cl0), .val (.int cl1), .val (.int rm0), .val (.int rm1), .val (.int (1 : Int32)), .val (.int cl0), .val (.int rm0)] [])) _
        refine XS.iload X1272.here hx rfl (hb hby at_367) rfl ?_
        show Steps p.tables e below (T1272.setTop (mkF m 369 #[.val (.int u1), .val (.int u2), .val (.int u3), .val (.int u4), .val (.int u5), .val (.int u6), .val (.int (Int32.ofNat y0)), .val (.int (Int32.ofNat y1)), .val (.int (Int32.ofNat z1)), .val (.ref b1190), .val (.ref b1196), .val (.ref b1200), .val (.ref t2), .val (.ref t3), .val (.double (FP.l2d (Int64.ofNat z2))), .second, .val (.double (FP.l2d (Int64.ofNat z3))), .second, .val (.int kp), .val (.int (Int32.ofNat zp)), .val (.ref b1196), .val (.ref b1216), .val (.int (Int32.ofNat 2)), .val (.int cl0), .val (.int cl1), .val (.int rm0), .val (.int rm1), .val (.int (1 : Int32)), .val (.int cl0), .val (.int rm0)] [(.int (1 : Int32))])) _
        exact k)
      obtain ⟨fs, hr, hrun, hended, hW, hsame⟩ := X1272.leave (v := some (.int (1 : Int32))) (fun h => by rw [Bd.returns] at h; cases h)
      refine ⟨_, _, P1286 _ ?_, hrun, hended, _, _, rfl, ?_, ⟨_, rfl⟩, hW, hsame.mono (by decide) (by decide)⟩
      · exact retN X1272 hx (t := .boolean) Bd.returns (by simp) (hb hby at_369) hr
      · show Q_law Z u1 u2 u3 u4 u5 u6 h0 n0 _ T1272.heap _
        rw [eq1]
        exact ⟨rfl, N1272⟩
  · have P1287 : ∀ t, Steps p.tables e below (T1272.setTop (mkF m 339 #[.val (.int u1), .val (.int u2), .val (.int u3), .val (.int u4), .val (.int u5), .val (.int u6), .val (.int (Int32.ofNat y0)), .val (.int (Int32.ofNat y1)), .val (.int (Int32.ofNat z1)), .val (.ref b1190), .val (.ref b1196), .val (.ref b1200), .val (.ref t2), .val (.ref t3), .val (.double (FP.l2d (Int64.ofNat z2))), .second, .val (.double (FP.l2d (Int64.ofNat z3))), .second, .val (.int kp), .val (.int (Int32.ofNat zp)), .val (.ref pr), .val (.ref b1216), .val (.int (Int32.ofNat 2)), .val (.int cl0), .val (.int cl1), .val (.int rm0), .val (.int rm1), .val (.int (1 : Int32)), .unset, .unset] [])) t → Steps p.tables e below (s₁.setTop (entryFrame m #[(.int u1), (.int u2), (.int u3), (.int u4), (.int u5), (.int u6)] maxLocals)) t := fun t k => P1277 t (by
      refine XS.ifYes X1272.here hx rfl (pc0 := 331) (pc' := 339) rfl (hb hby at_331) rfl ((if0 _ _).trans (feq h331).2) (by decide) (by decide) ?_
      show Steps p.tables e below (T1272.setTop (mkF m 339 #[.val (.int u1), .val (.int u2), .val (.int u3), .val (.int u4), .val (.int u5), .val (.int u6), .val (.int (Int32.ofNat y0)), .val (.int (Int32.ofNat y1)), .val (.int (Int32.ofNat z1)), .val (.ref b1190), .val (.ref b1196), .val (.ref b1200), .val (.ref t2), .val (.ref t3), .val (.double (FP.l2d (Int64.ofNat z2))), .second, .val (.double (FP.l2d (Int64.ofNat z3))), .second, .val (.int kp), .val (.int (Int32.ofNat zp)), .val (.ref pr), .val (.ref b1216), .val (.int (Int32.ofNat 2)), .val (.int cl0), .val (.int cl1), .val (.int rm0), .val (.int rm1), .val (.int (1 : Int32)), .unset, .unset] [])) _
      exact k)
    have hpe : pr = b1200 := (hpr.resolve_left (fun q => h331 q.1)).2
    rw [hpe] at P1287
    have P1288 : ∀ t, Steps p.tables e below (T1272.setTop (mkF m 364 #[.val (.int u1), .val (.int u2), .val (.int u3), .val (.int u4), .val (.int u5), .val (.int u6), .val (.int (Int32.ofNat y0)), .val (.int (Int32.ofNat y1)), .val (.int (Int32.ofNat z1)), .val (.ref b1190), .val (.ref b1196), .val (.ref b1200), .val (.ref t2), .val (.ref t3), .val (.double (FP.l2d (Int64.ofNat z2))), .second, .val (.double (FP.l2d (Int64.ofNat z3))), .second, .val (.int kp), .val (.int (Int32.ofNat zp)), .val (.ref b1200), .val (.ref b1216), .val (.int (Int32.ofNat 2)), .val (.int cl0), .val (.int cl1), .val (.int rm0), .val (.int rm1), .val (.int (1 : Int32)), .val (.int cl1), .val (.int rm1)] [(.int cl1)])) t → Steps p.tables e below (s₁.setTop (entryFrame m #[(.int u1), (.int u2), (.int u3), (.int u4), (.int u5), (.int u6)] maxLocals)) t := fun t k => P1287 t (by
      refine XS.iload X1272.here hx rfl (hb hby at_339) rfl ?_
      show Steps p.tables e below (T1272.setTop (mkF m 341 #[.val (.int u1), .val (.int u2), .val (.int u3), .val (.int u4), .val (.int u5), .val (.int u6), .val (.int (Int32.ofNat y0)), .val (.int (Int32.ofNat y1)), .val (.int (Int32.ofNat z1)), .val (.ref b1190), .val (.ref b1196), .val (.ref b1200), .val (.ref t2), .val (.ref t3), .val (.double (FP.l2d (Int64.ofNat z2))), .second, .val (.double (FP.l2d (Int64.ofNat z3))), .second, .val (.int kp), .val (.int (Int32.ofNat zp)), .val (.ref b1200), .val (.ref b1216), .val (.int (Int32.ofNat 2)), .val (.int cl0), .val (.int cl1), .val (.int rm0), .val (.int rm1), .val (.int (1 : Int32)), .unset, .unset] [(.int cl1)])) _
      refine XS.istore X1272.here hx rfl (hb hby at_341) rfl (l' := #[.val (.int u1), .val (.int u2), .val (.int u3), .val (.int u4), .val (.int u5), .val (.int u6), .val (.int (Int32.ofNat y0)), .val (.int (Int32.ofNat y1)), .val (.int (Int32.ofNat z1)), .val (.ref b1190), .val (.ref b1196), .val (.ref b1200), .val (.ref t2), .val (.ref t3), .val (.double (FP.l2d (Int64.ofNat z2))), .second, .val (.double (FP.l2d (Int64.ofNat z3))), .second, .val (.int kp), .val (.int (Int32.ofNat zp)), .val (.ref b1200), .val (.ref b1216), .val (.int (Int32.ofNat 2)), .val (.int cl0), .val (.int cl1), .val (.int rm0), .val (.int rm1), .val (.int (1 : Int32)), .val (.int cl1), .unset]) rfl ?_
      show Steps p.tables e below (T1272.setTop (mkF m 343 #[.val (.int u1), .val (.int u2), .val (.int u3), .val (.int u4), .val (.int u5), .val (.int u6), .val (.int (Int32.ofNat y0)), .val (.int (Int32.ofNat y1)), .val (.int (Int32.ofNat z1)), .val (.ref b1190), .val (.ref b1196), .val (.ref b1200), .val (.ref t2), .val (.ref t3), .val (.double (FP.l2d (Int64.ofNat z2))), .second, .val (.double (FP.l2d (Int64.ofNat z3))), .second, .val (.int kp), .val (.int (Int32.ofNat zp)), .val (.ref b1200), .val (.ref b1216), .val (.int (Int32.ofNat 2)), .val (.int cl0), .val (.int cl1), .val (.int rm0), .val (.int rm1), .val (.int (1 : Int32)), .val (.int cl1), .unset] [])) _
      refine XS.iload X1272.here hx rfl (hb hby at_343) rfl ?_
      show Steps p.tables e below (T1272.setTop (mkF m 345 #[.val (.int u1), .val (.int u2), .val (.int u3), .val (.int u4), .val (.int u5), .val (.int u6), .val (.int (Int32.ofNat y0)), .val (.int (Int32.ofNat y1)), .val (.int (Int32.ofNat z1)), .val (.ref b1190), .val (.ref b1196), .val (.ref b1200), .val (.ref t2), .val (.ref t3), .val (.double (FP.l2d (Int64.ofNat z2))), .second, .val (.double (FP.l2d (Int64.ofNat z3))), .second, .val (.int kp), .val (.int (Int32.ofNat zp)), .val (.ref b1200), .val (.ref b1216), .val (.int (Int32.ofNat 2)), .val (.int cl0), .val (.int cl1), .val (.int rm0), .val (.int rm1), .val (.int (1 : Int32)), .val (.int cl1), .unset] [(.int kp)])) _
      refine XS.ifYes X1272.here hx rfl (pc0 := 345) (pc' := 353) rfl (hb hby at_345) rfl ((if0 _ _).trans (feq h331).2) (by decide) (by decide) ?_
      show Steps p.tables e below (T1272.setTop (mkF m 353 #[.val (.int u1), .val (.int u2), .val (.int u3), .val (.int u4), .val (.int u5), .val (.int u6), .val (.int (Int32.ofNat y0)), .val (.int (Int32.ofNat y1)), .val (.int (Int32.ofNat z1)), .val (.ref b1190), .val (.ref b1196), .val (.ref b1200), .val (.ref t2), .val (.ref t3), .val (.double (FP.l2d (Int64.ofNat z2))), .second, .val (.double (FP.l2d (Int64.ofNat z3))), .second, .val (.int kp), .val (.int (Int32.ofNat zp)), .val (.ref b1200), .val (.ref b1216), .val (.int (Int32.ofNat 2)), .val (.int cl0), .val (.int cl1), .val (.int rm0), .val (.int rm1), .val (.int (1 : Int32)), .val (.int cl1), .unset] [])) _
      refine XS.iload X1272.here hx rfl (hb hby at_353) rfl ?_
      show Steps p.tables e below (T1272.setTop (mkF m 355 #[.val (.int u1), .val (.int u2), .val (.int u3), .val (.int u4), .val (.int u5), .val (.int u6), .val (.int (Int32.ofNat y0)), .val (.int (Int32.ofNat y1)), .val (.int (Int32.ofNat z1)), .val (.ref b1190), .val (.ref b1196), .val (.ref b1200), .val (.ref t2), .val (.ref t3), .val (.double (FP.l2d (Int64.ofNat z2))), .second, .val (.double (FP.l2d (Int64.ofNat z3))), .second, .val (.int kp), .val (.int (Int32.ofNat zp)), .val (.ref b1200), .val (.ref b1216), .val (.int (Int32.ofNat 2)), .val (.int cl0), .val (.int cl1), .val (.int rm0), .val (.int rm1), .val (.int (1 : Int32)), .val (.int cl1), .unset] [(.int rm1)])) _
      refine XS.istore X1272.here hx rfl (hb hby at_355) rfl (l' := #[.val (.int u1), .val (.int u2), .val (.int u3), .val (.int u4), .val (.int u5), .val (.int u6), .val (.int (Int32.ofNat y0)), .val (.int (Int32.ofNat y1)), .val (.int (Int32.ofNat z1)), .val (.ref b1190), .val (.ref b1196), .val (.ref b1200), .val (.ref t2), .val (.ref t3), .val (.double (FP.l2d (Int64.ofNat z2))), .second, .val (.double (FP.l2d (Int64.ofNat z3))), .second, .val (.int kp), .val (.int (Int32.ofNat zp)), .val (.ref b1200), .val (.ref b1216), .val (.int (Int32.ofNat 2)), .val (.int cl0), .val (.int cl1), .val (.int rm0), .val (.int rm1), .val (.int (1 : Int32)), .val (.int cl1), .val (.int rm1)]) rfl ?_
      show Steps p.tables e below (T1272.setTop (mkF m 357 #[.val (.int u1), .val (.int u2), .val (.int u3), .val (.int u4), .val (.int u5), .val (.int u6), .val (.int (Int32.ofNat y0)), .val (.int (Int32.ofNat y1)), .val (.int (Int32.ofNat z1)), .val (.ref b1190), .val (.ref b1196), .val (.ref b1200), .val (.ref t2), .val (.ref t3), .val (.double (FP.l2d (Int64.ofNat z2))), .second, .val (.double (FP.l2d (Int64.ofNat z3))), .second, .val (.int kp), .val (.int (Int32.ofNat zp)), .val (.ref b1200), .val (.ref b1216), .val (.int (Int32.ofNat 2)), .val (.int cl0), .val (.int cl1), .val (.int rm0), .val (.int rm1), .val (.int (1 : Int32)), .val (.int cl1), .val (.int rm1)] [])) _
      refine XS.iload X1272.here hx rfl (hb hby at_357) rfl ?_
      show Steps p.tables e below (T1272.setTop (mkF m 359 #[.val (.int u1), .val (.int u2), .val (.int u3), .val (.int u4), .val (.int u5), .val (.int u6), .val (.int (Int32.ofNat y0)), .val (.int (Int32.ofNat y1)), .val (.int (Int32.ofNat z1)), .val (.ref b1190), .val (.ref b1196), .val (.ref b1200), .val (.ref t2), .val (.ref t3), .val (.double (FP.l2d (Int64.ofNat z2))), .second, .val (.double (FP.l2d (Int64.ofNat z3))), .second, .val (.int kp), .val (.int (Int32.ofNat zp)), .val (.ref b1200), .val (.ref b1216), .val (.int (Int32.ofNat 2)), .val (.int cl0), .val (.int cl1), .val (.int rm0), .val (.int rm1), .val (.int (1 : Int32)), .val (.int cl1), .val (.int rm1)] [(.int (1 : Int32))])) _
      refine XS.ifNo X1272.here hx rfl (hb hby at_359) rfl ((if0 _ _).trans (feq (by decide)).1) ?_
      show Steps p.tables e below (T1272.setTop (mkF m 362 #[.val (.int u1), .val (.int u2), .val (.int u3), .val (.int u4), .val (.int u5), .val (.int u6), .val (.int (Int32.ofNat y0)), .val (.int (Int32.ofNat y1)), .val (.int (Int32.ofNat z1)), .val (.ref b1190), .val (.ref b1196), .val (.ref b1200), .val (.ref t2), .val (.ref t3), .val (.double (FP.l2d (Int64.ofNat z2))), .second, .val (.double (FP.l2d (Int64.ofNat z3))), .second, .val (.int kp), .val (.int (Int32.ofNat zp)), .val (.ref b1200), .val (.ref b1216), .val (.int (Int32.ofNat 2)), .val (.int cl0), .val (.int cl1), .val (.int rm0), .val (.int rm1), .val (.int (1 : Int32)), .val (.int cl1), .val (.int rm1)] [])) _
      refine XS.iload X1272.here hx rfl (hb hby at_362) rfl ?_
      show Steps p.tables e below (T1272.setTop (mkF m 364 #[.val (.int u1), .val (.int u2), .val (.int u3), .val (.int u4), .val (.int u5), .val (.int u6), .val (.int (Int32.ofNat y0)), .val (.int (Int32.ofNat y1)), .val (.int (Int32.ofNat z1)), .val (.ref b1190), .val (.ref b1196), .val (.ref b1200), .val (.ref t2), .val (.ref t3), .val (.double (FP.l2d (Int64.ofNat z2))), .second, .val (.double (FP.l2d (Int64.ofNat z3))), .second, .val (.int kp), .val (.int (Int32.ofNat zp)), .val (.ref b1200), .val (.ref b1216), .val (.int (Int32.ofNat 2)), .val (.int cl0), .val (.int cl1), .val (.int rm0), .val (.int rm1), .val (.int (1 : Int32)), .val (.int cl1), .val (.int rm1)] [(.int cl1)])) _
      exact k)
    by_cases h364 : cl1 = (0 : Int32)
    · have P1289 : ∀ t, Steps p.tables e below (T1272.setTop (mkF m 377 #[.val (.int u1), .val (.int u2), .val (.int u3), .val (.int u4), .val (.int u5), .val (.int u6), .val (.int (Int32.ofNat y0)), .val (.int (Int32.ofNat y1)), .val (.int (Int32.ofNat z1)), .val (.ref b1190), .val (.ref b1196), .val (.ref b1200), .val (.ref t2), .val (.ref t3), .val (.double (FP.l2d (Int64.ofNat z2))), .second, .val (.double (FP.l2d (Int64.ofNat z3))), .second, .val (.int kp), .val (.int (Int32.ofNat zp)), .val (.ref b1200), .val (.ref b1216), .val (.int (Int32.ofNat 2)), .val (.int cl0), .val (.int cl1), .val (.int rm0), .val (.int rm1), .val (.int (1 : Int32)), .val (.int cl1), .val (.int rm1)] [(.double (FP.i2d (Int32.ofNat zp))), (.ref b1200), (.ref b1216)])) t → Steps p.tables e below (s₁.setTop (entryFrame m #[(.int u1), (.int u2), (.int u3), (.int u4), (.int u5), (.int u6)] maxLocals)) t := fun t k => P1288 t (by
        refine XS.ifYes X1272.here hx rfl (pc0 := 364) (pc' := 370) rfl (hb hby at_364) rfl ((if0 _ _).trans (teq h364).1) (by decide) (by decide) ?_
        show Steps p.tables e below (T1272.setTop (mkF m 370 #[.val (.int u1), .val (.int u2), .val (.int u3), .val (.int u4), .val (.int u5), .val (.int u6), .val (.int (Int32.ofNat y0)), .val (.int (Int32.ofNat y1)), .val (.int (Int32.ofNat z1)), .val (.ref b1190), .val (.ref b1196), .val (.ref b1200), .val (.ref t2), .val (.ref t3), .val (.double (FP.l2d (Int64.ofNat z2))), .second, .val (.double (FP.l2d (Int64.ofNat z3))), .second, .val (.int kp), .val (.int (Int32.ofNat zp)), .val (.ref b1200), .val (.ref b1216), .val (.int (Int32.ofNat 2)), .val (.int cl0), .val (.int cl1), .val (.int rm0), .val (.int rm1), .val (.int (1 : Int32)), .val (.int cl1), .val (.int rm1)] [])) _
        refine XS.aload X1272.here hx rfl (hb hby at_370) rfl rfl ?_
        show Steps p.tables e below (T1272.setTop (mkF m 372 #[.val (.int u1), .val (.int u2), .val (.int u3), .val (.int u4), .val (.int u5), .val (.int u6), .val (.int (Int32.ofNat y0)), .val (.int (Int32.ofNat y1)), .val (.int (Int32.ofNat z1)), .val (.ref b1190), .val (.ref b1196), .val (.ref b1200), .val (.ref t2), .val (.ref t3), .val (.double (FP.l2d (Int64.ofNat z2))), .second, .val (.double (FP.l2d (Int64.ofNat z3))), .second, .val (.int kp), .val (.int (Int32.ofNat zp)), .val (.ref b1200), .val (.ref b1216), .val (.int (Int32.ofNat 2)), .val (.int cl0), .val (.int cl1), .val (.int rm0), .val (.int rm1), .val (.int (1 : Int32)), .val (.int cl1), .val (.int rm1)] [(.ref b1216)])) _
        refine XS.aload X1272.here hx rfl (hb hby at_372) rfl rfl ?_
        show Steps p.tables e below (T1272.setTop (mkF m 374 #[.val (.int u1), .val (.int u2), .val (.int u3), .val (.int u4), .val (.int u5), .val (.int u6), .val (.int (Int32.ofNat y0)), .val (.int (Int32.ofNat y1)), .val (.int (Int32.ofNat z1)), .val (.ref b1190), .val (.ref b1196), .val (.ref b1200), .val (.ref t2), .val (.ref t3), .val (.double (FP.l2d (Int64.ofNat z2))), .second, .val (.double (FP.l2d (Int64.ofNat z3))), .second, .val (.int kp), .val (.int (Int32.ofNat zp)), .val (.ref b1200), .val (.ref b1216), .val (.int (Int32.ofNat 2)), .val (.int cl0), .val (.int cl1), .val (.int rm0), .val (.int rm1), .val (.int (1 : Int32)), .val (.int cl1), .val (.int rm1)] [(.ref b1200), (.ref b1216)])) _
        refine XS.iload X1272.here hx rfl (hb hby at_374) rfl ?_
        show Steps p.tables e below (T1272.setTop (mkF m 376 #[.val (.int u1), .val (.int u2), .val (.int u3), .val (.int u4), .val (.int u5), .val (.int u6), .val (.int (Int32.ofNat y0)), .val (.int (Int32.ofNat y1)), .val (.int (Int32.ofNat z1)), .val (.ref b1190), .val (.ref b1196), .val (.ref b1200), .val (.ref t2), .val (.ref t3), .val (.double (FP.l2d (Int64.ofNat z2))), .second, .val (.double (FP.l2d (Int64.ofNat z3))), .second, .val (.int kp), .val (.int (Int32.ofNat zp)), .val (.ref b1200), .val (.ref b1216), .val (.int (Int32.ofNat 2)), .val (.int cl0), .val (.int cl1), .val (.int rm0), .val (.int rm1), .val (.int (1 : Int32)), .val (.int cl1), .val (.int rm1)] [(.int (Int32.ofNat zp)), (.ref b1200), (.ref b1216)])) _
        refine XS.i2dS X1272.here hx rfl (hb hby at_376) rfl (v := FP.i2d (Int32.ofNat zp)) rfl ?_
        show Steps p.tables e below (T1272.setTop (mkF m 377 #[.val (.int u1), .val (.int u2), .val (.int u3), .val (.int u4), .val (.int u5), .val (.int u6), .val (.int (Int32.ofNat y0)), .val (.int (Int32.ofNat y1)), .val (.int (Int32.ofNat z1)), .val (.ref b1190), .val (.ref b1196), .val (.ref b1200), .val (.ref t2), .val (.ref t3), .val (.double (FP.l2d (Int64.ofNat z2))), .second, .val (.double (FP.l2d (Int64.ofNat z3))), .second, .val (.int kp), .val (.int (Int32.ofNat zp)), .val (.ref b1200), .val (.ref b1216), .val (.int (Int32.ofNat 2)), .val (.int cl0), .val (.int cl1), .val (.int rm0), .val (.int rm1), .val (.int (1 : Int32)), .val (.int cl1), .val (.int rm1)] [(.double (FP.i2d (Int32.ofNat zp))), (.ref b1200), (.ref b1216)])) _
        exact k)
      rw [own_i2d zp hzp] at P1289
      obtain ⟨cq1290, kq1290, q1290a, q1290b, q1290c⟩ := isOf hZ eq1 Bu.1
      obtain ⟨_, _, ⟨T1290, L1290, k1290, n1290⟩, -, X1290, ⟨Lc1290, hQ1290, l1290, y1290, z1290⟩, st1290⟩ := X1272.virtualBack hx (y := (⟨"com/example/tributary/tributary/solver/Rooms", "tryJob", "([ID)Z"⟩ : MethodName)) (z := (⟨"com/example/tributary/tributary/solver/Rooms", "tryJob", "([ID)Z"⟩ : MethodName)) hown (mvT hZ (hw _ (List.mem_of_getElem? (i := 35) rfl))) (mvT hZ (hw _ (List.mem_of_getElem? (i := 36) rfl))) (notFace_of_selects (args := #[]) (mvT hZ (hw _ (List.mem_of_getElem? (i := 38) rfl)))) (mvT hZ (hw _ (List.mem_of_getElem? (i := 38) rfl))) (mvT hZ (hw _ (List.mem_of_getElem? (i := 37) rfl))) (by decide) (backOf (W := 0) (rm_try1 l Z a0 hw [] b1216 ar ac al alr alc k1 k2 k3 k4 k5 S4 b1200 k1200 1 zp T1258.heap n0 Z1258 Bu Di Gi OK4 c1259_1 ⟨ne_b1200_b1216, ne_b1200_ar, ne_b1200_ac, ne_b1200_al, ne_b1200_alr, ne_b1200_alc⟩ (by decide) hzp (by omega)) hZ (hw _ (List.mem_of_getElem? (i := 39) rfl)) (hw _ (List.mem_of_getElem? (i := 7) rfl)) (by decide) (by decide)) q1290a q1290c (g := (mkF m 377 #[.val (.int u1), .val (.int u2), .val (.int u3), .val (.int u4), .val (.int u5), .val (.int u6), .val (.int (Int32.ofNat y0)), .val (.int (Int32.ofNat y1)), .val (.int (Int32.ofNat z1)), .val (.ref b1190), .val (.ref b1196), .val (.ref b1200), .val (.ref t2), .val (.ref t3), .val (.double (FP.l2d (Int64.ofNat z2))), .second, .val (.double (FP.l2d (Int64.ofNat z3))), .second, .val (.int kp), .val (.int (Int32.ofNat zp)), .val (.ref b1200), .val (.ref b1216), .val (.int (Int32.ofNat 2)), .val (.int cl0), .val (.int cl1), .val (.int rm0), .val (.int rm1), .val (.int (1 : Int32)), .val (.int cl1), .val (.int rm1)] [(.double (FP.l2d (Int64.ofNat zp))), (.ref b1200), (.ref b1216)])) rfl (by rw [hml]; rfl) (Steps.refl _) (argsL := [(.ref b1200), (.double (FP.l2d (Int64.ofNat zp)))]) (rest := []) (lenOf pd_5 rfl) rfl (by show 2 * 0 + _ ≤ _; exact Nat.le_of_eq rfl) (hb hby at_377) (fun _ _ => ⟨rfl, eq1, (by decide : 12 + 0 ≤ _), (by decide : 44 + 0 ≤ _)⟩)
      dsimp only [Pt.U, Pt.locs, Pt.cells, Pt.slots] at X1290 l1290 y1290 z1290 st1290 hQ1290
      subst l1290 y1290 z1290
      obtain ⟨rfl, N1290q, Kp, Bp⟩ := hQ1290
      have N1290 := Fr.app N1272 N1290q
      have c1291_0 := c1259_0.keep Kp (ninS ne_b1196_b1216 (ninS ne_b1196_ar (ninS ne_b1196_ac (ninS ne_b1196_al (ninS ne_b1196_alr (ninS ne_b1196_alc nin0))))))
      have c1291_1 := c1259_1.keep Kp (ninS ne_b1200_b1216 (ninS ne_b1200_ar (ninS ne_b1200_ac (ninS ne_b1200_al (ninS ne_b1200_alr (ninS ne_b1200_alc nin0))))))
      have Z1290 : n0 ≤ T1290.heap.size := Nat.le_trans Z1258 Kp.1
      have K1290 : Keep h0 T1290.heap [] := K1258.trans Kp (allS (Or.inr sz_b1216) (allS (Or.inr sz_ar) (allS (Or.inr sz_ac) (allS (Or.inr sz_al) (allS (Or.inr sz_alr) (allS (Or.inr sz_alc) all0))))))
      obtain ⟨hfa, hfb⟩ := own_fin (i := 1) (z := zp) OK1 hm1 hrm1 hzp
      have P1292 : ∀ t, Steps p.tables e below (T1290.setTop (mkF m 384 #[.val (.int u1), .val (.int u2), .val (.int u3), .val (.int u4), .val (.int u5), .val (.int u6), .val (.int (Int32.ofNat y0)), .val (.int (Int32.ofNat y1)), .val (.int (Int32.ofNat z1)), .val (.ref b1190), .val (.ref b1196), .val (.ref b1200), .val (.ref t2), .val (.ref t3), .val (.double (FP.l2d (Int64.ofNat z2))), .second, .val (.double (FP.l2d (Int64.ofNat z3))), .second, .val (.int kp), .val (.int (Int32.ofNat zp)), .val (.ref b1200), .val (.ref b1216), .val (.int (Int32.ofNat 2)), .val (.int cl0), .val (.int cl1), .val (.int rm0), .val (.int rm1), .val (.int (1 : Int32)), .val (.int cl1), .val (.int rm1)] [(.int rm1), (.int (Int32.ofNat zp)), (.int (own_fv zp (S4.1.getD 1 0)))])) t → Steps p.tables e below (s₁.setTop (entryFrame m #[(.int u1), (.int u2), (.int u3), (.int u4), (.int u5), (.int u6)] maxLocals)) t := fun t k => P1289 t (by
        refine st1290.trans ?_
        show Steps p.tables e below (T1290.setTop (mkF m 380 #[.val (.int u1), .val (.int u2), .val (.int u3), .val (.int u4), .val (.int u5), .val (.int u6), .val (.int (Int32.ofNat y0)), .val (.int (Int32.ofNat y1)), .val (.int (Int32.ofNat z1)), .val (.ref b1190), .val (.ref b1196), .val (.ref b1200), .val (.ref t2), .val (.ref t3), .val (.double (FP.l2d (Int64.ofNat z2))), .second, .val (.double (FP.l2d (Int64.ofNat z3))), .second, .val (.int kp), .val (.int (Int32.ofNat zp)), .val (.ref b1200), .val (.ref b1216), .val (.int (Int32.ofNat 2)), .val (.int cl0), .val (.int cl1), .val (.int rm0), .val (.int rm1), .val (.int (1 : Int32)), .val (.int cl1), .val (.int rm1)] [(.int (own_fv zp (S4.1.getD 1 0)))])) _
        refine XS.iload X1290.here hx rfl (hb hby at_380) rfl ?_
        show Steps p.tables e below (T1290.setTop (mkF m 382 #[.val (.int u1), .val (.int u2), .val (.int u3), .val (.int u4), .val (.int u5), .val (.int u6), .val (.int (Int32.ofNat y0)), .val (.int (Int32.ofNat y1)), .val (.int (Int32.ofNat z1)), .val (.ref b1190), .val (.ref b1196), .val (.ref b1200), .val (.ref t2), .val (.ref t3), .val (.double (FP.l2d (Int64.ofNat z2))), .second, .val (.double (FP.l2d (Int64.ofNat z3))), .second, .val (.int kp), .val (.int (Int32.ofNat zp)), .val (.ref b1200), .val (.ref b1216), .val (.int (Int32.ofNat 2)), .val (.int cl0), .val (.int cl1), .val (.int rm0), .val (.int rm1), .val (.int (1 : Int32)), .val (.int cl1), .val (.int rm1)] [(.int (Int32.ofNat zp)), (.int (own_fv zp (S4.1.getD 1 0)))])) _
        refine XS.iload X1290.here hx rfl (hb hby at_382) rfl ?_
        show Steps p.tables e below (T1290.setTop (mkF m 384 #[.val (.int u1), .val (.int u2), .val (.int u3), .val (.int u4), .val (.int u5), .val (.int u6), .val (.int (Int32.ofNat y0)), .val (.int (Int32.ofNat y1)), .val (.int (Int32.ofNat z1)), .val (.ref b1190), .val (.ref b1196), .val (.ref b1200), .val (.ref t2), .val (.ref t3), .val (.double (FP.l2d (Int64.ofNat z2))), .second, .val (.double (FP.l2d (Int64.ofNat z3))), .second, .val (.int kp), .val (.int (Int32.ofNat zp)), .val (.ref b1200), .val (.ref b1216), .val (.int (Int32.ofNat 2)), .val (.int cl0), .val (.int cl1), .val (.int rm0), .val (.int rm1), .val (.int (1 : Int32)), .val (.int cl1), .val (.int rm1)] [(.int rm1), (.int (Int32.ofNat zp)), (.int (own_fv zp (S4.1.getD 1 0)))])) _
        exact k)
      by_cases h384 : rm1 < (Int32.ofNat zp)
      · have P1293 : ∀ t, Steps p.tables e below (T1290.setTop (mkF m 400 #[.val (.int u1), .val (.int u2), .val (.int u3), .val (.int u4), .val (.int u5), .val (.int u6), .val (.int (Int32.ofNat y0)), .val (.int (Int32.ofNat y1)), .val (.int (Int32.ofNat z1)), .val (.ref b1190), .val (.ref b1196), .val (.ref b1200), .val (.ref t2), .val (.ref t3), .val (.double (FP.l2d (Int64.ofNat z2))), .second, .val (.double (FP.l2d (Int64.ofNat z3))), .second, .val (.int kp), .val (.int (Int32.ofNat zp)), .val (.ref b1200), .val (.ref b1216), .val (.int (Int32.ofNat 2)), .val (.int cl0), .val (.int cl1), .val (.int rm0), .val (.int rm1), .val (.int (1 : Int32)), .val (.int cl1), .val (.int rm1)] [(.int (1 : Int32))])) t → Steps p.tables e below (s₁.setTop (entryFrame m #[(.int u1), (.int u2), (.int u3), (.int u4), (.int u5), (.int u6)] maxLocals)) t := fun t k => P1292 t (by
          refine XS.icmpYes X1290.here hx rfl (pc0 := 384) (pc' := 391) rfl (hb hby at_384) rfl (tlt h384).2.2.1 (by decide) (by decide) ?_
          show Steps p.tables e below (T1290.setTop (mkF m 391 #[.val (.int u1), .val (.int u2), .val (.int u3), .val (.int u4), .val (.int u5), .val (.int u6), .val (.int (Int32.ofNat y0)), .val (.int (Int32.ofNat y1)), .val (.int (Int32.ofNat z1)), .val (.ref b1190), .val (.ref b1196), .val (.ref b1200), .val (.ref t2), .val (.ref t3), .val (.double (FP.l2d (Int64.ofNat z2))), .second, .val (.double (FP.l2d (Int64.ofNat z3))), .second, .val (.int kp), .val (.int (Int32.ofNat zp)), .val (.ref b1200), .val (.ref b1216), .val (.int (Int32.ofNat 2)), .val (.int cl0), .val (.int cl1), .val (.int rm0), .val (.int rm1), .val (.int (1 : Int32)), .val (.int cl1), .val (.int rm1)] [(.int (own_fv zp (S4.1.getD 1 0)))])) _
          refine XS.iconst X1290.here hx rfl (hb hby at_391) ?_
          show Steps p.tables e below (T1290.setTop (mkF m 392 #[.val (.int u1), .val (.int u2), .val (.int u3), .val (.int u4), .val (.int u5), .val (.int u6), .val (.int (Int32.ofNat y0)), .val (.int (Int32.ofNat y1)), .val (.int (Int32.ofNat z1)), .val (.ref b1190), .val (.ref b1196), .val (.ref b1200), .val (.ref t2), .val (.ref t3), .val (.double (FP.l2d (Int64.ofNat z2))), .second, .val (.double (FP.l2d (Int64.ofNat z3))), .second, .val (.int kp), .val (.int (Int32.ofNat zp)), .val (.ref b1200), .val (.ref b1216), .val (.int (Int32.ofNat 2)), .val (.int cl0), .val (.int cl1), .val (.int rm0), .val (.int rm1), .val (.int (1 : Int32)), .val (.int cl1), .val (.int rm1)] [(.int (0 : Int32)), (.int (own_fv zp (S4.1.getD 1 0)))])) _
          refine XS.icmpNo X1290.here hx rfl (hb hby at_392) rfl (teq (hfa h384)).2 ?_
          show Steps p.tables e below (T1290.setTop (mkF m 395 #[.val (.int u1), .val (.int u2), .val (.int u3), .val (.int u4), .val (.int u5), .val (.int u6), .val (.int (Int32.ofNat y0)), .val (.int (Int32.ofNat y1)), .val (.int (Int32.ofNat z1)), .val (.ref b1190), .val (.ref b1196), .val (.ref b1200), .val (.ref t2), .val (.ref t3), .val (.double (FP.l2d (Int64.ofNat z2))), .second, .val (.double (FP.l2d (Int64.ofNat z3))), .second, .val (.int kp), .val (.int (Int32.ofNat zp)), .val (.ref b1200), .val (.ref b1216), .val (.int (Int32.ofNat 2)), .val (.int cl0), .val (.int cl1), .val (.int rm0), .val (.int rm1), .val (.int (1 : Int32)), .val (.int cl1), .val (.int rm1)] [])) _
          refine XS.iconst X1290.here hx rfl (hb hby at_395) ?_
          show Steps p.tables e below (T1290.setTop (mkF m 396 #[.val (.int u1), .val (.int u2), .val (.int u3), .val (.int u4), .val (.int u5), .val (.int u6), .val (.int (Int32.ofNat y0)), .val (.int (Int32.ofNat y1)), .val (.int (Int32.ofNat z1)), .val (.ref b1190), .val (.ref b1196), .val (.ref b1200), .val (.ref t2), .val (.ref t3), .val (.double (FP.l2d (Int64.ofNat z2))), .second, .val (.double (FP.l2d (Int64.ofNat z3))), .second, .val (.int kp), .val (.int (Int32.ofNat zp)), .val (.ref b1200), .val (.ref b1216), .val (.int (Int32.ofNat 2)), .val (.int cl0), .val (.int cl1), .val (.int rm0), .val (.int rm1), .val (.int (1 : Int32)), .val (.int cl1), .val (.int rm1)] [(.int (1 : Int32))])) _
          refine XS.goto X1290.here hx rfl (pc0 := 396) (pc' := 400) rfl (hb hby at_396) (by decide) (by decide) ?_
          show Steps p.tables e below (T1290.setTop (mkF m 400 #[.val (.int u1), .val (.int u2), .val (.int u3), .val (.int u4), .val (.int u5), .val (.int u6), .val (.int (Int32.ofNat y0)), .val (.int (Int32.ofNat y1)), .val (.int (Int32.ofNat z1)), .val (.ref b1190), .val (.ref b1196), .val (.ref b1200), .val (.ref t2), .val (.ref t3), .val (.double (FP.l2d (Int64.ofNat z2))), .second, .val (.double (FP.l2d (Int64.ofNat z3))), .second, .val (.int kp), .val (.int (Int32.ofNat zp)), .val (.ref b1200), .val (.ref b1216), .val (.int (Int32.ofNat 2)), .val (.int cl0), .val (.int cl1), .val (.int rm0), .val (.int rm1), .val (.int (1 : Int32)), .val (.int cl1), .val (.int rm1)] [(.int (1 : Int32))])) _
          exact k)
        obtain ⟨fs, hr, hrun, hended, hW, hsame⟩ := X1290.leave (v := some (.int (1 : Int32))) (fun h => by rw [Bd.returns] at h; cases h)
        refine ⟨_, _, P1293 _ ?_, hrun, hended, _, _, rfl, ?_, ⟨_, rfl⟩, hW, hsame.mono (by decide) (by decide)⟩
        · exact retN X1290 hx (t := .boolean) Bd.returns (by simp) (hb hby at_400) hr
        · show Q_law Z u1 u2 u3 u4 u5 u6 h0 n0 _ T1290.heap _
          exact ⟨rfl, N1290⟩
      · have P1294 : ∀ t, Steps p.tables e below (T1290.setTop (mkF m 400 #[.val (.int u1), .val (.int u2), .val (.int u3), .val (.int u4), .val (.int u5), .val (.int u6), .val (.int (Int32.ofNat y0)), .val (.int (Int32.ofNat y1)), .val (.int (Int32.ofNat z1)), .val (.ref b1190), .val (.ref b1196), .val (.ref b1200), .val (.ref t2), .val (.ref t3), .val (.double (FP.l2d (Int64.ofNat z2))), .second, .val (.double (FP.l2d (Int64.ofNat z3))), .second, .val (.int kp), .val (.int (Int32.ofNat zp)), .val (.ref b1200), .val (.ref b1216), .val (.int (Int32.ofNat 2)), .val (.int cl0), .val (.int cl1), .val (.int rm0), .val (.int rm1), .val (.int (1 : Int32)), .val (.int cl1), .val (.int rm1)] [(.int (1 : Int32))])) t → Steps p.tables e below (s₁.setTop (entryFrame m #[(.int u1), (.int u2), (.int u3), (.int u4), (.int u5), (.int u6)] maxLocals)) t := fun t k => P1292 t (by
          refine XS.icmpNo X1290.here hx rfl (hb hby at_384) rfl (flt h384).2.2.1 ?_
          show Steps p.tables e below (T1290.setTop (mkF m 387 #[.val (.int u1), .val (.int u2), .val (.int u3), .val (.int u4), .val (.int u5), .val (.int u6), .val (.int (Int32.ofNat y0)), .val (.int (Int32.ofNat y1)), .val (.int (Int32.ofNat z1)), .val (.ref b1190), .val (.ref b1196), .val (.ref b1200), .val (.ref t2), .val (.ref t3), .val (.double (FP.l2d (Int64.ofNat z2))), .second, .val (.double (FP.l2d (Int64.ofNat z3))), .second, .val (.int kp), .val (.int (Int32.ofNat zp)), .val (.ref b1200), .val (.ref b1216), .val (.int (Int32.ofNat 2)), .val (.int cl0), .val (.int cl1), .val (.int rm0), .val (.int rm1), .val (.int (1 : Int32)), .val (.int cl1), .val (.int rm1)] [(.int (own_fv zp (S4.1.getD 1 0)))])) _
          refine XS.iconst X1290.here hx rfl (hb hby at_387) ?_
          show Steps p.tables e below (T1290.setTop (mkF m 388 #[.val (.int u1), .val (.int u2), .val (.int u3), .val (.int u4), .val (.int u5), .val (.int u6), .val (.int (Int32.ofNat y0)), .val (.int (Int32.ofNat y1)), .val (.int (Int32.ofNat z1)), .val (.ref b1190), .val (.ref b1196), .val (.ref b1200), .val (.ref t2), .val (.ref t3), .val (.double (FP.l2d (Int64.ofNat z2))), .second, .val (.double (FP.l2d (Int64.ofNat z3))), .second, .val (.int kp), .val (.int (Int32.ofNat zp)), .val (.ref b1200), .val (.ref b1216), .val (.int (Int32.ofNat 2)), .val (.int cl0), .val (.int cl1), .val (.int rm0), .val (.int rm1), .val (.int (1 : Int32)), .val (.int cl1), .val (.int rm1)] [(.int (1 : Int32)), (.int (own_fv zp (S4.1.getD 1 0)))])) _
          refine XS.goto X1290.here hx rfl (pc0 := 388) (pc' := 392) rfl (hb hby at_388) (by decide) (by decide) ?_
          show Steps p.tables e below (T1290.setTop (mkF m 392 #[.val (.int u1), .val (.int u2), .val (.int u3), .val (.int u4), .val (.int u5), .val (.int u6), .val (.int (Int32.ofNat y0)), .val (.int (Int32.ofNat y1)), .val (.int (Int32.ofNat z1)), .val (.ref b1190), .val (.ref b1196), .val (.ref b1200), .val (.ref t2), .val (.ref t3), .val (.double (FP.l2d (Int64.ofNat z2))), .second, .val (.double (FP.l2d (Int64.ofNat z3))), .second, .val (.int kp), .val (.int (Int32.ofNat zp)), .val (.ref b1200), .val (.ref b1216), .val (.int (Int32.ofNat 2)), .val (.int cl0), .val (.int cl1), .val (.int rm0), .val (.int rm1), .val (.int (1 : Int32)), .val (.int cl1), .val (.int rm1)] [(.int (1 : Int32)), (.int (own_fv zp (S4.1.getD 1 0)))])) _
          refine XS.icmpNo X1290.here hx rfl (hb hby at_392) rfl (teq (hfb h384)).2 ?_
          show Steps p.tables e below (T1290.setTop (mkF m 395 #[.val (.int u1), .val (.int u2), .val (.int u3), .val (.int u4), .val (.int u5), .val (.int u6), .val (.int (Int32.ofNat y0)), .val (.int (Int32.ofNat y1)), .val (.int (Int32.ofNat z1)), .val (.ref b1190), .val (.ref b1196), .val (.ref b1200), .val (.ref t2), .val (.ref t3), .val (.double (FP.l2d (Int64.ofNat z2))), .second, .val (.double (FP.l2d (Int64.ofNat z3))), .second, .val (.int kp), .val (.int (Int32.ofNat zp)), .val (.ref b1200), .val (.ref b1216), .val (.int (Int32.ofNat 2)), .val (.int cl0), .val (.int cl1), .val (.int rm0), .val (.int rm1), .val (.int (1 : Int32)), .val (.int cl1), .val (.int rm1)] [])) _
          refine XS.iconst X1290.here hx rfl (hb hby at_395) ?_
          show Steps p.tables e below (T1290.setTop (mkF m 396 #[.val (.int u1), .val (.int u2), .val (.int u3), .val (.int u4), .val (.int u5), .val (.int u6), .val (.int (Int32.ofNat y0)), .val (.int (Int32.ofNat y1)), .val (.int (Int32.ofNat z1)), .val (.ref b1190), .val (.ref b1196), .val (.ref b1200), .val (.ref t2), .val (.ref t3), .val (.double (FP.l2d (Int64.ofNat z2))), .second, .val (.double (FP.l2d (Int64.ofNat z3))), .second, .val (.int kp), .val (.int (Int32.ofNat zp)), .val (.ref b1200), .val (.ref b1216), .val (.int (Int32.ofNat 2)), .val (.int cl0), .val (.int cl1), .val (.int rm0), .val (.int rm1), .val (.int (1 : Int32)), .val (.int cl1), .val (.int rm1)] [(.int (1 : Int32))])) _
          refine XS.goto X1290.here hx rfl (pc0 := 396) (pc' := 400) rfl (hb hby at_396) (by decide) (by decide) ?_
          show Steps p.tables e below (T1290.setTop (mkF m 400 #[.val (.int u1), .val (.int u2), .val (.int u3), .val (.int u4), .val (.int u5), .val (.int u6), .val (.int (Int32.ofNat y0)), .val (.int (Int32.ofNat y1)), .val (.int (Int32.ofNat z1)), .val (.ref b1190), .val (.ref b1196), .val (.ref b1200), .val (.ref t2), .val (.ref t3), .val (.double (FP.l2d (Int64.ofNat z2))), .second, .val (.double (FP.l2d (Int64.ofNat z3))), .second, .val (.int kp), .val (.int (Int32.ofNat zp)), .val (.ref b1200), .val (.ref b1216), .val (.int (Int32.ofNat 2)), .val (.int cl0), .val (.int cl1), .val (.int rm0), .val (.int rm1), .val (.int (1 : Int32)), .val (.int cl1), .val (.int rm1)] [(.int (1 : Int32))])) _
          exact k)
        obtain ⟨fs, hr, hrun, hended, hW, hsame⟩ := X1290.leave (v := some (.int (1 : Int32))) (fun h => by rw [Bd.returns] at h; cases h)
        refine ⟨_, _, P1294 _ ?_, hrun, hended, _, _, rfl, ?_, ⟨_, rfl⟩, hW, hsame.mono (by decide) (by decide)⟩
        · exact retN X1290 hx (t := .boolean) Bd.returns (by simp) (hb hby at_400) hr
        · show Q_law Z u1 u2 u3 u4 u5 u6 h0 n0 _ T1290.heap _
          exact ⟨rfl, N1290⟩
    · have P1295 : ∀ t, Steps p.tables e below (T1272.setTop (mkF m 369 #[.val (.int u1), .val (.int u2), .val (.int u3), .val (.int u4), .val (.int u5), .val (.int u6), .val (.int (Int32.ofNat y0)), .val (.int (Int32.ofNat y1)), .val (.int (Int32.ofNat z1)), .val (.ref b1190), .val (.ref b1196), .val (.ref b1200), .val (.ref t2), .val (.ref t3), .val (.double (FP.l2d (Int64.ofNat z2))), .second, .val (.double (FP.l2d (Int64.ofNat z3))), .second, .val (.int kp), .val (.int (Int32.ofNat zp)), .val (.ref b1200), .val (.ref b1216), .val (.int (Int32.ofNat 2)), .val (.int cl0), .val (.int cl1), .val (.int rm0), .val (.int rm1), .val (.int (1 : Int32)), .val (.int cl1), .val (.int rm1)] [(.int (1 : Int32))])) t → Steps p.tables e below (s₁.setTop (entryFrame m #[(.int u1), (.int u2), (.int u3), (.int u4), (.int u5), (.int u6)] maxLocals)) t := fun t k => P1288 t (by
        refine XS.ifNo X1272.here hx rfl (hb hby at_364) rfl ((if0 _ _).trans (feq h364).1) ?_
        show Steps p.tables e below (T1272.setTop (mkF m 367 #[.val (.int u1), .val (.int u2), .val (.int u3), .val (.int u4), .val (.int u5), .val (.int u6), .val (.int (Int32.ofNat y0)), .val (.int (Int32.ofNat y1)), .val (.int (Int32.ofNat z1)), .val (.ref b1190), .val (.ref b1196), .val (.ref b1200), .val (.ref t2), .val (.ref t3), .val (.double (FP.l2d (Int64.ofNat z2))), .second, .val (.double (FP.l2d (Int64.ofNat z3))), .second, .val (.int kp), .val (.int (Int32.ofNat zp)), .val (.ref b1200), .val (.ref b1216), .val (.int (Int32.ofNat 2)), .val (.int cl0), .val (.int cl1), .val (.int rm0), .val (.int rm1), .val (.int (1 : Int32)), .val (.int cl1), .val (.int rm1)] [])) _
        refine XS.iload X1272.here hx rfl (hb hby at_367) rfl ?_
        show Steps p.tables e below (T1272.setTop (mkF m 369 #[.val (.int u1), .val (.int u2), .val (.int u3), .val (.int u4), .val (.int u5), .val (.int u6), .val (.int (Int32.ofNat y0)), .val (.int (Int32.ofNat y1)), .val (.int (Int32.ofNat z1)), .val (.ref b1190), .val (.ref b1196), .val (.ref b1200), .val (.ref t2), .val (.ref t3), .val (.double (FP.l2d (Int64.ofNat z2))), .second, .val (.double (FP.l2d (Int64.ofNat z3))), .second, .val (.int kp), .val (.int (Int32.ofNat zp)), .val (.ref b1200), .val (.ref b1216), .val (.int (Int32.ofNat 2)), .val (.int cl0), .val (.int cl1), .val (.int rm0), .val (.int rm1), .val (.int (1 : Int32)), .val (.int cl1), .val (.int rm1)] [(.int (1 : Int32))])) _
        exact k)
      obtain ⟨fs, hr, hrun, hended, hW, hsame⟩ := X1272.leave (v := some (.int (1 : Int32))) (fun h => by rw [Bd.returns] at h; cases h)
      refine ⟨_, _, P1295 _ ?_, hrun, hended, _, _, rfl, ?_, ⟨_, rfl⟩, hW, hsame.mono (by decide) (by decide)⟩
      · exact retN X1272 hx (t := .boolean) Bd.returns (by simp) (hb hby at_369) hr
      · show Q_law Z u1 u2 u3 u4 u5 u6 h0 n0 _ T1272.heap _
        rw [eq1]
        exact ⟨rfl, N1272⟩
set_option maxRecDepth 65536 in
set_option maxHeartbeats 40000000 in
theorem comes_1 {Post : Tables → Env → Array Value → State → Outcome → State → Prop} (hpost : ∀ tb e args s v u, (limb_1_1.after args s (.returned v) u = true ∧ limb_1_2.after args s (.returned v) u = true ∧ True) → FrameEnd s (.returned v) u (Jvm.fieldLocs frame_1_writes args s ++ Jvm.arrayLocs frame_1_arrays args s ++ Jvm.staticLocs frame_1_statics s) 32 192 → Post tb e args s (.returned v) u) :
    ArmFor flags0 classFile x code maxLocals ret World_1 tables_1 room_1 Calls_1 rest_1 Pre_1 Post := by
  intro l hfl _ _ p e ha hc hk s m args below hf hA hF happ hP
  obtain ⟨hcalls, hrest, hpre⟩ := hP
  obtain ⟨-, -, -, hnamed, -, -, -, hat⟩ := (Spec.applies_iff hf).mp happ
  obtain ⟨hg, hn⟩ := and_e (Cond.before_iff.mp (show (Jvm.Cond.and given_1 narrow_1).before args s = true from hpre))
  obtain ⟨g1, g2⟩ := and_e hg
  obtain ⟨g3, g4⟩ := and_e g2
  obtain ⟨g5, g6⟩ := and_e g4
  obtain ⟨g7, g8⟩ := and_e g6
  obtain ⟨g9, g10⟩ := and_e g8
  obtain ⟨g11, g12⟩ := and_e g10
  obtain ⟨w0, w1, w2, w3, w4, w5, rfl⟩ : ∃ w0 w1 w2 w3 w4 w5 : Value, args = #[w0, w1, w2, w3, w4, w5] := by
    have hs : args.size = 6 := by simpa [Cond.value, given_1] using g1
    obtain ⟨L⟩ := args
    match L, hs with
    | [w0, w1, w2, w3, w4, w5], _ => exact ⟨w0, w1, w2, w3, w4, w5, rfl⟩
  have hw := fun d (hd : d ∈ tables_1) => atoms_spec (ws := Jvm.Cond.code x code maxLocals ret :: tables_1) hat d (List.mem_cons_of_mem _ hd)
  have hfit : Fit s := fun {y c} hc i hi => by
    obtain ⟨ha, rfl⟩ := Array.getElem?_eq_some_iff.mp hc
    have q := List.all_eq_true.mp ((Array.all_eq_true_iff_forall_mem.mp hF) _ (Array.getElem_mem ha)) i (List.mem_range.mpr hi)
    simpa [Array.getElem?_eq_getElem hi] using q
  obtain ⟨i0, ei0⟩ := is_v g3
  obtain rfl : w0 = (.int i0) := Option.some.inj ei0
  obtain ⟨i1, ei1⟩ := is_v g5
  obtain rfl : w1 = (.int i1) := Option.some.inj ei1
  obtain ⟨i2, ei2⟩ := is_v g7
  obtain rfl : w2 = (.int i2) := Option.some.inj ei2
  obtain ⟨i3, ei3⟩ := is_v g9
  obtain rfl : w3 = (.int i3) := Option.some.inj ei3
  obtain ⟨i4, ei4⟩ := is_v g11
  obtain rfl : w4 = (.int i4) := Option.some.inj ei4
  obtain ⟨i5, ei5⟩ := is_v g12
  obtain rfl : w5 = (.int i5) := Option.some.inj ei5
  obtain ⟨n, o, h1, h2, h3, _, L, rfl, ⟨rfl, N⟩, hq⟩ := rm_law l s _ hw tables_1 i0 i1 i2 i3 i4 i5 s.heap s.heap.size (Nat.le_refl _)  p e ha hc hk s m _ below hf ((Spec.applies_iff_loose hf).mp happ).1 ⟨rfl, State.Warmed39.refl s, rfl⟩ trivial
  refine ⟨n, _, h1, h2, h3, hpost _ _ _ _ _ _ ⟨Cond.after_iff.mpr rfl, Cond.after_iff.mpr (eq_i res_at (Term.int_eval (1)) rfl), trivial⟩ ⟨hq.1, hq.2.1, (hq.2.2.sift fun y hy => Or.inr (N y hy)).mono (by decide) (by decide)⟩⟩
theorem main_1_1 : Claimed_1_1 := comes_1 fun _ _ _ _ _ _ h hF => ⟨h.1, hF⟩
theorem main_1_2 : Claimed_1_2 := comes_1 fun _ _ _ _ _ _ h hF => ⟨h.2.1, hF⟩
end Jvm.Pilot.@@N@@
namespace Jvm.Pilot.@@N@@
open Jvm Jvm.ClassFile Sem Op Lib Jvm.Free Jvm.Stand Jvm.Pilot.@@N@@.Jvm.D
/-! MADE BY PROGRAM (witnessworld.py) out of the Statement's table words and the real class files: 12 classes; the members and pool entries that the words name. The judged class is class 1, her method 2. -/
namespace start1
open Jvm.ClassFile
def u (s : String) : CpInfo := .utf8 (stringToUtf16 s)
/-- a pool by its gaps: so many unusable entries, then the entry; so many at the end -/
def gap : Nat → List CpInfo → List CpInfo
  | 0, r => r
  | n + 1, r => .unusable :: gap n r
def poolList (es : List (Nat × CpInfo)) (last : Nat) : List CpInfo := es.foldr (fun e r => gap e.1 (e.2 :: r)) (gap last [])
def pool (es : List (Nat × CpInfo)) (last : Nat) : Array CpInfo := ⟨poolList es last⟩
def fileOf (pool : Array CpInfo) (this : Nat) (attrs : Array Attribute := #[]) (ms : Array MethodInfo := #[]) (fl : Nat := 33) (sup : Nat := 0) (ifs : Array Nat := #[]) (fds : Array FieldInfo := #[]) : ClassFile where
  minorVersion := 0
  majorVersion := 65
  constantPool := pool
  accessFlags := fl
  thisClass := this
  superClass := sup
  interfaces := ifs
  fields := fds
  methods := ms
  attributes := attrs
def plain (name : String) (sup : Option ClassId) : Class where
  name := name
  kind := .ordinary
  loader := none
  accessFlags := 33
  super := sup
  interfaces := #[]
  cf := none
  fields := #[]
  methods := #[]
  instanceTypes := #[]
  staticTypes := #[]
  resolved := #[]
  callSites := []
  init := .initialized
  statics := none
  mirror := none

def pool0 : Array CpInfo := pool [(5, u "<init>"), (0, u "()V"), (1, .class_ 10), (1, u "java/lang/Object"), (85, u "clone"), (0, u "()Ljava/lang/Object;")] 26

def k0c0 : Code := { maxStack := 0, maxLocals := 1, code := object_method_1_code, exceptionTable := #[], attributes := #[] }
def k0m0 : Method := { name := "<init>", desc := "()V", sig := { parameters := [], returnType := none }, accessFlags := 1, code := some k0c0 }
def k0m1 : Method := { name := "clone", desc := "()Ljava/lang/Object;", sig := { parameters := [], returnType := some (.object "java/lang/Object") }, accessFlags := 260, code := none }
/-- java/lang/Object -/
def k0 : Class := { plain "java/lang/Object" none with
  accessFlags := 33
  interfaces := #[]
  cf := some (fileOf pool0 8 #[] #[{ accessFlags := 1, nameIndex := 5, descriptorIndex := 6, attributes := #[] }, { accessFlags := 260, nameIndex := 96, descriptorIndex := 97, attributes := #[] }] 33 0 #[] #[])
  fields := #[]
  methods := #[k0m0, k0m1]
  instanceTypes := #[]
  staticTypes := #[]
  resolved := Array.replicate 124 none
  statics := none }

def pool1 : Array CpInfo := pool [(2, .class_ 4), (1, u "java/lang/Object"), (0, u "<init>"), (0, u "()V"), (0, .methodref 8 9), (0, .class_ 10), (0, .nameAndType 11 12), (0, u "com/example/tributary/tributary/solver/RoomsUndoPinLaw"), (0, u "route"), (0, u "(I)[I"), (0, .class_ 14), (0, u "com/example/tributary/tributary/solver/Rooms"), (0, .methodref 13 16), (0, .nameAndType 5 17), (0, u "([DI)V"), (0, .methodref 13 19), (0, .nameAndType 20 21), (0, u "tryJob"), (0, u "([ID)Z"), (0, .methodref 13 23), (0, .nameAndType 24 25), (0, u "mark"), (0, u "()I"), (0, .methodref 13 27), (0, .nameAndType 28 29), (0, u "open"), (0, u "([I)Z"), (0, .methodref 13 31), (0, .nameAndType 32 33), (0, u "undo"), (0, u "(I)V"), (3, u "law"), (0, u "(IIIIII)Z")] 4

def k1m0 : Method := { name := "<init>", desc := "()V", sig := { parameters := [], returnType := none }, accessFlags := 1, code := none }
def k1c1 : Code := { maxStack := 4, maxLocals := 1, code := method_2_code, exceptionTable := #[], attributes := #[] }
def k1m1 : Method := { name := "route", desc := "(I)[I", sig := { parameters := [.int], returnType := some (.array .int) }, accessFlags := 10, code := some k1c1 }
def k1c2 : Code := { maxStack := 7, maxLocals := 30, code := code, exceptionTable := #[], attributes := #[] }
def k1m2 : Method := { name := "law", desc := "(IIIIII)Z", sig := { parameters := [.int, .int, .int, .int, .int, .int], returnType := some .boolean }, accessFlags := 9, code := some k1c2 }
/-- com/example/tributary/tributary/solver/RoomsUndoPinLaw -/
def k1 : Class := { plain "com/example/tributary/tributary/solver/RoomsUndoPinLaw" (some 0) with
  accessFlags := 49
  interfaces := #[]
  cf := some (fileOf pool1 8 #[] #[{ accessFlags := 1, nameIndex := 5, descriptorIndex := 6, attributes := #[] }, { accessFlags := 10, nameIndex := 11, descriptorIndex := 12, attributes := #[] }, { accessFlags := 9, nameIndex := 37, descriptorIndex := 38, attributes := #[] }] 49 2 #[] #[])
  fields := #[]
  methods := #[k1m0, k1m1, k1m2]
  instanceTypes := #[]
  staticTypes := #[]
  resolved := Array.replicate 43 none
  statics := none }

def pool2 : Array CpInfo := pool [(1, .methodref 2 3), (0, .class_ 4), (0, .nameAndType 5 6), (0, u "java/lang/Object"), (0, u "<init>"), (0, u "()V"), (0, .methodref 8 9), (0, .class_ 10), (0, .nameAndType 11 12), (0, u "[D"), (0, u "clone"), (0, u "()Ljava/lang/Object;"), (0, .fieldref 14 15), (0, .class_ 16), (0, .nameAndType 17 10), (0, u "com/example/tributary/tributary/solver/Rooms"), (0, u "room"), (0, .fieldref 14 19), (0, .nameAndType 20 21), (0, u "closed"), (0, u "[Z"), (0, .fieldref 14 23), (0, .nameAndType 24 25), (0, u "loggedLink"), (0, u "[I"), (0, .fieldref 14 27), (0, .nameAndType 28 10), (0, u "loggedRoom"), (0, .fieldref 14 30), (0, .nameAndType 31 21), (0, u "loggedClosed"), (0, .methodref 14 33), (0, .nameAndType 34 35), (0, u "fits"), (0, u "(ID)Z"), (0, .methodref 14 37), (0, .nameAndType 38 39), (0, u "log"), (0, u "(I)V"), (0, .methodref 41 42), (0, .class_ 43), (0, .nameAndType 34 44), (0, u "com/example/tributary/tributary/solver/Fit"), (0, u "(DD)Z"), (0, .fieldref 14 46), (0, .nameAndType 47 48), (0, u "logged"), (0, u "I"), (0, u "([DI)V"), (2, u "open"), (0, u "([I)Z"), (2, u "tryJob"), (0, u "([ID)Z"), (0, u "mark"), (0, u "()I"), (0, u "undo")] 2

def k2c0 : Code := { maxStack := 2, maxLocals := 3, code := prog_52_method_1_code, exceptionTable := #[], attributes := #[] }
def k2m0 : Method := { name := "<init>", desc := "([DI)V", sig := { parameters := [(.array .double), .int], returnType := none }, accessFlags := 0, code := some k2c0 }
def k2c1 : Code := { maxStack := 2, maxLocals := 6, code := prog_52_method_2_code, exceptionTable := #[], attributes := #[] }
def k2m1 : Method := { name := "open", desc := "([I)Z", sig := { parameters := [(.array .int)], returnType := some .boolean }, accessFlags := 0, code := some k2c1 }
def k2c2 : Code := { maxStack := 6, maxLocals := 9, code := prog_52_method_3_code, exceptionTable := #[], attributes := #[] }
def k2m2 : Method := { name := "tryJob", desc := "([ID)Z", sig := { parameters := [(.array .int), .double], returnType := some .boolean }, accessFlags := 0, code := some k2c2 }
def k2c3 : Code := { maxStack := 4, maxLocals := 4, code := prog_52_method_4_code, exceptionTable := #[], attributes := #[] }
def k2m3 : Method := { name := "fits", desc := "(ID)Z", sig := { parameters := [.int, .double], returnType := some .boolean }, accessFlags := 2, code := some k2c3 }
def k2c4 : Code := { maxStack := 1, maxLocals := 1, code := prog_52_method_5_code, exceptionTable := #[], attributes := #[] }
def k2m4 : Method := { name := "mark", desc := "()I", sig := { parameters := [], returnType := some .int }, accessFlags := 0, code := some k2c4 }
def k2c5 : Code := { maxStack := 4, maxLocals := 2, code := prog_52_method_6_code, exceptionTable := #[], attributes := #[] }
def k2m5 : Method := { name := "undo", desc := "(I)V", sig := { parameters := [.int], returnType := none }, accessFlags := 0, code := some k2c5 }
def k2c6 : Code := { maxStack := 4, maxLocals := 2, code := prog_52_method_7_code, exceptionTable := #[], attributes := #[] }
def k2m6 : Method := { name := "log", desc := "(I)V", sig := { parameters := [.int], returnType := none }, accessFlags := 2, code := some k2c6 }
/-- com/example/tributary/tributary/solver/Rooms -/
def k2 : Class := { plain "com/example/tributary/tributary/solver/Rooms" (some 0) with
  accessFlags := 48
  interfaces := #[]
  cf := some (fileOf pool2 14 #[] #[{ accessFlags := 0, nameIndex := 5, descriptorIndex := 49, attributes := #[] }, { accessFlags := 0, nameIndex := 52, descriptorIndex := 53, attributes := #[] }, { accessFlags := 0, nameIndex := 56, descriptorIndex := 57, attributes := #[] }, { accessFlags := 2, nameIndex := 34, descriptorIndex := 35, attributes := #[] }, { accessFlags := 0, nameIndex := 58, descriptorIndex := 59, attributes := #[] }, { accessFlags := 0, nameIndex := 60, descriptorIndex := 39, attributes := #[] }, { accessFlags := 2, nameIndex := 38, descriptorIndex := 39, attributes := #[] }] 48 2 #[] #[{ accessFlags := 18, nameIndex := 17, descriptorIndex := 10, attributes := #[] }, { accessFlags := 18, nameIndex := 20, descriptorIndex := 21, attributes := #[] }, { accessFlags := 18, nameIndex := 24, descriptorIndex := 25, attributes := #[] }, { accessFlags := 18, nameIndex := 28, descriptorIndex := 10, attributes := #[] }, { accessFlags := 18, nameIndex := 31, descriptorIndex := 21, attributes := #[] }, { accessFlags := 2, nameIndex := 47, descriptorIndex := 48, attributes := #[] }])
  fields := #[{ name := "room", type := (.array .double), accessFlags := 18, slot := 0, constantValue := 0 }, { name := "closed", type := (.array .boolean), accessFlags := 18, slot := 1, constantValue := 0 }, { name := "loggedLink", type := (.array .int), accessFlags := 18, slot := 2, constantValue := 0 }, { name := "loggedRoom", type := (.array .double), accessFlags := 18, slot := 3, constantValue := 0 }, { name := "loggedClosed", type := (.array .boolean), accessFlags := 18, slot := 4, constantValue := 0 }, { name := "logged", type := .int, accessFlags := 2, slot := 5, constantValue := 0 }]
  methods := #[k2m0, k2m1, k2m2, k2m3, k2m4, k2m5, k2m6]
  instanceTypes := #[(.array .double), (.array .boolean), (.array .int), (.array .double), (.array .boolean), .int]
  staticTypes := #[]
  resolved := Array.replicate 63 none
  statics := none }

def pool3 : Array CpInfo := pool [(1, .class_ 2), (0, u "java/lang/Cloneable"), (0, .class_ 4), (0, u "java/lang/Object")] 2

/-- java/lang/Cloneable -/
def k3 : Class := { plain "java/lang/Cloneable" (some 0) with
  accessFlags := 1537
  interfaces := #[]
  cf := some (fileOf pool3 1 #[] #[] 1537 3 #[] #[])
  fields := #[]
  methods := #[]
  instanceTypes := #[]
  staticTypes := #[]
  resolved := Array.replicate 7 none
  statics := none }

def pool4 : Array CpInfo := pool [(2, .class_ 4), (1, u "java/lang/Object"), (0, u "<init>"), (0, u "()V"), (0, .class_ 8), (0, u "com/example/tributary/tributary/solver/Fit"), (0, .double 4472406533629990549), (13, u "fits"), (0, u "(DD)Z"), (3, u "TOLERANCE"), (0, u "D")] 7

def k4m0 : Method := { name := "<init>", desc := "()V", sig := { parameters := [], returnType := none }, accessFlags := 2, code := none }
def k4c1 : Code := { maxStack := 6, maxLocals := 4, code := prog_45_method_2_code, exceptionTable := #[], attributes := #[] }
def k4m1 : Method := { name := "fits", desc := "(DD)Z", sig := { parameters := [.double, .double], returnType := some .boolean }, accessFlags := 9, code := some k4c1 }
/-- com/example/tributary/tributary/solver/Fit -/
def k4 : Class := { plain "com/example/tributary/tributary/solver/Fit" (some 0) with
  accessFlags := 49
  interfaces := #[]
  cf := some (fileOf pool4 7 #[] #[{ accessFlags := 2, nameIndex := 5, descriptorIndex := 6, attributes := #[] }, { accessFlags := 9, nameIndex := 23, descriptorIndex := 24, attributes := #[] }] 49 2 #[] #[{ accessFlags := 26, nameIndex := 28, descriptorIndex := 29, attributes := #[] }])
  fields := #[{ name := "TOLERANCE", type := .double, accessFlags := 26, slot := 0, constantValue := 0 }]
  methods := #[k4m0, k4m1]
  instanceTypes := #[]
  staticTypes := #[.double]
  resolved := Array.replicate 37 none
  statics := none }

def pool5 : Array CpInfo := pool [(1, u "java/io/Serializable"), (0, .class_ 1), (0, u "java/lang/Object"), (0, .class_ 3)] 3

/-- java/io/Serializable -/
def k5 : Class := { plain "java/io/Serializable" (some 0) with
  accessFlags := 1537
  interfaces := #[]
  cf := some (fileOf pool5 2 #[] #[] 1537 4 #[] #[])
  fields := #[]
  methods := #[]
  instanceTypes := #[]
  staticTypes := #[]
  resolved := Array.replicate 8 none
  statics := none }

/-- the primitive boolean -/
def k6 : Class := { plain "boolean" none with kind := .primitive 'Z', accessFlags := 0x411 }
/-- [Z -/
def k7 : Class := { plain "[Z" (some 0) with kind := .array 6 .boolean, interfaces := #[3, 5], accessFlags := 1041 }

/-- the primitive byte -/
def k8 : Class := { plain "byte" none with kind := .primitive 'B', accessFlags := 0x411 }
/-- [B -/
def k9 : Class := { plain "[B" (some 0) with kind := .array 8 .byte, interfaces := #[3, 5], accessFlags := 1041 }

/-- the primitive int -/
def k10 : Class := { plain "int" none with kind := .primitive 'I', accessFlags := 0x411 }
/-- [I -/
def k11 : Class := { plain "[I" (some 0) with kind := .array 10 .int, interfaces := #[3, 5], accessFlags := 1041 }

/-- the primitive double -/
def k12 : Class := { plain "double" none with kind := .primitive 'D', accessFlags := 0x411 }
/-- [D -/
def k13 : Class := { plain "[D" (some 0) with kind := .array 12 .double, interfaces := #[3, 5], accessFlags := 1041 }

def heap : Heap := #[]
def classes : Array Class := #[k0, k1, k2, k3, k4, k5, k6, k7, k8, k9, k10, k11, k12, k13]
def interned : List (Array UInt16 × Addr) := []
def slotsUsed : Nat := 0
def theMethod : MethodId := ⟨1, 2⟩
def args0 : Array Value := #[.int 1, .int 3, .int 2, .int 2, .int 2, .int 5]
def aboutOver (below : List Frame) : State where
  vm := { classes := classes, interned := interned.toArray }
  heap := heap
  slotsUsed := slotsUsed
  threads := #[{ frames := .invoking theMethod args0 :: below }]
def below0 : List Frame := [.native { method := ⟨0, 0⟩, args := #[] }]
def about1 : State := aboutOver below0
def p0 : Program := .bare "" "" ""
def e0 : Env := launch0.env 0 0 0
theorem w_frames : about1.frames = Frame.invoking theMethod args0 :: below0 := rfl
set_option maxRecDepth 65536 in
theorem w_args : argsFit about1.vm theMethod args0 = true := by decide +kernel
set_option maxRecDepth 65536 in
theorem w_heap : heapFits about1 = true := by decide +kernel
set_option maxRecDepth 65536 in
theorem w_runnable : about1.curStatus? = some .runnable := by decide +kernel
set_option maxRecDepth 65536 in
theorem w_alone : about1.alone = true := by decide +kernel
set_option maxRecDepth 65536 in
theorem w_named : about1.methodNamed? x = some theMethod := by decide +kernel
set_option maxRecDepth 65536 in
theorem w_hears : about1.hears theMethod below0 = true := by decide +kernel
set_option maxRecDepth 65536 in
theorem w_ripe : about1.ripe theMethod args0 below0 = true := by decide +kernel
theorem w_running : about1.status = .running := rfl
set_option maxRecDepth 65536 in
theorem w_room : about1.hasRoom e0.platform room_1 = true :=
  launch0.hasRoom_least _ room_1 (by decide +kernel) (by decide +kernel) (by decide +kernel) (by decide +kernel) (by decide +kernel) (by decide +kernel)
theorem allAtoms_all (ts : List Jvm.Cond) (a : Array Jvm.Value) (st : Jvm.State) : (allAtoms ts).before a st = ts.all (fun c => c.before a st) := by
  induction ts with
  | nil => rfl
  | cons c t ih =>
    show (Jvm.Cond.and c (allAtoms t)).before a st = _
    rw [Jvm.Cond.before_and, ih, List.all_cons]
def words1 : List Jvm.Cond := Jvm.Cond.code x code maxLocals ret :: tables_1
/-- a 'code' word, met by the world's own term for the bytes: nothing is compared byte by byte -/
theorem code_word {y : MethodName} {bytes : ByteArray} {mx : Nat} {rt : Option FieldType} {a : Array Value} {s : State} {m : MethodId} {meth : Method} {c : Code} (h1 : s.methodNamed? y = some m) (h2 : s.vm.method? m = some meth) (h3 : meth.code = some c) (h4 : c.code = bytes)
    (h5 : (c.maxLocals == mx && c.exceptionTable.isEmpty && decide (c.maxStack ≤ mostOperands) && decide (meth.sig.returnType = rt) && !meth.locks && decide (parseMethodDescriptor y.desc = some meth.sig)) = true) : (Jvm.Cond.code y bytes mx rt).before a s = true := by
  simp only [Bool.and_eq_true, beq_iff_eq, Bool.not_eq_true', decide_eq_true_eq] at h5
  obtain ⟨⟨⟨⟨⟨g1, g2⟩, g3⟩, g4⟩, g5⟩, g6⟩ := h5
  simp [Cond.before, Cond.holds, Cond.value, h1, h2, h3, h4, g1, g2, g3, g4, g5, g6]
def isCode : Jvm.Cond → Bool
  | .code _ _ _ _ => true
  | _ => false
theorem all_split {L : List Jvm.Cond} {P : Jvm.Cond → Bool} (h1 : L.all (fun c => isCode c || P c) = true) (h2 : ∀ c ∈ L.filter isCode, P c = true) : L.all P = true := by
  refine List.all_eq_true.mpr fun c hc => ?_
  have h := List.all_eq_true.mp h1 c hc
  rcases Bool.eq_false_or_eq_true (isCode c) with hi | hi
  · exact h2 c (List.mem_filter.mpr ⟨hc, hi⟩)
  · simpa [hi] using h
set_option maxRecDepth 65536 in
theorem w_c0 : (Jvm.Cond.code x code maxLocals ret).before args0 about1 = true := code_word (m := ⟨1, 2⟩) (meth := k1m2) (c := k1c2) (by decide +kernel) rfl rfl rfl (by decide +kernel)
set_option maxRecDepth 65536 in
theorem w_c1 : (Jvm.Cond.code ({ cls := "com/example/tributary/tributary/solver/RoomsUndoPinLaw", name := "route", desc := "(I)[I" } : Jvm.MethodName) method_2_code (1 : Nat) (Option.some (Jvm.ClassFile.FieldType.array Jvm.ClassFile.FieldType.int))).before args0 about1 = true := code_word (m := ⟨1, 1⟩) (meth := k1m1) (c := k1c1) (by decide +kernel) rfl rfl rfl (by decide +kernel)
set_option maxRecDepth 65536 in
theorem w_c2 : (Jvm.Cond.code ({ cls := "com/example/tributary/tributary/solver/Rooms", name := "<init>", desc := "([DI)V" } : Jvm.MethodName) prog_52_method_1_code (3 : Nat) (Option.none : Option Jvm.ClassFile.FieldType)).before args0 about1 = true := code_word (m := ⟨2, 0⟩) (meth := k2m0) (c := k2c0) (by decide +kernel) rfl rfl rfl (by decide +kernel)
set_option maxRecDepth 65536 in
theorem w_c3 : (Jvm.Cond.code ({ cls := "java/lang/Object", name := "<init>", desc := "()V" } : Jvm.MethodName) object_method_1_code (1 : Nat) (Option.none : Option Jvm.ClassFile.FieldType)).before args0 about1 = true := code_word (m := ⟨0, 0⟩) (meth := k0m0) (c := k0c0) (by decide +kernel) rfl rfl rfl (by decide +kernel)
set_option maxRecDepth 65536 in
theorem w_c4 : (Jvm.Cond.code ({ cls := "com/example/tributary/tributary/solver/Rooms", name := "tryJob", desc := "([ID)Z" } : Jvm.MethodName) prog_52_method_3_code (9 : Nat) (Option.some Jvm.ClassFile.FieldType.boolean)).before args0 about1 = true := code_word (m := ⟨2, 2⟩) (meth := k2m2) (c := k2c2) (by decide +kernel) rfl rfl rfl (by decide +kernel)
set_option maxRecDepth 65536 in
theorem w_c5 : (Jvm.Cond.code ({ cls := "com/example/tributary/tributary/solver/Rooms", name := "fits", desc := "(ID)Z" } : Jvm.MethodName) prog_52_method_4_code (4 : Nat) (Option.some Jvm.ClassFile.FieldType.boolean)).before args0 about1 = true := code_word (m := ⟨2, 3⟩) (meth := k2m3) (c := k2c3) (by decide +kernel) rfl rfl rfl (by decide +kernel)
set_option maxRecDepth 65536 in
theorem w_c6 : (Jvm.Cond.code ({ cls := "com/example/tributary/tributary/solver/Fit", name := "fits", desc := "(DD)Z" } : Jvm.MethodName) prog_45_method_2_code (4 : Nat) (Option.some Jvm.ClassFile.FieldType.boolean)).before args0 about1 = true := code_word (m := ⟨4, 1⟩) (meth := k4m1) (c := k4c1) (by decide +kernel) rfl rfl rfl (by decide +kernel)
set_option maxRecDepth 65536 in
theorem w_c7 : (Jvm.Cond.code ({ cls := "com/example/tributary/tributary/solver/Rooms", name := "log", desc := "(I)V" } : Jvm.MethodName) prog_52_method_7_code (2 : Nat) (Option.none : Option Jvm.ClassFile.FieldType)).before args0 about1 = true := code_word (m := ⟨2, 6⟩) (meth := k2m6) (c := k2c6) (by decide +kernel) rfl rfl rfl (by decide +kernel)
set_option maxRecDepth 65536 in
theorem w_c8 : (Jvm.Cond.code ({ cls := "com/example/tributary/tributary/solver/Rooms", name := "mark", desc := "()I" } : Jvm.MethodName) prog_52_method_5_code (1 : Nat) (Option.some Jvm.ClassFile.FieldType.int)).before args0 about1 = true := code_word (m := ⟨2, 4⟩) (meth := k2m4) (c := k2c4) (by decide +kernel) rfl rfl rfl (by decide +kernel)
set_option maxRecDepth 65536 in
theorem w_c9 : (Jvm.Cond.code ({ cls := "com/example/tributary/tributary/solver/Rooms", name := "open", desc := "([I)Z" } : Jvm.MethodName) prog_52_method_2_code (6 : Nat) (Option.some Jvm.ClassFile.FieldType.boolean)).before args0 about1 = true := code_word (m := ⟨2, 1⟩) (meth := k2m1) (c := k2c1) (by decide +kernel) rfl rfl rfl (by decide +kernel)
set_option maxRecDepth 65536 in
theorem w_c10 : (Jvm.Cond.code ({ cls := "com/example/tributary/tributary/solver/Rooms", name := "undo", desc := "(I)V" } : Jvm.MethodName) prog_52_method_6_code (2 : Nat) (Option.none : Option Jvm.ClassFile.FieldType)).before args0 about1 = true := code_word (m := ⟨2, 5⟩) (meth := k2m5) (c := k2c5) (by decide +kernel) rfl rfl rfl (by decide +kernel)
def codes1 : List Jvm.Cond := [Jvm.Cond.code x code maxLocals ret, Jvm.Cond.code ({ cls := "com/example/tributary/tributary/solver/RoomsUndoPinLaw", name := "route", desc := "(I)[I" } : Jvm.MethodName) method_2_code (1 : Nat) (Option.some (Jvm.ClassFile.FieldType.array Jvm.ClassFile.FieldType.int)), Jvm.Cond.code ({ cls := "com/example/tributary/tributary/solver/Rooms", name := "<init>", desc := "([DI)V" } : Jvm.MethodName) prog_52_method_1_code (3 : Nat) (Option.none : Option Jvm.ClassFile.FieldType), Jvm.Cond.code ({ cls := "java/lang/Object", name := "<init>", desc := "()V" } : Jvm.MethodName) object_method_1_code (1 : Nat) (Option.none : Option Jvm.ClassFile.FieldType), Jvm.Cond.code ({ cls := "com/example/tributary/tributary/solver/Rooms", name := "tryJob", desc := "([ID)Z" } : Jvm.MethodName) prog_52_method_3_code (9 : Nat) (Option.some Jvm.ClassFile.FieldType.boolean), Jvm.Cond.code ({ cls := "com/example/tributary/tributary/solver/Rooms", name := "fits", desc := "(ID)Z" } : Jvm.MethodName) prog_52_method_4_code (4 : Nat) (Option.some Jvm.ClassFile.FieldType.boolean), Jvm.Cond.code ({ cls := "com/example/tributary/tributary/solver/Fit", name := "fits", desc := "(DD)Z" } : Jvm.MethodName) prog_45_method_2_code (4 : Nat) (Option.some Jvm.ClassFile.FieldType.boolean), Jvm.Cond.code ({ cls := "com/example/tributary/tributary/solver/Rooms", name := "log", desc := "(I)V" } : Jvm.MethodName) prog_52_method_7_code (2 : Nat) (Option.none : Option Jvm.ClassFile.FieldType), Jvm.Cond.code ({ cls := "com/example/tributary/tributary/solver/Rooms", name := "mark", desc := "()I" } : Jvm.MethodName) prog_52_method_5_code (1 : Nat) (Option.some Jvm.ClassFile.FieldType.int), Jvm.Cond.code ({ cls := "com/example/tributary/tributary/solver/Rooms", name := "open", desc := "([I)Z" } : Jvm.MethodName) prog_52_method_2_code (6 : Nat) (Option.some Jvm.ClassFile.FieldType.boolean), Jvm.Cond.code ({ cls := "com/example/tributary/tributary/solver/Rooms", name := "undo", desc := "(I)V" } : Jvm.MethodName) prog_52_method_6_code (2 : Nat) (Option.none : Option Jvm.ClassFile.FieldType)]
set_option maxRecDepth 65536 in
theorem codes_eq : words1.filter isCode = codes1 := rfl
theorem w_codes : ∀ c ∈ words1.filter isCode, c.before args0 about1 = true := by
  rw [codes_eq]
  intro c hc
  simp only [codes1, List.mem_cons, List.not_mem_nil, or_false] at hc
  rcases hc with rfl | rfl | rfl | rfl | rfl | rfl | rfl | rfl | rfl | rfl | rfl
  · exact w_c0
  · exact w_c1
  · exact w_c2
  · exact w_c3
  · exact w_c4
  · exact w_c5
  · exact w_c6
  · exact w_c7
  · exact w_c8
  · exact w_c9
  · exact w_c10
set_option maxRecDepth 65536 in
theorem w_t1 : (words1.take 24).all (fun c => isCode c || c.before args0 about1) = true := by decide +kernel
set_option maxRecDepth 65536 in
theorem w_t2 : ((words1.drop 24).take 24).all (fun c => isCode c || c.before args0 about1) = true := by decide +kernel
set_option maxRecDepth 65536 in
theorem w_t3 : ((words1.drop 24).drop 24).all (fun c => isCode c || c.before args0 about1) = true := by decide +kernel
theorem w_tables : (allAtoms (Jvm.Cond.code x code maxLocals ret :: tables_1)).before args0 about1 = true := by
  rw [allAtoms_all]
  show words1.all (fun c => c.before args0 about1) = true
  refine all_split ?_ w_codes
  rw [← List.take_append_drop 24 words1, List.all_append, w_t1, ← List.take_append_drop 24 (words1.drop 24), List.all_append, w_t2, w_t3]
  rfl
set_option maxRecDepth 65536 in
theorem w_case : (Jvm.Cond.and given_1 narrow_1).before args0 about1 = true := by decide +kernel
theorem w_applies : (headSpec (Jvm.Cond.code x code maxLocals ret :: tables_1) room_1).applies x e0.platform about1 = true :=
  (Spec.applies_iff w_frames).mpr ⟨w_running, w_runnable, w_alone, w_named, w_hears, w_ripe, w_room, w_tables⟩
theorem atStart : AtStart classFile x code maxLocals ret World_1 tables_1 room_1 Calls_1 rest_1 Pre_1 launch0 p0 e0 about1 theMethod args0 below0 :=
  ⟨lists_1, trivial, launch0.admits_env _ _ _, launch0.least_env, fairChoices_fair.cas, fairChoices_fair.clock, w_frames, w_args, w_heap, w_applies, trivial, trivial, w_case⟩
end start1
theorem witness_1 : WitnessClaimed_1 := ⟨start1.p0, start1.e0, start1.about1, start1.theMethod, start1.args0, start1.below0, start1.atStart⟩
end Jvm.Pilot.@@N@@
