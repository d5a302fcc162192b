import JvmDerived
import JvmDerived.Pilot.@@N@@Statement
import JvmDerived.Pilot.@@N@@Code
set_option linter.unusedVariables false
set_option linter.unusedSimpArgs false
namespace Jvm.RoadKit
open Sem ClassFile Op Lib Jvm.Stand Jvm.Free Jvm.LawKit
section New
variable {p : Program} {l : Launch} {e : Env} {R : Room} {s : State} {m : MethodId} {args : Array Value} {below : List Frame} {meth : Method} {c : Code} {T : State} {locs : List Loc} {cells slots : Nat}
theorem retI (X : Stand p l e R s m args below meth c T locs cells slots) (hx : p.tables.exec = Jvm.exec) {pc : Nat} {Ls : Array Slot} {z : Int32} {rest : List Value} (hret : meth.sig.returnType = some .int) (hd : decode c.code pc = .ok (.ireturn, 1)) {fs : List Frame}
    (hl : ∀ (f : JFrame) (acts : List Action), f.method = m → f.locked = none → f.entered = [] → (doReturn e (T.setTop f) acts (some (.int z))).1 = T.setFrames fs) : Steps p.tables e below (T.setTop (mkF m pc Ls (.int z :: rest))) (T.setFrames fs) := by
  have hm' : T.vm.method? m = some meth := X.method'
  have hn : narrow .int (.int z) = .int z := rfl
  show Steps p.tables e below (T.setTop { method := m, pc := pc, locals := Ls, stack := _ :: rest, locked := none }) _
  jvm_step X.here [X.here.top, hx, hd, hm', hret, hn]
  first | (intro acts; rw [hl _ acts rfl rfl rfl]) | rw [hl _ _ rfl rfl rfl]
  exact Steps.refl _
end New
end Jvm.RoadKit
namespace Jvm.Pilot.@@N@@
open Jvm Jvm.ClassFile Sem Op Lib Jvm.Free Jvm.Stand Jvm.LawKit Jvm.RoadKit Bundle Jvm.Pilot.@@N@@.Jvm.D
theorem cat_ref {v : Value} (h : v.isRef = true) : v.category = 1 := by rcases ref_cases h with rfl | ⟨_, rfl⟩ <;> rfl
theorem nar_ref {v : Value} {ty : FieldType} (h : v.isRef = true) : narrow ty v = v := by rcases ref_cases h with rfl | ⟨_, rfl⟩ <;> cases ty <;> rfl
theorem fit_obj {v : Value} {n : String} (h : v.isRef = true) : fits (.object n) v = true := by rcases ref_cases h with rfl | ⟨_, rfl⟩ <;> rfl
/-- nothing, or a box that holds q -/
def own_box (Z : State) (h : Heap) (r : Value) (q : Int64) : Prop := r = .null ∨ ∃ a, r = .ref a ∧ Exa Z h a "java/lang/Long" ∧ Fld Z h a "java/lang/Long" "value" "J" (.long q)
theorem own_box.ref {Z : State} {h : Heap} {r : Value} {q : Int64} (F : own_box Z h r q) : r.isRef = true := by
  rcases F with rfl | ⟨a, rfl, _⟩ <;> rfl
theorem own_box.ext {Z : State} {h h' : Heap} {r : Value} {q : Int64} (F : own_box Z h r q) (E : Ext h h') : own_box Z h' r q := F.imp id fun ⟨a, e, x, f⟩ => ⟨a, e, x.ext E, f.ext E⟩
theorem own_box.wr {Z : State} {h h' : Heap} {r v : Value} {q : Int64} {b : Addr} {sl : Nat} (F : own_box Z h r q) (W : Wr h h' b sl v) {C : String} (E : Exa Z h b C) (hn : "java/lang/Long" ≠ C) : own_box Z h' r q := F.imp id fun ⟨a, e, x, f⟩ => ⟨a, e, x.wr W, f.other W (Or.inl (ne_exa x E hn))⟩
theorem own_box.keep0 {Z : State} {h h' : Heap} {r : Value} {q : Int64} (F : own_box Z h r q) (K : Keep h h' []) : own_box Z h' r q := F.imp id fun ⟨a, e, x, f⟩ => ⟨a, e, x.keep K, f.keep K nin0⟩
theorem own_box.keep1 {Z : State} {h h' : Heap} {r : Value} {q : Int64} {b : Addr} (F : own_box Z h r q) (K : Keep h h' [b]) {C : String} (E : Exa Z h b C) (hn : "java/lang/Long" ≠ C) : own_box Z h' r q := F.imp id fun ⟨a, e, x, f⟩ => ⟨a, e, x.keep K, f.keep K (ninS (ne_exa x E hn) nin0)⟩
theorem own_sec (x : Int64) : 1 ≤ ((x &&& (9223372036854775807 : Int64)) % (9223372036854775 : Int64) + (1 : Int64)).toInt ∧ ((x &&& (9223372036854775807 : Int64)) % (9223372036854775 : Int64) + (1 : Int64)).toInt ≤ 9223372036854775 := by
  have m := c_maskL x 9223372036854775807 63 (by decide) (by decide)
  have q := (c_lrem (x &&& 9223372036854775807) 9223372036854775 9223372036854775 (by decide)).1 (by omega)
  rw [lrem_mod] at q
  have s := c_ladd ((x &&& 9223372036854775807) % 9223372036854775) 1
  have r := rng64 ((x &&& 9223372036854775807) % 9223372036854775 + 1)
  have e : (1 : Int64).toInt = 1 := by decide
  omega
theorem own_lo {q : Int64} (h : 1 ≤ q.toInt) : ¬ q < (1 : Int64) := by
  rw [Int64.lt_iff_toInt_lt]; have e : (1 : Int64).toInt = 1 := by decide
  omega
theorem own_pos {q : Int64} (h : ¬ q < (1 : Int64)) : 1 ≤ q.toInt := by
  rw [Int64.lt_iff_toInt_lt] at h; have e : (1 : Int64).toInt = 1 := by decide
  omega
theorem own_hi (q : Int64) : ¬ (9223372036854775807 : Int64) < q := by
  rw [Int64.lt_iff_toInt_lt]; have e : (9223372036854775807 : Int64).toInt = 9223372036854775807 := by decide
  have := rng64 q
  omega
theorem own_hs {q : Int64} (h : q.toInt ≤ 9223372036854775) : ¬ (9223372036854775 : Int64) < q := by
  rw [Int64.lt_iff_toInt_lt]; have e : (9223372036854775 : Int64).toInt = 9223372036854775 := by decide
  omega
theorem own_irr (d : Int64) : ¬ d < d := by rw [Int64.lt_iff_toInt_lt]; omega
theorem own_nlt {x y : Int64} (h : x < y) : ¬ y < x := by rw [Int64.lt_iff_toInt_lt] at *; omega
theorem own_mil {q : Int64} (h : 1 ≤ q.toInt ∧ q.toInt ≤ 9223372036854775) : (q * (1000 : Int64)) % (1000 : Int64) = (0 : Int64) ∧ (q * (1000 : Int64)) / (1000 : Int64) = q := by
  have e : (1000 : Int64).toInt = 1000 := by decide
  have e0 : (0 : Int64).toInt = 0 := by decide
  have m := c_lmul q 1000
  have r := rng64 (q * 1000)
  rw [e] at m
  have v : (q * 1000).toInt = q.toInt * 1000 := by omega
  have d := (c_ldiv (q * 1000) 1000 1000 e (by decide)).1 (by omega)
  have w := (c_lrem (q * 1000) 1000 1000 e).1 (by omega)
  rw [lrem_mod] at w
  refine ⟨Int64.toInt_inj.mp ?_, Int64.toInt_inj.mp ?_⟩ <;> omega
theorem own_idx {c : Cell} {u : Int64} (S : c.slots.size = (256 : Int32).toNatClampNeg) (h1 : ¬ u < (-128 : Int64)) (h2 : ¬ (127 : Int64) < u) : ¬ (u.toInt32 + (128 : Int32) < 0 ∨ c.slots.size ≤ (u.toInt32 + (128 : Int32)).toNatClampNeg) ∧ (u.toInt32 + (128 : Int32) - (128 : Int32)).toInt64 = u := by
  have a := c_iadd u.toInt32 128
  have b := c_l2i u
  have r := rng32 u.toInt32
  have r2 := rng32 (u.toInt32 + 128)
  have r3 := rng32 (u.toInt32 + 128 - 128)
  have d := c_isub (u.toInt32 + 128) 128
  have i := c_i2l (u.toInt32 + 128 - 128)
  have e1 : (-128 : Int64).toInt = -128 := by decide
  have e2 : (127 : Int64).toInt = 127 := by decide
  have e3 : (128 : Int32).toInt = 128 := by decide
  have e4 : (0 : Int32).toInt = 0 := by decide
  have e5 : (256 : Int32).toInt = 256 := by decide
  rw [Int64.lt_iff_toInt_lt] at h1 h2
  refine ⟨inb_of S ?_, Int64.toInt_inj.mp (by omega)⟩
  simp only [Int32.lt_iff_toInt_lt]
  omega
theorem ef_rec (m : MethodId) (x0 : Addr) : entryFrame m #[(.ref x0)] 1 = mkF m 0 #[.val (.ref x0)] [] := by first | (simp [entryFrame, mkF, argsToLocals, Value.category]; done) | rfl
def Q_rec (Z : State) (a1 : Addr) (h0 : Heap) (n0 : Nat) (v : Option Value) (h : Heap) (L : List Loc) : Prop := v = none ∧ Fr n0 L ∧ h = h0
theorem pn_0 : plainName "java/lang/Record" = true := by first | (simp [plainName, overriddenIn]; done) | decide +kernel
theorem d7_0 : decode jdk_30_method_1_code 0 = .ok (.aload_n 0, 1) := by decide +kernel
theorem d7_1 : decode jdk_30_method_1_code 1 = .ok (.invokespecial 1, 3) := by decide +kernel
theorem d7_4 : decode jdk_30_method_1_code 4 = .ok (.return_, 1) := by decide +kernel
set_option maxRecDepth 65536 in
set_option maxHeartbeats 40000000 in
theorem rm_rec (l : Launch) (Z : State) (a0 : Array Value) (hw : ∀ d ∈ tables_1, d.before a0 Z = true) (ws : List Jvm.Cond) (a1 : Addr) (h0 : Heap) (n0 : Nat) (Z0 : n0 ≤ h0.size) :
    MetFree l (⟨"java/lang/Record", "<init>", "()V"⟩ : MethodName) (head1 (Jvm.Cond.code (⟨"java/lang/Record", "<init>", "()V"⟩ : MethodName) jdk_30_method_1_code 1 none :: ws) ({ frames := 1, cells := 0, slots := 0, locals := 12 } : Room)) (fun a U => a = #[(.ref a1)] ∧ Z.Warmed39 U.vm ∧ U.heap = h0) (fun _ _ _ _ _ => True) (fun _ U o U' => ∃ v L, o = .returned v ∧ Q_rec Z a1 h0 n0 v U'.heap L ∧ FrameEnd U o U' L ({ frames := 1, cells := 0, slots := 0, locals := 12 } : Room).cells ({ frames := 1, cells := 0, slots := 0, locals := 12 } : Room).slots) := by
  refine MetFree.of_bodySF (plainFor_of_name pn_0) hisR ?_
  intro p e s m args below meth c s₁ Bd hml0 hP hK
  obtain ⟨rfl, hZ, hh⟩ := hP
  have hx := Bd.exec
  have hby := Bd.bytes
  have hml : c.maxLocals = 1 := hml0
  have hown : s.vm.findClass "java/lang/Record" = some m.cls := findClass_of_methodNamed Bd.named
  have hnm := (name_of_methodNamed Bd.named Bd.method).1
  have X0 : Stand p l e ({ frames := 1, cells := 0, slots := 0, locals := 12 } : Room) s m #[(.ref a1)] below meth c s₁ [] 0 0 := Stand.of_body Bd
  have e0 : s₁.heap = h0 := by rw [← hh, Bd.state]; rfl
  have N0 := Fr.nil n0
  have K0 : Keep h0 h0 [] := Keep.refl h0 []
  have P0 : ∀ t, Steps p.tables e below (s₁.setTop (mkF m 0 #[.val (.ref a1)] [])) t → Steps p.tables e below (s₁.setTop (entryFrame m #[(.ref a1)] 1)) t := fun t k => castTop (ef_rec m a1) k
  obtain ⟨T1001, X1001, e1001, st1001⟩ := initO X0 hx hZ hown (hw _ (List.mem_of_getElem? (i := 42) rfl)) (hw _ (List.mem_of_getElem? (i := 27) rfl)) (hw _ (List.mem_of_getElem? (i := 28) rfl)) e0 (g := (mkF m 1 #[.val (.ref a1)] [(.ref a1)])) rfl (by rw [hml]; rfl) rfl (hb hby d7_1) (by decide) (W := 0) (by show 2 * 0 + _ ≤ _; exact Nat.le_of_eq rfl) (by decide)
  have P1002 : ∀ t, Steps p.tables e below (T1001.setTop (mkF m 4 #[.val (.ref a1)] [])) t → Steps p.tables e below (s₁.setTop (entryFrame m #[(.ref a1)] 1)) t := fun t k => P0 t (by
    refine XS.aloadN X0.here hx rfl (hb hby d7_0) rfl rfl ?_
    show Steps p.tables e below (s₁.setTop (mkF m 1 #[.val (.ref a1)] [(.ref a1)])) _
    refine st1001 _ ?_
    show Steps p.tables e below (T1001.setTop (mkF m 4 #[.val (.ref a1)] [])) _
    exact k)
  obtain ⟨fs, hr, hrun, hended, hW, hsame⟩ := X1001.leave (v := none) (fun _ => rfl)
  refine ⟨_, _, P1002 _ ?_, hrun, hended, _, _, rfl, ?_, ⟨_, rfl⟩, hW, hsame.mono (by decide) (by decide)⟩
  · exact X1001.returnOut hx Bd.returns (hb hby d7_4) hr
  · show Q_rec Z a1 h0 n0 _ T1001.heap _
    rw [e1001]
    exact ⟨rfl, N0, rfl⟩
theorem ef_num (m : MethodId) (x0 : Addr) : entryFrame m #[(.ref x0)] 1 = mkF m 0 #[.val (.ref x0)] [] := by first | (simp [entryFrame, mkF, argsToLocals, Value.category]; done) | rfl
def Q_num (Z : State) (a1 : Addr) (h0 : Heap) (n0 : Nat) (v : Option Value) (h : Heap) (L : List Loc) : Prop := v = none ∧ Fr n0 L ∧ h = h0
theorem pn_1 : plainName "java/lang/Number" = true := by first | (simp [plainName, overriddenIn]; done) | decide +kernel
theorem d4_0 : decode jdk_18_method_1_code 0 = .ok (.aload_n 0, 1) := by decide +kernel
theorem d4_1 : decode jdk_18_method_1_code 1 = .ok (.invokespecial 1, 3) := by decide +kernel
theorem d4_4 : decode jdk_18_method_1_code 4 = .ok (.return_, 1) := by decide +kernel
set_option maxRecDepth 65536 in
set_option maxHeartbeats 40000000 in
theorem rm_num (l : Launch) (Z : State) (a0 : Array Value) (hw : ∀ d ∈ tables_1, d.before a0 Z = true) (ws : List Jvm.Cond) (a1 : Addr) (h0 : Heap) (n0 : Nat) (Z0 : n0 ≤ h0.size) :
    MetFree l (⟨"java/lang/Number", "<init>", "()V"⟩ : MethodName) (head1 (Jvm.Cond.code (⟨"java/lang/Number", "<init>", "()V"⟩ : MethodName) jdk_18_method_1_code 1 none :: ws) ({ frames := 1, cells := 0, slots := 0, locals := 12 } : Room)) (fun a U => a = #[(.ref a1)] ∧ Z.Warmed39 U.vm ∧ U.heap = h0) (fun _ _ _ _ _ => True) (fun _ U o U' => ∃ v L, o = .returned v ∧ Q_num Z a1 h0 n0 v U'.heap L ∧ FrameEnd U o U' L ({ frames := 1, cells := 0, slots := 0, locals := 12 } : Room).cells ({ frames := 1, cells := 0, slots := 0, locals := 12 } : Room).slots) := by
  refine MetFree.of_bodySF (plainFor_of_name pn_1) hisR ?_
  intro p e s m args below meth c s₁ Bd hml0 hP hK
  obtain ⟨rfl, hZ, hh⟩ := hP
  have hx := Bd.exec
  have hby := Bd.bytes
  have hml : c.maxLocals = 1 := hml0
  have hown : s.vm.findClass "java/lang/Number" = some m.cls := findClass_of_methodNamed Bd.named
  have hnm := (name_of_methodNamed Bd.named Bd.method).1
  have X0 : Stand p l e ({ frames := 1, cells := 0, slots := 0, locals := 12 } : Room) s m #[(.ref a1)] below meth c s₁ [] 0 0 := Stand.of_body Bd
  have e0 : s₁.heap = h0 := by rw [← hh, Bd.state]; rfl
  have N0 := Fr.nil n0
  have K0 : Keep h0 h0 [] := Keep.refl h0 []
  have P0 : ∀ t, Steps p.tables e below (s₁.setTop (mkF m 0 #[.val (.ref a1)] [])) t → Steps p.tables e below (s₁.setTop (entryFrame m #[(.ref a1)] 1)) t := fun t k => castTop (ef_num m a1) k
  obtain ⟨T1003, X1003, e1003, st1003⟩ := initO X0 hx hZ hown (hw _ (List.mem_of_getElem? (i := 26) rfl)) (hw _ (List.mem_of_getElem? (i := 27) rfl)) (hw _ (List.mem_of_getElem? (i := 28) rfl)) e0 (g := (mkF m 1 #[.val (.ref a1)] [(.ref a1)])) rfl (by rw [hml]; rfl) rfl (hb hby d4_1) (by decide) (W := 0) (by show 2 * 0 + _ ≤ _; exact Nat.le_of_eq rfl) (by decide)
  have P1004 : ∀ t, Steps p.tables e below (T1003.setTop (mkF m 4 #[.val (.ref a1)] [])) t → Steps p.tables e below (s₁.setTop (entryFrame m #[(.ref a1)] 1)) t := fun t k => P0 t (by
    refine XS.aloadN X0.here hx rfl (hb hby d4_0) rfl rfl ?_
    show Steps p.tables e below (s₁.setTop (mkF m 1 #[.val (.ref a1)] [(.ref a1)])) _
    refine st1003 _ ?_
    show Steps p.tables e below (T1003.setTop (mkF m 4 #[.val (.ref a1)] [])) _
    exact k)
  obtain ⟨fs, hr, hrun, hended, hW, hsame⟩ := X1003.leave (v := none) (fun _ => rfl)
  refine ⟨_, _, P1004 _ ?_, hrun, hended, _, _, rfl, ?_, ⟨_, rfl⟩, hW, hsame.mono (by decide) (by decide)⟩
  · exact X1003.returnOut hx Bd.returns (hb hby d4_4) hr
  · show Q_num Z a1 h0 n0 _ T1003.heap _
    rw [e1003]
    exact ⟨rfl, N0, rfl⟩
theorem ef_max (m : MethodId) (x0 : Int64) (x1 : Int64) : entryFrame m #[(.long x0), (.long x1)] 4 = mkF m 0 #[.val (.long x0), .second, .val (.long x1), .second] [] := by first | (simp [entryFrame, mkF, argsToLocals, Value.category]; done) | rfl
def Q_max (Z : State) (q1 : Int64) (q2 : Int64) (h0 : Heap) (n0 : Nat) (v : Option Value) (h : Heap) (L : List Loc) : Prop := ∃ r : Int64, v = some (.long r) ∧ Fr n0 L ∧ h = h0 ∧ ¬ r < q1
theorem d1_0 : decode jdk_29_method_66_code 0 = .ok (.lload_n 0, 1) := by decide +kernel
theorem d1_1 : decode jdk_29_method_66_code 1 = .ok (.lload_n 2, 1) := by decide +kernel
theorem d1_2 : decode jdk_29_method_66_code 2 = .ok (.lcmp, 1) := by decide +kernel
theorem d1_3 : decode jdk_29_method_66_code 3 = .ok (.ifCond .lt 7, 3) := by decide +kernel
theorem d1_10 : decode jdk_29_method_66_code 10 = .ok (.lload_n 2, 1) := by decide +kernel
theorem d1_11 : decode jdk_29_method_66_code 11 = .ok (.lreturn, 1) := by decide +kernel
theorem d1_6 : decode jdk_29_method_66_code 6 = .ok (.lload_n 0, 1) := by decide +kernel
theorem d1_7 : decode jdk_29_method_66_code 7 = .ok (.goto 4, 3) := by decide +kernel
set_option maxRecDepth 65536 in
set_option maxHeartbeats 40000000 in
theorem rm_max (l : Launch) (Z : State) (a0 : Array Value) (hw : ∀ d ∈ tables_1, d.before a0 Z = true) (ws : List Jvm.Cond) (q1 : Int64) (q2 : Int64) (h0 : Heap) (n0 : Nat) (Z0 : n0 ≤ h0.size) :
    MetFree l (⟨"java/lang/Math", "max", "(JJ)J"⟩ : MethodName) (head1 (Jvm.Cond.code (⟨"java/lang/Math", "max", "(JJ)J"⟩ : MethodName) jdk_29_method_66_code 4 (some .long) :: ws) ({ frames := 0, cells := 0, slots := 0, locals := 0 } : Room)) (fun a U => a = #[(.long q1), (.long q2)] ∧ Z.Warmed39 U.vm ∧ U.heap = h0) (fun _ _ _ _ _ => True) (fun _ U o U' => ∃ v L, o = .returned v ∧ Q_max Z q1 q2 h0 n0 v U'.heap L ∧ FrameEnd U o U' L ({ frames := 0, cells := 0, slots := 0, locals := 0 } : Room).cells ({ frames := 0, cells := 0, slots := 0, locals := 0 } : Room).slots) := by
  refine MetFree.of_bodySF (Jvm.Free.JP.mathPlain rfl (by decide +kernel)) hisR ?_
  intro p e s m args below meth c s₁ Bd hml0 hP hK
  obtain ⟨rfl, hZ, hh⟩ := hP
  have hx := Bd.exec
  have hby := Bd.bytes
  have hml : c.maxLocals = 4 := hml0
  have hown : s.vm.findClass "java/lang/Math" = some m.cls := findClass_of_methodNamed Bd.named
  have hnm := (name_of_methodNamed Bd.named Bd.method).1
  have X0 : Stand p l e ({ frames := 0, cells := 0, slots := 0, locals := 0 } : Room) s m #[(.long q1), (.long q2)] below meth c s₁ [] 0 0 := Stand.of_body Bd
  have e0 : s₁.heap = h0 := by rw [← hh, Bd.state]; rfl
  have N0 := Fr.nil n0
  have K0 : Keep h0 h0 [] := Keep.refl h0 []
  have P0 : ∀ t, Steps p.tables e below (s₁.setTop (mkF m 0 #[.val (.long q1), .second, .val (.long q2), .second] [])) t → Steps p.tables e below (s₁.setTop (entryFrame m #[(.long q1), (.long q2)] 4)) t := fun t k => castTop (ef_max m q1 q2) k
  have P1005 : ∀ t, Steps p.tables e below (s₁.setTop (mkF m 3 #[.val (.long q1), .second, .val (.long q2), .second] [(.int (lcmpW q1 q2))])) t → Steps p.tables e below (s₁.setTop (entryFrame m #[(.long q1), (.long q2)] 4)) t := fun t k => P0 t (by
    refine XS.lloadN X0.here hx rfl (hb hby d1_0) rfl ?_
    show Steps p.tables e below (s₁.setTop (mkF m 1 #[.val (.long q1), .second, .val (.long q2), .second] [(.long q1)])) _
    refine XS.lloadN X0.here hx rfl (hb hby d1_1) rfl ?_
    show Steps p.tables e below (s₁.setTop (mkF m 2 #[.val (.long q1), .second, .val (.long q2), .second] [(.long q2), (.long q1)])) _
    refine XS.lcmp X0.here hx rfl (hb hby d1_2) rfl ?_
    show Steps p.tables e below (s₁.setTop (mkF m 3 #[.val (.long q1), .second, .val (.long q2), .second] [(.int (lcmpW q1 q2))])) _
    exact k)
  by_cases h3 : q1 < q2
  · have P1006 : ∀ t, Steps p.tables e below (s₁.setTop (mkF m 11 #[.val (.long q1), .second, .val (.long q2), .second] [(.long q2)])) t → Steps p.tables e below (s₁.setTop (entryFrame m #[(.long q1), (.long q2)] 4)) t := fun t k => P1005 t (by
      refine XS.ifYes X0.here hx rfl (pc0 := 3) (pc' := 10) rfl (hb hby d1_3) rfl ((if0 _ _).trans (tlt ((lw_lt q1 q2).mpr h3)).1) (by decide) (by decide) ?_
      show Steps p.tables e below (s₁.setTop (mkF m 10 #[.val (.long q1), .second, .val (.long q2), .second] [])) _
      refine XS.lloadN X0.here hx rfl (hb hby d1_10) rfl ?_
      show Steps p.tables e below (s₁.setTop (mkF m 11 #[.val (.long q1), .second, .val (.long q2), .second] [(.long q2)])) _
      exact k)
    obtain ⟨fs, hr, hrun, hended, hW, hsame⟩ := X0.leave (v := some (.long q2)) (fun h => by rw [Bd.returns] at h; cases h)
    refine ⟨_, _, P1006 _ ?_, hrun, hended, _, _, rfl, ?_, ⟨_, rfl⟩, hW, hsame.mono (by decide) (by decide)⟩
    · exact X0.lreturnOut hx Bd.returns (hb hby d1_11) hr
    · show Q_max Z q1 q2 h0 n0 _ s₁.heap _
      rw [e0]
      exact ⟨_, rfl, N0, rfl, own_nlt h3⟩
  · have P1007 : ∀ t, Steps p.tables e below (s₁.setTop (mkF m 11 #[.val (.long q1), .second, .val (.long q2), .second] [(.long q1)])) t → Steps p.tables e below (s₁.setTop (entryFrame m #[(.long q1), (.long q2)] 4)) t := fun t k => P1005 t (by
      refine XS.ifNo X0.here hx rfl (hb hby d1_3) rfl ((if0 _ _).trans (flt (fun q => h3 ((lw_lt q1 q2).mp q))).1) ?_
      show Steps p.tables e below (s₁.setTop (mkF m 6 #[.val (.long q1), .second, .val (.long q2), .second] [])) _
      refine XS.lloadN X0.here hx rfl (hb hby d1_6) rfl ?_
      show Steps p.tables e below (s₁.setTop (mkF m 7 #[.val (.long q1), .second, .val (.long q2), .second] [(.long q1)])) _
      refine XS.goto X0.here hx rfl (pc0 := 7) (pc' := 11) rfl (hb hby d1_7) (by decide) (by decide) ?_
      show Steps p.tables e below (s₁.setTop (mkF m 11 #[.val (.long q1), .second, .val (.long q2), .second] [(.long q1)])) _
      exact k)
    obtain ⟨fs, hr, hrun, hended, hW, hsame⟩ := X0.leave (v := some (.long q1)) (fun h => by rw [Bd.returns] at h; cases h)
    refine ⟨_, _, P1007 _ ?_, hrun, hended, _, _, rfl, ?_, ⟨_, rfl⟩, hW, hsame.mono (by decide) (by decide)⟩
    · exact X0.lreturnOut hx Bd.returns (hb hby d1_11) hr
    · show Q_max Z q1 q2 h0 n0 _ s₁.heap _
      rw [e0]
      exact ⟨_, rfl, N0, rfl, own_irr q1⟩
theorem ef_lgi (m : MethodId) (x0 : Addr) (x1 : Int64) : entryFrame m #[(.ref x0), (.long x1)] 3 = mkF m 0 #[.val (.ref x0), .val (.long x1), .second] [] := by first | (simp [entryFrame, mkF, argsToLocals, Value.category]; done) | rfl
def Q_lgi (Z : State) (a1 : Addr) (q1 : Int64) (h0 : Heap) (n0 : Nat) (v : Option Value) (h : Heap) (L : List Loc) : Prop := v = none ∧ Fr n0 L ∧ Keep h0 h [a1] ∧ Exa Z h a1 "java/lang/Long" ∧ Fld Z h a1 "java/lang/Long" "value" "J" (.long q1)
theorem pn_2 : plainName "java/lang/Long" = true := by first | (simp [plainName, overriddenIn]; done) | decide +kernel
theorem d3_0 : decode jdk_35_method_26_code 0 = .ok (.aload_n 0, 1) := by decide +kernel
theorem d3_1 : decode jdk_35_method_26_code 1 = .ok (.invokespecial 270, 3) := by decide +kernel
theorem pd_0 : parseMethodDescriptor "()V" = some ⟨[], none⟩ := by decide +kernel
theorem d3_4 : decode jdk_35_method_26_code 4 = .ok (.aload_n 0, 1) := by decide +kernel
theorem d3_5 : decode jdk_35_method_26_code 5 = .ok (.lload_n 1, 1) := by decide +kernel
theorem d3_6 : decode jdk_35_method_26_code 6 = .ok (.putfield 273, 3) := by decide +kernel
theorem d3_9 : decode jdk_35_method_26_code 9 = .ok (.return_, 1) := by decide +kernel
set_option maxRecDepth 65536 in
set_option maxHeartbeats 40000000 in
theorem rm_lgi (l : Launch) (Z : State) (a0 : Array Value) (hw : ∀ d ∈ tables_1, d.before a0 Z = true) (ws : List Jvm.Cond) (a1 : Addr) (q1 : Int64) (h0 : Heap) (n0 : Nat) (Z0 : n0 ≤ h0.size) (E1 : Exa Z h0 a1 "java/lang/Long") (F1 : Fld Z h0 a1 "java/lang/Long" "value" "J" (.long (0 : Int64))) (g1 : n0 ≤ a1) :
    MetFree l (⟨"java/lang/Long", "<init>", "(J)V"⟩ : MethodName) (head1 (Jvm.Cond.code (⟨"java/lang/Long", "<init>", "(J)V"⟩ : MethodName) jdk_35_method_26_code 3 none :: ws) ({ frames := 2, cells := 0, slots := 0, locals := 24 } : Room)) (fun a U => a = #[(.ref a1), (.long q1)] ∧ Z.Warmed39 U.vm ∧ U.heap = h0) (fun _ _ _ _ _ => True) (fun _ U o U' => ∃ v L, o = .returned v ∧ Q_lgi Z a1 q1 h0 n0 v U'.heap L ∧ FrameEnd U o U' L ({ frames := 2, cells := 0, slots := 0, locals := 24 } : Room).cells ({ frames := 2, cells := 0, slots := 0, locals := 24 } : Room).slots) := by
  refine MetFree.of_bodySF (plainFor_of_name pn_2) hisR ?_
  intro p e s m args below meth c s₁ Bd hml0 hP hK
  obtain ⟨rfl, hZ, hh⟩ := hP
  have hx := Bd.exec
  have hby := Bd.bytes
  have hml : c.maxLocals = 3 := hml0
  have hown : s.vm.findClass "java/lang/Long" = some m.cls := findClass_of_methodNamed Bd.named
  have hnm := (name_of_methodNamed Bd.named Bd.method).1
  have X0 : Stand p l e ({ frames := 2, cells := 0, slots := 0, locals := 24 } : Room) s m #[(.ref a1), (.long q1)] below meth c s₁ [] 0 0 := Stand.of_body Bd
  have e0 : s₁.heap = h0 := by rw [← hh, Bd.state]; rfl
  have N0 := Fr.nil n0
  have K0 : Keep h0 h0 [a1] := Keep.refl h0 [a1]
  have P0 : ∀ t, Steps p.tables e below (s₁.setTop (mkF m 0 #[.val (.ref a1), .val (.long q1), .second] [])) t → Steps p.tables e below (s₁.setTop (entryFrame m #[(.ref a1), (.long q1)] 3)) t := fun t k => castTop (ef_lgi m a1 q1) k
  obtain ⟨_, _, ⟨T1008, L1008, k1008, n1008⟩, -, X1008, ⟨Lc1008, hQ1008, l1008, y1008, z1008⟩, st1008⟩ := X0.specialBack hx (y := (⟨"java/lang/Number", "<init>", "()V"⟩ : MethodName)) rfl hown (mvT hZ (hw _ (List.mem_of_getElem? (i := 20) rfl))) (mvT hZ (hw _ (List.mem_of_getElem? (i := 21) rfl))) (mvT hZ (hw _ (List.mem_of_getElem? (i := 25) rfl))) (by decide) (backOf (W := 0) (rm_num l Z a0 hw [] a1 h0 n0 Z0 ) hZ (hw _ (List.mem_of_getElem? (i := 25) rfl)) (hw _ (List.mem_of_getElem? (i := 24) rfl)) (by decide) (by decide)) (g := (mkF m 1 #[.val (.ref a1), .val (.long q1), .second] [(.ref a1)])) rfl (by rw [hml]; rfl) (Steps.refl _) (a := a1) (argsL := []) (rest := []) (lenOf pd_0 rfl) rfl (by show 2 * 0 + _ ≤ _; exact Nat.le_of_eq rfl) (hb hby d3_1) (fun _ _ => ⟨rfl, e0, (by decide : 0 + 0 ≤ _), (by decide : 0 + 0 ≤ _)⟩)
  dsimp only [Pt.U, Pt.locs, Pt.cells, Pt.slots] at X1008 l1008 y1008 z1008 st1008 hQ1008
  subst l1008 y1008 z1008
  obtain ⟨rfl, N1008q, e1⟩ := hQ1008
  have N1008 := Fr.app N0 N1008q
  obtain ⟨T1009, h1009, X1009, e1009, W1009, st1009⟩ := putF X1008 hx hZ hown (host := "") (Or.inl (hw _ (List.mem_of_getElem? (i := 29) rfl))) Via.refl e1 F1 E1 (Or.inr ⟨(hw _ (List.mem_of_getElem? (i := 30) rfl)), rfl, hnm⟩) (hw _ (List.mem_of_getElem? (i := 15) rfl)) (ty := .long) (by decide) rfl rfl (g := (mkF m 6 #[.val (.ref a1), .val (.long q1), .second] [(.long q1), (.ref a1)])) rfl rfl (hb hby d3_6)
  have Fw1009 := F1.same W1009
  have c1010_0 := E1.wr W1009
  have Z1009 : n0 ≤ h1009.size := Nat.le_trans Z0 (Nat.le_of_eq W1009.size.symm)
  have K1009 : Keep h0 h1009 [a1] := K0.wr W1009 (Or.inl (List.mem_of_getElem? (i := 0) rfl))
  have N1009 := Fr.snoc X1009 N1008 g1
  have P1012 : ∀ t, Steps p.tables e below (T1009.setTop (mkF m 9 #[.val (.ref a1), .val (.long q1), .second] [])) t → Steps p.tables e below (s₁.setTop (entryFrame m #[(.ref a1), (.long q1)] 3)) t := fun t k => P0 t (by
    refine XS.aloadN X0.here hx rfl (hb hby d3_0) rfl rfl ?_
    show Steps p.tables e below (s₁.setTop (mkF m 1 #[.val (.ref a1), .val (.long q1), .second] [(.ref a1)])) _
    refine st1008.trans ?_
    show Steps p.tables e below (T1008.setTop (mkF m 4 #[.val (.ref a1), .val (.long q1), .second] [])) _
    refine XS.aloadN X1008.here hx rfl (hb hby d3_4) rfl rfl ?_
    show Steps p.tables e below (T1008.setTop (mkF m 5 #[.val (.ref a1), .val (.long q1), .second] [(.ref a1)])) _
    refine XS.lloadN X1008.here hx rfl (hb hby d3_5) rfl ?_
    show Steps p.tables e below (T1008.setTop (mkF m 6 #[.val (.ref a1), .val (.long q1), .second] [(.long q1), (.ref a1)])) _
    refine st1009 _ ?_
    show Steps p.tables e below (T1009.setTop (mkF m 9 #[.val (.ref a1), .val (.long q1), .second] [])) _
    exact k)
  obtain ⟨fs, hr, hrun, hended, hW, hsame⟩ := X1009.leave (v := none) (fun _ => rfl)
  refine ⟨_, _, P1012 _ ?_, hrun, hended, _, _, rfl, ?_, ⟨_, rfl⟩, hW, hsame.mono (by decide) (by decide)⟩
  · exact X1009.returnOut hx Bd.returns (hb hby d3_9) hr
  · show Q_lgi Z a1 q1 h0 n0 _ T1009.heap _
    rw [e1009]
    exact ⟨rfl, N1009, K1009, c1010_0, Fw1009⟩
theorem ef_vof (m : MethodId) (x0 : Int64) : entryFrame m #[(.long x0)] 3 = mkF m 0 #[.val (.long x0), .second, .unset] [] := by first | (simp [entryFrame, mkF, argsToLocals, Value.category]; done) | rfl
def Q_vof (Z : State) (q1 : Int64) (ca : Addr) (cc : Cell) (h0 : Heap) (n0 : Nat) (v : Option Value) (h : Heap) (L : List Loc) : Prop := ∃ r : Addr, v = some (.ref r) ∧ Fr n0 L ∧ Keep h0 h [] ∧ Exa Z h r "java/lang/Long" ∧ Fld Z h r "java/lang/Long" "value" "J" (.long q1)
theorem d2_0 : decode jdk_35_method_24_code 0 = .ok (.sipush 128, 3) := by decide +kernel
theorem d2_3 : decode jdk_35_method_24_code 3 = .ok (.istore_n 2, 1) := by decide +kernel
theorem d2_4 : decode jdk_35_method_24_code 4 = .ok (.lload_n 0, 1) := by decide +kernel
theorem d2_5 : decode jdk_35_method_24_code 5 = .ok (.ldc2_w 230, 3) := by decide +kernel
theorem d2_8 : decode jdk_35_method_24_code 8 = .ok (.lcmp, 1) := by decide +kernel
theorem d2_9 : decode jdk_35_method_24_code 9 = .ok (.ifCond .lt 22, 3) := by decide +kernel
theorem d2_31 : decode jdk_35_method_24_code 31 = .ok (.new 1, 3) := by decide +kernel
theorem d2_34 : decode jdk_35_method_24_code 34 = .ok (.dup, 1) := by decide +kernel
theorem d2_35 : decode jdk_35_method_24_code 35 = .ok (.lload_n 0, 1) := by decide +kernel
theorem d2_36 : decode jdk_35_method_24_code 36 = .ok (.invokespecial 240, 3) := by decide +kernel
theorem pd_1 : parseMethodDescriptor "(J)V" = some ⟨[.long], none⟩ := by decide +kernel
theorem d2_39 : decode jdk_35_method_24_code 39 = .ok (.areturn, 1) := by decide +kernel
theorem d2_12 : decode jdk_35_method_24_code 12 = .ok (.lload_n 0, 1) := by decide +kernel
theorem d2_13 : decode jdk_35_method_24_code 13 = .ok (.ldc2_w 232, 3) := by decide +kernel
theorem d2_16 : decode jdk_35_method_24_code 16 = .ok (.lcmp, 1) := by decide +kernel
theorem d2_17 : decode jdk_35_method_24_code 17 = .ok (.ifCond .gt 14, 3) := by decide +kernel
theorem d2_20 : decode jdk_35_method_24_code 20 = .ok (.getstatic 234, 3) := by decide +kernel
theorem d2_23 : decode jdk_35_method_24_code 23 = .ok (.lload_n 0, 1) := by decide +kernel
theorem d2_24 : decode jdk_35_method_24_code 24 = .ok (.l2i, 1) := by decide +kernel
theorem d2_25 : decode jdk_35_method_24_code 25 = .ok (.sipush 128, 3) := by decide +kernel
theorem d2_28 : decode jdk_35_method_24_code 28 = .ok (.iadd, 1) := by decide +kernel
theorem d2_29 : decode jdk_35_method_24_code 29 = .ok (.aaload, 1) := by decide +kernel
theorem d2_30 : decode jdk_35_method_24_code 30 = .ok (.areturn, 1) := by decide +kernel
set_option maxRecDepth 65536 in
set_option maxHeartbeats 40000000 in
theorem rm_vof (l : Launch) (Z : State) (a0 : Array Value) (hw : ∀ d ∈ tables_1, d.before a0 Z = true) (ws : List Jvm.Cond) (q1 : Int64) (ca : Addr) (cc : Cell) (h0 : Heap) (n0 : Nat) (Z0 : n0 ≤ h0.size) (Sc : Sta Z Z.heap "java/lang/Long$LongCache" "cache" "[Ljava/lang/Long;" (.ref ca)) (Bx : Bxs Z ca cc "java/lang/Long" "J" (256 : Int32) (fun j => .long (j - (128 : Int32)).toInt64)) (O1 : Old Z n0 h0) :
    MetFree l (⟨"java/lang/Long", "valueOf", "(J)Ljava/lang/Long;"⟩ : MethodName) (head1 (Jvm.Cond.code (⟨"java/lang/Long", "valueOf", "(J)Ljava/lang/Long;"⟩ : MethodName) jdk_35_method_24_code 3 (some (.object "java/lang/Long")) :: ws) ({ frames := 3, cells := 1, slots := 1, locals := 39 } : Room)) (fun a U => a = #[(.long q1)] ∧ Z.Warmed39 U.vm ∧ U.heap = h0) (fun _ _ _ _ _ => True) (fun _ U o U' => ∃ v L, o = .returned v ∧ Q_vof Z q1 ca cc h0 n0 v U'.heap L ∧ FrameEnd U o U' L ({ frames := 3, cells := 1, slots := 1, locals := 39 } : Room).cells ({ frames := 3, cells := 1, slots := 1, locals := 39 } : Room).slots) := by
  refine MetFree.of_bodySF (plainFor_of_name pn_2) hisR ?_
  intro p e s m args below meth c s₁ Bd hml0 hP hK
  obtain ⟨rfl, hZ, hh⟩ := hP
  have hx := Bd.exec
  have hby := Bd.bytes
  have hml : c.maxLocals = 3 := hml0
  have hown : s.vm.findClass "java/lang/Long" = some m.cls := findClass_of_methodNamed Bd.named
  have hnm := (name_of_methodNamed Bd.named Bd.method).1
  have X0 : Stand p l e ({ frames := 3, cells := 1, slots := 1, locals := 39 } : Room) s m #[(.long q1)] below meth c s₁ [] 0 0 := Stand.of_body Bd
  have e0 : s₁.heap = h0 := by rw [← hh, Bd.state]; rfl
  have N0 := Fr.nil n0
  have K0 : Keep h0 h0 [] := Keep.refl h0 []
  have P0 : ∀ t, Steps p.tables e below (s₁.setTop (mkF m 0 #[.val (.long q1), .second, .unset] [])) t → Steps p.tables e below (s₁.setTop (entryFrame m #[(.long q1)] 3)) t := fun t k => castTop (ef_vof m q1) k
  have P1013 : ∀ t, Steps p.tables e below (s₁.setTop (mkF m 9 #[.val (.long q1), .second, .val (.int (128 : Int32))] [(.int (lcmpW q1 (-128 : Int64)))])) t → Steps p.tables e below (s₁.setTop (entryFrame m #[(.long q1)] 3)) t := fun t k => P0 t (by
    refine XS.sipush X0.here hx rfl (hb hby d2_0) ?_
    show Steps p.tables e below (s₁.setTop (mkF m 3 #[.val (.long q1), .second, .unset] [(.int (128 : Int32))])) _
    refine XS.istoreN X0.here hx rfl (hb hby d2_3) rfl (l' := #[.val (.long q1), .second, .val (.int (128 : Int32))]) rfl ?_
    show Steps p.tables e below (s₁.setTop (mkF m 4 #[.val (.long q1), .second, .val (.int (128 : Int32))] [])) _
    refine XS.lloadN X0.here hx rfl (hb hby d2_4) rfl ?_
    show Steps p.tables e below (s₁.setTop (mkF m 5 #[.val (.long q1), .second, .val (.int (128 : Int32))] [(.long q1)])) _
    refine X0.ldc2Long hx hown (mvT hZ (hw _ (List.mem_of_getElem? (i := 10) rfl))) (g := (mkF m 5 #[.val (.long q1), .second, .val (.int (128 : Int32))] [(.long q1)])) rfl (hb hby d2_5) _ ?_
    show Steps p.tables e below (s₁.setTop (mkF m 8 #[.val (.long q1), .second, .val (.int (128 : Int32))] [(.long (-128 : Int64)), (.long q1)])) _
    refine XS.lcmp X0.here hx rfl (hb hby d2_8) rfl ?_
    show Steps p.tables e below (s₁.setTop (mkF m 9 #[.val (.long q1), .second, .val (.int (128 : Int32))] [(.int (lcmpW q1 (-128 : Int64)))])) _
    exact k)
  by_cases h9 : q1 < (-128 : Int64)
  · obtain ⟨T1014, h1014, X1014, e1014, E1014, A1014, D1014, -, st1014⟩ := newO X0 hx hZ hown (hw _ (List.mem_of_getElem? (i := 14) rfl)) (hw _ (List.mem_of_getElem? (i := 15) rfl)) (hw _ (List.mem_of_getElem? (i := 8) rfl)) e0 (g := (mkF m 31 #[.val (.long q1), .second, .val (.int (128 : Int32))] [])) rfl (hb hby d2_31) (by decide) (by decide)
    obtain ⟨b1014, g1014⟩ : ∃ z, z = h0.size := ⟨_, rfl⟩
    rw [← g1014] at A1014 D1014 st1014
    have g_b1014 : n0 ≤ b1014 := Nat.le_trans Z0 (Nat.le_of_eq g1014.symm)
    have sz_b1014 : h0.size ≤ b1014 := Nat.le_trans K0.1 (Nat.le_of_eq g1014.symm)
    have c1015_0 := O1.ext E1014
    have Z1014 : n0 ≤ h1014.size := Nat.le_trans Z0 E1014.1
    have K1014 : Keep h0 h1014 [] := K0.ext E1014
    have F1014_value : Fld Z h1014 b1014 "java/lang/Long" "value" "J" (.long (0 : Int64)) := D1014 (Or.inr (hw _ (List.mem_of_getElem? (i := 30) rfl))) (ty := .long) (by decide)
    obtain ⟨_, _, ⟨T1017, L1017, k1017, n1017⟩, -, X1017, ⟨Lc1017, hQ1017, l1017, y1017, z1017⟩, st1017⟩ := X1014.specialBack hx (y := (⟨"java/lang/Long", "<init>", "(J)V"⟩ : MethodName)) rfl hown (mvT hZ (hw _ (List.mem_of_getElem? (i := 16) rfl))) (mvT hZ (hw _ (List.mem_of_getElem? (i := 17) rfl))) (mvT hZ (hw _ (List.mem_of_getElem? (i := 19) rfl))) (by decide) (backOf (W := 1) (rm_lgi l Z a0 hw [] b1014 q1 h1014 n0 Z1014 A1014 F1014_value g_b1014) hZ (hw _ (List.mem_of_getElem? (i := 19) rfl)) (hw _ (List.mem_of_getElem? (i := 8) rfl)) (by decide) (by decide)) (g := (mkF m 36 #[.val (.long q1), .second, .val (.int (128 : Int32))] [(.long q1), (.ref b1014), (.ref b1014)])) rfl (by rw [hml]; rfl) (Steps.refl _) (a := b1014) (argsL := [(.long q1)]) (rest := [(.ref b1014)]) (lenOf pd_1 rfl) rfl (by show 2 * 0 + _ ≤ _; exact Nat.le_of_eq rfl) (hb hby d2_36) (fun _ _ => ⟨rfl, e1014, (by decide : 1 + 0 ≤ _), (by decide : 1 + 0 ≤ _)⟩)
    dsimp only [Pt.U, Pt.locs, Pt.cells, Pt.slots] at X1017 l1017 y1017 z1017 st1017 hQ1017
    subst l1017 y1017 z1017
    obtain ⟨rfl, N1017q, Ki, Ei, Fi⟩ := hQ1017
    have N1017 := Fr.app N0 N1017q
    have c1018_0 := c1015_0.keep Ki (allS g_b1014 all0)
    have Z1017 : n0 ≤ T1017.heap.size := Nat.le_trans Z1014 Ki.1
    have K1017 : Keep h0 T1017.heap [] := K1014.trans Ki (allS (Or.inr sz_b1014) all0)
    have P1020 : ∀ t, Steps p.tables e below (T1017.setTop (mkF m 39 #[.val (.long q1), .second, .val (.int (128 : Int32))] [(.ref b1014)])) t → Steps p.tables e below (s₁.setTop (entryFrame m #[(.long q1)] 3)) t := fun t k => P1013 t (by
      refine XS.ifYes X0.here hx rfl (pc0 := 9) (pc' := 31) rfl (hb hby d2_9) rfl ((if0 _ _).trans (tlt ((lw_lt q1 (-128 : Int64)).mpr h9)).1) (by decide) (by decide) ?_
      show Steps p.tables e below (s₁.setTop (mkF m 31 #[.val (.long q1), .second, .val (.int (128 : Int32))] [])) _
      refine st1014 _ ?_
      show Steps p.tables e below (T1014.setTop (mkF m 34 #[.val (.long q1), .second, .val (.int (128 : Int32))] [(.ref b1014)])) _
      refine XS.dup X1014.here hx rfl (hb hby d2_34) rfl rfl ?_
      show Steps p.tables e below (T1014.setTop (mkF m 35 #[.val (.long q1), .second, .val (.int (128 : Int32))] [(.ref b1014), (.ref b1014)])) _
      refine XS.lloadN X1014.here hx rfl (hb hby d2_35) rfl ?_
      show Steps p.tables e below (T1014.setTop (mkF m 36 #[.val (.long q1), .second, .val (.int (128 : Int32))] [(.long q1), (.ref b1014), (.ref b1014)])) _
      refine st1017.trans ?_
      show Steps p.tables e below (T1017.setTop (mkF m 39 #[.val (.long q1), .second, .val (.int (128 : Int32))] [(.ref b1014)])) _
      exact k)
    obtain ⟨fs, hr, hrun, hended, hW, hsame⟩ := X1017.leave (v := some (.ref b1014)) (fun h => by rw [Bd.returns] at h; cases h)
    refine ⟨_, _, P1020 _ ?_, hrun, hended, _, _, rfl, ?_, ⟨_, rfl⟩, hW, hsame.mono (by decide) (by decide)⟩
    · jvm_step X1017.here [X1017.here.top, hx, (hb hby d2_39), X1017.method', Bd.returns, Value.isRef, FieldType.isReference]
      first | (intro acts; rw [hr _ acts rfl rfl rfl]) | rw [hr _ _ rfl rfl rfl]
      exact Steps.refl _
    · show Q_vof Z q1 ca cc h0 n0 _ T1017.heap _
      exact ⟨b1014, rfl, N1017, K1017, Ei, Fi⟩
  · have P1021 : ∀ t, Steps p.tables e below (s₁.setTop (mkF m 17 #[.val (.long q1), .second, .val (.int (128 : Int32))] [(.int (lcmpW q1 (127 : Int64)))])) t → Steps p.tables e below (s₁.setTop (entryFrame m #[(.long q1)] 3)) t := fun t k => P1013 t (by
      refine XS.ifNo X0.here hx rfl (hb hby d2_9) rfl ((if0 _ _).trans (flt (fun q => h9 ((lw_lt q1 (-128 : Int64)).mp q))).1) ?_
      show Steps p.tables e below (s₁.setTop (mkF m 12 #[.val (.long q1), .second, .val (.int (128 : Int32))] [])) _
      refine XS.lloadN X0.here hx rfl (hb hby d2_12) rfl ?_
      show Steps p.tables e below (s₁.setTop (mkF m 13 #[.val (.long q1), .second, .val (.int (128 : Int32))] [(.long q1)])) _
      refine X0.ldc2Long hx hown (mvT hZ (hw _ (List.mem_of_getElem? (i := 11) rfl))) (g := (mkF m 13 #[.val (.long q1), .second, .val (.int (128 : Int32))] [(.long q1)])) rfl (hb hby d2_13) _ ?_
      show Steps p.tables e below (s₁.setTop (mkF m 16 #[.val (.long q1), .second, .val (.int (128 : Int32))] [(.long (127 : Int64)), (.long q1)])) _
      refine XS.lcmp X0.here hx rfl (hb hby d2_16) rfl ?_
      show Steps p.tables e below (s₁.setTop (mkF m 17 #[.val (.long q1), .second, .val (.int (128 : Int32))] [(.int (lcmpW q1 (127 : Int64)))])) _
      exact k)
    by_cases h17 : (127 : Int64) < q1
    · obtain ⟨T1022, h1022, X1022, e1022, E1022, A1022, D1022, -, st1022⟩ := newO X0 hx hZ hown (hw _ (List.mem_of_getElem? (i := 14) rfl)) (hw _ (List.mem_of_getElem? (i := 15) rfl)) (hw _ (List.mem_of_getElem? (i := 8) rfl)) e0 (g := (mkF m 31 #[.val (.long q1), .second, .val (.int (128 : Int32))] [])) rfl (hb hby d2_31) (by decide) (by decide)
      obtain ⟨b1022, g1022⟩ : ∃ z, z = h0.size := ⟨_, rfl⟩
      rw [← g1022] at A1022 D1022 st1022
      have g_b1022 : n0 ≤ b1022 := Nat.le_trans Z0 (Nat.le_of_eq g1022.symm)
      have sz_b1022 : h0.size ≤ b1022 := Nat.le_trans K0.1 (Nat.le_of_eq g1022.symm)
      have c1023_0 := O1.ext E1022
      have Z1022 : n0 ≤ h1022.size := Nat.le_trans Z0 E1022.1
      have K1022 : Keep h0 h1022 [] := K0.ext E1022
      have F1022_value : Fld Z h1022 b1022 "java/lang/Long" "value" "J" (.long (0 : Int64)) := D1022 (Or.inr (hw _ (List.mem_of_getElem? (i := 30) rfl))) (ty := .long) (by decide)
      obtain ⟨_, _, ⟨T1025, L1025, k1025, n1025⟩, -, X1025, ⟨Lc1025, hQ1025, l1025, y1025, z1025⟩, st1025⟩ := X1022.specialBack hx (y := (⟨"java/lang/Long", "<init>", "(J)V"⟩ : MethodName)) rfl hown (mvT hZ (hw _ (List.mem_of_getElem? (i := 16) rfl))) (mvT hZ (hw _ (List.mem_of_getElem? (i := 17) rfl))) (mvT hZ (hw _ (List.mem_of_getElem? (i := 19) rfl))) (by decide) (backOf (W := 1) (rm_lgi l Z a0 hw [] b1022 q1 h1022 n0 Z1022 A1022 F1022_value g_b1022) hZ (hw _ (List.mem_of_getElem? (i := 19) rfl)) (hw _ (List.mem_of_getElem? (i := 8) rfl)) (by decide) (by decide)) (g := (mkF m 36 #[.val (.long q1), .second, .val (.int (128 : Int32))] [(.long q1), (.ref b1022), (.ref b1022)])) rfl (by rw [hml]; rfl) (Steps.refl _) (a := b1022) (argsL := [(.long q1)]) (rest := [(.ref b1022)]) (lenOf pd_1 rfl) rfl (by show 2 * 0 + _ ≤ _; exact Nat.le_of_eq rfl) (hb hby d2_36) (fun _ _ => ⟨rfl, e1022, (by decide : 1 + 0 ≤ _), (by decide : 1 + 0 ≤ _)⟩)
      dsimp only [Pt.U, Pt.locs, Pt.cells, Pt.slots] at X1025 l1025 y1025 z1025 st1025 hQ1025
      subst l1025 y1025 z1025
      obtain ⟨rfl, N1025q, Ki, Ei, Fi⟩ := hQ1025
      have N1025 := Fr.app N0 N1025q
      have c1026_0 := c1023_0.keep Ki (allS g_b1022 all0)
      have Z1025 : n0 ≤ T1025.heap.size := Nat.le_trans Z1022 Ki.1
      have K1025 : Keep h0 T1025.heap [] := K1022.trans Ki (allS (Or.inr sz_b1022) all0)
      have P1028 : ∀ t, Steps p.tables e below (T1025.setTop (mkF m 39 #[.val (.long q1), .second, .val (.int (128 : Int32))] [(.ref b1022)])) t → Steps p.tables e below (s₁.setTop (entryFrame m #[(.long q1)] 3)) t := fun t k => P1021 t (by
        refine XS.ifYes X0.here hx rfl (pc0 := 17) (pc' := 31) rfl (hb hby d2_17) rfl ((if0 _ _).trans (tlt ((lw_gt q1 (127 : Int64)).mpr h17)).2.2.1) (by decide) (by decide) ?_
        show Steps p.tables e below (s₁.setTop (mkF m 31 #[.val (.long q1), .second, .val (.int (128 : Int32))] [])) _
        refine st1022 _ ?_
        show Steps p.tables e below (T1022.setTop (mkF m 34 #[.val (.long q1), .second, .val (.int (128 : Int32))] [(.ref b1022)])) _
        refine XS.dup X1022.here hx rfl (hb hby d2_34) rfl rfl ?_
        show Steps p.tables e below (T1022.setTop (mkF m 35 #[.val (.long q1), .second, .val (.int (128 : Int32))] [(.ref b1022), (.ref b1022)])) _
        refine XS.lloadN X1022.here hx rfl (hb hby d2_35) rfl ?_
        show Steps p.tables e below (T1022.setTop (mkF m 36 #[.val (.long q1), .second, .val (.int (128 : Int32))] [(.long q1), (.ref b1022), (.ref b1022)])) _
        refine st1025.trans ?_
        show Steps p.tables e below (T1025.setTop (mkF m 39 #[.val (.long q1), .second, .val (.int (128 : Int32))] [(.ref b1022)])) _
        exact k)
      obtain ⟨fs, hr, hrun, hended, hW, hsame⟩ := X1025.leave (v := some (.ref b1022)) (fun h => by rw [Bd.returns] at h; cases h)
      refine ⟨_, _, P1028 _ ?_, hrun, hended, _, _, rfl, ?_, ⟨_, rfl⟩, hW, hsame.mono (by decide) (by decide)⟩
      · jvm_step X1025.here [X1025.here.top, hx, (hb hby d2_39), X1025.method', Bd.returns, Value.isRef, FieldType.isReference]
        first | (intro acts; rw [hr _ acts rfl rfl rfl]) | rw [hr _ _ rfl rfl rfl]
        exact Steps.refl _
      · show Q_vof Z q1 ca cc h0 n0 _ T1025.heap _
        exact ⟨b1022, rfl, N1025, K1025, Ei, Fi⟩
    · obtain ⟨T1029, X1029, e1029, st1029⟩ := getS2 X0 hx hZ hown (host := "") (Or.inl (hw _ (List.mem_of_getElem? (i := 12) rfl))) Via.refl e0 (Sc.ext O1.2) (g := (mkF m 20 #[.val (.long q1), .second, .val (.int (128 : Int32))] [])) rfl (hb hby d2_20)
      obtain ⟨hi1, hi2⟩ := own_idx Bx.2.1 h9 h17
      have hin1030 : ¬ (((q1.toInt32) + (128 : Int32)) < 0 ∨ cc.slots.size ≤ (((q1.toInt32) + (128 : Int32))).toNatClampNeg) := hi1
      obtain ⟨bx, hat1030, Eb1030, Fb1030⟩ := Bx.2.2.2 _ hin1030
      have Ar1030 := Bx.1.ext O1.2
      have Ec1030 := Eb1030.ext O1.2
      have Fc1030 := Fb1030.ext O1.2
      have Fq : Fld Z h0 bx "java/lang/Long" "value" "J" (.long q1) := by have q := Fc1030; dsimp only at q; rwa [hi2] at q
      have P1031 : ∀ t, Steps p.tables e below (T1029.setTop (mkF m 30 #[.val (.long q1), .second, .val (.int (128 : Int32))] [(.ref bx)])) t → Steps p.tables e below (s₁.setTop (entryFrame m #[(.long q1)] 3)) t := fun t k => P1021 t (by
        refine XS.ifNo X0.here hx rfl (hb hby d2_17) rfl ((if0 _ _).trans (flt (fun q => h17 ((lw_gt q1 (127 : Int64)).mp q))).2.2.1) ?_
        show Steps p.tables e below (s₁.setTop (mkF m 20 #[.val (.long q1), .second, .val (.int (128 : Int32))] [])) _
        refine st1029 _ ?_
        show Steps p.tables e below (T1029.setTop (mkF m 23 #[.val (.long q1), .second, .val (.int (128 : Int32))] [(.ref ca)])) _
        refine XS.lloadN X1029.here hx rfl (hb hby d2_23) rfl ?_
        show Steps p.tables e below (T1029.setTop (mkF m 24 #[.val (.long q1), .second, .val (.int (128 : Int32))] [(.long q1), (.ref ca)])) _
        refine XS.l2i X1029.here hx rfl (hb hby d2_24) rfl ?_
        show Steps p.tables e below (T1029.setTop (mkF m 25 #[.val (.long q1), .second, .val (.int (128 : Int32))] [(.int (q1.toInt32)), (.ref ca)])) _
        refine XS.sipush X1029.here hx rfl (hb hby d2_25) ?_
        show Steps p.tables e below (T1029.setTop (mkF m 28 #[.val (.long q1), .second, .val (.int (128 : Int32))] [(.int (128 : Int32)), (.int (q1.toInt32)), (.ref ca)])) _
        refine XS.iadd X1029.here hx rfl (hb hby d2_28) rfl ?_
        show Steps p.tables e below (T1029.setTop (mkF m 29 #[.val (.long q1), .second, .val (.int (128 : Int32))] [(.int ((q1.toInt32) + (128 : Int32))), (.ref ca)])) _
        refine X1029.aaload hx (j := ((q1.toInt32) + (128 : Int32))) (v := (.ref bx)) (by rw [e1029]; exact Ar1030.1) (State.isArrayOf_alike hZ.alike Ar1030.2.1) rfl Ar1030.2.2 hin1030 hat1030 (g := (mkF m 29 #[.val (.long q1), .second, .val (.int (128 : Int32))] [(.int ((q1.toInt32) + (128 : Int32))), (.ref ca)])) rfl rfl (hb hby d2_29) _ ?_
        show Steps p.tables e below (T1029.setTop (mkF m 30 #[.val (.long q1), .second, .val (.int (128 : Int32))] [(.ref bx)])) _
        exact k)
      obtain ⟨fs, hr, hrun, hended, hW, hsame⟩ := X1029.leave (v := some (.ref bx)) (fun h => by rw [Bd.returns] at h; cases h)
      refine ⟨_, _, P1031 _ ?_, hrun, hended, _, _, rfl, ?_, ⟨_, rfl⟩, hW, hsame.mono (by decide) (by decide)⟩
      · jvm_step X1029.here [X1029.here.top, hx, (hb hby d2_30), X1029.method', Bd.returns, Value.isRef, FieldType.isReference]
        first | (intro acts; rw [hr _ acts rfl rfl rfl]) | rw [hr _ _ rfl rfl rfl]
        exact Steps.refl _
      · show Q_vof Z q1 ca cc h0 n0 _ T1029.heap _
        rw [e1029]
        exact ⟨bx, rfl, N0, K0, Ec1030, Fq⟩
theorem ef_lval (m : MethodId) (x0 : Addr) : entryFrame m #[(.ref x0)] 1 = mkF m 0 #[.val (.ref x0)] [] := by first | (simp [entryFrame, mkF, argsToLocals, Value.category]; done) | rfl
def Q_lval (Z : State) (a1 : Addr) (q1 : Int64) (h0 : Heap) (n0 : Nat) (v : Option Value) (h : Heap) (L : List Loc) : Prop := v = some (.long q1) ∧ Fr n0 L ∧ h = h0
theorem d9_0 : decode jdk_35_method_31_code 0 = .ok (.aload_n 0, 1) := by decide +kernel
theorem d9_1 : decode jdk_35_method_31_code 1 = .ok (.getfield 273, 3) := by decide +kernel
theorem d9_4 : decode jdk_35_method_31_code 4 = .ok (.lreturn, 1) := by decide +kernel
set_option maxRecDepth 65536 in
set_option maxHeartbeats 40000000 in
theorem rm_lval (l : Launch) (Z : State) (a0 : Array Value) (hw : ∀ d ∈ tables_1, d.before a0 Z = true) (ws : List Jvm.Cond) (a1 : Addr) (q1 : Int64) (h0 : Heap) (n0 : Nat) (Z0 : n0 ≤ h0.size) (F1 : Fld Z h0 a1 "java/lang/Long" "value" "J" (.long q1)) :
    MetFree l (⟨"java/lang/Long", "longValue", "()J"⟩ : MethodName) (head1 (Jvm.Cond.code (⟨"java/lang/Long", "longValue", "()J"⟩ : MethodName) jdk_35_method_31_code 1 (some .long) :: ws) ({ frames := 0, cells := 0, slots := 0, locals := 0 } : Room)) (fun a U => a = #[(.ref a1)] ∧ Z.Warmed39 U.vm ∧ U.heap = h0) (fun _ _ _ _ _ => True) (fun _ U o U' => ∃ v L, o = .returned v ∧ Q_lval Z a1 q1 h0 n0 v U'.heap L ∧ FrameEnd U o U' L ({ frames := 0, cells := 0, slots := 0, locals := 0 } : Room).cells ({ frames := 0, cells := 0, slots := 0, locals := 0 } : Room).slots) := by
  refine MetFree.of_bodySF (plainFor_of_name pn_2) hisR ?_
  intro p e s m args below meth c s₁ Bd hml0 hP hK
  obtain ⟨rfl, hZ, hh⟩ := hP
  have hx := Bd.exec
  have hby := Bd.bytes
  have hml : c.maxLocals = 1 := hml0
  have hown : s.vm.findClass "java/lang/Long" = some m.cls := findClass_of_methodNamed Bd.named
  have hnm := (name_of_methodNamed Bd.named Bd.method).1
  have X0 : Stand p l e ({ frames := 0, cells := 0, slots := 0, locals := 0 } : Room) s m #[(.ref a1)] below meth c s₁ [] 0 0 := Stand.of_body Bd
  have e0 : s₁.heap = h0 := by rw [← hh, Bd.state]; rfl
  have N0 := Fr.nil n0
  have K0 : Keep h0 h0 [] := Keep.refl h0 []
  have P0 : ∀ t, Steps p.tables e below (s₁.setTop (mkF m 0 #[.val (.ref a1)] [])) t → Steps p.tables e below (s₁.setTop (entryFrame m #[(.ref a1)] 1)) t := fun t k => castTop (ef_lval m a1) k
  obtain ⟨T1032, X1032, e1032, st1032⟩ := getF X0 hx hZ hown (host := "") (Or.inl (hw _ (List.mem_of_getElem? (i := 29) rfl))) Via.refl e0 F1 (g := (mkF m 1 #[.val (.ref a1)] [(.ref a1)])) rfl rfl (hb hby d9_1)
  have P1033 : ∀ t, Steps p.tables e below (T1032.setTop (mkF m 4 #[.val (.ref a1)] [(.long q1)])) t → Steps p.tables e below (s₁.setTop (entryFrame m #[(.ref a1)] 1)) t := fun t k => P0 t (by
    refine XS.aloadN X0.here hx rfl (hb hby d9_0) rfl rfl ?_
    show Steps p.tables e below (s₁.setTop (mkF m 1 #[.val (.ref a1)] [(.ref a1)])) _
    refine st1032 _ ?_
    show Steps p.tables e below (T1032.setTop (mkF m 4 #[.val (.ref a1)] [(.long q1)])) _
    exact k)
  obtain ⟨fs, hr, hrun, hended, hW, hsame⟩ := X1032.leave (v := some (.long q1)) (fun h => by rw [Bd.returns] at h; cases h)
  refine ⟨_, _, P1033 _ ?_, hrun, hended, _, _, rfl, ?_, ⟨_, rfl⟩, hW, hsame.mono (by decide) (by decide)⟩
  · exact X1032.lreturnOut hx Bd.returns (hb hby d9_4) hr
  · show Q_lval Z a1 q1 h0 n0 _ T1032.heap _
    rw [e1032]
    exact ⟨rfl, N0, rfl⟩
theorem ef_chk (m : MethodId) (x0 : Addr) (x1 : Value) (x2 : Int64) (hx1 : x1.isRef = true) : entryFrame m #[(.ref x0), x1, (.long x2)] 4 = mkF m 0 #[.val (.ref x0), .val x1, .val (.long x2), .second] [] := by
  rcases ref_cases hx1 with rfl | ⟨_, rfl⟩
  all_goals first | (simp [entryFrame, mkF, argsToLocals, Value.category]; done) | rfl
def Q_chk (Z : State) (a1 : Addr) (r1 : Value) (q1 : Int64) (q2 : Int64) (h0 : Heap) (n0 : Nat) (v : Option Value) (h : Heap) (L : List Loc) : Prop := v = none ∧ Fr n0 L ∧ h = h0
theorem pn_3 : plainName "com/example/hale_pubsub/halepubsub/core/Retention" = true := by first | (simp [plainName, overriddenIn]; done) | decide +kernel
theorem d8_0 : decode prog_40_method_2_code 0 = .ok (.aload_n 1, 1) := by decide +kernel
theorem d8_1 : decode prog_40_method_2_code 1 = .ok (.ifnull 66, 3) := by decide +kernel
theorem d8_67 : decode prog_40_method_2_code 67 = .ok (.return_, 1) := by decide +kernel
theorem d8_4 : decode prog_40_method_2_code 4 = .ok (.aload_n 1, 1) := by decide +kernel
theorem d8_5 : decode prog_40_method_2_code 5 = .ok (.invokevirtual 35, 3) := by decide +kernel
theorem pd_2 : parseMethodDescriptor "()J" = some ⟨[], some .long⟩ := by decide +kernel
theorem d8_8 : decode prog_40_method_2_code 8 = .ok (.lconst 1, 1) := by decide +kernel
theorem d8_9 : decode prog_40_method_2_code 9 = .ok (.lcmp, 1) := by decide +kernel
theorem d8_10 : decode prog_40_method_2_code 10 = .ok (.ifCond .lt 12, 3) := by decide +kernel
theorem d8_13 : decode prog_40_method_2_code 13 = .ok (.aload_n 1, 1) := by decide +kernel
theorem d8_14 : decode prog_40_method_2_code 14 = .ok (.invokevirtual 35, 3) := by decide +kernel
theorem d8_17 : decode prog_40_method_2_code 17 = .ok (.lload_n 2, 1) := by decide +kernel
theorem d8_18 : decode prog_40_method_2_code 18 = .ok (.lcmp, 1) := by decide +kernel
theorem d8_19 : decode prog_40_method_2_code 19 = .ok (.ifCond .le 48, 3) := by decide +kernel
set_option maxRecDepth 65536 in
set_option maxHeartbeats 40000000 in
theorem rm_chk (l : Launch) (Z : State) (a0 : Array Value) (hw : ∀ d ∈ tables_1, d.before a0 Z = true) (ws : List Jvm.Cond) (a1 : Addr) (r1 : Value) (q1 : Int64) (q2 : Int64) (h0 : Heap) (n0 : Nat) (Z0 : n0 ≤ h0.size) (hr1 : r1.isRef = true) (G1 : own_box Z h0 r1 q1) (hq1 : ¬ q1 < (1 : Int64)) (hq2 : ¬ q2 < q1) :
    MetFree l (⟨"com/example/hale_pubsub/halepubsub/core/Retention", "check", "(Ljava/lang/String;Ljava/lang/Long;J)V"⟩ : MethodName) (head1 (Jvm.Cond.code (⟨"com/example/hale_pubsub/halepubsub/core/Retention", "check", "(Ljava/lang/String;Ljava/lang/Long;J)V"⟩ : MethodName) prog_40_method_2_code 4 none :: ws) ({ frames := 1, cells := 0, slots := 0, locals := 12 } : Room)) (fun a U => a = #[(.ref a1), r1, (.long q2)] ∧ Z.Warmed39 U.vm ∧ U.heap = h0) (fun _ _ _ _ _ => True) (fun _ U o U' => ∃ v L, o = .returned v ∧ Q_chk Z a1 r1 q1 q2 h0 n0 v U'.heap L ∧ FrameEnd U o U' L ({ frames := 1, cells := 0, slots := 0, locals := 12 } : Room).cells ({ frames := 1, cells := 0, slots := 0, locals := 12 } : Room).slots) := by
  refine MetFree.of_bodySF (plainFor_of_name pn_3) hisR ?_
  intro p e s m args below meth c s₁ Bd hml0 hP hK
  obtain ⟨rfl, hZ, hh⟩ := hP
  have hx := Bd.exec
  have hby := Bd.bytes
  have hml : c.maxLocals = 4 := hml0
  have hown : s.vm.findClass "com/example/hale_pubsub/halepubsub/core/Retention" = some m.cls := findClass_of_methodNamed Bd.named
  have hnm := (name_of_methodNamed Bd.named Bd.method).1
  have X0 : Stand p l e ({ frames := 1, cells := 0, slots := 0, locals := 12 } : Room) s m #[(.ref a1), r1, (.long q2)] below meth c s₁ [] 0 0 := Stand.of_body Bd
  have e0 : s₁.heap = h0 := by rw [← hh, Bd.state]; rfl
  have N0 := Fr.nil n0
  have K0 : Keep h0 h0 [] := Keep.refl h0 []
  have P0 : ∀ t, Steps p.tables e below (s₁.setTop (mkF m 0 #[.val (.ref a1), .val r1, .val (.long q2), .second] [])) t → Steps p.tables e below (s₁.setTop (entryFrame m #[(.ref a1), r1, (.long q2)] 4)) t := fun t k => castTop (ef_chk m a1 r1 q2 hr1) k
  rcases G1 with rfl | ⟨a2, rfl, E2, F2⟩
  · have P1034 : ∀ t, Steps p.tables e below (s₁.setTop (mkF m 67 #[.val (.ref a1), .val .null, .val (.long q2), .second] [])) t → Steps p.tables e below (s₁.setTop (entryFrame m #[(.ref a1), .null, (.long q2)] 4)) t := fun t k => P0 t (by
      refine XS.aloadN X0.here hx rfl (hb hby d8_0) rfl rfl ?_
      show Steps p.tables e below (s₁.setTop (mkF m 1 #[.val (.ref a1), .val .null, .val (.long q2), .second] [.null])) _
      refine XS.ifnullYes X0.here hx rfl (pc0 := 1) (pc' := 67) rfl (hb hby d8_1) rfl (by decide) (by decide) ?_
      show Steps p.tables e below (s₁.setTop (mkF m 67 #[.val (.ref a1), .val .null, .val (.long q2), .second] [])) _
      exact k)
    obtain ⟨fs, hr, hrun, hended, hW, hsame⟩ := X0.leave (v := none) (fun _ => rfl)
    refine ⟨_, _, P1034 _ ?_, hrun, hended, _, _, rfl, ?_, ⟨_, rfl⟩, hW, hsame.mono (by decide) (by decide)⟩
    · exact X0.returnOut hx Bd.returns (hb hby d8_67) hr
    · show Q_chk Z a1 _ q1 q2 h0 n0 _ s₁.heap _
      rw [e0]
      exact ⟨rfl, N0, rfl⟩
  · obtain ⟨cq1035, kq1035, q1035a, q1035b, q1035c⟩ := isOf hZ e0 E2
    obtain ⟨_, _, ⟨T1035, L1035, k1035, n1035⟩, -, X1035, ⟨Lc1035, hQ1035, l1035, y1035, z1035⟩, st1035⟩ := X0.virtualBack hx (y := (⟨"java/lang/Long", "longValue", "()J"⟩ : MethodName)) (z := (⟨"java/lang/Long", "longValue", "()J"⟩ : MethodName)) hown (mvT hZ (hw _ (List.mem_of_getElem? (i := 56) rfl))) (mvT hZ (hw _ (List.mem_of_getElem? (i := 57) rfl))) (notFace_of_selects (args := #[]) (mvT hZ (hw _ (List.mem_of_getElem? (i := 59) rfl)))) (mvT hZ (hw _ (List.mem_of_getElem? (i := 59) rfl))) (mvT hZ (hw _ (List.mem_of_getElem? (i := 58) rfl))) (by decide) (backOf (W := 0) (rm_lval l Z a0 hw [] a2 q1 h0 n0 Z0 F2) hZ (hw _ (List.mem_of_getElem? (i := 60) rfl)) (hw _ (List.mem_of_getElem? (i := 8) rfl)) (by decide) (by decide)) q1035a q1035c (g := (mkF m 5 #[.val (.ref a1), .val (.ref a2), .val (.long q2), .second] [(.ref a2)])) rfl (by rw [hml]; rfl) (Steps.refl _) (argsL := []) (rest := []) (lenOf pd_2 rfl) rfl (by show 2 * 0 + _ ≤ _; exact Nat.le_of_eq rfl) (hb hby d8_5) (fun _ _ => ⟨rfl, e0, (by decide : 0 + 0 ≤ _), (by decide : 0 + 0 ≤ _)⟩)
    dsimp only [Pt.U, Pt.locs, Pt.cells, Pt.slots] at X1035 l1035 y1035 z1035 st1035 hQ1035
    subst l1035 y1035 z1035
    obtain ⟨rfl, N1035q, e5⟩ := hQ1035
    have N1035 := Fr.app N0 N1035q
    obtain ⟨cq1036, kq1036, q1036a, q1036b, q1036c⟩ := isOf hZ e5 E2
    obtain ⟨_, _, ⟨T1036, L1036, k1036, n1036⟩, -, X1036, ⟨Lc1036, hQ1036, l1036, y1036, z1036⟩, st1036⟩ := X1035.virtualBack hx (y := (⟨"java/lang/Long", "longValue", "()J"⟩ : MethodName)) (z := (⟨"java/lang/Long", "longValue", "()J"⟩ : MethodName)) hown (mvT hZ (hw _ (List.mem_of_getElem? (i := 56) rfl))) (mvT hZ (hw _ (List.mem_of_getElem? (i := 57) rfl))) (notFace_of_selects (args := #[]) (mvT hZ (hw _ (List.mem_of_getElem? (i := 59) rfl)))) (mvT hZ (hw _ (List.mem_of_getElem? (i := 59) rfl))) (mvT hZ (hw _ (List.mem_of_getElem? (i := 58) rfl))) (by decide) (backOf (W := 0) (rm_lval l Z a0 hw [] a2 q1 h0 n0 Z0 F2) hZ (hw _ (List.mem_of_getElem? (i := 60) rfl)) (hw _ (List.mem_of_getElem? (i := 8) rfl)) (by decide) (by decide)) q1036a q1036c (g := (mkF m 14 #[.val (.ref a1), .val (.ref a2), .val (.long q2), .second] [(.ref a2)])) rfl (by rw [hml]; rfl) (Steps.refl _) (argsL := []) (rest := []) (lenOf pd_2 rfl) rfl (by show 2 * 0 + _ ≤ _; exact Nat.le_of_eq rfl) (hb hby d8_14) (fun _ _ => ⟨rfl, e5, (by decide : 0 + 0 ≤ _), (by decide : 0 + 0 ≤ _)⟩)
    dsimp only [Pt.U, Pt.locs, Pt.cells, Pt.slots] at X1036 l1036 y1036 z1036 st1036 hQ1036
    subst l1036 y1036 z1036
    obtain ⟨rfl, N1036q, e14⟩ := hQ1036
    have N1036 := Fr.app N1035 N1036q
    have P1037 : ∀ t, Steps p.tables e below (T1036.setTop (mkF m 67 #[.val (.ref a1), .val (.ref a2), .val (.long q2), .second] [])) t → Steps p.tables e below (s₁.setTop (entryFrame m #[(.ref a1), (.ref a2), (.long q2)] 4)) t := fun t k => P0 t (by
      refine XS.aloadN X0.here hx rfl (hb hby d8_0) rfl rfl ?_
      show Steps p.tables e below (s₁.setTop (mkF m 1 #[.val (.ref a1), .val (.ref a2), .val (.long q2), .second] [(.ref a2)])) _
      refine XS.ifnullNo X0.here hx rfl (hb hby d8_1) rfl ?_
      show Steps p.tables e below (s₁.setTop (mkF m 4 #[.val (.ref a1), .val (.ref a2), .val (.long q2), .second] [])) _
      refine XS.aloadN X0.here hx rfl (hb hby d8_4) rfl rfl ?_
      show Steps p.tables e below (s₁.setTop (mkF m 5 #[.val (.ref a1), .val (.ref a2), .val (.long q2), .second] [(.ref a2)])) _
      refine st1035.trans ?_
      show Steps p.tables e below (T1035.setTop (mkF m 8 #[.val (.ref a1), .val (.ref a2), .val (.long q2), .second] [(.long q1)])) _
      refine XS.lconst X1035.here hx rfl (hb hby d8_8) ?_
      show Steps p.tables e below (T1035.setTop (mkF m 9 #[.val (.ref a1), .val (.ref a2), .val (.long q2), .second] [(.long (1 : Int64)), (.long q1)])) _
      refine XS.lcmp X1035.here hx rfl (hb hby d8_9) rfl ?_
      show Steps p.tables e below (T1035.setTop (mkF m 10 #[.val (.ref a1), .val (.ref a2), .val (.long q2), .second] [(.int (lcmpW q1 (1 : Int64)))])) _
      refine XS.ifNo X1035.here hx rfl (hb hby d8_10) rfl ((if0 _ _).trans (flt (fun q => hq1 ((lw_lt q1 (1 : Int64)).mp q))).1) ?_
      show Steps p.tables e below (T1035.setTop (mkF m 13 #[.val (.ref a1), .val (.ref a2), .val (.long q2), .second] [])) _
      refine XS.aloadN X1035.here hx rfl (hb hby d8_13) rfl rfl ?_
      show Steps p.tables e below (T1035.setTop (mkF m 14 #[.val (.ref a1), .val (.ref a2), .val (.long q2), .second] [(.ref a2)])) _
      refine st1036.trans ?_
      show Steps p.tables e below (T1036.setTop (mkF m 17 #[.val (.ref a1), .val (.ref a2), .val (.long q2), .second] [(.long q1)])) _
      refine XS.lloadN X1036.here hx rfl (hb hby d8_17) rfl ?_
      show Steps p.tables e below (T1036.setTop (mkF m 18 #[.val (.ref a1), .val (.ref a2), .val (.long q2), .second] [(.long q2), (.long q1)])) _
      refine XS.lcmp X1036.here hx rfl (hb hby d8_18) rfl ?_
      show Steps p.tables e below (T1036.setTop (mkF m 19 #[.val (.ref a1), .val (.ref a2), .val (.long q2), .second] [(.int (lcmpW q1 q2))])) _
      refine XS.ifYes X1036.here hx rfl (pc0 := 19) (pc' := 67) rfl (hb hby d8_19) rfl ((if0 _ _).trans (flt (fun q => hq2 ((lw_gt q1 q2).mp q))).2.2.2) (by decide) (by decide) ?_
      show Steps p.tables e below (T1036.setTop (mkF m 67 #[.val (.ref a1), .val (.ref a2), .val (.long q2), .second] [])) _
      exact k)
    obtain ⟨fs, hr, hrun, hended, hW, hsame⟩ := X1036.leave (v := none) (fun _ => rfl)
    refine ⟨_, _, P1037 _ ?_, hrun, hended, _, _, rfl, ?_, ⟨_, rfl⟩, hW, hsame.mono (by decide) (by decide)⟩
    · exact X1036.returnOut hx Bd.returns (hb hby d8_67) hr
    · show Q_chk Z a1 _ q1 q2 h0 n0 _ T1036.heap _
      rw [e14]
      exact ⟨rfl, N1036, rfl⟩
theorem ef_rinit (m : MethodId) (x0 : Addr) (x1 : Value) (x2 : Value) (x3 : Value) (hx1 : x1.isRef = true) (hx2 : x2.isRef = true) (hx3 : x3.isRef = true) : entryFrame m #[(.ref x0), x1, x2, x3] 4 = mkF m 0 #[.val (.ref x0), .val x1, .val x2, .val x3] [] := by
  rcases ref_cases hx1 with rfl | ⟨_, rfl⟩ <;> rcases ref_cases hx2 with rfl | ⟨_, rfl⟩ <;> rcases ref_cases hx3 with rfl | ⟨_, rfl⟩
  all_goals first | (simp [entryFrame, mkF, argsToLocals, Value.category]; done) | rfl
def Q_rinit (Z : State) (a1 : Addr) (r1 : Value) (r2 : Value) (r3 : Value) (q1 : Int64) (q2 : Int64) (q3 : Int64) (h0 : Heap) (n0 : Nat) (v : Option Value) (h : Heap) (L : List Loc) : Prop := v = none ∧ Fr n0 L ∧ Keep h0 h [a1] ∧ Exa Z h a1 "com/example/hale_pubsub/halepubsub/core/Retention" ∧ Fld Z h a1 "com/example/hale_pubsub/halepubsub/core/Retention" "maxAgeSeconds" "Ljava/lang/Long;" r3 ∧ own_box Z h r3 q3
theorem d6_0 : decode prog_40_method_1_code 0 = .ok (.aload_n 0, 1) := by decide +kernel
theorem d6_1 : decode prog_40_method_1_code 1 = .ok (.invokespecial 3, 3) := by decide +kernel
theorem d6_4 : decode prog_40_method_1_code 4 = .ok (.ldc 9, 2) := by decide +kernel
theorem d6_6 : decode prog_40_method_1_code 6 = .ok (.aload_n 1, 1) := by decide +kernel
theorem d6_7 : decode prog_40_method_1_code 7 = .ok (.ldc2_w 11, 3) := by decide +kernel
theorem d6_10 : decode prog_40_method_1_code 10 = .ok (.invokestatic 13, 3) := by decide +kernel
theorem pd_3 : parseMethodDescriptor "(Ljava/lang/String;Ljava/lang/Long;J)V" = some ⟨[(.object "java/lang/String"), (.object "java/lang/Long"), .long], none⟩ := by decide +kernel
theorem d6_13 : decode prog_40_method_1_code 13 = .ok (.ldc 19, 2) := by decide +kernel
theorem d6_15 : decode prog_40_method_1_code 15 = .ok (.aload_n 2, 1) := by decide +kernel
theorem d6_16 : decode prog_40_method_1_code 16 = .ok (.ldc2_w 11, 3) := by decide +kernel
theorem d6_19 : decode prog_40_method_1_code 19 = .ok (.invokestatic 13, 3) := by decide +kernel
theorem d6_22 : decode prog_40_method_1_code 22 = .ok (.ldc 21, 2) := by decide +kernel
theorem d6_24 : decode prog_40_method_1_code 24 = .ok (.aload_n 3, 1) := by decide +kernel
theorem d6_25 : decode prog_40_method_1_code 25 = .ok (.ldc2_w 23, 3) := by decide +kernel
theorem d6_28 : decode prog_40_method_1_code 28 = .ok (.invokestatic 13, 3) := by decide +kernel
theorem d6_31 : decode prog_40_method_1_code 31 = .ok (.aload_n 0, 1) := by decide +kernel
theorem d6_32 : decode prog_40_method_1_code 32 = .ok (.aload_n 1, 1) := by decide +kernel
theorem d6_33 : decode prog_40_method_1_code 33 = .ok (.putfield 25, 3) := by decide +kernel
theorem d6_36 : decode prog_40_method_1_code 36 = .ok (.aload_n 0, 1) := by decide +kernel
theorem d6_37 : decode prog_40_method_1_code 37 = .ok (.aload_n 2, 1) := by decide +kernel
theorem d6_38 : decode prog_40_method_1_code 38 = .ok (.putfield 29, 3) := by decide +kernel
theorem d6_41 : decode prog_40_method_1_code 41 = .ok (.aload_n 0, 1) := by decide +kernel
theorem d6_42 : decode prog_40_method_1_code 42 = .ok (.aload_n 3, 1) := by decide +kernel
theorem d6_43 : decode prog_40_method_1_code 43 = .ok (.putfield 32, 3) := by decide +kernel
theorem d6_46 : decode prog_40_method_1_code 46 = .ok (.return_, 1) := by decide +kernel
set_option maxRecDepth 65536 in
set_option maxHeartbeats 40000000 in
theorem rm_rinit (l : Launch) (Z : State) (a0 : Array Value) (hw : ∀ d ∈ tables_1, d.before a0 Z = true) (ws : List Jvm.Cond) (a1 : Addr) (r1 : Value) (r2 : Value) (r3 : Value) (q1 : Int64) (q2 : Int64) (q3 : Int64) (h0 : Heap) (n0 : Nat) (Z0 : n0 ≤ h0.size) (hr1 : r1.isRef = true) (hr2 : r2.isRef = true) (hr3 : r3.isRef = true) (G1 : own_box Z h0 r1 q1) (G2 : own_box Z h0 r2 q2) (G3 : own_box Z h0 r3 q3) (hq1 : ¬ q1 < (1 : Int64)) (hq2 : ¬ q2 < (1 : Int64)) (hq3 : ¬ q3 < (1 : Int64)) (hq4 : ¬ (9223372036854775 : Int64) < q3) (E1 : Exa Z h0 a1 "com/example/hale_pubsub/halepubsub/core/Retention") (F0 : Fld Z h0 a1 "com/example/hale_pubsub/halepubsub/core/Retention" "maxPublications" "Ljava/lang/Long;" .null) (F1 : Fld Z h0 a1 "com/example/hale_pubsub/halepubsub/core/Retention" "maxBytes" "Ljava/lang/Long;" .null) (F2 : Fld Z h0 a1 "com/example/hale_pubsub/halepubsub/core/Retention" "maxAgeSeconds" "Ljava/lang/Long;" .null) (g1 : n0 ≤ a1) :
    MetFree l (⟨"com/example/hale_pubsub/halepubsub/core/Retention", "<init>", "(Ljava/lang/Long;Ljava/lang/Long;Ljava/lang/Long;)V"⟩ : MethodName) (head1 (Jvm.Cond.code (⟨"com/example/hale_pubsub/halepubsub/core/Retention", "<init>", "(Ljava/lang/Long;Ljava/lang/Long;Ljava/lang/Long;)V"⟩ : MethodName) prog_40_method_1_code 4 none :: ws) ({ frames := 2, cells := 6, slots := 136, locals := 27 } : Room)) (fun a U => a = #[(.ref a1), r1, r2, r3] ∧ Z.Warmed39 U.vm ∧ U.heap = h0) (fun _ _ _ _ _ => True) (fun _ U o U' => ∃ v L, o = .returned v ∧ Q_rinit Z a1 r1 r2 r3 q1 q2 q3 h0 n0 v U'.heap L ∧ ReturnedEndW U o U' L ({ frames := 2, cells := 6, slots := 136, locals := 27 } : Room).cells ({ frames := 2, cells := 6, slots := 136, locals := 27 } : Room).slots) := by
  refine MetFree.of_bodySF (plainFor_of_name pn_3) hisR ?_
  intro p e s m args below meth c s₁ Bd hml0 hP hK
  obtain ⟨rfl, hZ, hh⟩ := hP
  have hx := Bd.exec
  have hby := Bd.bytes
  have hml : c.maxLocals = 4 := hml0
  have hown : s.vm.findClass "com/example/hale_pubsub/halepubsub/core/Retention" = some m.cls := findClass_of_methodNamed Bd.named
  have hnm := (name_of_methodNamed Bd.named Bd.method).1
  have X0 : Stand p l e ({ frames := 2, cells := 6, slots := 136, locals := 27 } : Room) s m #[(.ref a1), r1, r2, r3] below meth c s₁ [] 0 0 := Stand.of_body Bd
  have e0 : s₁.heap = h0 := by rw [← hh, Bd.state]; rfl
  have N0 := Fr.nil n0
  have K0 : Keep h0 h0 [a1] := Keep.refl h0 [a1]
  have P0 : ∀ t, Steps p.tables e below (s₁.setTop (mkF m 0 #[.val (.ref a1), .val r1, .val r2, .val r3] [])) t → Steps p.tables e below (s₁.setTop (entryFrame m #[(.ref a1), r1, r2, r3] 4)) t := fun t k => castTop (ef_rinit m a1 r1 r2 r3 hr1 hr2 hr3) k
  have hS0 : s.Since s.vm h0.size := (State.WarmedH.refl s).since _
  have hk0 := Nat.le_refl h0.size
  obtain ⟨_, _, ⟨T1038, L1038, k1038, n1038⟩, -, X1038, ⟨Lc1038, hQ1038, l1038, y1038, z1038⟩, st1038⟩ := X0.specialBack hx (y := (⟨"java/lang/Record", "<init>", "()V"⟩ : MethodName)) rfl hown (mvT hZ (hw _ (List.mem_of_getElem? (i := 37) rfl))) (mvT hZ (hw _ (List.mem_of_getElem? (i := 38) rfl))) (mvT hZ (hw _ (List.mem_of_getElem? (i := 41) rfl))) (by decide) (backOf (W := 0) (rm_rec l Z a0 hw [] a1 h0 n0 Z0 ) hZ (hw _ (List.mem_of_getElem? (i := 41) rfl)) (hw _ (List.mem_of_getElem? (i := 40) rfl)) (by decide) (by decide)) (g := (mkF m 1 #[.val (.ref a1), .val r1, .val r2, .val r3] [(.ref a1)])) rfl (by rw [hml]; rfl) (Steps.refl _) (a := a1) (argsL := []) (rest := []) (lenOf pd_0 rfl) rfl (by show 2 * 0 + _ ≤ _; exact Nat.le_of_eq rfl) (hb hby d6_1) (fun _ _ => ⟨rfl, e0, (by decide : 0 + 0 ≤ _), (by decide : 0 + 0 ≤ _)⟩)
  dsimp only [Pt.U, Pt.locs, Pt.cells, Pt.slots] at X1038 l1038 y1038 z1038 st1038 hQ1038
  subst l1038 y1038 z1038
  obtain ⟨rfl, N1038q, e1⟩ := hQ1038
  have N1038 := Fr.app N0 N1038q
  have P1039 : ∀ t, Steps p.tables e below (T1038.setTop (mkF m 4 #[.val (.ref a1), .val r1, .val r2, .val r3] [])) t → Steps p.tables e below (s₁.setTop (entryFrame m #[(.ref a1), r1, r2, r3] 4)) t := fun t k => P0 t (by
    refine XS.aloadN X0.here hx rfl (hb hby d6_0) rfl rfl ?_
    show Steps p.tables e below (s₁.setTop (mkF m 1 #[.val (.ref a1), .val r1, .val r2, .val r3] [(.ref a1)])) _
    refine st1038.trans ?_
    show Steps p.tables e below (T1038.setTop (mkF m 4 #[.val (.ref a1), .val r1, .val r2, .val r3] [])) _
    exact k)
  have wS1040 : ∀ d ∈ Bundle.stringAtoms, d.before a0 Z = true := fun d hd => hw d ((by decide +kernel : ∀ d ∈ Bundle.stringAtoms, d ∈ tables_1) d hd)
  obtain ⟨a1040, T1040, h1040, q1040, X1040, e1040, E1040, S1040, hk1040, hZ, hown, st1040⟩ := ldcS (s := s) (vm0 := s.vm) X1038 hx hZ hown (hw _ (List.mem_of_getElem? (i := 43) rfl)) wS1040 e1 hS0 hk0 (g := (mkF m 4 #[.val (.ref a1), .val r1, .val r2, .val r3] [])) rfl (hb hby d6_4) (n := 48) (by decide) (by decide) (by decide) (by decide)
  have c1041_0 := E1.ext E1040
  have c1041_1 := F0.ext E1040
  have c1041_2 := F1.ext E1040
  have c1041_3 := F2.ext E1040
  have G1042_0 := G1.ext E1040
  have G1042_1 := G2.ext E1040
  have G1042_2 := G3.ext E1040
  have Z1040 : n0 ≤ h1040.size := Nat.le_trans Z0 E1040.1
  have K1040 : Keep h0 h1040 [a1] := K0.ext E1040
  obtain ⟨_, _, ⟨T1043, L1043, k1043, n1043⟩, -, X1043, ⟨Lc1043, hQ1043, l1043, y1043, z1043⟩, st1043⟩ := Jvm.LawKit.callS X1040 hx (y := (⟨"com/example/hale_pubsub/halepubsub/core/Retention", "check", "(Ljava/lang/String;Ljava/lang/Long;J)V"⟩ : MethodName)) hown (mvT hZ (hw _ (List.mem_of_getElem? (i := 52) rfl))) (mvT hZ (hw _ (List.mem_of_getElem? (i := 53) rfl))) (mvT hZ (hw _ (List.mem_of_getElem? (i := 33) rfl))) (mvT hZ (hw _ (List.mem_of_getElem? (i := 54) rfl))) (by decide) (backOf (W := 0) (rm_chk l Z a0 hw [] a1040 r1 q1 (9223372036854775807 : Int64) h1040 n0 Z1040 hr1 G1042_0 hq1 (own_hi _)) hZ (hw _ (List.mem_of_getElem? (i := 54) rfl)) (hw _ (List.mem_of_getElem? (i := 33) rfl)) (by decide) (by decide)) (g := (mkF m 10 #[.val (.ref a1), .val r1, .val r2, .val r3] [(.long (9223372036854775807 : Int64)), r1, (.ref a1040)])) rfl (by rw [hml]; rfl) (argsL := [(.ref a1040), r1, (.long (9223372036854775807 : Int64))]) (rest := []) (lenOf pd_3 rfl) rfl (by show 2 * 0 + _ ≤ _; exact Nat.le_of_eq rfl) (hb hby d6_10) (fun _ _ => ⟨rfl, e1040, (by decide : 2 + 0 ≤ _), (by decide : 52 + 0 ≤ _)⟩)
  dsimp only [Pt.U, Pt.locs, Pt.cells, Pt.slots] at X1043 l1043 y1043 z1043 st1043 hQ1043
  subst l1043 y1043 z1043
  obtain ⟨rfl, N1043q, e10⟩ := hQ1043
  have N1043 := Fr.app N1038 N1043q
  have P1044 : ∀ t, Steps p.tables e below (T1043.setTop (mkF m 13 #[.val (.ref a1), .val r1, .val r2, .val r3] [])) t → Steps p.tables e below (s₁.setTop (entryFrame m #[(.ref a1), r1, r2, r3] 4)) t := fun t k => P1039 t (by
    refine st1040 _ ?_
    show Steps p.tables e below (T1040.setTop (mkF m 6 #[.val (.ref a1), .val r1, .val r2, .val r3] [(.ref a1040)])) _
    refine XS.aloadN X1040.here hx rfl (hb hby d6_6) rfl hr1 ?_
    show Steps p.tables e below (T1040.setTop (mkF m 7 #[.val (.ref a1), .val r1, .val r2, .val r3] [r1, (.ref a1040)])) _
    refine X1040.ldc2Long hx hown (mvT hZ (hw _ (List.mem_of_getElem? (i := 51) rfl))) (g := (mkF m 7 #[.val (.ref a1), .val r1, .val r2, .val r3] [r1, (.ref a1040)])) rfl (hb hby d6_7) _ ?_
    show Steps p.tables e below (T1040.setTop (mkF m 10 #[.val (.ref a1), .val r1, .val r2, .val r3] [(.long (9223372036854775807 : Int64)), r1, (.ref a1040)])) _
    refine st1043 _ ?_
    show Steps p.tables e below (T1043.setTop (mkF m 13 #[.val (.ref a1), .val r1, .val r2, .val r3] [])) _
    exact k)
  have wS1045 : ∀ d ∈ Bundle.stringAtoms, d.before a0 Z = true := fun d hd => hw d ((by decide +kernel : ∀ d ∈ Bundle.stringAtoms, d ∈ tables_1) d hd)
  obtain ⟨a1045, T1045, h1045, q1045, X1045, e1045, E1045, S1045, hk1045, hZ, hown, st1045⟩ := ldcS (s := s) (vm0 := T1040.vm) X1043 hx hZ hown (hw _ (List.mem_of_getElem? (i := 55) rfl)) wS1045 e10 S1040 hk1040 (g := (mkF m 13 #[.val (.ref a1), .val r1, .val r2, .val r3] [])) rfl (hb hby d6_13) (n := 20) (by decide) (by decide) (by decide) (by decide)
  have c1046_0 := c1041_0.ext E1045
  have c1046_1 := c1041_1.ext E1045
  have c1046_2 := c1041_2.ext E1045
  have c1046_3 := c1041_3.ext E1045
  have G1047_0 := G1042_0.ext E1045
  have G1047_1 := G1042_1.ext E1045
  have G1047_2 := G1042_2.ext E1045
  have Z1045 : n0 ≤ h1045.size := Nat.le_trans Z1040 E1045.1
  have K1045 : Keep h0 h1045 [a1] := K1040.ext E1045
  obtain ⟨_, _, ⟨T1048, L1048, k1048, n1048⟩, -, X1048, ⟨Lc1048, hQ1048, l1048, y1048, z1048⟩, st1048⟩ := Jvm.LawKit.callS X1045 hx (y := (⟨"com/example/hale_pubsub/halepubsub/core/Retention", "check", "(Ljava/lang/String;Ljava/lang/Long;J)V"⟩ : MethodName)) hown (mvT hZ (hw _ (List.mem_of_getElem? (i := 52) rfl))) (mvT hZ (hw _ (List.mem_of_getElem? (i := 53) rfl))) (mvT hZ (hw _ (List.mem_of_getElem? (i := 33) rfl))) (mvT hZ (hw _ (List.mem_of_getElem? (i := 54) rfl))) (by decide) (backOf (W := 0) (rm_chk l Z a0 hw [] a1045 r2 q2 (9223372036854775807 : Int64) h1045 n0 Z1045 hr2 G1047_1 hq2 (own_hi _)) hZ (hw _ (List.mem_of_getElem? (i := 54) rfl)) (hw _ (List.mem_of_getElem? (i := 33) rfl)) (by decide) (by decide)) (g := (mkF m 19 #[.val (.ref a1), .val r1, .val r2, .val r3] [(.long (9223372036854775807 : Int64)), r2, (.ref a1045)])) rfl (by rw [hml]; rfl) (argsL := [(.ref a1045), r2, (.long (9223372036854775807 : Int64))]) (rest := []) (lenOf pd_3 rfl) rfl (by show 2 * 0 + _ ≤ _; exact Nat.le_of_eq rfl) (hb hby d6_19) (fun _ _ => ⟨rfl, e1045, (by decide : 4 + 0 ≤ _), (by decide : 76 + 0 ≤ _)⟩)
  dsimp only [Pt.U, Pt.locs, Pt.cells, Pt.slots] at X1048 l1048 y1048 z1048 st1048 hQ1048
  subst l1048 y1048 z1048
  obtain ⟨rfl, N1048q, e19⟩ := hQ1048
  have N1048 := Fr.app N1043 N1048q
  have P1049 : ∀ t, Steps p.tables e below (T1048.setTop (mkF m 22 #[.val (.ref a1), .val r1, .val r2, .val r3] [])) t → Steps p.tables e below (s₁.setTop (entryFrame m #[(.ref a1), r1, r2, r3] 4)) t := fun t k => P1044 t (by
    refine st1045 _ ?_
    show Steps p.tables e below (T1045.setTop (mkF m 15 #[.val (.ref a1), .val r1, .val r2, .val r3] [(.ref a1045)])) _
    refine XS.aloadN X1045.here hx rfl (hb hby d6_15) rfl hr2 ?_
    show Steps p.tables e below (T1045.setTop (mkF m 16 #[.val (.ref a1), .val r1, .val r2, .val r3] [r2, (.ref a1045)])) _
    refine X1045.ldc2Long hx hown (mvT hZ (hw _ (List.mem_of_getElem? (i := 51) rfl))) (g := (mkF m 16 #[.val (.ref a1), .val r1, .val r2, .val r3] [r2, (.ref a1045)])) rfl (hb hby d6_16) _ ?_
    show Steps p.tables e below (T1045.setTop (mkF m 19 #[.val (.ref a1), .val r1, .val r2, .val r3] [(.long (9223372036854775807 : Int64)), r2, (.ref a1045)])) _
    refine st1048 _ ?_
    show Steps p.tables e below (T1048.setTop (mkF m 22 #[.val (.ref a1), .val r1, .val r2, .val r3] [])) _
    exact k)
  have wS1050 : ∀ d ∈ Bundle.stringAtoms, d.before a0 Z = true := fun d hd => hw d ((by decide +kernel : ∀ d ∈ Bundle.stringAtoms, d ∈ tables_1) d hd)
  obtain ⟨a1050, T1050, h1050, q1050, X1050, e1050, E1050, S1050, hk1050, hZ, hown, st1050⟩ := ldcS (s := s) (vm0 := T1045.vm) X1048 hx hZ hown (hw _ (List.mem_of_getElem? (i := 61) rfl)) wS1050 e19 S1045 hk1045 (g := (mkF m 22 #[.val (.ref a1), .val r1, .val r2, .val r3] [])) rfl (hb hby d6_22) (n := 56) (by decide) (by decide) (by decide) (by decide)
  have c1051_0 := c1046_0.ext E1050
  have c1051_1 := c1046_1.ext E1050
  have c1051_2 := c1046_2.ext E1050
  have c1051_3 := c1046_3.ext E1050
  have G1052_0 := G1047_0.ext E1050
  have G1052_1 := G1047_1.ext E1050
  have G1052_2 := G1047_2.ext E1050
  have Z1050 : n0 ≤ h1050.size := Nat.le_trans Z1045 E1050.1
  have K1050 : Keep h0 h1050 [a1] := K1045.ext E1050
  obtain ⟨_, _, ⟨T1053, L1053, k1053, n1053⟩, -, X1053, ⟨Lc1053, hQ1053, l1053, y1053, z1053⟩, st1053⟩ := Jvm.LawKit.callS X1050 hx (y := (⟨"com/example/hale_pubsub/halepubsub/core/Retention", "check", "(Ljava/lang/String;Ljava/lang/Long;J)V"⟩ : MethodName)) hown (mvT hZ (hw _ (List.mem_of_getElem? (i := 52) rfl))) (mvT hZ (hw _ (List.mem_of_getElem? (i := 53) rfl))) (mvT hZ (hw _ (List.mem_of_getElem? (i := 33) rfl))) (mvT hZ (hw _ (List.mem_of_getElem? (i := 54) rfl))) (by decide) (backOf (W := 0) (rm_chk l Z a0 hw [] a1050 r3 q3 (9223372036854775 : Int64) h1050 n0 Z1050 hr3 G1052_2 hq3 hq4) hZ (hw _ (List.mem_of_getElem? (i := 54) rfl)) (hw _ (List.mem_of_getElem? (i := 33) rfl)) (by decide) (by decide)) (g := (mkF m 28 #[.val (.ref a1), .val r1, .val r2, .val r3] [(.long (9223372036854775 : Int64)), r3, (.ref a1050)])) rfl (by rw [hml]; rfl) (argsL := [(.ref a1050), r3, (.long (9223372036854775 : Int64))]) (rest := []) (lenOf pd_3 rfl) rfl (by show 2 * 0 + _ ≤ _; exact Nat.le_of_eq rfl) (hb hby d6_28) (fun _ _ => ⟨rfl, e1050, (by decide : 6 + 0 ≤ _), (by decide : 136 + 0 ≤ _)⟩)
  dsimp only [Pt.U, Pt.locs, Pt.cells, Pt.slots] at X1053 l1053 y1053 z1053 st1053 hQ1053
  subst l1053 y1053 z1053
  obtain ⟨rfl, N1053q, e28⟩ := hQ1053
  have N1053 := Fr.app N1048 N1053q
  obtain ⟨T1054, h1054, X1054, e1054, W1054, st1054⟩ := putF X1053 hx hZ hown (host := "") (Or.inl (hw _ (List.mem_of_getElem? (i := 63) rfl))) Via.refl e28 c1051_1 c1051_0 (Or.inr ⟨(hw _ (List.mem_of_getElem? (i := 64) rfl)), rfl, hnm⟩) (hw _ (List.mem_of_getElem? (i := 32) rfl)) (ty := (.object "java/lang/Long")) (by decide) (nar_ref hr1) (fit_obj hr1) (g := (mkF m 33 #[.val (.ref a1), .val r1, .val r2, .val r3] [r1, (.ref a1)])) rfl rfl (hb hby d6_33)
  have Fw1054 := c1051_1.same W1054
  have c1055_0 := c1051_0.wr W1054
  have c1055_2 := c1051_2.other W1054 (Or.inr (slot_ne (Or.inr (hw _ (List.mem_of_getElem? (i := 66) rfl))) (Or.inr (hw _ (List.mem_of_getElem? (i := 64) rfl))) (by decide) (t := (.object "java/lang/Long")) (t' := (.object "java/lang/Long")) (by decide) (by decide)))
  have c1055_3 := c1051_3.other W1054 (Or.inr (slot_ne (Or.inr (hw _ (List.mem_of_getElem? (i := 68) rfl))) (Or.inr (hw _ (List.mem_of_getElem? (i := 64) rfl))) (by decide) (t := (.object "java/lang/Long")) (t' := (.object "java/lang/Long")) (by decide) (by decide)))
  have G1056_0 := G1052_0.wr W1054 c1051_0 (by decide)
  have G1056_1 := G1052_1.wr W1054 c1051_0 (by decide)
  have G1056_2 := G1052_2.wr W1054 c1051_0 (by decide)
  have hk1054 := Nat.le_trans hk1050 (Nat.le_of_eq W1054.size.symm)
  have Z1054 : n0 ≤ h1054.size := Nat.le_trans Z1050 (Nat.le_of_eq W1054.size.symm)
  have K1054 : Keep h0 h1054 [a1] := K1050.wr W1054 (Or.inl (List.mem_of_getElem? (i := 0) rfl))
  have N1054 := Fr.snoc X1054 N1053 g1
  obtain ⟨T1057, h1057, X1057, e1057, W1057, st1057⟩ := putF X1054 hx hZ hown (host := "") (Or.inl (hw _ (List.mem_of_getElem? (i := 65) rfl))) Via.refl e1054 c1055_2 c1055_0 (Or.inr ⟨(hw _ (List.mem_of_getElem? (i := 66) rfl)), rfl, hnm⟩) (hw _ (List.mem_of_getElem? (i := 32) rfl)) (ty := (.object "java/lang/Long")) (by decide) (nar_ref hr2) (fit_obj hr2) (g := (mkF m 38 #[.val (.ref a1), .val r1, .val r2, .val r3] [r2, (.ref a1)])) rfl rfl (hb hby d6_38)
  have Fw1057 := c1055_2.same W1057
  have c1058_0 := c1055_0.wr W1057
  have c1058_1 := Fw1054.other W1057 (Or.inr (slot_ne (Or.inr (hw _ (List.mem_of_getElem? (i := 64) rfl))) (Or.inr (hw _ (List.mem_of_getElem? (i := 66) rfl))) (by decide) (t := (.object "java/lang/Long")) (t' := (.object "java/lang/Long")) (by decide) (by decide)))
  have c1058_3 := c1055_3.other W1057 (Or.inr (slot_ne (Or.inr (hw _ (List.mem_of_getElem? (i := 68) rfl))) (Or.inr (hw _ (List.mem_of_getElem? (i := 66) rfl))) (by decide) (t := (.object "java/lang/Long")) (t' := (.object "java/lang/Long")) (by decide) (by decide)))
  have G1059_0 := G1056_0.wr W1057 c1055_0 (by decide)
  have G1059_1 := G1056_1.wr W1057 c1055_0 (by decide)
  have G1059_2 := G1056_2.wr W1057 c1055_0 (by decide)
  have hk1057 := Nat.le_trans hk1054 (Nat.le_of_eq W1057.size.symm)
  have Z1057 : n0 ≤ h1057.size := Nat.le_trans Z1054 (Nat.le_of_eq W1057.size.symm)
  have K1057 : Keep h0 h1057 [a1] := K1054.wr W1057 (Or.inl (List.mem_of_getElem? (i := 0) rfl))
  have N1057 := Fr.snoc X1057 N1054 g1
  obtain ⟨T1060, h1060, X1060, e1060, W1060, st1060⟩ := putF X1057 hx hZ hown (host := "") (Or.inl (hw _ (List.mem_of_getElem? (i := 67) rfl))) Via.refl e1057 c1058_3 c1058_0 (Or.inr ⟨(hw _ (List.mem_of_getElem? (i := 68) rfl)), rfl, hnm⟩) (hw _ (List.mem_of_getElem? (i := 32) rfl)) (ty := (.object "java/lang/Long")) (by decide) (nar_ref hr3) (fit_obj hr3) (g := (mkF m 43 #[.val (.ref a1), .val r1, .val r2, .val r3] [r3, (.ref a1)])) rfl rfl (hb hby d6_43)
  have Fw1060 := c1058_3.same W1060
  have c1061_0 := c1058_0.wr W1060
  have c1061_1 := c1058_1.other W1060 (Or.inr (slot_ne (Or.inr (hw _ (List.mem_of_getElem? (i := 64) rfl))) (Or.inr (hw _ (List.mem_of_getElem? (i := 68) rfl))) (by decide) (t := (.object "java/lang/Long")) (t' := (.object "java/lang/Long")) (by decide) (by decide)))
  have c1061_2 := Fw1057.other W1060 (Or.inr (slot_ne (Or.inr (hw _ (List.mem_of_getElem? (i := 66) rfl))) (Or.inr (hw _ (List.mem_of_getElem? (i := 68) rfl))) (by decide) (t := (.object "java/lang/Long")) (t' := (.object "java/lang/Long")) (by decide) (by decide)))
  have G1062_0 := G1059_0.wr W1060 c1058_0 (by decide)
  have G1062_1 := G1059_1.wr W1060 c1058_0 (by decide)
  have G1062_2 := G1059_2.wr W1060 c1058_0 (by decide)
  have hk1060 := Nat.le_trans hk1057 (Nat.le_of_eq W1060.size.symm)
  have Z1060 : n0 ≤ h1060.size := Nat.le_trans Z1057 (Nat.le_of_eq W1060.size.symm)
  have K1060 : Keep h0 h1060 [a1] := K1057.wr W1060 (Or.inl (List.mem_of_getElem? (i := 0) rfl))
  have N1060 := Fr.snoc X1060 N1057 g1
  have P1063 : ∀ t, Steps p.tables e below (T1060.setTop (mkF m 46 #[.val (.ref a1), .val r1, .val r2, .val r3] [])) t → Steps p.tables e below (s₁.setTop (entryFrame m #[(.ref a1), r1, r2, r3] 4)) t := fun t k => P1049 t (by
    refine st1050 _ ?_
    show Steps p.tables e below (T1050.setTop (mkF m 24 #[.val (.ref a1), .val r1, .val r2, .val r3] [(.ref a1050)])) _
    refine XS.aloadN X1050.here hx rfl (hb hby d6_24) rfl hr3 ?_
    show Steps p.tables e below (T1050.setTop (mkF m 25 #[.val (.ref a1), .val r1, .val r2, .val r3] [r3, (.ref a1050)])) _
    refine X1050.ldc2Long hx hown (mvT hZ (hw _ (List.mem_of_getElem? (i := 62) rfl))) (g := (mkF m 25 #[.val (.ref a1), .val r1, .val r2, .val r3] [r3, (.ref a1050)])) rfl (hb hby d6_25) _ ?_
    show Steps p.tables e below (T1050.setTop (mkF m 28 #[.val (.ref a1), .val r1, .val r2, .val r3] [(.long (9223372036854775 : Int64)), r3, (.ref a1050)])) _
    refine st1053 _ ?_
    show Steps p.tables e below (T1053.setTop (mkF m 31 #[.val (.ref a1), .val r1, .val r2, .val r3] [])) _
    refine XS.aloadN X1053.here hx rfl (hb hby d6_31) rfl rfl ?_
    show Steps p.tables e below (T1053.setTop (mkF m 32 #[.val (.ref a1), .val r1, .val r2, .val r3] [(.ref a1)])) _
    refine XS.aloadN X1053.here hx rfl (hb hby d6_32) rfl hr1 ?_
    show Steps p.tables e below (T1053.setTop (mkF m 33 #[.val (.ref a1), .val r1, .val r2, .val r3] [r1, (.ref a1)])) _
    refine st1054 _ ?_
    show Steps p.tables e below (T1054.setTop (mkF m 36 #[.val (.ref a1), .val r1, .val r2, .val r3] [])) _
    refine XS.aloadN X1054.here hx rfl (hb hby d6_36) rfl rfl ?_
    show Steps p.tables e below (T1054.setTop (mkF m 37 #[.val (.ref a1), .val r1, .val r2, .val r3] [(.ref a1)])) _
    refine XS.aloadN X1054.here hx rfl (hb hby d6_37) rfl hr2 ?_
    show Steps p.tables e below (T1054.setTop (mkF m 38 #[.val (.ref a1), .val r1, .val r2, .val r3] [r2, (.ref a1)])) _
    refine st1057 _ ?_
    show Steps p.tables e below (T1057.setTop (mkF m 41 #[.val (.ref a1), .val r1, .val r2, .val r3] [])) _
    refine XS.aloadN X1057.here hx rfl (hb hby d6_41) rfl rfl ?_
    show Steps p.tables e below (T1057.setTop (mkF m 42 #[.val (.ref a1), .val r1, .val r2, .val r3] [(.ref a1)])) _
    refine XS.aloadN X1057.here hx rfl (hb hby d6_42) rfl hr3 ?_
    show Steps p.tables e below (T1057.setTop (mkF m 43 #[.val (.ref a1), .val r1, .val r2, .val r3] [r3, (.ref a1)])) _
    refine st1060 _ ?_
    show Steps p.tables e below (T1060.setTop (mkF m 46 #[.val (.ref a1), .val r1, .val r2, .val r3] [])) _
    exact k)
  obtain ⟨fs, hr, hrun, hended, hRW⟩ := Jvm.Stand.leaveW (s := s) (vm₁ := T1050.vm) X1060 S1050 (show _ ≤ T1060.heap.size by rw [e1060]; exact hk1060) (v := none) (fun _ => rfl)
  refine ⟨_, _, P1063 _ ?_, hrun, hended, _, _, rfl, ?_, hRW.1, hRW.2.1, hRW.2.2.1, hRW.2.2.2.mono (by decide) (by decide)⟩
  · exact X1060.returnOut hx Bd.returns (hb hby d6_46) hr
  · show Q_rinit Z a1 r1 r2 r3 q1 q2 q3 h0 n0 _ T1060.heap _
    rw [e1060]
    exact ⟨rfl, N1060, K1060, c1061_0, Fw1060, G1062_2⟩
theorem ef_mil (m : MethodId) (x0 : Addr) : entryFrame m #[(.ref x0)] 1 = mkF m 0 #[.val (.ref x0)] [] := by first | (simp [entryFrame, mkF, argsToLocals, Value.category]; done) | rfl
def Q_mil (Z : State) (a1 : Addr) (r3 : Value) (q3 : Int64) (h0 : Heap) (n0 : Nat) (v : Option Value) (h : Heap) (L : List Loc) : Prop := ∃ m : Int64, v = some (.long m) ∧ Fr n0 L ∧ h = h0 ∧ ((r3 = .null ∧ m = (9223372036854775807 : Int64)) ∨ ∃ a, r3 = .ref a ∧ m = q3 * (1000 : Int64))
theorem d10_0 : decode prog_40_method_5_code 0 = .ok (.aload_n 0, 1) := by decide +kernel
theorem d10_1 : decode prog_40_method_5_code 1 = .ok (.getfield 32, 3) := by decide +kernel
theorem d10_4 : decode prog_40_method_5_code 4 = .ok (.ifnonnull 9, 3) := by decide +kernel
theorem d10_7 : decode prog_40_method_5_code 7 = .ok (.ldc2_w 11, 3) := by decide +kernel
theorem d10_10 : decode prog_40_method_5_code 10 = .ok (.goto 14, 3) := by decide +kernel
theorem d10_24 : decode prog_40_method_5_code 24 = .ok (.lreturn, 1) := by decide +kernel
theorem d10_13 : decode prog_40_method_5_code 13 = .ok (.aload_n 0, 1) := by decide +kernel
theorem d10_14 : decode prog_40_method_5_code 14 = .ok (.getfield 32, 3) := by decide +kernel
theorem d10_17 : decode prog_40_method_5_code 17 = .ok (.invokevirtual 35, 3) := by decide +kernel
theorem d10_20 : decode prog_40_method_5_code 20 = .ok (.ldc2_w 81, 3) := by decide +kernel
theorem d10_23 : decode prog_40_method_5_code 23 = .ok (.lmul, 1) := by decide +kernel
set_option maxRecDepth 65536 in
set_option maxHeartbeats 40000000 in
theorem rm_mil (l : Launch) (Z : State) (a0 : Array Value) (hw : ∀ d ∈ tables_1, d.before a0 Z = true) (ws : List Jvm.Cond) (a1 : Addr) (r3 : Value) (q3 : Int64) (h0 : Heap) (n0 : Nat) (Z0 : n0 ≤ h0.size) (F1 : Fld Z h0 a1 "com/example/hale_pubsub/halepubsub/core/Retention" "maxAgeSeconds" "Ljava/lang/Long;" r3) (G3 : own_box Z h0 r3 q3) :
    MetFree l (⟨"com/example/hale_pubsub/halepubsub/core/Retention", "maxAgeMillis", "()J"⟩ : MethodName) (head1 (Jvm.Cond.code (⟨"com/example/hale_pubsub/halepubsub/core/Retention", "maxAgeMillis", "()J"⟩ : MethodName) prog_40_method_5_code 1 (some .long) :: ws) ({ frames := 1, cells := 0, slots := 0, locals := 12 } : Room)) (fun a U => a = #[(.ref a1)] ∧ Z.Warmed39 U.vm ∧ U.heap = h0) (fun _ _ _ _ _ => True) (fun _ U o U' => ∃ v L, o = .returned v ∧ Q_mil Z a1 r3 q3 h0 n0 v U'.heap L ∧ FrameEnd U o U' L ({ frames := 1, cells := 0, slots := 0, locals := 12 } : Room).cells ({ frames := 1, cells := 0, slots := 0, locals := 12 } : Room).slots) := by
  refine MetFree.of_bodySF (plainFor_of_name pn_3) hisR ?_
  intro p e s m args below meth c s₁ Bd hml0 hP hK
  obtain ⟨rfl, hZ, hh⟩ := hP
  have hx := Bd.exec
  have hby := Bd.bytes
  have hml : c.maxLocals = 1 := hml0
  have hown : s.vm.findClass "com/example/hale_pubsub/halepubsub/core/Retention" = some m.cls := findClass_of_methodNamed Bd.named
  have hnm := (name_of_methodNamed Bd.named Bd.method).1
  have X0 : Stand p l e ({ frames := 1, cells := 0, slots := 0, locals := 12 } : Room) s m #[(.ref a1)] below meth c s₁ [] 0 0 := Stand.of_body Bd
  have e0 : s₁.heap = h0 := by rw [← hh, Bd.state]; rfl
  have N0 := Fr.nil n0
  have K0 : Keep h0 h0 [] := Keep.refl h0 []
  have P0 : ∀ t, Steps p.tables e below (s₁.setTop (mkF m 0 #[.val (.ref a1)] [])) t → Steps p.tables e below (s₁.setTop (entryFrame m #[(.ref a1)] 1)) t := fun t k => castTop (ef_mil m a1) k
  rcases G3 with rfl | ⟨a2, rfl, E2, F2⟩
  · obtain ⟨T1064, X1064, e1064, st1064⟩ := getF X0 hx hZ hown (host := "") (Or.inl (hw _ (List.mem_of_getElem? (i := 67) rfl))) Via.refl e0 F1 (g := (mkF m 1 #[.val (.ref a1)] [(.ref a1)])) rfl rfl (hb hby d10_1)
    have P1065 : ∀ t, Steps p.tables e below (T1064.setTop (mkF m 24 #[.val (.ref a1)] [(.long (9223372036854775807 : Int64))])) t → Steps p.tables e below (s₁.setTop (entryFrame m #[(.ref a1)] 1)) t := fun t k => P0 t (by
      refine XS.aloadN X0.here hx rfl (hb hby d10_0) rfl rfl ?_
      show Steps p.tables e below (s₁.setTop (mkF m 1 #[.val (.ref a1)] [(.ref a1)])) _
      refine st1064 _ ?_
      show Steps p.tables e below (T1064.setTop (mkF m 4 #[.val (.ref a1)] [.null])) _
      refine XS.ifnonnullNo X1064.here hx rfl (hb hby d10_4) rfl ?_
      show Steps p.tables e below (T1064.setTop (mkF m 7 #[.val (.ref a1)] [])) _
      refine X1064.ldc2Long hx hown (mvT hZ (hw _ (List.mem_of_getElem? (i := 51) rfl))) (g := (mkF m 7 #[.val (.ref a1)] [])) rfl (hb hby d10_7) _ ?_
      show Steps p.tables e below (T1064.setTop (mkF m 10 #[.val (.ref a1)] [(.long (9223372036854775807 : Int64))])) _
      refine XS.goto X1064.here hx rfl (pc0 := 10) (pc' := 24) rfl (hb hby d10_10) (by decide) (by decide) ?_
      show Steps p.tables e below (T1064.setTop (mkF m 24 #[.val (.ref a1)] [(.long (9223372036854775807 : Int64))])) _
      exact k)
    obtain ⟨fs, hr, hrun, hended, hW, hsame⟩ := X1064.leave (v := some (.long (9223372036854775807 : Int64))) (fun h => by rw [Bd.returns] at h; cases h)
    refine ⟨_, _, P1065 _ ?_, hrun, hended, _, _, rfl, ?_, ⟨_, rfl⟩, hW, hsame.mono (by decide) (by decide)⟩
    · exact X1064.lreturnOut hx Bd.returns (hb hby d10_24) hr
    · show Q_mil Z a1 _ q3 h0 n0 _ T1064.heap _
      rw [e1064]
      exact ⟨_, rfl, N0, rfl, Or.inl ⟨rfl, rfl⟩⟩
  · obtain ⟨T1066, X1066, e1066, st1066⟩ := getF X0 hx hZ hown (host := "") (Or.inl (hw _ (List.mem_of_getElem? (i := 67) rfl))) Via.refl e0 F1 (g := (mkF m 1 #[.val (.ref a1)] [(.ref a1)])) rfl rfl (hb hby d10_1)
    obtain ⟨T1067, X1067, e1067, st1067⟩ := getF X1066 hx hZ hown (host := "") (Or.inl (hw _ (List.mem_of_getElem? (i := 67) rfl))) Via.refl e1066 F1 (g := (mkF m 14 #[.val (.ref a1)] [(.ref a1)])) rfl rfl (hb hby d10_14)
    obtain ⟨cq1068, kq1068, q1068a, q1068b, q1068c⟩ := isOf hZ e1067 E2
    obtain ⟨_, _, ⟨T1068, L1068, k1068, n1068⟩, -, X1068, ⟨Lc1068, hQ1068, l1068, y1068, z1068⟩, st1068⟩ := X1067.virtualBack hx (y := (⟨"java/lang/Long", "longValue", "()J"⟩ : MethodName)) (z := (⟨"java/lang/Long", "longValue", "()J"⟩ : MethodName)) hown (mvT hZ (hw _ (List.mem_of_getElem? (i := 56) rfl))) (mvT hZ (hw _ (List.mem_of_getElem? (i := 57) rfl))) (notFace_of_selects (args := #[]) (mvT hZ (hw _ (List.mem_of_getElem? (i := 59) rfl)))) (mvT hZ (hw _ (List.mem_of_getElem? (i := 59) rfl))) (mvT hZ (hw _ (List.mem_of_getElem? (i := 58) rfl))) (by decide) (backOf (W := 0) (rm_lval l Z a0 hw [] a2 q3 h0 n0 Z0 F2) hZ (hw _ (List.mem_of_getElem? (i := 60) rfl)) (hw _ (List.mem_of_getElem? (i := 8) rfl)) (by decide) (by decide)) q1068a q1068c (g := (mkF m 17 #[.val (.ref a1)] [(.ref a2)])) rfl (by rw [hml]; rfl) (Steps.refl _) (argsL := []) (rest := []) (lenOf pd_2 rfl) rfl (by show 2 * 0 + _ ≤ _; exact Nat.le_of_eq rfl) (hb hby d10_17) (fun _ _ => ⟨rfl, e1067, (by decide : 0 + 0 ≤ _), (by decide : 0 + 0 ≤ _)⟩)
    dsimp only [Pt.U, Pt.locs, Pt.cells, Pt.slots] at X1068 l1068 y1068 z1068 st1068 hQ1068
    subst l1068 y1068 z1068
    obtain ⟨rfl, N1068q, e17⟩ := hQ1068
    have N1068 := Fr.app N0 N1068q
    have P1069 : ∀ t, Steps p.tables e below (T1068.setTop (mkF m 24 #[.val (.ref a1)] [(.long (q3 * (1000 : Int64)))])) t → Steps p.tables e below (s₁.setTop (entryFrame m #[(.ref a1)] 1)) t := fun t k => P0 t (by
      refine XS.aloadN X0.here hx rfl (hb hby d10_0) rfl rfl ?_
      show Steps p.tables e below (s₁.setTop (mkF m 1 #[.val (.ref a1)] [(.ref a1)])) _
      refine st1066 _ ?_
      show Steps p.tables e below (T1066.setTop (mkF m 4 #[.val (.ref a1)] [(.ref a2)])) _
      refine XS.ifnonnullYes X1066.here hx rfl (pc0 := 4) (pc' := 13) rfl (hb hby d10_4) rfl (by decide) (by decide) ?_
      show Steps p.tables e below (T1066.setTop (mkF m 13 #[.val (.ref a1)] [])) _
      refine XS.aloadN X1066.here hx rfl (hb hby d10_13) rfl rfl ?_
      show Steps p.tables e below (T1066.setTop (mkF m 14 #[.val (.ref a1)] [(.ref a1)])) _
      refine st1067 _ ?_
      show Steps p.tables e below (T1067.setTop (mkF m 17 #[.val (.ref a1)] [(.ref a2)])) _
      refine st1068.trans ?_
      show Steps p.tables e below (T1068.setTop (mkF m 20 #[.val (.ref a1)] [(.long q3)])) _
      refine X1068.ldc2Long hx hown (mvT hZ (hw _ (List.mem_of_getElem? (i := 74) rfl))) (g := (mkF m 20 #[.val (.ref a1)] [(.long q3)])) rfl (hb hby d10_20) _ ?_
      show Steps p.tables e below (T1068.setTop (mkF m 23 #[.val (.ref a1)] [(.long (1000 : Int64)), (.long q3)])) _
      refine XS.lmul X1068.here hx rfl (hb hby d10_23) rfl ?_
      show Steps p.tables e below (T1068.setTop (mkF m 24 #[.val (.ref a1)] [(.long (q3 * (1000 : Int64)))])) _
      exact k)
    obtain ⟨fs, hr, hrun, hended, hW, hsame⟩ := X1068.leave (v := some (.long (q3 * (1000 : Int64)))) (fun h => by rw [Bd.returns] at h; cases h)
    refine ⟨_, _, P1069 _ ?_, hrun, hended, _, _, rfl, ?_, ⟨_, rfl⟩, hW, hsame.mono (by decide) (by decide)⟩
    · exact X1068.lreturnOut hx Bd.returns (hb hby d10_24) hr
    · show Q_mil Z a1 _ q3 h0 n0 _ T1068.heap _
      rw [e17]
      exact ⟨_, rfl, N1068, rfl, Or.inr ⟨a2, rfl, rfl⟩⟩
theorem ef_law (m : MethodId) (x0 : Int64) (x1 : Int64) (x2 : Int64) (x3 : Int32) : entryFrame m #[(.long x0), (.long x1), (.long x2), (.int x3)] maxLocals = mkF m 0 #[.val (.long x0), .second, .val (.long x1), .second, .val (.long x2), .second, .val (.int x3), .unset, .unset, .unset, .unset, .unset, .unset, .unset, .unset, .unset, .unset, .unset, .unset] [] := by first | (simp [entryFrame, mkF, argsToLocals, Value.category, maxLocals]; done) | rfl
def Q_law (Z : State) (q1 : Int64) (q2 : Int64) (q3 : Int64) (u1 : Int32) (ca : Addr) (cc : Cell) (h0 : Heap) (n0 : Nat) (v : Option Value) (h : Heap) (L : List Loc) : Prop := v = some (.int 1) ∧ Fr n0 L
theorem pn_4 : plainName "com/example/hale_pubsub/halepubsub/core/RetentionMaxAgeMillisPinLaw" = true := by first | (simp [plainName, overriddenIn]; done) | decide +kernel
theorem pd_4 : parseMethodDescriptor "(JJ)J" = some ⟨[.long, .long], some .long⟩ := by decide +kernel
theorem pd_5 : parseMethodDescriptor "(J)Ljava/lang/Long;" = some ⟨[.long], some (.object "java/lang/Long")⟩ := by decide +kernel
theorem pd_6 : parseMethodDescriptor "(Ljava/lang/Long;Ljava/lang/Long;Ljava/lang/Long;)V" = some ⟨[(.object "java/lang/Long"), (.object "java/lang/Long"), (.object "java/lang/Long")], none⟩ := by decide +kernel
set_option maxRecDepth 65536 in
set_option maxHeartbeats 40000000 in
theorem rm_law (l : Launch) (Z : State) (a0 : Array Value) (hw : ∀ d ∈ tables_1, d.before a0 Z = true) (ws : List Jvm.Cond) (q1 : Int64) (q2 : Int64) (q3 : Int64) (u1 : Int32) (ca : Addr) (cc : Cell) (h0 : Heap) (n0 : Nat) (Z0 : n0 ≤ h0.size) (Sc : Sta Z Z.heap "java/lang/Long$LongCache" "cache" "[Ljava/lang/Long;" (.ref ca)) (Bx : Bxs Z ca cc "java/lang/Long" "J" (256 : Int32) (fun j => .long (j - (128 : Int32)).toInt64)) (O1 : Old Z n0 h0) :
    MetFree l x (head1 (Jvm.Cond.code x code maxLocals ret :: ws) room_1) (fun a U => a = #[(.long q1), (.long q2), (.long q3), (.int u1)] ∧ Z.Warmed39 U.vm ∧ U.heap = h0) (fun _ _ _ _ _ => True) (fun _ U o U' => ∃ v L, o = .returned v ∧ Q_law Z q1 q2 q3 u1 ca cc h0 n0 v U'.heap L ∧ ReturnedEndW U o U' L room_1.cells room_1.slots) := by
  refine MetFree.of_bodySF (plainFor_of_name pn_4) hisR ?_
  intro p e s m args below meth c s₁ Bd hml0 hP hK
  obtain ⟨rfl, hZ, hh⟩ := hP
  have hx := Bd.exec
  have hby := Bd.bytes
  have hml : c.maxLocals = 19 := hml0
  have hown : s.vm.findClass "com/example/hale_pubsub/halepubsub/core/RetentionMaxAgeMillisPinLaw" = some m.cls := findClass_of_methodNamed Bd.named
  have hnm := (name_of_methodNamed Bd.named Bd.method).1
  have X0 : Stand p l e room_1 s m #[(.long q1), (.long q2), (.long q3), (.int u1)] below meth c s₁ [] 0 0 := Stand.of_body Bd
  have e0 : s₁.heap = h0 := by rw [← hh, Bd.state]; rfl
  have N0 := Fr.nil n0
  have K0 : Keep h0 h0 [] := Keep.refl h0 []
  have P0 : ∀ t, Steps p.tables e below (s₁.setTop (mkF m 0 #[.val (.long q1), .second, .val (.long q2), .second, .val (.long q3), .second, .val (.int u1), .unset, .unset, .unset, .unset, .unset, .unset, .unset, .unset, .unset, .unset, .unset, .unset] [])) t → Steps p.tables e below (s₁.setTop (entryFrame m #[(.long q1), (.long q2), (.long q3), (.int u1)] maxLocals)) t := fun t k => castTop (ef_law m q1 q2 q3 u1) k
  have hS0 : s.Since s.vm h0.size := (State.WarmedH.refl s).since _
  have hk0 := Nat.le_refl h0.size
  have hs1 := own_sec q1
  have P1070 : ∀ t, Steps p.tables e below (s₁.setTop (mkF m 13 #[.val (.long q1), .second, .val (.long q2), .second, .val (.long q3), .second, .val (.int u1), .val (.long (((q1 &&& (9223372036854775807 : Int64)) % (9223372036854775 : Int64)) + (1 : Int64))), .second, .unset, .unset, .unset, .unset, .unset, .unset, .unset, .unset, .unset, .unset] [])) t → Steps p.tables e below (s₁.setTop (entryFrame m #[(.long q1), (.long q2), (.long q3), (.int u1)] maxLocals)) t := fun t k => P0 t (by
    refine XS.lloadN X0.here hx rfl (hb hby at_0) rfl ?_
    show Steps p.tables e below (s₁.setTop (mkF m 1 #[.val (.long q1), .second, .val (.long q2), .second, .val (.long q3), .second, .val (.int u1), .unset, .unset, .unset, .unset, .unset, .unset, .unset, .unset, .unset, .unset, .unset, .unset] [(.long q1)])) _
    refine X0.ldc2Long hx hown (mvT hZ (hw _ (List.mem_of_getElem? (i := 0) rfl))) (g := (mkF m 1 #[.val (.long q1), .second, .val (.long q2), .second, .val (.long q3), .second, .val (.int u1), .unset, .unset, .unset, .unset, .unset, .unset, .unset, .unset, .unset, .unset, .unset, .unset] [(.long q1)])) rfl (hb hby at_1) _ ?_
    show Steps p.tables e below (s₁.setTop (mkF m 4 #[.val (.long q1), .second, .val (.long q2), .second, .val (.long q3), .second, .val (.int u1), .unset, .unset, .unset, .unset, .unset, .unset, .unset, .unset, .unset, .unset, .unset, .unset] [(.long (9223372036854775807 : Int64)), (.long q1)])) _
    refine XS.land X0.here hx rfl (hb hby at_4) rfl ?_
    show Steps p.tables e below (s₁.setTop (mkF m 5 #[.val (.long q1), .second, .val (.long q2), .second, .val (.long q3), .second, .val (.int u1), .unset, .unset, .unset, .unset, .unset, .unset, .unset, .unset, .unset, .unset, .unset, .unset] [(.long (q1 &&& (9223372036854775807 : Int64)))])) _
    refine X0.ldc2Long hx hown (mvT hZ (hw _ (List.mem_of_getElem? (i := 1) rfl))) (g := (mkF m 5 #[.val (.long q1), .second, .val (.long q2), .second, .val (.long q3), .second, .val (.int u1), .unset, .unset, .unset, .unset, .unset, .unset, .unset, .unset, .unset, .unset, .unset, .unset] [(.long (q1 &&& (9223372036854775807 : Int64)))])) rfl (hb hby at_5) _ ?_
    show Steps p.tables e below (s₁.setTop (mkF m 8 #[.val (.long q1), .second, .val (.long q2), .second, .val (.long q3), .second, .val (.int u1), .unset, .unset, .unset, .unset, .unset, .unset, .unset, .unset, .unset, .unset, .unset, .unset] [(.long (9223372036854775 : Int64)), (.long (q1 &&& (9223372036854775807 : Int64)))])) _
    refine XS.lrem X0.here hx rfl (hb hby at_8) rfl (by decide) ?_
    rw [lrem_mod]
    show Steps p.tables e below (s₁.setTop (mkF m 9 #[.val (.long q1), .second, .val (.long q2), .second, .val (.long q3), .second, .val (.int u1), .unset, .unset, .unset, .unset, .unset, .unset, .unset, .unset, .unset, .unset, .unset, .unset] [(.long ((q1 &&& (9223372036854775807 : Int64)) % (9223372036854775 : Int64)))])) _
    refine XS.lconst X0.here hx rfl (hb hby at_9) ?_
    show Steps p.tables e below (s₁.setTop (mkF m 10 #[.val (.long q1), .second, .val (.long q2), .second, .val (.long q3), .second, .val (.int u1), .unset, .unset, .unset, .unset, .unset, .unset, .unset, .unset, .unset, .unset, .unset, .unset] [(.long (1 : Int64)), (.long ((q1 &&& (9223372036854775807 : Int64)) % (9223372036854775 : Int64)))])) _
    refine XS.ladd X0.here hx rfl (hb hby at_10) rfl ?_
    show Steps p.tables e below (s₁.setTop (mkF m 11 #[.val (.long q1), .second, .val (.long q2), .second, .val (.long q3), .second, .val (.int u1), .unset, .unset, .unset, .unset, .unset, .unset, .unset, .unset, .unset, .unset, .unset, .unset] [(.long (((q1 &&& (9223372036854775807 : Int64)) % (9223372036854775 : Int64)) + (1 : Int64)))])) _
    refine XS.lstore X0.here hx rfl (hb hby at_11) rfl (l' := #[.val (.long q1), .second, .val (.long q2), .second, .val (.long q3), .second, .val (.int u1), .val (.long (((q1 &&& (9223372036854775807 : Int64)) % (9223372036854775 : Int64)) + (1 : Int64))), .second, .unset, .unset, .unset, .unset, .unset, .unset, .unset, .unset, .unset, .unset]) rfl ?_
    show Steps p.tables e below (s₁.setTop (mkF m 13 #[.val (.long q1), .second, .val (.long q2), .second, .val (.long q3), .second, .val (.int u1), .val (.long (((q1 &&& (9223372036854775807 : Int64)) % (9223372036854775 : Int64)) + (1 : Int64))), .second, .unset, .unset, .unset, .unset, .unset, .unset, .unset, .unset, .unset, .unset] [])) _
    exact k)
  obtain ⟨v1, hv1⟩ : ∃ z, z = (((q1 &&& (9223372036854775807 : Int64)) % (9223372036854775 : Int64)) + (1 : Int64)) := ⟨_, rfl⟩
  rw [← hv1] at P1070
  rw [← hv1] at hs1
  obtain ⟨_, _, ⟨T1071, L1071, k1071, n1071⟩, -, X1071, ⟨Lc1071, hQ1071, l1071, y1071, z1071⟩, st1071⟩ := Jvm.LawKit.callS X0 hx (y := (⟨"java/lang/Math", "max", "(JJ)J"⟩ : MethodName)) hown (mvT hZ (hw _ (List.mem_of_getElem? (i := 2) rfl))) (mvT hZ (hw _ (List.mem_of_getElem? (i := 3) rfl))) (mvT hZ (hw _ (List.mem_of_getElem? (i := 4) rfl))) (mvT hZ (hw _ (List.mem_of_getElem? (i := 5) rfl))) (by decide) (backOf (W := 0) (rm_max l Z a0 hw [] (1 : Int64) (q2 &&& (9223372036854775807 : Int64)) h0 n0 Z0 ) hZ (hw _ (List.mem_of_getElem? (i := 5) rfl)) (hw _ (List.mem_of_getElem? (i := 4) rfl)) (by decide) (by decide)) (g := (mkF m 19 #[.val (.long q1), .second, .val (.long q2), .second, .val (.long q3), .second, .val (.int u1), .val (.long v1), .second, .unset, .unset, .unset, .unset, .unset, .unset, .unset, .unset, .unset, .unset] [(.long (q2 &&& (9223372036854775807 : Int64))), (.long (1 : Int64))])) rfl (by rw [hml]; rfl) (argsL := [(.long (1 : Int64)), (.long (q2 &&& (9223372036854775807 : Int64)))]) (rest := []) (lenOf pd_4 rfl) rfl (by show 2 * 0 + _ ≤ _; exact Nat.le_of_eq rfl) (hb hby at_19) (fun _ _ => ⟨rfl, e0, (by decide : 0 + 0 ≤ _), (by decide : 0 + 0 ≤ _)⟩)
  dsimp only [Pt.U, Pt.locs, Pt.cells, Pt.slots] at X1071 l1071 y1071 z1071 st1071 hQ1071
  subst l1071 y1071 z1071
  obtain ⟨v2, rfl, N1071q, e19, hv2⟩ := hQ1071
  have N1071 := Fr.app N0 N1071q
  obtain ⟨_, _, ⟨T1072, L1072, k1072, n1072⟩, -, X1072, ⟨Lc1072, hQ1072, l1072, y1072, z1072⟩, st1072⟩ := Jvm.LawKit.callS X1071 hx (y := (⟨"java/lang/Math", "max", "(JJ)J"⟩ : MethodName)) hown (mvT hZ (hw _ (List.mem_of_getElem? (i := 2) rfl))) (mvT hZ (hw _ (List.mem_of_getElem? (i := 3) rfl))) (mvT hZ (hw _ (List.mem_of_getElem? (i := 4) rfl))) (mvT hZ (hw _ (List.mem_of_getElem? (i := 5) rfl))) (by decide) (backOf (W := 0) (rm_max l Z a0 hw [] (1 : Int64) (q3 &&& (9223372036854775807 : Int64)) h0 n0 Z0 ) hZ (hw _ (List.mem_of_getElem? (i := 5) rfl)) (hw _ (List.mem_of_getElem? (i := 4) rfl)) (by decide) (by decide)) (g := (mkF m 31 #[.val (.long q1), .second, .val (.long q2), .second, .val (.long q3), .second, .val (.int u1), .val (.long v1), .second, .val (.long v2), .second, .unset, .unset, .unset, .unset, .unset, .unset, .unset, .unset] [(.long (q3 &&& (9223372036854775807 : Int64))), (.long (1 : Int64))])) rfl (by rw [hml]; rfl) (argsL := [(.long (1 : Int64)), (.long (q3 &&& (9223372036854775807 : Int64)))]) (rest := []) (lenOf pd_4 rfl) rfl (by show 2 * 0 + _ ≤ _; exact Nat.le_of_eq rfl) (hb hby at_31) (fun _ _ => ⟨rfl, e19, (by decide : 0 + 0 ≤ _), (by decide : 0 + 0 ≤ _)⟩)
  dsimp only [Pt.U, Pt.locs, Pt.cells, Pt.slots] at X1072 l1072 y1072 z1072 st1072 hQ1072
  subst l1072 y1072 z1072
  obtain ⟨v3, rfl, N1072q, e31, hv3⟩ := hQ1072
  have N1072 := Fr.app N1071 N1072q
  have P1073 : ∀ t, Steps p.tables e below (T1072.setTop (mkF m 40 #[.val (.long q1), .second, .val (.long q2), .second, .val (.long q3), .second, .val (.int u1), .val (.long v1), .second, .val (.long v2), .second, .val (.long v3), .second, .unset, .unset, .unset, .unset, .unset, .unset] [(.int (u1 &&& (1 : Int32)))])) t → Steps p.tables e below (s₁.setTop (entryFrame m #[(.long q1), (.long q2), (.long q3), (.int u1)] maxLocals)) t := fun t k => P1070 t (by
    refine XS.lconst X0.here hx rfl (hb hby at_13) ?_
    show Steps p.tables e below (s₁.setTop (mkF m 14 #[.val (.long q1), .second, .val (.long q2), .second, .val (.long q3), .second, .val (.int u1), .val (.long v1), .second, .unset, .unset, .unset, .unset, .unset, .unset, .unset, .unset, .unset, .unset] [(.long (1 : Int64))])) _
    refine XS.lloadN X0.here hx rfl (hb hby at_14) rfl ?_
    show Steps p.tables e below (s₁.setTop (mkF m 15 #[.val (.long q1), .second, .val (.long q2), .second, .val (.long q3), .second, .val (.int u1), .val (.long v1), .second, .unset, .unset, .unset, .unset, .unset, .unset, .unset, .unset, .unset, .unset] [(.long q2), (.long (1 : Int64))])) _
    refine X0.ldc2Long hx hown (mvT hZ (hw _ (List.mem_of_getElem? (i := 0) rfl))) (g := (mkF m 15 #[.val (.long q1), .second, .val (.long q2), .second, .val (.long q3), .second, .val (.int u1), .val (.long v1), .second, .unset, .unset, .unset, .unset, .unset, .unset, .unset, .unset, .unset, .unset] [(.long q2), (.long (1 : Int64))])) rfl (hb hby at_15) _ ?_
    show Steps p.tables e below (s₁.setTop (mkF m 18 #[.val (.long q1), .second, .val (.long q2), .second, .val (.long q3), .second, .val (.int u1), .val (.long v1), .second, .unset, .unset, .unset, .unset, .unset, .unset, .unset, .unset, .unset, .unset] [(.long (9223372036854775807 : Int64)), (.long q2), (.long (1 : Int64))])) _
    refine XS.land X0.here hx rfl (hb hby at_18) rfl ?_
    show Steps p.tables e below (s₁.setTop (mkF m 19 #[.val (.long q1), .second, .val (.long q2), .second, .val (.long q3), .second, .val (.int u1), .val (.long v1), .second, .unset, .unset, .unset, .unset, .unset, .unset, .unset, .unset, .unset, .unset] [(.long (q2 &&& (9223372036854775807 : Int64))), (.long (1 : Int64))])) _
    refine st1071 _ ?_
    show Steps p.tables e below (T1071.setTop (mkF m 22 #[.val (.long q1), .second, .val (.long q2), .second, .val (.long q3), .second, .val (.int u1), .val (.long v1), .second, .unset, .unset, .unset, .unset, .unset, .unset, .unset, .unset, .unset, .unset] [(.long v2)])) _
    refine XS.lstore X1071.here hx rfl (hb hby at_22) rfl (l' := #[.val (.long q1), .second, .val (.long q2), .second, .val (.long q3), .second, .val (.int u1), .val (.long v1), .second, .val (.long v2), .second, .unset, .unset, .unset, .unset, .unset, .unset, .unset, .unset]) rfl ?_
    show Steps p.tables e below (T1071.setTop (mkF m 24 #[.val (.long q1), .second, .val (.long q2), .second, .val (.long q3), .second, .val (.int u1), .val (.long v1), .second, .val (.long v2), .second, .unset, .unset, .unset, .unset, .unset, .unset, .unset, .unset] [])) _
    refine XS.lconst X1071.here hx rfl (hb hby at_24) ?_
    show Steps p.tables e below (T1071.setTop (mkF m 25 #[.val (.long q1), .second, .val (.long q2), .second, .val (.long q3), .second, .val (.int u1), .val (.long v1), .second, .val (.long v2), .second, .unset, .unset, .unset, .unset, .unset, .unset, .unset, .unset] [(.long (1 : Int64))])) _
    refine XS.lload X1071.here hx rfl (hb hby at_25) rfl ?_
    show Steps p.tables e below (T1071.setTop (mkF m 27 #[.val (.long q1), .second, .val (.long q2), .second, .val (.long q3), .second, .val (.int u1), .val (.long v1), .second, .val (.long v2), .second, .unset, .unset, .unset, .unset, .unset, .unset, .unset, .unset] [(.long q3), (.long (1 : Int64))])) _
    refine X1071.ldc2Long hx hown (mvT hZ (hw _ (List.mem_of_getElem? (i := 0) rfl))) (g := (mkF m 27 #[.val (.long q1), .second, .val (.long q2), .second, .val (.long q3), .second, .val (.int u1), .val (.long v1), .second, .val (.long v2), .second, .unset, .unset, .unset, .unset, .unset, .unset, .unset, .unset] [(.long q3), (.long (1 : Int64))])) rfl (hb hby at_27) _ ?_
    show Steps p.tables e below (T1071.setTop (mkF m 30 #[.val (.long q1), .second, .val (.long q2), .second, .val (.long q3), .second, .val (.int u1), .val (.long v1), .second, .val (.long v2), .second, .unset, .unset, .unset, .unset, .unset, .unset, .unset, .unset] [(.long (9223372036854775807 : Int64)), (.long q3), (.long (1 : Int64))])) _
    refine XS.land X1071.here hx rfl (hb hby at_30) rfl ?_
    show Steps p.tables e below (T1071.setTop (mkF m 31 #[.val (.long q1), .second, .val (.long q2), .second, .val (.long q3), .second, .val (.int u1), .val (.long v1), .second, .val (.long v2), .second, .unset, .unset, .unset, .unset, .unset, .unset, .unset, .unset] [(.long (q3 &&& (9223372036854775807 : Int64))), (.long (1 : Int64))])) _
    refine st1072 _ ?_
    show Steps p.tables e below (T1072.setTop (mkF m 34 #[.val (.long q1), .second, .val (.long q2), .second, .val (.long q3), .second, .val (.int u1), .val (.long v1), .second, .val (.long v2), .second, .unset, .unset, .unset, .unset, .unset, .unset, .unset, .unset] [(.long v3)])) _
    refine XS.lstore X1072.here hx rfl (hb hby at_34) rfl (l' := #[.val (.long q1), .second, .val (.long q2), .second, .val (.long q3), .second, .val (.int u1), .val (.long v1), .second, .val (.long v2), .second, .val (.long v3), .second, .unset, .unset, .unset, .unset, .unset, .unset]) rfl ?_
    show Steps p.tables e below (T1072.setTop (mkF m 36 #[.val (.long q1), .second, .val (.long q2), .second, .val (.long q3), .second, .val (.int u1), .val (.long v1), .second, .val (.long v2), .second, .val (.long v3), .second, .unset, .unset, .unset, .unset, .unset, .unset] [])) _
    refine XS.iload X1072.here hx rfl (hb hby at_36) rfl ?_
    show Steps p.tables e below (T1072.setTop (mkF m 38 #[.val (.long q1), .second, .val (.long q2), .second, .val (.long q3), .second, .val (.int u1), .val (.long v1), .second, .val (.long v2), .second, .val (.long v3), .second, .unset, .unset, .unset, .unset, .unset, .unset] [(.int u1)])) _
    refine XS.iconst X1072.here hx rfl (hb hby at_38) ?_
    show Steps p.tables e below (T1072.setTop (mkF m 39 #[.val (.long q1), .second, .val (.long q2), .second, .val (.long q3), .second, .val (.int u1), .val (.long v1), .second, .val (.long v2), .second, .val (.long v3), .second, .unset, .unset, .unset, .unset, .unset, .unset] [(.int (1 : Int32)), (.int u1)])) _
    refine XS.iand X1072.here hx rfl (hb hby at_39) rfl ?_
    show Steps p.tables e below (T1072.setTop (mkF m 40 #[.val (.long q1), .second, .val (.long q2), .second, .val (.long q3), .second, .val (.int u1), .val (.long v1), .second, .val (.long v2), .second, .val (.long v3), .second, .unset, .unset, .unset, .unset, .unset, .unset] [(.int (u1 &&& (1 : Int32)))])) _
    exact k)
  obtain ⟨T1074, h1074, L1074, r3, X1074, e1074, N1074, K1074, O1074, G1074, P1074⟩ : ∃ (T' : State) (h' : Heap) (Lc' : List Loc) (r' : Value), Stand p l e room_1 s m #[(.long q1), (.long q2), (.long q3), (.int u1)] below meth c T' Lc' 1 1 ∧ T'.heap = h' ∧ Fr n0 Lc' ∧ Keep h0 h' [] ∧ Old Z n0 h' ∧ own_box Z h' r' v1 ∧ (∀ t, Steps p.tables e below (T'.setTop (mkF m 52 #[.val (.long q1), .second, .val (.long q2), .second, .val (.long q3), .second, .val (.int u1), .val (.long v1), .second, .val (.long v2), .second, .val (.long v3), .second, .unset, .unset, .unset, .unset, .unset, .unset] [r'])) t → Steps p.tables e below (s₁.setTop (entryFrame m #[(.long q1), (.long q2), (.long q3), (.int u1)] maxLocals)) t) := by
    by_cases h40 : (u1 &&& (1 : Int32)) = (0 : Int32)
    · obtain ⟨_, _, ⟨T1075, L1075, k1075, n1075⟩, -, X1075, ⟨Lc1075, hQ1075, l1075, y1075, z1075⟩, st1075⟩ := Jvm.LawKit.callS X1072 hx (y := (⟨"java/lang/Long", "valueOf", "(J)Ljava/lang/Long;"⟩ : MethodName)) hown (mvT hZ (hw _ (List.mem_of_getElem? (i := 6) rfl))) (mvT hZ (hw _ (List.mem_of_getElem? (i := 7) rfl))) (mvT hZ (hw _ (List.mem_of_getElem? (i := 8) rfl))) (mvT hZ (hw _ (List.mem_of_getElem? (i := 9) rfl))) (by decide) (backOf (W := 0) (rm_vof l Z a0 hw [] v1 ca cc h0 n0 Z0 Sc Bx O1) hZ (hw _ (List.mem_of_getElem? (i := 9) rfl)) (hw _ (List.mem_of_getElem? (i := 8) rfl)) (by decide) (by decide)) (g := (mkF m 49 #[.val (.long q1), .second, .val (.long q2), .second, .val (.long q3), .second, .val (.int u1), .val (.long v1), .second, .val (.long v2), .second, .val (.long v3), .second, .unset, .unset, .unset, .unset, .unset, .unset] [(.long v1)])) rfl (by rw [hml]; rfl) (argsL := [(.long v1)]) (rest := []) (lenOf pd_5 rfl) rfl (by show 2 * 0 + _ ≤ _; exact Nat.le_of_eq rfl) (hb hby at_49) (fun _ _ => ⟨rfl, e31, (by decide : 0 + 1 ≤ _), (by decide : 0 + 1 ≤ _)⟩)
      dsimp only [Pt.U, Pt.locs, Pt.cells, Pt.slots] at X1075 l1075 y1075 z1075 st1075 hQ1075
      subst l1075 y1075 z1075
      obtain ⟨rb, rfl, N1075q, Kv, Ev, Fv⟩ := hQ1075
      have N1075 := Fr.app N1072 N1075q
      have c1076_0 := O1.keep Kv all0
      have Z1075 : n0 ≤ T1075.heap.size := Nat.le_trans Z0 Kv.1
      have hk1075 := Nat.le_trans hk0 Kv.1
      have K1075 : Keep h0 T1075.heap [] := K0.trans Kv all0
      have P1078 : ∀ t, Steps p.tables e below (T1075.setTop (mkF m 52 #[.val (.long q1), .second, .val (.long q2), .second, .val (.long q3), .second, .val (.int u1), .val (.long v1), .second, .val (.long v2), .second, .val (.long v3), .second, .unset, .unset, .unset, .unset, .unset, .unset] [(.ref rb)])) t → Steps p.tables e below (s₁.setTop (entryFrame m #[(.long q1), (.long q2), (.long q3), (.int u1)] maxLocals)) t := fun t k => P1073 t (by
        refine XS.ifYes X1072.here hx rfl (pc0 := 40) (pc' := 47) rfl (hb hby at_40) rfl ((if0 _ _).trans (teq h40).1) (by decide) (by decide) ?_
        show Steps p.tables e below (T1072.setTop (mkF m 47 #[.val (.long q1), .second, .val (.long q2), .second, .val (.long q3), .second, .val (.int u1), .val (.long v1), .second, .val (.long v2), .second, .val (.long v3), .second, .unset, .unset, .unset, .unset, .unset, .unset] [])) _
        refine XS.lload X1072.here hx rfl (hb hby at_47) rfl ?_
        show Steps p.tables e below (T1072.setTop (mkF m 49 #[.val (.long q1), .second, .val (.long q2), .second, .val (.long q3), .second, .val (.int u1), .val (.long v1), .second, .val (.long v2), .second, .val (.long v3), .second, .unset, .unset, .unset, .unset, .unset, .unset] [(.long v1)])) _
        refine st1075 _ ?_
        show Steps p.tables e below (T1075.setTop (mkF m 52 #[.val (.long q1), .second, .val (.long q2), .second, .val (.long q3), .second, .val (.int u1), .val (.long v1), .second, .val (.long v2), .second, .val (.long v3), .second, .unset, .unset, .unset, .unset, .unset, .unset] [(.ref rb)])) _
        exact k)
      exact ⟨T1075, T1075.heap, _, (.ref rb), X1075.mono (by decide) (by decide), rfl, N1075, K1075, c1076_0, Or.inr ⟨rb, rfl, Ev, Fv⟩, P1078⟩
    · have P1079 : ∀ t, Steps p.tables e below (T1072.setTop (mkF m 52 #[.val (.long q1), .second, .val (.long q2), .second, .val (.long q3), .second, .val (.int u1), .val (.long v1), .second, .val (.long v2), .second, .val (.long v3), .second, .unset, .unset, .unset, .unset, .unset, .unset] [.null])) t → Steps p.tables e below (s₁.setTop (entryFrame m #[(.long q1), (.long q2), (.long q3), (.int u1)] maxLocals)) t := fun t k => P1073 t (by
        refine XS.ifNo X1072.here hx rfl (hb hby at_40) rfl ((if0 _ _).trans (feq h40).1) ?_
        show Steps p.tables e below (T1072.setTop (mkF m 43 #[.val (.long q1), .second, .val (.long q2), .second, .val (.long q3), .second, .val (.int u1), .val (.long v1), .second, .val (.long v2), .second, .val (.long v3), .second, .unset, .unset, .unset, .unset, .unset, .unset] [])) _
        refine XS.aconstNull X1072.here hx rfl (hb hby at_43) ?_
        show Steps p.tables e below (T1072.setTop (mkF m 44 #[.val (.long q1), .second, .val (.long q2), .second, .val (.long q3), .second, .val (.int u1), .val (.long v1), .second, .val (.long v2), .second, .val (.long v3), .second, .unset, .unset, .unset, .unset, .unset, .unset] [.null])) _
        refine XS.goto X1072.here hx rfl (pc0 := 44) (pc' := 52) rfl (hb hby at_44) (by decide) (by decide) ?_
        show Steps p.tables e below (T1072.setTop (mkF m 52 #[.val (.long q1), .second, .val (.long q2), .second, .val (.long q3), .second, .val (.int u1), .val (.long v1), .second, .val (.long v2), .second, .val (.long v3), .second, .unset, .unset, .unset, .unset, .unset, .unset] [.null])) _
        exact k)
      exact ⟨T1072, h0, _, .null, X1072.mono (by decide) (by decide), e31, N1072, K0, O1, Or.inl rfl, P1079⟩
  have hr3 := G1074.ref
  have Z1074 : n0 ≤ h1074.size := Nat.le_trans Z0 K1074.1
  have hk1074 : h0.size ≤ h1074.size := K1074.1
  have P1080 : ∀ t, Steps p.tables e below (T1074.setTop (mkF m 58 #[.val (.long q1), .second, .val (.long q2), .second, .val (.long q3), .second, .val (.int u1), .val (.long v1), .second, .val (.long v2), .second, .val (.long v3), .second, .val r3, .unset, .unset, .unset, .unset, .unset] [(.int (u1 &&& (2 : Int32)))])) t → Steps p.tables e below (s₁.setTop (entryFrame m #[(.long q1), (.long q2), (.long q3), (.int u1)] maxLocals)) t := fun t k => P1074 t (by
    refine XS.astore X1074.here hx rfl (hb hby at_52) rfl hr3 (l' := #[.val (.long q1), .second, .val (.long q2), .second, .val (.long q3), .second, .val (.int u1), .val (.long v1), .second, .val (.long v2), .second, .val (.long v3), .second, .val r3, .unset, .unset, .unset, .unset, .unset]) ((XS.store1 (v := r3) rfl (Or.inl rfl) (cat_ref hr3)).trans rfl) ?_
    show Steps p.tables e below (T1074.setTop (mkF m 54 #[.val (.long q1), .second, .val (.long q2), .second, .val (.long q3), .second, .val (.int u1), .val (.long v1), .second, .val (.long v2), .second, .val (.long v3), .second, .val r3, .unset, .unset, .unset, .unset, .unset] [])) _
    refine XS.iload X1074.here hx rfl (hb hby at_54) rfl ?_
    show Steps p.tables e below (T1074.setTop (mkF m 56 #[.val (.long q1), .second, .val (.long q2), .second, .val (.long q3), .second, .val (.int u1), .val (.long v1), .second, .val (.long v2), .second, .val (.long v3), .second, .val r3, .unset, .unset, .unset, .unset, .unset] [(.int u1)])) _
    refine XS.iconst X1074.here hx rfl (hb hby at_56) ?_
    show Steps p.tables e below (T1074.setTop (mkF m 57 #[.val (.long q1), .second, .val (.long q2), .second, .val (.long q3), .second, .val (.int u1), .val (.long v1), .second, .val (.long v2), .second, .val (.long v3), .second, .val r3, .unset, .unset, .unset, .unset, .unset] [(.int (2 : Int32)), (.int u1)])) _
    refine XS.iand X1074.here hx rfl (hb hby at_57) rfl ?_
    show Steps p.tables e below (T1074.setTop (mkF m 58 #[.val (.long q1), .second, .val (.long q2), .second, .val (.long q3), .second, .val (.int u1), .val (.long v1), .second, .val (.long v2), .second, .val (.long v3), .second, .val r3, .unset, .unset, .unset, .unset, .unset] [(.int (u1 &&& (2 : Int32)))])) _
    exact k)
  obtain ⟨T1081, h1081, L1081, r1, X1081, e1081, N1081, K1081, O1081, G1081, Gk1081_r3, P1081⟩ : ∃ (T' : State) (h' : Heap) (Lc' : List Loc) (r' : Value), Stand p l e room_1 s m #[(.long q1), (.long q2), (.long q3), (.int u1)] below meth c T' Lc' 2 2 ∧ T'.heap = h' ∧ Fr n0 Lc' ∧ Keep h0 h' [] ∧ Old Z n0 h' ∧ own_box Z h' r' v2 ∧ own_box Z h' r3 v1 ∧ (∀ t, Steps p.tables e below (T'.setTop (mkF m 70 #[.val (.long q1), .second, .val (.long q2), .second, .val (.long q3), .second, .val (.int u1), .val (.long v1), .second, .val (.long v2), .second, .val (.long v3), .second, .val r3, .unset, .unset, .unset, .unset, .unset] [r'])) t → Steps p.tables e below (s₁.setTop (entryFrame m #[(.long q1), (.long q2), (.long q3), (.int u1)] maxLocals)) t) := by
    by_cases h58 : (u1 &&& (2 : Int32)) = (0 : Int32)
    · obtain ⟨_, _, ⟨T1082, L1082, k1082, n1082⟩, -, X1082, ⟨Lc1082, hQ1082, l1082, y1082, z1082⟩, st1082⟩ := Jvm.LawKit.callS X1074 hx (y := (⟨"java/lang/Long", "valueOf", "(J)Ljava/lang/Long;"⟩ : MethodName)) hown (mvT hZ (hw _ (List.mem_of_getElem? (i := 6) rfl))) (mvT hZ (hw _ (List.mem_of_getElem? (i := 7) rfl))) (mvT hZ (hw _ (List.mem_of_getElem? (i := 8) rfl))) (mvT hZ (hw _ (List.mem_of_getElem? (i := 9) rfl))) (by decide) (backOf (W := 0) (rm_vof l Z a0 hw [] v2 ca cc h1074 n0 Z1074 Sc Bx O1074) hZ (hw _ (List.mem_of_getElem? (i := 9) rfl)) (hw _ (List.mem_of_getElem? (i := 8) rfl)) (by decide) (by decide)) (g := (mkF m 67 #[.val (.long q1), .second, .val (.long q2), .second, .val (.long q3), .second, .val (.int u1), .val (.long v1), .second, .val (.long v2), .second, .val (.long v3), .second, .val r3, .unset, .unset, .unset, .unset, .unset] [(.long v2)])) rfl (by rw [hml]; rfl) (argsL := [(.long v2)]) (rest := []) (lenOf pd_5 rfl) rfl (by show 2 * 0 + _ ≤ _; exact Nat.le_of_eq rfl) (hb hby at_67) (fun _ _ => ⟨rfl, e1074, (by decide : 1 + 1 ≤ _), (by decide : 1 + 1 ≤ _)⟩)
      dsimp only [Pt.U, Pt.locs, Pt.cells, Pt.slots] at X1082 l1082 y1082 z1082 st1082 hQ1082
      subst l1082 y1082 z1082
      obtain ⟨rb, rfl, N1082q, Kv, Ev, Fv⟩ := hQ1082
      have N1082 := Fr.app N1074 N1082q
      have c1083_0 := O1074.keep Kv all0
      have G1084_0 := G1074.keep0 Kv
      have Z1082 : n0 ≤ T1082.heap.size := Nat.le_trans Z1074 Kv.1
      have hk1082 := Nat.le_trans hk1074 Kv.1
      have K1082 : Keep h0 T1082.heap [] := K1074.trans Kv all0
      have P1085 : ∀ t, Steps p.tables e below (T1082.setTop (mkF m 70 #[.val (.long q1), .second, .val (.long q2), .second, .val (.long q3), .second, .val (.int u1), .val (.long v1), .second, .val (.long v2), .second, .val (.long v3), .second, .val r3, .unset, .unset, .unset, .unset, .unset] [(.ref rb)])) t → Steps p.tables e below (s₁.setTop (entryFrame m #[(.long q1), (.long q2), (.long q3), (.int u1)] maxLocals)) t := fun t k => P1080 t (by
        refine XS.ifYes X1074.here hx rfl (pc0 := 58) (pc' := 65) rfl (hb hby at_58) rfl ((if0 _ _).trans (teq h58).1) (by decide) (by decide) ?_
        show Steps p.tables e below (T1074.setTop (mkF m 65 #[.val (.long q1), .second, .val (.long q2), .second, .val (.long q3), .second, .val (.int u1), .val (.long v1), .second, .val (.long v2), .second, .val (.long v3), .second, .val r3, .unset, .unset, .unset, .unset, .unset] [])) _
        refine XS.lload X1074.here hx rfl (hb hby at_65) rfl ?_
        show Steps p.tables e below (T1074.setTop (mkF m 67 #[.val (.long q1), .second, .val (.long q2), .second, .val (.long q3), .second, .val (.int u1), .val (.long v1), .second, .val (.long v2), .second, .val (.long v3), .second, .val r3, .unset, .unset, .unset, .unset, .unset] [(.long v2)])) _
        refine st1082 _ ?_
        show Steps p.tables e below (T1082.setTop (mkF m 70 #[.val (.long q1), .second, .val (.long q2), .second, .val (.long q3), .second, .val (.int u1), .val (.long v1), .second, .val (.long v2), .second, .val (.long v3), .second, .val r3, .unset, .unset, .unset, .unset, .unset] [(.ref rb)])) _
        exact k)
      exact ⟨T1082, T1082.heap, _, (.ref rb), X1082.mono (by decide) (by decide), rfl, N1082, K1082, c1083_0, Or.inr ⟨rb, rfl, Ev, Fv⟩, G1084_0, P1085⟩
    · have P1086 : ∀ t, Steps p.tables e below (T1074.setTop (mkF m 70 #[.val (.long q1), .second, .val (.long q2), .second, .val (.long q3), .second, .val (.int u1), .val (.long v1), .second, .val (.long v2), .second, .val (.long v3), .second, .val r3, .unset, .unset, .unset, .unset, .unset] [.null])) t → Steps p.tables e below (s₁.setTop (entryFrame m #[(.long q1), (.long q2), (.long q3), (.int u1)] maxLocals)) t := fun t k => P1080 t (by
        refine XS.ifNo X1074.here hx rfl (hb hby at_58) rfl ((if0 _ _).trans (feq h58).1) ?_
        show Steps p.tables e below (T1074.setTop (mkF m 61 #[.val (.long q1), .second, .val (.long q2), .second, .val (.long q3), .second, .val (.int u1), .val (.long v1), .second, .val (.long v2), .second, .val (.long v3), .second, .val r3, .unset, .unset, .unset, .unset, .unset] [])) _
        refine XS.aconstNull X1074.here hx rfl (hb hby at_61) ?_
        show Steps p.tables e below (T1074.setTop (mkF m 62 #[.val (.long q1), .second, .val (.long q2), .second, .val (.long q3), .second, .val (.int u1), .val (.long v1), .second, .val (.long v2), .second, .val (.long v3), .second, .val r3, .unset, .unset, .unset, .unset, .unset] [.null])) _
        refine XS.goto X1074.here hx rfl (pc0 := 62) (pc' := 70) rfl (hb hby at_62) (by decide) (by decide) ?_
        show Steps p.tables e below (T1074.setTop (mkF m 70 #[.val (.long q1), .second, .val (.long q2), .second, .val (.long q3), .second, .val (.int u1), .val (.long v1), .second, .val (.long v2), .second, .val (.long v3), .second, .val r3, .unset, .unset, .unset, .unset, .unset] [.null])) _
        exact k)
      exact ⟨T1074, h1074, _, .null, X1074.mono (by decide) (by decide), e1074, N1074, K1074, O1074, Or.inl rfl, G1074, P1086⟩
  have hr1 := G1081.ref
  have Z1081 : n0 ≤ h1081.size := Nat.le_trans Z0 K1081.1
  have hk1081 : h0.size ≤ h1081.size := K1081.1
  have P1087 : ∀ t, Steps p.tables e below (T1081.setTop (mkF m 76 #[.val (.long q1), .second, .val (.long q2), .second, .val (.long q3), .second, .val (.int u1), .val (.long v1), .second, .val (.long v2), .second, .val (.long v3), .second, .val r3, .val r1, .unset, .unset, .unset, .unset] [(.int (u1 &&& (4 : Int32)))])) t → Steps p.tables e below (s₁.setTop (entryFrame m #[(.long q1), (.long q2), (.long q3), (.int u1)] maxLocals)) t := fun t k => P1081 t (by
    refine XS.astore X1081.here hx rfl (hb hby at_70) rfl hr1 (l' := #[.val (.long q1), .second, .val (.long q2), .second, .val (.long q3), .second, .val (.int u1), .val (.long v1), .second, .val (.long v2), .second, .val (.long v3), .second, .val r3, .val r1, .unset, .unset, .unset, .unset]) ((XS.store1 (v := r1) rfl (Or.inl rfl) (cat_ref hr1)).trans rfl) ?_
    show Steps p.tables e below (T1081.setTop (mkF m 72 #[.val (.long q1), .second, .val (.long q2), .second, .val (.long q3), .second, .val (.int u1), .val (.long v1), .second, .val (.long v2), .second, .val (.long v3), .second, .val r3, .val r1, .unset, .unset, .unset, .unset] [])) _
    refine XS.iload X1081.here hx rfl (hb hby at_72) rfl ?_
    show Steps p.tables e below (T1081.setTop (mkF m 74 #[.val (.long q1), .second, .val (.long q2), .second, .val (.long q3), .second, .val (.int u1), .val (.long v1), .second, .val (.long v2), .second, .val (.long v3), .second, .val r3, .val r1, .unset, .unset, .unset, .unset] [(.int u1)])) _
    refine XS.iconst X1081.here hx rfl (hb hby at_74) ?_
    show Steps p.tables e below (T1081.setTop (mkF m 75 #[.val (.long q1), .second, .val (.long q2), .second, .val (.long q3), .second, .val (.int u1), .val (.long v1), .second, .val (.long v2), .second, .val (.long v3), .second, .val r3, .val r1, .unset, .unset, .unset, .unset] [(.int (4 : Int32)), (.int u1)])) _
    refine XS.iand X1081.here hx rfl (hb hby at_75) rfl ?_
    show Steps p.tables e below (T1081.setTop (mkF m 76 #[.val (.long q1), .second, .val (.long q2), .second, .val (.long q3), .second, .val (.int u1), .val (.long v1), .second, .val (.long v2), .second, .val (.long v3), .second, .val r3, .val r1, .unset, .unset, .unset, .unset] [(.int (u1 &&& (4 : Int32)))])) _
    exact k)
  obtain ⟨T1088, h1088, L1088, r2, X1088, e1088, N1088, K1088, O1088, G1088, Gk1088_r3, Gk1088_r1, P1088⟩ : ∃ (T' : State) (h' : Heap) (Lc' : List Loc) (r' : Value), Stand p l e room_1 s m #[(.long q1), (.long q2), (.long q3), (.int u1)] below meth c T' Lc' 3 3 ∧ T'.heap = h' ∧ Fr n0 Lc' ∧ Keep h0 h' [] ∧ Old Z n0 h' ∧ own_box Z h' r' v3 ∧ own_box Z h' r3 v1 ∧ own_box Z h' r1 v2 ∧ (∀ t, Steps p.tables e below (T'.setTop (mkF m 88 #[.val (.long q1), .second, .val (.long q2), .second, .val (.long q3), .second, .val (.int u1), .val (.long v1), .second, .val (.long v2), .second, .val (.long v3), .second, .val r3, .val r1, .unset, .unset, .unset, .unset] [r'])) t → Steps p.tables e below (s₁.setTop (entryFrame m #[(.long q1), (.long q2), (.long q3), (.int u1)] maxLocals)) t) := by
    by_cases h76 : (u1 &&& (4 : Int32)) = (0 : Int32)
    · obtain ⟨_, _, ⟨T1089, L1089, k1089, n1089⟩, -, X1089, ⟨Lc1089, hQ1089, l1089, y1089, z1089⟩, st1089⟩ := Jvm.LawKit.callS X1081 hx (y := (⟨"java/lang/Long", "valueOf", "(J)Ljava/lang/Long;"⟩ : MethodName)) hown (mvT hZ (hw _ (List.mem_of_getElem? (i := 6) rfl))) (mvT hZ (hw _ (List.mem_of_getElem? (i := 7) rfl))) (mvT hZ (hw _ (List.mem_of_getElem? (i := 8) rfl))) (mvT hZ (hw _ (List.mem_of_getElem? (i := 9) rfl))) (by decide) (backOf (W := 0) (rm_vof l Z a0 hw [] v3 ca cc h1081 n0 Z1081 Sc Bx O1081) hZ (hw _ (List.mem_of_getElem? (i := 9) rfl)) (hw _ (List.mem_of_getElem? (i := 8) rfl)) (by decide) (by decide)) (g := (mkF m 85 #[.val (.long q1), .second, .val (.long q2), .second, .val (.long q3), .second, .val (.int u1), .val (.long v1), .second, .val (.long v2), .second, .val (.long v3), .second, .val r3, .val r1, .unset, .unset, .unset, .unset] [(.long v3)])) rfl (by rw [hml]; rfl) (argsL := [(.long v3)]) (rest := []) (lenOf pd_5 rfl) rfl (by show 2 * 0 + _ ≤ _; exact Nat.le_of_eq rfl) (hb hby at_85) (fun _ _ => ⟨rfl, e1081, (by decide : 2 + 1 ≤ _), (by decide : 2 + 1 ≤ _)⟩)
      dsimp only [Pt.U, Pt.locs, Pt.cells, Pt.slots] at X1089 l1089 y1089 z1089 st1089 hQ1089
      subst l1089 y1089 z1089
      obtain ⟨rb, rfl, N1089q, Kv, Ev, Fv⟩ := hQ1089
      have N1089 := Fr.app N1081 N1089q
      have c1090_0 := O1081.keep Kv all0
      have G1091_0 := Gk1081_r3.keep0 Kv
      have G1091_1 := G1081.keep0 Kv
      have Z1089 : n0 ≤ T1089.heap.size := Nat.le_trans Z1081 Kv.1
      have hk1089 := Nat.le_trans hk1081 Kv.1
      have K1089 : Keep h0 T1089.heap [] := K1081.trans Kv all0
      have P1092 : ∀ t, Steps p.tables e below (T1089.setTop (mkF m 88 #[.val (.long q1), .second, .val (.long q2), .second, .val (.long q3), .second, .val (.int u1), .val (.long v1), .second, .val (.long v2), .second, .val (.long v3), .second, .val r3, .val r1, .unset, .unset, .unset, .unset] [(.ref rb)])) t → Steps p.tables e below (s₁.setTop (entryFrame m #[(.long q1), (.long q2), (.long q3), (.int u1)] maxLocals)) t := fun t k => P1087 t (by
        refine XS.ifYes X1081.here hx rfl (pc0 := 76) (pc' := 83) rfl (hb hby at_76) rfl ((if0 _ _).trans (teq h76).1) (by decide) (by decide) ?_
        show Steps p.tables e below (T1081.setTop (mkF m 83 #[.val (.long q1), .second, .val (.long q2), .second, .val (.long q3), .second, .val (.int u1), .val (.long v1), .second, .val (.long v2), .second, .val (.long v3), .second, .val r3, .val r1, .unset, .unset, .unset, .unset] [])) _
        refine XS.lload X1081.here hx rfl (hb hby at_83) rfl ?_
        show Steps p.tables e below (T1081.setTop (mkF m 85 #[.val (.long q1), .second, .val (.long q2), .second, .val (.long q3), .second, .val (.int u1), .val (.long v1), .second, .val (.long v2), .second, .val (.long v3), .second, .val r3, .val r1, .unset, .unset, .unset, .unset] [(.long v3)])) _
        refine st1089 _ ?_
        show Steps p.tables e below (T1089.setTop (mkF m 88 #[.val (.long q1), .second, .val (.long q2), .second, .val (.long q3), .second, .val (.int u1), .val (.long v1), .second, .val (.long v2), .second, .val (.long v3), .second, .val r3, .val r1, .unset, .unset, .unset, .unset] [(.ref rb)])) _
        exact k)
      exact ⟨T1089, T1089.heap, _, (.ref rb), X1089.mono (by decide) (by decide), rfl, N1089, K1089, c1090_0, Or.inr ⟨rb, rfl, Ev, Fv⟩, G1091_0, G1091_1, P1092⟩
    · have P1093 : ∀ t, Steps p.tables e below (T1081.setTop (mkF m 88 #[.val (.long q1), .second, .val (.long q2), .second, .val (.long q3), .second, .val (.int u1), .val (.long v1), .second, .val (.long v2), .second, .val (.long v3), .second, .val r3, .val r1, .unset, .unset, .unset, .unset] [.null])) t → Steps p.tables e below (s₁.setTop (entryFrame m #[(.long q1), (.long q2), (.long q3), (.int u1)] maxLocals)) t := fun t k => P1087 t (by
        refine XS.ifNo X1081.here hx rfl (hb hby at_76) rfl ((if0 _ _).trans (feq h76).1) ?_
        show Steps p.tables e below (T1081.setTop (mkF m 79 #[.val (.long q1), .second, .val (.long q2), .second, .val (.long q3), .second, .val (.int u1), .val (.long v1), .second, .val (.long v2), .second, .val (.long v3), .second, .val r3, .val r1, .unset, .unset, .unset, .unset] [])) _
        refine XS.aconstNull X1081.here hx rfl (hb hby at_79) ?_
        show Steps p.tables e below (T1081.setTop (mkF m 80 #[.val (.long q1), .second, .val (.long q2), .second, .val (.long q3), .second, .val (.int u1), .val (.long v1), .second, .val (.long v2), .second, .val (.long v3), .second, .val r3, .val r1, .unset, .unset, .unset, .unset] [.null])) _
        refine XS.goto X1081.here hx rfl (pc0 := 80) (pc' := 88) rfl (hb hby at_80) (by decide) (by decide) ?_
        show Steps p.tables e below (T1081.setTop (mkF m 88 #[.val (.long q1), .second, .val (.long q2), .second, .val (.long q3), .second, .val (.int u1), .val (.long v1), .second, .val (.long v2), .second, .val (.long v3), .second, .val r3, .val r1, .unset, .unset, .unset, .unset] [.null])) _
        exact k)
      exact ⟨T1081, h1081, _, .null, X1081.mono (by decide) (by decide), e1081, N1081, K1081, O1081, Or.inl rfl, Gk1081_r3, G1081, P1093⟩
  have hr2 := G1088.ref
  have Z1088 : n0 ≤ h1088.size := Nat.le_trans Z0 K1088.1
  have hk1088 : h0.size ≤ h1088.size := K1088.1
  obtain ⟨T1094, h1094, X1094, e1094, E1094, A1094, D1094, -, st1094⟩ := newO X1088 hx hZ hown (hw _ (List.mem_of_getElem? (i := 31) rfl)) (hw _ (List.mem_of_getElem? (i := 32) rfl)) (hw _ (List.mem_of_getElem? (i := 33) rfl)) e1088 (g := (mkF m 90 #[.val (.long q1), .second, .val (.long q2), .second, .val (.long q3), .second, .val (.int u1), .val (.long v1), .second, .val (.long v2), .second, .val (.long v3), .second, .val r3, .val r1, .val r2, .unset, .unset, .unset] [])) rfl (hb hby at_90) (by decide) (by decide)
  obtain ⟨b1094, g1094⟩ : ∃ z, z = h1088.size := ⟨_, rfl⟩
  rw [← g1094] at A1094 D1094 st1094
  have g_b1094 : n0 ≤ b1094 := Nat.le_trans Z1088 (Nat.le_of_eq g1094.symm)
  have sz_b1094 : h0.size ≤ b1094 := Nat.le_trans K1088.1 (Nat.le_of_eq g1094.symm)
  have c1095_0 := O1088.ext E1094
  have G1096_0 := Gk1088_r3.ext E1094
  have G1096_1 := Gk1088_r1.ext E1094
  have G1096_2 := G1088.ext E1094
  have hk1094 := Nat.le_trans hk1088 E1094.1
  have Z1094 : n0 ≤ h1094.size := Nat.le_trans Z1088 E1094.1
  have K1094 : Keep h0 h1094 [] := K1088.ext E1094
  have F1094_maxPublications : Fld Z h1094 b1094 "com/example/hale_pubsub/halepubsub/core/Retention" "maxPublications" "Ljava/lang/Long;" .null := D1094 (Or.inr (hw _ (List.mem_of_getElem? (i := 64) rfl))) (ty := (.object "java/lang/Long")) (by decide)
  have F1094_maxBytes : Fld Z h1094 b1094 "com/example/hale_pubsub/halepubsub/core/Retention" "maxBytes" "Ljava/lang/Long;" .null := D1094 (Or.inr (hw _ (List.mem_of_getElem? (i := 66) rfl))) (ty := (.object "java/lang/Long")) (by decide)
  have F1094_maxAgeSeconds : Fld Z h1094 b1094 "com/example/hale_pubsub/halepubsub/core/Retention" "maxAgeSeconds" "Ljava/lang/Long;" .null := D1094 (Or.inr (hw _ (List.mem_of_getElem? (i := 68) rfl))) (ty := (.object "java/lang/Long")) (by decide)
  have P1097 : ∀ t, Steps p.tables e below (T1094.setTop (mkF m 100 #[.val (.long q1), .second, .val (.long q2), .second, .val (.long q3), .second, .val (.int u1), .val (.long v1), .second, .val (.long v2), .second, .val (.long v3), .second, .val r3, .val r1, .val r2, .unset, .unset, .unset] [r3, r2, r1, (.ref b1094), (.ref b1094)])) t → Steps p.tables e below (s₁.setTop (entryFrame m #[(.long q1), (.long q2), (.long q3), (.int u1)] maxLocals)) t := fun t k => P1088 t (by
    refine XS.astore X1088.here hx rfl (hb hby at_88) rfl hr2 (l' := #[.val (.long q1), .second, .val (.long q2), .second, .val (.long q3), .second, .val (.int u1), .val (.long v1), .second, .val (.long v2), .second, .val (.long v3), .second, .val r3, .val r1, .val r2, .unset, .unset, .unset]) ((XS.store1 (v := r2) rfl (Or.inl rfl) (cat_ref hr2)).trans rfl) ?_
    show Steps p.tables e below (T1088.setTop (mkF m 90 #[.val (.long q1), .second, .val (.long q2), .second, .val (.long q3), .second, .val (.int u1), .val (.long v1), .second, .val (.long v2), .second, .val (.long v3), .second, .val r3, .val r1, .val r2, .unset, .unset, .unset] [])) _
    refine st1094 _ ?_
    show Steps p.tables e below (T1094.setTop (mkF m 93 #[.val (.long q1), .second, .val (.long q2), .second, .val (.long q3), .second, .val (.int u1), .val (.long v1), .second, .val (.long v2), .second, .val (.long v3), .second, .val r3, .val r1, .val r2, .unset, .unset, .unset] [(.ref b1094)])) _
    refine XS.dup X1094.here hx rfl (hb hby at_93) rfl rfl ?_
    show Steps p.tables e below (T1094.setTop (mkF m 94 #[.val (.long q1), .second, .val (.long q2), .second, .val (.long q3), .second, .val (.int u1), .val (.long v1), .second, .val (.long v2), .second, .val (.long v3), .second, .val r3, .val r1, .val r2, .unset, .unset, .unset] [(.ref b1094), (.ref b1094)])) _
    refine XS.aload X1094.here hx rfl (hb hby at_94) rfl hr1 ?_
    show Steps p.tables e below (T1094.setTop (mkF m 96 #[.val (.long q1), .second, .val (.long q2), .second, .val (.long q3), .second, .val (.int u1), .val (.long v1), .second, .val (.long v2), .second, .val (.long v3), .second, .val r3, .val r1, .val r2, .unset, .unset, .unset] [r1, (.ref b1094), (.ref b1094)])) _
    refine XS.aload X1094.here hx rfl (hb hby at_96) rfl hr2 ?_
    show Steps p.tables e below (T1094.setTop (mkF m 98 #[.val (.long q1), .second, .val (.long q2), .second, .val (.long q3), .second, .val (.int u1), .val (.long v1), .second, .val (.long v2), .second, .val (.long v3), .second, .val r3, .val r1, .val r2, .unset, .unset, .unset] [r2, r1, (.ref b1094), (.ref b1094)])) _
    refine XS.aload X1094.here hx rfl (hb hby at_98) rfl hr3 ?_
    show Steps p.tables e below (T1094.setTop (mkF m 100 #[.val (.long q1), .second, .val (.long q2), .second, .val (.long q3), .second, .val (.int u1), .val (.long v1), .second, .val (.long v2), .second, .val (.long v3), .second, .val r3, .val r1, .val r2, .unset, .unset, .unset] [r3, r2, r1, (.ref b1094), (.ref b1094)])) _
    exact k)
  obtain ⟨_, _, ⟨T1098, L1098, k1098, n1098⟩, -, X1098, S1098, gr1098, ⟨Lc1098, hQ1098, l1098, y1098, z1098⟩, st1098⟩ := X1094.specialBackS hx (y := (⟨"com/example/hale_pubsub/halepubsub/core/Retention", "<init>", "(Ljava/lang/Long;Ljava/lang/Long;Ljava/lang/Long;)V"⟩ : MethodName)) rfl hown (mvT hZ (hw _ (List.mem_of_getElem? (i := 34) rfl))) (mvT hZ (hw _ (List.mem_of_getElem? (i := 35) rfl))) (mvT hZ (hw _ (List.mem_of_getElem? (i := 36) rfl))) (by decide) (backOfS (W := 1) (rm_rinit l Z a0 hw [] b1094 r1 r2 r3 v2 v3 v1 h1094 n0 Z1094 hr1 hr2 hr3 G1096_1 G1096_2 G1096_0 hv2 hv3 (own_lo hs1.1) (own_hs hs1.2) A1094 F1094_maxPublications F1094_maxBytes F1094_maxAgeSeconds g_b1094) hZ (hw _ (List.mem_of_getElem? (i := 36) rfl)) (hw _ (List.mem_of_getElem? (i := 33) rfl)) (by decide) (by decide)) (g := (mkF m 100 #[.val (.long q1), .second, .val (.long q2), .second, .val (.long q3), .second, .val (.int u1), .val (.long v1), .second, .val (.long v2), .second, .val (.long v3), .second, .val r3, .val r1, .val r2, .unset, .unset, .unset] [r3, r2, r1, (.ref b1094), (.ref b1094)])) rfl (by rw [hml]; rfl) (Steps.refl _) (a := b1094) (argsL := [r1, r2, r3]) (rest := [(.ref b1094)]) (lenOf pd_6 rfl) rfl (by show 2 * 0 + _ ≤ _; exact Nat.le_of_eq rfl) (hb hby at_100) (fun _ _ => ⟨rfl, e1094, (by decide : 4 + 6 ≤ _), (by decide : 6 + 136 ≤ _)⟩)
  dsimp only [Pt.U, Pt.locs, Pt.cells, Pt.slots] at X1098 l1098 y1098 z1098 st1098 hQ1098 S1098 gr1098
  subst l1098 y1098 z1098
  obtain ⟨rfl, N1098q, Ki, Ei, Fi, Gi⟩ := hQ1098
  have N1098 := Fr.app N1088 N1098q
  obtain ⟨X1098, S1098, hZ, hown⟩ := rebS (s := s) (vm0 := s.vm) hS0 (show _ ≤ T1094.heap.size by rw [e1094]; exact hk1094) X1098 S1098 gr1098 hZ hown
  have hk1098 := Nat.le_refl T1098.heap.size
  have c1099_0 := c1095_0.keep Ki (allS g_b1094 all0)
  have Z1098 : n0 ≤ T1098.heap.size := Nat.le_trans Z1094 Ki.1
  have K1098 : Keep h0 T1098.heap [] := K1094.trans Ki (allS (Or.inr sz_b1094) all0)
  obtain ⟨cq1101, kq1101, q1101a, q1101b, q1101c⟩ := isOf hZ rfl Ei
  obtain ⟨_, _, ⟨T1101, L1101, k1101, n1101⟩, -, X1101, ⟨Lc1101, hQ1101, l1101, y1101, z1101⟩, st1101⟩ := X1098.virtualBack hx (y := (⟨"com/example/hale_pubsub/halepubsub/core/Retention", "maxAgeMillis", "()J"⟩ : MethodName)) (z := (⟨"com/example/hale_pubsub/halepubsub/core/Retention", "maxAgeMillis", "()J"⟩ : MethodName)) hown (mvT hZ (hw _ (List.mem_of_getElem? (i := 69) rfl))) (mvT hZ (hw _ (List.mem_of_getElem? (i := 70) rfl))) (notFace_of_selects (args := #[]) (mvT hZ (hw _ (List.mem_of_getElem? (i := 72) rfl)))) (mvT hZ (hw _ (List.mem_of_getElem? (i := 72) rfl))) (mvT hZ (hw _ (List.mem_of_getElem? (i := 71) rfl))) (by decide) (backOf (W := 0) (rm_mil l Z a0 hw [] b1094 r3 v1 T1098.heap n0 Z1098 Fi Gi) hZ (hw _ (List.mem_of_getElem? (i := 73) rfl)) (hw _ (List.mem_of_getElem? (i := 33) rfl)) (by decide) (by decide)) q1101a q1101c (g := (mkF m 107 #[.val (.long q1), .second, .val (.long q2), .second, .val (.long q3), .second, .val (.int u1), .val (.long v1), .second, .val (.long v2), .second, .val (.long v3), .second, .val r3, .val r1, .val r2, .val (.ref b1094), .unset, .unset] [(.ref b1094)])) rfl (by rw [hml]; rfl) (Steps.refl _) (argsL := []) (rest := []) (lenOf pd_2 rfl) rfl (by show 2 * 0 + _ ≤ _; exact Nat.le_of_eq rfl) (hb hby at_107) (fun _ _ => ⟨rfl, rfl, (by decide : 10 + 0 ≤ _), (by decide : 142 + 0 ≤ _)⟩)
  dsimp only [Pt.U, Pt.locs, Pt.cells, Pt.slots] at X1101 l1101 y1101 z1101 st1101 hQ1101
  subst l1101 y1101 z1101
  obtain ⟨m1, rfl, N1101q, e107, hm1⟩ := hQ1101
  have N1101 := Fr.app N1098 N1101q
  have P1102 : ∀ t, Steps p.tables e below (T1101.setTop (mkF m 112 #[.val (.long q1), .second, .val (.long q2), .second, .val (.long q3), .second, .val (.int u1), .val (.long v1), .second, .val (.long v2), .second, .val (.long v3), .second, .val r3, .val r1, .val r2, .val (.ref b1094), .val (.long m1), .second] [])) t → Steps p.tables e below (s₁.setTop (entryFrame m #[(.long q1), (.long q2), (.long q3), (.int u1)] maxLocals)) t := fun t k => P1097 t (by
    refine st1098.trans ?_
    show Steps p.tables e below (T1098.setTop (mkF m 103 #[.val (.long q1), .second, .val (.long q2), .second, .val (.long q3), .second, .val (.int u1), .val (.long v1), .second, .val (.long v2), .second, .val (.long v3), .second, .val r3, .val r1, .val r2, .unset, .unset, .unset] [(.ref b1094)])) _
    refine XS.astore X1098.here hx rfl (hb hby at_103) rfl rfl (l' := #[.val (.long q1), .second, .val (.long q2), .second, .val (.long q3), .second, .val (.int u1), .val (.long v1), .second, .val (.long v2), .second, .val (.long v3), .second, .val r3, .val r1, .val r2, .val (.ref b1094), .unset, .unset]) rfl ?_
    show Steps p.tables e below (T1098.setTop (mkF m 105 #[.val (.long q1), .second, .val (.long q2), .second, .val (.long q3), .second, .val (.int u1), .val (.long v1), .second, .val (.long v2), .second, .val (.long v3), .second, .val r3, .val r1, .val r2, .val (.ref b1094), .unset, .unset] [])) _
    refine XS.aload X1098.here hx rfl (hb hby at_105) rfl rfl ?_
    show Steps p.tables e below (T1098.setTop (mkF m 107 #[.val (.long q1), .second, .val (.long q2), .second, .val (.long q3), .second, .val (.int u1), .val (.long v1), .second, .val (.long v2), .second, .val (.long v3), .second, .val r3, .val r1, .val r2, .val (.ref b1094), .unset, .unset] [(.ref b1094)])) _
    refine st1101.trans ?_
    show Steps p.tables e below (T1101.setTop (mkF m 110 #[.val (.long q1), .second, .val (.long q2), .second, .val (.long q3), .second, .val (.int u1), .val (.long v1), .second, .val (.long v2), .second, .val (.long v3), .second, .val r3, .val r1, .val r2, .val (.ref b1094), .unset, .unset] [(.long m1)])) _
    refine XS.lstore X1101.here hx rfl (hb hby at_110) rfl (l' := #[.val (.long q1), .second, .val (.long q2), .second, .val (.long q3), .second, .val (.int u1), .val (.long v1), .second, .val (.long v2), .second, .val (.long v3), .second, .val r3, .val r1, .val r2, .val (.ref b1094), .val (.long m1), .second]) rfl ?_
    show Steps p.tables e below (T1101.setTop (mkF m 112 #[.val (.long q1), .second, .val (.long q2), .second, .val (.long q3), .second, .val (.int u1), .val (.long v1), .second, .val (.long v2), .second, .val (.long v3), .second, .val r3, .val r1, .val r2, .val (.ref b1094), .val (.long m1), .second] [])) _
    exact k)
  rcases hm1 with ⟨rfl, rfl⟩ | ⟨a9, rfl, rfl⟩
  · have P1103 : ∀ t, Steps p.tables e below (T1101.setTop (mkF m 131 #[.val (.long q1), .second, .val (.long q2), .second, .val (.long q3), .second, .val (.int u1), .val (.long v1), .second, .val (.long v2), .second, .val (.long v3), .second, .val .null, .val r1, .val r2, .val (.ref b1094), .val (.long (9223372036854775807 : Int64)), .second] [(.int (1 : Int32))])) t → Steps p.tables e below (s₁.setTop (entryFrame m #[(.long q1), (.long q2), (.long q3), (.int u1)] maxLocals)) t := fun t k => P1102 t (by
      refine XS.aload X1101.here hx rfl (hb hby at_112) rfl rfl ?_
      show Steps p.tables e below (T1101.setTop (mkF m 114 #[.val (.long q1), .second, .val (.long q2), .second, .val (.long q3), .second, .val (.int u1), .val (.long v1), .second, .val (.long v2), .second, .val (.long v3), .second, .val .null, .val r1, .val r2, .val (.ref b1094), .val (.long (9223372036854775807 : Int64)), .second] [.null])) _
      refine XS.ifnonnullNo X1101.here hx rfl (hb hby at_114) rfl ?_
      show Steps p.tables e below (T1101.setTop (mkF m 117 #[.val (.long q1), .second, .val (.long q2), .second, .val (.long q3), .second, .val (.int u1), .val (.long v1), .second, .val (.long v2), .second, .val (.long v3), .second, .val .null, .val r1, .val r2, .val (.ref b1094), .val (.long (9223372036854775807 : Int64)), .second] [])) _
      refine XS.lload X1101.here hx rfl (hb hby at_117) rfl ?_
      show Steps p.tables e below (T1101.setTop (mkF m 119 #[.val (.long q1), .second, .val (.long q2), .second, .val (.long q3), .second, .val (.int u1), .val (.long v1), .second, .val (.long v2), .second, .val (.long v3), .second, .val .null, .val r1, .val r2, .val (.ref b1094), .val (.long (9223372036854775807 : Int64)), .second] [(.long (9223372036854775807 : Int64))])) _
      refine X1101.ldc2Long hx hown (mvT hZ (hw _ (List.mem_of_getElem? (i := 0) rfl))) (g := (mkF m 119 #[.val (.long q1), .second, .val (.long q2), .second, .val (.long q3), .second, .val (.int u1), .val (.long v1), .second, .val (.long v2), .second, .val (.long v3), .second, .val .null, .val r1, .val r2, .val (.ref b1094), .val (.long (9223372036854775807 : Int64)), .second] [(.long (9223372036854775807 : Int64))])) rfl (hb hby at_119) _ ?_
      show Steps p.tables e below (T1101.setTop (mkF m 122 #[.val (.long q1), .second, .val (.long q2), .second, .val (.long q3), .second, .val (.int u1), .val (.long v1), .second, .val (.long v2), .second, .val (.long v3), .second, .val .null, .val r1, .val r2, .val (.ref b1094), .val (.long (9223372036854775807 : Int64)), .second] [(.long (9223372036854775807 : Int64)), (.long (9223372036854775807 : Int64))])) _
      refine XS.lcmp X1101.here hx rfl (hb hby at_122) rfl ?_
      show Steps p.tables e below (T1101.setTop (mkF m 123 #[.val (.long q1), .second, .val (.long q2), .second, .val (.long q3), .second, .val (.int u1), .val (.long v1), .second, .val (.long v2), .second, .val (.long v3), .second, .val .null, .val r1, .val r2, .val (.ref b1094), .val (.long (9223372036854775807 : Int64)), .second] [(.int (lcmpW (9223372036854775807 : Int64) (9223372036854775807 : Int64)))])) _
      refine XS.ifNo X1101.here hx rfl (hb hby at_123) rfl ((if0 _ _).trans (teq ((lw_eq (9223372036854775807 : Int64) (9223372036854775807 : Int64)).mpr rfl)).2) ?_
      show Steps p.tables e below (T1101.setTop (mkF m 126 #[.val (.long q1), .second, .val (.long q2), .second, .val (.long q3), .second, .val (.int u1), .val (.long v1), .second, .val (.long v2), .second, .val (.long v3), .second, .val .null, .val r1, .val r2, .val (.ref b1094), .val (.long (9223372036854775807 : Int64)), .second] [])) _
      refine XS.iconst X1101.here hx rfl (hb hby at_126) ?_
      show Steps p.tables e below (T1101.setTop (mkF m 127 #[.val (.long q1), .second, .val (.long q2), .second, .val (.long q3), .second, .val (.int u1), .val (.long v1), .second, .val (.long v2), .second, .val (.long v3), .second, .val .null, .val r1, .val r2, .val (.ref b1094), .val (.long (9223372036854775807 : Int64)), .second] [(.int (1 : Int32))])) _
      refine XS.goto X1101.here hx rfl (pc0 := 127) (pc' := 131) rfl (hb hby at_127) (by decide) (by decide) ?_
      show Steps p.tables e below (T1101.setTop (mkF m 131 #[.val (.long q1), .second, .val (.long q2), .second, .val (.long q3), .second, .val (.int u1), .val (.long v1), .second, .val (.long v2), .second, .val (.long v3), .second, .val .null, .val r1, .val r2, .val (.ref b1094), .val (.long (9223372036854775807 : Int64)), .second] [(.int (1 : Int32))])) _
      exact k)
    obtain ⟨fs, hr, hrun, hended, hRW⟩ := Jvm.Stand.leaveW (s := s) (vm₁ := T1098.vm) X1101 S1098 (show _ ≤ T1101.heap.size by rw [e107]; exact hk1098) (v := some (.int (1 : Int32))) (fun h => by rw [Bd.returns] at h; cases h)
    refine ⟨_, _, P1103 _ ?_, hrun, hended, _, _, rfl, ?_, hRW.1, hRW.2.1, hRW.2.2.1, hRW.2.2.2.mono (by decide) (by decide)⟩
    · exact retN X1101 hx (t := .boolean) Bd.returns (by simp) (hb hby at_131) hr
    · show Q_law Z q1 q2 q3 u1 ca cc h0 n0 _ T1101.heap _
      rw [e107]
      exact ⟨rfl, N1101⟩
  · have P1104 : ∀ t, Steps p.tables e below (T1101.setTop (mkF m 160 #[.val (.long q1), .second, .val (.long q2), .second, .val (.long q3), .second, .val (.int u1), .val (.long v1), .second, .val (.long v2), .second, .val (.long v3), .second, .val (.ref a9), .val r1, .val r2, .val (.ref b1094), .val (.long (v1 * (1000 : Int64))), .second] [(.int (1 : Int32))])) t → Steps p.tables e below (s₁.setTop (entryFrame m #[(.long q1), (.long q2), (.long q3), (.int u1)] maxLocals)) t := fun t k => P1102 t (by
      refine XS.aload X1101.here hx rfl (hb hby at_112) rfl rfl ?_
      show Steps p.tables e below (T1101.setTop (mkF m 114 #[.val (.long q1), .second, .val (.long q2), .second, .val (.long q3), .second, .val (.int u1), .val (.long v1), .second, .val (.long v2), .second, .val (.long v3), .second, .val (.ref a9), .val r1, .val r2, .val (.ref b1094), .val (.long (v1 * (1000 : Int64))), .second] [(.ref a9)])) _
      refine XS.ifnonnullYes X1101.here hx rfl (pc0 := 114) (pc' := 132) rfl (hb hby at_114) rfl (by decide) (by decide) ?_
      show Steps p.tables e below (T1101.setTop (mkF m 132 #[.val (.long q1), .second, .val (.long q2), .second, .val (.long q3), .second, .val (.int u1), .val (.long v1), .second, .val (.long v2), .second, .val (.long v3), .second, .val (.ref a9), .val r1, .val r2, .val (.ref b1094), .val (.long (v1 * (1000 : Int64))), .second] [])) _
      refine XS.lload X1101.here hx rfl (hb hby at_132) rfl ?_
      show Steps p.tables e below (T1101.setTop (mkF m 134 #[.val (.long q1), .second, .val (.long q2), .second, .val (.long q3), .second, .val (.int u1), .val (.long v1), .second, .val (.long v2), .second, .val (.long v3), .second, .val (.ref a9), .val r1, .val r2, .val (.ref b1094), .val (.long (v1 * (1000 : Int64))), .second] [(.long (v1 * (1000 : Int64)))])) _
      refine X1101.ldc2Long hx hown (mvT hZ (hw _ (List.mem_of_getElem? (i := 75) rfl))) (g := (mkF m 134 #[.val (.long q1), .second, .val (.long q2), .second, .val (.long q3), .second, .val (.int u1), .val (.long v1), .second, .val (.long v2), .second, .val (.long v3), .second, .val (.ref a9), .val r1, .val r2, .val (.ref b1094), .val (.long (v1 * (1000 : Int64))), .second] [(.long (v1 * (1000 : Int64)))])) rfl (hb hby at_134) _ ?_
      show Steps p.tables e below (T1101.setTop (mkF m 137 #[.val (.long q1), .second, .val (.long q2), .second, .val (.long q3), .second, .val (.int u1), .val (.long v1), .second, .val (.long v2), .second, .val (.long v3), .second, .val (.ref a9), .val r1, .val r2, .val (.ref b1094), .val (.long (v1 * (1000 : Int64))), .second] [(.long (1000 : Int64)), (.long (v1 * (1000 : Int64)))])) _
      refine XS.lrem X1101.here hx rfl (hb hby at_137) rfl (by decide) ?_
      rw [lrem_mod]
      show Steps p.tables e below (T1101.setTop (mkF m 138 #[.val (.long q1), .second, .val (.long q2), .second, .val (.long q3), .second, .val (.int u1), .val (.long v1), .second, .val (.long v2), .second, .val (.long v3), .second, .val (.ref a9), .val r1, .val r2, .val (.ref b1094), .val (.long (v1 * (1000 : Int64))), .second] [(.long ((v1 * (1000 : Int64)) % (1000 : Int64)))])) _
      refine XS.lconst X1101.here hx rfl (hb hby at_138) ?_
      show Steps p.tables e below (T1101.setTop (mkF m 139 #[.val (.long q1), .second, .val (.long q2), .second, .val (.long q3), .second, .val (.int u1), .val (.long v1), .second, .val (.long v2), .second, .val (.long v3), .second, .val (.ref a9), .val r1, .val r2, .val (.ref b1094), .val (.long (v1 * (1000 : Int64))), .second] [(.long (0 : Int64)), (.long ((v1 * (1000 : Int64)) % (1000 : Int64)))])) _
      refine XS.lcmp X1101.here hx rfl (hb hby at_139) rfl ?_
      show Steps p.tables e below (T1101.setTop (mkF m 140 #[.val (.long q1), .second, .val (.long q2), .second, .val (.long q3), .second, .val (.int u1), .val (.long v1), .second, .val (.long v2), .second, .val (.long v3), .second, .val (.ref a9), .val r1, .val r2, .val (.ref b1094), .val (.long (v1 * (1000 : Int64))), .second] [(.int (lcmpW ((v1 * (1000 : Int64)) % (1000 : Int64)) (0 : Int64)))])) _
      refine XS.ifNo X1101.here hx rfl (hb hby at_140) rfl ((if0 _ _).trans (teq ((lw_eq ((v1 * (1000 : Int64)) % (1000 : Int64)) (0 : Int64)).mpr (own_mil hs1).1)).2) ?_
      show Steps p.tables e below (T1101.setTop (mkF m 143 #[.val (.long q1), .second, .val (.long q2), .second, .val (.long q3), .second, .val (.int u1), .val (.long v1), .second, .val (.long v2), .second, .val (.long v3), .second, .val (.ref a9), .val r1, .val r2, .val (.ref b1094), .val (.long (v1 * (1000 : Int64))), .second] [])) _
      refine XS.lload X1101.here hx rfl (hb hby at_143) rfl ?_
      show Steps p.tables e below (T1101.setTop (mkF m 145 #[.val (.long q1), .second, .val (.long q2), .second, .val (.long q3), .second, .val (.int u1), .val (.long v1), .second, .val (.long v2), .second, .val (.long v3), .second, .val (.ref a9), .val r1, .val r2, .val (.ref b1094), .val (.long (v1 * (1000 : Int64))), .second] [(.long (v1 * (1000 : Int64)))])) _
      refine X1101.ldc2Long hx hown (mvT hZ (hw _ (List.mem_of_getElem? (i := 75) rfl))) (g := (mkF m 145 #[.val (.long q1), .second, .val (.long q2), .second, .val (.long q3), .second, .val (.int u1), .val (.long v1), .second, .val (.long v2), .second, .val (.long v3), .second, .val (.ref a9), .val r1, .val r2, .val (.ref b1094), .val (.long (v1 * (1000 : Int64))), .second] [(.long (v1 * (1000 : Int64)))])) rfl (hb hby at_145) _ ?_
      show Steps p.tables e below (T1101.setTop (mkF m 148 #[.val (.long q1), .second, .val (.long q2), .second, .val (.long q3), .second, .val (.int u1), .val (.long v1), .second, .val (.long v2), .second, .val (.long v3), .second, .val (.ref a9), .val r1, .val r2, .val (.ref b1094), .val (.long (v1 * (1000 : Int64))), .second] [(.long (1000 : Int64)), (.long (v1 * (1000 : Int64)))])) _
      refine XS.ldiv X1101.here hx rfl (hb hby at_148) rfl (by decide) ?_
      show Steps p.tables e below (T1101.setTop (mkF m 149 #[.val (.long q1), .second, .val (.long q2), .second, .val (.long q3), .second, .val (.int u1), .val (.long v1), .second, .val (.long v2), .second, .val (.long v3), .second, .val (.ref a9), .val r1, .val r2, .val (.ref b1094), .val (.long (v1 * (1000 : Int64))), .second] [(.long ((v1 * (1000 : Int64)) / (1000 : Int64)))])) _
      refine XS.lload X1101.here hx rfl (hb hby at_149) rfl ?_
      show Steps p.tables e below (T1101.setTop (mkF m 151 #[.val (.long q1), .second, .val (.long q2), .second, .val (.long q3), .second, .val (.int u1), .val (.long v1), .second, .val (.long v2), .second, .val (.long v3), .second, .val (.ref a9), .val r1, .val r2, .val (.ref b1094), .val (.long (v1 * (1000 : Int64))), .second] [(.long v1), (.long ((v1 * (1000 : Int64)) / (1000 : Int64)))])) _
      refine XS.lcmp X1101.here hx rfl (hb hby at_151) rfl ?_
      show Steps p.tables e below (T1101.setTop (mkF m 152 #[.val (.long q1), .second, .val (.long q2), .second, .val (.long q3), .second, .val (.int u1), .val (.long v1), .second, .val (.long v2), .second, .val (.long v3), .second, .val (.ref a9), .val r1, .val r2, .val (.ref b1094), .val (.long (v1 * (1000 : Int64))), .second] [(.int (lcmpW ((v1 * (1000 : Int64)) / (1000 : Int64)) v1))])) _
      refine XS.ifNo X1101.here hx rfl (hb hby at_152) rfl ((if0 _ _).trans (teq ((lw_eq ((v1 * (1000 : Int64)) / (1000 : Int64)) v1).mpr (own_mil hs1).2)).2) ?_
      show Steps p.tables e below (T1101.setTop (mkF m 155 #[.val (.long q1), .second, .val (.long q2), .second, .val (.long q3), .second, .val (.int u1), .val (.long v1), .second, .val (.long v2), .second, .val (.long v3), .second, .val (.ref a9), .val r1, .val r2, .val (.ref b1094), .val (.long (v1 * (1000 : Int64))), .second] [])) _
      refine XS.iconst X1101.here hx rfl (hb hby at_155) ?_
      show Steps p.tables e below (T1101.setTop (mkF m 156 #[.val (.long q1), .second, .val (.long q2), .second, .val (.long q3), .second, .val (.int u1), .val (.long v1), .second, .val (.long v2), .second, .val (.long v3), .second, .val (.ref a9), .val r1, .val r2, .val (.ref b1094), .val (.long (v1 * (1000 : Int64))), .second] [(.int (1 : Int32))])) _
      refine XS.goto X1101.here hx rfl (pc0 := 156) (pc' := 160) rfl (hb hby at_156) (by decide) (by decide) ?_
      show Steps p.tables e below (T1101.setTop (mkF m 160 #[.val (.long q1), .second, .val (.long q2), .second, .val (.long q3), .second, .val (.int u1), .val (.long v1), .second, .val (.long v2), .second, .val (.long v3), .second, .val (.ref a9), .val r1, .val r2, .val (.ref b1094), .val (.long (v1 * (1000 : Int64))), .second] [(.int (1 : Int32))])) _
      exact k)
    obtain ⟨fs, hr, hrun, hended, hRW⟩ := Jvm.Stand.leaveW (s := s) (vm₁ := T1098.vm) X1101 S1098 (show _ ≤ T1101.heap.size by rw [e107]; exact hk1098) (v := some (.int (1 : Int32))) (fun h => by rw [Bd.returns] at h; cases h)
    refine ⟨_, _, P1104 _ ?_, hrun, hended, _, _, rfl, ?_, hRW.1, hRW.2.1, hRW.2.2.1, hRW.2.2.2.mono (by decide) (by decide)⟩
    · exact retN X1101 hx (t := .boolean) Bd.returns (by simp) (hb hby at_160) hr
    · show Q_law Z q1 q2 q3 u1 ca cc h0 n0 _ T1101.heap _
      rw [e107]
      exact ⟨rfl, N1101⟩
set_option maxRecDepth 65536 in
set_option maxHeartbeats 40000000 in
theorem comes_1 {Post : Tables → Env → Array Value → State → Outcome → State → Prop} (hpost : ∀ tb e args s v u, (limb_1_1.after args s (.returned v) u = true ∧ limb_1_2.after args s (.returned v) u = true ∧ True) → ReturnedEndW s (.returned v) u (Jvm.fieldLocs frame_1_writes args s ++ Jvm.arrayLocs frame_1_arrays args s ++ Jvm.staticLocs frame_1_statics s) 24 3200 → Post tb e args s (.returned v) u) :
    ArmFor flags0 classFile x code maxLocals ret World_1 tables_1 room_1 Calls_1 rest_1 Pre_1 Post := by
  intro l hfl _ _ p e ha hc hk s m args below hf hA hF happ hP
  obtain ⟨hcalls, hrest, hpre⟩ := hP
  obtain ⟨-, -, -, hnamed, -, -, -, hat⟩ := (Spec.applies_iff hf).mp happ
  obtain ⟨hg, hn⟩ := and_e (Cond.before_iff.mp (show (Jvm.Cond.and given_1 narrow_1).before args s = true from hpre))
  obtain ⟨g1, g2⟩ := and_e hg
  obtain ⟨g3, g4⟩ := and_e g2
  obtain ⟨g5, g6⟩ := and_e g4
  obtain ⟨g7, g8⟩ := and_e g6
  obtain ⟨w0, w1, w2, w3, rfl⟩ : ∃ w0 w1 w2 w3 : Value, args = #[w0, w1, w2, w3] := by
    have hs : args.size = 4 := by simpa [Cond.value, given_1] using g1
    obtain ⟨L⟩ := args
    match L, hs with
    | [w0, w1, w2, w3], _ => exact ⟨w0, w1, w2, w3, rfl⟩
  have hw := fun d (hd : d ∈ tables_1) => atoms_spec (ws := Jvm.Cond.code x code maxLocals ret :: tables_1) hat d (List.mem_cons_of_mem _ hd)
  have hfit : Fit s := fun {y c} hc i hi => by
    obtain ⟨ha, rfl⟩ := Array.getElem?_eq_some_iff.mp hc
    have q := List.all_eq_true.mp ((Array.all_eq_true_iff_forall_mem.mp hF) _ (Array.getElem_mem ha)) i (List.mem_range.mpr hi)
    simpa [Array.getElem?_eq_getElem hi] using q
  obtain ⟨hsets, hown0⟩ := atoms_of _ (rest_1_c_eq ▸ (show rest_1_c.before _ s = true from hrest))
  obtain ⟨i0, ei0⟩ := isL_v g3
  obtain rfl : w0 = (.long i0) := Option.some.inj ei0
  obtain ⟨i1, ei1⟩ := isL_v g5
  obtain rfl : w1 = (.long i1) := Option.some.inj ei1
  obtain ⟨i2, ei2⟩ := isL_v g7
  obtain rfl : w2 = (.long i2) := Option.some.inj ei2
  obtain ⟨i3, ei3⟩ := is_v g8
  obtain rfl : w3 = (.int i3) := Option.some.inj ei3
  have hao := Cond.before_iff.mp (hsets _ (List.mem_of_getElem? (i := 2) rfl))
  obtain ⟨ca, eca⟩ := arr_v hao
  obtain ⟨cc, Ac⟩ := Arr.start eca hao
  have Sc : Sta s s.heap "java/lang/Long$LongCache" "cache" "[Ljava/lang/Long;" (.ref ca) := Sta.start eca (Or.inl (hsets _ (List.mem_of_getElem? (i := 1) rfl)))
  have hln := eqv_i (Term.int_eval 256) (Cond.before_iff.mp (hsets _ (List.mem_of_getElem? (i := 4) rfl)))
  have hl31 := SBG.length_lt eca (Ac.fin (Vm.Alike.refl _)) hln
  have hsz : cc.slots.size.toInt32 = (256 : Int32) := by
      have q := (len_f eca (Ac.fin (Vm.Alike.refl _)) hl31).symm.trans hln
      exact Value.int.inj (Option.some.inj q)
  have Bx : Bxs s ca cc "java/lang/Long" "J" (256 : Int32) (fun j => .long (j - (128 : Int32)).toInt64) := Bxs.start (fun _ => eca) Ac hl31 hsz (by decide) (Cond.before_iff.mp (hsets _ (List.mem_of_getElem? (i := 5) rfl))) (fun X j hj hq => eqv_l (i2l_at (by simp [Term.eval, (back32 hj).1])) hq)
  obtain ⟨n, o, h1, h2, h3, _, L, rfl, ⟨rfl, N⟩, hq⟩ := rm_law l s _ hw tables_1 i0 i1 i2 i3 ca cc s.heap s.heap.size (Nat.le_refl _) Sc Bx (Old.start s) p e ha hc hk s m _ below hf ((Spec.applies_iff_loose hf).mp happ).1 ⟨rfl, State.Warmed39.refl s, rfl⟩ trivial
  refine ⟨n, _, h1, h2, h3, hpost _ _ _ _ _ _ ⟨Cond.after_iff.mpr rfl, Cond.after_iff.mpr (eq_i res_at (Term.int_eval (1)) rfl), trivial⟩ ⟨hq.1, hq.2.1, hq.2.2.1, (hq.2.2.2.sift fun y hy => Or.inr (N y hy)).mono (by decide) (by decide)⟩⟩
theorem main_1_1 : Claimed_1_1 := comes_1 fun _ _ _ _ _ _ h hF => ⟨h.1, hF⟩
theorem main_1_2 : Claimed_1_2 := comes_1 fun _ _ _ _ _ _ h hF => ⟨h.2.1, hF⟩
end Jvm.Pilot.@@N@@
namespace Jvm.Pilot.@@N@@
open Jvm Jvm.ClassFile Sem Op Lib Jvm.Free Jvm.Stand Jvm.Pilot.@@N@@.Jvm.D
/-! MADE BY PROGRAM (witnessworld.py) out of the Statement's table words and the real class files: 20 classes; the members and pool entries that the words name. The judged class is class 1, her method 1. -/
namespace start1
open Jvm.ClassFile
def u (s : String) : CpInfo := .utf8 (stringToUtf16 s)
/-- a pool by its gaps: so many unusable entries, then the entry; so many at the end -/
def gap : Nat → List CpInfo → List CpInfo
  | 0, r => r
  | n + 1, r => .unusable :: gap n r
def poolList (es : List (Nat × CpInfo)) (last : Nat) : List CpInfo := es.foldr (fun e r => gap e.1 (e.2 :: r)) (gap last [])
def pool (es : List (Nat × CpInfo)) (last : Nat) : Array CpInfo := ⟨poolList es last⟩
def fileOf (pool : Array CpInfo) (this : Nat) (attrs : Array Attribute := #[]) (ms : Array MethodInfo := #[]) (fl : Nat := 33) (sup : Nat := 0) (ifs : Array Nat := #[]) (fds : Array FieldInfo := #[]) : ClassFile where
  minorVersion := 0
  majorVersion := 65
  constantPool := pool
  accessFlags := fl
  thisClass := this
  superClass := sup
  interfaces := ifs
  fields := fds
  methods := ms
  attributes := attrs
def plain (name : String) (sup : Option ClassId) : Class where
  name := name
  kind := .ordinary
  loader := none
  accessFlags := 33
  super := sup
  interfaces := #[]
  cf := none
  fields := #[]
  methods := #[]
  instanceTypes := #[]
  staticTypes := #[]
  resolved := #[]
  callSites := []
  init := .initialized
  statics := none
  mirror := none

def pool0 : Array CpInfo := pool [(5, u "<init>"), (0, u "()V"), (1, .class_ 10), (1, u "java/lang/Object")] 113

def k0c0 : Code := { maxStack := 0, maxLocals := 1, code := object_method_1_code, exceptionTable := #[], attributes := #[] }
def k0m0 : Method := { name := "<init>", desc := "()V", sig := { parameters := [], returnType := none }, accessFlags := 1, code := some k0c0 }
/-- java/lang/Object -/
def k0 : Class := { plain "java/lang/Object" none with
  accessFlags := 33
  interfaces := #[]
  cf := some (fileOf pool0 8 #[] #[{ accessFlags := 1, nameIndex := 5, descriptorIndex := 6, attributes := #[] }] 33 0 #[] #[])
  fields := #[]
  methods := #[k0m0]
  instanceTypes := #[]
  staticTypes := #[]
  resolved := Array.replicate 124 none
  statics := none }

def pool1 : Array CpInfo := pool [(2, .class_ 4), (1, u "java/lang/Object"), (0, u "<init>"), (0, u "()V"), (0, .class_ 8), (0, u "java/lang/Long"), (0, .long 9223372036854775807), (1, .class_ 12), (0, u "com/example/hale_pubsub/halepubsub/core/Retention"), (0, .long 9223372036854775), (1, .methodref 16 17), (0, .class_ 18), (0, .nameAndType 19 20), (0, u "java/lang/Math"), (0, u "max"), (0, u "(JJ)J"), (0, .methodref 7 22), (0, .nameAndType 23 24), (0, u "valueOf"), (0, u "(J)Ljava/lang/Long;"), (0, .methodref 11 26), (0, .nameAndType 5 27), (0, u "(Ljava/lang/Long;Ljava/lang/Long;Ljava/lang/Long;)V"), (0, .methodref 11 29), (0, .nameAndType 30 31), (0, u "maxAgeMillis"), (0, u "()J"), (0, .long 1000), (1, .class_ 35), (0, u "com/example/hale_pubsub/halepubsub/core/RetentionMaxAgeMillisPinLaw"), (2, u "law"), (0, u "(JJJI)Z")] 3

def k1m0 : Method := { name := "<init>", desc := "()V", sig := { parameters := [], returnType := none }, accessFlags := 1, code := none }
def k1c1 : Code := { maxStack := 6, maxLocals := 19, code := code, exceptionTable := #[], attributes := #[] }
def k1m1 : Method := { name := "law", desc := "(JJJI)Z", sig := { parameters := [.long, .long, .long, .int], returnType := some .boolean }, accessFlags := 9, code := some k1c1 }
/-- com/example/hale_pubsub/halepubsub/core/RetentionMaxAgeMillisPinLaw -/
def k1 : Class := { plain "com/example/hale_pubsub/halepubsub/core/RetentionMaxAgeMillisPinLaw" (some 0) with
  accessFlags := 49
  interfaces := #[]
  cf := some (fileOf pool1 34 #[] #[{ accessFlags := 1, nameIndex := 5, descriptorIndex := 6, attributes := #[] }, { accessFlags := 9, nameIndex := 38, descriptorIndex := 39, attributes := #[] }] 49 2 #[] #[])
  fields := #[]
  methods := #[k1m0, k1m1]
  instanceTypes := #[]
  staticTypes := #[]
  resolved := Array.replicate 43 none
  statics := none }

def pool2 : Array CpInfo := pool [(1, .class_ 2), (0, u "java/lang/Math"), (1, .class_ 6), (1, u "java/lang/Object"), (0, u "<init>"), (0, u "()V"), (89, .class_ 100), (1, u "java/lang/Math$RandomNumberGeneratorHolder"), (20, u "(JJ)J"), (50, u "negativeZeroFloatBits"), (0, u "J"), (2, u "negativeZeroDoubleBits"), (21, u "max"), (46, u "$assertionsDisabled"), (0, u "Z"), (91, u "twoToTheDoubleScaleDown"), (0, u "D"), (4, u "twoToTheDoubleScaleUp"), (9, u "E"), (3, u "PI"), (2, u "TAU"), (2, u "DEGREES_TO_RADIANS"), (0, u "RADIANS_TO_DEGREES")] 94

def k2m0 : Method := { name := "<init>", desc := "()V", sig := { parameters := [], returnType := none }, accessFlags := 2, code := none }
def k2c1 : Code := { maxStack := 4, maxLocals := 4, code := jdk_29_method_66_code, exceptionTable := #[], attributes := #[] }
def k2m1 : Method := { name := "max", desc := "(JJ)J", sig := { parameters := [.long, .long], returnType := some .long }, accessFlags := 9, code := some k2c1 }
/-- java/lang/Math -/
def k2 : Class := { plain "java/lang/Math" (some 0) with
  accessFlags := 49
  interfaces := #[]
  cf := some (fileOf pool2 1 #[.nestMembers #[98]] #[{ accessFlags := 2, nameIndex := 7, descriptorIndex := 8, attributes := #[] }, { accessFlags := 9, nameIndex := 198, descriptorIndex := 121, attributes := #[] }] 49 4 #[] #[{ accessFlags := 25, nameIndex := 354, descriptorIndex := 339, attributes := #[] }, { accessFlags := 25, nameIndex := 358, descriptorIndex := 339, attributes := #[] }, { accessFlags := 25, nameIndex := 361, descriptorIndex := 339, attributes := #[] }, { accessFlags := 26, nameIndex := 364, descriptorIndex := 339, attributes := #[] }, { accessFlags := 26, nameIndex := 365, descriptorIndex := 339, attributes := #[] }, { accessFlags := 26, nameIndex := 172, descriptorIndex := 173, attributes := #[] }, { accessFlags := 26, nameIndex := 176, descriptorIndex := 173, attributes := #[] }, { accessFlags := 8, nameIndex := 344, descriptorIndex := 339, attributes := #[] }, { accessFlags := 8, nameIndex := 338, descriptorIndex := 339, attributes := #[] }, { accessFlags := 4120, nameIndex := 245, descriptorIndex := 246, attributes := #[] }])
  fields := #[{ name := "E", type := .double, accessFlags := 25, slot := 0, constantValue := 0 }, { name := "PI", type := .double, accessFlags := 25, slot := 1, constantValue := 0 }, { name := "TAU", type := .double, accessFlags := 25, slot := 2, constantValue := 0 }, { name := "DEGREES_TO_RADIANS", type := .double, accessFlags := 26, slot := 3, constantValue := 0 }, { name := "RADIANS_TO_DEGREES", type := .double, accessFlags := 26, slot := 4, constantValue := 0 }, { name := "negativeZeroFloatBits", type := .long, accessFlags := 26, slot := 5, constantValue := 0 }, { name := "negativeZeroDoubleBits", type := .long, accessFlags := 26, slot := 6, constantValue := 0 }, { name := "twoToTheDoubleScaleUp", type := .double, accessFlags := 8, slot := 7, constantValue := 0 }, { name := "twoToTheDoubleScaleDown", type := .double, accessFlags := 8, slot := 8, constantValue := 0 }, { name := "$assertionsDisabled", type := .boolean, accessFlags := 4120, slot := 9, constantValue := 0 }]
  methods := #[k2m0, k2m1]
  instanceTypes := #[]
  staticTypes := #[.double, .double, .double, .double, .double, .long, .long, .double, .double, .boolean]
  resolved := Array.replicate 460 none
  statics := none }

def pool3 : Array CpInfo := pool [(1, .class_ 2), (0, u "java/io/Serializable"), (0, .class_ 4), (0, u "java/lang/Object")] 2

/-- java/io/Serializable -/
def k3 : Class := { plain "java/io/Serializable" (some 0) with
  accessFlags := 1537
  interfaces := #[]
  cf := some (fileOf pool3 1 #[] #[] 1537 3 #[] #[])
  fields := #[]
  methods := #[]
  instanceTypes := #[]
  staticTypes := #[]
  resolved := Array.replicate 7 none
  statics := none }

def pool4 : Array CpInfo := pool [(1, .methodref 2 3), (0, .class_ 4), (0, .nameAndType 5 6), (0, u "java/lang/Object"), (0, u "<init>"), (0, u "()V"), (1, .class_ 10), (1, u "java/lang/Number"), (2, .class_ 14), (0, u "java/io/Serializable"), (0, u "serialVersionUID"), (0, u "J")] 20

def k4c0 : Code := { maxStack := 1, maxLocals := 1, code := jdk_18_method_1_code, exceptionTable := #[], attributes := #[] }
def k4m0 : Method := { name := "<init>", desc := "()V", sig := { parameters := [], returnType := none }, accessFlags := 1, code := some k4c0 }
/-- java/lang/Number -/
def k4 : Class := { plain "java/lang/Number" (some 0) with
  accessFlags := 1057
  interfaces := #[3]
  cf := some (fileOf pool4 8 #[] #[{ accessFlags := 1, nameIndex := 5, descriptorIndex := 6, attributes := #[] }] 1057 2 #[13] #[{ accessFlags := 26, nameIndex := 15, descriptorIndex := 16, attributes := #[] }])
  fields := #[{ name := "serialVersionUID", type := .long, accessFlags := 26, slot := 0, constantValue := 0 }]
  methods := #[k4m0]
  instanceTypes := #[]
  staticTypes := #[.long]
  resolved := Array.replicate 37 none
  statics := none }

def pool5 : Array CpInfo := pool [(1, .class_ 2), (0, u "java/lang/Comparable"), (0, .class_ 4), (0, u "java/lang/Object")] 7

/-- java/lang/Comparable -/
def k5 : Class := { plain "java/lang/Comparable" (some 0) with
  accessFlags := 1537
  interfaces := #[]
  cf := some (fileOf pool5 1 #[] #[] 1537 3 #[] #[])
  fields := #[]
  methods := #[]
  instanceTypes := #[]
  staticTypes := #[]
  resolved := Array.replicate 12 none
  statics := none }

def pool6 : Array CpInfo := pool [(1, .class_ 2), (0, u "java/lang/constant/Constable"), (0, .class_ 4), (0, u "java/lang/Object")] 6

/-- java/lang/constant/Constable -/
def k6 : Class := { plain "java/lang/constant/Constable" (some 0) with
  accessFlags := 1537
  interfaces := #[]
  cf := some (fileOf pool6 1 #[] #[] 1537 3 #[] #[])
  fields := #[]
  methods := #[]
  instanceTypes := #[]
  staticTypes := #[]
  resolved := Array.replicate 11 none
  statics := none }

def pool7 : Array CpInfo := pool [(1, .class_ 2), (0, u "java/lang/constant/ConstantDesc"), (0, .class_ 4), (0, u "java/lang/Object")] 32

/-- java/lang/constant/ConstantDesc -/
def k7 : Class := { plain "java/lang/constant/ConstantDesc" (some 0) with
  accessFlags := 1537
  interfaces := #[]
  cf := some (fileOf pool7 1 #[] #[] 1537 3 #[] #[])
  fields := #[]
  methods := #[]
  instanceTypes := #[]
  staticTypes := #[]
  resolved := Array.replicate 37 none
  statics := none }

def pool8 : Array CpInfo := pool [(1, .class_ 2), (0, u "java/lang/Long"), (55, .nameAndType 59 60), (0, u "<init>"), (0, u "()V"), (24, u "valueOf"), (143, u "(J)Ljava/lang/Long;"), (0, .long 18446744073709551488), (1, .long 127), (1, .fieldref 235 236), (0, .class_ 237), (0, .nameAndType 238 239), (0, u "java/lang/Long$LongCache"), (0, u "cache"), (0, u "[Ljava/lang/Long;"), (0, .methodref 1 241), (0, .nameAndType 59 242), (0, u "(J)V"), (27, .methodref 271 58), (0, .class_ 272), (0, u "java/lang/Number"), (0, .fieldref 1 274), (0, .nameAndType 275 276), (0, u "value"), (0, u "J"), (5, u "longValue"), (0, u "()J"), (77, u "TYPE"), (0, u "Ljava/lang/Class;"), (0, .class_ 364), (0, u "java/lang/Comparable"), (0, .class_ 366), (0, u "java/lang/constant/Constable"), (0, .class_ 368), (0, u "java/lang/constant/ConstantDesc"), (0, u "MIN_VALUE"), (1, u "MAX_VALUE"), (4, u "SIZE"), (0, u "I"), (1, u "BYTES"), (1, u "serialVersionUID")] 142

def k8c0 : Code := { maxStack := 4, maxLocals := 3, code := jdk_35_method_24_code, exceptionTable := #[], attributes := #[] }
def k8m0 : Method := { name := "valueOf", desc := "(J)Ljava/lang/Long;", sig := { parameters := [.long], returnType := some (.object "java/lang/Long") }, accessFlags := 9, code := some k8c0 }
def k8c1 : Code := { maxStack := 3, maxLocals := 3, code := jdk_35_method_26_code, exceptionTable := #[], attributes := #[] }
def k8m1 : Method := { name := "<init>", desc := "(J)V", sig := { parameters := [.long], returnType := none }, accessFlags := 1, code := some k8c1 }
def k8c2 : Code := { maxStack := 2, maxLocals := 1, code := jdk_35_method_31_code, exceptionTable := #[], attributes := #[] }
def k8m2 : Method := { name := "longValue", desc := "()J", sig := { parameters := [], returnType := some .long }, accessFlags := 1, code := some k8c2 }
/-- java/lang/Long -/
def k8 : Class := { plain "java/lang/Long" (some 4) with
  accessFlags := 49
  interfaces := #[5, 6, 7]
  cf := some (fileOf pool8 1 #[.nestMembers #[235]] #[{ accessFlags := 9, nameIndex := 85, descriptorIndex := 229, attributes := #[] }, { accessFlags := 1, nameIndex := 59, descriptorIndex := 242, attributes := #[] }, { accessFlags := 1, nameIndex := 282, descriptorIndex := 283, attributes := #[] }] 49 271 #[363, 365, 367] #[{ accessFlags := 25, nameIndex := 369, descriptorIndex := 276, attributes := #[] }, { accessFlags := 25, nameIndex := 371, descriptorIndex := 276, attributes := #[] }, { accessFlags := 25, nameIndex := 361, descriptorIndex := 362, attributes := #[] }, { accessFlags := 18, nameIndex := 275, descriptorIndex := 276, attributes := #[] }, { accessFlags := 25, nameIndex := 376, descriptorIndex := 377, attributes := #[] }, { accessFlags := 25, nameIndex := 379, descriptorIndex := 377, attributes := #[] }, { accessFlags := 26, nameIndex := 381, descriptorIndex := 276, attributes := #[] }])
  fields := #[{ name := "MIN_VALUE", type := .long, accessFlags := 25, slot := 0, constantValue := 0 }, { name := "MAX_VALUE", type := .long, accessFlags := 25, slot := 1, constantValue := 0 }, { name := "TYPE", type := (.object "java/lang/Class"), accessFlags := 25, slot := 2, constantValue := 0 }, { name := "value", type := .long, accessFlags := 18, slot := 0, constantValue := 0 }, { name := "SIZE", type := .int, accessFlags := 25, slot := 3, constantValue := 0 }, { name := "BYTES", type := .int, accessFlags := 25, slot := 4, constantValue := 0 }, { name := "serialVersionUID", type := .long, accessFlags := 26, slot := 5, constantValue := 0 }]
  methods := #[k8m0, k8m1, k8m2]
  instanceTypes := #[.long]
  staticTypes := #[.long, .long, (.object "java/lang/Class"), .int, .int, .long]
  resolved := Array.replicate 524 none
  statics := none }

def pool9 : Array CpInfo := pool [(2, .class_ 4), (1, u "java/lang/Object"), (0, u "<init>"), (0, u "()V"), (0, .class_ 8), (0, u "java/lang/Long"), (7, .class_ 18), (1, u "java/lang/Long$LongCache"), (0, u "$assertionsDisabled"), (0, u "Z"), (8, u "archivedCache"), (0, u "[Ljava/lang/Long;"), (7, u "cache")] 24

def k9m0 : Method := { name := "<init>", desc := "()V", sig := { parameters := [], returnType := none }, accessFlags := 2, code := none }
/-- java/lang/Long$LongCache -/
def k9 : Class := { plain "java/lang/Long$LongCache" (some 0) with
  accessFlags := 48
  interfaces := #[]
  cf := some (fileOf pool9 16 #[.nestHost 7] #[{ accessFlags := 2, nameIndex := 5, descriptorIndex := 6, attributes := #[] }] 48 2 #[] #[{ accessFlags := 24, nameIndex := 38, descriptorIndex := 30, attributes := #[] }, { accessFlags := 8, nameIndex := 29, descriptorIndex := 30, attributes := #[] }, { accessFlags := 4120, nameIndex := 19, descriptorIndex := 20, attributes := #[] }])
  fields := #[{ name := "cache", type := (.array (.object "java/lang/Long")), accessFlags := 24, slot := 0, constantValue := 0 }, { name := "archivedCache", type := (.array (.object "java/lang/Long")), accessFlags := 8, slot := 1, constantValue := 0 }, { name := "$assertionsDisabled", type := .boolean, accessFlags := 4120, slot := 2, constantValue := 0 }]
  methods := #[k9m0]
  instanceTypes := #[]
  staticTypes := #[(.array (.object "java/lang/Long")), (.array (.object "java/lang/Long")), .boolean]
  resolved := Array.replicate 63 none
  statics := some 0 }

def pool10 : Array CpInfo := pool [(1, .methodref 2 3), (0, .class_ 4), (0, .nameAndType 5 6), (0, u "java/lang/Object"), (0, u "<init>"), (0, u "()V"), (0, .class_ 8), (0, u "java/lang/Record")] 13

def k10c0 : Code := { maxStack := 1, maxLocals := 1, code := jdk_30_method_1_code, exceptionTable := #[], attributes := #[] }
def k10m0 : Method := { name := "<init>", desc := "()V", sig := { parameters := [], returnType := none }, accessFlags := 4, code := some k10c0 }
/-- java/lang/Record -/
def k10 : Class := { plain "java/lang/Record" (some 0) with
  accessFlags := 1057
  interfaces := #[]
  cf := some (fileOf pool10 7 #[] #[{ accessFlags := 4, nameIndex := 5, descriptorIndex := 6, attributes := #[] }] 1057 2 #[] #[])
  fields := #[]
  methods := #[k10m0]
  instanceTypes := #[]
  staticTypes := #[]
  resolved := Array.replicate 22 none
  statics := none }

def pool11 : Array CpInfo := pool [(1, .class_ 2), (0, u "java/lang/Long"), (0, .methodref 4 5), (0, .class_ 6), (0, .nameAndType 7 8), (0, u "java/lang/Record"), (0, u "<init>"), (0, u "()V"), (0, .string 10), (0, u "publications"), (0, .long 9223372036854775807), (1, .methodref 14 15), (0, .class_ 16), (0, .nameAndType 17 18), (0, u "com/example/hale_pubsub/halepubsub/core/Retention"), (0, u "check"), (0, u "(Ljava/lang/String;Ljava/lang/Long;J)V"), (0, .string 20), (0, u "bytes"), (0, .string 22), (0, u "age in seconds"), (0, .long 9223372036854775), (1, .fieldref 14 26), (0, .nameAndType 27 28), (0, u "maxPublications"), (0, u "Ljava/lang/Long;"), (0, .fieldref 14 30), (0, .nameAndType 31 28), (0, u "maxBytes"), (0, .fieldref 14 33), (0, .nameAndType 34 28), (0, u "maxAgeSeconds"), (0, .methodref 1 36), (0, .nameAndType 37 38), (0, u "longValue"), (0, u "()J"), (30, u "NONE"), (0, u "Lcom/example/hale_pubsub/halepubsub/core/Retention;"), (10, .long 1000), (13, u "(Ljava/lang/Long;Ljava/lang/Long;Ljava/lang/Long;)V"), (0, u "MOST_AGE_SECONDS"), (0, u "J"), (9, u "maxAgeMillis"), (6, .class_ 115), (0, u "com/example/hale_pubsub/halepubsub/core/Retention$Mark")] 21

def k11c0 : Code := { maxStack := 4, maxLocals := 4, code := prog_40_method_1_code, exceptionTable := #[], attributes := #[] }
def k11m0 : Method := { name := "<init>", desc := "(Ljava/lang/Long;Ljava/lang/Long;Ljava/lang/Long;)V", sig := { parameters := [(.object "java/lang/Long"), (.object "java/lang/Long"), (.object "java/lang/Long")], returnType := none }, accessFlags := 1, code := some k11c0 }
def k11c1 : Code := { maxStack := 5, maxLocals := 4, code := prog_40_method_2_code, exceptionTable := #[], attributes := #[] }
def k11m1 : Method := { name := "check", desc := "(Ljava/lang/String;Ljava/lang/Long;J)V", sig := { parameters := [(.object "java/lang/String"), (.object "java/lang/Long"), .long], returnType := none }, accessFlags := 10, code := some k11c1 }
def k11c2 : Code := { maxStack := 4, maxLocals := 1, code := prog_40_method_5_code, exceptionTable := #[], attributes := #[] }
def k11m2 : Method := { name := "maxAgeMillis", desc := "()J", sig := { parameters := [], returnType := some .long }, accessFlags := 0, code := some k11c2 }
/-- com/example/hale_pubsub/halepubsub/core/Retention -/
def k11 : Class := { plain "com/example/hale_pubsub/halepubsub/core/Retention" (some 10) with
  accessFlags := 49
  interfaces := #[]
  cf := some (fileOf pool11 14 #[.nestMembers #[114]] #[{ accessFlags := 1, nameIndex := 7, descriptorIndex := 95, attributes := #[] }, { accessFlags := 10, nameIndex := 17, descriptorIndex := 18, attributes := #[] }, { accessFlags := 0, nameIndex := 107, descriptorIndex := 38, attributes := #[] }] 49 4 #[] #[{ accessFlags := 18, nameIndex := 27, descriptorIndex := 28, attributes := #[] }, { accessFlags := 18, nameIndex := 31, descriptorIndex := 28, attributes := #[] }, { accessFlags := 18, nameIndex := 34, descriptorIndex := 28, attributes := #[] }, { accessFlags := 25, nameIndex := 69, descriptorIndex := 70, attributes := #[] }, { accessFlags := 25, nameIndex := 96, descriptorIndex := 97, attributes := #[] }])
  fields := #[{ name := "maxPublications", type := (.object "java/lang/Long"), accessFlags := 18, slot := 0, constantValue := 0 }, { name := "maxBytes", type := (.object "java/lang/Long"), accessFlags := 18, slot := 1, constantValue := 0 }, { name := "maxAgeSeconds", type := (.object "java/lang/Long"), accessFlags := 18, slot := 2, constantValue := 0 }, { name := "NONE", type := (.object "com/example/hale_pubsub/halepubsub/core/Retention"), accessFlags := 25, slot := 0, constantValue := 0 }, { name := "MOST_AGE_SECONDS", type := .long, accessFlags := 25, slot := 1, constantValue := 0 }]
  methods := #[k11m0, k11m1, k11m2]
  instanceTypes := #[(.object "java/lang/Long"), (.object "java/lang/Long"), (.object "java/lang/Long")]
  staticTypes := #[(.object "com/example/hale_pubsub/halepubsub/core/Retention"), .long]
  resolved := Array.replicate 137 none
  statics := none }

def pool12 : Array CpInfo := pool [(2, .class_ 4), (1, u "java/lang/CharSequence"), (42, .class_ 48), (0, u "java/lang/CharSequence$1CodePointIterator"), (10, .class_ 60), (0, u "java/lang/CharSequence$1CharIterator"), (5, .class_ 67), (0, u "java/lang/Object")] 63

/-- java/lang/CharSequence -/
def k12 : Class := { plain "java/lang/CharSequence" (some 0) with
  accessFlags := 1537
  interfaces := #[]
  cf := some (fileOf pool12 2 #[.nestMembers #[47, 59]] #[] 1537 66 #[] #[])
  fields := #[]
  methods := #[]
  instanceTypes := #[]
  staticTypes := #[]
  resolved := Array.replicate 131 none
  statics := none }

def pool13 : Array CpInfo := pool [(2, .class_ 4), (1, u "java/lang/Object"), (0, u "<init>"), (0, u "()V"), (3, .class_ 12), (1, u "java/lang/String"), (0, u "value"), (0, u "[B"), (2, u "coder"), (0, u "B"), (2, u "hash"), (0, u "I"), (2, u "hashIsZero"), (0, u "Z"), (13, u "COMPACT_STRINGS"), (534, .class_ 576), (0, u "java/lang/CharSequence"), (22, u "CASE_INSENSITIVE_ORDER"), (0, u "Ljava/util/Comparator;"), (500, u "serialPersistentFields"), (0, u "[Ljava/io/ObjectStreamField;"), (0, .class_ 1104), (0, u "java/lang/String$CaseInsensitiveComparator"), (1, .class_ 1107), (0, u "java/io/Serializable"), (0, .class_ 1109), (0, u "java/lang/Comparable"), (0, .class_ 1111), (0, u "java/lang/constant/Constable"), (0, .class_ 1113), (0, u "java/lang/constant/ConstantDesc"), (2, u "serialVersionUID"), (0, u "J"), (3, u "REPL"), (0, u "C"), (2, u "LATIN1"), (1, u "UTF16")] 323

def k13m0 : Method := { name := "<init>", desc := "()V", sig := { parameters := [], returnType := none }, accessFlags := 1, code := none }
/-- java/lang/String -/
def k13 : Class := { plain "java/lang/String" (some 0) with
  accessFlags := 49
  interfaces := #[3, 5, 12, 6, 7]
  cf := some (fileOf pool13 10 #[.nestMembers #[1103]] #[{ accessFlags := 1, nameIndex := 5, descriptorIndex := 6, attributes := #[] }] 49 2 #[1106, 1108, 575, 1110, 1112] #[{ accessFlags := 18, nameIndex := 13, descriptorIndex := 14, attributes := #[] }, { accessFlags := 18, nameIndex := 17, descriptorIndex := 18, attributes := #[] }, { accessFlags := 2, nameIndex := 21, descriptorIndex := 22, attributes := #[] }, { accessFlags := 2, nameIndex := 25, descriptorIndex := 26, attributes := #[] }, { accessFlags := 26, nameIndex := 1116, descriptorIndex := 1117, attributes := #[] }, { accessFlags := 24, nameIndex := 40, descriptorIndex := 26, attributes := #[] }, { accessFlags := 26, nameIndex := 1101, descriptorIndex := 1102, attributes := #[] }, { accessFlags := 26, nameIndex := 1121, descriptorIndex := 1122, attributes := #[] }, { accessFlags := 25, nameIndex := 599, descriptorIndex := 600, attributes := #[] }, { accessFlags := 24, nameIndex := 1125, descriptorIndex := 18, attributes := #[] }, { accessFlags := 24, nameIndex := 1127, descriptorIndex := 18, attributes := #[] }])
  fields := #[{ name := "value", type := (.array .byte), accessFlags := 18, slot := 0, constantValue := 0 }, { name := "coder", type := .byte, accessFlags := 18, slot := 1, constantValue := 0 }, { name := "hash", type := .int, accessFlags := 2, slot := 2, constantValue := 0 }, { name := "hashIsZero", type := .boolean, accessFlags := 2, slot := 3, constantValue := 0 }, { name := "serialVersionUID", type := .long, accessFlags := 26, slot := 0, constantValue := 0 }, { name := "COMPACT_STRINGS", type := .boolean, accessFlags := 24, slot := 1, constantValue := 0 }, { name := "serialPersistentFields", type := (.array (.object "java/io/ObjectStreamField")), accessFlags := 26, slot := 2, constantValue := 0 }, { name := "REPL", type := .char, accessFlags := 26, slot := 3, constantValue := 0 }, { name := "CASE_INSENSITIVE_ORDER", type := (.object "java/util/Comparator"), accessFlags := 25, slot := 4, constantValue := 0 }, { name := "LATIN1", type := .byte, accessFlags := 24, slot := 5, constantValue := 0 }, { name := "UTF16", type := .byte, accessFlags := 24, slot := 6, constantValue := 0 }]
  methods := #[k13m0]
  instanceTypes := #[(.array .byte), .byte, .int, .boolean]
  staticTypes := #[.long, .boolean, (.array (.object "java/io/ObjectStreamField")), .char, (.object "java/util/Comparator"), .byte, .byte]
  resolved := Array.replicate 1451 none
  statics := none }

def pool14 : Array CpInfo := pool [(1, u "java/lang/Cloneable"), (0, .class_ 1), (0, u "java/lang/Object"), (0, .class_ 3)] 3

/-- java/lang/Cloneable -/
def k14 : Class := { plain "java/lang/Cloneable" (some 0) with
  accessFlags := 1537
  interfaces := #[]
  cf := some (fileOf pool14 2 #[] #[] 1537 4 #[] #[])
  fields := #[]
  methods := #[]
  instanceTypes := #[]
  staticTypes := #[]
  resolved := Array.replicate 8 none
  statics := none }

/-- the primitive byte -/
def k15 : Class := { plain "byte" none with kind := .primitive 'B', accessFlags := 0x411 }
/-- [B -/
def k16 : Class := { plain "[B" (some 0) with kind := .array 15 .byte, interfaces := #[14, 3], accessFlags := 1041 }

/-- the primitive int -/
def k17 : Class := { plain "int" none with kind := .primitive 'I', accessFlags := 0x411 }
/-- [I -/
def k18 : Class := { plain "[I" (some 0) with kind := .array 17 .int, interfaces := #[14, 3], accessFlags := 1041 }

/-- [Ljava/lang/Long; -/
def k19 : Class := { plain "[Ljava/lang/Long;" (some 0) with kind := .array 8 (.object "java/lang/Long"), interfaces := #[14, 3], accessFlags := 1041 }

def heap : Heap := #[{ cls := 9, slots := #[.ref 1, .null, .int 0], vm := .statics 9 },
  { cls := 19, slots := #[.ref 2, .ref 3, .ref 4, .ref 5, .ref 6, .ref 7, .ref 8, .ref 9, .ref 10, .ref 11, .ref 12, .ref 13, .ref 14, .ref 15, .ref 16, .ref 17, .ref 18, .ref 19, .ref 20, .ref 21, .ref 22, .ref 23, .ref 24, .ref 25, .ref 26, .ref 27, .ref 28, .ref 29, .ref 30, .ref 31, .ref 32, .ref 33, .ref 34, .ref 35, .ref 36, .ref 37, .ref 38, .ref 39, .ref 40, .ref 41, .ref 42, .ref 43, .ref 44, .ref 45, .ref 46, .ref 47, .ref 48, .ref 49, .ref 50, .ref 51, .ref 52, .ref 53, .ref 54, .ref 55, .ref 56, .ref 57, .ref 58, .ref 59, .ref 60, .ref 61, .ref 62, .ref 63, .ref 64, .ref 65, .ref 66, .ref 67, .ref 68, .ref 69, .ref 70, .ref 71, .ref 72, .ref 73, .ref 74, .ref 75, .ref 76, .ref 77, .ref 78, .ref 79, .ref 80, .ref 81, .ref 82, .ref 83, .ref 84, .ref 85, .ref 86, .ref 87, .ref 88, .ref 89, .ref 90, .ref 91, .ref 92, .ref 93, .ref 94, .ref 95, .ref 96, .ref 97, .ref 98, .ref 99, .ref 100, .ref 101, .ref 102, .ref 103, .ref 104, .ref 105, .ref 106, .ref 107, .ref 108, .ref 109, .ref 110, .ref 111, .ref 112, .ref 113, .ref 114, .ref 115, .ref 116, .ref 117, .ref 118, .ref 119, .ref 120, .ref 121, .ref 122, .ref 123, .ref 124, .ref 125, .ref 126, .ref 127, .ref 128, .ref 129, .ref 130, .ref 131, .ref 132, .ref 133, .ref 134, .ref 135, .ref 136, .ref 137, .ref 138, .ref 139, .ref 140, .ref 141, .ref 142, .ref 143, .ref 144, .ref 145, .ref 146, .ref 147, .ref 148, .ref 149, .ref 150, .ref 151, .ref 152, .ref 153, .ref 154, .ref 155, .ref 156, .ref 157, .ref 158, .ref 159, .ref 160, .ref 161, .ref 162, .ref 163, .ref 164, .ref 165, .ref 166, .ref 167, .ref 168, .ref 169, .ref 170, .ref 171, .ref 172, .ref 173, .ref 174, .ref 175, .ref 176, .ref 177, .ref 178, .ref 179, .ref 180, .ref 181, .ref 182, .ref 183, .ref 184, .ref 185, .ref 186, .ref 187, .ref 188, .ref 189, .ref 190, .ref 191, .ref 192, .ref 193, .ref 194, .ref 195, .ref 196, .ref 197, .ref 198, .ref 199, .ref 200, .ref 201, .ref 202, .ref 203, .ref 204, .ref 205, .ref 206, .ref 207, .ref 208, .ref 209, .ref 210, .ref 211, .ref 212, .ref 213, .ref 214, .ref 215, .ref 216, .ref 217, .ref 218, .ref 219, .ref 220, .ref 221, .ref 222, .ref 223, .ref 224, .ref 225, .ref 226, .ref 227, .ref 228, .ref 229, .ref 230, .ref 231, .ref 232, .ref 233, .ref 234, .ref 235, .ref 236, .ref 237, .ref 238, .ref 239, .ref 240, .ref 241, .ref 242, .ref 243, .ref 244, .ref 245, .ref 246, .ref 247, .ref 248, .ref 249, .ref 250, .ref 251, .ref 252, .ref 253, .ref 254, .ref 255, .ref 256, .ref 257], vm := .none },
  { cls := 8, slots := #[.long (-128)], vm := .none },
  { cls := 8, slots := #[.long (-127)], vm := .none },
  { cls := 8, slots := #[.long (-126)], vm := .none },
  { cls := 8, slots := #[.long (-125)], vm := .none },
  { cls := 8, slots := #[.long (-124)], vm := .none },
  { cls := 8, slots := #[.long (-123)], vm := .none },
  { cls := 8, slots := #[.long (-122)], vm := .none },
  { cls := 8, slots := #[.long (-121)], vm := .none },
  { cls := 8, slots := #[.long (-120)], vm := .none },
  { cls := 8, slots := #[.long (-119)], vm := .none },
  { cls := 8, slots := #[.long (-118)], vm := .none },
  { cls := 8, slots := #[.long (-117)], vm := .none },
  { cls := 8, slots := #[.long (-116)], vm := .none },
  { cls := 8, slots := #[.long (-115)], vm := .none },
  { cls := 8, slots := #[.long (-114)], vm := .none },
  { cls := 8, slots := #[.long (-113)], vm := .none },
  { cls := 8, slots := #[.long (-112)], vm := .none },
  { cls := 8, slots := #[.long (-111)], vm := .none },
  { cls := 8, slots := #[.long (-110)], vm := .none },
  { cls := 8, slots := #[.long (-109)], vm := .none },
  { cls := 8, slots := #[.long (-108)], vm := .none },
  { cls := 8, slots := #[.long (-107)], vm := .none },
  { cls := 8, slots := #[.long (-106)], vm := .none },
  { cls := 8, slots := #[.long (-105)], vm := .none },
  { cls := 8, slots := #[.long (-104)], vm := .none },
  { cls := 8, slots := #[.long (-103)], vm := .none },
  { cls := 8, slots := #[.long (-102)], vm := .none },
  { cls := 8, slots := #[.long (-101)], vm := .none },
  { cls := 8, slots := #[.long (-100)], vm := .none },
  { cls := 8, slots := #[.long (-99)], vm := .none },
  { cls := 8, slots := #[.long (-98)], vm := .none },
  { cls := 8, slots := #[.long (-97)], vm := .none },
  { cls := 8, slots := #[.long (-96)], vm := .none },
  { cls := 8, slots := #[.long (-95)], vm := .none },
  { cls := 8, slots := #[.long (-94)], vm := .none },
  { cls := 8, slots := #[.long (-93)], vm := .none },
  { cls := 8, slots := #[.long (-92)], vm := .none },
  { cls := 8, slots := #[.long (-91)], vm := .none },
  { cls := 8, slots := #[.long (-90)], vm := .none },
  { cls := 8, slots := #[.long (-89)], vm := .none },
  { cls := 8, slots := #[.long (-88)], vm := .none },
  { cls := 8, slots := #[.long (-87)], vm := .none },
  { cls := 8, slots := #[.long (-86)], vm := .none },
  { cls := 8, slots := #[.long (-85)], vm := .none },
  { cls := 8, slots := #[.long (-84)], vm := .none },
  { cls := 8, slots := #[.long (-83)], vm := .none },
  { cls := 8, slots := #[.long (-82)], vm := .none },
  { cls := 8, slots := #[.long (-81)], vm := .none },
  { cls := 8, slots := #[.long (-80)], vm := .none },
  { cls := 8, slots := #[.long (-79)], vm := .none },
  { cls := 8, slots := #[.long (-78)], vm := .none },
  { cls := 8, slots := #[.long (-77)], vm := .none },
  { cls := 8, slots := #[.long (-76)], vm := .none },
  { cls := 8, slots := #[.long (-75)], vm := .none },
  { cls := 8, slots := #[.long (-74)], vm := .none },
  { cls := 8, slots := #[.long (-73)], vm := .none },
  { cls := 8, slots := #[.long (-72)], vm := .none },
  { cls := 8, slots := #[.long (-71)], vm := .none },
  { cls := 8, slots := #[.long (-70)], vm := .none },
  { cls := 8, slots := #[.long (-69)], vm := .none },
  { cls := 8, slots := #[.long (-68)], vm := .none },
  { cls := 8, slots := #[.long (-67)], vm := .none },
  { cls := 8, slots := #[.long (-66)], vm := .none },
  { cls := 8, slots := #[.long (-65)], vm := .none },
  { cls := 8, slots := #[.long (-64)], vm := .none },
  { cls := 8, slots := #[.long (-63)], vm := .none },
  { cls := 8, slots := #[.long (-62)], vm := .none },
  { cls := 8, slots := #[.long (-61)], vm := .none },
  { cls := 8, slots := #[.long (-60)], vm := .none },
  { cls := 8, slots := #[.long (-59)], vm := .none },
  { cls := 8, slots := #[.long (-58)], vm := .none },
  { cls := 8, slots := #[.long (-57)], vm := .none },
  { cls := 8, slots := #[.long (-56)], vm := .none },
  { cls := 8, slots := #[.long (-55)], vm := .none },
  { cls := 8, slots := #[.long (-54)], vm := .none },
  { cls := 8, slots := #[.long (-53)], vm := .none },
  { cls := 8, slots := #[.long (-52)], vm := .none },
  { cls := 8, slots := #[.long (-51)], vm := .none },
  { cls := 8, slots := #[.long (-50)], vm := .none },
  { cls := 8, slots := #[.long (-49)], vm := .none },
  { cls := 8, slots := #[.long (-48)], vm := .none },
  { cls := 8, slots := #[.long (-47)], vm := .none },
  { cls := 8, slots := #[.long (-46)], vm := .none },
  { cls := 8, slots := #[.long (-45)], vm := .none },
  { cls := 8, slots := #[.long (-44)], vm := .none },
  { cls := 8, slots := #[.long (-43)], vm := .none },
  { cls := 8, slots := #[.long (-42)], vm := .none },
  { cls := 8, slots := #[.long (-41)], vm := .none },
  { cls := 8, slots := #[.long (-40)], vm := .none },
  { cls := 8, slots := #[.long (-39)], vm := .none },
  { cls := 8, slots := #[.long (-38)], vm := .none },
  { cls := 8, slots := #[.long (-37)], vm := .none },
  { cls := 8, slots := #[.long (-36)], vm := .none },
  { cls := 8, slots := #[.long (-35)], vm := .none },
  { cls := 8, slots := #[.long (-34)], vm := .none },
  { cls := 8, slots := #[.long (-33)], vm := .none },
  { cls := 8, slots := #[.long (-32)], vm := .none },
  { cls := 8, slots := #[.long (-31)], vm := .none },
  { cls := 8, slots := #[.long (-30)], vm := .none },
  { cls := 8, slots := #[.long (-29)], vm := .none },
  { cls := 8, slots := #[.long (-28)], vm := .none },
  { cls := 8, slots := #[.long (-27)], vm := .none },
  { cls := 8, slots := #[.long (-26)], vm := .none },
  { cls := 8, slots := #[.long (-25)], vm := .none },
  { cls := 8, slots := #[.long (-24)], vm := .none },
  { cls := 8, slots := #[.long (-23)], vm := .none },
  { cls := 8, slots := #[.long (-22)], vm := .none },
  { cls := 8, slots := #[.long (-21)], vm := .none },
  { cls := 8, slots := #[.long (-20)], vm := .none },
  { cls := 8, slots := #[.long (-19)], vm := .none },
  { cls := 8, slots := #[.long (-18)], vm := .none },
  { cls := 8, slots := #[.long (-17)], vm := .none },
  { cls := 8, slots := #[.long (-16)], vm := .none },
  { cls := 8, slots := #[.long (-15)], vm := .none },
  { cls := 8, slots := #[.long (-14)], vm := .none },
  { cls := 8, slots := #[.long (-13)], vm := .none },
  { cls := 8, slots := #[.long (-12)], vm := .none },
  { cls := 8, slots := #[.long (-11)], vm := .none },
  { cls := 8, slots := #[.long (-10)], vm := .none },
  { cls := 8, slots := #[.long (-9)], vm := .none },
  { cls := 8, slots := #[.long (-8)], vm := .none },
  { cls := 8, slots := #[.long (-7)], vm := .none },
  { cls := 8, slots := #[.long (-6)], vm := .none },
  { cls := 8, slots := #[.long (-5)], vm := .none },
  { cls := 8, slots := #[.long (-4)], vm := .none },
  { cls := 8, slots := #[.long (-3)], vm := .none },
  { cls := 8, slots := #[.long (-2)], vm := .none },
  { cls := 8, slots := #[.long (-1)], vm := .none },
  { cls := 8, slots := #[.long (0)], vm := .none },
  { cls := 8, slots := #[.long (1)], vm := .none },
  { cls := 8, slots := #[.long (2)], vm := .none },
  { cls := 8, slots := #[.long (3)], vm := .none },
  { cls := 8, slots := #[.long (4)], vm := .none },
  { cls := 8, slots := #[.long (5)], vm := .none },
  { cls := 8, slots := #[.long (6)], vm := .none },
  { cls := 8, slots := #[.long (7)], vm := .none },
  { cls := 8, slots := #[.long (8)], vm := .none },
  { cls := 8, slots := #[.long (9)], vm := .none },
  { cls := 8, slots := #[.long (10)], vm := .none },
  { cls := 8, slots := #[.long (11)], vm := .none },
  { cls := 8, slots := #[.long (12)], vm := .none },
  { cls := 8, slots := #[.long (13)], vm := .none },
  { cls := 8, slots := #[.long (14)], vm := .none },
  { cls := 8, slots := #[.long (15)], vm := .none },
  { cls := 8, slots := #[.long (16)], vm := .none },
  { cls := 8, slots := #[.long (17)], vm := .none },
  { cls := 8, slots := #[.long (18)], vm := .none },
  { cls := 8, slots := #[.long (19)], vm := .none },
  { cls := 8, slots := #[.long (20)], vm := .none },
  { cls := 8, slots := #[.long (21)], vm := .none },
  { cls := 8, slots := #[.long (22)], vm := .none },
  { cls := 8, slots := #[.long (23)], vm := .none },
  { cls := 8, slots := #[.long (24)], vm := .none },
  { cls := 8, slots := #[.long (25)], vm := .none },
  { cls := 8, slots := #[.long (26)], vm := .none },
  { cls := 8, slots := #[.long (27)], vm := .none },
  { cls := 8, slots := #[.long (28)], vm := .none },
  { cls := 8, slots := #[.long (29)], vm := .none },
  { cls := 8, slots := #[.long (30)], vm := .none },
  { cls := 8, slots := #[.long (31)], vm := .none },
  { cls := 8, slots := #[.long (32)], vm := .none },
  { cls := 8, slots := #[.long (33)], vm := .none },
  { cls := 8, slots := #[.long (34)], vm := .none },
  { cls := 8, slots := #[.long (35)], vm := .none },
  { cls := 8, slots := #[.long (36)], vm := .none },
  { cls := 8, slots := #[.long (37)], vm := .none },
  { cls := 8, slots := #[.long (38)], vm := .none },
  { cls := 8, slots := #[.long (39)], vm := .none },
  { cls := 8, slots := #[.long (40)], vm := .none },
  { cls := 8, slots := #[.long (41)], vm := .none },
  { cls := 8, slots := #[.long (42)], vm := .none },
  { cls := 8, slots := #[.long (43)], vm := .none },
  { cls := 8, slots := #[.long (44)], vm := .none },
  { cls := 8, slots := #[.long (45)], vm := .none },
  { cls := 8, slots := #[.long (46)], vm := .none },
  { cls := 8, slots := #[.long (47)], vm := .none },
  { cls := 8, slots := #[.long (48)], vm := .none },
  { cls := 8, slots := #[.long (49)], vm := .none },
  { cls := 8, slots := #[.long (50)], vm := .none },
  { cls := 8, slots := #[.long (51)], vm := .none },
  { cls := 8, slots := #[.long (52)], vm := .none },
  { cls := 8, slots := #[.long (53)], vm := .none },
  { cls := 8, slots := #[.long (54)], vm := .none },
  { cls := 8, slots := #[.long (55)], vm := .none },
  { cls := 8, slots := #[.long (56)], vm := .none },
  { cls := 8, slots := #[.long (57)], vm := .none },
  { cls := 8, slots := #[.long (58)], vm := .none },
  { cls := 8, slots := #[.long (59)], vm := .none },
  { cls := 8, slots := #[.long (60)], vm := .none },
  { cls := 8, slots := #[.long (61)], vm := .none },
  { cls := 8, slots := #[.long (62)], vm := .none },
  { cls := 8, slots := #[.long (63)], vm := .none },
  { cls := 8, slots := #[.long (64)], vm := .none },
  { cls := 8, slots := #[.long (65)], vm := .none },
  { cls := 8, slots := #[.long (66)], vm := .none },
  { cls := 8, slots := #[.long (67)], vm := .none },
  { cls := 8, slots := #[.long (68)], vm := .none },
  { cls := 8, slots := #[.long (69)], vm := .none },
  { cls := 8, slots := #[.long (70)], vm := .none },
  { cls := 8, slots := #[.long (71)], vm := .none },
  { cls := 8, slots := #[.long (72)], vm := .none },
  { cls := 8, slots := #[.long (73)], vm := .none },
  { cls := 8, slots := #[.long (74)], vm := .none },
  { cls := 8, slots := #[.long (75)], vm := .none },
  { cls := 8, slots := #[.long (76)], vm := .none },
  { cls := 8, slots := #[.long (77)], vm := .none },
  { cls := 8, slots := #[.long (78)], vm := .none },
  { cls := 8, slots := #[.long (79)], vm := .none },
  { cls := 8, slots := #[.long (80)], vm := .none },
  { cls := 8, slots := #[.long (81)], vm := .none },
  { cls := 8, slots := #[.long (82)], vm := .none },
  { cls := 8, slots := #[.long (83)], vm := .none },
  { cls := 8, slots := #[.long (84)], vm := .none },
  { cls := 8, slots := #[.long (85)], vm := .none },
  { cls := 8, slots := #[.long (86)], vm := .none },
  { cls := 8, slots := #[.long (87)], vm := .none },
  { cls := 8, slots := #[.long (88)], vm := .none },
  { cls := 8, slots := #[.long (89)], vm := .none },
  { cls := 8, slots := #[.long (90)], vm := .none },
  { cls := 8, slots := #[.long (91)], vm := .none },
  { cls := 8, slots := #[.long (92)], vm := .none },
  { cls := 8, slots := #[.long (93)], vm := .none },
  { cls := 8, slots := #[.long (94)], vm := .none },
  { cls := 8, slots := #[.long (95)], vm := .none },
  { cls := 8, slots := #[.long (96)], vm := .none },
  { cls := 8, slots := #[.long (97)], vm := .none },
  { cls := 8, slots := #[.long (98)], vm := .none },
  { cls := 8, slots := #[.long (99)], vm := .none },
  { cls := 8, slots := #[.long (100)], vm := .none },
  { cls := 8, slots := #[.long (101)], vm := .none },
  { cls := 8, slots := #[.long (102)], vm := .none },
  { cls := 8, slots := #[.long (103)], vm := .none },
  { cls := 8, slots := #[.long (104)], vm := .none },
  { cls := 8, slots := #[.long (105)], vm := .none },
  { cls := 8, slots := #[.long (106)], vm := .none },
  { cls := 8, slots := #[.long (107)], vm := .none },
  { cls := 8, slots := #[.long (108)], vm := .none },
  { cls := 8, slots := #[.long (109)], vm := .none },
  { cls := 8, slots := #[.long (110)], vm := .none },
  { cls := 8, slots := #[.long (111)], vm := .none },
  { cls := 8, slots := #[.long (112)], vm := .none },
  { cls := 8, slots := #[.long (113)], vm := .none },
  { cls := 8, slots := #[.long (114)], vm := .none },
  { cls := 8, slots := #[.long (115)], vm := .none },
  { cls := 8, slots := #[.long (116)], vm := .none },
  { cls := 8, slots := #[.long (117)], vm := .none },
  { cls := 8, slots := #[.long (118)], vm := .none },
  { cls := 8, slots := #[.long (119)], vm := .none },
  { cls := 8, slots := #[.long (120)], vm := .none },
  { cls := 8, slots := #[.long (121)], vm := .none },
  { cls := 8, slots := #[.long (122)], vm := .none },
  { cls := 8, slots := #[.long (123)], vm := .none },
  { cls := 8, slots := #[.long (124)], vm := .none },
  { cls := 8, slots := #[.long (125)], vm := .none },
  { cls := 8, slots := #[.long (126)], vm := .none },
  { cls := 8, slots := #[.long (127)], vm := .none }]
def classes : Array Class := #[k0, k1, k2, k3, k4, k5, k6, k7, k8, k9, k10, k11, k12, k13, k14, k15, k16, k17, k18, k19]
def interned : List (Array UInt16 × Addr) := []
def slotsUsed : Nat := 515
def theMethod : MethodId := ⟨1, 1⟩
def args0 : Array Value := #[.long 1, .long 3, .long 2, .int 2]
def aboutOver (below : List Frame) : State where
  vm := { classes := classes, interned := interned.toArray }
  heap := heap
  slotsUsed := slotsUsed
  threads := #[{ frames := .invoking theMethod args0 :: below }]
def below0 : List Frame := [.native { method := ⟨0, 0⟩, args := #[] }]
def about1 : State := aboutOver below0
def p0 : Program := .bare "" "" ""
def e0 : Env := launch0.env 0 0 0
theorem w_frames : about1.frames = Frame.invoking theMethod args0 :: below0 := rfl
set_option maxRecDepth 65536 in
theorem w_args : argsFit about1.vm theMethod args0 = true := by decide +kernel
set_option maxRecDepth 65536 in
theorem w_heap : heapFits about1 = true := by decide +kernel
set_option maxRecDepth 65536 in
theorem w_runnable : about1.curStatus? = some .runnable := by decide +kernel
set_option maxRecDepth 65536 in
theorem w_alone : about1.alone = true := by decide +kernel
set_option maxRecDepth 65536 in
theorem w_named : about1.methodNamed? x = some theMethod := by decide +kernel
set_option maxRecDepth 65536 in
theorem w_hears : about1.hears theMethod below0 = true := by decide +kernel
set_option maxRecDepth 65536 in
theorem w_ripe : about1.ripe theMethod args0 below0 = true := by decide +kernel
theorem w_running : about1.status = .running := rfl
set_option maxRecDepth 65536 in
theorem w_room : about1.hasRoom e0.platform room_1 = true :=
  launch0.hasRoom_least _ room_1 (by decide +kernel) (by decide +kernel) (by decide +kernel) (by decide +kernel) (by decide +kernel) (by decide +kernel)
theorem allAtoms_all (ts : List Jvm.Cond) (a : Array Jvm.Value) (st : Jvm.State) : (allAtoms ts).before a st = ts.all (fun c => c.before a st) := by
  induction ts with
  | nil => rfl
  | cons c t ih =>
    show (Jvm.Cond.and c (allAtoms t)).before a st = _
    rw [Jvm.Cond.before_and, ih, List.all_cons]
def words1 : List Jvm.Cond := Jvm.Cond.code x code maxLocals ret :: tables_1
/-- a 'code' word, met by the world's own term for the bytes: nothing is compared byte by byte -/
theorem code_word {y : MethodName} {bytes : ByteArray} {mx : Nat} {rt : Option FieldType} {a : Array Value} {s : State} {m : MethodId} {meth : Method} {c : Code} (h1 : s.methodNamed? y = some m) (h2 : s.vm.method? m = some meth) (h3 : meth.code = some c) (h4 : c.code = bytes)
    (h5 : (c.maxLocals == mx && c.exceptionTable.isEmpty && decide (c.maxStack ≤ mostOperands) && decide (meth.sig.returnType = rt) && !meth.locks && decide (parseMethodDescriptor y.desc = some meth.sig)) = true) : (Jvm.Cond.code y bytes mx rt).before a s = true := by
  simp only [Bool.and_eq_true, beq_iff_eq, Bool.not_eq_true', decide_eq_true_eq] at h5
  obtain ⟨⟨⟨⟨⟨g1, g2⟩, g3⟩, g4⟩, g5⟩, g6⟩ := h5
  simp [Cond.before, Cond.holds, Cond.value, h1, h2, h3, h4, g1, g2, g3, g4, g5, g6]
def isCode : Jvm.Cond → Bool
  | .code _ _ _ _ => true
  | _ => false
theorem all_split {L : List Jvm.Cond} {P : Jvm.Cond → Bool} (h1 : L.all (fun c => isCode c || P c) = true) (h2 : ∀ c ∈ L.filter isCode, P c = true) : L.all P = true := by
  refine List.all_eq_true.mpr fun c hc => ?_
  have h := List.all_eq_true.mp h1 c hc
  rcases Bool.eq_false_or_eq_true (isCode c) with hi | hi
  · exact h2 c (List.mem_filter.mpr ⟨hc, hi⟩)
  · simpa [hi] using h
set_option maxRecDepth 65536 in
theorem w_c0 : (Jvm.Cond.code x code maxLocals ret).before args0 about1 = true := code_word (m := ⟨1, 1⟩) (meth := k1m1) (c := k1c1) (by decide +kernel) rfl rfl rfl (by decide +kernel)
set_option maxRecDepth 65536 in
theorem w_c1 : (Jvm.Cond.code ({ cls := "java/lang/Math", name := "max", desc := "(JJ)J" } : Jvm.MethodName) jdk_29_method_66_code (4 : Nat) (Option.some Jvm.ClassFile.FieldType.long)).before args0 about1 = true := code_word (m := ⟨2, 1⟩) (meth := k2m1) (c := k2c1) (by decide +kernel) rfl rfl rfl (by decide +kernel)
set_option maxRecDepth 65536 in
theorem w_c2 : (Jvm.Cond.code ({ cls := "java/lang/Long", name := "valueOf", desc := "(J)Ljava/lang/Long;" } : Jvm.MethodName) jdk_35_method_24_code (3 : Nat) (Option.some (Jvm.ClassFile.FieldType.object "java/lang/Long"))).before args0 about1 = true := code_word (m := ⟨8, 0⟩) (meth := k8m0) (c := k8c0) (by decide +kernel) rfl rfl rfl (by decide +kernel)
set_option maxRecDepth 65536 in
theorem w_c3 : (Jvm.Cond.code ({ cls := "java/lang/Long", name := "<init>", desc := "(J)V" } : Jvm.MethodName) jdk_35_method_26_code (3 : Nat) (Option.none : Option Jvm.ClassFile.FieldType)).before args0 about1 = true := code_word (m := ⟨8, 1⟩) (meth := k8m1) (c := k8c1) (by decide +kernel) rfl rfl rfl (by decide +kernel)
set_option maxRecDepth 65536 in
theorem w_c4 : (Jvm.Cond.code ({ cls := "java/lang/Number", name := "<init>", desc := "()V" } : Jvm.MethodName) jdk_18_method_1_code (1 : Nat) (Option.none : Option Jvm.ClassFile.FieldType)).before args0 about1 = true := code_word (m := ⟨4, 0⟩) (meth := k4m0) (c := k4c0) (by decide +kernel) rfl rfl rfl (by decide +kernel)
set_option maxRecDepth 65536 in
theorem w_c5 : (Jvm.Cond.code ({ cls := "java/lang/Object", name := "<init>", desc := "()V" } : Jvm.MethodName) object_method_1_code (1 : Nat) (Option.none : Option Jvm.ClassFile.FieldType)).before args0 about1 = true := code_word (m := ⟨0, 0⟩) (meth := k0m0) (c := k0c0) (by decide +kernel) rfl rfl rfl (by decide +kernel)
set_option maxRecDepth 65536 in
theorem w_c6 : (Jvm.Cond.code ({ cls := "com/example/hale_pubsub/halepubsub/core/Retention", name := "<init>", desc := "(Ljava/lang/Long;Ljava/lang/Long;Ljava/lang/Long;)V" } : Jvm.MethodName) prog_40_method_1_code (4 : Nat) (Option.none : Option Jvm.ClassFile.FieldType)).before args0 about1 = true := code_word (m := ⟨11, 0⟩) (meth := k11m0) (c := k11c0) (by decide +kernel) rfl rfl rfl (by decide +kernel)
set_option maxRecDepth 65536 in
theorem w_c7 : (Jvm.Cond.code ({ cls := "java/lang/Record", name := "<init>", desc := "()V" } : Jvm.MethodName) jdk_30_method_1_code (1 : Nat) (Option.none : Option Jvm.ClassFile.FieldType)).before args0 about1 = true := code_word (m := ⟨10, 0⟩) (meth := k10m0) (c := k10c0) (by decide +kernel) rfl rfl rfl (by decide +kernel)
set_option maxRecDepth 65536 in
theorem w_c8 : (Jvm.Cond.code ({ cls := "com/example/hale_pubsub/halepubsub/core/Retention", name := "check", desc := "(Ljava/lang/String;Ljava/lang/Long;J)V" } : Jvm.MethodName) prog_40_method_2_code (4 : Nat) (Option.none : Option Jvm.ClassFile.FieldType)).before args0 about1 = true := code_word (m := ⟨11, 1⟩) (meth := k11m1) (c := k11c1) (by decide +kernel) rfl rfl rfl (by decide +kernel)
set_option maxRecDepth 65536 in
theorem w_c9 : (Jvm.Cond.code ({ cls := "java/lang/Long", name := "longValue", desc := "()J" } : Jvm.MethodName) jdk_35_method_31_code (1 : Nat) (Option.some Jvm.ClassFile.FieldType.long)).before args0 about1 = true := code_word (m := ⟨8, 2⟩) (meth := k8m2) (c := k8c2) (by decide +kernel) rfl rfl rfl (by decide +kernel)
set_option maxRecDepth 65536 in
theorem w_c10 : (Jvm.Cond.code ({ cls := "com/example/hale_pubsub/halepubsub/core/Retention", name := "maxAgeMillis", desc := "()J" } : Jvm.MethodName) prog_40_method_5_code (1 : Nat) (Option.some Jvm.ClassFile.FieldType.long)).before args0 about1 = true := code_word (m := ⟨11, 2⟩) (meth := k11m2) (c := k11c2) (by decide +kernel) rfl rfl rfl (by decide +kernel)
def codes1 : List Jvm.Cond := [Jvm.Cond.code x code maxLocals ret, Jvm.Cond.code ({ cls := "java/lang/Math", name := "max", desc := "(JJ)J" } : Jvm.MethodName) jdk_29_method_66_code (4 : Nat) (Option.some Jvm.ClassFile.FieldType.long), Jvm.Cond.code ({ cls := "java/lang/Long", name := "valueOf", desc := "(J)Ljava/lang/Long;" } : Jvm.MethodName) jdk_35_method_24_code (3 : Nat) (Option.some (Jvm.ClassFile.FieldType.object "java/lang/Long")), Jvm.Cond.code ({ cls := "java/lang/Long", name := "<init>", desc := "(J)V" } : Jvm.MethodName) jdk_35_method_26_code (3 : Nat) (Option.none : Option Jvm.ClassFile.FieldType), Jvm.Cond.code ({ cls := "java/lang/Number", name := "<init>", desc := "()V" } : Jvm.MethodName) jdk_18_method_1_code (1 : Nat) (Option.none : Option Jvm.ClassFile.FieldType), Jvm.Cond.code ({ cls := "java/lang/Object", name := "<init>", desc := "()V" } : Jvm.MethodName) object_method_1_code (1 : Nat) (Option.none : Option Jvm.ClassFile.FieldType), Jvm.Cond.code ({ cls := "com/example/hale_pubsub/halepubsub/core/Retention", name := "<init>", desc := "(Ljava/lang/Long;Ljava/lang/Long;Ljava/lang/Long;)V" } : Jvm.MethodName) prog_40_method_1_code (4 : Nat) (Option.none : Option Jvm.ClassFile.FieldType), Jvm.Cond.code ({ cls := "java/lang/Record", name := "<init>", desc := "()V" } : Jvm.MethodName) jdk_30_method_1_code (1 : Nat) (Option.none : Option Jvm.ClassFile.FieldType), Jvm.Cond.code ({ cls := "com/example/hale_pubsub/halepubsub/core/Retention", name := "check", desc := "(Ljava/lang/String;Ljava/lang/Long;J)V" } : Jvm.MethodName) prog_40_method_2_code (4 : Nat) (Option.none : Option Jvm.ClassFile.FieldType), Jvm.Cond.code ({ cls := "java/lang/Long", name := "longValue", desc := "()J" } : Jvm.MethodName) jdk_35_method_31_code (1 : Nat) (Option.some Jvm.ClassFile.FieldType.long), Jvm.Cond.code ({ cls := "com/example/hale_pubsub/halepubsub/core/Retention", name := "maxAgeMillis", desc := "()J" } : Jvm.MethodName) prog_40_method_5_code (1 : Nat) (Option.some Jvm.ClassFile.FieldType.long)]
set_option maxRecDepth 65536 in
theorem codes_eq : words1.filter isCode = codes1 := rfl
theorem w_codes : ∀ c ∈ words1.filter isCode, c.before args0 about1 = true := by
  rw [codes_eq]
  intro c hc
  simp only [codes1, List.mem_cons, List.not_mem_nil, or_false] at hc
  rcases hc with rfl | rfl | rfl | rfl | rfl | rfl | rfl | rfl | rfl | rfl | rfl
  · exact w_c0
  · exact w_c1
  · exact w_c2
  · exact w_c3
  · exact w_c4
  · exact w_c5
  · exact w_c6
  · exact w_c7
  · exact w_c8
  · exact w_c9
  · exact w_c10
set_option maxRecDepth 65536 in
theorem w_t1 : (words1.take 24).all (fun c => isCode c || c.before args0 about1) = true := by decide +kernel
set_option maxRecDepth 65536 in
theorem w_t2 : ((words1.drop 24).take 24).all (fun c => isCode c || c.before args0 about1) = true := by decide +kernel
set_option maxRecDepth 65536 in
theorem w_t3 : (((words1.drop 24).drop 24).take 24).all (fun c => isCode c || c.before args0 about1) = true := by decide +kernel
set_option maxRecDepth 65536 in
theorem w_t4 : (((words1.drop 24).drop 24).drop 24).all (fun c => isCode c || c.before args0 about1) = true := by decide +kernel
theorem w_tables : (allAtoms (Jvm.Cond.code x code maxLocals ret :: tables_1)).before args0 about1 = true := by
  rw [allAtoms_all]
  show words1.all (fun c => c.before args0 about1) = true
  refine all_split ?_ w_codes
  rw [← List.take_append_drop 24 words1, List.all_append, w_t1, ← List.take_append_drop 24 (words1.drop 24), List.all_append, w_t2, ← List.take_append_drop 24 ((words1.drop 24).drop 24), List.all_append, w_t3, w_t4]
  rfl
set_option maxRecDepth 65536 in
theorem w_rest : rest_1_c.before args0 about1 = true := by decide +kernel
set_option maxRecDepth 65536 in
theorem w_case : (Jvm.Cond.and given_1 narrow_1).before args0 about1 = true := by decide +kernel
theorem w_applies : (headSpec (Jvm.Cond.code x code maxLocals ret :: tables_1) room_1).applies x e0.platform about1 = true :=
  (Spec.applies_iff w_frames).mpr ⟨w_running, w_runnable, w_alone, w_named, w_hears, w_ripe, w_room, w_tables⟩
theorem atStart : AtStart classFile x code maxLocals ret World_1 tables_1 room_1 Calls_1 rest_1 Pre_1 launch0 p0 e0 about1 theMethod args0 below0 :=
  ⟨lists_1, trivial, launch0.admits_env _ _ _, launch0.least_env, fairChoices_fair.cas, fairChoices_fair.clock, w_frames, w_args, w_heap, w_applies, trivial, w_rest, w_case⟩
end start1
theorem witness_1 : WitnessClaimed_1 := ⟨start1.p0, start1.e0, start1.about1, start1.theMethod, start1.args0, start1.below0, start1.atStart⟩
end Jvm.Pilot.@@N@@
