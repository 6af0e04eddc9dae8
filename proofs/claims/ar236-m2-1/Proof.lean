import JvmDerived
import JvmDerived.Pilot.@@N@@Statement
import JvmDerived.Pilot.@@N@@Code
set_option linter.unusedVariables false
set_option linter.unusedSimpArgs false
namespace Jvm.Pilot.@@N@@
open Jvm Jvm.ClassFile Sem Op Lib Jvm.Free Jvm.Stand Jvm.LawKit Jvm.RoadKit Bundle Jvm.Pilot.@@N@@.Jvm.D
/-! the end of a walk, as a goal that forks and joins can be walked under -/
def own_Go (tb : Tables) (e : Env) (below : List Frame) (P : Outcome → State → Prop) (T : State) : Prop := ∃ s₂ o, Steps tb e below T s₂ ∧ s₂.status = .running ∧ Ended s₂ below o ∧ P o s₂
theorem own_by {tb : Tables} {e : Env} {below : List Frame} {P : Outcome → State → Prop} {T T' : State} (h : ∀ t, Steps tb e below T' t → Steps tb e below T t) (g : own_Go tb e below P T') : own_Go tb e below P T := by
  obtain ⟨s2, o, h1, h2⟩ := g
  exact ⟨s2, o, h _ h1, h2⟩
def own_z (w : Int32) : Int32 := if w = 0 then 1 else 0
def own_cmp (a b : Int64) : Int32 := if a < b then -1 else if a = b then 0 else 1
theorem own_rr (p : Int32) : 1 ≤ ((1 : Int32) + ((p &&& (2147483647 : Int32)) % (2147483647 : Int32))).toInt := by
  have h1 := c_and p 2147483647 (by decide)
  have h2 := (c_irem (p &&& (2147483647 : Int32)) 2147483647 2147483647 (by decide)).1 h1.1
  have h3 := c_iadd 1 ((p &&& (2147483647 : Int32)) % (2147483647 : Int32))
  have h4 := rng32 ((1 : Int32) + ((p &&& (2147483647 : Int32)) % (2147483647 : Int32)))
  have e1 : (1 : Int32).toInt = 1 := by decide
  rw [e1, h2] at h3
  omega
theorem own_half (rr : Int32) (h : 1 ≤ rr.toInt) : ((rr / (2 : Int32)) + (1 : Int32)).toInt = rr.toInt / 2 + 1 := by
  have h1 := (c_idiv rr 2 2 (by decide) (by decide)).1 (by omega)
  have h2 := c_iadd (rr / (2 : Int32)) 1
  have h3 := rng32 ((rr / (2 : Int32)) + (1 : Int32))
  have h4 := rng32 rr
  have e1 : (1 : Int32).toInt = 1 := by decide
  rw [e1, h1] at h2
  omega
theorem own_nz (rr : Int32) (h : 1 ≤ rr.toInt) : ¬ ((rr / (2 : Int32)) + (1 : Int32)) = (0 : Int32) := by
  intro q
  have h1 := own_half rr h
  rw [q] at h1
  have e0 : (0 : Int32).toInt = 0 := by decide
  omega
theorem own_mm (rr p : Int32) (h : 1 ≤ rr.toInt) : 0 ≤ ((p &&& (2147483647 : Int32)) % ((rr / (2 : Int32)) + (1 : Int32))).toInt ∧ 2 * ((p &&& (2147483647 : Int32)) % ((rr / (2 : Int32)) + (1 : Int32))).toInt ≤ rr.toInt := by
  have h1 := c_and p 2147483647 (by decide)
  have h2 := own_half rr h
  have h3 := (c_iremV (p &&& (2147483647 : Int32)) ((rr / (2 : Int32)) + (1 : Int32))).1 h1.1 (by rw [h2]; omega)
  rw [h2] at h3
  omega
theorem own_ok1 (rr : Int32) (h : 1 ≤ rr.toInt) : ¬ rr < (1 : Int32) := by
  have e1 : (1 : Int32).toInt = 1 := by decide
  rw [Int32.lt_iff_toInt_lt, e1]; omega
theorem own_ok2 (m : Int32) (h : 0 ≤ m.toInt) : ¬ m < (0 : Int32) := by
  have e1 : (0 : Int32).toInt = 0 := by decide
  rw [Int32.lt_iff_toInt_lt, e1]; omega
theorem own_ok3 (rr m : Int32) (h : 0 ≤ m.toInt) (h1 : 2 * m.toInt ≤ rr.toInt) : ¬ rr.toInt64 < (2 : Int64) * m.toInt64 := by
  have h2 := c_lmul 2 m.toInt64
  have h3 := rng64 ((2 : Int64) * m.toInt64)
  have h4 := rng32 rr
  have e1 : (2 : Int64).toInt = 2 := by decide
  rw [e1, c_i2l] at h2
  rw [Int64.lt_iff_toInt_lt, c_i2l]
  omega
theorem own_c (m rr : Int32) : own_cmp (m.toInt64 * (1 : Int32).toInt64) ((0 : Int32).toInt64 * rr.toInt64) = 0 ↔ m = 0 := by
  have e1 : m.toInt64 * (1 : Int32).toInt64 = m.toInt64 := by
    rw [show (1 : Int32).toInt64 = (1 : Int64) from by decide, Int64.mul_one]
  have e2 : (0 : Int32).toInt64 * rr.toInt64 = 0 := by
    rw [show (0 : Int32).toInt64 = (0 : Int64) from by decide, Int64.zero_mul]
  rw [e1, e2]
  unfold own_cmp
  have h1 : m.toInt64 < (0 : Int64) ↔ m.toInt < 0 := by
    rw [Int64.lt_iff_toInt_lt, c_i2l, show (0 : Int64).toInt = 0 from by decide]
  have h2 : m.toInt64 = (0 : Int64) ↔ m.toInt = 0 := by
    rw [← Int64.toInt_inj, c_i2l, show (0 : Int64).toInt = 0 from by decide]
  have h3 : m = 0 ↔ m.toInt = 0 := by
    rw [← Int32.toInt_inj, show (0 : Int32).toInt = 0 from by decide]
  simp only [h1, h2, h3]
  by_cases q1 : m.toInt < 0
  · rw [if_pos q1]
    exact ⟨fun q => absurd q (by decide), fun q => by omega⟩
  · rw [if_neg q1]
    by_cases q2 : m.toInt = 0
    · simp [q2]
    · rw [if_neg q2]
      exact ⟨fun q => absurd q (by decide), fun q => absurd q q2⟩
theorem d2_0 : decode jdk_30_method_1_code 0 = .ok (.aload_n 0, 1) := by decide +kernel
theorem d2_1 : decode jdk_30_method_1_code 1 = .ok (.invokespecial 1, 3) := by decide +kernel
theorem d2_4 : decode jdk_30_method_1_code 4 = .ok (.return_, 1) := by decide +kernel
theorem pn_2 : plainName "java/lang/Record" = true := by first | (simp [plainName, overriddenIn]; done) | decide +kernel
theorem ef_2 (m : MethodId) (a1 : Addr) : entryFrame m #[(.ref a1)] 1 = mkF m 0 #[.val (.ref a1)] [] := by first | (simp [entryFrame, mkF, argsToLocals, Value.category]; done) | rfl
def Q2 (Z : State) (a1 : Addr) (h0 : Heap) (n0 : Nat) (v : Option Value) (h : Heap) (L : List Loc) : Prop := v = none ∧ Fr n0 L ∧ h = h0
abbrev P2 (Z : State) (a1 : Addr) (h0 : Heap) (n0 : Nat) (s : State) : Outcome → State → Prop := fun o U' => ∃ v L, o = .returned v ∧ Q2 Z a1 h0 n0 v U'.heap L ∧ FrameEnd s o U' L ({ frames := 1, cells := 0, slots := 0, locals := 12 } : Room).cells ({ frames := 1, cells := 0, slots := 0, locals := 12 } : Room).slots
set_option maxRecDepth 65536 in
set_option maxHeartbeats 40000000 in
theorem rm2 (l : Launch) (Z : State) (a0 : Array Value) (hw : ∀ d ∈ tables_1, d.before a0 Z = true) (ws : List Jvm.Cond) (a1 : Addr) (h0 : Heap) (n0 : Nat) (Z0 : n0 ≤ h0.size) :
    MetFree l (⟨"java/lang/Record", "<init>", "()V"⟩ : MethodName) (head1 (Jvm.Cond.code (⟨"java/lang/Record", "<init>", "()V"⟩ : MethodName) jdk_30_method_1_code 1 none :: ws) ({ frames := 1, cells := 0, slots := 0, locals := 12 } : Room)) (fun a U => a = #[(.ref a1)] ∧ Z.Warmed39 U.vm ∧ U.heap = h0) (fun _ _ _ _ _ => True) (fun _ U o U' => ∃ v L, o = .returned v ∧ Q2 Z a1 h0 n0 v U'.heap L ∧ FrameEnd U o U' L ({ frames := 1, cells := 0, slots := 0, locals := 12 } : Room).cells ({ frames := 1, cells := 0, slots := 0, locals := 12 } : Room).slots) := by
  refine MetFree.of_bodySF (plainFor_of_name pn_2) hisR ?_
  intro p e s m args below meth c s₁ Bd hml0 hP hK
  obtain ⟨rfl, hZ, hh⟩ := hP
  have hx := Bd.exec
  have hby := Bd.bytes
  have hml : c.maxLocals = 1 := hml0
  have hown : s.vm.findClass "java/lang/Record" = some m.cls := findClass_of_methodNamed Bd.named
  have hnm := (name_of_methodNamed Bd.named Bd.method).1
  have X0 : Stand p l e ({ frames := 1, cells := 0, slots := 0, locals := 12 } : Room) s m #[(.ref a1)] below meth c s₁ [] 0 0 := Stand.of_body Bd
  have e0 : s₁.heap = h0 := by rw [← hh, Bd.state]; rfl
  have N0 := Fr.nil n0
  show own_Go p.tables e below (P2 Z a1 h0 n0 s) (s₁.setTop (entryFrame m #[(.ref a1)] 1))
  refine own_by (T' := s₁.setTop (mkF m 0 #[.val (.ref a1)] [])) (fun t k => castTop (ef_2 m a1) k) ?_
  show own_Go _ _ _ _ (s₁.setTop (mkF m 0 #[.val (.ref a1)] []))
  refine own_by (fun t k => XS.aloadN X0.here hx rfl (hb hby d2_0) rfl rfl k) ?_
  show own_Go _ _ _ _ (s₁.setTop (mkF m 1 #[.val (.ref a1)] [(.ref a1)]))
  obtain ⟨Ti2_1, Xi2_1, ei2_1, sti2_1⟩ := initO X0 hx hZ hown (hw _ (List.mem_of_getElem? (i := 12) rfl)) (hw _ (List.mem_of_getElem? (i := 13) rfl)) (hw _ (List.mem_of_getElem? (i := 14) rfl)) e0 (g := (mkF m 1 #[.val (.ref a1)] [(.ref a1)])) rfl (by rw [hml]; rfl) rfl (hb hby d2_1) (by decide) (W := 0) (by show 2 * 0 + _ ≤ _; exact Nat.le_of_eq rfl) (by decide)
  refine own_by (fun t k => sti2_1 t k) ?_
  show own_Go _ _ _ _ (Ti2_1.setTop (mkF m 4 #[.val (.ref a1)] []))
  obtain ⟨fs, hr, hrun, hended, hW, hsame⟩ := Xi2_1.leave (v := none) (fun _ => rfl)
  refine ⟨_, _, Xi2_1.returnOut hx Bd.returns (hb hby d2_4) hr, hrun, hended, _, _, rfl, ?_, ⟨_, rfl⟩, hW, hsame.mono (by decide) (by decide)⟩
  show Q2 Z a1 h0 n0 _ Ti2_1.heap _
  rw [ei2_1]
  exact ⟨rfl, N0, rfl⟩
theorem pd_1_0 : parseMethodDescriptor "()V" = some ⟨[], none⟩ := by decide +kernel
theorem d1_0 : decode prog_27_method_1_code 0 = .ok (.aload_n 0, 1) := by decide +kernel
theorem d1_1 : decode prog_27_method_1_code 1 = .ok (.invokespecial 1, 3) := by decide +kernel
theorem d1_4 : decode prog_27_method_1_code 4 = .ok (.iload_n 2, 1) := by decide +kernel
theorem d1_5 : decode prog_27_method_1_code 5 = .ok (.iconst 1, 1) := by decide +kernel
theorem d1_6 : decode prog_27_method_1_code 6 = .ok (.if_icmp .lt 19, 3) := by decide +kernel
theorem d1_9 : decode prog_27_method_1_code 9 = .ok (.iload_n 1, 1) := by decide +kernel
theorem d1_10 : decode prog_27_method_1_code 10 = .ok (.ifCond .lt 15, 3) := by decide +kernel
theorem d1_13 : decode prog_27_method_1_code 13 = .ok (.ldc2_w 7, 3) := by decide +kernel
theorem d1_16 : decode prog_27_method_1_code 16 = .ok (.iload_n 1, 1) := by decide +kernel
theorem d1_17 : decode prog_27_method_1_code 17 = .ok (.i2l, 1) := by decide +kernel
theorem d1_18 : decode prog_27_method_1_code 18 = .ok (.lmul, 1) := by decide +kernel
theorem d1_19 : decode prog_27_method_1_code 19 = .ok (.iload_n 2, 1) := by decide +kernel
theorem d1_20 : decode prog_27_method_1_code 20 = .ok (.i2l, 1) := by decide +kernel
theorem d1_21 : decode prog_27_method_1_code 21 = .ok (.lcmp, 1) := by decide +kernel
theorem d1_22 : decode prog_27_method_1_code 22 = .ok (.ifCond .le 18, 3) := by decide +kernel
theorem d1_40 : decode prog_27_method_1_code 40 = .ok (.aload_n 0, 1) := by decide +kernel
theorem d1_41 : decode prog_27_method_1_code 41 = .ok (.iload_n 1, 1) := by decide +kernel
theorem d1_42 : decode prog_27_method_1_code 42 = .ok (.putfield 18, 3) := by decide +kernel
theorem d1_45 : decode prog_27_method_1_code 45 = .ok (.aload_n 0, 1) := by decide +kernel
theorem d1_46 : decode prog_27_method_1_code 46 = .ok (.iload_n 2, 1) := by decide +kernel
theorem d1_47 : decode prog_27_method_1_code 47 = .ok (.putfield 24, 3) := by decide +kernel
theorem d1_50 : decode prog_27_method_1_code 50 = .ok (.return_, 1) := by decide +kernel
theorem pn_1 : plainName "com/example/warrants_across_databases/warrantsacrossdatabases/derivation/Similarity" = true := by first | (simp [plainName, overriddenIn]; done) | decide +kernel
theorem ef_1 (m : MethodId) (a1 : Addr) (p2 : Int32) (p3 : Int32) : entryFrame m #[(.ref a1), (.int p2), (.int p3)] 3 = mkF m 0 #[.val (.ref a1), .val (.int p2), .val (.int p3)] [] := by first | (simp [entryFrame, mkF, argsToLocals, Value.category]; done) | rfl
def Q1 (Z : State) (a1 : Addr) (p2 : Int32) (p3 : Int32) (h0 : Heap) (n0 : Nat) (v : Option Value) (h : Heap) (L : List Loc) : Prop := v = none ∧ Fr n0 L ∧ Keep h0 h [a1] ∧ Exa Z h a1 "com/example/warrants_across_databases/warrantsacrossdatabases/derivation/Similarity" ∧ Fld Z h a1 "com/example/warrants_across_databases/warrantsacrossdatabases/derivation/Similarity" "matched" "I" (.int p2) ∧ Fld Z h a1 "com/example/warrants_across_databases/warrantsacrossdatabases/derivation/Similarity" "rights" "I" (.int p3)
abbrev P1 (Z : State) (a1 : Addr) (p2 : Int32) (p3 : Int32) (h0 : Heap) (n0 : Nat) (s : State) : Outcome → State → Prop := fun o U' => ∃ v L, o = .returned v ∧ Q1 Z a1 p2 p3 h0 n0 v U'.heap L ∧ FrameEnd s o U' L ({ frames := 2, cells := 0, slots := 0, locals := 24 } : Room).cells ({ frames := 2, cells := 0, slots := 0, locals := 24 } : Room).slots
set_option maxRecDepth 65536 in
set_option maxHeartbeats 40000000 in
theorem rm1 (l : Launch) (Z : State) (a0 : Array Value) (hw : ∀ d ∈ tables_1, d.before a0 Z = true) (ws : List Jvm.Cond) (a1 : Addr) (p2 : Int32) (p3 : Int32) (h0 : Heap) (n0 : Nat) (Z0 : n0 ≤ h0.size) (u1 : Value) (u2 : Value) (E_a1 : Exa Z h0 a1 "com/example/warrants_across_databases/warrantsacrossdatabases/derivation/Similarity") (F_matched_a1 : Fld Z h0 a1 "com/example/warrants_across_databases/warrantsacrossdatabases/derivation/Similarity" "matched" "I" u1) (F_rights_a1 : Fld Z h0 a1 "com/example/warrants_across_databases/warrantsacrossdatabases/derivation/Similarity" "rights" "I" u2) (g_a1 : n0 ≤ a1) (hc6 : ¬ p3 < (1 : Int32)) (hc10 : ¬ p2 < (0 : Int32)) (hc22 : ¬ p3.toInt64 < (2 : Int64) * p2.toInt64) :
    MetFree l (⟨"com/example/warrants_across_databases/warrantsacrossdatabases/derivation/Similarity", "<init>", "(II)V"⟩ : MethodName) (head1 (Jvm.Cond.code (⟨"com/example/warrants_across_databases/warrantsacrossdatabases/derivation/Similarity", "<init>", "(II)V"⟩ : MethodName) prog_27_method_1_code 3 none :: ws) ({ frames := 2, cells := 0, slots := 0, locals := 24 } : Room)) (fun a U => a = #[(.ref a1), (.int p2), (.int p3)] ∧ Z.Warmed39 U.vm ∧ U.heap = h0) (fun _ _ _ _ _ => True) (fun _ U o U' => ∃ v L, o = .returned v ∧ Q1 Z a1 p2 p3 h0 n0 v U'.heap L ∧ FrameEnd U o U' L ({ frames := 2, cells := 0, slots := 0, locals := 24 } : Room).cells ({ frames := 2, cells := 0, slots := 0, locals := 24 } : Room).slots) := by
  refine MetFree.of_bodySF (plainFor_of_name pn_1) hisR ?_
  intro p e s m args below meth c s₁ Bd hml0 hP hK
  obtain ⟨rfl, hZ, hh⟩ := hP
  have hx := Bd.exec
  have hby := Bd.bytes
  have hml : c.maxLocals = 3 := hml0
  have hown : s.vm.findClass "com/example/warrants_across_databases/warrantsacrossdatabases/derivation/Similarity" = some m.cls := findClass_of_methodNamed Bd.named
  have hnm := (name_of_methodNamed Bd.named Bd.method).1
  have X0 : Stand p l e ({ frames := 2, cells := 0, slots := 0, locals := 24 } : Room) s m #[(.ref a1), (.int p2), (.int p3)] below meth c s₁ [] 0 0 := Stand.of_body Bd
  have e0 : s₁.heap = h0 := by rw [← hh, Bd.state]; rfl
  have N0 := Fr.nil n0
  show own_Go p.tables e below (P1 Z a1 p2 p3 h0 n0 s) (s₁.setTop (entryFrame m #[(.ref a1), (.int p2), (.int p3)] 3))
  refine own_by (T' := s₁.setTop (mkF m 0 #[.val (.ref a1), .val (.int p2), .val (.int p3)] [])) (fun t k => castTop (ef_1 m a1 p2 p3) k) ?_
  have KK := Keep.refl h0 [a1]
  show own_Go _ _ _ _ (s₁.setTop (mkF m 0 #[.val (.ref a1), .val (.int p2), .val (.int p3)] []))
  refine own_by (fun t k => XS.aloadN X0.here hx rfl (hb hby d1_0) rfl rfl k) ?_
  show own_Go _ _ _ _ (s₁.setTop (mkF m 1 #[.val (.ref a1), .val (.int p2), .val (.int p3)] [(.ref a1)]))
  obtain ⟨_, _, ⟨Tc1_1, Lc1_1, kc1_1, nc1_1⟩, -, Xc1_1, ⟨Lcc1_1, hQc1_1, lc1_1, yc1_1, zc1_1⟩, stc1_1⟩ := X0.specialBack hx (y := (⟨"java/lang/Record", "<init>", "()V"⟩ : MethodName)) rfl hown (mvT hZ (hw _ (List.mem_of_getElem? (i := 7) rfl))) (mvT hZ (hw _ (List.mem_of_getElem? (i := 8) rfl))) (mvT hZ (hw _ (List.mem_of_getElem? (i := 11) rfl))) (by decide) (backOf (W := 0) (rm2 l Z a0 hw [] a1  h0 n0 Z0 ) hZ (hw _ (List.mem_of_getElem? (i := 11) rfl)) (hw _ (List.mem_of_getElem? (i := 10) rfl)) (by decide) (by decide)) (g := (mkF m 1 #[.val (.ref a1), .val (.int p2), .val (.int p3)] [(.ref a1)])) rfl (by rw [hml]; rfl) (Steps.refl _) (a := a1) (argsL := []) (rest := []) (lenOf pd_1_0 rfl) rfl (by show 2 * 0 + _ ≤ _; exact Nat.le_of_eq rfl) (hb hby d1_1) (fun _ _ => ⟨rfl, e0, (by decide : 0 + 0 ≤ _), (by decide : 0 + 0 ≤ _)⟩)
  dsimp only [Pt.U, Pt.locs, Pt.cells, Pt.slots] at Xc1_1 lc1_1 yc1_1 zc1_1 stc1_1 hQc1_1
  subst lc1_1 yc1_1 zc1_1
  obtain ⟨rfl, Nc1_1q, ehc1_1⟩ := hQc1_1
  have Nc1_1 := Fr.app N0 Nc1_1q
  refine own_by (fun t k => stc1_1.trans k) ?_
  show own_Go _ _ _ _ (Tc1_1.setTop (mkF m 4 #[.val (.ref a1), .val (.int p2), .val (.int p3)] []))
  refine own_by (fun t k => XS.iloadN Xc1_1.here hx rfl (hb hby d1_4) rfl k) ?_
  show own_Go _ _ _ _ (Tc1_1.setTop (mkF m 5 #[.val (.ref a1), .val (.int p2), .val (.int p3)] [(.int p3)]))
  refine own_by (fun t k => XS.iconst Xc1_1.here hx rfl (hb hby d1_5) k) ?_
  show own_Go _ _ _ _ (Tc1_1.setTop (mkF m 6 #[.val (.ref a1), .val (.int p2), .val (.int p3)] [(.int (1 : Int32)), (.int p3)]))
  refine own_by (fun t k => XS.icmpNo Xc1_1.here hx rfl (hb hby d1_6) rfl (flt (hc6 : ¬ (p3 < (1 : Int32)))).1 k) ?_
  show own_Go _ _ _ _ (Tc1_1.setTop (mkF m 9 #[.val (.ref a1), .val (.int p2), .val (.int p3)] []))
  refine own_by (fun t k => XS.iloadN Xc1_1.here hx rfl (hb hby d1_9) rfl k) ?_
  show own_Go _ _ _ _ (Tc1_1.setTop (mkF m 10 #[.val (.ref a1), .val (.int p2), .val (.int p3)] [(.int p2)]))
  refine own_by (fun t k => XS.ifNo Xc1_1.here hx rfl (hb hby d1_10) rfl ((if0 _ _).trans (flt (hc10 : ¬ (p2 < (0 : Int32)))).1) k) ?_
  show own_Go _ _ _ _ (Tc1_1.setTop (mkF m 13 #[.val (.ref a1), .val (.int p2), .val (.int p3)] []))
  refine own_by (fun t k => Xc1_1.ldc2Long hx hown (mvT hZ (hw _ (List.mem_of_getElem? (i := 15) rfl))) (g := (mkF m 13 #[.val (.ref a1), .val (.int p2), .val (.int p3)] [])) rfl (hb hby d1_13) _ k) ?_
  show own_Go _ _ _ _ (Tc1_1.setTop (mkF m 16 #[.val (.ref a1), .val (.int p2), .val (.int p3)] [(.long (2 : Int64))]))
  refine own_by (fun t k => XS.iloadN Xc1_1.here hx rfl (hb hby d1_16) rfl k) ?_
  show own_Go _ _ _ _ (Tc1_1.setTop (mkF m 17 #[.val (.ref a1), .val (.int p2), .val (.int p3)] [(.int p2), (.long (2 : Int64))]))
  refine own_by (fun t k => XS.i2l Xc1_1.here hx rfl (hb hby d1_17) rfl k) ?_
  show own_Go _ _ _ _ (Tc1_1.setTop (mkF m 18 #[.val (.ref a1), .val (.int p2), .val (.int p3)] [(.long (p2.toInt64)), (.long (2 : Int64))]))
  refine own_by (fun t k => XS.lmul Xc1_1.here hx rfl (hb hby d1_18) rfl k) ?_
  show own_Go _ _ _ _ (Tc1_1.setTop (mkF m 19 #[.val (.ref a1), .val (.int p2), .val (.int p3)] [(.long ((2 : Int64) * (p2.toInt64)))]))
  refine own_by (fun t k => XS.iloadN Xc1_1.here hx rfl (hb hby d1_19) rfl k) ?_
  show own_Go _ _ _ _ (Tc1_1.setTop (mkF m 20 #[.val (.ref a1), .val (.int p2), .val (.int p3)] [(.int p3), (.long ((2 : Int64) * (p2.toInt64)))]))
  refine own_by (fun t k => XS.i2l Xc1_1.here hx rfl (hb hby d1_20) rfl k) ?_
  show own_Go _ _ _ _ (Tc1_1.setTop (mkF m 21 #[.val (.ref a1), .val (.int p2), .val (.int p3)] [(.long (p3.toInt64)), (.long ((2 : Int64) * (p2.toInt64)))]))
  refine own_by (fun t k => XS.lcmp Xc1_1.here hx rfl (hb hby d1_21) rfl k) ?_
  show own_Go _ _ _ _ (Tc1_1.setTop (mkF m 22 #[.val (.ref a1), .val (.int p2), .val (.int p3)] [(.int (lcmpW ((2 : Int64) * (p2.toInt64)) (p3.toInt64)))]))
  refine own_by (fun t k => XS.ifYes Xc1_1.here hx rfl (pc0 := 22) (pc' := 40) rfl (hb hby d1_22) rfl ((if0 _ _).trans (flt (fun q => (hc22 : ¬ ((p3.toInt64) < ((2 : Int64) * (p2.toInt64)))) ((lw_gt _ _).mp q))).2.2.2) (by decide) (by decide) k) ?_
  show own_Go _ _ _ _ (Tc1_1.setTop (mkF m 40 #[.val (.ref a1), .val (.int p2), .val (.int p3)] []))
  refine own_by (fun t k => XS.aloadN Xc1_1.here hx rfl (hb hby d1_40) rfl rfl k) ?_
  show own_Go _ _ _ _ (Tc1_1.setTop (mkF m 41 #[.val (.ref a1), .val (.int p2), .val (.int p3)] [(.ref a1)]))
  refine own_by (fun t k => XS.iloadN Xc1_1.here hx rfl (hb hby d1_41) rfl k) ?_
  show own_Go _ _ _ _ (Tc1_1.setTop (mkF m 42 #[.val (.ref a1), .val (.int p2), .val (.int p3)] [(.int p2), (.ref a1)]))
  obtain ⟨Tp1_2, hp1_2, Xp1_2, ep1_2, Wp1_2, stp1_2⟩ := putF Xc1_1 hx hZ hown (host := "") (Or.inl (hw _ (List.mem_of_getElem? (i := 16) rfl))) Via.refl ehc1_1 F_matched_a1 E_a1 (Or.inr ⟨(hw _ (List.mem_of_getElem? (i := 17) rfl)), rfl, hnm⟩) (hw _ (List.mem_of_getElem? (i := 2) rfl)) (ty := .int) (by decide) rfl rfl (g := (mkF m 42 #[.val (.ref a1), .val (.int p2), .val (.int p3)] [(.int p2), (.ref a1)])) rfl rfl (hb hby d1_42)
  replace F_matched_a1 := F_matched_a1.same Wp1_2
  replace E_a1 := E_a1.wr Wp1_2
  replace F_rights_a1 := F_rights_a1.other Wp1_2 (Or.inr (slot_ne (Or.inr (hw _ (List.mem_of_getElem? (i := 19) rfl))) (Or.inr (hw _ (List.mem_of_getElem? (i := 17) rfl))) (by decide) (t := .int) (t' := .int) (by decide) (by decide)))
  replace KK := KK.wr Wp1_2 (Or.inl (List.mem_of_getElem? (i := 0) rfl))
  have Np1_2 := Fr.snoc Xp1_2 Nc1_1 g_a1
  have Zs_p1_2 : n0 ≤ hp1_2.size := by rw [Wp1_2.size]; exact Z0
  refine own_by (fun t k => stp1_2 t k) ?_
  show own_Go _ _ _ _ (Tp1_2.setTop (mkF m 45 #[.val (.ref a1), .val (.int p2), .val (.int p3)] []))
  refine own_by (fun t k => XS.aloadN Xp1_2.here hx rfl (hb hby d1_45) rfl rfl k) ?_
  show own_Go _ _ _ _ (Tp1_2.setTop (mkF m 46 #[.val (.ref a1), .val (.int p2), .val (.int p3)] [(.ref a1)]))
  refine own_by (fun t k => XS.iloadN Xp1_2.here hx rfl (hb hby d1_46) rfl k) ?_
  show own_Go _ _ _ _ (Tp1_2.setTop (mkF m 47 #[.val (.ref a1), .val (.int p2), .val (.int p3)] [(.int p3), (.ref a1)]))
  obtain ⟨Tp1_3, hp1_3, Xp1_3, ep1_3, Wp1_3, stp1_3⟩ := putF Xp1_2 hx hZ hown (host := "") (Or.inl (hw _ (List.mem_of_getElem? (i := 18) rfl))) Via.refl ep1_2 F_rights_a1 E_a1 (Or.inr ⟨(hw _ (List.mem_of_getElem? (i := 19) rfl)), rfl, hnm⟩) (hw _ (List.mem_of_getElem? (i := 2) rfl)) (ty := .int) (by decide) rfl rfl (g := (mkF m 47 #[.val (.ref a1), .val (.int p2), .val (.int p3)] [(.int p3), (.ref a1)])) rfl rfl (hb hby d1_47)
  replace F_rights_a1 := F_rights_a1.same Wp1_3
  replace E_a1 := E_a1.wr Wp1_3
  replace F_matched_a1 := F_matched_a1.other Wp1_3 (Or.inr (slot_ne (Or.inr (hw _ (List.mem_of_getElem? (i := 17) rfl))) (Or.inr (hw _ (List.mem_of_getElem? (i := 19) rfl))) (by decide) (t := .int) (t' := .int) (by decide) (by decide)))
  replace KK := KK.wr Wp1_3 (Or.inl (List.mem_of_getElem? (i := 0) rfl))
  have Np1_3 := Fr.snoc Xp1_3 Np1_2 g_a1
  have Zs_p1_3 : n0 ≤ hp1_3.size := by rw [Wp1_3.size]; exact Zs_p1_2
  refine own_by (fun t k => stp1_3 t k) ?_
  show own_Go _ _ _ _ (Tp1_3.setTop (mkF m 50 #[.val (.ref a1), .val (.int p2), .val (.int p3)] []))
  obtain ⟨fs, hr, hrun, hended, hW, hsame⟩ := Xp1_3.leave (v := none) (fun _ => rfl)
  refine ⟨_, _, Xp1_3.returnOut hx Bd.returns (hb hby d1_50) hr, hrun, hended, _, _, rfl, ?_, ⟨_, rfl⟩, hW, hsame.mono (by decide) (by decide)⟩
  show Q1 Z a1 p2 p3 h0 n0 _ Tp1_3.heap _
  rw [ep1_3]
  exact ⟨rfl, Np1_3, KK, E_a1, F_matched_a1, F_rights_a1⟩
theorem d4_0 : decode prog_27_method_2_code 0 = .ok (.aload_n 0, 1) := by decide +kernel
theorem d4_1 : decode prog_27_method_2_code 1 = .ok (.getfield 18, 3) := by decide +kernel
theorem d4_4 : decode prog_27_method_2_code 4 = .ok (.ifCond .ne 7, 3) := by decide +kernel
theorem d4_7 : decode prog_27_method_2_code 7 = .ok (.iconst 1, 1) := by decide +kernel
theorem d4_8 : decode prog_27_method_2_code 8 = .ok (.goto 4, 3) := by decide +kernel
theorem d4_11 : decode prog_27_method_2_code 11 = .ok (.iconst 0, 1) := by decide +kernel
theorem d4_12 : decode prog_27_method_2_code 12 = .ok (.ireturn, 1) := by decide +kernel
theorem pn_4 : plainName "com/example/warrants_across_databases/warrantsacrossdatabases/derivation/Similarity" = true := by first | (simp [plainName, overriddenIn]; done) | decide +kernel
theorem ef_4 (m : MethodId) (a1 : Addr) : entryFrame m #[(.ref a1)] 1 = mkF m 0 #[.val (.ref a1)] [] := by first | (simp [entryFrame, mkF, argsToLocals, Value.category]; done) | rfl
def Q4 (Z : State) (a1 : Addr) (w2 : Int32) (h0 : Heap) (n0 : Nat) (v : Option Value) (h : Heap) (L : List Loc) : Prop := v = some (.int (own_z w2)) ∧ Fr n0 L ∧ h = h0
abbrev P4 (Z : State) (a1 : Addr) (w2 : Int32) (h0 : Heap) (n0 : Nat) (s : State) : Outcome → State → Prop := fun o U' => ∃ v L, o = .returned v ∧ Q4 Z a1 w2 h0 n0 v U'.heap L ∧ FrameEnd s o U' L ({ frames := 0, cells := 0, slots := 0, locals := 0 } : Room).cells ({ frames := 0, cells := 0, slots := 0, locals := 0 } : Room).slots
set_option maxRecDepth 65536 in
set_option maxHeartbeats 40000000 in
theorem rm4 (l : Launch) (Z : State) (a0 : Array Value) (hw : ∀ d ∈ tables_1, d.before a0 Z = true) (ws : List Jvm.Cond) (a1 : Addr) (w2 : Int32) (h0 : Heap) (n0 : Nat) (Z0 : n0 ≤ h0.size) (F_matched_a1 : Fld Z h0 a1 "com/example/warrants_across_databases/warrantsacrossdatabases/derivation/Similarity" "matched" "I" (.int w2)) :
    MetFree l (⟨"com/example/warrants_across_databases/warrantsacrossdatabases/derivation/Similarity", "isZero", "()Z"⟩ : MethodName) (head1 (Jvm.Cond.code (⟨"com/example/warrants_across_databases/warrantsacrossdatabases/derivation/Similarity", "isZero", "()Z"⟩ : MethodName) prog_27_method_2_code 1 (some .boolean) :: ws) ({ frames := 0, cells := 0, slots := 0, locals := 0 } : Room)) (fun a U => a = #[(.ref a1)] ∧ Z.Warmed39 U.vm ∧ U.heap = h0) (fun _ _ _ _ _ => True) (fun _ U o U' => ∃ v L, o = .returned v ∧ Q4 Z a1 w2 h0 n0 v U'.heap L ∧ FrameEnd U o U' L ({ frames := 0, cells := 0, slots := 0, locals := 0 } : Room).cells ({ frames := 0, cells := 0, slots := 0, locals := 0 } : Room).slots) := by
  refine MetFree.of_bodySF (plainFor_of_name pn_4) hisR ?_
  intro p e s m args below meth c s₁ Bd hml0 hP hK
  obtain ⟨rfl, hZ, hh⟩ := hP
  have hx := Bd.exec
  have hby := Bd.bytes
  have hml : c.maxLocals = 1 := hml0
  have hown : s.vm.findClass "com/example/warrants_across_databases/warrantsacrossdatabases/derivation/Similarity" = some m.cls := findClass_of_methodNamed Bd.named
  have hnm := (name_of_methodNamed Bd.named Bd.method).1
  have X0 : Stand p l e ({ frames := 0, cells := 0, slots := 0, locals := 0 } : Room) s m #[(.ref a1)] below meth c s₁ [] 0 0 := Stand.of_body Bd
  have e0 : s₁.heap = h0 := by rw [← hh, Bd.state]; rfl
  have N0 := Fr.nil n0
  show own_Go p.tables e below (P4 Z a1 w2 h0 n0 s) (s₁.setTop (entryFrame m #[(.ref a1)] 1))
  refine own_by (T' := s₁.setTop (mkF m 0 #[.val (.ref a1)] [])) (fun t k => castTop (ef_4 m a1) k) ?_
  show own_Go _ _ _ _ (s₁.setTop (mkF m 0 #[.val (.ref a1)] []))
  refine own_by (fun t k => XS.aloadN X0.here hx rfl (hb hby d4_0) rfl rfl k) ?_
  show own_Go _ _ _ _ (s₁.setTop (mkF m 1 #[.val (.ref a1)] [(.ref a1)]))
  obtain ⟨Tf4_1, Xf4_1, ef4_1, stf4_1⟩ := getF X0 hx hZ hown (host := "") (Or.inl (hw _ (List.mem_of_getElem? (i := 16) rfl))) Via.refl e0 F_matched_a1 (g := (mkF m 1 #[.val (.ref a1)] [(.ref a1)])) rfl rfl (hb hby d4_1)
  refine own_by (fun t k => stf4_1 t k) ?_
  show own_Go _ _ _ _ (Tf4_1.setTop (mkF m 4 #[.val (.ref a1)] [(.int w2)]))
  by_cases hc4 : w2 = (0 : Int32)
  · refine own_by (fun t k => XS.ifNo Xf4_1.here hx rfl (hb hby d4_4) rfl ((if0 _ _).trans (teq hc4).2) k) ?_
    show own_Go _ _ _ _ (Tf4_1.setTop (mkF m 7 #[.val (.ref a1)] []))
    refine own_by (fun t k => XS.iconst Xf4_1.here hx rfl (hb hby d4_7) k) ?_
    show own_Go _ _ _ _ (Tf4_1.setTop (mkF m 8 #[.val (.ref a1)] [(.int (1 : Int32))]))
    refine own_by (fun t k => XS.goto Xf4_1.here hx rfl (pc0 := 8) (pc' := 12) rfl (hb hby d4_8) (by decide) (by decide) k) ?_
    show own_Go _ _ _ _ (Tf4_1.setTop (mkF m 12 #[.val (.ref a1)] [(.int (1 : Int32))]))
    obtain ⟨fs, hr, hrun, hended, hW, hsame⟩ := Xf4_1.leave (v := some (.int (1 : Int32))) (fun h => by rw [Bd.returns] at h; cases h)
    refine ⟨_, _, retN Xf4_1 hx (t := .boolean) Bd.returns (by simp) (hb hby d4_12) hr, hrun, hended, _, _, rfl, ?_, ⟨_, rfl⟩, hW, hsame.mono (by decide) (by decide)⟩
    show Q4 Z a1 w2 h0 n0 _ Tf4_1.heap _
    rw [ef4_1]
    exact ⟨by simp [own_z, nar, hc4], N0, rfl⟩
  · refine own_by (fun t k => XS.ifYes Xf4_1.here hx rfl (pc0 := 4) (pc' := 11) rfl (hb hby d4_4) rfl ((if0 _ _).trans (feq hc4).2) (by decide) (by decide) k) ?_
    show own_Go _ _ _ _ (Tf4_1.setTop (mkF m 11 #[.val (.ref a1)] []))
    refine own_by (fun t k => XS.iconst Xf4_1.here hx rfl (hb hby d4_11) k) ?_
    show own_Go _ _ _ _ (Tf4_1.setTop (mkF m 12 #[.val (.ref a1)] [(.int (0 : Int32))]))
    obtain ⟨fs, hr, hrun, hended, hW, hsame⟩ := Xf4_1.leave (v := some (.int (0 : Int32))) (fun h => by rw [Bd.returns] at h; cases h)
    refine ⟨_, _, retN Xf4_1 hx (t := .boolean) Bd.returns (by simp) (hb hby d4_12) hr, hrun, hended, _, _, rfl, ?_, ⟨_, rfl⟩, hW, hsame.mono (by decide) (by decide)⟩
    show Q4 Z a1 w2 h0 n0 _ Tf4_1.heap _
    rw [ef4_1]
    exact ⟨by simp [own_z, nar, hc4], N0, rfl⟩
theorem d6_0 : decode jdk_35_method_42_code 0 = .ok (.lload_n 0, 1) := by decide +kernel
theorem d6_1 : decode jdk_35_method_42_code 1 = .ok (.lload_n 2, 1) := by decide +kernel
theorem d6_2 : decode jdk_35_method_42_code 2 = .ok (.lcmp, 1) := by decide +kernel
theorem d6_3 : decode jdk_35_method_42_code 3 = .ok (.ifCond .ge 7, 3) := by decide +kernel
theorem d6_6 : decode jdk_35_method_42_code 6 = .ok (.iconst (-1), 1) := by decide +kernel
theorem d6_7 : decode jdk_35_method_42_code 7 = .ok (.goto 14, 3) := by decide +kernel
theorem d6_10 : decode jdk_35_method_42_code 10 = .ok (.lload_n 0, 1) := by decide +kernel
theorem d6_11 : decode jdk_35_method_42_code 11 = .ok (.lload_n 2, 1) := by decide +kernel
theorem d6_12 : decode jdk_35_method_42_code 12 = .ok (.lcmp, 1) := by decide +kernel
theorem d6_13 : decode jdk_35_method_42_code 13 = .ok (.ifCond .ne 7, 3) := by decide +kernel
theorem d6_16 : decode jdk_35_method_42_code 16 = .ok (.iconst 0, 1) := by decide +kernel
theorem d6_17 : decode jdk_35_method_42_code 17 = .ok (.goto 4, 3) := by decide +kernel
theorem d6_20 : decode jdk_35_method_42_code 20 = .ok (.iconst 1, 1) := by decide +kernel
theorem d6_21 : decode jdk_35_method_42_code 21 = .ok (.ireturn, 1) := by decide +kernel
theorem pn_6 : plainName "java/lang/Long" = true := by first | (simp [plainName, overriddenIn]; done) | decide +kernel
theorem ef_6 (m : MethodId) (q1 : Int64) (q2 : Int64) : entryFrame m #[(.long q1), (.long q2)] 4 = mkF m 0 #[.val (.long q1), .second, .val (.long q2), .second] [] := by first | (simp [entryFrame, mkF, argsToLocals, Value.category]; done) | rfl
def Q6 (Z : State) (q1 : Int64) (q2 : Int64) (h0 : Heap) (n0 : Nat) (v : Option Value) (h : Heap) (L : List Loc) : Prop := v = some (.int (own_cmp q1 q2)) ∧ Fr n0 L ∧ h = h0
abbrev P6 (Z : State) (q1 : Int64) (q2 : Int64) (h0 : Heap) (n0 : Nat) (s : State) : Outcome → State → Prop := fun o U' => ∃ v L, o = .returned v ∧ Q6 Z q1 q2 h0 n0 v U'.heap L ∧ FrameEnd s o U' L ({ frames := 0, cells := 0, slots := 0, locals := 0 } : Room).cells ({ frames := 0, cells := 0, slots := 0, locals := 0 } : Room).slots
set_option maxRecDepth 65536 in
set_option maxHeartbeats 40000000 in
theorem rm6 (l : Launch) (Z : State) (a0 : Array Value) (hw : ∀ d ∈ tables_1, d.before a0 Z = true) (ws : List Jvm.Cond) (q1 : Int64) (q2 : Int64) (h0 : Heap) (n0 : Nat) (Z0 : n0 ≤ h0.size) :
    MetFree l (⟨"java/lang/Long", "compare", "(JJ)I"⟩ : MethodName) (head1 (Jvm.Cond.code (⟨"java/lang/Long", "compare", "(JJ)I"⟩ : MethodName) jdk_35_method_42_code 4 (some .int) :: ws) ({ frames := 0, cells := 0, slots := 0, locals := 0 } : Room)) (fun a U => a = #[(.long q1), (.long q2)] ∧ Z.Warmed39 U.vm ∧ U.heap = h0) (fun _ _ _ _ _ => True) (fun _ U o U' => ∃ v L, o = .returned v ∧ Q6 Z q1 q2 h0 n0 v U'.heap L ∧ FrameEnd U o U' L ({ frames := 0, cells := 0, slots := 0, locals := 0 } : Room).cells ({ frames := 0, cells := 0, slots := 0, locals := 0 } : Room).slots) := by
  refine MetFree.of_bodySF (plainFor_of_name pn_6) hisR ?_
  intro p e s m args below meth c s₁ Bd hml0 hP hK
  obtain ⟨rfl, hZ, hh⟩ := hP
  have hx := Bd.exec
  have hby := Bd.bytes
  have hml : c.maxLocals = 4 := hml0
  have hown : s.vm.findClass "java/lang/Long" = some m.cls := findClass_of_methodNamed Bd.named
  have hnm := (name_of_methodNamed Bd.named Bd.method).1
  have X0 : Stand p l e ({ frames := 0, cells := 0, slots := 0, locals := 0 } : Room) s m #[(.long q1), (.long q2)] below meth c s₁ [] 0 0 := Stand.of_body Bd
  have e0 : s₁.heap = h0 := by rw [← hh, Bd.state]; rfl
  have N0 := Fr.nil n0
  show own_Go p.tables e below (P6 Z q1 q2 h0 n0 s) (s₁.setTop (entryFrame m #[(.long q1), (.long q2)] 4))
  refine own_by (T' := s₁.setTop (mkF m 0 #[.val (.long q1), .second, .val (.long q2), .second] [])) (fun t k => castTop (ef_6 m q1 q2) k) ?_
  show own_Go _ _ _ _ (s₁.setTop (mkF m 0 #[.val (.long q1), .second, .val (.long q2), .second] []))
  refine own_by (fun t k => XS.lloadN X0.here hx rfl (hb hby d6_0) rfl k) ?_
  show own_Go _ _ _ _ (s₁.setTop (mkF m 1 #[.val (.long q1), .second, .val (.long q2), .second] [(.long q1)]))
  refine own_by (fun t k => XS.lloadN X0.here hx rfl (hb hby d6_1) rfl k) ?_
  show own_Go _ _ _ _ (s₁.setTop (mkF m 2 #[.val (.long q1), .second, .val (.long q2), .second] [(.long q2), (.long q1)]))
  refine own_by (fun t k => XS.lcmp X0.here hx rfl (hb hby d6_2) rfl k) ?_
  show own_Go _ _ _ _ (s₁.setTop (mkF m 3 #[.val (.long q1), .second, .val (.long q2), .second] [(.int (lcmpW q1 q2))]))
  by_cases hc3 : q1 < q2
  · refine own_by (fun t k => XS.ifNo X0.here hx rfl (hb hby d6_3) rfl ((if0 _ _).trans (tlt ((lw_lt _ _).mpr hc3)).2.1) k) ?_
    show own_Go _ _ _ _ (s₁.setTop (mkF m 6 #[.val (.long q1), .second, .val (.long q2), .second] []))
    refine own_by (fun t k => XS.iconst X0.here hx rfl (hb hby d6_6) k) ?_
    show own_Go _ _ _ _ (s₁.setTop (mkF m 7 #[.val (.long q1), .second, .val (.long q2), .second] [(.int (-1 : Int32))]))
    refine own_by (fun t k => XS.goto X0.here hx rfl (pc0 := 7) (pc' := 21) rfl (hb hby d6_7) (by decide) (by decide) k) ?_
    show own_Go _ _ _ _ (s₁.setTop (mkF m 21 #[.val (.long q1), .second, .val (.long q2), .second] [(.int (-1 : Int32))]))
    obtain ⟨fs, hr, hrun, hended, hW, hsame⟩ := X0.leave (v := some (.int (-1 : Int32))) (fun h => by rw [Bd.returns] at h; cases h)
    refine ⟨_, _, retOut X0 hx Bd.returns rfl (Or.inl ⟨rfl, Or.inl rfl, _, rfl⟩) (hb hby d6_21) hr, hrun, hended, _, _, rfl, ?_, ⟨_, rfl⟩, hW, hsame.mono (by decide) (by decide)⟩
    show Q6 Z q1 q2 h0 n0 _ s₁.heap _
    rw [e0]
    exact ⟨by simp [own_cmp, hc3], N0, rfl⟩
  · refine own_by (fun t k => XS.ifYes X0.here hx rfl (pc0 := 3) (pc' := 10) rfl (hb hby d6_3) rfl ((if0 _ _).trans (flt (fun q => hc3 ((lw_lt _ _).mp q))).2.1) (by decide) (by decide) k) ?_
    show own_Go _ _ _ _ (s₁.setTop (mkF m 10 #[.val (.long q1), .second, .val (.long q2), .second] []))
    refine own_by (fun t k => XS.lloadN X0.here hx rfl (hb hby d6_10) rfl k) ?_
    show own_Go _ _ _ _ (s₁.setTop (mkF m 11 #[.val (.long q1), .second, .val (.long q2), .second] [(.long q1)]))
    refine own_by (fun t k => XS.lloadN X0.here hx rfl (hb hby d6_11) rfl k) ?_
    show own_Go _ _ _ _ (s₁.setTop (mkF m 12 #[.val (.long q1), .second, .val (.long q2), .second] [(.long q2), (.long q1)]))
    refine own_by (fun t k => XS.lcmp X0.here hx rfl (hb hby d6_12) rfl k) ?_
    show own_Go _ _ _ _ (s₁.setTop (mkF m 13 #[.val (.long q1), .second, .val (.long q2), .second] [(.int (lcmpW q1 q2))]))
    by_cases hc13 : q1 = q2
    · refine own_by (fun t k => XS.ifNo X0.here hx rfl (hb hby d6_13) rfl ((if0 _ _).trans (teq ((lw_eq _ _).mpr hc13)).2) k) ?_
      show own_Go _ _ _ _ (s₁.setTop (mkF m 16 #[.val (.long q1), .second, .val (.long q2), .second] []))
      refine own_by (fun t k => XS.iconst X0.here hx rfl (hb hby d6_16) k) ?_
      show own_Go _ _ _ _ (s₁.setTop (mkF m 17 #[.val (.long q1), .second, .val (.long q2), .second] [(.int (0 : Int32))]))
      refine own_by (fun t k => XS.goto X0.here hx rfl (pc0 := 17) (pc' := 21) rfl (hb hby d6_17) (by decide) (by decide) k) ?_
      show own_Go _ _ _ _ (s₁.setTop (mkF m 21 #[.val (.long q1), .second, .val (.long q2), .second] [(.int (0 : Int32))]))
      obtain ⟨fs, hr, hrun, hended, hW, hsame⟩ := X0.leave (v := some (.int (0 : Int32))) (fun h => by rw [Bd.returns] at h; cases h)
      refine ⟨_, _, retOut X0 hx Bd.returns rfl (Or.inl ⟨rfl, Or.inl rfl, _, rfl⟩) (hb hby d6_21) hr, hrun, hended, _, _, rfl, ?_, ⟨_, rfl⟩, hW, hsame.mono (by decide) (by decide)⟩
      show Q6 Z q1 q2 h0 n0 _ s₁.heap _
      rw [e0]
      exact ⟨by simp [own_cmp, hc3, hc13], N0, rfl⟩
    · refine own_by (fun t k => XS.ifYes X0.here hx rfl (pc0 := 13) (pc' := 20) rfl (hb hby d6_13) rfl ((if0 _ _).trans (feq (fun q => hc13 ((lw_eq _ _).mp q))).2) (by decide) (by decide) k) ?_
      show own_Go _ _ _ _ (s₁.setTop (mkF m 20 #[.val (.long q1), .second, .val (.long q2), .second] []))
      refine own_by (fun t k => XS.iconst X0.here hx rfl (hb hby d6_20) k) ?_
      show own_Go _ _ _ _ (s₁.setTop (mkF m 21 #[.val (.long q1), .second, .val (.long q2), .second] [(.int (1 : Int32))]))
      obtain ⟨fs, hr, hrun, hended, hW, hsame⟩ := X0.leave (v := some (.int (1 : Int32))) (fun h => by rw [Bd.returns] at h; cases h)
      refine ⟨_, _, retOut X0 hx Bd.returns rfl (Or.inl ⟨rfl, Or.inl rfl, _, rfl⟩) (hb hby d6_21) hr, hrun, hended, _, _, rfl, ?_, ⟨_, rfl⟩, hW, hsame.mono (by decide) (by decide)⟩
      show Q6 Z q1 q2 h0 n0 _ s₁.heap _
      rw [e0]
      exact ⟨by simp [own_cmp, hc3, hc13], N0, rfl⟩
theorem pd_5_0 : parseMethodDescriptor "(JJ)I" = some ⟨[.long, .long], some .int⟩ := by decide +kernel
theorem d5_0 : decode prog_27_method_4_code 0 = .ok (.aload_n 0, 1) := by decide +kernel
theorem d5_1 : decode prog_27_method_4_code 1 = .ok (.getfield 18, 3) := by decide +kernel
theorem d5_4 : decode prog_27_method_4_code 4 = .ok (.i2l, 1) := by decide +kernel
theorem d5_5 : decode prog_27_method_4_code 5 = .ok (.aload_n 1, 1) := by decide +kernel
theorem d5_6 : decode prog_27_method_4_code 6 = .ok (.getfield 24, 3) := by decide +kernel
theorem d5_9 : decode prog_27_method_4_code 9 = .ok (.i2l, 1) := by decide +kernel
theorem d5_10 : decode prog_27_method_4_code 10 = .ok (.lmul, 1) := by decide +kernel
theorem d5_11 : decode prog_27_method_4_code 11 = .ok (.aload_n 1, 1) := by decide +kernel
theorem d5_12 : decode prog_27_method_4_code 12 = .ok (.getfield 18, 3) := by decide +kernel
theorem d5_15 : decode prog_27_method_4_code 15 = .ok (.i2l, 1) := by decide +kernel
theorem d5_16 : decode prog_27_method_4_code 16 = .ok (.aload_n 0, 1) := by decide +kernel
theorem d5_17 : decode prog_27_method_4_code 17 = .ok (.getfield 24, 3) := by decide +kernel
theorem d5_20 : decode prog_27_method_4_code 20 = .ok (.i2l, 1) := by decide +kernel
theorem d5_21 : decode prog_27_method_4_code 21 = .ok (.lmul, 1) := by decide +kernel
theorem d5_22 : decode prog_27_method_4_code 22 = .ok (.invokestatic 47, 3) := by decide +kernel
theorem d5_25 : decode prog_27_method_4_code 25 = .ok (.ireturn, 1) := by decide +kernel
theorem pn_5 : plainName "com/example/warrants_across_databases/warrantsacrossdatabases/derivation/Similarity" = true := by first | (simp [plainName, overriddenIn]; done) | decide +kernel
theorem ef_5 (m : MethodId) (a1 : Addr) (a2 : Addr) : entryFrame m #[(.ref a1), (.ref a2)] 2 = mkF m 0 #[.val (.ref a1), .val (.ref a2)] [] := by first | (simp [entryFrame, mkF, argsToLocals, Value.category]; done) | rfl
def Q5 (Z : State) (a1 : Addr) (a2 : Addr) (w3 : Int32) (w5 : Int32) (w7 : Int32) (w9 : Int32) (h0 : Heap) (n0 : Nat) (v : Option Value) (h : Heap) (L : List Loc) : Prop := v = some (.int (own_cmp (w3.toInt64 * w5.toInt64) (w7.toInt64 * w9.toInt64))) ∧ Fr n0 L ∧ h = h0
abbrev P5 (Z : State) (a1 : Addr) (a2 : Addr) (w3 : Int32) (w5 : Int32) (w7 : Int32) (w9 : Int32) (h0 : Heap) (n0 : Nat) (s : State) : Outcome → State → Prop := fun o U' => ∃ v L, o = .returned v ∧ Q5 Z a1 a2 w3 w5 w7 w9 h0 n0 v U'.heap L ∧ FrameEnd s o U' L ({ frames := 1, cells := 0, slots := 0, locals := 15 } : Room).cells ({ frames := 1, cells := 0, slots := 0, locals := 15 } : Room).slots
set_option maxRecDepth 65536 in
set_option maxHeartbeats 40000000 in
theorem rm5 (l : Launch) (Z : State) (a0 : Array Value) (hw : ∀ d ∈ tables_1, d.before a0 Z = true) (ws : List Jvm.Cond) (a1 : Addr) (a2 : Addr) (w3 : Int32) (w5 : Int32) (w7 : Int32) (w9 : Int32) (h0 : Heap) (n0 : Nat) (Z0 : n0 ≤ h0.size) (F_matched_a1 : Fld Z h0 a1 "com/example/warrants_across_databases/warrantsacrossdatabases/derivation/Similarity" "matched" "I" (.int w3)) (F_rights_a2 : Fld Z h0 a2 "com/example/warrants_across_databases/warrantsacrossdatabases/derivation/Similarity" "rights" "I" (.int w5)) (F_matched_a2 : Fld Z h0 a2 "com/example/warrants_across_databases/warrantsacrossdatabases/derivation/Similarity" "matched" "I" (.int w7)) (F_rights_a1 : Fld Z h0 a1 "com/example/warrants_across_databases/warrantsacrossdatabases/derivation/Similarity" "rights" "I" (.int w9)) :
    MetFree l (⟨"com/example/warrants_across_databases/warrantsacrossdatabases/derivation/Similarity", "compareTo", "(Lcom/example/warrants_across_databases/warrantsacrossdatabases/derivation/Similarity;)I"⟩ : MethodName) (head1 (Jvm.Cond.code (⟨"com/example/warrants_across_databases/warrantsacrossdatabases/derivation/Similarity", "compareTo", "(Lcom/example/warrants_across_databases/warrantsacrossdatabases/derivation/Similarity;)I"⟩ : MethodName) prog_27_method_4_code 2 (some .int) :: ws) ({ frames := 1, cells := 0, slots := 0, locals := 15 } : Room)) (fun a U => a = #[(.ref a1), (.ref a2)] ∧ Z.Warmed39 U.vm ∧ U.heap = h0) (fun _ _ _ _ _ => True) (fun _ U o U' => ∃ v L, o = .returned v ∧ Q5 Z a1 a2 w3 w5 w7 w9 h0 n0 v U'.heap L ∧ FrameEnd U o U' L ({ frames := 1, cells := 0, slots := 0, locals := 15 } : Room).cells ({ frames := 1, cells := 0, slots := 0, locals := 15 } : Room).slots) := by
  refine MetFree.of_bodySF (plainFor_of_name pn_5) hisR ?_
  intro p e s m args below meth c s₁ Bd hml0 hP hK
  obtain ⟨rfl, hZ, hh⟩ := hP
  have hx := Bd.exec
  have hby := Bd.bytes
  have hml : c.maxLocals = 2 := hml0
  have hown : s.vm.findClass "com/example/warrants_across_databases/warrantsacrossdatabases/derivation/Similarity" = some m.cls := findClass_of_methodNamed Bd.named
  have hnm := (name_of_methodNamed Bd.named Bd.method).1
  have X0 : Stand p l e ({ frames := 1, cells := 0, slots := 0, locals := 15 } : Room) s m #[(.ref a1), (.ref a2)] below meth c s₁ [] 0 0 := Stand.of_body Bd
  have e0 : s₁.heap = h0 := by rw [← hh, Bd.state]; rfl
  have N0 := Fr.nil n0
  show own_Go p.tables e below (P5 Z a1 a2 w3 w5 w7 w9 h0 n0 s) (s₁.setTop (entryFrame m #[(.ref a1), (.ref a2)] 2))
  refine own_by (T' := s₁.setTop (mkF m 0 #[.val (.ref a1), .val (.ref a2)] [])) (fun t k => castTop (ef_5 m a1 a2) k) ?_
  show own_Go _ _ _ _ (s₁.setTop (mkF m 0 #[.val (.ref a1), .val (.ref a2)] []))
  refine own_by (fun t k => XS.aloadN X0.here hx rfl (hb hby d5_0) rfl rfl k) ?_
  show own_Go _ _ _ _ (s₁.setTop (mkF m 1 #[.val (.ref a1), .val (.ref a2)] [(.ref a1)]))
  obtain ⟨Tf5_1, Xf5_1, ef5_1, stf5_1⟩ := getF X0 hx hZ hown (host := "") (Or.inl (hw _ (List.mem_of_getElem? (i := 16) rfl))) Via.refl e0 F_matched_a1 (g := (mkF m 1 #[.val (.ref a1), .val (.ref a2)] [(.ref a1)])) rfl rfl (hb hby d5_1)
  refine own_by (fun t k => stf5_1 t k) ?_
  show own_Go _ _ _ _ (Tf5_1.setTop (mkF m 4 #[.val (.ref a1), .val (.ref a2)] [(.int w3)]))
  refine own_by (fun t k => XS.i2l Xf5_1.here hx rfl (hb hby d5_4) rfl k) ?_
  show own_Go _ _ _ _ (Tf5_1.setTop (mkF m 5 #[.val (.ref a1), .val (.ref a2)] [(.long (w3.toInt64))]))
  refine own_by (fun t k => XS.aloadN Xf5_1.here hx rfl (hb hby d5_5) rfl rfl k) ?_
  show own_Go _ _ _ _ (Tf5_1.setTop (mkF m 6 #[.val (.ref a1), .val (.ref a2)] [(.ref a2), (.long (w3.toInt64))]))
  obtain ⟨Tf5_2, Xf5_2, ef5_2, stf5_2⟩ := getF Xf5_1 hx hZ hown (host := "") (Or.inl (hw _ (List.mem_of_getElem? (i := 18) rfl))) Via.refl ef5_1 F_rights_a2 (g := (mkF m 6 #[.val (.ref a1), .val (.ref a2)] [(.ref a2), (.long (w3.toInt64))])) rfl rfl (hb hby d5_6)
  refine own_by (fun t k => stf5_2 t k) ?_
  show own_Go _ _ _ _ (Tf5_2.setTop (mkF m 9 #[.val (.ref a1), .val (.ref a2)] [(.int w5), (.long (w3.toInt64))]))
  refine own_by (fun t k => XS.i2l Xf5_2.here hx rfl (hb hby d5_9) rfl k) ?_
  show own_Go _ _ _ _ (Tf5_2.setTop (mkF m 10 #[.val (.ref a1), .val (.ref a2)] [(.long (w5.toInt64)), (.long (w3.toInt64))]))
  refine own_by (fun t k => XS.lmul Xf5_2.here hx rfl (hb hby d5_10) rfl k) ?_
  show own_Go _ _ _ _ (Tf5_2.setTop (mkF m 11 #[.val (.ref a1), .val (.ref a2)] [(.long ((w3.toInt64) * (w5.toInt64)))]))
  refine own_by (fun t k => XS.aloadN Xf5_2.here hx rfl (hb hby d5_11) rfl rfl k) ?_
  show own_Go _ _ _ _ (Tf5_2.setTop (mkF m 12 #[.val (.ref a1), .val (.ref a2)] [(.ref a2), (.long ((w3.toInt64) * (w5.toInt64)))]))
  obtain ⟨Tf5_3, Xf5_3, ef5_3, stf5_3⟩ := getF Xf5_2 hx hZ hown (host := "") (Or.inl (hw _ (List.mem_of_getElem? (i := 16) rfl))) Via.refl ef5_2 F_matched_a2 (g := (mkF m 12 #[.val (.ref a1), .val (.ref a2)] [(.ref a2), (.long ((w3.toInt64) * (w5.toInt64)))])) rfl rfl (hb hby d5_12)
  refine own_by (fun t k => stf5_3 t k) ?_
  show own_Go _ _ _ _ (Tf5_3.setTop (mkF m 15 #[.val (.ref a1), .val (.ref a2)] [(.int w7), (.long ((w3.toInt64) * (w5.toInt64)))]))
  refine own_by (fun t k => XS.i2l Xf5_3.here hx rfl (hb hby d5_15) rfl k) ?_
  show own_Go _ _ _ _ (Tf5_3.setTop (mkF m 16 #[.val (.ref a1), .val (.ref a2)] [(.long (w7.toInt64)), (.long ((w3.toInt64) * (w5.toInt64)))]))
  refine own_by (fun t k => XS.aloadN Xf5_3.here hx rfl (hb hby d5_16) rfl rfl k) ?_
  show own_Go _ _ _ _ (Tf5_3.setTop (mkF m 17 #[.val (.ref a1), .val (.ref a2)] [(.ref a1), (.long (w7.toInt64)), (.long ((w3.toInt64) * (w5.toInt64)))]))
  obtain ⟨Tf5_4, Xf5_4, ef5_4, stf5_4⟩ := getF Xf5_3 hx hZ hown (host := "") (Or.inl (hw _ (List.mem_of_getElem? (i := 18) rfl))) Via.refl ef5_3 F_rights_a1 (g := (mkF m 17 #[.val (.ref a1), .val (.ref a2)] [(.ref a1), (.long (w7.toInt64)), (.long ((w3.toInt64) * (w5.toInt64)))])) rfl rfl (hb hby d5_17)
  refine own_by (fun t k => stf5_4 t k) ?_
  show own_Go _ _ _ _ (Tf5_4.setTop (mkF m 20 #[.val (.ref a1), .val (.ref a2)] [(.int w9), (.long (w7.toInt64)), (.long ((w3.toInt64) * (w5.toInt64)))]))
  refine own_by (fun t k => XS.i2l Xf5_4.here hx rfl (hb hby d5_20) rfl k) ?_
  show own_Go _ _ _ _ (Tf5_4.setTop (mkF m 21 #[.val (.ref a1), .val (.ref a2)] [(.long (w9.toInt64)), (.long (w7.toInt64)), (.long ((w3.toInt64) * (w5.toInt64)))]))
  refine own_by (fun t k => XS.lmul Xf5_4.here hx rfl (hb hby d5_21) rfl k) ?_
  show own_Go _ _ _ _ (Tf5_4.setTop (mkF m 22 #[.val (.ref a1), .val (.ref a2)] [(.long ((w7.toInt64) * (w9.toInt64))), (.long ((w3.toInt64) * (w5.toInt64)))]))
  obtain ⟨_, _, ⟨Tc5_5, Lc5_5, kc5_5, nc5_5⟩, -, Xc5_5, ⟨Lcc5_5, hQc5_5, lc5_5, yc5_5, zc5_5⟩, stc5_5⟩ := Jvm.LawKit.callS Xf5_4 hx (y := (⟨"java/lang/Long", "compare", "(JJ)I"⟩ : MethodName)) hown (mvT hZ (hw _ (List.mem_of_getElem? (i := 30) rfl))) (mvT hZ (hw _ (List.mem_of_getElem? (i := 31) rfl))) (mvT hZ (hw _ (List.mem_of_getElem? (i := 32) rfl))) (mvT hZ (hw _ (List.mem_of_getElem? (i := 33) rfl))) (by decide) (backOf (W := 0) (rm6 l Z a0 hw [] ((w3.toInt64) * (w5.toInt64)) ((w7.toInt64) * (w9.toInt64))  h0 n0 Z0 ) hZ (hw _ (List.mem_of_getElem? (i := 33) rfl)) (hw _ (List.mem_of_getElem? (i := 32) rfl)) (by decide) (by decide)) (g := (mkF m 22 #[.val (.ref a1), .val (.ref a2)] [(.long ((w7.toInt64) * (w9.toInt64))), (.long ((w3.toInt64) * (w5.toInt64)))])) rfl (by rw [hml]; rfl) (argsL := [(.long ((w3.toInt64) * (w5.toInt64))), (.long ((w7.toInt64) * (w9.toInt64)))]) (rest := []) (lenOf pd_5_0 rfl) rfl (by show 2 * 0 + _ ≤ _; exact Nat.le_of_eq rfl) (hb hby d5_22) (fun _ _ => ⟨rfl, ef5_4, (by decide : 0 + 0 ≤ _), (by decide : 0 + 0 ≤ _)⟩)
  dsimp only [Pt.U, Pt.locs, Pt.cells, Pt.slots] at Xc5_5 lc5_5 yc5_5 zc5_5 stc5_5 hQc5_5
  subst lc5_5 yc5_5 zc5_5
  obtain ⟨rfl, Nc5_5q, ehc5_5⟩ := hQc5_5
  have Nc5_5 := Fr.app N0 Nc5_5q
  refine own_by (fun t k => stc5_5 t k) ?_
  show own_Go _ _ _ _ (Tc5_5.setTop (mkF m 25 #[.val (.ref a1), .val (.ref a2)] [(.int (own_cmp (w3.toInt64 * w5.toInt64) (w7.toInt64 * w9.toInt64)))]))
  obtain ⟨fs, hr, hrun, hended, hW, hsame⟩ := Xc5_5.leave (v := some (.int (own_cmp (w3.toInt64 * w5.toInt64) (w7.toInt64 * w9.toInt64)))) (fun h => by rw [Bd.returns] at h; cases h)
  refine ⟨_, _, retOut Xc5_5 hx Bd.returns rfl (Or.inl ⟨rfl, Or.inl rfl, _, rfl⟩) (hb hby d5_25) hr, hrun, hended, _, _, rfl, ?_, ⟨_, rfl⟩, hW, hsame.mono (by decide) (by decide)⟩
  show Q5 Z a1 a2 w3 w5 w7 w9 h0 n0 _ Tc5_5.heap _
  rw [ehc5_5]
  exact ⟨rfl, Nc5_5, rfl⟩
theorem pd_0_0 : parseMethodDescriptor "(II)V" = some ⟨[.int, .int], none⟩ := by decide +kernel
theorem pd_0_1 : parseMethodDescriptor "()Z" = some ⟨[], some .boolean⟩ := by decide +kernel
theorem pd_0_2 : parseMethodDescriptor "(Lcom/example/warrants_across_databases/warrantsacrossdatabases/derivation/Similarity;)I" = some ⟨[(.object "com/example/warrants_across_databases/warrantsacrossdatabases/derivation/Similarity")], some .int⟩ := by decide +kernel
theorem pn_0 : plainName "com/example/warrants_across_databases/warrantsacrossdatabases/derivation/SimilarityIsZeroPinLaw" = true := by first | (simp [plainName, overriddenIn]; done) | decide +kernel
theorem ef_0 (m : MethodId) (p1 : Int32) (p2 : Int32) (p3 : Int32) : entryFrame m #[(.int p1), (.int p2), (.int p3)] maxLocals = mkF m 0 #[.val (.int p1), .val (.int p2), .val (.int p3), .unset, .unset, .unset, .unset, .unset, .unset] [] := by first | (simp [entryFrame, mkF, argsToLocals, Value.category, maxLocals]; done) | rfl
def Q0 (Z : State) (p1 : Int32) (p2 : Int32) (p3 : Int32) (h0 : Heap) (n0 : Nat) (v : Option Value) (h : Heap) (L : List Loc) : Prop := v = some (.int (1 : Int32)) ∧ Fr n0 L
abbrev P0 (Z : State) (p1 : Int32) (p2 : Int32) (p3 : Int32) (h0 : Heap) (n0 : Nat) (s : State) : Outcome → State → Prop := fun o U' => ∃ v L, o = .returned v ∧ Q0 Z p1 p2 p3 h0 n0 v U'.heap L ∧ FrameEnd s o U' L room_1.cells room_1.slots
set_option maxRecDepth 65536 in
set_option maxHeartbeats 40000000 in
theorem rm0 (l : Launch) (Z : State) (a0 : Array Value) (hw : ∀ d ∈ tables_1, d.before a0 Z = true) (ws : List Jvm.Cond) (p1 : Int32) (p2 : Int32) (p3 : Int32) (h0 : Heap) (n0 : Nat) (Z0 : n0 ≤ h0.size) :
    MetFree l x (head1 (Jvm.Cond.code x code maxLocals ret :: ws) room_1) (fun a U => a = #[(.int p1), (.int p2), (.int p3)] ∧ Z.Warmed39 U.vm ∧ U.heap = h0) (fun _ _ _ _ _ => True) (fun _ U o U' => ∃ v L, o = .returned v ∧ Q0 Z p1 p2 p3 h0 n0 v U'.heap L ∧ FrameEnd U o U' L room_1.cells room_1.slots) := by
  refine MetFree.of_bodySF (plainFor_of_name pn_0) hisR ?_
  intro p e s m args below meth c s₁ Bd hml0 hP hK
  obtain ⟨rfl, hZ, hh⟩ := hP
  have hx := Bd.exec
  have hby := Bd.bytes
  have hml : c.maxLocals = 9 := hml0
  have hown : s.vm.findClass "com/example/warrants_across_databases/warrantsacrossdatabases/derivation/SimilarityIsZeroPinLaw" = some m.cls := findClass_of_methodNamed Bd.named
  have hnm := (name_of_methodNamed Bd.named Bd.method).1
  have X0 : Stand p l e room_1 s m #[(.int p1), (.int p2), (.int p3)] below meth c s₁ [] 0 0 := Stand.of_body Bd
  have e0 : s₁.heap = h0 := by rw [← hh, Bd.state]; rfl
  have N0 := Fr.nil n0
  show own_Go p.tables e below (P0 Z p1 p2 p3 h0 n0 s) (s₁.setTop (entryFrame m #[(.int p1), (.int p2), (.int p3)] maxLocals))
  refine own_by (T' := s₁.setTop (mkF m 0 #[.val (.int p1), .val (.int p2), .val (.int p3), .unset, .unset, .unset, .unset, .unset, .unset] [])) (fun t k => castTop (ef_0 m p1 p2 p3) k) ?_
  show own_Go _ _ _ _ (s₁.setTop (mkF m 0 #[.val (.int p1), .val (.int p2), .val (.int p3), .unset, .unset, .unset, .unset, .unset, .unset] []))
  refine own_by (fun t k => XS.iconst X0.here hx rfl (hb hby at_0) k) ?_
  show own_Go _ _ _ _ (s₁.setTop (mkF m 1 #[.val (.int p1), .val (.int p2), .val (.int p3), .unset, .unset, .unset, .unset, .unset, .unset] [(.int (1 : Int32))]))
  refine own_by (fun t k => XS.iloadN X0.here hx rfl (hb hby at_1) rfl k) ?_
  show own_Go _ _ _ _ (s₁.setTop (mkF m 2 #[.val (.int p1), .val (.int p2), .val (.int p3), .unset, .unset, .unset, .unset, .unset, .unset] [(.int p1), (.int (1 : Int32))]))
  refine own_by (fun t k => X0.ldcInt hx hown (mvT hZ (hw _ (List.mem_of_getElem? (i := 0) rfl))) (g := (mkF m 2 #[.val (.int p1), .val (.int p2), .val (.int p3), .unset, .unset, .unset, .unset, .unset, .unset] [(.int p1), (.int (1 : Int32))])) rfl (hb hby at_2) _ k) ?_
  show own_Go _ _ _ _ (s₁.setTop (mkF m 4 #[.val (.int p1), .val (.int p2), .val (.int p3), .unset, .unset, .unset, .unset, .unset, .unset] [(.int (2147483647 : Int32)), (.int p1), (.int (1 : Int32))]))
  refine own_by (fun t k => XS.iand X0.here hx rfl (hb hby at_4) rfl k) ?_
  show own_Go _ _ _ _ (s₁.setTop (mkF m 5 #[.val (.int p1), .val (.int p2), .val (.int p3), .unset, .unset, .unset, .unset, .unset, .unset] [(.int (p1 &&& (2147483647 : Int32))), (.int (1 : Int32))]))
  refine own_by (fun t k => X0.ldcInt hx hown (mvT hZ (hw _ (List.mem_of_getElem? (i := 0) rfl))) (g := (mkF m 5 #[.val (.int p1), .val (.int p2), .val (.int p3), .unset, .unset, .unset, .unset, .unset, .unset] [(.int (p1 &&& (2147483647 : Int32))), (.int (1 : Int32))])) rfl (hb hby at_5) _ k) ?_
  show own_Go _ _ _ _ (s₁.setTop (mkF m 7 #[.val (.int p1), .val (.int p2), .val (.int p3), .unset, .unset, .unset, .unset, .unset, .unset] [(.int (2147483647 : Int32)), (.int (p1 &&& (2147483647 : Int32))), (.int (1 : Int32))]))
  refine own_by (fun t k => iremM X0 hx rfl (hb hby at_7) rfl (by decide : ¬ ((2147483647 : Int32) = (0 : Int32))) k) ?_
  show own_Go _ _ _ _ (s₁.setTop (mkF m 8 #[.val (.int p1), .val (.int p2), .val (.int p3), .unset, .unset, .unset, .unset, .unset, .unset] [(.int ((p1 &&& (2147483647 : Int32)) % (2147483647 : Int32))), (.int (1 : Int32))]))
  refine own_by (fun t k => XS.iadd X0.here hx rfl (hb hby at_8) rfl k) ?_
  show own_Go _ _ _ _ (s₁.setTop (mkF m 9 #[.val (.int p1), .val (.int p2), .val (.int p3), .unset, .unset, .unset, .unset, .unset, .unset] [(.int ((1 : Int32) + ((p1 &&& (2147483647 : Int32)) % (2147483647 : Int32))))]))
  obtain ⟨rr, hrr⟩ : ∃ z : Int32, z = ((1 : Int32) + ((p1 &&& (2147483647 : Int32)) % (2147483647 : Int32))) := ⟨_, rfl⟩
  rw [← hrr]
  have hr1 : 1 ≤ rr.toInt := by rw [hrr]; exact own_rr p1
  show own_Go _ _ _ _ (s₁.setTop (mkF m 9 #[.val (.int p1), .val (.int p2), .val (.int p3), .unset, .unset, .unset, .unset, .unset, .unset] [(.int rr)]))
  refine own_by (fun t k => XS.istoreN X0.here hx rfl (hb hby at_9) rfl (l' := #[.val (.int p1), .val (.int p2), .val (.int p3), .val (.int rr), .unset, .unset, .unset, .unset, .unset]) rfl k) ?_
  show own_Go _ _ _ _ (s₁.setTop (mkF m 10 #[.val (.int p1), .val (.int p2), .val (.int p3), .val (.int rr), .unset, .unset, .unset, .unset, .unset] []))
  refine own_by (fun t k => XS.iloadN X0.here hx rfl (hb hby at_10) rfl k) ?_
  show own_Go _ _ _ _ (s₁.setTop (mkF m 11 #[.val (.int p1), .val (.int p2), .val (.int p3), .val (.int rr), .unset, .unset, .unset, .unset, .unset] [(.int p2)]))
  refine own_by (fun t k => X0.ldcInt hx hown (mvT hZ (hw _ (List.mem_of_getElem? (i := 0) rfl))) (g := (mkF m 11 #[.val (.int p1), .val (.int p2), .val (.int p3), .val (.int rr), .unset, .unset, .unset, .unset, .unset] [(.int p2)])) rfl (hb hby at_11) _ k) ?_
  show own_Go _ _ _ _ (s₁.setTop (mkF m 13 #[.val (.int p1), .val (.int p2), .val (.int p3), .val (.int rr), .unset, .unset, .unset, .unset, .unset] [(.int (2147483647 : Int32)), (.int p2)]))
  refine own_by (fun t k => XS.iand X0.here hx rfl (hb hby at_13) rfl k) ?_
  show own_Go _ _ _ _ (s₁.setTop (mkF m 14 #[.val (.int p1), .val (.int p2), .val (.int p3), .val (.int rr), .unset, .unset, .unset, .unset, .unset] [(.int (p2 &&& (2147483647 : Int32)))]))
  refine own_by (fun t k => XS.iloadN X0.here hx rfl (hb hby at_14) rfl k) ?_
  show own_Go _ _ _ _ (s₁.setTop (mkF m 15 #[.val (.int p1), .val (.int p2), .val (.int p3), .val (.int rr), .unset, .unset, .unset, .unset, .unset] [(.int rr), (.int (p2 &&& (2147483647 : Int32)))]))
  refine own_by (fun t k => XS.iconst X0.here hx rfl (hb hby at_15) k) ?_
  show own_Go _ _ _ _ (s₁.setTop (mkF m 16 #[.val (.int p1), .val (.int p2), .val (.int p3), .val (.int rr), .unset, .unset, .unset, .unset, .unset] [(.int (2 : Int32)), (.int rr), (.int (p2 &&& (2147483647 : Int32)))]))
  refine own_by (fun t k => XS.idiv X0.here hx rfl (hb hby at_16) rfl (by decide : ¬ ((2 : Int32) = (0 : Int32))) k) ?_
  show own_Go _ _ _ _ (s₁.setTop (mkF m 17 #[.val (.int p1), .val (.int p2), .val (.int p3), .val (.int rr), .unset, .unset, .unset, .unset, .unset] [(.int (rr / (2 : Int32))), (.int (p2 &&& (2147483647 : Int32)))]))
  refine own_by (fun t k => XS.iconst X0.here hx rfl (hb hby at_17) k) ?_
  show own_Go _ _ _ _ (s₁.setTop (mkF m 18 #[.val (.int p1), .val (.int p2), .val (.int p3), .val (.int rr), .unset, .unset, .unset, .unset, .unset] [(.int (1 : Int32)), (.int (rr / (2 : Int32))), (.int (p2 &&& (2147483647 : Int32)))]))
  refine own_by (fun t k => XS.iadd X0.here hx rfl (hb hby at_18) rfl k) ?_
  have hnz19 := own_nz rr hr1
  show own_Go _ _ _ _ (s₁.setTop (mkF m 19 #[.val (.int p1), .val (.int p2), .val (.int p3), .val (.int rr), .unset, .unset, .unset, .unset, .unset] [(.int ((rr / (2 : Int32)) + (1 : Int32))), (.int (p2 &&& (2147483647 : Int32)))]))
  refine own_by (fun t k => iremM X0 hx rfl (hb hby at_19) rfl (hnz19 : ¬ (((rr / (2 : Int32)) + (1 : Int32)) = (0 : Int32))) k) ?_
  show own_Go _ _ _ _ (s₁.setTop (mkF m 20 #[.val (.int p1), .val (.int p2), .val (.int p3), .val (.int rr), .unset, .unset, .unset, .unset, .unset] [(.int ((p2 &&& (2147483647 : Int32)) % ((rr / (2 : Int32)) + (1 : Int32))))]))
  obtain ⟨mm, hmm⟩ : ∃ z : Int32, z = ((p2 &&& (2147483647 : Int32)) % ((rr / (2 : Int32)) + (1 : Int32))) := ⟨_, rfl⟩
  rw [← hmm]
  have hm1 : 0 ≤ mm.toInt ∧ 2 * mm.toInt ≤ rr.toInt := by rw [hmm]; exact own_mm rr p2 hr1
  show own_Go _ _ _ _ (s₁.setTop (mkF m 20 #[.val (.int p1), .val (.int p2), .val (.int p3), .val (.int rr), .unset, .unset, .unset, .unset, .unset] [(.int mm)]))
  refine own_by (fun t k => XS.istore X0.here hx rfl (hb hby at_20) rfl (l' := #[.val (.int p1), .val (.int p2), .val (.int p3), .val (.int rr), .val (.int mm), .unset, .unset, .unset, .unset]) rfl k) ?_
  show own_Go _ _ _ _ (s₁.setTop (mkF m 22 #[.val (.int p1), .val (.int p2), .val (.int p3), .val (.int rr), .val (.int mm), .unset, .unset, .unset, .unset] []))
  refine own_by (fun t k => XS.iloadN X0.here hx rfl (hb hby at_22) rfl k) ?_
  show own_Go _ _ _ _ (s₁.setTop (mkF m 23 #[.val (.int p1), .val (.int p2), .val (.int p3), .val (.int rr), .val (.int mm), .unset, .unset, .unset, .unset] [(.int p3)]))
  refine own_by (fun t k => XS.iconst X0.here hx rfl (hb hby at_23) k) ?_
  show own_Go _ _ _ _ (s₁.setTop (mkF m 24 #[.val (.int p1), .val (.int p2), .val (.int p3), .val (.int rr), .val (.int mm), .unset, .unset, .unset, .unset] [(.int (1 : Int32)), (.int p3)]))
  refine own_by (fun t k => XS.iand X0.here hx rfl (hb hby at_24) rfl k) ?_
  show own_Go _ _ _ _ (s₁.setTop (mkF m 25 #[.val (.int p1), .val (.int p2), .val (.int p3), .val (.int rr), .val (.int mm), .unset, .unset, .unset, .unset] [(.int (p3 &&& (1 : Int32)))]))
  have J31 : ∀ i4 : Int32, (0 ≤ i4.toInt ∧ 2 * i4.toInt ≤ rr.toInt) → own_Go p.tables e below (P0 Z p1 p2 p3 h0 n0 s) (s₁.setTop (mkF m 31 #[.val (.int p1), .val (.int p2), .val (.int p3), .val (.int rr), .val (.int i4), .unset, .unset, .unset, .unset] [])) := by
    intro i4 hi4
    show own_Go _ _ _ _ (s₁.setTop (mkF m 31 #[.val (.int p1), .val (.int p2), .val (.int p3), .val (.int rr), .val (.int i4), .unset, .unset, .unset, .unset] []))
    obtain ⟨To0_1, ho0_1, Xo0_1, eo0_1, Eo0_1, Ao0_1, Do0_1, -, sto0_1⟩ := newO X0 hx hZ hown (hw _ (List.mem_of_getElem? (i := 1) rfl)) (hw _ (List.mem_of_getElem? (i := 2) rfl)) (hw _ (List.mem_of_getElem? (i := 3) rfl)) e0 (g := (mkF m 31 #[.val (.int p1), .val (.int p2), .val (.int p3), .val (.int rr), .val (.int i4), .unset, .unset, .unset, .unset] [])) rfl (hb hby at_31) (by decide) (by decide)
    obtain ⟨b1, q_b1⟩ : ∃ z, z = h0.size := ⟨_, rfl⟩
    rw [← q_b1] at Ao0_1 Do0_1 sto0_1
    have g_b1 : n0 ≤ b1 := Nat.le_trans Z0 (Nat.le_of_eq q_b1.symm)
    have Zs_o0_1 : n0 ≤ ho0_1.size := Nat.le_trans Z0 Eo0_1.1
    have E_b1 := Ao0_1
    have F_matched_b1 : Fld Z ho0_1 b1 "com/example/warrants_across_databases/warrantsacrossdatabases/derivation/Similarity" "matched" "I" (.int (0 : Int32)) := Do0_1 (Or.inr (hw _ (List.mem_of_getElem? (i := 17) rfl))) (ty := .int) (by decide)
    have F_rights_b1 : Fld Z ho0_1 b1 "com/example/warrants_across_databases/warrantsacrossdatabases/derivation/Similarity" "rights" "I" (.int (0 : Int32)) := Do0_1 (Or.inr (hw _ (List.mem_of_getElem? (i := 19) rfl))) (ty := .int) (by decide)
    refine own_by (fun t k => sto0_1 t k) ?_
    show own_Go _ _ _ _ (To0_1.setTop (mkF m 34 #[.val (.int p1), .val (.int p2), .val (.int p3), .val (.int rr), .val (.int i4), .unset, .unset, .unset, .unset] [(.ref b1)]))
    refine own_by (fun t k => XS.dup Xo0_1.here hx rfl (hb hby at_34) rfl rfl k) ?_
    show own_Go _ _ _ _ (To0_1.setTop (mkF m 35 #[.val (.int p1), .val (.int p2), .val (.int p3), .val (.int rr), .val (.int i4), .unset, .unset, .unset, .unset] [(.ref b1), (.ref b1)]))
    refine own_by (fun t k => XS.iload Xo0_1.here hx rfl (hb hby at_35) rfl k) ?_
    show own_Go _ _ _ _ (To0_1.setTop (mkF m 37 #[.val (.int p1), .val (.int p2), .val (.int p3), .val (.int rr), .val (.int i4), .unset, .unset, .unset, .unset] [(.int i4), (.ref b1), (.ref b1)]))
    refine own_by (fun t k => XS.iloadN Xo0_1.here hx rfl (hb hby at_37) rfl k) ?_
    show own_Go _ _ _ _ (To0_1.setTop (mkF m 38 #[.val (.int p1), .val (.int p2), .val (.int p3), .val (.int rr), .val (.int i4), .unset, .unset, .unset, .unset] [(.int rr), (.int i4), (.ref b1), (.ref b1)]))
    obtain ⟨_, _, ⟨Tc0_2, Lc0_2, kc0_2, nc0_2⟩, -, Xc0_2, ⟨Lcc0_2, hQc0_2, lc0_2, yc0_2, zc0_2⟩, stc0_2⟩ := Xo0_1.specialBack hx (y := (⟨"com/example/warrants_across_databases/warrantsacrossdatabases/derivation/Similarity", "<init>", "(II)V"⟩ : MethodName)) rfl hown (mvT hZ (hw _ (List.mem_of_getElem? (i := 4) rfl))) (mvT hZ (hw _ (List.mem_of_getElem? (i := 5) rfl))) (mvT hZ (hw _ (List.mem_of_getElem? (i := 6) rfl))) (by decide) (backOf (W := 1) (rm1 l Z a0 hw [] b1 i4 rr  ho0_1 n0 Zs_o0_1 _ _ E_b1 F_matched_b1 F_rights_b1 g_b1 (own_ok1 rr hr1) (own_ok2 i4 hi4.1) (own_ok3 rr i4 hi4.1 hi4.2)) hZ (hw _ (List.mem_of_getElem? (i := 6) rfl)) (hw _ (List.mem_of_getElem? (i := 3) rfl)) (by decide) (by decide)) (g := (mkF m 38 #[.val (.int p1), .val (.int p2), .val (.int p3), .val (.int rr), .val (.int i4), .unset, .unset, .unset, .unset] [(.int rr), (.int i4), (.ref b1), (.ref b1)])) rfl (by rw [hml]; rfl) (Steps.refl _) (a := b1) (argsL := [(.int i4), (.int rr)]) (rest := [(.ref b1)]) (lenOf pd_0_0 rfl) rfl (by show 2 * 0 + _ ≤ _; exact Nat.le_of_eq rfl) (hb hby at_38) (fun _ _ => ⟨rfl, eo0_1, (by decide : 1 + 0 ≤ _), (by decide : 2 + 0 ≤ _)⟩)
    dsimp only [Pt.U, Pt.locs, Pt.cells, Pt.slots] at Xc0_2 lc0_2 yc0_2 zc0_2 stc0_2 hQc0_2
    subst lc0_2 yc0_2 zc0_2
    obtain ⟨rfl, Nc0_2q, Kc0_2, -, gmc0_2, grc0_2⟩ := hQc0_2
    have Nc0_2 := Fr.app N0 Nc0_2q
    replace E_b1 := E_b1.keep Kc0_2
    have Zs_c0_2 : n0 ≤ Tc0_2.heap.size := Nat.le_trans Zs_o0_1 Kc0_2.1
    replace F_matched_b1 := gmc0_2
    replace F_rights_b1 := grc0_2
    refine own_by (fun t k => stc0_2.trans k) ?_
    show own_Go _ _ _ _ (Tc0_2.setTop (mkF m 41 #[.val (.int p1), .val (.int p2), .val (.int p3), .val (.int rr), .val (.int i4), .unset, .unset, .unset, .unset] [(.ref b1)]))
    refine own_by (fun t k => XS.astore Xc0_2.here hx rfl (hb hby at_41) rfl rfl (l' := #[.val (.int p1), .val (.int p2), .val (.int p3), .val (.int rr), .val (.int i4), .val (.ref b1), .unset, .unset, .unset]) rfl k) ?_
    show own_Go _ _ _ _ (Tc0_2.setTop (mkF m 43 #[.val (.int p1), .val (.int p2), .val (.int p3), .val (.int rr), .val (.int i4), .val (.ref b1), .unset, .unset, .unset] []))
    obtain ⟨To0_3, ho0_3, Xo0_3, eo0_3, Eo0_3, Ao0_3, Do0_3, -, sto0_3⟩ := newO Xc0_2 hx hZ hown (hw _ (List.mem_of_getElem? (i := 1) rfl)) (hw _ (List.mem_of_getElem? (i := 2) rfl)) (hw _ (List.mem_of_getElem? (i := 3) rfl)) rfl (g := (mkF m 43 #[.val (.int p1), .val (.int p2), .val (.int p3), .val (.int rr), .val (.int i4), .val (.ref b1), .unset, .unset, .unset] [])) rfl (hb hby at_43) (by decide) (by decide)
    obtain ⟨b2, q_b2⟩ : ∃ z, z = Tc0_2.heap.size := ⟨_, rfl⟩
    rw [← q_b2] at Ao0_3 Do0_3 sto0_3
    have g_b2 : n0 ≤ b2 := Nat.le_trans Zs_c0_2 (Nat.le_of_eq q_b2.symm)
    have Zs_o0_3 : n0 ≤ ho0_3.size := Nat.le_trans Zs_c0_2 Eo0_3.1
    have ne_b1_b2 : b1 ≠ b2 := Nat.ne_of_lt (Nat.lt_of_lt_of_le E_b1.lt (Nat.le_of_eq q_b2.symm))
    replace E_b1 := E_b1.ext Eo0_3
    replace F_matched_b1 := F_matched_b1.ext Eo0_3
    replace F_rights_b1 := F_rights_b1.ext Eo0_3
    have E_b2 := Ao0_3
    have F_matched_b2 : Fld Z ho0_3 b2 "com/example/warrants_across_databases/warrantsacrossdatabases/derivation/Similarity" "matched" "I" (.int (0 : Int32)) := Do0_3 (Or.inr (hw _ (List.mem_of_getElem? (i := 17) rfl))) (ty := .int) (by decide)
    have F_rights_b2 : Fld Z ho0_3 b2 "com/example/warrants_across_databases/warrantsacrossdatabases/derivation/Similarity" "rights" "I" (.int (0 : Int32)) := Do0_3 (Or.inr (hw _ (List.mem_of_getElem? (i := 19) rfl))) (ty := .int) (by decide)
    refine own_by (fun t k => sto0_3 t k) ?_
    show own_Go _ _ _ _ (To0_3.setTop (mkF m 46 #[.val (.int p1), .val (.int p2), .val (.int p3), .val (.int rr), .val (.int i4), .val (.ref b1), .unset, .unset, .unset] [(.ref b2)]))
    refine own_by (fun t k => XS.dup Xo0_3.here hx rfl (hb hby at_46) rfl rfl k) ?_
    show own_Go _ _ _ _ (To0_3.setTop (mkF m 47 #[.val (.int p1), .val (.int p2), .val (.int p3), .val (.int rr), .val (.int i4), .val (.ref b1), .unset, .unset, .unset] [(.ref b2), (.ref b2)]))
    refine own_by (fun t k => XS.iconst Xo0_3.here hx rfl (hb hby at_47) k) ?_
    show own_Go _ _ _ _ (To0_3.setTop (mkF m 48 #[.val (.int p1), .val (.int p2), .val (.int p3), .val (.int rr), .val (.int i4), .val (.ref b1), .unset, .unset, .unset] [(.int (0 : Int32)), (.ref b2), (.ref b2)]))
    refine own_by (fun t k => XS.iconst Xo0_3.here hx rfl (hb hby at_48) k) ?_
    show own_Go _ _ _ _ (To0_3.setTop (mkF m 49 #[.val (.int p1), .val (.int p2), .val (.int p3), .val (.int rr), .val (.int i4), .val (.ref b1), .unset, .unset, .unset] [(.int (1 : Int32)), (.int (0 : Int32)), (.ref b2), (.ref b2)]))
    obtain ⟨_, _, ⟨Tc0_4, Lc0_4, kc0_4, nc0_4⟩, -, Xc0_4, ⟨Lcc0_4, hQc0_4, lc0_4, yc0_4, zc0_4⟩, stc0_4⟩ := Xo0_3.specialBack hx (y := (⟨"com/example/warrants_across_databases/warrantsacrossdatabases/derivation/Similarity", "<init>", "(II)V"⟩ : MethodName)) rfl hown (mvT hZ (hw _ (List.mem_of_getElem? (i := 4) rfl))) (mvT hZ (hw _ (List.mem_of_getElem? (i := 5) rfl))) (mvT hZ (hw _ (List.mem_of_getElem? (i := 6) rfl))) (by decide) (backOf (W := 1) (rm1 l Z a0 hw [] b2 (0 : Int32) (1 : Int32)  ho0_3 n0 Zs_o0_3 _ _ E_b2 F_matched_b2 F_rights_b2 g_b2 (by decide) (by decide) (by decide)) hZ (hw _ (List.mem_of_getElem? (i := 6) rfl)) (hw _ (List.mem_of_getElem? (i := 3) rfl)) (by decide) (by decide)) (g := (mkF m 49 #[.val (.int p1), .val (.int p2), .val (.int p3), .val (.int rr), .val (.int i4), .val (.ref b1), .unset, .unset, .unset] [(.int (1 : Int32)), (.int (0 : Int32)), (.ref b2), (.ref b2)])) rfl (by rw [hml]; rfl) (Steps.refl _) (a := b2) (argsL := [(.int (0 : Int32)), (.int (1 : Int32))]) (rest := [(.ref b2)]) (lenOf pd_0_0 rfl) rfl (by show 2 * 0 + _ ≤ _; exact Nat.le_of_eq rfl) (hb hby at_49) (fun _ _ => ⟨rfl, eo0_3, (by decide : 2 + 0 ≤ _), (by decide : 4 + 0 ≤ _)⟩)
    dsimp only [Pt.U, Pt.locs, Pt.cells, Pt.slots] at Xc0_4 lc0_4 yc0_4 zc0_4 stc0_4 hQc0_4
    subst lc0_4 yc0_4 zc0_4
    obtain ⟨rfl, Nc0_4q, Kc0_4, -, gmc0_4, grc0_4⟩ := hQc0_4
    have Nc0_4 := Fr.app Nc0_2 Nc0_4q
    replace E_b1 := E_b1.keep Kc0_4
    replace F_matched_b1 := F_matched_b1.keep Kc0_4 (ninS ne_b1_b2 nin0)
    replace F_rights_b1 := F_rights_b1.keep Kc0_4 (ninS ne_b1_b2 nin0)
    replace E_b2 := E_b2.keep Kc0_4
    have Zs_c0_4 : n0 ≤ Tc0_4.heap.size := Nat.le_trans Zs_o0_3 Kc0_4.1
    replace F_matched_b2 := gmc0_4
    replace F_rights_b2 := grc0_4
    refine own_by (fun t k => stc0_4.trans k) ?_
    show own_Go _ _ _ _ (Tc0_4.setTop (mkF m 52 #[.val (.int p1), .val (.int p2), .val (.int p3), .val (.int rr), .val (.int i4), .val (.ref b1), .unset, .unset, .unset] [(.ref b2)]))
    refine own_by (fun t k => XS.astore Xc0_4.here hx rfl (hb hby at_52) rfl rfl (l' := #[.val (.int p1), .val (.int p2), .val (.int p3), .val (.int rr), .val (.int i4), .val (.ref b1), .val (.ref b2), .unset, .unset]) rfl k) ?_
    show own_Go _ _ _ _ (Tc0_4.setTop (mkF m 54 #[.val (.int p1), .val (.int p2), .val (.int p3), .val (.int rr), .val (.int i4), .val (.ref b1), .val (.ref b2), .unset, .unset] []))
    refine own_by (fun t k => XS.aload Xc0_4.here hx rfl (hb hby at_54) rfl rfl k) ?_
    show own_Go _ _ _ _ (Tc0_4.setTop (mkF m 56 #[.val (.int p1), .val (.int p2), .val (.int p3), .val (.int rr), .val (.int i4), .val (.ref b1), .val (.ref b2), .unset, .unset] [(.ref b1)]))
    obtain ⟨cqc0_5, kqc0_5, qc0_5a, qc0_5b, qc0_5c⟩ := isOf hZ rfl E_b1
    obtain ⟨_, _, ⟨Tc0_5, Lc0_5, kc0_5, nc0_5⟩, -, Xc0_5, ⟨Lcc0_5, hQc0_5, lc0_5, yc0_5, zc0_5⟩, stc0_5⟩ := Xc0_4.virtualBack hx (y := (⟨"com/example/warrants_across_databases/warrantsacrossdatabases/derivation/Similarity", "isZero", "()Z"⟩ : MethodName)) (z := (⟨"com/example/warrants_across_databases/warrantsacrossdatabases/derivation/Similarity", "isZero", "()Z"⟩ : MethodName)) hown (mvT hZ (hw _ (List.mem_of_getElem? (i := 20) rfl))) (mvT hZ (hw _ (List.mem_of_getElem? (i := 21) rfl))) (notFace_of_selects (args := #[]) (mvT hZ (hw _ (List.mem_of_getElem? (i := 23) rfl)))) (mvT hZ (hw _ (List.mem_of_getElem? (i := 23) rfl))) (mvT hZ (hw _ (List.mem_of_getElem? (i := 22) rfl))) (by decide) (backOf (W := 0) (rm4 l Z a0 hw [] b1 i4 Tc0_4.heap n0 Zs_c0_4 F_matched_b1) hZ (hw _ (List.mem_of_getElem? (i := 24) rfl)) (hw _ (List.mem_of_getElem? (i := 3) rfl)) (by decide) (by decide)) qc0_5a qc0_5c (g := (mkF m 56 #[.val (.int p1), .val (.int p2), .val (.int p3), .val (.int rr), .val (.int i4), .val (.ref b1), .val (.ref b2), .unset, .unset] [(.ref b1)])) rfl (by rw [hml]; rfl) (Steps.refl _) (argsL := []) (rest := []) (lenOf pd_0_1 rfl) rfl (by show 2 * 0 + _ ≤ _; exact Nat.le_of_eq rfl) (hb hby at_56) (fun _ _ => ⟨rfl, rfl, (by decide : 2 + 0 ≤ _), (by decide : 4 + 0 ≤ _)⟩)
    dsimp only [Pt.U, Pt.locs, Pt.cells, Pt.slots] at Xc0_5 lc0_5 yc0_5 zc0_5 stc0_5 hQc0_5
    subst lc0_5 yc0_5 zc0_5
    obtain ⟨rfl, Nc0_5q, ehc0_5⟩ := hQc0_5
    have Nc0_5 := Fr.app Nc0_4 Nc0_5q
    refine own_by (fun t k => stc0_5.trans k) ?_
    show own_Go _ _ _ _ (Tc0_5.setTop (mkF m 59 #[.val (.int p1), .val (.int p2), .val (.int p3), .val (.int rr), .val (.int i4), .val (.ref b1), .val (.ref b2), .unset, .unset] [(.int (own_z i4))]))
    refine own_by (fun t k => XS.istore Xc0_5.here hx rfl (hb hby at_59) rfl (l' := #[.val (.int p1), .val (.int p2), .val (.int p3), .val (.int rr), .val (.int i4), .val (.ref b1), .val (.ref b2), .val (.int (own_z i4)), .unset]) rfl k) ?_
    show own_Go _ _ _ _ (Tc0_5.setTop (mkF m 61 #[.val (.int p1), .val (.int p2), .val (.int p3), .val (.int rr), .val (.int i4), .val (.ref b1), .val (.ref b2), .val (.int (own_z i4)), .unset] []))
    refine own_by (fun t k => XS.iload Xc0_5.here hx rfl (hb hby at_61) rfl k) ?_
    show own_Go _ _ _ _ (Tc0_5.setTop (mkF m 63 #[.val (.int p1), .val (.int p2), .val (.int p3), .val (.int rr), .val (.int i4), .val (.ref b1), .val (.ref b2), .val (.int (own_z i4)), .unset] [(.int i4)]))
    by_cases hc63 : i4 = (0 : Int32)
    · refine own_by (fun t k => XS.ifNo Xc0_5.here hx rfl (hb hby at_63) rfl ((if0 _ _).trans (teq hc63).2) k) ?_
      show own_Go _ _ _ _ (Tc0_5.setTop (mkF m 66 #[.val (.int p1), .val (.int p2), .val (.int p3), .val (.int rr), .val (.int i4), .val (.ref b1), .val (.ref b2), .val (.int (own_z i4)), .unset] []))
      refine own_by (fun t k => XS.iconst Xc0_5.here hx rfl (hb hby at_66) k) ?_
      show own_Go _ _ _ _ (Tc0_5.setTop (mkF m 67 #[.val (.int p1), .val (.int p2), .val (.int p3), .val (.int rr), .val (.int i4), .val (.ref b1), .val (.ref b2), .val (.int (own_z i4)), .unset] [(.int (1 : Int32))]))
      refine own_by (fun t k => XS.goto Xc0_5.here hx rfl (pc0 := 67) (pc' := 71) rfl (hb hby at_67) (by decide) (by decide) k) ?_
      show own_Go _ _ _ _ (Tc0_5.setTop (mkF m 71 #[.val (.int p1), .val (.int p2), .val (.int p3), .val (.int rr), .val (.int i4), .val (.ref b1), .val (.ref b2), .val (.int (own_z i4)), .unset] [(.int (1 : Int32))]))
      refine own_by (fun t k => XS.istore Xc0_5.here hx rfl (hb hby at_71) rfl (l' := #[.val (.int p1), .val (.int p2), .val (.int p3), .val (.int rr), .val (.int i4), .val (.ref b1), .val (.ref b2), .val (.int (own_z i4)), .val (.int (1 : Int32))]) rfl k) ?_
      show own_Go _ _ _ _ (Tc0_5.setTop (mkF m 73 #[.val (.int p1), .val (.int p2), .val (.int p3), .val (.int rr), .val (.int i4), .val (.ref b1), .val (.ref b2), .val (.int (own_z i4)), .val (.int (1 : Int32))] []))
      refine own_by (fun t k => XS.iload Xc0_5.here hx rfl (hb hby at_73) rfl k) ?_
      show own_Go _ _ _ _ (Tc0_5.setTop (mkF m 75 #[.val (.int p1), .val (.int p2), .val (.int p3), .val (.int rr), .val (.int i4), .val (.ref b1), .val (.ref b2), .val (.int (own_z i4)), .val (.int (1 : Int32))] [(.int (own_z i4))]))
      refine own_by (fun t k => XS.iload Xc0_5.here hx rfl (hb hby at_75) rfl k) ?_
      show own_Go _ _ _ _ (Tc0_5.setTop (mkF m 77 #[.val (.int p1), .val (.int p2), .val (.int p3), .val (.int rr), .val (.int i4), .val (.ref b1), .val (.ref b2), .val (.int (own_z i4)), .val (.int (1 : Int32))] [(.int (1 : Int32)), (.int (own_z i4))]))
      refine own_by (fun t k => XS.icmpNo Xc0_5.here hx rfl (hb hby at_77) rfl (teq (by simp [own_z, hc63] : (own_z i4) = (1 : Int32))).2 k) ?_
      show own_Go _ _ _ _ (Tc0_5.setTop (mkF m 80 #[.val (.int p1), .val (.int p2), .val (.int p3), .val (.int rr), .val (.int i4), .val (.ref b1), .val (.ref b2), .val (.int (own_z i4)), .val (.int (1 : Int32))] []))
      refine own_by (fun t k => XS.iload Xc0_5.here hx rfl (hb hby at_80) rfl k) ?_
      show own_Go _ _ _ _ (Tc0_5.setTop (mkF m 82 #[.val (.int p1), .val (.int p2), .val (.int p3), .val (.int rr), .val (.int i4), .val (.ref b1), .val (.ref b2), .val (.int (own_z i4)), .val (.int (1 : Int32))] [(.int (own_z i4))]))
      refine own_by (fun t k => XS.aload Xc0_5.here hx rfl (hb hby at_82) rfl rfl k) ?_
      show own_Go _ _ _ _ (Tc0_5.setTop (mkF m 84 #[.val (.int p1), .val (.int p2), .val (.int p3), .val (.int rr), .val (.int i4), .val (.ref b1), .val (.ref b2), .val (.int (own_z i4)), .val (.int (1 : Int32))] [(.ref b1), (.int (own_z i4))]))
      refine own_by (fun t k => XS.aload Xc0_5.here hx rfl (hb hby at_84) rfl rfl k) ?_
      show own_Go _ _ _ _ (Tc0_5.setTop (mkF m 86 #[.val (.int p1), .val (.int p2), .val (.int p3), .val (.int rr), .val (.int i4), .val (.ref b1), .val (.ref b2), .val (.int (own_z i4)), .val (.int (1 : Int32))] [(.ref b2), (.ref b1), (.int (own_z i4))]))
      obtain ⟨cqc0_6, kqc0_6, qc0_6a, qc0_6b, qc0_6c⟩ := isOf hZ ehc0_5 E_b1
      obtain ⟨_, _, ⟨Tc0_6, Lc0_6, kc0_6, nc0_6⟩, -, Xc0_6, ⟨Lcc0_6, hQc0_6, lc0_6, yc0_6, zc0_6⟩, stc0_6⟩ := Xc0_5.virtualBack hx (y := (⟨"com/example/warrants_across_databases/warrantsacrossdatabases/derivation/Similarity", "compareTo", "(Lcom/example/warrants_across_databases/warrantsacrossdatabases/derivation/Similarity;)I"⟩ : MethodName)) (z := (⟨"com/example/warrants_across_databases/warrantsacrossdatabases/derivation/Similarity", "compareTo", "(Lcom/example/warrants_across_databases/warrantsacrossdatabases/derivation/Similarity;)I"⟩ : MethodName)) hown (mvT hZ (hw _ (List.mem_of_getElem? (i := 25) rfl))) (mvT hZ (hw _ (List.mem_of_getElem? (i := 26) rfl))) (notFace_of_selects (args := #[]) (mvT hZ (hw _ (List.mem_of_getElem? (i := 28) rfl)))) (mvT hZ (hw _ (List.mem_of_getElem? (i := 28) rfl))) (mvT hZ (hw _ (List.mem_of_getElem? (i := 27) rfl))) (by decide) (backOf (W := 1) (rm5 l Z a0 hw [] b1 b2 i4 (1 : Int32) (0 : Int32) rr Tc0_4.heap n0 Zs_c0_4 F_matched_b1 F_rights_b2 F_matched_b2 F_rights_b1) hZ (hw _ (List.mem_of_getElem? (i := 29) rfl)) (hw _ (List.mem_of_getElem? (i := 3) rfl)) (by decide) (by decide)) qc0_6a qc0_6c (g := (mkF m 86 #[.val (.int p1), .val (.int p2), .val (.int p3), .val (.int rr), .val (.int i4), .val (.ref b1), .val (.ref b2), .val (.int (own_z i4)), .val (.int (1 : Int32))] [(.ref b2), (.ref b1), (.int (own_z i4))])) rfl (by rw [hml]; rfl) (Steps.refl _) (argsL := [(.ref b2)]) (rest := [(.int (own_z i4))]) (lenOf pd_0_2 rfl) rfl (by show 2 * 0 + _ ≤ _; exact Nat.le_of_eq rfl) (hb hby at_86) (fun _ _ => ⟨rfl, ehc0_5, (by decide : 2 + 0 ≤ _), (by decide : 4 + 0 ≤ _)⟩)
      dsimp only [Pt.U, Pt.locs, Pt.cells, Pt.slots] at Xc0_6 lc0_6 yc0_6 zc0_6 stc0_6 hQc0_6
      subst lc0_6 yc0_6 zc0_6
      obtain ⟨rfl, Nc0_6q, ehc0_6⟩ := hQc0_6
      have Nc0_6 := Fr.app Nc0_5 Nc0_6q
      refine own_by (fun t k => stc0_6.trans k) ?_
      show own_Go _ _ _ _ (Tc0_6.setTop (mkF m 89 #[.val (.int p1), .val (.int p2), .val (.int p3), .val (.int rr), .val (.int i4), .val (.ref b1), .val (.ref b2), .val (.int (own_z i4)), .val (.int (1 : Int32))] [(.int (own_cmp (i4.toInt64 * (1 : Int32).toInt64) ((0 : Int32).toInt64 * rr.toInt64))), (.int (own_z i4))]))
      refine own_by (fun t k => XS.ifNo Xc0_6.here hx rfl (hb hby at_89) rfl ((if0 _ _).trans (teq ((own_c i4 rr).mpr hc63 : (own_cmp (i4.toInt64 * (1 : Int32).toInt64) ((0 : Int32).toInt64 * rr.toInt64)) = (0 : Int32))).2) k) ?_
      show own_Go _ _ _ _ (Tc0_6.setTop (mkF m 92 #[.val (.int p1), .val (.int p2), .val (.int p3), .val (.int rr), .val (.int i4), .val (.ref b1), .val (.ref b2), .val (.int (own_z i4)), .val (.int (1 : Int32))] [(.int (own_z i4))]))
      refine own_by (fun t k => XS.iconst Xc0_6.here hx rfl (hb hby at_92) k) ?_
      show own_Go _ _ _ _ (Tc0_6.setTop (mkF m 93 #[.val (.int p1), .val (.int p2), .val (.int p3), .val (.int rr), .val (.int i4), .val (.ref b1), .val (.ref b2), .val (.int (own_z i4)), .val (.int (1 : Int32))] [(.int (1 : Int32)), (.int (own_z i4))]))
      refine own_by (fun t k => XS.goto Xc0_6.here hx rfl (pc0 := 93) (pc' := 97) rfl (hb hby at_93) (by decide) (by decide) k) ?_
      show own_Go _ _ _ _ (Tc0_6.setTop (mkF m 97 #[.val (.int p1), .val (.int p2), .val (.int p3), .val (.int rr), .val (.int i4), .val (.ref b1), .val (.ref b2), .val (.int (own_z i4)), .val (.int (1 : Int32))] [(.int (1 : Int32)), (.int (own_z i4))]))
      refine own_by (fun t k => XS.icmpNo Xc0_6.here hx rfl (hb hby at_97) rfl (teq (by simp [own_z, hc63] : (own_z i4) = (1 : Int32))).2 k) ?_
      show own_Go _ _ _ _ (Tc0_6.setTop (mkF m 100 #[.val (.int p1), .val (.int p2), .val (.int p3), .val (.int rr), .val (.int i4), .val (.ref b1), .val (.ref b2), .val (.int (own_z i4)), .val (.int (1 : Int32))] []))
      refine own_by (fun t k => XS.iconst Xc0_6.here hx rfl (hb hby at_100) k) ?_
      show own_Go _ _ _ _ (Tc0_6.setTop (mkF m 101 #[.val (.int p1), .val (.int p2), .val (.int p3), .val (.int rr), .val (.int i4), .val (.ref b1), .val (.ref b2), .val (.int (own_z i4)), .val (.int (1 : Int32))] [(.int (1 : Int32))]))
      refine own_by (fun t k => XS.goto Xc0_6.here hx rfl (pc0 := 101) (pc' := 105) rfl (hb hby at_101) (by decide) (by decide) k) ?_
      show own_Go _ _ _ _ (Tc0_6.setTop (mkF m 105 #[.val (.int p1), .val (.int p2), .val (.int p3), .val (.int rr), .val (.int i4), .val (.ref b1), .val (.ref b2), .val (.int (own_z i4)), .val (.int (1 : Int32))] [(.int (1 : Int32))]))
      obtain ⟨fs, hr, hrun, hended, hW, hsame⟩ := Xc0_6.leave (v := some (.int (1 : Int32))) (fun h => by rw [Bd.returns] at h; cases h)
      refine ⟨_, _, retN Xc0_6 hx (t := .boolean) Bd.returns (by simp) (hb hby at_105) hr, hrun, hended, _, _, rfl, ?_, ⟨_, rfl⟩, hW, hsame.mono (by decide) (by decide)⟩
      show Q0 Z p1 p2 p3 h0 n0 _ Tc0_6.heap _
      rw [ehc0_6]
      exact ⟨rfl, Nc0_6⟩
    · refine own_by (fun t k => XS.ifYes Xc0_5.here hx rfl (pc0 := 63) (pc' := 70) rfl (hb hby at_63) rfl ((if0 _ _).trans (feq hc63).2) (by decide) (by decide) k) ?_
      show own_Go _ _ _ _ (Tc0_5.setTop (mkF m 70 #[.val (.int p1), .val (.int p2), .val (.int p3), .val (.int rr), .val (.int i4), .val (.ref b1), .val (.ref b2), .val (.int (own_z i4)), .unset] []))
      refine own_by (fun t k => XS.iconst Xc0_5.here hx rfl (hb hby at_70) k) ?_
      show own_Go _ _ _ _ (Tc0_5.setTop (mkF m 71 #[.val (.int p1), .val (.int p2), .val (.int p3), .val (.int rr), .val (.int i4), .val (.ref b1), .val (.ref b2), .val (.int (own_z i4)), .unset] [(.int (0 : Int32))]))
      refine own_by (fun t k => XS.istore Xc0_5.here hx rfl (hb hby at_71) rfl (l' := #[.val (.int p1), .val (.int p2), .val (.int p3), .val (.int rr), .val (.int i4), .val (.ref b1), .val (.ref b2), .val (.int (own_z i4)), .val (.int (0 : Int32))]) rfl k) ?_
      show own_Go _ _ _ _ (Tc0_5.setTop (mkF m 73 #[.val (.int p1), .val (.int p2), .val (.int p3), .val (.int rr), .val (.int i4), .val (.ref b1), .val (.ref b2), .val (.int (own_z i4)), .val (.int (0 : Int32))] []))
      refine own_by (fun t k => XS.iload Xc0_5.here hx rfl (hb hby at_73) rfl k) ?_
      show own_Go _ _ _ _ (Tc0_5.setTop (mkF m 75 #[.val (.int p1), .val (.int p2), .val (.int p3), .val (.int rr), .val (.int i4), .val (.ref b1), .val (.ref b2), .val (.int (own_z i4)), .val (.int (0 : Int32))] [(.int (own_z i4))]))
      refine own_by (fun t k => XS.iload Xc0_5.here hx rfl (hb hby at_75) rfl k) ?_
      show own_Go _ _ _ _ (Tc0_5.setTop (mkF m 77 #[.val (.int p1), .val (.int p2), .val (.int p3), .val (.int rr), .val (.int i4), .val (.ref b1), .val (.ref b2), .val (.int (own_z i4)), .val (.int (0 : Int32))] [(.int (0 : Int32)), (.int (own_z i4))]))
      refine own_by (fun t k => XS.icmpNo Xc0_5.here hx rfl (hb hby at_77) rfl (teq (by simp [own_z, hc63] : (own_z i4) = (0 : Int32))).2 k) ?_
      show own_Go _ _ _ _ (Tc0_5.setTop (mkF m 80 #[.val (.int p1), .val (.int p2), .val (.int p3), .val (.int rr), .val (.int i4), .val (.ref b1), .val (.ref b2), .val (.int (own_z i4)), .val (.int (0 : Int32))] []))
      refine own_by (fun t k => XS.iload Xc0_5.here hx rfl (hb hby at_80) rfl k) ?_
      show own_Go _ _ _ _ (Tc0_5.setTop (mkF m 82 #[.val (.int p1), .val (.int p2), .val (.int p3), .val (.int rr), .val (.int i4), .val (.ref b1), .val (.ref b2), .val (.int (own_z i4)), .val (.int (0 : Int32))] [(.int (own_z i4))]))
      refine own_by (fun t k => XS.aload Xc0_5.here hx rfl (hb hby at_82) rfl rfl k) ?_
      show own_Go _ _ _ _ (Tc0_5.setTop (mkF m 84 #[.val (.int p1), .val (.int p2), .val (.int p3), .val (.int rr), .val (.int i4), .val (.ref b1), .val (.ref b2), .val (.int (own_z i4)), .val (.int (0 : Int32))] [(.ref b1), (.int (own_z i4))]))
      refine own_by (fun t k => XS.aload Xc0_5.here hx rfl (hb hby at_84) rfl rfl k) ?_
      show own_Go _ _ _ _ (Tc0_5.setTop (mkF m 86 #[.val (.int p1), .val (.int p2), .val (.int p3), .val (.int rr), .val (.int i4), .val (.ref b1), .val (.ref b2), .val (.int (own_z i4)), .val (.int (0 : Int32))] [(.ref b2), (.ref b1), (.int (own_z i4))]))
      obtain ⟨cqc0_7, kqc0_7, qc0_7a, qc0_7b, qc0_7c⟩ := isOf hZ ehc0_5 E_b1
      obtain ⟨_, _, ⟨Tc0_7, Lc0_7, kc0_7, nc0_7⟩, -, Xc0_7, ⟨Lcc0_7, hQc0_7, lc0_7, yc0_7, zc0_7⟩, stc0_7⟩ := Xc0_5.virtualBack hx (y := (⟨"com/example/warrants_across_databases/warrantsacrossdatabases/derivation/Similarity", "compareTo", "(Lcom/example/warrants_across_databases/warrantsacrossdatabases/derivation/Similarity;)I"⟩ : MethodName)) (z := (⟨"com/example/warrants_across_databases/warrantsacrossdatabases/derivation/Similarity", "compareTo", "(Lcom/example/warrants_across_databases/warrantsacrossdatabases/derivation/Similarity;)I"⟩ : MethodName)) hown (mvT hZ (hw _ (List.mem_of_getElem? (i := 25) rfl))) (mvT hZ (hw _ (List.mem_of_getElem? (i := 26) rfl))) (notFace_of_selects (args := #[]) (mvT hZ (hw _ (List.mem_of_getElem? (i := 28) rfl)))) (mvT hZ (hw _ (List.mem_of_getElem? (i := 28) rfl))) (mvT hZ (hw _ (List.mem_of_getElem? (i := 27) rfl))) (by decide) (backOf (W := 1) (rm5 l Z a0 hw [] b1 b2 i4 (1 : Int32) (0 : Int32) rr Tc0_4.heap n0 Zs_c0_4 F_matched_b1 F_rights_b2 F_matched_b2 F_rights_b1) hZ (hw _ (List.mem_of_getElem? (i := 29) rfl)) (hw _ (List.mem_of_getElem? (i := 3) rfl)) (by decide) (by decide)) qc0_7a qc0_7c (g := (mkF m 86 #[.val (.int p1), .val (.int p2), .val (.int p3), .val (.int rr), .val (.int i4), .val (.ref b1), .val (.ref b2), .val (.int (own_z i4)), .val (.int (0 : Int32))] [(.ref b2), (.ref b1), (.int (own_z i4))])) rfl (by rw [hml]; rfl) (Steps.refl _) (argsL := [(.ref b2)]) (rest := [(.int (own_z i4))]) (lenOf pd_0_2 rfl) rfl (by show 2 * 0 + _ ≤ _; exact Nat.le_of_eq rfl) (hb hby at_86) (fun _ _ => ⟨rfl, ehc0_5, (by decide : 2 + 0 ≤ _), (by decide : 4 + 0 ≤ _)⟩)
      dsimp only [Pt.U, Pt.locs, Pt.cells, Pt.slots] at Xc0_7 lc0_7 yc0_7 zc0_7 stc0_7 hQc0_7
      subst lc0_7 yc0_7 zc0_7
      obtain ⟨rfl, Nc0_7q, ehc0_7⟩ := hQc0_7
      have Nc0_7 := Fr.app Nc0_5 Nc0_7q
      refine own_by (fun t k => stc0_7.trans k) ?_
      show own_Go _ _ _ _ (Tc0_7.setTop (mkF m 89 #[.val (.int p1), .val (.int p2), .val (.int p3), .val (.int rr), .val (.int i4), .val (.ref b1), .val (.ref b2), .val (.int (own_z i4)), .val (.int (0 : Int32))] [(.int (own_cmp (i4.toInt64 * (1 : Int32).toInt64) ((0 : Int32).toInt64 * rr.toInt64))), (.int (own_z i4))]))
      refine own_by (fun t k => XS.ifYes Xc0_7.here hx rfl (pc0 := 89) (pc' := 96) rfl (hb hby at_89) rfl ((if0 _ _).trans (feq (fun q => hc63 ((own_c i4 rr).mp q) : ¬ ((own_cmp (i4.toInt64 * (1 : Int32).toInt64) ((0 : Int32).toInt64 * rr.toInt64)) = (0 : Int32)))).2) (by decide) (by decide) k) ?_
      show own_Go _ _ _ _ (Tc0_7.setTop (mkF m 96 #[.val (.int p1), .val (.int p2), .val (.int p3), .val (.int rr), .val (.int i4), .val (.ref b1), .val (.ref b2), .val (.int (own_z i4)), .val (.int (0 : Int32))] [(.int (own_z i4))]))
      refine own_by (fun t k => XS.iconst Xc0_7.here hx rfl (hb hby at_96) k) ?_
      show own_Go _ _ _ _ (Tc0_7.setTop (mkF m 97 #[.val (.int p1), .val (.int p2), .val (.int p3), .val (.int rr), .val (.int i4), .val (.ref b1), .val (.ref b2), .val (.int (own_z i4)), .val (.int (0 : Int32))] [(.int (0 : Int32)), (.int (own_z i4))]))
      refine own_by (fun t k => XS.icmpNo Xc0_7.here hx rfl (hb hby at_97) rfl (teq (by simp [own_z, hc63] : (own_z i4) = (0 : Int32))).2 k) ?_
      show own_Go _ _ _ _ (Tc0_7.setTop (mkF m 100 #[.val (.int p1), .val (.int p2), .val (.int p3), .val (.int rr), .val (.int i4), .val (.ref b1), .val (.ref b2), .val (.int (own_z i4)), .val (.int (0 : Int32))] []))
      refine own_by (fun t k => XS.iconst Xc0_7.here hx rfl (hb hby at_100) k) ?_
      show own_Go _ _ _ _ (Tc0_7.setTop (mkF m 101 #[.val (.int p1), .val (.int p2), .val (.int p3), .val (.int rr), .val (.int i4), .val (.ref b1), .val (.ref b2), .val (.int (own_z i4)), .val (.int (0 : Int32))] [(.int (1 : Int32))]))
      refine own_by (fun t k => XS.goto Xc0_7.here hx rfl (pc0 := 101) (pc' := 105) rfl (hb hby at_101) (by decide) (by decide) k) ?_
      show own_Go _ _ _ _ (Tc0_7.setTop (mkF m 105 #[.val (.int p1), .val (.int p2), .val (.int p3), .val (.int rr), .val (.int i4), .val (.ref b1), .val (.ref b2), .val (.int (own_z i4)), .val (.int (0 : Int32))] [(.int (1 : Int32))]))
      obtain ⟨fs, hr, hrun, hended, hW, hsame⟩ := Xc0_7.leave (v := some (.int (1 : Int32))) (fun h => by rw [Bd.returns] at h; cases h)
      refine ⟨_, _, retN Xc0_7 hx (t := .boolean) Bd.returns (by simp) (hb hby at_105) hr, hrun, hended, _, _, rfl, ?_, ⟨_, rfl⟩, hW, hsame.mono (by decide) (by decide)⟩
      show Q0 Z p1 p2 p3 h0 n0 _ Tc0_7.heap _
      rw [ehc0_7]
      exact ⟨rfl, Nc0_7⟩
  show own_Go _ _ _ _ (s₁.setTop (mkF m 25 #[.val (.int p1), .val (.int p2), .val (.int p3), .val (.int rr), .val (.int mm), .unset, .unset, .unset, .unset] [(.int (p3 &&& (1 : Int32)))]))
  by_cases hc25 : (p3 &&& (1 : Int32)) = (0 : Int32)
  · refine own_by (fun t k => XS.ifYes X0.here hx rfl (pc0 := 25) (pc' := 31) rfl (hb hby at_25) rfl ((if0 _ _).trans (teq hc25).1) (by decide) (by decide) k) ?_
    show own_Go _ _ _ _ (s₁.setTop (mkF m 31 #[.val (.int p1), .val (.int p2), .val (.int p3), .val (.int rr), .val (.int mm), .unset, .unset, .unset, .unset] []))
    exact J31 _ hm1
  · refine own_by (fun t k => XS.ifNo X0.here hx rfl (hb hby at_25) rfl ((if0 _ _).trans (feq hc25).1) k) ?_
    show own_Go _ _ _ _ (s₁.setTop (mkF m 28 #[.val (.int p1), .val (.int p2), .val (.int p3), .val (.int rr), .val (.int mm), .unset, .unset, .unset, .unset] []))
    refine own_by (fun t k => XS.iconst X0.here hx rfl (hb hby at_28) k) ?_
    show own_Go _ _ _ _ (s₁.setTop (mkF m 29 #[.val (.int p1), .val (.int p2), .val (.int p3), .val (.int rr), .val (.int mm), .unset, .unset, .unset, .unset] [(.int (0 : Int32))]))
    refine own_by (fun t k => XS.istore X0.here hx rfl (hb hby at_29) rfl (l' := #[.val (.int p1), .val (.int p2), .val (.int p3), .val (.int rr), .val (.int (0 : Int32)), .unset, .unset, .unset, .unset]) rfl k) ?_
    show own_Go _ _ _ _ (s₁.setTop (mkF m 31 #[.val (.int p1), .val (.int p2), .val (.int p3), .val (.int rr), .val (.int (0 : Int32)), .unset, .unset, .unset, .unset] []))
    exact J31 _ ⟨by decide, by show 2 * (0 : Int) ≤ _; omega⟩
set_option maxRecDepth 65536 in
set_option maxHeartbeats 40000000 in
theorem comes_1 {Post : Tables → Env → Array Value → State → Outcome → State → Prop} (hpost : ∀ tb e args s v u, (limb_1_1.after args s (.returned v) u = true ∧ limb_1_2.after args s (.returned v) u = true ∧ True) → FrameEnd s (.returned v) u (Jvm.fieldLocs frame_1_writes args s ++ Jvm.arrayLocs frame_1_arrays args s ++ Jvm.staticLocs frame_1_statics s) 16 128 → Post tb e args s (.returned v) u) :
    ArmFor flags0 classFile x code maxLocals ret World_1 tables_1 room_1 Calls_1 rest_1 Pre_1 Post := by
  intro l hfl _ _ p e ha hc hk s m args below hf hA hF happ hP
  obtain ⟨hcalls, hrest, hpre⟩ := hP
  obtain ⟨-, -, -, hnamed, -, -, -, hat⟩ := (Spec.applies_iff hf).mp happ
  obtain ⟨hg, hn⟩ := and_e (Cond.before_iff.mp (show (Jvm.Cond.and given_1 narrow_1).before args s = true from hpre))
  obtain ⟨gc, gr0⟩ := and_e hg
  obtain ⟨ga0, gr1⟩ := and_e gr0
  obtain ⟨ga1, gr2⟩ := and_e gr1
  obtain ⟨w0, w1, w2, rfl⟩ : ∃ w0 w1 w2 : Value, args = #[w0, w1, w2] := by
    have hs : args.size = 3 := by simpa [Cond.value, given_1] using gc
    obtain ⟨L⟩ := args
    match L, hs with
    | [w0, w1, w2], _ => exact ⟨w0, w1, w2, rfl⟩
  have hw := fun d (hd : d ∈ tables_1) => atoms_spec (ws := Jvm.Cond.code x code maxLocals ret :: tables_1) hat d (List.mem_cons_of_mem _ hd)
  obtain ⟨i0, ei0⟩ := is_v ga0
  obtain rfl : w0 = (.int i0) := Option.some.inj ei0
  obtain ⟨i1, ei1⟩ := is_v ga1
  obtain rfl : w1 = (.int i1) := Option.some.inj ei1
  obtain ⟨i2, ei2⟩ := is_v gr2
  obtain rfl : w2 = (.int i2) := Option.some.inj ei2
  obtain ⟨n, o, h1, h2, h3, _, L, rfl, ⟨rfl, N⟩, hq⟩ := rm0 l s _ hw tables_1 i0 i1 i2 s.heap s.heap.size (Nat.le_refl _) p e ha hc hk s m _ below hf ((Spec.applies_iff_loose hf).mp happ).1 ⟨rfl, State.Warmed39.refl s, rfl⟩ trivial
  refine ⟨n, _, h1, h2, h3, hpost _ _ _ _ _ _ ⟨Cond.after_iff.mpr rfl, Cond.after_iff.mpr (eq_i res_at (Term.int_eval (1)) rfl), trivial⟩ ⟨hq.1, hq.2.1, (hq.2.2.sift fun y hy => Or.inr (N y hy)).mono (by decide) (by decide)⟩⟩
theorem main_1_1 : Claimed_1_1 := comes_1 fun _ _ _ _ _ _ h hF => ⟨h.1, hF⟩
theorem main_1_2 : Claimed_1_2 := comes_1 fun _ _ _ _ _ _ h hF => ⟨h.2.1, hF⟩
end Jvm.Pilot.@@N@@
namespace Jvm.Pilot.@@N@@
open Jvm Jvm.ClassFile Sem Op Lib Jvm.Free Jvm.Stand Jvm.Pilot.@@N@@.Jvm.D
/-! MADE BY PROGRAM (witnessworld.py) out of the Statement's table words and the real class files: 15 classes; the members and pool entries that the words name. The judged class is class 1, her method 1. -/
namespace start1
open Jvm.ClassFile
def u (s : String) : CpInfo := .utf8 (stringToUtf16 s)
/-- a pool by its gaps: so many unusable entries, then the entry; so many at the end -/
def gap : Nat → List CpInfo → List CpInfo
  | 0, r => r
  | n + 1, r => .unusable :: gap n r
def poolList (es : List (Nat × CpInfo)) (last : Nat) : List CpInfo := es.foldr (fun e r => gap e.1 (e.2 :: r)) (gap last [])
def pool (es : List (Nat × CpInfo)) (last : Nat) : Array CpInfo := ⟨poolList es last⟩
def fileOf (pool : Array CpInfo) (this : Nat) (attrs : Array Attribute := #[]) (ms : Array MethodInfo := #[]) (fl : Nat := 33) (sup : Nat := 0) (ifs : Array Nat := #[]) (fds : Array FieldInfo := #[]) : ClassFile where
  minorVersion := 0
  majorVersion := 65
  constantPool := pool
  accessFlags := fl
  thisClass := this
  superClass := sup
  interfaces := ifs
  fields := fds
  methods := ms
  attributes := attrs
def plain (name : String) (sup : Option ClassId) : Class where
  name := name
  kind := .ordinary
  loader := none
  accessFlags := 33
  super := sup
  interfaces := #[]
  cf := none
  fields := #[]
  methods := #[]
  instanceTypes := #[]
  staticTypes := #[]
  resolved := #[]
  callSites := []
  init := .initialized
  statics := none
  mirror := none

def pool0 : Array CpInfo := pool [(5, u "<init>"), (0, u "()V"), (1, .class_ 10), (1, u "java/lang/Object")] 113

def k0c0 : Code := { maxStack := 0, maxLocals := 1, code := object_method_1_code, exceptionTable := #[], attributes := #[] }
def k0m0 : Method := { name := "<init>", desc := "()V", sig := { parameters := [], returnType := none }, accessFlags := 1, code := some k0c0 }
/-- java/lang/Object -/
def k0 : Class := { plain "java/lang/Object" none with
  accessFlags := 33
  interfaces := #[]
  cf := some (fileOf pool0 8 #[] #[{ accessFlags := 1, nameIndex := 5, descriptorIndex := 6, attributes := #[] }] 33 0 #[] #[])
  fields := #[]
  methods := #[k0m0]
  instanceTypes := #[]
  staticTypes := #[]
  resolved := Array.replicate 124 none
  statics := none }

def pool1 : Array CpInfo := pool [(2, .class_ 4), (1, u "java/lang/Object"), (0, u "<init>"), (0, u "()V"), (0, .integer 2147483647), (2, .class_ 11), (0, u "com/example/warrants_across_databases/warrantsacrossdatabases/derivation/Similarity"), (0, .methodref 10 13), (0, .nameAndType 5 14), (0, u "(II)V"), (0, .methodref 10 16), (0, .nameAndType 17 18), (0, u "isZero"), (0, u "()Z"), (0, .methodref 10 20), (0, .nameAndType 21 22), (0, u "compareTo"), (0, u "(Lcom/example/warrants_across_databases/warrantsacrossdatabases/derivation/Similarity;)I"), (0, .class_ 24), (0, u "com/example/warrants_across_databases/warrantsacrossdatabases/derivation/SimilarityIsZeroPinLaw"), (2, u "law"), (0, u "(III)Z")] 3

def k1m0 : Method := { name := "<init>", desc := "()V", sig := { parameters := [], returnType := none }, accessFlags := 1, code := none }
def k1c1 : Code := { maxStack := 4, maxLocals := 9, code := code, exceptionTable := #[], attributes := #[] }
def k1m1 : Method := { name := "law", desc := "(III)Z", sig := { parameters := [.int, .int, .int], returnType := some .boolean }, accessFlags := 9, code := some k1c1 }
/-- com/example/warrants_across_databases/warrantsacrossdatabases/derivation/SimilarityIsZeroPinLaw -/
def k1 : Class := { plain "com/example/warrants_across_databases/warrantsacrossdatabases/derivation/SimilarityIsZeroPinLaw" (some 0) with
  accessFlags := 49
  interfaces := #[]
  cf := some (fileOf pool1 23 #[] #[{ accessFlags := 1, nameIndex := 5, descriptorIndex := 6, attributes := #[] }, { accessFlags := 9, nameIndex := 27, descriptorIndex := 28, attributes := #[] }] 49 2 #[] #[])
  fields := #[]
  methods := #[k1m0, k1m1]
  instanceTypes := #[]
  staticTypes := #[]
  resolved := Array.replicate 32 none
  statics := none }

def pool2 : Array CpInfo := pool [(1, .methodref 2 3), (0, .class_ 4), (0, .nameAndType 5 6), (0, u "java/lang/Object"), (0, u "<init>"), (0, u "()V"), (0, .class_ 8), (0, u "java/lang/Record")] 13

def k2c0 : Code := { maxStack := 1, maxLocals := 1, code := jdk_30_method_1_code, exceptionTable := #[], attributes := #[] }
def k2m0 : Method := { name := "<init>", desc := "()V", sig := { parameters := [], returnType := none }, accessFlags := 4, code := some k2c0 }
/-- java/lang/Record -/
def k2 : Class := { plain "java/lang/Record" (some 0) with
  accessFlags := 1057
  interfaces := #[]
  cf := some (fileOf pool2 7 #[] #[{ accessFlags := 4, nameIndex := 5, descriptorIndex := 6, attributes := #[] }] 1057 2 #[] #[])
  fields := #[]
  methods := #[k2m0]
  instanceTypes := #[]
  staticTypes := #[]
  resolved := Array.replicate 22 none
  statics := none }

def pool3 : Array CpInfo := pool [(1, .class_ 2), (0, u "java/lang/Comparable"), (0, .class_ 4), (0, u "java/lang/Object")] 7

/-- java/lang/Comparable -/
def k3 : Class := { plain "java/lang/Comparable" (some 0) with
  accessFlags := 1537
  interfaces := #[]
  cf := some (fileOf pool3 1 #[] #[] 1537 3 #[] #[])
  fields := #[]
  methods := #[]
  instanceTypes := #[]
  staticTypes := #[]
  resolved := Array.replicate 12 none
  statics := none }

def pool4 : Array CpInfo := pool [(1, .methodref 2 3), (0, .class_ 4), (0, .nameAndType 5 6), (0, u "java/lang/Record"), (0, u "<init>"), (0, u "()V"), (0, .long 2), (10, .fieldref 19 20), (0, .class_ 21), (0, .nameAndType 22 23), (0, u "com/example/warrants_across_databases/warrantsacrossdatabases/derivation/Similarity"), (0, u "matched"), (0, u "I"), (0, .fieldref 19 25), (0, .nameAndType 26 23), (0, u "rights"), (20, .methodref 48 49), (0, .class_ 50), (0, .nameAndType 51 52), (0, u "java/lang/Long"), (0, u "compare"), (0, u "(JJ)I"), (2, u "compareTo"), (0, u "(Lcom/example/warrants_across_databases/warrantsacrossdatabases/derivation/Similarity;)I"), (11, .class_ 69), (0, u "java/lang/Comparable"), (0, u "DECIMALS"), (2, u "(II)V"), (4, u "isZero"), (0, u "()Z")] 35

def k4c0 : Code := { maxStack := 4, maxLocals := 3, code := prog_27_method_1_code, exceptionTable := #[], attributes := #[] }
def k4m0 : Method := { name := "<init>", desc := "(II)V", sig := { parameters := [.int, .int], returnType := none }, accessFlags := 1, code := some k4c0 }
def k4c1 : Code := { maxStack := 1, maxLocals := 1, code := prog_27_method_2_code, exceptionTable := #[], attributes := #[] }
def k4m1 : Method := { name := "isZero", desc := "()Z", sig := { parameters := [], returnType := some .boolean }, accessFlags := 1, code := some k4c1 }
def k4c2 : Code := { maxStack := 6, maxLocals := 2, code := prog_27_method_4_code, exceptionTable := #[], attributes := #[] }
def k4m2 : Method := { name := "compareTo", desc := "(Lcom/example/warrants_across_databases/warrantsacrossdatabases/derivation/Similarity;)I", sig := { parameters := [(.object "com/example/warrants_across_databases/warrantsacrossdatabases/derivation/Similarity")], returnType := some .int }, accessFlags := 1, code := some k4c2 }
/-- com/example/warrants_across_databases/warrantsacrossdatabases/derivation/Similarity -/
def k4 : Class := { plain "com/example/warrants_across_databases/warrantsacrossdatabases/derivation/Similarity" (some 2) with
  accessFlags := 49
  interfaces := #[3]
  cf := some (fileOf pool4 19 #[] #[{ accessFlags := 1, nameIndex := 5, descriptorIndex := 73, attributes := #[] }, { accessFlags := 1, nameIndex := 78, descriptorIndex := 79, attributes := #[] }, { accessFlags := 1, nameIndex := 55, descriptorIndex := 56, attributes := #[] }] 49 2 #[68] #[{ accessFlags := 18, nameIndex := 22, descriptorIndex := 23, attributes := #[] }, { accessFlags := 18, nameIndex := 26, descriptorIndex := 23, attributes := #[] }, { accessFlags := 26, nameIndex := 70, descriptorIndex := 23, attributes := #[] }])
  fields := #[{ name := "matched", type := .int, accessFlags := 18, slot := 0, constantValue := 0 }, { name := "rights", type := .int, accessFlags := 18, slot := 1, constantValue := 0 }, { name := "DECIMALS", type := .int, accessFlags := 26, slot := 0, constantValue := 0 }]
  methods := #[k4m0, k4m1, k4m2]
  instanceTypes := #[.int, .int]
  staticTypes := #[.int]
  resolved := Array.replicate 115 none
  statics := none }

def pool5 : Array CpInfo := pool [(1, .class_ 2), (0, u "java/io/Serializable"), (0, .class_ 4), (0, u "java/lang/Object")] 2

/-- java/io/Serializable -/
def k5 : Class := { plain "java/io/Serializable" (some 0) with
  accessFlags := 1537
  interfaces := #[]
  cf := some (fileOf pool5 1 #[] #[] 1537 3 #[] #[])
  fields := #[]
  methods := #[]
  instanceTypes := #[]
  staticTypes := #[]
  resolved := Array.replicate 7 none
  statics := none }

def pool6 : Array CpInfo := pool [(2, .class_ 4), (1, u "java/lang/Object"), (0, u "<init>"), (0, u "()V"), (1, .class_ 10), (1, u "java/lang/Number"), (2, .class_ 14), (0, u "java/io/Serializable"), (0, u "serialVersionUID"), (0, u "J")] 20

def k6m0 : Method := { name := "<init>", desc := "()V", sig := { parameters := [], returnType := none }, accessFlags := 1, code := none }
/-- java/lang/Number -/
def k6 : Class := { plain "java/lang/Number" (some 0) with
  accessFlags := 1057
  interfaces := #[5]
  cf := some (fileOf pool6 8 #[] #[{ accessFlags := 1, nameIndex := 5, descriptorIndex := 6, attributes := #[] }] 1057 2 #[13] #[{ accessFlags := 26, nameIndex := 15, descriptorIndex := 16, attributes := #[] }])
  fields := #[{ name := "serialVersionUID", type := .long, accessFlags := 26, slot := 0, constantValue := 0 }]
  methods := #[k6m0]
  instanceTypes := #[]
  staticTypes := #[.long]
  resolved := Array.replicate 37 none
  statics := none }

def pool7 : Array CpInfo := pool [(1, .class_ 2), (0, u "java/lang/constant/Constable"), (0, .class_ 4), (0, u "java/lang/Object")] 6

/-- java/lang/constant/Constable -/
def k7 : Class := { plain "java/lang/constant/Constable" (some 0) with
  accessFlags := 1537
  interfaces := #[]
  cf := some (fileOf pool7 1 #[] #[] 1537 3 #[] #[])
  fields := #[]
  methods := #[]
  instanceTypes := #[]
  staticTypes := #[]
  resolved := Array.replicate 11 none
  statics := none }

def pool8 : Array CpInfo := pool [(1, .class_ 2), (0, u "java/lang/constant/ConstantDesc"), (0, .class_ 4), (0, u "java/lang/Object")] 32

/-- java/lang/constant/ConstantDesc -/
def k8 : Class := { plain "java/lang/constant/ConstantDesc" (some 0) with
  accessFlags := 1537
  interfaces := #[]
  cf := some (fileOf pool8 1 #[] #[] 1537 3 #[] #[])
  fields := #[]
  methods := #[]
  instanceTypes := #[]
  staticTypes := #[]
  resolved := Array.replicate 37 none
  statics := none }

def pool9 : Array CpInfo := pool [(1, .class_ 2), (0, u "java/lang/Long"), (232, .class_ 237), (1, u "java/lang/Long$LongCache"), (33, .class_ 272), (0, u "java/lang/Number"), (2, u "value"), (0, u "J"), (27, u "compare"), (0, u "(JJ)I"), (55, u "TYPE"), (0, u "Ljava/lang/Class;"), (0, .class_ 364), (0, u "java/lang/Comparable"), (0, .class_ 366), (0, u "java/lang/constant/Constable"), (0, .class_ 368), (0, u "java/lang/constant/ConstantDesc"), (0, u "MIN_VALUE"), (1, u "MAX_VALUE"), (4, u "SIZE"), (0, u "I"), (1, u "BYTES"), (1, u "serialVersionUID")] 142

def k9c0 : Code := { maxStack := 4, maxLocals := 4, code := jdk_35_method_42_code, exceptionTable := #[], attributes := #[] }
def k9m0 : Method := { name := "compare", desc := "(JJ)I", sig := { parameters := [.long, .long], returnType := some .int }, accessFlags := 9, code := some k9c0 }
/-- java/lang/Long -/
def k9 : Class := { plain "java/lang/Long" (some 6) with
  accessFlags := 49
  interfaces := #[3, 7, 8]
  cf := some (fileOf pool9 1 #[.nestMembers #[235]] #[{ accessFlags := 9, nameIndex := 304, descriptorIndex := 305, attributes := #[] }] 49 271 #[363, 365, 367] #[{ accessFlags := 25, nameIndex := 369, descriptorIndex := 276, attributes := #[] }, { accessFlags := 25, nameIndex := 371, descriptorIndex := 276, attributes := #[] }, { accessFlags := 25, nameIndex := 361, descriptorIndex := 362, attributes := #[] }, { accessFlags := 18, nameIndex := 275, descriptorIndex := 276, attributes := #[] }, { accessFlags := 25, nameIndex := 376, descriptorIndex := 377, attributes := #[] }, { accessFlags := 25, nameIndex := 379, descriptorIndex := 377, attributes := #[] }, { accessFlags := 26, nameIndex := 381, descriptorIndex := 276, attributes := #[] }])
  fields := #[{ name := "MIN_VALUE", type := .long, accessFlags := 25, slot := 0, constantValue := 0 }, { name := "MAX_VALUE", type := .long, accessFlags := 25, slot := 1, constantValue := 0 }, { name := "TYPE", type := (.object "java/lang/Class"), accessFlags := 25, slot := 2, constantValue := 0 }, { name := "value", type := .long, accessFlags := 18, slot := 0, constantValue := 0 }, { name := "SIZE", type := .int, accessFlags := 25, slot := 3, constantValue := 0 }, { name := "BYTES", type := .int, accessFlags := 25, slot := 4, constantValue := 0 }, { name := "serialVersionUID", type := .long, accessFlags := 26, slot := 5, constantValue := 0 }]
  methods := #[k9m0]
  instanceTypes := #[.long]
  staticTypes := #[.long, .long, (.object "java/lang/Class"), .int, .int, .long]
  resolved := Array.replicate 524 none
  statics := none }

def pool10 : Array CpInfo := pool [(1, u "java/lang/Cloneable"), (0, .class_ 1), (0, u "java/lang/Object"), (0, .class_ 3)] 3

/-- java/lang/Cloneable -/
def k10 : Class := { plain "java/lang/Cloneable" (some 0) with
  accessFlags := 1537
  interfaces := #[]
  cf := some (fileOf pool10 2 #[] #[] 1537 4 #[] #[])
  fields := #[]
  methods := #[]
  instanceTypes := #[]
  staticTypes := #[]
  resolved := Array.replicate 8 none
  statics := none }

/-- the primitive byte -/
def k11 : Class := { plain "byte" none with kind := .primitive 'B', accessFlags := 0x411 }
/-- [B -/
def k12 : Class := { plain "[B" (some 0) with kind := .array 11 .byte, interfaces := #[10, 5], accessFlags := 1041 }

/-- the primitive int -/
def k13 : Class := { plain "int" none with kind := .primitive 'I', accessFlags := 0x411 }
/-- [I -/
def k14 : Class := { plain "[I" (some 0) with kind := .array 13 .int, interfaces := #[10, 5], accessFlags := 1041 }

def heap : Heap := #[]
def classes : Array Class := #[k0, k1, k2, k3, k4, k5, k6, k7, k8, k9, k10, k11, k12, k13, k14]
def interned : List (Array UInt16 × Addr) := []
def slotsUsed : Nat := 0
def theMethod : MethodId := ⟨1, 1⟩
def args0 : Array Value := #[.int 5, .int 7, .int 3]
def aboutOver (below : List Frame) : State where
  vm := { classes := classes, interned := interned.toArray }
  heap := heap
  slotsUsed := slotsUsed
  threads := #[{ frames := .invoking theMethod args0 :: below }]
def below0 : List Frame := [.native { method := ⟨0, 0⟩, args := #[] }]
def about1 : State := aboutOver below0
def p0 : Program := .bare "" "" ""
def e0 : Env := launch0.env 0 0 0
theorem w_frames : about1.frames = Frame.invoking theMethod args0 :: below0 := rfl
set_option maxRecDepth 65536 in
theorem w_args : argsFit about1.vm theMethod args0 = true := by decide +kernel
set_option maxRecDepth 65536 in
theorem w_heap : heapFits about1 = true := by decide +kernel
set_option maxRecDepth 65536 in
theorem w_runnable : about1.curStatus? = some .runnable := by decide +kernel
set_option maxRecDepth 65536 in
theorem w_alone : about1.alone = true := by decide +kernel
set_option maxRecDepth 65536 in
theorem w_named : about1.methodNamed? x = some theMethod := by decide +kernel
set_option maxRecDepth 65536 in
theorem w_hears : about1.hears theMethod below0 = true := by decide +kernel
set_option maxRecDepth 65536 in
theorem w_ripe : about1.ripe theMethod args0 below0 = true := by decide +kernel
theorem w_running : about1.status = .running := rfl
set_option maxRecDepth 65536 in
theorem w_room : about1.hasRoom e0.platform room_1 = true :=
  launch0.hasRoom_least _ room_1 (by decide +kernel) (by decide +kernel) (by decide +kernel) (by decide +kernel) (by decide +kernel) (by decide +kernel)
theorem allAtoms_all (ts : List Jvm.Cond) (a : Array Jvm.Value) (st : Jvm.State) : (allAtoms ts).before a st = ts.all (fun c => c.before a st) := by
  induction ts with
  | nil => rfl
  | cons c t ih =>
    show (Jvm.Cond.and c (allAtoms t)).before a st = _
    rw [Jvm.Cond.before_and, ih, List.all_cons]
def words1 : List Jvm.Cond := Jvm.Cond.code x code maxLocals ret :: tables_1
/-- a 'code' word, met by the world's own term for the bytes: nothing is compared byte by byte -/
theorem code_word {y : MethodName} {bytes : ByteArray} {mx : Nat} {rt : Option FieldType} {a : Array Value} {s : State} {m : MethodId} {meth : Method} {c : Code} (h1 : s.methodNamed? y = some m) (h2 : s.vm.method? m = some meth) (h3 : meth.code = some c) (h4 : c.code = bytes)
    (h5 : (c.maxLocals == mx && c.exceptionTable.isEmpty && decide (c.maxStack ≤ mostOperands) && decide (meth.sig.returnType = rt) && !meth.locks && decide (parseMethodDescriptor y.desc = some meth.sig)) = true) : (Jvm.Cond.code y bytes mx rt).before a s = true := by
  simp only [Bool.and_eq_true, beq_iff_eq, Bool.not_eq_true', decide_eq_true_eq] at h5
  obtain ⟨⟨⟨⟨⟨g1, g2⟩, g3⟩, g4⟩, g5⟩, g6⟩ := h5
  simp [Cond.before, Cond.holds, Cond.value, h1, h2, h3, h4, g1, g2, g3, g4, g5, g6]
def isCode : Jvm.Cond → Bool
  | .code _ _ _ _ => true
  | _ => false
theorem all_split {L : List Jvm.Cond} {P : Jvm.Cond → Bool} (h1 : L.all (fun c => isCode c || P c) = true) (h2 : ∀ c ∈ L.filter isCode, P c = true) : L.all P = true := by
  refine List.all_eq_true.mpr fun c hc => ?_
  have h := List.all_eq_true.mp h1 c hc
  rcases Bool.eq_false_or_eq_true (isCode c) with hi | hi
  · exact h2 c (List.mem_filter.mpr ⟨hc, hi⟩)
  · simpa [hi] using h
set_option maxRecDepth 65536 in
theorem w_c0 : (Jvm.Cond.code x code maxLocals ret).before args0 about1 = true := code_word (m := ⟨1, 1⟩) (meth := k1m1) (c := k1c1) (by decide +kernel) rfl rfl rfl (by decide +kernel)
set_option maxRecDepth 65536 in
theorem w_c1 : (Jvm.Cond.code ({ cls := "com/example/warrants_across_databases/warrantsacrossdatabases/derivation/Similarity", name := "<init>", desc := "(II)V" } : Jvm.MethodName) prog_27_method_1_code (3 : Nat) (Option.none : Option Jvm.ClassFile.FieldType)).before args0 about1 = true := code_word (m := ⟨4, 0⟩) (meth := k4m0) (c := k4c0) (by decide +kernel) rfl rfl rfl (by decide +kernel)
set_option maxRecDepth 65536 in
theorem w_c2 : (Jvm.Cond.code ({ cls := "java/lang/Record", name := "<init>", desc := "()V" } : Jvm.MethodName) jdk_30_method_1_code (1 : Nat) (Option.none : Option Jvm.ClassFile.FieldType)).before args0 about1 = true := code_word (m := ⟨2, 0⟩) (meth := k2m0) (c := k2c0) (by decide +kernel) rfl rfl rfl (by decide +kernel)
set_option maxRecDepth 65536 in
theorem w_c3 : (Jvm.Cond.code ({ cls := "java/lang/Object", name := "<init>", desc := "()V" } : Jvm.MethodName) object_method_1_code (1 : Nat) (Option.none : Option Jvm.ClassFile.FieldType)).before args0 about1 = true := code_word (m := ⟨0, 0⟩) (meth := k0m0) (c := k0c0) (by decide +kernel) rfl rfl rfl (by decide +kernel)
set_option maxRecDepth 65536 in
theorem w_c4 : (Jvm.Cond.code ({ cls := "com/example/warrants_across_databases/warrantsacrossdatabases/derivation/Similarity", name := "isZero", desc := "()Z" } : Jvm.MethodName) prog_27_method_2_code (1 : Nat) (Option.some Jvm.ClassFile.FieldType.boolean)).before args0 about1 = true := code_word (m := ⟨4, 1⟩) (meth := k4m1) (c := k4c1) (by decide +kernel) rfl rfl rfl (by decide +kernel)
set_option maxRecDepth 65536 in
theorem w_c5 : (Jvm.Cond.code ({ cls := "com/example/warrants_across_databases/warrantsacrossdatabases/derivation/Similarity", name := "compareTo", desc := "(Lcom/example/warrants_across_databases/warrantsacrossdatabases/derivation/Similarity;)I" } : Jvm.MethodName) prog_27_method_4_code (2 : Nat) (Option.some Jvm.ClassFile.FieldType.int)).before args0 about1 = true := code_word (m := ⟨4, 2⟩) (meth := k4m2) (c := k4c2) (by decide +kernel) rfl rfl rfl (by decide +kernel)
set_option maxRecDepth 65536 in
theorem w_c6 : (Jvm.Cond.code ({ cls := "java/lang/Long", name := "compare", desc := "(JJ)I" } : Jvm.MethodName) jdk_35_method_42_code (4 : Nat) (Option.some Jvm.ClassFile.FieldType.int)).before args0 about1 = true := code_word (m := ⟨9, 0⟩) (meth := k9m0) (c := k9c0) (by decide +kernel) rfl rfl rfl (by decide +kernel)
def codes1 : List Jvm.Cond := [Jvm.Cond.code x code maxLocals ret, Jvm.Cond.code ({ cls := "com/example/warrants_across_databases/warrantsacrossdatabases/derivation/Similarity", name := "<init>", desc := "(II)V" } : Jvm.MethodName) prog_27_method_1_code (3 : Nat) (Option.none : Option Jvm.ClassFile.FieldType), Jvm.Cond.code ({ cls := "java/lang/Record", name := "<init>", desc := "()V" } : Jvm.MethodName) jdk_30_method_1_code (1 : Nat) (Option.none : Option Jvm.ClassFile.FieldType), Jvm.Cond.code ({ cls := "java/lang/Object", name := "<init>", desc := "()V" } : Jvm.MethodName) object_method_1_code (1 : Nat) (Option.none : Option Jvm.ClassFile.FieldType), Jvm.Cond.code ({ cls := "com/example/warrants_across_databases/warrantsacrossdatabases/derivation/Similarity", name := "isZero", desc := "()Z" } : Jvm.MethodName) prog_27_method_2_code (1 : Nat) (Option.some Jvm.ClassFile.FieldType.boolean), Jvm.Cond.code ({ cls := "com/example/warrants_across_databases/warrantsacrossdatabases/derivation/Similarity", name := "compareTo", desc := "(Lcom/example/warrants_across_databases/warrantsacrossdatabases/derivation/Similarity;)I" } : Jvm.MethodName) prog_27_method_4_code (2 : Nat) (Option.some Jvm.ClassFile.FieldType.int), Jvm.Cond.code ({ cls := "java/lang/Long", name := "compare", desc := "(JJ)I" } : Jvm.MethodName) jdk_35_method_42_code (4 : Nat) (Option.some Jvm.ClassFile.FieldType.int)]
set_option maxRecDepth 65536 in
theorem codes_eq : words1.filter isCode = codes1 := rfl
theorem w_codes : ∀ c ∈ words1.filter isCode, c.before args0 about1 = true := by
  rw [codes_eq]
  intro c hc
  simp only [codes1, List.mem_cons, List.not_mem_nil, or_false] at hc
  rcases hc with rfl | rfl | rfl | rfl | rfl | rfl | rfl
  · exact w_c0
  · exact w_c1
  · exact w_c2
  · exact w_c3
  · exact w_c4
  · exact w_c5
  · exact w_c6
set_option maxRecDepth 65536 in
theorem w_t1 : (words1.take 24).all (fun c => isCode c || c.before args0 about1) = true := by decide +kernel
set_option maxRecDepth 65536 in
theorem w_t2 : (words1.drop 24).all (fun c => isCode c || c.before args0 about1) = true := by decide +kernel
theorem w_tables : (allAtoms (Jvm.Cond.code x code maxLocals ret :: tables_1)).before args0 about1 = true := by
  rw [allAtoms_all]
  show words1.all (fun c => c.before args0 about1) = true
  refine all_split ?_ w_codes
  rw [← List.take_append_drop 24 words1, List.all_append, w_t1, w_t2]
  rfl
set_option maxRecDepth 65536 in
theorem w_case : (Jvm.Cond.and given_1 narrow_1).before args0 about1 = true := by decide +kernel
theorem w_applies : (headSpec (Jvm.Cond.code x code maxLocals ret :: tables_1) room_1).applies x e0.platform about1 = true :=
  (Spec.applies_iff w_frames).mpr ⟨w_running, w_runnable, w_alone, w_named, w_hears, w_ripe, w_room, w_tables⟩
theorem atStart : AtStart classFile x code maxLocals ret World_1 tables_1 room_1 Calls_1 rest_1 Pre_1 launch0 p0 e0 about1 theMethod args0 below0 :=
  ⟨lists_1, trivial, launch0.admits_env _ _ _, launch0.least_env, fairChoices_fair.cas, fairChoices_fair.clock, w_frames, w_args, w_heap, w_applies, trivial, trivial, w_case⟩
end start1
theorem witness_1 : WitnessClaimed_1 := ⟨start1.p0, start1.e0, start1.about1, start1.theMethod, start1.args0, start1.below0, start1.atStart⟩
end Jvm.Pilot.@@N@@
