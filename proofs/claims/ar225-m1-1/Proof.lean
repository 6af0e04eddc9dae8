import JvmDerived
import JvmDerived.Pilot.@@N@@Statement
import JvmDerived.Pilot.@@N@@Code
set_option linter.unusedVariables false
set_option linter.unusedSimpArgs false
namespace Jvm.Pilot.@@N@@
open Jvm Jvm.ClassFile Sem Op Lib Jvm.Free Jvm.Stand Jvm.LawKit Jvm.RoadKit Bundle Jvm.Pilot.@@N@@.Jvm.D
/-! the end of a walk, as a goal that forks and joins can be walked under -/
def own_Go (tb : Tables) (e : Env) (below : List Frame) (P : Outcome → State → Prop) (T : State) : Prop := ∃ s₂ o, Steps tb e below T s₂ ∧ s₂.status = .running ∧ Ended s₂ below o ∧ P o s₂
theorem own_by {tb : Tables} {e : Env} {below : List Frame} {P : Outcome → State → Prop} {T T' : State} (h : ∀ t, Steps tb e below T' t → Steps tb e below T t) (g : own_Go tb e below P T') : own_Go tb e below P T := by
  obtain ⟨s2, o, h1, h2⟩ := g
  exact ⟨s2, o, h _ h1, h2⟩
def own_code (c : Int32) : Int32 := if (¬ c < (48 : Int32) ∧ ¬ (57 : Int32) < c) ∨ (¬ c < (97 : Int32) ∧ ¬ (122 : Int32) < c) then 1 else 0
theorem own_sub (c b : Int32) (k : Int) (hb : b.toInt = k) (k0 : 0 ≤ k) (k1 : k ≤ 65535) (h0 : 0 ≤ c.toInt) (h1 : c.toInt < 65536) : ((c - b).toInt64 &&& (4294967295 : Int64)).toInt = (c.toInt - k) % 4294967296 := by
  have h2 := c_isub c b
  have h3 := rng32 (c - b)
  rw [c_maskL _ _ 32 (by decide) (by decide), c_i2l]
  show (c - b).toInt % 4294967296 = _
  omega
theorem own_code_eq (c : Int32) (h0 : 0 ≤ c.toInt) (h1 : c.toInt < 65536) : own_code c = if ((c - (48 : Int32)).toInt64 &&& (4294967295 : Int64)) < (10 : Int64) ∨ ((c - (97 : Int32)).toInt64 &&& (4294967295 : Int64)) < (26 : Int64) then 1 else 0 := by
  have e1 := own_sub c 48 48 (by decide) (by decide) (by decide) h0 h1
  have e2 := own_sub c 97 97 (by decide) (by decide) (by decide) h0 h1
  have i1 : (48 : Int32).toInt = 48 := by decide
  have i2 : (57 : Int32).toInt = 57 := by decide
  have i3 : (97 : Int32).toInt = 97 := by decide
  have i4 : (122 : Int32).toInt = 122 := by decide
  have i5 : (10 : Int64).toInt = 10 := by decide
  have i6 : (26 : Int64).toInt = 26 := by decide
  unfold own_code
  simp only [Int32.lt_iff_toInt_lt, Int64.lt_iff_toInt_lt, e1, e2, i1, i2, i3, i4, i5, i6]
  by_cases q : (48 ≤ c.toInt ∧ c.toInt ≤ 57) ∨ (97 ≤ c.toInt ∧ c.toInt ≤ 122)
  · rw [if_pos (by omega), if_pos (by omega)]
  · rw [if_neg (by omega), if_neg (by omega)]
theorem d1_0 : decode prog_38_method_9_code 0 = .ok (.iload_n 0, 1) := by decide +kernel
theorem d1_1 : decode prog_38_method_9_code 1 = .ok (.bipush 48, 2) := by decide +kernel
theorem d1_3 : decode prog_38_method_9_code 3 = .ok (.if_icmp .lt 9, 3) := by decide +kernel
theorem d1_6 : decode prog_38_method_9_code 6 = .ok (.iload_n 0, 1) := by decide +kernel
theorem d1_7 : decode prog_38_method_9_code 7 = .ok (.bipush 57, 2) := by decide +kernel
theorem d1_9 : decode prog_38_method_9_code 9 = .ok (.if_icmp .le 15, 3) := by decide +kernel
theorem d1_12 : decode prog_38_method_9_code 12 = .ok (.iload_n 0, 1) := by decide +kernel
theorem d1_13 : decode prog_38_method_9_code 13 = .ok (.bipush 97, 2) := by decide +kernel
theorem d1_15 : decode prog_38_method_9_code 15 = .ok (.if_icmp .lt 13, 3) := by decide +kernel
theorem d1_18 : decode prog_38_method_9_code 18 = .ok (.iload_n 0, 1) := by decide +kernel
theorem d1_19 : decode prog_38_method_9_code 19 = .ok (.bipush 122, 2) := by decide +kernel
theorem d1_21 : decode prog_38_method_9_code 21 = .ok (.if_icmp .gt 7, 3) := by decide +kernel
theorem d1_24 : decode prog_38_method_9_code 24 = .ok (.iconst 1, 1) := by decide +kernel
theorem d1_25 : decode prog_38_method_9_code 25 = .ok (.goto 4, 3) := by decide +kernel
theorem d1_28 : decode prog_38_method_9_code 28 = .ok (.iconst 0, 1) := by decide +kernel
theorem d1_29 : decode prog_38_method_9_code 29 = .ok (.ireturn, 1) := by decide +kernel
theorem pn_1 : plainName "com/example/rubrica/rubrica/check/Tables" = true := by first | (simp [plainName, overriddenIn]; done) | decide +kernel
theorem ef_1 (m : MethodId) (p1 : Int32) : entryFrame m #[(.int p1)] 1 = mkF m 0 #[.val (.int p1)] [] := by first | (simp [entryFrame, mkF, argsToLocals, Value.category]; done) | rfl
def Q1 (Z : State) (p1 : Int32) (h0 : Heap) (n0 : Nat) (v : Option Value) (h : Heap) (L : List Loc) : Prop := v = some (.int (own_code p1)) ∧ Fr n0 L ∧ h = h0
abbrev P1 (Z : State) (p1 : Int32) (h0 : Heap) (n0 : Nat) (s : State) : Outcome → State → Prop := fun o U' => ∃ v L, o = .returned v ∧ Q1 Z p1 h0 n0 v U'.heap L ∧ FrameEnd s o U' L ({ frames := 0, cells := 0, slots := 0, locals := 0 } : Room).cells ({ frames := 0, cells := 0, slots := 0, locals := 0 } : Room).slots
set_option maxRecDepth 65536 in
set_option maxHeartbeats 40000000 in
theorem rm1 (l : Launch) (Z : State) (a0 : Array Value) (hw : ∀ d ∈ tables_1, d.before a0 Z = true) (ws : List Jvm.Cond) (p1 : Int32) (h0 : Heap) (n0 : Nat) (Z0 : n0 ≤ h0.size) :
    MetFree l (⟨"com/example/rubrica/rubrica/check/Tables", "isCode", "(C)Z"⟩ : MethodName) (head1 (Jvm.Cond.code (⟨"com/example/rubrica/rubrica/check/Tables", "isCode", "(C)Z"⟩ : MethodName) prog_38_method_9_code 1 (some .boolean) :: ws) ({ frames := 0, cells := 0, slots := 0, locals := 0 } : Room)) (fun a U => a = #[(.int p1)] ∧ Z.Warmed39 U.vm ∧ U.heap = h0) (fun _ _ _ _ _ => True) (fun _ U o U' => ∃ v L, o = .returned v ∧ Q1 Z p1 h0 n0 v U'.heap L ∧ FrameEnd U o U' L ({ frames := 0, cells := 0, slots := 0, locals := 0 } : Room).cells ({ frames := 0, cells := 0, slots := 0, locals := 0 } : Room).slots) := by
  refine MetFree.of_bodySF (plainFor_of_name pn_1) hisR ?_
  intro p e s m args below meth c s₁ Bd hml0 hP hK
  obtain ⟨rfl, hZ, hh⟩ := hP
  have hx := Bd.exec
  have hby := Bd.bytes
  have hml : c.maxLocals = 1 := hml0
  have hown : s.vm.findClass "com/example/rubrica/rubrica/check/Tables" = some m.cls := findClass_of_methodNamed Bd.named
  have hnm := (name_of_methodNamed Bd.named Bd.method).1
  have X0 : Stand p l e ({ frames := 0, cells := 0, slots := 0, locals := 0 } : Room) s m #[(.int p1)] below meth c s₁ [] 0 0 := Stand.of_body Bd
  have e0 : s₁.heap = h0 := by rw [← hh, Bd.state]; rfl
  have N0 := Fr.nil n0
  show own_Go p.tables e below (P1 Z p1 h0 n0 s) (s₁.setTop (entryFrame m #[(.int p1)] 1))
  refine own_by (T' := s₁.setTop (mkF m 0 #[.val (.int p1)] [])) (fun t k => castTop (ef_1 m p1) k) ?_
  show own_Go _ _ _ _ (s₁.setTop (mkF m 0 #[.val (.int p1)] []))
  refine own_by (fun t k => XS.iloadN X0.here hx rfl (hb hby d1_0) rfl k) ?_
  show own_Go _ _ _ _ (s₁.setTop (mkF m 1 #[.val (.int p1)] [(.int p1)]))
  refine own_by (fun t k => XS.bipush X0.here hx rfl (hb hby d1_1) k) ?_
  show own_Go _ _ _ _ (s₁.setTop (mkF m 3 #[.val (.int p1)] [(.int (48 : Int32)), (.int p1)]))
  by_cases hc3 : p1 < (48 : Int32)
  · refine own_by (fun t k => XS.icmpYes X0.here hx rfl (pc0 := 3) (pc' := 12) rfl (hb hby d1_3) rfl (tlt hc3).1 (by decide) (by decide) k) ?_
    show own_Go _ _ _ _ (s₁.setTop (mkF m 12 #[.val (.int p1)] []))
    refine own_by (fun t k => XS.iloadN X0.here hx rfl (hb hby d1_12) rfl k) ?_
    show own_Go _ _ _ _ (s₁.setTop (mkF m 13 #[.val (.int p1)] [(.int p1)]))
    refine own_by (fun t k => XS.bipush X0.here hx rfl (hb hby d1_13) k) ?_
    show own_Go _ _ _ _ (s₁.setTop (mkF m 15 #[.val (.int p1)] [(.int (97 : Int32)), (.int p1)]))
    by_cases hc15 : p1 < (97 : Int32)
    · refine own_by (fun t k => XS.icmpYes X0.here hx rfl (pc0 := 15) (pc' := 28) rfl (hb hby d1_15) rfl (tlt hc15).1 (by decide) (by decide) k) ?_
      show own_Go _ _ _ _ (s₁.setTop (mkF m 28 #[.val (.int p1)] []))
      refine own_by (fun t k => XS.iconst X0.here hx rfl (hb hby d1_28) k) ?_
      show own_Go _ _ _ _ (s₁.setTop (mkF m 29 #[.val (.int p1)] [(.int (0 : Int32))]))
      obtain ⟨fs, hr, hrun, hended, hW, hsame⟩ := X0.leave (v := some (.int (0 : Int32))) (fun h => by rw [Bd.returns] at h; cases h)
      refine ⟨_, _, retN X0 hx (t := .boolean) Bd.returns (by simp) (hb hby d1_29) hr, hrun, hended, _, _, rfl, ?_, ⟨_, rfl⟩, hW, hsame.mono (by decide) (by decide)⟩
      show Q1 Z p1 h0 n0 _ s₁.heap _
      rw [e0]
      exact ⟨by simp [own_code, nar, hc3, hc15], N0, rfl⟩
    · refine own_by (fun t k => XS.icmpNo X0.here hx rfl (hb hby d1_15) rfl (flt hc15).1 k) ?_
      show own_Go _ _ _ _ (s₁.setTop (mkF m 18 #[.val (.int p1)] []))
      refine own_by (fun t k => XS.iloadN X0.here hx rfl (hb hby d1_18) rfl k) ?_
      show own_Go _ _ _ _ (s₁.setTop (mkF m 19 #[.val (.int p1)] [(.int p1)]))
      refine own_by (fun t k => XS.bipush X0.here hx rfl (hb hby d1_19) k) ?_
      show own_Go _ _ _ _ (s₁.setTop (mkF m 21 #[.val (.int p1)] [(.int (122 : Int32)), (.int p1)]))
      by_cases hc21 : (122 : Int32) < p1
      · refine own_by (fun t k => XS.icmpYes X0.here hx rfl (pc0 := 21) (pc' := 28) rfl (hb hby d1_21) rfl (tlt hc21).2.2.1 (by decide) (by decide) k) ?_
        show own_Go _ _ _ _ (s₁.setTop (mkF m 28 #[.val (.int p1)] []))
        refine own_by (fun t k => XS.iconst X0.here hx rfl (hb hby d1_28) k) ?_
        show own_Go _ _ _ _ (s₁.setTop (mkF m 29 #[.val (.int p1)] [(.int (0 : Int32))]))
        obtain ⟨fs, hr, hrun, hended, hW, hsame⟩ := X0.leave (v := some (.int (0 : Int32))) (fun h => by rw [Bd.returns] at h; cases h)
        refine ⟨_, _, retN X0 hx (t := .boolean) Bd.returns (by simp) (hb hby d1_29) hr, hrun, hended, _, _, rfl, ?_, ⟨_, rfl⟩, hW, hsame.mono (by decide) (by decide)⟩
        show Q1 Z p1 h0 n0 _ s₁.heap _
        rw [e0]
        exact ⟨by simp [own_code, nar, hc3, hc15, hc21], N0, rfl⟩
      · refine own_by (fun t k => XS.icmpNo X0.here hx rfl (hb hby d1_21) rfl (flt hc21).2.2.1 k) ?_
        show own_Go _ _ _ _ (s₁.setTop (mkF m 24 #[.val (.int p1)] []))
        refine own_by (fun t k => XS.iconst X0.here hx rfl (hb hby d1_24) k) ?_
        show own_Go _ _ _ _ (s₁.setTop (mkF m 25 #[.val (.int p1)] [(.int (1 : Int32))]))
        refine own_by (fun t k => XS.goto X0.here hx rfl (pc0 := 25) (pc' := 29) rfl (hb hby d1_25) (by decide) (by decide) k) ?_
        show own_Go _ _ _ _ (s₁.setTop (mkF m 29 #[.val (.int p1)] [(.int (1 : Int32))]))
        obtain ⟨fs, hr, hrun, hended, hW, hsame⟩ := X0.leave (v := some (.int (1 : Int32))) (fun h => by rw [Bd.returns] at h; cases h)
        refine ⟨_, _, retN X0 hx (t := .boolean) Bd.returns (by simp) (hb hby d1_29) hr, hrun, hended, _, _, rfl, ?_, ⟨_, rfl⟩, hW, hsame.mono (by decide) (by decide)⟩
        show Q1 Z p1 h0 n0 _ s₁.heap _
        rw [e0]
        exact ⟨by simp [own_code, nar, hc3, hc15, hc21], N0, rfl⟩
  · refine own_by (fun t k => XS.icmpNo X0.here hx rfl (hb hby d1_3) rfl (flt hc3).1 k) ?_
    show own_Go _ _ _ _ (s₁.setTop (mkF m 6 #[.val (.int p1)] []))
    refine own_by (fun t k => XS.iloadN X0.here hx rfl (hb hby d1_6) rfl k) ?_
    show own_Go _ _ _ _ (s₁.setTop (mkF m 7 #[.val (.int p1)] [(.int p1)]))
    refine own_by (fun t k => XS.bipush X0.here hx rfl (hb hby d1_7) k) ?_
    show own_Go _ _ _ _ (s₁.setTop (mkF m 9 #[.val (.int p1)] [(.int (57 : Int32)), (.int p1)]))
    by_cases hc9 : (57 : Int32) < p1
    · refine own_by (fun t k => XS.icmpNo X0.here hx rfl (hb hby d1_9) rfl (tlt hc9).2.2.2 k) ?_
      show own_Go _ _ _ _ (s₁.setTop (mkF m 12 #[.val (.int p1)] []))
      refine own_by (fun t k => XS.iloadN X0.here hx rfl (hb hby d1_12) rfl k) ?_
      show own_Go _ _ _ _ (s₁.setTop (mkF m 13 #[.val (.int p1)] [(.int p1)]))
      refine own_by (fun t k => XS.bipush X0.here hx rfl (hb hby d1_13) k) ?_
      show own_Go _ _ _ _ (s₁.setTop (mkF m 15 #[.val (.int p1)] [(.int (97 : Int32)), (.int p1)]))
      by_cases hc15 : p1 < (97 : Int32)
      · refine own_by (fun t k => XS.icmpYes X0.here hx rfl (pc0 := 15) (pc' := 28) rfl (hb hby d1_15) rfl (tlt hc15).1 (by decide) (by decide) k) ?_
        show own_Go _ _ _ _ (s₁.setTop (mkF m 28 #[.val (.int p1)] []))
        refine own_by (fun t k => XS.iconst X0.here hx rfl (hb hby d1_28) k) ?_
        show own_Go _ _ _ _ (s₁.setTop (mkF m 29 #[.val (.int p1)] [(.int (0 : Int32))]))
        obtain ⟨fs, hr, hrun, hended, hW, hsame⟩ := X0.leave (v := some (.int (0 : Int32))) (fun h => by rw [Bd.returns] at h; cases h)
        refine ⟨_, _, retN X0 hx (t := .boolean) Bd.returns (by simp) (hb hby d1_29) hr, hrun, hended, _, _, rfl, ?_, ⟨_, rfl⟩, hW, hsame.mono (by decide) (by decide)⟩
        show Q1 Z p1 h0 n0 _ s₁.heap _
        rw [e0]
        exact ⟨by simp [own_code, nar, hc3, hc9, hc15], N0, rfl⟩
      · refine own_by (fun t k => XS.icmpNo X0.here hx rfl (hb hby d1_15) rfl (flt hc15).1 k) ?_
        show own_Go _ _ _ _ (s₁.setTop (mkF m 18 #[.val (.int p1)] []))
        refine own_by (fun t k => XS.iloadN X0.here hx rfl (hb hby d1_18) rfl k) ?_
        show own_Go _ _ _ _ (s₁.setTop (mkF m 19 #[.val (.int p1)] [(.int p1)]))
        refine own_by (fun t k => XS.bipush X0.here hx rfl (hb hby d1_19) k) ?_
        show own_Go _ _ _ _ (s₁.setTop (mkF m 21 #[.val (.int p1)] [(.int (122 : Int32)), (.int p1)]))
        by_cases hc21 : (122 : Int32) < p1
        · refine own_by (fun t k => XS.icmpYes X0.here hx rfl (pc0 := 21) (pc' := 28) rfl (hb hby d1_21) rfl (tlt hc21).2.2.1 (by decide) (by decide) k) ?_
          show own_Go _ _ _ _ (s₁.setTop (mkF m 28 #[.val (.int p1)] []))
          refine own_by (fun t k => XS.iconst X0.here hx rfl (hb hby d1_28) k) ?_
          show own_Go _ _ _ _ (s₁.setTop (mkF m 29 #[.val (.int p1)] [(.int (0 : Int32))]))
          obtain ⟨fs, hr, hrun, hended, hW, hsame⟩ := X0.leave (v := some (.int (0 : Int32))) (fun h => by rw [Bd.returns] at h; cases h)
          refine ⟨_, _, retN X0 hx (t := .boolean) Bd.returns (by simp) (hb hby d1_29) hr, hrun, hended, _, _, rfl, ?_, ⟨_, rfl⟩, hW, hsame.mono (by decide) (by decide)⟩
          show Q1 Z p1 h0 n0 _ s₁.heap _
          rw [e0]
          exact ⟨by simp [own_code, nar, hc3, hc9, hc15, hc21], N0, rfl⟩
        · refine own_by (fun t k => XS.icmpNo X0.here hx rfl (hb hby d1_21) rfl (flt hc21).2.2.1 k) ?_
          show own_Go _ _ _ _ (s₁.setTop (mkF m 24 #[.val (.int p1)] []))
          refine own_by (fun t k => XS.iconst X0.here hx rfl (hb hby d1_24) k) ?_
          show own_Go _ _ _ _ (s₁.setTop (mkF m 25 #[.val (.int p1)] [(.int (1 : Int32))]))
          refine own_by (fun t k => XS.goto X0.here hx rfl (pc0 := 25) (pc' := 29) rfl (hb hby d1_25) (by decide) (by decide) k) ?_
          show own_Go _ _ _ _ (s₁.setTop (mkF m 29 #[.val (.int p1)] [(.int (1 : Int32))]))
          obtain ⟨fs, hr, hrun, hended, hW, hsame⟩ := X0.leave (v := some (.int (1 : Int32))) (fun h => by rw [Bd.returns] at h; cases h)
          refine ⟨_, _, retN X0 hx (t := .boolean) Bd.returns (by simp) (hb hby d1_29) hr, hrun, hended, _, _, rfl, ?_, ⟨_, rfl⟩, hW, hsame.mono (by decide) (by decide)⟩
          show Q1 Z p1 h0 n0 _ s₁.heap _
          rw [e0]
          exact ⟨by simp [own_code, nar, hc3, hc9, hc15, hc21], N0, rfl⟩
    · refine own_by (fun t k => XS.icmpYes X0.here hx rfl (pc0 := 9) (pc' := 24) rfl (hb hby d1_9) rfl (flt hc9).2.2.2 (by decide) (by decide) k) ?_
      show own_Go _ _ _ _ (s₁.setTop (mkF m 24 #[.val (.int p1)] []))
      refine own_by (fun t k => XS.iconst X0.here hx rfl (hb hby d1_24) k) ?_
      show own_Go _ _ _ _ (s₁.setTop (mkF m 25 #[.val (.int p1)] [(.int (1 : Int32))]))
      refine own_by (fun t k => XS.goto X0.here hx rfl (pc0 := 25) (pc' := 29) rfl (hb hby d1_25) (by decide) (by decide) k) ?_
      show own_Go _ _ _ _ (s₁.setTop (mkF m 29 #[.val (.int p1)] [(.int (1 : Int32))]))
      obtain ⟨fs, hr, hrun, hended, hW, hsame⟩ := X0.leave (v := some (.int (1 : Int32))) (fun h => by rw [Bd.returns] at h; cases h)
      refine ⟨_, _, retN X0 hx (t := .boolean) Bd.returns (by simp) (hb hby d1_29) hr, hrun, hended, _, _, rfl, ?_, ⟨_, rfl⟩, hW, hsame.mono (by decide) (by decide)⟩
      show Q1 Z p1 h0 n0 _ s₁.heap _
      rw [e0]
      exact ⟨by simp [own_code, nar, hc3, hc9], N0, rfl⟩
theorem pd_0_0 : parseMethodDescriptor "(C)Z" = some ⟨[.char], some .boolean⟩ := by decide +kernel
theorem pn_0 : plainName "com/example/rubrica/rubrica/check/TablesIsCodePinLaw" = true := by first | (simp [plainName, overriddenIn]; done) | decide +kernel
theorem ef_0 (m : MethodId) (p1 : Int32) : entryFrame m #[(.int p1)] maxLocals = mkF m 0 #[.val (.int p1), .unset, .unset, .unset, .unset, .unset, .unset, .unset, .unset] [] := by first | (simp [entryFrame, mkF, argsToLocals, Value.category, maxLocals]; done) | rfl
def Q0 (Z : State) (p1 : Int32) (h0 : Heap) (n0 : Nat) (v : Option Value) (h : Heap) (L : List Loc) : Prop := v = some (.int (1 : Int32)) ∧ Fr n0 L
abbrev P0 (Z : State) (p1 : Int32) (h0 : Heap) (n0 : Nat) (s : State) : Outcome → State → Prop := fun o U' => ∃ v L, o = .returned v ∧ Q0 Z p1 h0 n0 v U'.heap L ∧ FrameEnd s o U' L room_1.cells room_1.slots
set_option maxRecDepth 65536 in
set_option maxHeartbeats 40000000 in
theorem rm0 (l : Launch) (Z : State) (a0 : Array Value) (hw : ∀ d ∈ tables_1, d.before a0 Z = true) (ws : List Jvm.Cond) (p1 : Int32) (h0 : Heap) (n0 : Nat) (Z0 : n0 ≤ h0.size) :
    MetFree l x (head1 (Jvm.Cond.code x code maxLocals ret :: ws) room_1) (fun a U => a = #[(.int p1)] ∧ Z.Warmed39 U.vm ∧ U.heap = h0) (fun _ _ _ _ _ => True) (fun _ U o U' => ∃ v L, o = .returned v ∧ Q0 Z p1 h0 n0 v U'.heap L ∧ FrameEnd U o U' L room_1.cells room_1.slots) := by
  refine MetFree.of_bodySF (plainFor_of_name pn_0) hisR ?_
  intro p e s m args below meth c s₁ Bd hml0 hP hK
  obtain ⟨rfl, hZ, hh⟩ := hP
  have hx := Bd.exec
  have hby := Bd.bytes
  have hml : c.maxLocals = 9 := hml0
  have hown : s.vm.findClass "com/example/rubrica/rubrica/check/TablesIsCodePinLaw" = some m.cls := findClass_of_methodNamed Bd.named
  have hnm := (name_of_methodNamed Bd.named Bd.method).1
  have X0 : Stand p l e room_1 s m #[(.int p1)] below meth c s₁ [] 0 0 := Stand.of_body Bd
  have e0 : s₁.heap = h0 := by rw [← hh, Bd.state]; rfl
  have N0 := Fr.nil n0
  show own_Go p.tables e below (P0 Z p1 h0 n0 s) (s₁.setTop (entryFrame m #[(.int p1)] maxLocals))
  refine own_by (T' := s₁.setTop (mkF m 0 #[.val (.int p1), .unset, .unset, .unset, .unset, .unset, .unset, .unset, .unset] [])) (fun t k => castTop (ef_0 m p1) k) ?_
  show own_Go _ _ _ _ (s₁.setTop (mkF m 0 #[.val (.int p1), .unset, .unset, .unset, .unset, .unset, .unset, .unset, .unset] []))
  refine own_by (fun t k => XS.iloadN X0.here hx rfl (hb hby at_0) rfl k) ?_
  show own_Go _ _ _ _ (s₁.setTop (mkF m 1 #[.val (.int p1), .unset, .unset, .unset, .unset, .unset, .unset, .unset, .unset] [(.int p1)]))
  refine own_by (fun t k => X0.ldcInt hx hown (mvT hZ (hw _ (List.mem_of_getElem? (i := 0) rfl))) (g := (mkF m 1 #[.val (.int p1), .unset, .unset, .unset, .unset, .unset, .unset, .unset, .unset] [(.int p1)])) rfl (hb hby at_1) _ k) ?_
  show own_Go _ _ _ _ (s₁.setTop (mkF m 3 #[.val (.int p1), .unset, .unset, .unset, .unset, .unset, .unset, .unset, .unset] [(.int (65535 : Int32)), (.int p1)]))
  refine own_by (fun t k => XS.iand X0.here hx rfl (hb hby at_3) rfl k) ?_
  show own_Go _ _ _ _ (s₁.setTop (mkF m 4 #[.val (.int p1), .unset, .unset, .unset, .unset, .unset, .unset, .unset, .unset] [(.int (p1 &&& (65535 : Int32)))]))
  refine own_by (fun t k => XS.i2c X0.here hx rfl (hb hby at_4) rfl k) ?_
  show own_Go _ _ _ _ (s₁.setTop (mkF m 5 #[.val (.int p1), .unset, .unset, .unset, .unset, .unset, .unset, .unset, .unset] [(.int ((p1 &&& (65535 : Int32)).toUInt32.toUInt16.toUInt32.toInt32))]))
  obtain ⟨cc, hcc⟩ : ∃ z : Int32, z = ((p1 &&& (65535 : Int32)).toUInt32.toUInt16.toUInt32.toInt32) := ⟨_, rfl⟩
  rw [← hcc]
  have hcb : 0 ≤ cc.toInt ∧ cc.toInt < 65536 := by rw [hcc]; exact (c_i2c _).2
  have hce := own_code_eq cc hcb.1 hcb.2
  show own_Go _ _ _ _ (s₁.setTop (mkF m 5 #[.val (.int p1), .unset, .unset, .unset, .unset, .unset, .unset, .unset, .unset] [(.int cc)]))
  refine own_by (fun t k => XS.istoreN X0.here hx rfl (hb hby at_5) rfl (l' := #[.val (.int p1), .val (.int cc), .unset, .unset, .unset, .unset, .unset, .unset, .unset]) rfl k) ?_
  show own_Go _ _ _ _ (s₁.setTop (mkF m 6 #[.val (.int p1), .val (.int cc), .unset, .unset, .unset, .unset, .unset, .unset, .unset] []))
  refine own_by (fun t k => XS.iloadN X0.here hx rfl (hb hby at_6) rfl k) ?_
  show own_Go _ _ _ _ (s₁.setTop (mkF m 7 #[.val (.int p1), .val (.int cc), .unset, .unset, .unset, .unset, .unset, .unset, .unset] [(.int cc)]))
  refine own_by (fun t k => XS.bipush X0.here hx rfl (hb hby at_7) k) ?_
  show own_Go _ _ _ _ (s₁.setTop (mkF m 9 #[.val (.int p1), .val (.int cc), .unset, .unset, .unset, .unset, .unset, .unset, .unset] [(.int (48 : Int32)), (.int cc)]))
  refine own_by (fun t k => XS.isub X0.here hx rfl (hb hby at_9) rfl k) ?_
  show own_Go _ _ _ _ (s₁.setTop (mkF m 10 #[.val (.int p1), .val (.int cc), .unset, .unset, .unset, .unset, .unset, .unset, .unset] [(.int (cc - (48 : Int32)))]))
  refine own_by (fun t k => XS.i2l X0.here hx rfl (hb hby at_10) rfl k) ?_
  show own_Go _ _ _ _ (s₁.setTop (mkF m 11 #[.val (.int p1), .val (.int cc), .unset, .unset, .unset, .unset, .unset, .unset, .unset] [(.long ((cc - (48 : Int32)).toInt64))]))
  refine own_by (fun t k => X0.ldc2Long hx hown (mvT hZ (hw _ (List.mem_of_getElem? (i := 1) rfl))) (g := (mkF m 11 #[.val (.int p1), .val (.int cc), .unset, .unset, .unset, .unset, .unset, .unset, .unset] [(.long ((cc - (48 : Int32)).toInt64))])) rfl (hb hby at_11) _ k) ?_
  show own_Go _ _ _ _ (s₁.setTop (mkF m 14 #[.val (.int p1), .val (.int cc), .unset, .unset, .unset, .unset, .unset, .unset, .unset] [(.long (4294967295 : Int64)), (.long ((cc - (48 : Int32)).toInt64))]))
  refine own_by (fun t k => XS.land X0.here hx rfl (hb hby at_14) rfl k) ?_
  show own_Go _ _ _ _ (s₁.setTop (mkF m 15 #[.val (.int p1), .val (.int cc), .unset, .unset, .unset, .unset, .unset, .unset, .unset] [(.long (((cc - (48 : Int32)).toInt64) &&& (4294967295 : Int64)))]))
  refine own_by (fun t k => XS.lstoreN X0.here hx rfl (hb hby at_15) rfl (l' := #[.val (.int p1), .val (.int cc), .val (.long (((cc - (48 : Int32)).toInt64) &&& (4294967295 : Int64))), .second, .unset, .unset, .unset, .unset, .unset]) rfl k) ?_
  show own_Go _ _ _ _ (s₁.setTop (mkF m 16 #[.val (.int p1), .val (.int cc), .val (.long (((cc - (48 : Int32)).toInt64) &&& (4294967295 : Int64))), .second, .unset, .unset, .unset, .unset, .unset] []))
  refine own_by (fun t k => XS.iloadN X0.here hx rfl (hb hby at_16) rfl k) ?_
  show own_Go _ _ _ _ (s₁.setTop (mkF m 17 #[.val (.int p1), .val (.int cc), .val (.long (((cc - (48 : Int32)).toInt64) &&& (4294967295 : Int64))), .second, .unset, .unset, .unset, .unset, .unset] [(.int cc)]))
  refine own_by (fun t k => XS.bipush X0.here hx rfl (hb hby at_17) k) ?_
  show own_Go _ _ _ _ (s₁.setTop (mkF m 19 #[.val (.int p1), .val (.int cc), .val (.long (((cc - (48 : Int32)).toInt64) &&& (4294967295 : Int64))), .second, .unset, .unset, .unset, .unset, .unset] [(.int (97 : Int32)), (.int cc)]))
  refine own_by (fun t k => XS.isub X0.here hx rfl (hb hby at_19) rfl k) ?_
  show own_Go _ _ _ _ (s₁.setTop (mkF m 20 #[.val (.int p1), .val (.int cc), .val (.long (((cc - (48 : Int32)).toInt64) &&& (4294967295 : Int64))), .second, .unset, .unset, .unset, .unset, .unset] [(.int (cc - (97 : Int32)))]))
  refine own_by (fun t k => XS.i2l X0.here hx rfl (hb hby at_20) rfl k) ?_
  show own_Go _ _ _ _ (s₁.setTop (mkF m 21 #[.val (.int p1), .val (.int cc), .val (.long (((cc - (48 : Int32)).toInt64) &&& (4294967295 : Int64))), .second, .unset, .unset, .unset, .unset, .unset] [(.long ((cc - (97 : Int32)).toInt64))]))
  refine own_by (fun t k => X0.ldc2Long hx hown (mvT hZ (hw _ (List.mem_of_getElem? (i := 1) rfl))) (g := (mkF m 21 #[.val (.int p1), .val (.int cc), .val (.long (((cc - (48 : Int32)).toInt64) &&& (4294967295 : Int64))), .second, .unset, .unset, .unset, .unset, .unset] [(.long ((cc - (97 : Int32)).toInt64))])) rfl (hb hby at_21) _ k) ?_
  show own_Go _ _ _ _ (s₁.setTop (mkF m 24 #[.val (.int p1), .val (.int cc), .val (.long (((cc - (48 : Int32)).toInt64) &&& (4294967295 : Int64))), .second, .unset, .unset, .unset, .unset, .unset] [(.long (4294967295 : Int64)), (.long ((cc - (97 : Int32)).toInt64))]))
  refine own_by (fun t k => XS.land X0.here hx rfl (hb hby at_24) rfl k) ?_
  show own_Go _ _ _ _ (s₁.setTop (mkF m 25 #[.val (.int p1), .val (.int cc), .val (.long (((cc - (48 : Int32)).toInt64) &&& (4294967295 : Int64))), .second, .unset, .unset, .unset, .unset, .unset] [(.long (((cc - (97 : Int32)).toInt64) &&& (4294967295 : Int64)))]))
  refine own_by (fun t k => XS.lstore X0.here hx rfl (hb hby at_25) rfl (l' := #[.val (.int p1), .val (.int cc), .val (.long (((cc - (48 : Int32)).toInt64) &&& (4294967295 : Int64))), .second, .val (.long (((cc - (97 : Int32)).toInt64) &&& (4294967295 : Int64))), .second, .unset, .unset, .unset]) rfl k) ?_
  show own_Go _ _ _ _ (s₁.setTop (mkF m 27 #[.val (.int p1), .val (.int cc), .val (.long (((cc - (48 : Int32)).toInt64) &&& (4294967295 : Int64))), .second, .val (.long (((cc - (97 : Int32)).toInt64) &&& (4294967295 : Int64))), .second, .unset, .unset, .unset] []))
  refine own_by (fun t k => XS.lloadN X0.here hx rfl (hb hby at_27) rfl k) ?_
  show own_Go _ _ _ _ (s₁.setTop (mkF m 28 #[.val (.int p1), .val (.int cc), .val (.long (((cc - (48 : Int32)).toInt64) &&& (4294967295 : Int64))), .second, .val (.long (((cc - (97 : Int32)).toInt64) &&& (4294967295 : Int64))), .second, .unset, .unset, .unset] [(.long (((cc - (48 : Int32)).toInt64) &&& (4294967295 : Int64)))]))
  refine own_by (fun t k => X0.ldc2Long hx hown (mvT hZ (hw _ (List.mem_of_getElem? (i := 2) rfl))) (g := (mkF m 28 #[.val (.int p1), .val (.int cc), .val (.long (((cc - (48 : Int32)).toInt64) &&& (4294967295 : Int64))), .second, .val (.long (((cc - (97 : Int32)).toInt64) &&& (4294967295 : Int64))), .second, .unset, .unset, .unset] [(.long (((cc - (48 : Int32)).toInt64) &&& (4294967295 : Int64)))])) rfl (hb hby at_28) _ k) ?_
  show own_Go _ _ _ _ (s₁.setTop (mkF m 31 #[.val (.int p1), .val (.int cc), .val (.long (((cc - (48 : Int32)).toInt64) &&& (4294967295 : Int64))), .second, .val (.long (((cc - (97 : Int32)).toInt64) &&& (4294967295 : Int64))), .second, .unset, .unset, .unset] [(.long (10 : Int64)), (.long (((cc - (48 : Int32)).toInt64) &&& (4294967295 : Int64)))]))
  refine own_by (fun t k => XS.lcmp X0.here hx rfl (hb hby at_31) rfl k) ?_
  show own_Go _ _ _ _ (s₁.setTop (mkF m 32 #[.val (.int p1), .val (.int cc), .val (.long (((cc - (48 : Int32)).toInt64) &&& (4294967295 : Int64))), .second, .val (.long (((cc - (97 : Int32)).toInt64) &&& (4294967295 : Int64))), .second, .unset, .unset, .unset] [(.int (lcmpW (((cc - (48 : Int32)).toInt64) &&& (4294967295 : Int64)) (10 : Int64)))]))
  by_cases hc32 : (((cc - (48 : Int32)).toInt64) &&& (4294967295 : Int64)) < (10 : Int64)
  · refine own_by (fun t k => XS.ifNo X0.here hx rfl (hb hby at_32) rfl ((if0 _ _).trans (tlt ((lw_lt _ _).mpr hc32)).2.1) k) ?_
    show own_Go _ _ _ _ (s₁.setTop (mkF m 35 #[.val (.int p1), .val (.int cc), .val (.long (((cc - (48 : Int32)).toInt64) &&& (4294967295 : Int64))), .second, .val (.long (((cc - (97 : Int32)).toInt64) &&& (4294967295 : Int64))), .second, .unset, .unset, .unset] []))
    refine own_by (fun t k => XS.iconst X0.here hx rfl (hb hby at_35) k) ?_
    show own_Go _ _ _ _ (s₁.setTop (mkF m 36 #[.val (.int p1), .val (.int cc), .val (.long (((cc - (48 : Int32)).toInt64) &&& (4294967295 : Int64))), .second, .val (.long (((cc - (97 : Int32)).toInt64) &&& (4294967295 : Int64))), .second, .unset, .unset, .unset] [(.int (1 : Int32))]))
    refine own_by (fun t k => XS.goto X0.here hx rfl (pc0 := 36) (pc' := 40) rfl (hb hby at_36) (by decide) (by decide) k) ?_
    show own_Go _ _ _ _ (s₁.setTop (mkF m 40 #[.val (.int p1), .val (.int cc), .val (.long (((cc - (48 : Int32)).toInt64) &&& (4294967295 : Int64))), .second, .val (.long (((cc - (97 : Int32)).toInt64) &&& (4294967295 : Int64))), .second, .unset, .unset, .unset] [(.int (1 : Int32))]))
    refine own_by (fun t k => XS.istore X0.here hx rfl (hb hby at_40) rfl (l' := #[.val (.int p1), .val (.int cc), .val (.long (((cc - (48 : Int32)).toInt64) &&& (4294967295 : Int64))), .second, .val (.long (((cc - (97 : Int32)).toInt64) &&& (4294967295 : Int64))), .second, .val (.int (1 : Int32)), .unset, .unset]) rfl k) ?_
    show own_Go _ _ _ _ (s₁.setTop (mkF m 42 #[.val (.int p1), .val (.int cc), .val (.long (((cc - (48 : Int32)).toInt64) &&& (4294967295 : Int64))), .second, .val (.long (((cc - (97 : Int32)).toInt64) &&& (4294967295 : Int64))), .second, .val (.int (1 : Int32)), .unset, .unset] []))
    refine own_by (fun t k => XS.lload X0.here hx rfl (hb hby at_42) rfl k) ?_
    show own_Go _ _ _ _ (s₁.setTop (mkF m 44 #[.val (.int p1), .val (.int cc), .val (.long (((cc - (48 : Int32)).toInt64) &&& (4294967295 : Int64))), .second, .val (.long (((cc - (97 : Int32)).toInt64) &&& (4294967295 : Int64))), .second, .val (.int (1 : Int32)), .unset, .unset] [(.long (((cc - (97 : Int32)).toInt64) &&& (4294967295 : Int64)))]))
    refine own_by (fun t k => X0.ldc2Long hx hown (mvT hZ (hw _ (List.mem_of_getElem? (i := 3) rfl))) (g := (mkF m 44 #[.val (.int p1), .val (.int cc), .val (.long (((cc - (48 : Int32)).toInt64) &&& (4294967295 : Int64))), .second, .val (.long (((cc - (97 : Int32)).toInt64) &&& (4294967295 : Int64))), .second, .val (.int (1 : Int32)), .unset, .unset] [(.long (((cc - (97 : Int32)).toInt64) &&& (4294967295 : Int64)))])) rfl (hb hby at_44) _ k) ?_
    show own_Go _ _ _ _ (s₁.setTop (mkF m 47 #[.val (.int p1), .val (.int cc), .val (.long (((cc - (48 : Int32)).toInt64) &&& (4294967295 : Int64))), .second, .val (.long (((cc - (97 : Int32)).toInt64) &&& (4294967295 : Int64))), .second, .val (.int (1 : Int32)), .unset, .unset] [(.long (26 : Int64)), (.long (((cc - (97 : Int32)).toInt64) &&& (4294967295 : Int64)))]))
    refine own_by (fun t k => XS.lcmp X0.here hx rfl (hb hby at_47) rfl k) ?_
    show own_Go _ _ _ _ (s₁.setTop (mkF m 48 #[.val (.int p1), .val (.int cc), .val (.long (((cc - (48 : Int32)).toInt64) &&& (4294967295 : Int64))), .second, .val (.long (((cc - (97 : Int32)).toInt64) &&& (4294967295 : Int64))), .second, .val (.int (1 : Int32)), .unset, .unset] [(.int (lcmpW (((cc - (97 : Int32)).toInt64) &&& (4294967295 : Int64)) (26 : Int64)))]))
    by_cases hc48 : (((cc - (97 : Int32)).toInt64) &&& (4294967295 : Int64)) < (26 : Int64)
    · refine own_by (fun t k => XS.ifNo X0.here hx rfl (hb hby at_48) rfl ((if0 _ _).trans (tlt ((lw_lt _ _).mpr hc48)).2.1) k) ?_
      show own_Go _ _ _ _ (s₁.setTop (mkF m 51 #[.val (.int p1), .val (.int cc), .val (.long (((cc - (48 : Int32)).toInt64) &&& (4294967295 : Int64))), .second, .val (.long (((cc - (97 : Int32)).toInt64) &&& (4294967295 : Int64))), .second, .val (.int (1 : Int32)), .unset, .unset] []))
      refine own_by (fun t k => XS.iconst X0.here hx rfl (hb hby at_51) k) ?_
      show own_Go _ _ _ _ (s₁.setTop (mkF m 52 #[.val (.int p1), .val (.int cc), .val (.long (((cc - (48 : Int32)).toInt64) &&& (4294967295 : Int64))), .second, .val (.long (((cc - (97 : Int32)).toInt64) &&& (4294967295 : Int64))), .second, .val (.int (1 : Int32)), .unset, .unset] [(.int (1 : Int32))]))
      refine own_by (fun t k => XS.goto X0.here hx rfl (pc0 := 52) (pc' := 56) rfl (hb hby at_52) (by decide) (by decide) k) ?_
      show own_Go _ _ _ _ (s₁.setTop (mkF m 56 #[.val (.int p1), .val (.int cc), .val (.long (((cc - (48 : Int32)).toInt64) &&& (4294967295 : Int64))), .second, .val (.long (((cc - (97 : Int32)).toInt64) &&& (4294967295 : Int64))), .second, .val (.int (1 : Int32)), .unset, .unset] [(.int (1 : Int32))]))
      refine own_by (fun t k => XS.istore X0.here hx rfl (hb hby at_56) rfl (l' := #[.val (.int p1), .val (.int cc), .val (.long (((cc - (48 : Int32)).toInt64) &&& (4294967295 : Int64))), .second, .val (.long (((cc - (97 : Int32)).toInt64) &&& (4294967295 : Int64))), .second, .val (.int (1 : Int32)), .val (.int (1 : Int32)), .unset]) rfl k) ?_
      show own_Go _ _ _ _ (s₁.setTop (mkF m 58 #[.val (.int p1), .val (.int cc), .val (.long (((cc - (48 : Int32)).toInt64) &&& (4294967295 : Int64))), .second, .val (.long (((cc - (97 : Int32)).toInt64) &&& (4294967295 : Int64))), .second, .val (.int (1 : Int32)), .val (.int (1 : Int32)), .unset] []))
      refine own_by (fun t k => XS.iload X0.here hx rfl (hb hby at_58) rfl k) ?_
      show own_Go _ _ _ _ (s₁.setTop (mkF m 60 #[.val (.int p1), .val (.int cc), .val (.long (((cc - (48 : Int32)).toInt64) &&& (4294967295 : Int64))), .second, .val (.long (((cc - (97 : Int32)).toInt64) &&& (4294967295 : Int64))), .second, .val (.int (1 : Int32)), .val (.int (1 : Int32)), .unset] [(.int (1 : Int32))]))
      refine own_by (fun t k => XS.ifYes X0.here hx rfl (pc0 := 60) (pc' := 68) rfl (hb hby at_60) rfl ((if0 _ _).trans (feq (by decide : ¬ ((1 : Int32) = (0 : Int32)))).2) (by decide) (by decide) k) ?_
      show own_Go _ _ _ _ (s₁.setTop (mkF m 68 #[.val (.int p1), .val (.int cc), .val (.long (((cc - (48 : Int32)).toInt64) &&& (4294967295 : Int64))), .second, .val (.long (((cc - (97 : Int32)).toInt64) &&& (4294967295 : Int64))), .second, .val (.int (1 : Int32)), .val (.int (1 : Int32)), .unset] []))
      refine own_by (fun t k => XS.iconst X0.here hx rfl (hb hby at_68) k) ?_
      show own_Go _ _ _ _ (s₁.setTop (mkF m 69 #[.val (.int p1), .val (.int cc), .val (.long (((cc - (48 : Int32)).toInt64) &&& (4294967295 : Int64))), .second, .val (.long (((cc - (97 : Int32)).toInt64) &&& (4294967295 : Int64))), .second, .val (.int (1 : Int32)), .val (.int (1 : Int32)), .unset] [(.int (1 : Int32))]))
      refine own_by (fun t k => XS.goto X0.here hx rfl (pc0 := 69) (pc' := 73) rfl (hb hby at_69) (by decide) (by decide) k) ?_
      show own_Go _ _ _ _ (s₁.setTop (mkF m 73 #[.val (.int p1), .val (.int cc), .val (.long (((cc - (48 : Int32)).toInt64) &&& (4294967295 : Int64))), .second, .val (.long (((cc - (97 : Int32)).toInt64) &&& (4294967295 : Int64))), .second, .val (.int (1 : Int32)), .val (.int (1 : Int32)), .unset] [(.int (1 : Int32))]))
      refine own_by (fun t k => XS.istore X0.here hx rfl (hb hby at_73) rfl (l' := #[.val (.int p1), .val (.int cc), .val (.long (((cc - (48 : Int32)).toInt64) &&& (4294967295 : Int64))), .second, .val (.long (((cc - (97 : Int32)).toInt64) &&& (4294967295 : Int64))), .second, .val (.int (1 : Int32)), .val (.int (1 : Int32)), .val (.int (1 : Int32))]) rfl k) ?_
      show own_Go _ _ _ _ (s₁.setTop (mkF m 75 #[.val (.int p1), .val (.int cc), .val (.long (((cc - (48 : Int32)).toInt64) &&& (4294967295 : Int64))), .second, .val (.long (((cc - (97 : Int32)).toInt64) &&& (4294967295 : Int64))), .second, .val (.int (1 : Int32)), .val (.int (1 : Int32)), .val (.int (1 : Int32))] []))
      refine own_by (fun t k => XS.iloadN X0.here hx rfl (hb hby at_75) rfl k) ?_
      show own_Go _ _ _ _ (s₁.setTop (mkF m 76 #[.val (.int p1), .val (.int cc), .val (.long (((cc - (48 : Int32)).toInt64) &&& (4294967295 : Int64))), .second, .val (.long (((cc - (97 : Int32)).toInt64) &&& (4294967295 : Int64))), .second, .val (.int (1 : Int32)), .val (.int (1 : Int32)), .val (.int (1 : Int32))] [(.int cc)]))
      obtain ⟨_, _, ⟨Tc0_1, Lc0_1, kc0_1, nc0_1⟩, -, Xc0_1, ⟨Lcc0_1, hQc0_1, lc0_1, yc0_1, zc0_1⟩, stc0_1⟩ := Jvm.LawKit.callS X0 hx (y := (⟨"com/example/rubrica/rubrica/check/Tables", "isCode", "(C)Z"⟩ : MethodName)) hown (mvT hZ (hw _ (List.mem_of_getElem? (i := 4) rfl))) (mvT hZ (hw _ (List.mem_of_getElem? (i := 5) rfl))) (mvT hZ (hw _ (List.mem_of_getElem? (i := 6) rfl))) (mvT hZ (hw _ (List.mem_of_getElem? (i := 7) rfl))) (by decide) (backOf (W := 0) (rm1 l Z a0 hw [] cc  h0 n0 Z0 ) hZ (hw _ (List.mem_of_getElem? (i := 7) rfl)) (hw _ (List.mem_of_getElem? (i := 6) rfl)) (by decide) (by decide)) (g := (mkF m 76 #[.val (.int p1), .val (.int cc), .val (.long (((cc - (48 : Int32)).toInt64) &&& (4294967295 : Int64))), .second, .val (.long (((cc - (97 : Int32)).toInt64) &&& (4294967295 : Int64))), .second, .val (.int (1 : Int32)), .val (.int (1 : Int32)), .val (.int (1 : Int32))] [(.int cc)])) rfl (by rw [hml]; rfl) (argsL := [(.int cc)]) (rest := []) (lenOf pd_0_0 rfl) rfl (by show 2 * 0 + _ ≤ _; exact Nat.le_of_eq rfl) (hb hby at_76) (fun _ _ => ⟨rfl, e0, (by decide : 0 + 0 ≤ _), (by decide : 0 + 0 ≤ _)⟩)
      dsimp only [Pt.U, Pt.locs, Pt.cells, Pt.slots] at Xc0_1 lc0_1 yc0_1 zc0_1 stc0_1 hQc0_1
      subst lc0_1 yc0_1 zc0_1
      obtain ⟨rfl, Nc0_1q, ehc0_1⟩ := hQc0_1
      have Nc0_1 := Fr.app N0 Nc0_1q
      refine own_by (fun t k => stc0_1 t k) ?_
      show own_Go _ _ _ _ (Tc0_1.setTop (mkF m 79 #[.val (.int p1), .val (.int cc), .val (.long (((cc - (48 : Int32)).toInt64) &&& (4294967295 : Int64))), .second, .val (.long (((cc - (97 : Int32)).toInt64) &&& (4294967295 : Int64))), .second, .val (.int (1 : Int32)), .val (.int (1 : Int32)), .val (.int (1 : Int32))] [(.int (own_code cc))]))
      refine own_by (fun t k => XS.iload Xc0_1.here hx rfl (hb hby at_79) rfl k) ?_
      show own_Go _ _ _ _ (Tc0_1.setTop (mkF m 81 #[.val (.int p1), .val (.int cc), .val (.long (((cc - (48 : Int32)).toInt64) &&& (4294967295 : Int64))), .second, .val (.long (((cc - (97 : Int32)).toInt64) &&& (4294967295 : Int64))), .second, .val (.int (1 : Int32)), .val (.int (1 : Int32)), .val (.int (1 : Int32))] [(.int (1 : Int32)), (.int (own_code cc))]))
      refine own_by (fun t k => XS.icmpNo Xc0_1.here hx rfl (hb hby at_81) rfl (teq (by rw [hce]; simp [hc32, hc48] : (own_code cc) = (1 : Int32))).2 k) ?_
      show own_Go _ _ _ _ (Tc0_1.setTop (mkF m 84 #[.val (.int p1), .val (.int cc), .val (.long (((cc - (48 : Int32)).toInt64) &&& (4294967295 : Int64))), .second, .val (.long (((cc - (97 : Int32)).toInt64) &&& (4294967295 : Int64))), .second, .val (.int (1 : Int32)), .val (.int (1 : Int32)), .val (.int (1 : Int32))] []))
      refine own_by (fun t k => XS.iconst Xc0_1.here hx rfl (hb hby at_84) k) ?_
      show own_Go _ _ _ _ (Tc0_1.setTop (mkF m 85 #[.val (.int p1), .val (.int cc), .val (.long (((cc - (48 : Int32)).toInt64) &&& (4294967295 : Int64))), .second, .val (.long (((cc - (97 : Int32)).toInt64) &&& (4294967295 : Int64))), .second, .val (.int (1 : Int32)), .val (.int (1 : Int32)), .val (.int (1 : Int32))] [(.int (1 : Int32))]))
      refine own_by (fun t k => XS.goto Xc0_1.here hx rfl (pc0 := 85) (pc' := 89) rfl (hb hby at_85) (by decide) (by decide) k) ?_
      show own_Go _ _ _ _ (Tc0_1.setTop (mkF m 89 #[.val (.int p1), .val (.int cc), .val (.long (((cc - (48 : Int32)).toInt64) &&& (4294967295 : Int64))), .second, .val (.long (((cc - (97 : Int32)).toInt64) &&& (4294967295 : Int64))), .second, .val (.int (1 : Int32)), .val (.int (1 : Int32)), .val (.int (1 : Int32))] [(.int (1 : Int32))]))
      obtain ⟨fs, hr, hrun, hended, hW, hsame⟩ := Xc0_1.leave (v := some (.int (1 : Int32))) (fun h => by rw [Bd.returns] at h; cases h)
      refine ⟨_, _, retN Xc0_1 hx (t := .boolean) Bd.returns (by simp) (hb hby at_89) hr, hrun, hended, _, _, rfl, ?_, ⟨_, rfl⟩, hW, hsame.mono (by decide) (by decide)⟩
      show Q0 Z p1 h0 n0 _ Tc0_1.heap _
      rw [ehc0_1]
      exact ⟨rfl, Nc0_1⟩
    · refine own_by (fun t k => XS.ifYes X0.here hx rfl (pc0 := 48) (pc' := 55) rfl (hb hby at_48) rfl ((if0 _ _).trans (flt (fun q => hc48 ((lw_lt _ _).mp q))).2.1) (by decide) (by decide) k) ?_
      show own_Go _ _ _ _ (s₁.setTop (mkF m 55 #[.val (.int p1), .val (.int cc), .val (.long (((cc - (48 : Int32)).toInt64) &&& (4294967295 : Int64))), .second, .val (.long (((cc - (97 : Int32)).toInt64) &&& (4294967295 : Int64))), .second, .val (.int (1 : Int32)), .unset, .unset] []))
      refine own_by (fun t k => XS.iconst X0.here hx rfl (hb hby at_55) k) ?_
      show own_Go _ _ _ _ (s₁.setTop (mkF m 56 #[.val (.int p1), .val (.int cc), .val (.long (((cc - (48 : Int32)).toInt64) &&& (4294967295 : Int64))), .second, .val (.long (((cc - (97 : Int32)).toInt64) &&& (4294967295 : Int64))), .second, .val (.int (1 : Int32)), .unset, .unset] [(.int (0 : Int32))]))
      refine own_by (fun t k => XS.istore X0.here hx rfl (hb hby at_56) rfl (l' := #[.val (.int p1), .val (.int cc), .val (.long (((cc - (48 : Int32)).toInt64) &&& (4294967295 : Int64))), .second, .val (.long (((cc - (97 : Int32)).toInt64) &&& (4294967295 : Int64))), .second, .val (.int (1 : Int32)), .val (.int (0 : Int32)), .unset]) rfl k) ?_
      show own_Go _ _ _ _ (s₁.setTop (mkF m 58 #[.val (.int p1), .val (.int cc), .val (.long (((cc - (48 : Int32)).toInt64) &&& (4294967295 : Int64))), .second, .val (.long (((cc - (97 : Int32)).toInt64) &&& (4294967295 : Int64))), .second, .val (.int (1 : Int32)), .val (.int (0 : Int32)), .unset] []))
      refine own_by (fun t k => XS.iload X0.here hx rfl (hb hby at_58) rfl k) ?_
      show own_Go _ _ _ _ (s₁.setTop (mkF m 60 #[.val (.int p1), .val (.int cc), .val (.long (((cc - (48 : Int32)).toInt64) &&& (4294967295 : Int64))), .second, .val (.long (((cc - (97 : Int32)).toInt64) &&& (4294967295 : Int64))), .second, .val (.int (1 : Int32)), .val (.int (0 : Int32)), .unset] [(.int (1 : Int32))]))
      refine own_by (fun t k => XS.ifYes X0.here hx rfl (pc0 := 60) (pc' := 68) rfl (hb hby at_60) rfl ((if0 _ _).trans (feq (by decide : ¬ ((1 : Int32) = (0 : Int32)))).2) (by decide) (by decide) k) ?_
      show own_Go _ _ _ _ (s₁.setTop (mkF m 68 #[.val (.int p1), .val (.int cc), .val (.long (((cc - (48 : Int32)).toInt64) &&& (4294967295 : Int64))), .second, .val (.long (((cc - (97 : Int32)).toInt64) &&& (4294967295 : Int64))), .second, .val (.int (1 : Int32)), .val (.int (0 : Int32)), .unset] []))
      refine own_by (fun t k => XS.iconst X0.here hx rfl (hb hby at_68) k) ?_
      show own_Go _ _ _ _ (s₁.setTop (mkF m 69 #[.val (.int p1), .val (.int cc), .val (.long (((cc - (48 : Int32)).toInt64) &&& (4294967295 : Int64))), .second, .val (.long (((cc - (97 : Int32)).toInt64) &&& (4294967295 : Int64))), .second, .val (.int (1 : Int32)), .val (.int (0 : Int32)), .unset] [(.int (1 : Int32))]))
      refine own_by (fun t k => XS.goto X0.here hx rfl (pc0 := 69) (pc' := 73) rfl (hb hby at_69) (by decide) (by decide) k) ?_
      show own_Go _ _ _ _ (s₁.setTop (mkF m 73 #[.val (.int p1), .val (.int cc), .val (.long (((cc - (48 : Int32)).toInt64) &&& (4294967295 : Int64))), .second, .val (.long (((cc - (97 : Int32)).toInt64) &&& (4294967295 : Int64))), .second, .val (.int (1 : Int32)), .val (.int (0 : Int32)), .unset] [(.int (1 : Int32))]))
      refine own_by (fun t k => XS.istore X0.here hx rfl (hb hby at_73) rfl (l' := #[.val (.int p1), .val (.int cc), .val (.long (((cc - (48 : Int32)).toInt64) &&& (4294967295 : Int64))), .second, .val (.long (((cc - (97 : Int32)).toInt64) &&& (4294967295 : Int64))), .second, .val (.int (1 : Int32)), .val (.int (0 : Int32)), .val (.int (1 : Int32))]) rfl k) ?_
      show own_Go _ _ _ _ (s₁.setTop (mkF m 75 #[.val (.int p1), .val (.int cc), .val (.long (((cc - (48 : Int32)).toInt64) &&& (4294967295 : Int64))), .second, .val (.long (((cc - (97 : Int32)).toInt64) &&& (4294967295 : Int64))), .second, .val (.int (1 : Int32)), .val (.int (0 : Int32)), .val (.int (1 : Int32))] []))
      refine own_by (fun t k => XS.iloadN X0.here hx rfl (hb hby at_75) rfl k) ?_
      show own_Go _ _ _ _ (s₁.setTop (mkF m 76 #[.val (.int p1), .val (.int cc), .val (.long (((cc - (48 : Int32)).toInt64) &&& (4294967295 : Int64))), .second, .val (.long (((cc - (97 : Int32)).toInt64) &&& (4294967295 : Int64))), .second, .val (.int (1 : Int32)), .val (.int (0 : Int32)), .val (.int (1 : Int32))] [(.int cc)]))
      obtain ⟨_, _, ⟨Tc0_2, Lc0_2, kc0_2, nc0_2⟩, -, Xc0_2, ⟨Lcc0_2, hQc0_2, lc0_2, yc0_2, zc0_2⟩, stc0_2⟩ := Jvm.LawKit.callS X0 hx (y := (⟨"com/example/rubrica/rubrica/check/Tables", "isCode", "(C)Z"⟩ : MethodName)) hown (mvT hZ (hw _ (List.mem_of_getElem? (i := 4) rfl))) (mvT hZ (hw _ (List.mem_of_getElem? (i := 5) rfl))) (mvT hZ (hw _ (List.mem_of_getElem? (i := 6) rfl))) (mvT hZ (hw _ (List.mem_of_getElem? (i := 7) rfl))) (by decide) (backOf (W := 0) (rm1 l Z a0 hw [] cc  h0 n0 Z0 ) hZ (hw _ (List.mem_of_getElem? (i := 7) rfl)) (hw _ (List.mem_of_getElem? (i := 6) rfl)) (by decide) (by decide)) (g := (mkF m 76 #[.val (.int p1), .val (.int cc), .val (.long (((cc - (48 : Int32)).toInt64) &&& (4294967295 : Int64))), .second, .val (.long (((cc - (97 : Int32)).toInt64) &&& (4294967295 : Int64))), .second, .val (.int (1 : Int32)), .val (.int (0 : Int32)), .val (.int (1 : Int32))] [(.int cc)])) rfl (by rw [hml]; rfl) (argsL := [(.int cc)]) (rest := []) (lenOf pd_0_0 rfl) rfl (by show 2 * 0 + _ ≤ _; exact Nat.le_of_eq rfl) (hb hby at_76) (fun _ _ => ⟨rfl, e0, (by decide : 0 + 0 ≤ _), (by decide : 0 + 0 ≤ _)⟩)
      dsimp only [Pt.U, Pt.locs, Pt.cells, Pt.slots] at Xc0_2 lc0_2 yc0_2 zc0_2 stc0_2 hQc0_2
      subst lc0_2 yc0_2 zc0_2
      obtain ⟨rfl, Nc0_2q, ehc0_2⟩ := hQc0_2
      have Nc0_2 := Fr.app N0 Nc0_2q
      refine own_by (fun t k => stc0_2 t k) ?_
      show own_Go _ _ _ _ (Tc0_2.setTop (mkF m 79 #[.val (.int p1), .val (.int cc), .val (.long (((cc - (48 : Int32)).toInt64) &&& (4294967295 : Int64))), .second, .val (.long (((cc - (97 : Int32)).toInt64) &&& (4294967295 : Int64))), .second, .val (.int (1 : Int32)), .val (.int (0 : Int32)), .val (.int (1 : Int32))] [(.int (own_code cc))]))
      refine own_by (fun t k => XS.iload Xc0_2.here hx rfl (hb hby at_79) rfl k) ?_
      show own_Go _ _ _ _ (Tc0_2.setTop (mkF m 81 #[.val (.int p1), .val (.int cc), .val (.long (((cc - (48 : Int32)).toInt64) &&& (4294967295 : Int64))), .second, .val (.long (((cc - (97 : Int32)).toInt64) &&& (4294967295 : Int64))), .second, .val (.int (1 : Int32)), .val (.int (0 : Int32)), .val (.int (1 : Int32))] [(.int (1 : Int32)), (.int (own_code cc))]))
      refine own_by (fun t k => XS.icmpNo Xc0_2.here hx rfl (hb hby at_81) rfl (teq (by rw [hce]; simp [hc32, hc48] : (own_code cc) = (1 : Int32))).2 k) ?_
      show own_Go _ _ _ _ (Tc0_2.setTop (mkF m 84 #[.val (.int p1), .val (.int cc), .val (.long (((cc - (48 : Int32)).toInt64) &&& (4294967295 : Int64))), .second, .val (.long (((cc - (97 : Int32)).toInt64) &&& (4294967295 : Int64))), .second, .val (.int (1 : Int32)), .val (.int (0 : Int32)), .val (.int (1 : Int32))] []))
      refine own_by (fun t k => XS.iconst Xc0_2.here hx rfl (hb hby at_84) k) ?_
      show own_Go _ _ _ _ (Tc0_2.setTop (mkF m 85 #[.val (.int p1), .val (.int cc), .val (.long (((cc - (48 : Int32)).toInt64) &&& (4294967295 : Int64))), .second, .val (.long (((cc - (97 : Int32)).toInt64) &&& (4294967295 : Int64))), .second, .val (.int (1 : Int32)), .val (.int (0 : Int32)), .val (.int (1 : Int32))] [(.int (1 : Int32))]))
      refine own_by (fun t k => XS.goto Xc0_2.here hx rfl (pc0 := 85) (pc' := 89) rfl (hb hby at_85) (by decide) (by decide) k) ?_
      show own_Go _ _ _ _ (Tc0_2.setTop (mkF m 89 #[.val (.int p1), .val (.int cc), .val (.long (((cc - (48 : Int32)).toInt64) &&& (4294967295 : Int64))), .second, .val (.long (((cc - (97 : Int32)).toInt64) &&& (4294967295 : Int64))), .second, .val (.int (1 : Int32)), .val (.int (0 : Int32)), .val (.int (1 : Int32))] [(.int (1 : Int32))]))
      obtain ⟨fs, hr, hrun, hended, hW, hsame⟩ := Xc0_2.leave (v := some (.int (1 : Int32))) (fun h => by rw [Bd.returns] at h; cases h)
      refine ⟨_, _, retN Xc0_2 hx (t := .boolean) Bd.returns (by simp) (hb hby at_89) hr, hrun, hended, _, _, rfl, ?_, ⟨_, rfl⟩, hW, hsame.mono (by decide) (by decide)⟩
      show Q0 Z p1 h0 n0 _ Tc0_2.heap _
      rw [ehc0_2]
      exact ⟨rfl, Nc0_2⟩
  · refine own_by (fun t k => XS.ifYes X0.here hx rfl (pc0 := 32) (pc' := 39) rfl (hb hby at_32) rfl ((if0 _ _).trans (flt (fun q => hc32 ((lw_lt _ _).mp q))).2.1) (by decide) (by decide) k) ?_
    show own_Go _ _ _ _ (s₁.setTop (mkF m 39 #[.val (.int p1), .val (.int cc), .val (.long (((cc - (48 : Int32)).toInt64) &&& (4294967295 : Int64))), .second, .val (.long (((cc - (97 : Int32)).toInt64) &&& (4294967295 : Int64))), .second, .unset, .unset, .unset] []))
    refine own_by (fun t k => XS.iconst X0.here hx rfl (hb hby at_39) k) ?_
    show own_Go _ _ _ _ (s₁.setTop (mkF m 40 #[.val (.int p1), .val (.int cc), .val (.long (((cc - (48 : Int32)).toInt64) &&& (4294967295 : Int64))), .second, .val (.long (((cc - (97 : Int32)).toInt64) &&& (4294967295 : Int64))), .second, .unset, .unset, .unset] [(.int (0 : Int32))]))
    refine own_by (fun t k => XS.istore X0.here hx rfl (hb hby at_40) rfl (l' := #[.val (.int p1), .val (.int cc), .val (.long (((cc - (48 : Int32)).toInt64) &&& (4294967295 : Int64))), .second, .val (.long (((cc - (97 : Int32)).toInt64) &&& (4294967295 : Int64))), .second, .val (.int (0 : Int32)), .unset, .unset]) rfl k) ?_
    show own_Go _ _ _ _ (s₁.setTop (mkF m 42 #[.val (.int p1), .val (.int cc), .val (.long (((cc - (48 : Int32)).toInt64) &&& (4294967295 : Int64))), .second, .val (.long (((cc - (97 : Int32)).toInt64) &&& (4294967295 : Int64))), .second, .val (.int (0 : Int32)), .unset, .unset] []))
    refine own_by (fun t k => XS.lload X0.here hx rfl (hb hby at_42) rfl k) ?_
    show own_Go _ _ _ _ (s₁.setTop (mkF m 44 #[.val (.int p1), .val (.int cc), .val (.long (((cc - (48 : Int32)).toInt64) &&& (4294967295 : Int64))), .second, .val (.long (((cc - (97 : Int32)).toInt64) &&& (4294967295 : Int64))), .second, .val (.int (0 : Int32)), .unset, .unset] [(.long (((cc - (97 : Int32)).toInt64) &&& (4294967295 : Int64)))]))
    refine own_by (fun t k => X0.ldc2Long hx hown (mvT hZ (hw _ (List.mem_of_getElem? (i := 3) rfl))) (g := (mkF m 44 #[.val (.int p1), .val (.int cc), .val (.long (((cc - (48 : Int32)).toInt64) &&& (4294967295 : Int64))), .second, .val (.long (((cc - (97 : Int32)).toInt64) &&& (4294967295 : Int64))), .second, .val (.int (0 : Int32)), .unset, .unset] [(.long (((cc - (97 : Int32)).toInt64) &&& (4294967295 : Int64)))])) rfl (hb hby at_44) _ k) ?_
    show own_Go _ _ _ _ (s₁.setTop (mkF m 47 #[.val (.int p1), .val (.int cc), .val (.long (((cc - (48 : Int32)).toInt64) &&& (4294967295 : Int64))), .second, .val (.long (((cc - (97 : Int32)).toInt64) &&& (4294967295 : Int64))), .second, .val (.int (0 : Int32)), .unset, .unset] [(.long (26 : Int64)), (.long (((cc - (97 : Int32)).toInt64) &&& (4294967295 : Int64)))]))
    refine own_by (fun t k => XS.lcmp X0.here hx rfl (hb hby at_47) rfl k) ?_
    show own_Go _ _ _ _ (s₁.setTop (mkF m 48 #[.val (.int p1), .val (.int cc), .val (.long (((cc - (48 : Int32)).toInt64) &&& (4294967295 : Int64))), .second, .val (.long (((cc - (97 : Int32)).toInt64) &&& (4294967295 : Int64))), .second, .val (.int (0 : Int32)), .unset, .unset] [(.int (lcmpW (((cc - (97 : Int32)).toInt64) &&& (4294967295 : Int64)) (26 : Int64)))]))
    by_cases hc48 : (((cc - (97 : Int32)).toInt64) &&& (4294967295 : Int64)) < (26 : Int64)
    · refine own_by (fun t k => XS.ifNo X0.here hx rfl (hb hby at_48) rfl ((if0 _ _).trans (tlt ((lw_lt _ _).mpr hc48)).2.1) k) ?_
      show own_Go _ _ _ _ (s₁.setTop (mkF m 51 #[.val (.int p1), .val (.int cc), .val (.long (((cc - (48 : Int32)).toInt64) &&& (4294967295 : Int64))), .second, .val (.long (((cc - (97 : Int32)).toInt64) &&& (4294967295 : Int64))), .second, .val (.int (0 : Int32)), .unset, .unset] []))
      refine own_by (fun t k => XS.iconst X0.here hx rfl (hb hby at_51) k) ?_
      show own_Go _ _ _ _ (s₁.setTop (mkF m 52 #[.val (.int p1), .val (.int cc), .val (.long (((cc - (48 : Int32)).toInt64) &&& (4294967295 : Int64))), .second, .val (.long (((cc - (97 : Int32)).toInt64) &&& (4294967295 : Int64))), .second, .val (.int (0 : Int32)), .unset, .unset] [(.int (1 : Int32))]))
      refine own_by (fun t k => XS.goto X0.here hx rfl (pc0 := 52) (pc' := 56) rfl (hb hby at_52) (by decide) (by decide) k) ?_
      show own_Go _ _ _ _ (s₁.setTop (mkF m 56 #[.val (.int p1), .val (.int cc), .val (.long (((cc - (48 : Int32)).toInt64) &&& (4294967295 : Int64))), .second, .val (.long (((cc - (97 : Int32)).toInt64) &&& (4294967295 : Int64))), .second, .val (.int (0 : Int32)), .unset, .unset] [(.int (1 : Int32))]))
      refine own_by (fun t k => XS.istore X0.here hx rfl (hb hby at_56) rfl (l' := #[.val (.int p1), .val (.int cc), .val (.long (((cc - (48 : Int32)).toInt64) &&& (4294967295 : Int64))), .second, .val (.long (((cc - (97 : Int32)).toInt64) &&& (4294967295 : Int64))), .second, .val (.int (0 : Int32)), .val (.int (1 : Int32)), .unset]) rfl k) ?_
      show own_Go _ _ _ _ (s₁.setTop (mkF m 58 #[.val (.int p1), .val (.int cc), .val (.long (((cc - (48 : Int32)).toInt64) &&& (4294967295 : Int64))), .second, .val (.long (((cc - (97 : Int32)).toInt64) &&& (4294967295 : Int64))), .second, .val (.int (0 : Int32)), .val (.int (1 : Int32)), .unset] []))
      refine own_by (fun t k => XS.iload X0.here hx rfl (hb hby at_58) rfl k) ?_
      show own_Go _ _ _ _ (s₁.setTop (mkF m 60 #[.val (.int p1), .val (.int cc), .val (.long (((cc - (48 : Int32)).toInt64) &&& (4294967295 : Int64))), .second, .val (.long (((cc - (97 : Int32)).toInt64) &&& (4294967295 : Int64))), .second, .val (.int (0 : Int32)), .val (.int (1 : Int32)), .unset] [(.int (0 : Int32))]))
      refine own_by (fun t k => XS.ifNo X0.here hx rfl (hb hby at_60) rfl ((if0 _ _).trans (teq (by decide : (0 : Int32) = (0 : Int32))).2) k) ?_
      show own_Go _ _ _ _ (s₁.setTop (mkF m 63 #[.val (.int p1), .val (.int cc), .val (.long (((cc - (48 : Int32)).toInt64) &&& (4294967295 : Int64))), .second, .val (.long (((cc - (97 : Int32)).toInt64) &&& (4294967295 : Int64))), .second, .val (.int (0 : Int32)), .val (.int (1 : Int32)), .unset] []))
      refine own_by (fun t k => XS.iload X0.here hx rfl (hb hby at_63) rfl k) ?_
      show own_Go _ _ _ _ (s₁.setTop (mkF m 65 #[.val (.int p1), .val (.int cc), .val (.long (((cc - (48 : Int32)).toInt64) &&& (4294967295 : Int64))), .second, .val (.long (((cc - (97 : Int32)).toInt64) &&& (4294967295 : Int64))), .second, .val (.int (0 : Int32)), .val (.int (1 : Int32)), .unset] [(.int (1 : Int32))]))
      refine own_by (fun t k => XS.ifNo X0.here hx rfl (hb hby at_65) rfl ((if0 _ _).trans (feq (by decide : ¬ ((1 : Int32) = (0 : Int32)))).1) k) ?_
      show own_Go _ _ _ _ (s₁.setTop (mkF m 68 #[.val (.int p1), .val (.int cc), .val (.long (((cc - (48 : Int32)).toInt64) &&& (4294967295 : Int64))), .second, .val (.long (((cc - (97 : Int32)).toInt64) &&& (4294967295 : Int64))), .second, .val (.int (0 : Int32)), .val (.int (1 : Int32)), .unset] []))
      refine own_by (fun t k => XS.iconst X0.here hx rfl (hb hby at_68) k) ?_
      show own_Go _ _ _ _ (s₁.setTop (mkF m 69 #[.val (.int p1), .val (.int cc), .val (.long (((cc - (48 : Int32)).toInt64) &&& (4294967295 : Int64))), .second, .val (.long (((cc - (97 : Int32)).toInt64) &&& (4294967295 : Int64))), .second, .val (.int (0 : Int32)), .val (.int (1 : Int32)), .unset] [(.int (1 : Int32))]))
      refine own_by (fun t k => XS.goto X0.here hx rfl (pc0 := 69) (pc' := 73) rfl (hb hby at_69) (by decide) (by decide) k) ?_
      show own_Go _ _ _ _ (s₁.setTop (mkF m 73 #[.val (.int p1), .val (.int cc), .val (.long (((cc - (48 : Int32)).toInt64) &&& (4294967295 : Int64))), .second, .val (.long (((cc - (97 : Int32)).toInt64) &&& (4294967295 : Int64))), .second, .val (.int (0 : Int32)), .val (.int (1 : Int32)), .unset] [(.int (1 : Int32))]))
      refine own_by (fun t k => XS.istore X0.here hx rfl (hb hby at_73) rfl (l' := #[.val (.int p1), .val (.int cc), .val (.long (((cc - (48 : Int32)).toInt64) &&& (4294967295 : Int64))), .second, .val (.long (((cc - (97 : Int32)).toInt64) &&& (4294967295 : Int64))), .second, .val (.int (0 : Int32)), .val (.int (1 : Int32)), .val (.int (1 : Int32))]) rfl k) ?_
      show own_Go _ _ _ _ (s₁.setTop (mkF m 75 #[.val (.int p1), .val (.int cc), .val (.long (((cc - (48 : Int32)).toInt64) &&& (4294967295 : Int64))), .second, .val (.long (((cc - (97 : Int32)).toInt64) &&& (4294967295 : Int64))), .second, .val (.int (0 : Int32)), .val (.int (1 : Int32)), .val (.int (1 : Int32))] []))
      refine own_by (fun t k => XS.iloadN X0.here hx rfl (hb hby at_75) rfl k) ?_
      show own_Go _ _ _ _ (s₁.setTop (mkF m 76 #[.val (.int p1), .val (.int cc), .val (.long (((cc - (48 : Int32)).toInt64) &&& (4294967295 : Int64))), .second, .val (.long (((cc - (97 : Int32)).toInt64) &&& (4294967295 : Int64))), .second, .val (.int (0 : Int32)), .val (.int (1 : Int32)), .val (.int (1 : Int32))] [(.int cc)]))
      obtain ⟨_, _, ⟨Tc0_3, Lc0_3, kc0_3, nc0_3⟩, -, Xc0_3, ⟨Lcc0_3, hQc0_3, lc0_3, yc0_3, zc0_3⟩, stc0_3⟩ := Jvm.LawKit.callS X0 hx (y := (⟨"com/example/rubrica/rubrica/check/Tables", "isCode", "(C)Z"⟩ : MethodName)) hown (mvT hZ (hw _ (List.mem_of_getElem? (i := 4) rfl))) (mvT hZ (hw _ (List.mem_of_getElem? (i := 5) rfl))) (mvT hZ (hw _ (List.mem_of_getElem? (i := 6) rfl))) (mvT hZ (hw _ (List.mem_of_getElem? (i := 7) rfl))) (by decide) (backOf (W := 0) (rm1 l Z a0 hw [] cc  h0 n0 Z0 ) hZ (hw _ (List.mem_of_getElem? (i := 7) rfl)) (hw _ (List.mem_of_getElem? (i := 6) rfl)) (by decide) (by decide)) (g := (mkF m 76 #[.val (.int p1), .val (.int cc), .val (.long (((cc - (48 : Int32)).toInt64) &&& (4294967295 : Int64))), .second, .val (.long (((cc - (97 : Int32)).toInt64) &&& (4294967295 : Int64))), .second, .val (.int (0 : Int32)), .val (.int (1 : Int32)), .val (.int (1 : Int32))] [(.int cc)])) rfl (by rw [hml]; rfl) (argsL := [(.int cc)]) (rest := []) (lenOf pd_0_0 rfl) rfl (by show 2 * 0 + _ ≤ _; exact Nat.le_of_eq rfl) (hb hby at_76) (fun _ _ => ⟨rfl, e0, (by decide : 0 + 0 ≤ _), (by decide : 0 + 0 ≤ _)⟩)
      dsimp only [Pt.U, Pt.locs, Pt.cells, Pt.slots] at Xc0_3 lc0_3 yc0_3 zc0_3 stc0_3 hQc0_3
      subst lc0_3 yc0_3 zc0_3
      obtain ⟨rfl, Nc0_3q, ehc0_3⟩ := hQc0_3
      have Nc0_3 := Fr.app N0 Nc0_3q
      refine own_by (fun t k => stc0_3 t k) ?_
      show own_Go _ _ _ _ (Tc0_3.setTop (mkF m 79 #[.val (.int p1), .val (.int cc), .val (.long (((cc - (48 : Int32)).toInt64) &&& (4294967295 : Int64))), .second, .val (.long (((cc - (97 : Int32)).toInt64) &&& (4294967295 : Int64))), .second, .val (.int (0 : Int32)), .val (.int (1 : Int32)), .val (.int (1 : Int32))] [(.int (own_code cc))]))
      refine own_by (fun t k => XS.iload Xc0_3.here hx rfl (hb hby at_79) rfl k) ?_
      show own_Go _ _ _ _ (Tc0_3.setTop (mkF m 81 #[.val (.int p1), .val (.int cc), .val (.long (((cc - (48 : Int32)).toInt64) &&& (4294967295 : Int64))), .second, .val (.long (((cc - (97 : Int32)).toInt64) &&& (4294967295 : Int64))), .second, .val (.int (0 : Int32)), .val (.int (1 : Int32)), .val (.int (1 : Int32))] [(.int (1 : Int32)), (.int (own_code cc))]))
      refine own_by (fun t k => XS.icmpNo Xc0_3.here hx rfl (hb hby at_81) rfl (teq (by rw [hce]; simp [hc32, hc48] : (own_code cc) = (1 : Int32))).2 k) ?_
      show own_Go _ _ _ _ (Tc0_3.setTop (mkF m 84 #[.val (.int p1), .val (.int cc), .val (.long (((cc - (48 : Int32)).toInt64) &&& (4294967295 : Int64))), .second, .val (.long (((cc - (97 : Int32)).toInt64) &&& (4294967295 : Int64))), .second, .val (.int (0 : Int32)), .val (.int (1 : Int32)), .val (.int (1 : Int32))] []))
      refine own_by (fun t k => XS.iconst Xc0_3.here hx rfl (hb hby at_84) k) ?_
      show own_Go _ _ _ _ (Tc0_3.setTop (mkF m 85 #[.val (.int p1), .val (.int cc), .val (.long (((cc - (48 : Int32)).toInt64) &&& (4294967295 : Int64))), .second, .val (.long (((cc - (97 : Int32)).toInt64) &&& (4294967295 : Int64))), .second, .val (.int (0 : Int32)), .val (.int (1 : Int32)), .val (.int (1 : Int32))] [(.int (1 : Int32))]))
      refine own_by (fun t k => XS.goto Xc0_3.here hx rfl (pc0 := 85) (pc' := 89) rfl (hb hby at_85) (by decide) (by decide) k) ?_
      show own_Go _ _ _ _ (Tc0_3.setTop (mkF m 89 #[.val (.int p1), .val (.int cc), .val (.long (((cc - (48 : Int32)).toInt64) &&& (4294967295 : Int64))), .second, .val (.long (((cc - (97 : Int32)).toInt64) &&& (4294967295 : Int64))), .second, .val (.int (0 : Int32)), .val (.int (1 : Int32)), .val (.int (1 : Int32))] [(.int (1 : Int32))]))
      obtain ⟨fs, hr, hrun, hended, hW, hsame⟩ := Xc0_3.leave (v := some (.int (1 : Int32))) (fun h => by rw [Bd.returns] at h; cases h)
      refine ⟨_, _, retN Xc0_3 hx (t := .boolean) Bd.returns (by simp) (hb hby at_89) hr, hrun, hended, _, _, rfl, ?_, ⟨_, rfl⟩, hW, hsame.mono (by decide) (by decide)⟩
      show Q0 Z p1 h0 n0 _ Tc0_3.heap _
      rw [ehc0_3]
      exact ⟨rfl, Nc0_3⟩
    · refine own_by (fun t k => XS.ifYes X0.here hx rfl (pc0 := 48) (pc' := 55) rfl (hb hby at_48) rfl ((if0 _ _).trans (flt (fun q => hc48 ((lw_lt _ _).mp q))).2.1) (by decide) (by decide) k) ?_
      show own_Go _ _ _ _ (s₁.setTop (mkF m 55 #[.val (.int p1), .val (.int cc), .val (.long (((cc - (48 : Int32)).toInt64) &&& (4294967295 : Int64))), .second, .val (.long (((cc - (97 : Int32)).toInt64) &&& (4294967295 : Int64))), .second, .val (.int (0 : Int32)), .unset, .unset] []))
      refine own_by (fun t k => XS.iconst X0.here hx rfl (hb hby at_55) k) ?_
      show own_Go _ _ _ _ (s₁.setTop (mkF m 56 #[.val (.int p1), .val (.int cc), .val (.long (((cc - (48 : Int32)).toInt64) &&& (4294967295 : Int64))), .second, .val (.long (((cc - (97 : Int32)).toInt64) &&& (4294967295 : Int64))), .second, .val (.int (0 : Int32)), .unset, .unset] [(.int (0 : Int32))]))
      refine own_by (fun t k => XS.istore X0.here hx rfl (hb hby at_56) rfl (l' := #[.val (.int p1), .val (.int cc), .val (.long (((cc - (48 : Int32)).toInt64) &&& (4294967295 : Int64))), .second, .val (.long (((cc - (97 : Int32)).toInt64) &&& (4294967295 : Int64))), .second, .val (.int (0 : Int32)), .val (.int (0 : Int32)), .unset]) rfl k) ?_
      show own_Go _ _ _ _ (s₁.setTop (mkF m 58 #[.val (.int p1), .val (.int cc), .val (.long (((cc - (48 : Int32)).toInt64) &&& (4294967295 : Int64))), .second, .val (.long (((cc - (97 : Int32)).toInt64) &&& (4294967295 : Int64))), .second, .val (.int (0 : Int32)), .val (.int (0 : Int32)), .unset] []))
      refine own_by (fun t k => XS.iload X0.here hx rfl (hb hby at_58) rfl k) ?_
      show own_Go _ _ _ _ (s₁.setTop (mkF m 60 #[.val (.int p1), .val (.int cc), .val (.long (((cc - (48 : Int32)).toInt64) &&& (4294967295 : Int64))), .second, .val (.long (((cc - (97 : Int32)).toInt64) &&& (4294967295 : Int64))), .second, .val (.int (0 : Int32)), .val (.int (0 : Int32)), .unset] [(.int (0 : Int32))]))
      refine own_by (fun t k => XS.ifNo X0.here hx rfl (hb hby at_60) rfl ((if0 _ _).trans (teq (by decide : (0 : Int32) = (0 : Int32))).2) k) ?_
      show own_Go _ _ _ _ (s₁.setTop (mkF m 63 #[.val (.int p1), .val (.int cc), .val (.long (((cc - (48 : Int32)).toInt64) &&& (4294967295 : Int64))), .second, .val (.long (((cc - (97 : Int32)).toInt64) &&& (4294967295 : Int64))), .second, .val (.int (0 : Int32)), .val (.int (0 : Int32)), .unset] []))
      refine own_by (fun t k => XS.iload X0.here hx rfl (hb hby at_63) rfl k) ?_
      show own_Go _ _ _ _ (s₁.setTop (mkF m 65 #[.val (.int p1), .val (.int cc), .val (.long (((cc - (48 : Int32)).toInt64) &&& (4294967295 : Int64))), .second, .val (.long (((cc - (97 : Int32)).toInt64) &&& (4294967295 : Int64))), .second, .val (.int (0 : Int32)), .val (.int (0 : Int32)), .unset] [(.int (0 : Int32))]))
      refine own_by (fun t k => XS.ifYes X0.here hx rfl (pc0 := 65) (pc' := 72) rfl (hb hby at_65) rfl ((if0 _ _).trans (teq (by decide : (0 : Int32) = (0 : Int32))).1) (by decide) (by decide) k) ?_
      show own_Go _ _ _ _ (s₁.setTop (mkF m 72 #[.val (.int p1), .val (.int cc), .val (.long (((cc - (48 : Int32)).toInt64) &&& (4294967295 : Int64))), .second, .val (.long (((cc - (97 : Int32)).toInt64) &&& (4294967295 : Int64))), .second, .val (.int (0 : Int32)), .val (.int (0 : Int32)), .unset] []))
      refine own_by (fun t k => XS.iconst X0.here hx rfl (hb hby at_72) k) ?_
      show own_Go _ _ _ _ (s₁.setTop (mkF m 73 #[.val (.int p1), .val (.int cc), .val (.long (((cc - (48 : Int32)).toInt64) &&& (4294967295 : Int64))), .second, .val (.long (((cc - (97 : Int32)).toInt64) &&& (4294967295 : Int64))), .second, .val (.int (0 : Int32)), .val (.int (0 : Int32)), .unset] [(.int (0 : Int32))]))
      refine own_by (fun t k => XS.istore X0.here hx rfl (hb hby at_73) rfl (l' := #[.val (.int p1), .val (.int cc), .val (.long (((cc - (48 : Int32)).toInt64) &&& (4294967295 : Int64))), .second, .val (.long (((cc - (97 : Int32)).toInt64) &&& (4294967295 : Int64))), .second, .val (.int (0 : Int32)), .val (.int (0 : Int32)), .val (.int (0 : Int32))]) rfl k) ?_
      show own_Go _ _ _ _ (s₁.setTop (mkF m 75 #[.val (.int p1), .val (.int cc), .val (.long (((cc - (48 : Int32)).toInt64) &&& (4294967295 : Int64))), .second, .val (.long (((cc - (97 : Int32)).toInt64) &&& (4294967295 : Int64))), .second, .val (.int (0 : Int32)), .val (.int (0 : Int32)), .val (.int (0 : Int32))] []))
      refine own_by (fun t k => XS.iloadN X0.here hx rfl (hb hby at_75) rfl k) ?_
      show own_Go _ _ _ _ (s₁.setTop (mkF m 76 #[.val (.int p1), .val (.int cc), .val (.long (((cc - (48 : Int32)).toInt64) &&& (4294967295 : Int64))), .second, .val (.long (((cc - (97 : Int32)).toInt64) &&& (4294967295 : Int64))), .second, .val (.int (0 : Int32)), .val (.int (0 : Int32)), .val (.int (0 : Int32))] [(.int cc)]))
      obtain ⟨_, _, ⟨Tc0_4, Lc0_4, kc0_4, nc0_4⟩, -, Xc0_4, ⟨Lcc0_4, hQc0_4, lc0_4, yc0_4, zc0_4⟩, stc0_4⟩ := Jvm.LawKit.callS X0 hx (y := (⟨"com/example/rubrica/rubrica/check/Tables", "isCode", "(C)Z"⟩ : MethodName)) hown (mvT hZ (hw _ (List.mem_of_getElem? (i := 4) rfl))) (mvT hZ (hw _ (List.mem_of_getElem? (i := 5) rfl))) (mvT hZ (hw _ (List.mem_of_getElem? (i := 6) rfl))) (mvT hZ (hw _ (List.mem_of_getElem? (i := 7) rfl))) (by decide) (backOf (W := 0) (rm1 l Z a0 hw [] cc  h0 n0 Z0 ) hZ (hw _ (List.mem_of_getElem? (i := 7) rfl)) (hw _ (List.mem_of_getElem? (i := 6) rfl)) (by decide) (by decide)) (g := (mkF m 76 #[.val (.int p1), .val (.int cc), .val (.long (((cc - (48 : Int32)).toInt64) &&& (4294967295 : Int64))), .second, .val (.long (((cc - (97 : Int32)).toInt64) &&& (4294967295 : Int64))), .second, .val (.int (0 : Int32)), .val (.int (0 : Int32)), .val (.int (0 : Int32))] [(.int cc)])) rfl (by rw [hml]; rfl) (argsL := [(.int cc)]) (rest := []) (lenOf pd_0_0 rfl) rfl (by show 2 * 0 + _ ≤ _; exact Nat.le_of_eq rfl) (hb hby at_76) (fun _ _ => ⟨rfl, e0, (by decide : 0 + 0 ≤ _), (by decide : 0 + 0 ≤ _)⟩)
      dsimp only [Pt.U, Pt.locs, Pt.cells, Pt.slots] at Xc0_4 lc0_4 yc0_4 zc0_4 stc0_4 hQc0_4
      subst lc0_4 yc0_4 zc0_4
      obtain ⟨rfl, Nc0_4q, ehc0_4⟩ := hQc0_4
      have Nc0_4 := Fr.app N0 Nc0_4q
      refine own_by (fun t k => stc0_4 t k) ?_
      show own_Go _ _ _ _ (Tc0_4.setTop (mkF m 79 #[.val (.int p1), .val (.int cc), .val (.long (((cc - (48 : Int32)).toInt64) &&& (4294967295 : Int64))), .second, .val (.long (((cc - (97 : Int32)).toInt64) &&& (4294967295 : Int64))), .second, .val (.int (0 : Int32)), .val (.int (0 : Int32)), .val (.int (0 : Int32))] [(.int (own_code cc))]))
      refine own_by (fun t k => XS.iload Xc0_4.here hx rfl (hb hby at_79) rfl k) ?_
      show own_Go _ _ _ _ (Tc0_4.setTop (mkF m 81 #[.val (.int p1), .val (.int cc), .val (.long (((cc - (48 : Int32)).toInt64) &&& (4294967295 : Int64))), .second, .val (.long (((cc - (97 : Int32)).toInt64) &&& (4294967295 : Int64))), .second, .val (.int (0 : Int32)), .val (.int (0 : Int32)), .val (.int (0 : Int32))] [(.int (0 : Int32)), (.int (own_code cc))]))
      refine own_by (fun t k => XS.icmpNo Xc0_4.here hx rfl (hb hby at_81) rfl (teq (by rw [hce]; simp [hc32, hc48] : (own_code cc) = (0 : Int32))).2 k) ?_
      show own_Go _ _ _ _ (Tc0_4.setTop (mkF m 84 #[.val (.int p1), .val (.int cc), .val (.long (((cc - (48 : Int32)).toInt64) &&& (4294967295 : Int64))), .second, .val (.long (((cc - (97 : Int32)).toInt64) &&& (4294967295 : Int64))), .second, .val (.int (0 : Int32)), .val (.int (0 : Int32)), .val (.int (0 : Int32))] []))
      refine own_by (fun t k => XS.iconst Xc0_4.here hx rfl (hb hby at_84) k) ?_
      show own_Go _ _ _ _ (Tc0_4.setTop (mkF m 85 #[.val (.int p1), .val (.int cc), .val (.long (((cc - (48 : Int32)).toInt64) &&& (4294967295 : Int64))), .second, .val (.long (((cc - (97 : Int32)).toInt64) &&& (4294967295 : Int64))), .second, .val (.int (0 : Int32)), .val (.int (0 : Int32)), .val (.int (0 : Int32))] [(.int (1 : Int32))]))
      refine own_by (fun t k => XS.goto Xc0_4.here hx rfl (pc0 := 85) (pc' := 89) rfl (hb hby at_85) (by decide) (by decide) k) ?_
      show own_Go _ _ _ _ (Tc0_4.setTop (mkF m 89 #[.val (.int p1), .val (.int cc), .val (.long (((cc - (48 : Int32)).toInt64) &&& (4294967295 : Int64))), .second, .val (.long (((cc - (97 : Int32)).toInt64) &&& (4294967295 : Int64))), .second, .val (.int (0 : Int32)), .val (.int (0 : Int32)), .val (.int (0 : Int32))] [(.int (1 : Int32))]))
      obtain ⟨fs, hr, hrun, hended, hW, hsame⟩ := Xc0_4.leave (v := some (.int (1 : Int32))) (fun h => by rw [Bd.returns] at h; cases h)
      refine ⟨_, _, retN Xc0_4 hx (t := .boolean) Bd.returns (by simp) (hb hby at_89) hr, hrun, hended, _, _, rfl, ?_, ⟨_, rfl⟩, hW, hsame.mono (by decide) (by decide)⟩
      show Q0 Z p1 h0 n0 _ Tc0_4.heap _
      rw [ehc0_4]
      exact ⟨rfl, Nc0_4⟩
set_option maxRecDepth 65536 in
set_option maxHeartbeats 40000000 in
theorem comes_1 {Post : Tables → Env → Array Value → State → Outcome → State → Prop} (hpost : ∀ tb e args s v u, (limb_1_1.after args s (.returned v) u = true ∧ limb_1_2.after args s (.returned v) u = true ∧ True) → FrameEnd s (.returned v) u (Jvm.fieldLocs frame_1_writes args s ++ Jvm.arrayLocs frame_1_arrays args s ++ Jvm.staticLocs frame_1_statics s) 0 0 → Post tb e args s (.returned v) u) :
    ArmFor flags0 classFile x code maxLocals ret World_1 tables_1 room_1 Calls_1 rest_1 Pre_1 Post := by
  intro l hfl _ _ p e ha hc hk s m args below hf hA hF happ hP
  obtain ⟨hcalls, hrest, hpre⟩ := hP
  obtain ⟨-, -, -, hnamed, -, -, -, hat⟩ := (Spec.applies_iff hf).mp happ
  obtain ⟨hg, hn⟩ := and_e (Cond.before_iff.mp (show (Jvm.Cond.and given_1 narrow_1).before args s = true from hpre))
  obtain ⟨gc, gr0⟩ := and_e hg
  obtain ⟨w0, rfl⟩ : ∃ w0 : Value, args = #[w0] := by
    have hs : args.size = 1 := by simpa [Cond.value, given_1] using gc
    obtain ⟨L⟩ := args
    match L, hs with
    | [w0], _ => exact ⟨w0, rfl⟩
  have hw := fun d (hd : d ∈ tables_1) => atoms_spec (ws := Jvm.Cond.code x code maxLocals ret :: tables_1) hat d (List.mem_cons_of_mem _ hd)
  obtain ⟨i0, ei0⟩ := is_v gr0
  obtain rfl : w0 = (.int i0) := Option.some.inj ei0
  obtain ⟨n, o, h1, h2, h3, _, L, rfl, ⟨rfl, N⟩, hq⟩ := rm0 l s _ hw tables_1 i0 s.heap s.heap.size (Nat.le_refl _) p e ha hc hk s m _ below hf ((Spec.applies_iff_loose hf).mp happ).1 ⟨rfl, State.Warmed39.refl s, rfl⟩ trivial
  refine ⟨n, _, h1, h2, h3, hpost _ _ _ _ _ _ ⟨Cond.after_iff.mpr rfl, Cond.after_iff.mpr (eq_i res_at (Term.int_eval (1)) rfl), trivial⟩ ⟨hq.1, hq.2.1, (hq.2.2.sift fun y hy => Or.inr (N y hy)).mono (by decide) (by decide)⟩⟩
theorem main_1_1 : Claimed_1_1 := comes_1 fun _ _ _ _ _ _ h hF => ⟨h.1, hF⟩
theorem main_1_2 : Claimed_1_2 := comes_1 fun _ _ _ _ _ _ h hF => ⟨h.2.1, hF⟩
end Jvm.Pilot.@@N@@
namespace Jvm.Pilot.@@N@@
open Jvm Jvm.ClassFile Sem Op Lib Jvm.Free Jvm.Stand Jvm.Pilot.@@N@@.Jvm.D
/-! MADE BY PROGRAM (witnessworld.py) out of the Statement's table words and the real class files: 9 classes; the members and pool entries that the words name. The judged class is class 1, her method 1. -/
namespace start1
open Jvm.ClassFile
def u (s : String) : CpInfo := .utf8 (stringToUtf16 s)
/-- a pool by its gaps: so many unusable entries, then the entry; so many at the end -/
def gap : Nat → List CpInfo → List CpInfo
  | 0, r => r
  | n + 1, r => .unusable :: gap n r
def poolList (es : List (Nat × CpInfo)) (last : Nat) : List CpInfo := es.foldr (fun e r => gap e.1 (e.2 :: r)) (gap last [])
def pool (es : List (Nat × CpInfo)) (last : Nat) : Array CpInfo := ⟨poolList es last⟩
def fileOf (pool : Array CpInfo) (this : Nat) (attrs : Array Attribute := #[]) (ms : Array MethodInfo := #[]) (fl : Nat := 33) (sup : Nat := 0) (ifs : Array Nat := #[]) (fds : Array FieldInfo := #[]) : ClassFile where
  minorVersion := 0
  majorVersion := 65
  constantPool := pool
  accessFlags := fl
  thisClass := this
  superClass := sup
  interfaces := ifs
  fields := fds
  methods := ms
  attributes := attrs
def plain (name : String) (sup : Option ClassId) : Class where
  name := name
  kind := .ordinary
  loader := none
  accessFlags := 33
  super := sup
  interfaces := #[]
  cf := none
  fields := #[]
  methods := #[]
  instanceTypes := #[]
  staticTypes := #[]
  resolved := #[]
  callSites := []
  init := .initialized
  statics := none
  mirror := none

def pool0 : Array CpInfo := pool [(5, u "<init>"), (0, u "()V"), (1, .class_ 10), (1, u "java/lang/Object")] 113

def k0m0 : Method := { name := "<init>", desc := "()V", sig := { parameters := [], returnType := none }, accessFlags := 1, code := none }
/-- java/lang/Object -/
def k0 : Class := { plain "java/lang/Object" none with
  accessFlags := 33
  interfaces := #[]
  cf := some (fileOf pool0 8 #[] #[{ accessFlags := 1, nameIndex := 5, descriptorIndex := 6, attributes := #[] }] 33 0 #[] #[])
  fields := #[]
  methods := #[k0m0]
  instanceTypes := #[]
  staticTypes := #[]
  resolved := Array.replicate 124 none
  statics := none }

def pool1 : Array CpInfo := pool [(2, .class_ 4), (1, u "java/lang/Object"), (0, u "<init>"), (0, u "()V"), (0, .integer 65535), (0, .long 4294967295), (1, .long 10), (1, .long 26), (1, .methodref 15 16), (0, .class_ 17), (0, .nameAndType 18 19), (0, u "com/example/rubrica/rubrica/check/Tables"), (0, u "isCode"), (0, u "(C)Z"), (0, .class_ 21), (0, u "com/example/rubrica/rubrica/check/TablesIsCodePinLaw"), (2, u "law"), (0, u "(I)Z")] 3

def k1m0 : Method := { name := "<init>", desc := "()V", sig := { parameters := [], returnType := none }, accessFlags := 2, code := none }
def k1c1 : Code := { maxStack := 4, maxLocals := 9, code := code, exceptionTable := #[], attributes := #[] }
def k1m1 : Method := { name := "law", desc := "(I)Z", sig := { parameters := [.int], returnType := some .boolean }, accessFlags := 9, code := some k1c1 }
/-- com/example/rubrica/rubrica/check/TablesIsCodePinLaw -/
def k1 : Class := { plain "com/example/rubrica/rubrica/check/TablesIsCodePinLaw" (some 0) with
  accessFlags := 49
  interfaces := #[]
  cf := some (fileOf pool1 20 #[] #[{ accessFlags := 2, nameIndex := 5, descriptorIndex := 6, attributes := #[] }, { accessFlags := 9, nameIndex := 24, descriptorIndex := 25, attributes := #[] }] 49 2 #[] #[])
  fields := #[]
  methods := #[k1m0, k1m1]
  instanceTypes := #[]
  staticTypes := #[]
  resolved := Array.replicate 29 none
  statics := none }

def pool2 : Array CpInfo := pool [(2, .class_ 4), (1, u "java/lang/Object"), (0, u "<init>"), (0, u "()V"), (0, .class_ 8), (0, u "com/example/rubrica/rubrica/check/Tables"), (27, .class_ 38), (1, u "com/example/rubrica/rubrica/check/Tables$TableReader"), (108, u "isCode"), (0, u "(C)Z"), (27, u "SEPARATOR"), (0, u "Ljava/lang/String;"), (1, u "BLANK"), (0, u "INDICATOR_VALUE")] 49

def k2m0 : Method := { name := "<init>", desc := "()V", sig := { parameters := [], returnType := none }, accessFlags := 2, code := none }
def k2c1 : Code := { maxStack := 2, maxLocals := 1, code := prog_38_method_9_code, exceptionTable := #[], attributes := #[] }
def k2m1 : Method := { name := "isCode", desc := "(C)Z", sig := { parameters := [.char], returnType := some .boolean }, accessFlags := 8, code := some k2c1 }
/-- com/example/rubrica/rubrica/check/Tables -/
def k2 : Class := { plain "com/example/rubrica/rubrica/check/Tables" (some 0) with
  accessFlags := 48
  interfaces := #[]
  cf := some (fileOf pool2 7 #[.nestMembers #[36]] #[{ accessFlags := 2, nameIndex := 5, descriptorIndex := 6, attributes := #[] }, { accessFlags := 8, nameIndex := 147, descriptorIndex := 148, attributes := #[] }] 48 2 #[] #[{ accessFlags := 26, nameIndex := 176, descriptorIndex := 177, attributes := #[] }, { accessFlags := 26, nameIndex := 179, descriptorIndex := 177, attributes := #[] }, { accessFlags := 26, nameIndex := 180, descriptorIndex := 177, attributes := #[] }])
  fields := #[{ name := "SEPARATOR", type := (.object "java/lang/String"), accessFlags := 26, slot := 0, constantValue := 0 }, { name := "BLANK", type := (.object "java/lang/String"), accessFlags := 26, slot := 1, constantValue := 0 }, { name := "INDICATOR_VALUE", type := (.object "java/lang/String"), accessFlags := 26, slot := 2, constantValue := 0 }]
  methods := #[k2m0, k2m1]
  instanceTypes := #[]
  staticTypes := #[(.object "java/lang/String"), (.object "java/lang/String"), (.object "java/lang/String")]
  resolved := Array.replicate 230 none
  statics := none }

def pool3 : Array CpInfo := pool [(1, u "java/lang/Cloneable"), (0, .class_ 1), (0, u "java/lang/Object"), (0, .class_ 3)] 3

/-- java/lang/Cloneable -/
def k3 : Class := { plain "java/lang/Cloneable" (some 0) with
  accessFlags := 1537
  interfaces := #[]
  cf := some (fileOf pool3 2 #[] #[] 1537 4 #[] #[])
  fields := #[]
  methods := #[]
  instanceTypes := #[]
  staticTypes := #[]
  resolved := Array.replicate 8 none
  statics := none }

def pool4 : Array CpInfo := pool [(1, u "java/io/Serializable"), (0, .class_ 1), (0, u "java/lang/Object"), (0, .class_ 3)] 3

/-- java/io/Serializable -/
def k4 : Class := { plain "java/io/Serializable" (some 0) with
  accessFlags := 1537
  interfaces := #[]
  cf := some (fileOf pool4 2 #[] #[] 1537 4 #[] #[])
  fields := #[]
  methods := #[]
  instanceTypes := #[]
  staticTypes := #[]
  resolved := Array.replicate 8 none
  statics := none }

/-- the primitive byte -/
def k5 : Class := { plain "byte" none with kind := .primitive 'B', accessFlags := 0x411 }
/-- [B -/
def k6 : Class := { plain "[B" (some 0) with kind := .array 5 .byte, interfaces := #[3, 4], accessFlags := 1041 }

/-- the primitive int -/
def k7 : Class := { plain "int" none with kind := .primitive 'I', accessFlags := 0x411 }
/-- [I -/
def k8 : Class := { plain "[I" (some 0) with kind := .array 7 .int, interfaces := #[3, 4], accessFlags := 1041 }

def heap : Heap := #[]
def classes : Array Class := #[k0, k1, k2, k3, k4, k5, k6, k7, k8]
def interned : List (Array UInt16 × Addr) := []
def slotsUsed : Nat := 0
def theMethod : MethodId := ⟨1, 1⟩
def args0 : Array Value := #[.int 5]
def aboutOver (below : List Frame) : State where
  vm := { classes := classes, interned := interned.toArray }
  heap := heap
  slotsUsed := slotsUsed
  threads := #[{ frames := .invoking theMethod args0 :: below }]
def below0 : List Frame := [.native { method := ⟨0, 0⟩, args := #[] }]
def about1 : State := aboutOver below0
def p0 : Program := .bare "" "" ""
def e0 : Env := launch0.env 0 0 0
theorem w_frames : about1.frames = Frame.invoking theMethod args0 :: below0 := rfl
set_option maxRecDepth 65536 in
theorem w_args : argsFit about1.vm theMethod args0 = true := by decide +kernel
set_option maxRecDepth 65536 in
theorem w_heap : heapFits about1 = true := by decide +kernel
set_option maxRecDepth 65536 in
theorem w_runnable : about1.curStatus? = some .runnable := by decide +kernel
set_option maxRecDepth 65536 in
theorem w_alone : about1.alone = true := by decide +kernel
set_option maxRecDepth 65536 in
theorem w_named : about1.methodNamed? x = some theMethod := by decide +kernel
set_option maxRecDepth 65536 in
theorem w_hears : about1.hears theMethod below0 = true := by decide +kernel
set_option maxRecDepth 65536 in
theorem w_ripe : about1.ripe theMethod args0 below0 = true := by decide +kernel
theorem w_running : about1.status = .running := rfl
set_option maxRecDepth 65536 in
theorem w_room : about1.hasRoom e0.platform room_1 = true :=
  launch0.hasRoom_least _ room_1 (by decide +kernel) (by decide +kernel) (by decide +kernel) (by decide +kernel) (by decide +kernel) (by decide +kernel)
theorem allAtoms_all (ts : List Jvm.Cond) (a : Array Jvm.Value) (st : Jvm.State) : (allAtoms ts).before a st = ts.all (fun c => c.before a st) := by
  induction ts with
  | nil => rfl
  | cons c t ih =>
    show (Jvm.Cond.and c (allAtoms t)).before a st = _
    rw [Jvm.Cond.before_and, ih, List.all_cons]
def words1 : List Jvm.Cond := Jvm.Cond.code x code maxLocals ret :: tables_1
/-- a 'code' word, met by the world's own term for the bytes: nothing is compared byte by byte -/
theorem code_word {y : MethodName} {bytes : ByteArray} {mx : Nat} {rt : Option FieldType} {a : Array Value} {s : State} {m : MethodId} {meth : Method} {c : Code} (h1 : s.methodNamed? y = some m) (h2 : s.vm.method? m = some meth) (h3 : meth.code = some c) (h4 : c.code = bytes)
    (h5 : (c.maxLocals == mx && c.exceptionTable.isEmpty && decide (c.maxStack ≤ mostOperands) && decide (meth.sig.returnType = rt) && !meth.locks && decide (parseMethodDescriptor y.desc = some meth.sig)) = true) : (Jvm.Cond.code y bytes mx rt).before a s = true := by
  simp only [Bool.and_eq_true, beq_iff_eq, Bool.not_eq_true', decide_eq_true_eq] at h5
  obtain ⟨⟨⟨⟨⟨g1, g2⟩, g3⟩, g4⟩, g5⟩, g6⟩ := h5
  simp [Cond.before, Cond.holds, Cond.value, h1, h2, h3, h4, g1, g2, g3, g4, g5, g6]
def isCode : Jvm.Cond → Bool
  | .code _ _ _ _ => true
  | _ => false
theorem all_split {L : List Jvm.Cond} {P : Jvm.Cond → Bool} (h1 : L.all (fun c => isCode c || P c) = true) (h2 : ∀ c ∈ L.filter isCode, P c = true) : L.all P = true := by
  refine List.all_eq_true.mpr fun c hc => ?_
  have h := List.all_eq_true.mp h1 c hc
  rcases Bool.eq_false_or_eq_true (isCode c) with hi | hi
  · exact h2 c (List.mem_filter.mpr ⟨hc, hi⟩)
  · simpa [hi] using h
set_option maxRecDepth 65536 in
theorem w_c0 : (Jvm.Cond.code x code maxLocals ret).before args0 about1 = true := code_word (m := ⟨1, 1⟩) (meth := k1m1) (c := k1c1) (by decide +kernel) rfl rfl rfl (by decide +kernel)
set_option maxRecDepth 65536 in
theorem w_c1 : (Jvm.Cond.code ({ cls := "com/example/rubrica/rubrica/check/Tables", name := "isCode", desc := "(C)Z" } : Jvm.MethodName) prog_38_method_9_code (1 : Nat) (Option.some Jvm.ClassFile.FieldType.boolean)).before args0 about1 = true := code_word (m := ⟨2, 1⟩) (meth := k2m1) (c := k2c1) (by decide +kernel) rfl rfl rfl (by decide +kernel)
def codes1 : List Jvm.Cond := [Jvm.Cond.code x code maxLocals ret, Jvm.Cond.code ({ cls := "com/example/rubrica/rubrica/check/Tables", name := "isCode", desc := "(C)Z" } : Jvm.MethodName) prog_38_method_9_code (1 : Nat) (Option.some Jvm.ClassFile.FieldType.boolean)]
set_option maxRecDepth 65536 in
theorem codes_eq : words1.filter isCode = codes1 := rfl
theorem w_codes : ∀ c ∈ words1.filter isCode, c.before args0 about1 = true := by
  rw [codes_eq]
  intro c hc
  simp only [codes1, List.mem_cons, List.not_mem_nil, or_false] at hc
  rcases hc with rfl | rfl
  · exact w_c0
  · exact w_c1
set_option maxRecDepth 65536 in
theorem w_t1 : words1.all (fun c => isCode c || c.before args0 about1) = true := by decide +kernel
theorem w_tables : (allAtoms (Jvm.Cond.code x code maxLocals ret :: tables_1)).before args0 about1 = true := by
  rw [allAtoms_all]
  show words1.all (fun c => c.before args0 about1) = true
  refine all_split ?_ w_codes
  rw [w_t1]
set_option maxRecDepth 65536 in
theorem w_case : (Jvm.Cond.and given_1 narrow_1).before args0 about1 = true := by decide +kernel
theorem w_applies : (headSpec (Jvm.Cond.code x code maxLocals ret :: tables_1) room_1).applies x e0.platform about1 = true :=
  (Spec.applies_iff w_frames).mpr ⟨w_running, w_runnable, w_alone, w_named, w_hears, w_ripe, w_room, w_tables⟩
theorem atStart : AtStart classFile x code maxLocals ret World_1 tables_1 room_1 Calls_1 rest_1 Pre_1 launch0 p0 e0 about1 theMethod args0 below0 :=
  ⟨lists_1, trivial, launch0.admits_env _ _ _, launch0.least_env, fairChoices_fair.cas, fairChoices_fair.clock, w_frames, w_args, w_heap, w_applies, trivial, trivial, w_case⟩
end start1
theorem witness_1 : WitnessClaimed_1 := ⟨start1.p0, start1.e0, start1.about1, start1.theMethod, start1.args0, start1.below0, start1.atStart⟩
end Jvm.Pilot.@@N@@
