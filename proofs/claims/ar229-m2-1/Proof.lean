import JvmDerived
import JvmDerived.Pilot.@@N@@Statement
import JvmDerived.Pilot.@@N@@Code
set_option linter.unusedVariables false
set_option linter.unusedSimpArgs false
namespace Jvm.Pilot.@@N@@
open Jvm Jvm.ClassFile Sem Op Lib Jvm.Free Jvm.Stand Jvm.LawKit Jvm.RoadKit Bundle Jvm.Pilot.@@N@@.Jvm.D
/-! the end of a walk, as a goal that forks and joins can be walked under -/
def own_Go (tb : Tables) (e : Env) (below : List Frame) (P : Outcome → State → Prop) (T : State) : Prop := ∃ s₂ o, Steps tb e below T s₂ ∧ s₂.status = .running ∧ Ended s₂ below o ∧ P o s₂
theorem own_by {tb : Tables} {e : Env} {below : List Frame} {P : Outcome → State → Prop} {T T' : State} (h : ∀ t, Steps tb e below T' t → Steps tb e below T t) (g : own_Go tb e below P T') : own_Go tb e below P T := by
  obtain ⟨s2, o, h1, h2⟩ := g
  exact ⟨s2, o, h _ h1, h2⟩
def own_w (x : Int64) : Int32 := if x < (256 : Int64) then 1 else if x < (65536 : Int64) then 2 else 4
theorem own_cap (x : Int64) : ¬ (4294967295 : Int64) < (x &&& (4294967295 : Int64)) := by
  have h := c_maskL x 4294967295 32 (by decide) (by decide)
  rw [Int64.lt_iff_toInt_lt, h]
  have e : (4294967295 : Int64).toInt = 4294967295 := by decide
  rw [e]
  show ¬ 4294967295 < x.toInt % 4294967296
  omega
theorem own_fit (x : Int64) (h : ¬ (4294967295 : Int64) < x) : x < (4294967296 : Int64) := by
  have e : (4294967295 : Int64).toInt = 4294967295 := by decide
  have e2 : (4294967296 : Int64).toInt = 4294967296 := by decide
  rw [Int64.lt_iff_toInt_lt, e] at h
  rw [Int64.lt_iff_toInt_lt, e2]
  omega
theorem d1_0 : decode prog_8_method_4_code 0 = .ok (.lload_n 0, 1) := by decide +kernel
theorem d1_1 : decode prog_8_method_4_code 1 = .ok (.ldc2_w 53, 3) := by decide +kernel
theorem d1_4 : decode prog_8_method_4_code 4 = .ok (.lcmp, 1) := by decide +kernel
theorem d1_5 : decode prog_8_method_4_code 5 = .ok (.ifCond .ge 7, 3) := by decide +kernel
theorem d1_8 : decode prog_8_method_4_code 8 = .ok (.iconst 1, 1) := by decide +kernel
theorem d1_9 : decode prog_8_method_4_code 9 = .ok (.goto 16, 3) := by decide +kernel
theorem d1_12 : decode prog_8_method_4_code 12 = .ok (.lload_n 0, 1) := by decide +kernel
theorem d1_13 : decode prog_8_method_4_code 13 = .ok (.ldc2_w 55, 3) := by decide +kernel
theorem d1_16 : decode prog_8_method_4_code 16 = .ok (.lcmp, 1) := by decide +kernel
theorem d1_17 : decode prog_8_method_4_code 17 = .ok (.ifCond .ge 7, 3) := by decide +kernel
theorem d1_20 : decode prog_8_method_4_code 20 = .ok (.iconst 2, 1) := by decide +kernel
theorem d1_21 : decode prog_8_method_4_code 21 = .ok (.goto 4, 3) := by decide +kernel
theorem d1_24 : decode prog_8_method_4_code 24 = .ok (.iconst 4, 1) := by decide +kernel
theorem d1_25 : decode prog_8_method_4_code 25 = .ok (.ireturn, 1) := by decide +kernel
theorem pn_1 : plainName "com/example/techwood/techwood/Column" = true := by first | (simp [plainName, overriddenIn]; done) | decide +kernel
theorem ef_1 (m : MethodId) (q1 : Int64) : entryFrame m #[(.long q1)] 2 = mkF m 0 #[.val (.long q1), .second] [] := by first | (simp [entryFrame, mkF, argsToLocals, Value.category]; done) | rfl
def Q1 (Z : State) (q1 : Int64) (h0 : Heap) (n0 : Nat) (v : Option Value) (h : Heap) (L : List Loc) : Prop := v = some (.int (own_w q1)) ∧ Fr n0 L ∧ h = h0
abbrev P1 (Z : State) (q1 : Int64) (h0 : Heap) (n0 : Nat) (s : State) : Outcome → State → Prop := fun o U' => ∃ v L, o = .returned v ∧ Q1 Z q1 h0 n0 v U'.heap L ∧ FrameEnd s o U' L ({ frames := 0, cells := 0, slots := 0, locals := 0 } : Room).cells ({ frames := 0, cells := 0, slots := 0, locals := 0 } : Room).slots
set_option maxRecDepth 65536 in
set_option maxHeartbeats 40000000 in
theorem rm1 (l : Launch) (Z : State) (a0 : Array Value) (hw : ∀ d ∈ tables_1, d.before a0 Z = true) (ws : List Jvm.Cond) (q1 : Int64) (h0 : Heap) (n0 : Nat) (Z0 : n0 ≤ h0.size) :
    MetFree l (⟨"com/example/techwood/techwood/Column", "widthOf", "(J)I"⟩ : MethodName) (head1 (Jvm.Cond.code (⟨"com/example/techwood/techwood/Column", "widthOf", "(J)I"⟩ : MethodName) prog_8_method_4_code 2 (some .int) :: ws) ({ frames := 0, cells := 0, slots := 0, locals := 0 } : Room)) (fun a U => a = #[(.long q1)] ∧ Z.Warmed39 U.vm ∧ U.heap = h0) (fun _ _ _ _ _ => True) (fun _ U o U' => ∃ v L, o = .returned v ∧ Q1 Z q1 h0 n0 v U'.heap L ∧ FrameEnd U o U' L ({ frames := 0, cells := 0, slots := 0, locals := 0 } : Room).cells ({ frames := 0, cells := 0, slots := 0, locals := 0 } : Room).slots) := by
  refine MetFree.of_bodySF (plainFor_of_name pn_1) hisR ?_
  intro p e s m args below meth c s₁ Bd hml0 hP hK
  obtain ⟨rfl, hZ, hh⟩ := hP
  have hx := Bd.exec
  have hby := Bd.bytes
  have hml : c.maxLocals = 2 := hml0
  have hown : s.vm.findClass "com/example/techwood/techwood/Column" = some m.cls := findClass_of_methodNamed Bd.named
  have hnm := (name_of_methodNamed Bd.named Bd.method).1
  have X0 : Stand p l e ({ frames := 0, cells := 0, slots := 0, locals := 0 } : Room) s m #[(.long q1)] below meth c s₁ [] 0 0 := Stand.of_body Bd
  have e0 : s₁.heap = h0 := by rw [← hh, Bd.state]; rfl
  have N0 := Fr.nil n0
  show own_Go p.tables e below (P1 Z q1 h0 n0 s) (s₁.setTop (entryFrame m #[(.long q1)] 2))
  refine own_by (T' := s₁.setTop (mkF m 0 #[.val (.long q1), .second] [])) (fun t k => castTop (ef_1 m q1) k) ?_
  show own_Go _ _ _ _ (s₁.setTop (mkF m 0 #[.val (.long q1), .second] []))
  refine own_by (fun t k => XS.lloadN X0.here hx rfl (hb hby d1_0) rfl k) ?_
  show own_Go _ _ _ _ (s₁.setTop (mkF m 1 #[.val (.long q1), .second] [(.long q1)]))
  refine own_by (fun t k => X0.ldc2Long hx hown (mvT hZ (hw _ (List.mem_of_getElem? (i := 5) rfl))) (g := (mkF m 1 #[.val (.long q1), .second] [(.long q1)])) rfl (hb hby d1_1) _ k) ?_
  show own_Go _ _ _ _ (s₁.setTop (mkF m 4 #[.val (.long q1), .second] [(.long (256 : Int64)), (.long q1)]))
  refine own_by (fun t k => XS.lcmp X0.here hx rfl (hb hby d1_4) rfl k) ?_
  show own_Go _ _ _ _ (s₁.setTop (mkF m 5 #[.val (.long q1), .second] [(.int (lcmpW q1 (256 : Int64)))]))
  by_cases hc5 : q1 < (256 : Int64)
  · refine own_by (fun t k => XS.ifNo X0.here hx rfl (hb hby d1_5) rfl ((if0 _ _).trans (tlt ((lw_lt _ _).mpr hc5)).2.1) k) ?_
    show own_Go _ _ _ _ (s₁.setTop (mkF m 8 #[.val (.long q1), .second] []))
    refine own_by (fun t k => XS.iconst X0.here hx rfl (hb hby d1_8) k) ?_
    show own_Go _ _ _ _ (s₁.setTop (mkF m 9 #[.val (.long q1), .second] [(.int (1 : Int32))]))
    refine own_by (fun t k => XS.goto X0.here hx rfl (pc0 := 9) (pc' := 25) rfl (hb hby d1_9) (by decide) (by decide) k) ?_
    show own_Go _ _ _ _ (s₁.setTop (mkF m 25 #[.val (.long q1), .second] [(.int (1 : Int32))]))
    obtain ⟨fs, hr, hrun, hended, hW, hsame⟩ := X0.leave (v := some (.int (1 : Int32))) (fun h => by rw [Bd.returns] at h; cases h)
    refine ⟨_, _, retOut X0 hx Bd.returns rfl (Or.inl ⟨rfl, Or.inl rfl, _, rfl⟩) (hb hby d1_25) hr, hrun, hended, _, _, rfl, ?_, ⟨_, rfl⟩, hW, hsame.mono (by decide) (by decide)⟩
    show Q1 Z q1 h0 n0 _ s₁.heap _
    rw [e0]
    exact ⟨by simp [own_w, hc5], N0, rfl⟩
  · refine own_by (fun t k => XS.ifYes X0.here hx rfl (pc0 := 5) (pc' := 12) rfl (hb hby d1_5) rfl ((if0 _ _).trans (flt (fun q => hc5 ((lw_lt _ _).mp q))).2.1) (by decide) (by decide) k) ?_
    show own_Go _ _ _ _ (s₁.setTop (mkF m 12 #[.val (.long q1), .second] []))
    refine own_by (fun t k => XS.lloadN X0.here hx rfl (hb hby d1_12) rfl k) ?_
    show own_Go _ _ _ _ (s₁.setTop (mkF m 13 #[.val (.long q1), .second] [(.long q1)]))
    refine own_by (fun t k => X0.ldc2Long hx hown (mvT hZ (hw _ (List.mem_of_getElem? (i := 6) rfl))) (g := (mkF m 13 #[.val (.long q1), .second] [(.long q1)])) rfl (hb hby d1_13) _ k) ?_
    show own_Go _ _ _ _ (s₁.setTop (mkF m 16 #[.val (.long q1), .second] [(.long (65536 : Int64)), (.long q1)]))
    refine own_by (fun t k => XS.lcmp X0.here hx rfl (hb hby d1_16) rfl k) ?_
    show own_Go _ _ _ _ (s₁.setTop (mkF m 17 #[.val (.long q1), .second] [(.int (lcmpW q1 (65536 : Int64)))]))
    by_cases hc17 : q1 < (65536 : Int64)
    · refine own_by (fun t k => XS.ifNo X0.here hx rfl (hb hby d1_17) rfl ((if0 _ _).trans (tlt ((lw_lt _ _).mpr hc17)).2.1) k) ?_
      show own_Go _ _ _ _ (s₁.setTop (mkF m 20 #[.val (.long q1), .second] []))
      refine own_by (fun t k => XS.iconst X0.here hx rfl (hb hby d1_20) k) ?_
      show own_Go _ _ _ _ (s₁.setTop (mkF m 21 #[.val (.long q1), .second] [(.int (2 : Int32))]))
      refine own_by (fun t k => XS.goto X0.here hx rfl (pc0 := 21) (pc' := 25) rfl (hb hby d1_21) (by decide) (by decide) k) ?_
      show own_Go _ _ _ _ (s₁.setTop (mkF m 25 #[.val (.long q1), .second] [(.int (2 : Int32))]))
      obtain ⟨fs, hr, hrun, hended, hW, hsame⟩ := X0.leave (v := some (.int (2 : Int32))) (fun h => by rw [Bd.returns] at h; cases h)
      refine ⟨_, _, retOut X0 hx Bd.returns rfl (Or.inl ⟨rfl, Or.inl rfl, _, rfl⟩) (hb hby d1_25) hr, hrun, hended, _, _, rfl, ?_, ⟨_, rfl⟩, hW, hsame.mono (by decide) (by decide)⟩
      show Q1 Z q1 h0 n0 _ s₁.heap _
      rw [e0]
      exact ⟨by simp [own_w, hc5, hc17], N0, rfl⟩
    · refine own_by (fun t k => XS.ifYes X0.here hx rfl (pc0 := 17) (pc' := 24) rfl (hb hby d1_17) rfl ((if0 _ _).trans (flt (fun q => hc17 ((lw_lt _ _).mp q))).2.1) (by decide) (by decide) k) ?_
      show own_Go _ _ _ _ (s₁.setTop (mkF m 24 #[.val (.long q1), .second] []))
      refine own_by (fun t k => XS.iconst X0.here hx rfl (hb hby d1_24) k) ?_
      show own_Go _ _ _ _ (s₁.setTop (mkF m 25 #[.val (.long q1), .second] [(.int (4 : Int32))]))
      obtain ⟨fs, hr, hrun, hended, hW, hsame⟩ := X0.leave (v := some (.int (4 : Int32))) (fun h => by rw [Bd.returns] at h; cases h)
      refine ⟨_, _, retOut X0 hx Bd.returns rfl (Or.inl ⟨rfl, Or.inl rfl, _, rfl⟩) (hb hby d1_25) hr, hrun, hended, _, _, rfl, ?_, ⟨_, rfl⟩, hW, hsame.mono (by decide) (by decide)⟩
      show Q1 Z q1 h0 n0 _ s₁.heap _
      rw [e0]
      exact ⟨by simp [own_w, hc5, hc17], N0, rfl⟩
theorem pd_0_0 : parseMethodDescriptor "(J)I" = some ⟨[.long], some .int⟩ := by decide +kernel
theorem pn_0 : plainName "com/example/techwood/techwood/ColumnWidthOfPinLaw" = true := by first | (simp [plainName, overriddenIn]; done) | decide +kernel
theorem ef_0 (m : MethodId) (q1 : Int64) (p2 : Int32) : entryFrame m #[(.long q1), (.int p2)] maxLocals = mkF m 0 #[.val (.long q1), .second, .val (.int p2), .unset, .unset, .unset, .unset, .unset, .unset] [] := by first | (simp [entryFrame, mkF, argsToLocals, Value.category, maxLocals]; done) | rfl
def Q0 (Z : State) (q1 : Int64) (p2 : Int32) (h0 : Heap) (n0 : Nat) (v : Option Value) (h : Heap) (L : List Loc) : Prop := v = some (.int (1 : Int32)) ∧ Fr n0 L
abbrev P0 (Z : State) (q1 : Int64) (p2 : Int32) (h0 : Heap) (n0 : Nat) (s : State) : Outcome → State → Prop := fun o U' => ∃ v L, o = .returned v ∧ Q0 Z q1 p2 h0 n0 v U'.heap L ∧ FrameEnd s o U' L room_1.cells room_1.slots
set_option maxRecDepth 65536 in
set_option maxHeartbeats 40000000 in
theorem rm0 (l : Launch) (Z : State) (a0 : Array Value) (hw : ∀ d ∈ tables_1, d.before a0 Z = true) (ws : List Jvm.Cond) (q1 : Int64) (p2 : Int32) (h0 : Heap) (n0 : Nat) (Z0 : n0 ≤ h0.size) :
    MetFree l x (head1 (Jvm.Cond.code x code maxLocals ret :: ws) room_1) (fun a U => a = #[(.long q1), (.int p2)] ∧ Z.Warmed39 U.vm ∧ U.heap = h0) (fun _ _ _ _ _ => True) (fun _ U o U' => ∃ v L, o = .returned v ∧ Q0 Z q1 p2 h0 n0 v U'.heap L ∧ FrameEnd U o U' L room_1.cells room_1.slots) := by
  refine MetFree.of_bodySF (plainFor_of_name pn_0) hisR ?_
  intro p e s m args below meth c s₁ Bd hml0 hP hK
  obtain ⟨rfl, hZ, hh⟩ := hP
  have hx := Bd.exec
  have hby := Bd.bytes
  have hml : c.maxLocals = 9 := hml0
  have hown : s.vm.findClass "com/example/techwood/techwood/ColumnWidthOfPinLaw" = some m.cls := findClass_of_methodNamed Bd.named
  have hnm := (name_of_methodNamed Bd.named Bd.method).1
  have X0 : Stand p l e room_1 s m #[(.long q1), (.int p2)] below meth c s₁ [] 0 0 := Stand.of_body Bd
  have e0 : s₁.heap = h0 := by rw [← hh, Bd.state]; rfl
  have N0 := Fr.nil n0
  show own_Go p.tables e below (P0 Z q1 p2 h0 n0 s) (s₁.setTop (entryFrame m #[(.long q1), (.int p2)] maxLocals))
  refine own_by (T' := s₁.setTop (mkF m 0 #[.val (.long q1), .second, .val (.int p2), .unset, .unset, .unset, .unset, .unset, .unset] [])) (fun t k => castTop (ef_0 m q1 p2) k) ?_
  show own_Go _ _ _ _ (s₁.setTop (mkF m 0 #[.val (.long q1), .second, .val (.int p2), .unset, .unset, .unset, .unset, .unset, .unset] []))
  have JA : ∀ mx : Int64, ¬ (4294967295 : Int64) < mx → own_Go p.tables e below (P0 Z q1 p2 h0 n0 s) (s₁.setTop (mkF m 78 #[.val (.long q1), .second, .val (.int p2), .val (.long mx), .second, .unset, .unset, .unset, .unset] [])) := by
    intro mx hcap
    show own_Go _ _ _ _ (s₁.setTop (mkF m 78 #[.val (.long q1), .second, .val (.int p2), .val (.long mx), .second, .unset, .unset, .unset, .unset] []))
    refine own_by (fun t k => XS.lloadN X0.here hx rfl (hb hby at_78) rfl k) ?_
    show own_Go _ _ _ _ (s₁.setTop (mkF m 79 #[.val (.long q1), .second, .val (.int p2), .val (.long mx), .second, .unset, .unset, .unset, .unset] [(.long mx)]))
    have hw3 : (own_w mx = (1 : Int32) ∧ mx < (256 : Int64)) ∨ (own_w mx = (2 : Int32) ∧ ¬ mx < (256 : Int64) ∧ mx < (65536 : Int64)) ∨ (own_w mx = (4 : Int32) ∧ ¬ mx < (65536 : Int64)) := by
      by_cases u1 : mx < (256 : Int64)
      · exact Or.inl ⟨by simp [own_w, u1], u1⟩
      · by_cases u2 : mx < (65536 : Int64)
        · exact Or.inr (Or.inl ⟨by simp [own_w, u1, u2], u1, u2⟩)
        · exact Or.inr (Or.inr ⟨by simp [own_w, u1, u2], u2⟩)
    show own_Go _ _ _ _ (s₁.setTop (mkF m 79 #[.val (.long q1), .second, .val (.int p2), .val (.long mx), .second, .unset, .unset, .unset, .unset] [(.long mx)]))
    obtain ⟨_, _, ⟨Tc0_1, Lc0_1, kc0_1, nc0_1⟩, -, Xc0_1, ⟨Lcc0_1, hQc0_1, lc0_1, yc0_1, zc0_1⟩, stc0_1⟩ := Jvm.LawKit.callS X0 hx (y := (⟨"com/example/techwood/techwood/Column", "widthOf", "(J)I"⟩ : MethodName)) hown (mvT hZ (hw _ (List.mem_of_getElem? (i := 1) rfl))) (mvT hZ (hw _ (List.mem_of_getElem? (i := 2) rfl))) (mvT hZ (hw _ (List.mem_of_getElem? (i := 3) rfl))) (mvT hZ (hw _ (List.mem_of_getElem? (i := 4) rfl))) (by decide) (backOf (W := 0) (rm1 l Z a0 hw [] mx  h0 n0 Z0 ) hZ (hw _ (List.mem_of_getElem? (i := 4) rfl)) (hw _ (List.mem_of_getElem? (i := 3) rfl)) (by decide) (by decide)) (g := (mkF m 79 #[.val (.long q1), .second, .val (.int p2), .val (.long mx), .second, .unset, .unset, .unset, .unset] [(.long mx)])) rfl (by rw [hml]; rfl) (argsL := [(.long mx)]) (rest := []) (lenOf pd_0_0 rfl) rfl (by show 2 * 0 + _ ≤ _; exact Nat.le_of_eq rfl) (hb hby at_79) (fun _ _ => ⟨rfl, e0, (by decide : 0 + 0 ≤ _), (by decide : 0 + 0 ≤ _)⟩)
    dsimp only [Pt.U, Pt.locs, Pt.cells, Pt.slots] at Xc0_1 lc0_1 yc0_1 zc0_1 stc0_1 hQc0_1
    subst lc0_1 yc0_1 zc0_1
    obtain ⟨rfl, Nc0_1q, ehc0_1⟩ := hQc0_1
    have Nc0_1 := Fr.app N0 Nc0_1q
    refine own_by (fun t k => stc0_1 t k) ?_
    show own_Go _ _ _ _ (Tc0_1.setTop (mkF m 82 #[.val (.long q1), .second, .val (.int p2), .val (.long mx), .second, .unset, .unset, .unset, .unset] [(.int (own_w mx))]))
    rcases hw3 with ⟨ew, u1⟩ | ⟨ew, u1, u2⟩ | ⟨ew, u2⟩
    · rw [ew]
      show own_Go _ _ _ _ (Tc0_1.setTop (mkF m 82 #[.val (.long q1), .second, .val (.int p2), .val (.long mx), .second, .unset, .unset, .unset, .unset] [(.int (1 : Int32))]))
      refine own_by (fun t k => XS.istore Xc0_1.here hx rfl (hb hby at_82) rfl (l' := #[.val (.long q1), .second, .val (.int p2), .val (.long mx), .second, .val (.int (1 : Int32)), .unset, .unset, .unset]) rfl k) ?_
      show own_Go _ _ _ _ (Tc0_1.setTop (mkF m 84 #[.val (.long q1), .second, .val (.int p2), .val (.long mx), .second, .val (.int (1 : Int32)), .unset, .unset, .unset] []))
      refine own_by (fun t k => XS.iload Xc0_1.here hx rfl (hb hby at_84) rfl k) ?_
      show own_Go _ _ _ _ (Tc0_1.setTop (mkF m 86 #[.val (.long q1), .second, .val (.int p2), .val (.long mx), .second, .val (.int (1 : Int32)), .unset, .unset, .unset] [(.int (1 : Int32))]))
      refine own_by (fun t k => XS.iconst Xc0_1.here hx rfl (hb hby at_86) k) ?_
      show own_Go _ _ _ _ (Tc0_1.setTop (mkF m 87 #[.val (.long q1), .second, .val (.int p2), .val (.long mx), .second, .val (.int (1 : Int32)), .unset, .unset, .unset] [(.int (1 : Int32)), (.int (1 : Int32))]))
      refine own_by (fun t k => XS.icmpYes Xc0_1.here hx rfl (pc0 := 87) (pc' := 104) rfl (hb hby at_87) rfl (teq (by decide : (1 : Int32) = (1 : Int32))).1 (by decide) (by decide) k) ?_
      show own_Go _ _ _ _ (Tc0_1.setTop (mkF m 104 #[.val (.long q1), .second, .val (.int p2), .val (.long mx), .second, .val (.int (1 : Int32)), .unset, .unset, .unset] []))
      refine own_by (fun t k => XS.lloadN Xc0_1.here hx rfl (hb hby at_104) rfl k) ?_
      show own_Go _ _ _ _ (Tc0_1.setTop (mkF m 105 #[.val (.long q1), .second, .val (.int p2), .val (.long mx), .second, .val (.int (1 : Int32)), .unset, .unset, .unset] [(.long mx)]))
      refine own_by (fun t k => XS.lconst Xc0_1.here hx rfl (hb hby at_105) k) ?_
      show own_Go _ _ _ _ (Tc0_1.setTop (mkF m 106 #[.val (.long q1), .second, .val (.int p2), .val (.long mx), .second, .val (.int (1 : Int32)), .unset, .unset, .unset] [(.long (1 : Int64)), (.long mx)]))
      refine own_by (fun t k => XS.bipush Xc0_1.here hx rfl (hb hby at_106) k) ?_
      show own_Go _ _ _ _ (Tc0_1.setTop (mkF m 108 #[.val (.long q1), .second, .val (.int p2), .val (.long mx), .second, .val (.int (1 : Int32)), .unset, .unset, .unset] [(.int (8 : Int32)), (.long (1 : Int64)), (.long mx)]))
      refine own_by (fun t k => XS.iload Xc0_1.here hx rfl (hb hby at_108) rfl k) ?_
      show own_Go _ _ _ _ (Tc0_1.setTop (mkF m 110 #[.val (.long q1), .second, .val (.int p2), .val (.long mx), .second, .val (.int (1 : Int32)), .unset, .unset, .unset] [(.int (1 : Int32)), (.int (8 : Int32)), (.long (1 : Int64)), (.long mx)]))
      refine own_by (fun t k => XS.imul Xc0_1.here hx rfl (hb hby at_110) rfl k) ?_
      show own_Go _ _ _ _ (Tc0_1.setTop (mkF m 111 #[.val (.long q1), .second, .val (.int p2), .val (.long mx), .second, .val (.int (1 : Int32)), .unset, .unset, .unset] [(.int ((8 : Int32) * (1 : Int32))), (.long (1 : Int64)), (.long mx)]))
      refine own_by (fun t k => XS.lshl Xc0_1.here hx rfl (hb hby at_111) rfl k) ?_
      show own_Go _ _ _ _ (Tc0_1.setTop (mkF m 112 #[.val (.long q1), .second, .val (.int p2), .val (.long mx), .second, .val (.int (1 : Int32)), .unset, .unset, .unset] [(.long ((1 : Int64) <<< (((8 : Int32) * (1 : Int32)) &&& 0x3f).toInt64)), (.long mx)]))
      refine own_by (fun t k => XS.lcmp Xc0_1.here hx rfl (hb hby at_112) rfl k) ?_
      show own_Go _ _ _ _ (Tc0_1.setTop (mkF m 113 #[.val (.long q1), .second, .val (.int p2), .val (.long mx), .second, .val (.int (1 : Int32)), .unset, .unset, .unset] [(.int (lcmpW mx ((1 : Int64) <<< (((8 : Int32) * (1 : Int32)) &&& 0x3f).toInt64)))]))
      refine own_by (fun t k => XS.ifNo Xc0_1.here hx rfl (hb hby at_113) rfl ((if0 _ _).trans (tlt ((lw_lt _ _).mpr (u1 : mx < ((1 : Int64) <<< (((8 : Int32) * (1 : Int32)) &&& 0x3f).toInt64)))).2.1) k) ?_
      show own_Go _ _ _ _ (Tc0_1.setTop (mkF m 116 #[.val (.long q1), .second, .val (.int p2), .val (.long mx), .second, .val (.int (1 : Int32)), .unset, .unset, .unset] []))
      refine own_by (fun t k => XS.iconst Xc0_1.here hx rfl (hb hby at_116) k) ?_
      show own_Go _ _ _ _ (Tc0_1.setTop (mkF m 117 #[.val (.long q1), .second, .val (.int p2), .val (.long mx), .second, .val (.int (1 : Int32)), .unset, .unset, .unset] [(.int (1 : Int32))]))
      refine own_by (fun t k => XS.goto Xc0_1.here hx rfl (pc0 := 117) (pc' := 121) rfl (hb hby at_117) (by decide) (by decide) k) ?_
      show own_Go _ _ _ _ (Tc0_1.setTop (mkF m 121 #[.val (.long q1), .second, .val (.int p2), .val (.long mx), .second, .val (.int (1 : Int32)), .unset, .unset, .unset] [(.int (1 : Int32))]))
      refine own_by (fun t k => XS.istore Xc0_1.here hx rfl (hb hby at_121) rfl (l' := #[.val (.long q1), .second, .val (.int p2), .val (.long mx), .second, .val (.int (1 : Int32)), .val (.int (1 : Int32)), .unset, .unset]) rfl k) ?_
      show own_Go _ _ _ _ (Tc0_1.setTop (mkF m 123 #[.val (.long q1), .second, .val (.int p2), .val (.long mx), .second, .val (.int (1 : Int32)), .val (.int (1 : Int32)), .unset, .unset] []))
      refine own_by (fun t k => XS.iload Xc0_1.here hx rfl (hb hby at_123) rfl k) ?_
      show own_Go _ _ _ _ (Tc0_1.setTop (mkF m 125 #[.val (.long q1), .second, .val (.int p2), .val (.long mx), .second, .val (.int (1 : Int32)), .val (.int (1 : Int32)), .unset, .unset] [(.int (1 : Int32))]))
      refine own_by (fun t k => XS.iconst Xc0_1.here hx rfl (hb hby at_125) k) ?_
      show own_Go _ _ _ _ (Tc0_1.setTop (mkF m 126 #[.val (.long q1), .second, .val (.int p2), .val (.long mx), .second, .val (.int (1 : Int32)), .val (.int (1 : Int32)), .unset, .unset] [(.int (1 : Int32)), (.int (1 : Int32))]))
      refine own_by (fun t k => XS.icmpYes Xc0_1.here hx rfl (pc0 := 126) (pc' := 140) rfl (hb hby at_126) rfl (teq (by decide : (1 : Int32) = (1 : Int32))).1 (by decide) (by decide) k) ?_
      show own_Go _ _ _ _ (Tc0_1.setTop (mkF m 140 #[.val (.long q1), .second, .val (.int p2), .val (.long mx), .second, .val (.int (1 : Int32)), .val (.int (1 : Int32)), .unset, .unset] []))
      refine own_by (fun t k => XS.iconst Xc0_1.here hx rfl (hb hby at_140) k) ?_
      show own_Go _ _ _ _ (Tc0_1.setTop (mkF m 141 #[.val (.long q1), .second, .val (.int p2), .val (.long mx), .second, .val (.int (1 : Int32)), .val (.int (1 : Int32)), .unset, .unset] [(.int (1 : Int32))]))
      refine own_by (fun t k => XS.goto Xc0_1.here hx rfl (pc0 := 141) (pc' := 145) rfl (hb hby at_141) (by decide) (by decide) k) ?_
      show own_Go _ _ _ _ (Tc0_1.setTop (mkF m 145 #[.val (.long q1), .second, .val (.int p2), .val (.long mx), .second, .val (.int (1 : Int32)), .val (.int (1 : Int32)), .unset, .unset] [(.int (1 : Int32))]))
      refine own_by (fun t k => XS.istore Xc0_1.here hx rfl (hb hby at_145) rfl (l' := #[.val (.long q1), .second, .val (.int p2), .val (.long mx), .second, .val (.int (1 : Int32)), .val (.int (1 : Int32)), .val (.int (1 : Int32)), .unset]) rfl k) ?_
      show own_Go _ _ _ _ (Tc0_1.setTop (mkF m 147 #[.val (.long q1), .second, .val (.int p2), .val (.long mx), .second, .val (.int (1 : Int32)), .val (.int (1 : Int32)), .val (.int (1 : Int32)), .unset] []))
      refine own_by (fun t k => XS.iload Xc0_1.here hx rfl (hb hby at_147) rfl k) ?_
      show own_Go _ _ _ _ (Tc0_1.setTop (mkF m 149 #[.val (.long q1), .second, .val (.int p2), .val (.long mx), .second, .val (.int (1 : Int32)), .val (.int (1 : Int32)), .val (.int (1 : Int32)), .unset] [(.int (1 : Int32))]))
      refine own_by (fun t k => XS.ifNo Xc0_1.here hx rfl (hb hby at_149) rfl ((if0 _ _).trans (feq (by decide : ¬ ((1 : Int32) = (0 : Int32)))).1) k) ?_
      show own_Go _ _ _ _ (Tc0_1.setTop (mkF m 152 #[.val (.long q1), .second, .val (.int p2), .val (.long mx), .second, .val (.int (1 : Int32)), .val (.int (1 : Int32)), .val (.int (1 : Int32)), .unset] []))
      refine own_by (fun t k => XS.iload Xc0_1.here hx rfl (hb hby at_152) rfl k) ?_
      show own_Go _ _ _ _ (Tc0_1.setTop (mkF m 154 #[.val (.long q1), .second, .val (.int p2), .val (.long mx), .second, .val (.int (1 : Int32)), .val (.int (1 : Int32)), .val (.int (1 : Int32)), .unset] [(.int (1 : Int32))]))
      refine own_by (fun t k => XS.ifNo Xc0_1.here hx rfl (hb hby at_154) rfl ((if0 _ _).trans (feq (by decide : ¬ ((1 : Int32) = (0 : Int32)))).1) k) ?_
      show own_Go _ _ _ _ (Tc0_1.setTop (mkF m 157 #[.val (.long q1), .second, .val (.int p2), .val (.long mx), .second, .val (.int (1 : Int32)), .val (.int (1 : Int32)), .val (.int (1 : Int32)), .unset] []))
      refine own_by (fun t k => XS.iconst Xc0_1.here hx rfl (hb hby at_157) k) ?_
      show own_Go _ _ _ _ (Tc0_1.setTop (mkF m 158 #[.val (.long q1), .second, .val (.int p2), .val (.long mx), .second, .val (.int (1 : Int32)), .val (.int (1 : Int32)), .val (.int (1 : Int32)), .unset] [(.int (1 : Int32))]))
      refine own_by (fun t k => XS.goto Xc0_1.here hx rfl (pc0 := 158) (pc' := 162) rfl (hb hby at_158) (by decide) (by decide) k) ?_
      show own_Go _ _ _ _ (Tc0_1.setTop (mkF m 162 #[.val (.long q1), .second, .val (.int p2), .val (.long mx), .second, .val (.int (1 : Int32)), .val (.int (1 : Int32)), .val (.int (1 : Int32)), .unset] [(.int (1 : Int32))]))
      obtain ⟨fs, hr, hrun, hended, hW, hsame⟩ := Xc0_1.leave (v := some (.int (1 : Int32))) (fun h => by rw [Bd.returns] at h; cases h)
      refine ⟨_, _, retN Xc0_1 hx (t := .boolean) Bd.returns (by simp) (hb hby at_162) hr, hrun, hended, _, _, rfl, ?_, ⟨_, rfl⟩, hW, hsame.mono (by decide) (by decide)⟩
      show Q0 Z q1 p2 h0 n0 _ Tc0_1.heap _
      rw [ehc0_1]
      exact ⟨rfl, Nc0_1⟩
    · rw [ew]
      show own_Go _ _ _ _ (Tc0_1.setTop (mkF m 82 #[.val (.long q1), .second, .val (.int p2), .val (.long mx), .second, .unset, .unset, .unset, .unset] [(.int (2 : Int32))]))
      refine own_by (fun t k => XS.istore Xc0_1.here hx rfl (hb hby at_82) rfl (l' := #[.val (.long q1), .second, .val (.int p2), .val (.long mx), .second, .val (.int (2 : Int32)), .unset, .unset, .unset]) rfl k) ?_
      show own_Go _ _ _ _ (Tc0_1.setTop (mkF m 84 #[.val (.long q1), .second, .val (.int p2), .val (.long mx), .second, .val (.int (2 : Int32)), .unset, .unset, .unset] []))
      refine own_by (fun t k => XS.iload Xc0_1.here hx rfl (hb hby at_84) rfl k) ?_
      show own_Go _ _ _ _ (Tc0_1.setTop (mkF m 86 #[.val (.long q1), .second, .val (.int p2), .val (.long mx), .second, .val (.int (2 : Int32)), .unset, .unset, .unset] [(.int (2 : Int32))]))
      refine own_by (fun t k => XS.iconst Xc0_1.here hx rfl (hb hby at_86) k) ?_
      show own_Go _ _ _ _ (Tc0_1.setTop (mkF m 87 #[.val (.long q1), .second, .val (.int p2), .val (.long mx), .second, .val (.int (2 : Int32)), .unset, .unset, .unset] [(.int (1 : Int32)), (.int (2 : Int32))]))
      refine own_by (fun t k => XS.icmpNo Xc0_1.here hx rfl (hb hby at_87) rfl (feq (by decide : ¬ ((2 : Int32) = (1 : Int32)))).1 k) ?_
      show own_Go _ _ _ _ (Tc0_1.setTop (mkF m 90 #[.val (.long q1), .second, .val (.int p2), .val (.long mx), .second, .val (.int (2 : Int32)), .unset, .unset, .unset] []))
      refine own_by (fun t k => XS.iload Xc0_1.here hx rfl (hb hby at_90) rfl k) ?_
      show own_Go _ _ _ _ (Tc0_1.setTop (mkF m 92 #[.val (.long q1), .second, .val (.int p2), .val (.long mx), .second, .val (.int (2 : Int32)), .unset, .unset, .unset] [(.int (2 : Int32))]))
      refine own_by (fun t k => XS.iconst Xc0_1.here hx rfl (hb hby at_92) k) ?_
      show own_Go _ _ _ _ (Tc0_1.setTop (mkF m 93 #[.val (.long q1), .second, .val (.int p2), .val (.long mx), .second, .val (.int (2 : Int32)), .unset, .unset, .unset] [(.int (2 : Int32)), (.int (2 : Int32))]))
      refine own_by (fun t k => XS.icmpYes Xc0_1.here hx rfl (pc0 := 93) (pc' := 104) rfl (hb hby at_93) rfl (teq (by decide : (2 : Int32) = (2 : Int32))).1 (by decide) (by decide) k) ?_
      show own_Go _ _ _ _ (Tc0_1.setTop (mkF m 104 #[.val (.long q1), .second, .val (.int p2), .val (.long mx), .second, .val (.int (2 : Int32)), .unset, .unset, .unset] []))
      refine own_by (fun t k => XS.lloadN Xc0_1.here hx rfl (hb hby at_104) rfl k) ?_
      show own_Go _ _ _ _ (Tc0_1.setTop (mkF m 105 #[.val (.long q1), .second, .val (.int p2), .val (.long mx), .second, .val (.int (2 : Int32)), .unset, .unset, .unset] [(.long mx)]))
      refine own_by (fun t k => XS.lconst Xc0_1.here hx rfl (hb hby at_105) k) ?_
      show own_Go _ _ _ _ (Tc0_1.setTop (mkF m 106 #[.val (.long q1), .second, .val (.int p2), .val (.long mx), .second, .val (.int (2 : Int32)), .unset, .unset, .unset] [(.long (1 : Int64)), (.long mx)]))
      refine own_by (fun t k => XS.bipush Xc0_1.here hx rfl (hb hby at_106) k) ?_
      show own_Go _ _ _ _ (Tc0_1.setTop (mkF m 108 #[.val (.long q1), .second, .val (.int p2), .val (.long mx), .second, .val (.int (2 : Int32)), .unset, .unset, .unset] [(.int (8 : Int32)), (.long (1 : Int64)), (.long mx)]))
      refine own_by (fun t k => XS.iload Xc0_1.here hx rfl (hb hby at_108) rfl k) ?_
      show own_Go _ _ _ _ (Tc0_1.setTop (mkF m 110 #[.val (.long q1), .second, .val (.int p2), .val (.long mx), .second, .val (.int (2 : Int32)), .unset, .unset, .unset] [(.int (2 : Int32)), (.int (8 : Int32)), (.long (1 : Int64)), (.long mx)]))
      refine own_by (fun t k => XS.imul Xc0_1.here hx rfl (hb hby at_110) rfl k) ?_
      show own_Go _ _ _ _ (Tc0_1.setTop (mkF m 111 #[.val (.long q1), .second, .val (.int p2), .val (.long mx), .second, .val (.int (2 : Int32)), .unset, .unset, .unset] [(.int ((8 : Int32) * (2 : Int32))), (.long (1 : Int64)), (.long mx)]))
      refine own_by (fun t k => XS.lshl Xc0_1.here hx rfl (hb hby at_111) rfl k) ?_
      show own_Go _ _ _ _ (Tc0_1.setTop (mkF m 112 #[.val (.long q1), .second, .val (.int p2), .val (.long mx), .second, .val (.int (2 : Int32)), .unset, .unset, .unset] [(.long ((1 : Int64) <<< (((8 : Int32) * (2 : Int32)) &&& 0x3f).toInt64)), (.long mx)]))
      refine own_by (fun t k => XS.lcmp Xc0_1.here hx rfl (hb hby at_112) rfl k) ?_
      show own_Go _ _ _ _ (Tc0_1.setTop (mkF m 113 #[.val (.long q1), .second, .val (.int p2), .val (.long mx), .second, .val (.int (2 : Int32)), .unset, .unset, .unset] [(.int (lcmpW mx ((1 : Int64) <<< (((8 : Int32) * (2 : Int32)) &&& 0x3f).toInt64)))]))
      refine own_by (fun t k => XS.ifNo Xc0_1.here hx rfl (hb hby at_113) rfl ((if0 _ _).trans (tlt ((lw_lt _ _).mpr (u2 : mx < ((1 : Int64) <<< (((8 : Int32) * (2 : Int32)) &&& 0x3f).toInt64)))).2.1) k) ?_
      show own_Go _ _ _ _ (Tc0_1.setTop (mkF m 116 #[.val (.long q1), .second, .val (.int p2), .val (.long mx), .second, .val (.int (2 : Int32)), .unset, .unset, .unset] []))
      refine own_by (fun t k => XS.iconst Xc0_1.here hx rfl (hb hby at_116) k) ?_
      show own_Go _ _ _ _ (Tc0_1.setTop (mkF m 117 #[.val (.long q1), .second, .val (.int p2), .val (.long mx), .second, .val (.int (2 : Int32)), .unset, .unset, .unset] [(.int (1 : Int32))]))
      refine own_by (fun t k => XS.goto Xc0_1.here hx rfl (pc0 := 117) (pc' := 121) rfl (hb hby at_117) (by decide) (by decide) k) ?_
      show own_Go _ _ _ _ (Tc0_1.setTop (mkF m 121 #[.val (.long q1), .second, .val (.int p2), .val (.long mx), .second, .val (.int (2 : Int32)), .unset, .unset, .unset] [(.int (1 : Int32))]))
      refine own_by (fun t k => XS.istore Xc0_1.here hx rfl (hb hby at_121) rfl (l' := #[.val (.long q1), .second, .val (.int p2), .val (.long mx), .second, .val (.int (2 : Int32)), .val (.int (1 : Int32)), .unset, .unset]) rfl k) ?_
      show own_Go _ _ _ _ (Tc0_1.setTop (mkF m 123 #[.val (.long q1), .second, .val (.int p2), .val (.long mx), .second, .val (.int (2 : Int32)), .val (.int (1 : Int32)), .unset, .unset] []))
      refine own_by (fun t k => XS.iload Xc0_1.here hx rfl (hb hby at_123) rfl k) ?_
      show own_Go _ _ _ _ (Tc0_1.setTop (mkF m 125 #[.val (.long q1), .second, .val (.int p2), .val (.long mx), .second, .val (.int (2 : Int32)), .val (.int (1 : Int32)), .unset, .unset] [(.int (2 : Int32))]))
      refine own_by (fun t k => XS.iconst Xc0_1.here hx rfl (hb hby at_125) k) ?_
      show own_Go _ _ _ _ (Tc0_1.setTop (mkF m 126 #[.val (.long q1), .second, .val (.int p2), .val (.long mx), .second, .val (.int (2 : Int32)), .val (.int (1 : Int32)), .unset, .unset] [(.int (1 : Int32)), (.int (2 : Int32))]))
      refine own_by (fun t k => XS.icmpNo Xc0_1.here hx rfl (hb hby at_126) rfl (feq (by decide : ¬ ((2 : Int32) = (1 : Int32)))).1 k) ?_
      show own_Go _ _ _ _ (Tc0_1.setTop (mkF m 129 #[.val (.long q1), .second, .val (.int p2), .val (.long mx), .second, .val (.int (2 : Int32)), .val (.int (1 : Int32)), .unset, .unset] []))
      refine own_by (fun t k => XS.lloadN Xc0_1.here hx rfl (hb hby at_129) rfl k) ?_
      show own_Go _ _ _ _ (Tc0_1.setTop (mkF m 130 #[.val (.long q1), .second, .val (.int p2), .val (.long mx), .second, .val (.int (2 : Int32)), .val (.int (1 : Int32)), .unset, .unset] [(.long mx)]))
      refine own_by (fun t k => XS.lconst Xc0_1.here hx rfl (hb hby at_130) k) ?_
      show own_Go _ _ _ _ (Tc0_1.setTop (mkF m 131 #[.val (.long q1), .second, .val (.int p2), .val (.long mx), .second, .val (.int (2 : Int32)), .val (.int (1 : Int32)), .unset, .unset] [(.long (1 : Int64)), (.long mx)]))
      refine own_by (fun t k => XS.iconst Xc0_1.here hx rfl (hb hby at_131) k) ?_
      show own_Go _ _ _ _ (Tc0_1.setTop (mkF m 132 #[.val (.long q1), .second, .val (.int p2), .val (.long mx), .second, .val (.int (2 : Int32)), .val (.int (1 : Int32)), .unset, .unset] [(.int (4 : Int32)), (.long (1 : Int64)), (.long mx)]))
      refine own_by (fun t k => XS.iload Xc0_1.here hx rfl (hb hby at_132) rfl k) ?_
      show own_Go _ _ _ _ (Tc0_1.setTop (mkF m 134 #[.val (.long q1), .second, .val (.int p2), .val (.long mx), .second, .val (.int (2 : Int32)), .val (.int (1 : Int32)), .unset, .unset] [(.int (2 : Int32)), (.int (4 : Int32)), (.long (1 : Int64)), (.long mx)]))
      refine own_by (fun t k => XS.imul Xc0_1.here hx rfl (hb hby at_134) rfl k) ?_
      show own_Go _ _ _ _ (Tc0_1.setTop (mkF m 135 #[.val (.long q1), .second, .val (.int p2), .val (.long mx), .second, .val (.int (2 : Int32)), .val (.int (1 : Int32)), .unset, .unset] [(.int ((4 : Int32) * (2 : Int32))), (.long (1 : Int64)), (.long mx)]))
      refine own_by (fun t k => XS.lshl Xc0_1.here hx rfl (hb hby at_135) rfl k) ?_
      show own_Go _ _ _ _ (Tc0_1.setTop (mkF m 136 #[.val (.long q1), .second, .val (.int p2), .val (.long mx), .second, .val (.int (2 : Int32)), .val (.int (1 : Int32)), .unset, .unset] [(.long ((1 : Int64) <<< (((4 : Int32) * (2 : Int32)) &&& 0x3f).toInt64)), (.long mx)]))
      refine own_by (fun t k => XS.lcmp Xc0_1.here hx rfl (hb hby at_136) rfl k) ?_
      show own_Go _ _ _ _ (Tc0_1.setTop (mkF m 137 #[.val (.long q1), .second, .val (.int p2), .val (.long mx), .second, .val (.int (2 : Int32)), .val (.int (1 : Int32)), .unset, .unset] [(.int (lcmpW mx ((1 : Int64) <<< (((4 : Int32) * (2 : Int32)) &&& 0x3f).toInt64)))]))
      refine own_by (fun t k => XS.ifNo Xc0_1.here hx rfl (hb hby at_137) rfl ((if0 _ _).trans (flt (fun q => (u1 : ¬ (mx < ((1 : Int64) <<< (((4 : Int32) * (2 : Int32)) &&& 0x3f).toInt64))) ((lw_lt _ _).mp q))).1) k) ?_
      show own_Go _ _ _ _ (Tc0_1.setTop (mkF m 140 #[.val (.long q1), .second, .val (.int p2), .val (.long mx), .second, .val (.int (2 : Int32)), .val (.int (1 : Int32)), .unset, .unset] []))
      refine own_by (fun t k => XS.iconst Xc0_1.here hx rfl (hb hby at_140) k) ?_
      show own_Go _ _ _ _ (Tc0_1.setTop (mkF m 141 #[.val (.long q1), .second, .val (.int p2), .val (.long mx), .second, .val (.int (2 : Int32)), .val (.int (1 : Int32)), .unset, .unset] [(.int (1 : Int32))]))
      refine own_by (fun t k => XS.goto Xc0_1.here hx rfl (pc0 := 141) (pc' := 145) rfl (hb hby at_141) (by decide) (by decide) k) ?_
      show own_Go _ _ _ _ (Tc0_1.setTop (mkF m 145 #[.val (.long q1), .second, .val (.int p2), .val (.long mx), .second, .val (.int (2 : Int32)), .val (.int (1 : Int32)), .unset, .unset] [(.int (1 : Int32))]))
      refine own_by (fun t k => XS.istore Xc0_1.here hx rfl (hb hby at_145) rfl (l' := #[.val (.long q1), .second, .val (.int p2), .val (.long mx), .second, .val (.int (2 : Int32)), .val (.int (1 : Int32)), .val (.int (1 : Int32)), .unset]) rfl k) ?_
      show own_Go _ _ _ _ (Tc0_1.setTop (mkF m 147 #[.val (.long q1), .second, .val (.int p2), .val (.long mx), .second, .val (.int (2 : Int32)), .val (.int (1 : Int32)), .val (.int (1 : Int32)), .unset] []))
      refine own_by (fun t k => XS.iload Xc0_1.here hx rfl (hb hby at_147) rfl k) ?_
      show own_Go _ _ _ _ (Tc0_1.setTop (mkF m 149 #[.val (.long q1), .second, .val (.int p2), .val (.long mx), .second, .val (.int (2 : Int32)), .val (.int (1 : Int32)), .val (.int (1 : Int32)), .unset] [(.int (1 : Int32))]))
      refine own_by (fun t k => XS.ifNo Xc0_1.here hx rfl (hb hby at_149) rfl ((if0 _ _).trans (feq (by decide : ¬ ((1 : Int32) = (0 : Int32)))).1) k) ?_
      show own_Go _ _ _ _ (Tc0_1.setTop (mkF m 152 #[.val (.long q1), .second, .val (.int p2), .val (.long mx), .second, .val (.int (2 : Int32)), .val (.int (1 : Int32)), .val (.int (1 : Int32)), .unset] []))
      refine own_by (fun t k => XS.iload Xc0_1.here hx rfl (hb hby at_152) rfl k) ?_
      show own_Go _ _ _ _ (Tc0_1.setTop (mkF m 154 #[.val (.long q1), .second, .val (.int p2), .val (.long mx), .second, .val (.int (2 : Int32)), .val (.int (1 : Int32)), .val (.int (1 : Int32)), .unset] [(.int (1 : Int32))]))
      refine own_by (fun t k => XS.ifNo Xc0_1.here hx rfl (hb hby at_154) rfl ((if0 _ _).trans (feq (by decide : ¬ ((1 : Int32) = (0 : Int32)))).1) k) ?_
      show own_Go _ _ _ _ (Tc0_1.setTop (mkF m 157 #[.val (.long q1), .second, .val (.int p2), .val (.long mx), .second, .val (.int (2 : Int32)), .val (.int (1 : Int32)), .val (.int (1 : Int32)), .unset] []))
      refine own_by (fun t k => XS.iconst Xc0_1.here hx rfl (hb hby at_157) k) ?_
      show own_Go _ _ _ _ (Tc0_1.setTop (mkF m 158 #[.val (.long q1), .second, .val (.int p2), .val (.long mx), .second, .val (.int (2 : Int32)), .val (.int (1 : Int32)), .val (.int (1 : Int32)), .unset] [(.int (1 : Int32))]))
      refine own_by (fun t k => XS.goto Xc0_1.here hx rfl (pc0 := 158) (pc' := 162) rfl (hb hby at_158) (by decide) (by decide) k) ?_
      show own_Go _ _ _ _ (Tc0_1.setTop (mkF m 162 #[.val (.long q1), .second, .val (.int p2), .val (.long mx), .second, .val (.int (2 : Int32)), .val (.int (1 : Int32)), .val (.int (1 : Int32)), .unset] [(.int (1 : Int32))]))
      obtain ⟨fs, hr, hrun, hended, hW, hsame⟩ := Xc0_1.leave (v := some (.int (1 : Int32))) (fun h => by rw [Bd.returns] at h; cases h)
      refine ⟨_, _, retN Xc0_1 hx (t := .boolean) Bd.returns (by simp) (hb hby at_162) hr, hrun, hended, _, _, rfl, ?_, ⟨_, rfl⟩, hW, hsame.mono (by decide) (by decide)⟩
      show Q0 Z q1 p2 h0 n0 _ Tc0_1.heap _
      rw [ehc0_1]
      exact ⟨rfl, Nc0_1⟩
    · rw [ew]
      show own_Go _ _ _ _ (Tc0_1.setTop (mkF m 82 #[.val (.long q1), .second, .val (.int p2), .val (.long mx), .second, .unset, .unset, .unset, .unset] [(.int (4 : Int32))]))
      refine own_by (fun t k => XS.istore Xc0_1.here hx rfl (hb hby at_82) rfl (l' := #[.val (.long q1), .second, .val (.int p2), .val (.long mx), .second, .val (.int (4 : Int32)), .unset, .unset, .unset]) rfl k) ?_
      show own_Go _ _ _ _ (Tc0_1.setTop (mkF m 84 #[.val (.long q1), .second, .val (.int p2), .val (.long mx), .second, .val (.int (4 : Int32)), .unset, .unset, .unset] []))
      refine own_by (fun t k => XS.iload Xc0_1.here hx rfl (hb hby at_84) rfl k) ?_
      show own_Go _ _ _ _ (Tc0_1.setTop (mkF m 86 #[.val (.long q1), .second, .val (.int p2), .val (.long mx), .second, .val (.int (4 : Int32)), .unset, .unset, .unset] [(.int (4 : Int32))]))
      refine own_by (fun t k => XS.iconst Xc0_1.here hx rfl (hb hby at_86) k) ?_
      show own_Go _ _ _ _ (Tc0_1.setTop (mkF m 87 #[.val (.long q1), .second, .val (.int p2), .val (.long mx), .second, .val (.int (4 : Int32)), .unset, .unset, .unset] [(.int (1 : Int32)), (.int (4 : Int32))]))
      refine own_by (fun t k => XS.icmpNo Xc0_1.here hx rfl (hb hby at_87) rfl (feq (by decide : ¬ ((4 : Int32) = (1 : Int32)))).1 k) ?_
      show own_Go _ _ _ _ (Tc0_1.setTop (mkF m 90 #[.val (.long q1), .second, .val (.int p2), .val (.long mx), .second, .val (.int (4 : Int32)), .unset, .unset, .unset] []))
      refine own_by (fun t k => XS.iload Xc0_1.here hx rfl (hb hby at_90) rfl k) ?_
      show own_Go _ _ _ _ (Tc0_1.setTop (mkF m 92 #[.val (.long q1), .second, .val (.int p2), .val (.long mx), .second, .val (.int (4 : Int32)), .unset, .unset, .unset] [(.int (4 : Int32))]))
      refine own_by (fun t k => XS.iconst Xc0_1.here hx rfl (hb hby at_92) k) ?_
      show own_Go _ _ _ _ (Tc0_1.setTop (mkF m 93 #[.val (.long q1), .second, .val (.int p2), .val (.long mx), .second, .val (.int (4 : Int32)), .unset, .unset, .unset] [(.int (2 : Int32)), (.int (4 : Int32))]))
      refine own_by (fun t k => XS.icmpNo Xc0_1.here hx rfl (hb hby at_93) rfl (feq (by decide : ¬ ((4 : Int32) = (2 : Int32)))).1 k) ?_
      show own_Go _ _ _ _ (Tc0_1.setTop (mkF m 96 #[.val (.long q1), .second, .val (.int p2), .val (.long mx), .second, .val (.int (4 : Int32)), .unset, .unset, .unset] []))
      refine own_by (fun t k => XS.iload Xc0_1.here hx rfl (hb hby at_96) rfl k) ?_
      show own_Go _ _ _ _ (Tc0_1.setTop (mkF m 98 #[.val (.long q1), .second, .val (.int p2), .val (.long mx), .second, .val (.int (4 : Int32)), .unset, .unset, .unset] [(.int (4 : Int32))]))
      refine own_by (fun t k => XS.iconst Xc0_1.here hx rfl (hb hby at_98) k) ?_
      show own_Go _ _ _ _ (Tc0_1.setTop (mkF m 99 #[.val (.long q1), .second, .val (.int p2), .val (.long mx), .second, .val (.int (4 : Int32)), .unset, .unset, .unset] [(.int (4 : Int32)), (.int (4 : Int32))]))
      refine own_by (fun t k => XS.icmpYes Xc0_1.here hx rfl (pc0 := 99) (pc' := 104) rfl (hb hby at_99) rfl (teq (by decide : (4 : Int32) = (4 : Int32))).1 (by decide) (by decide) k) ?_
      show own_Go _ _ _ _ (Tc0_1.setTop (mkF m 104 #[.val (.long q1), .second, .val (.int p2), .val (.long mx), .second, .val (.int (4 : Int32)), .unset, .unset, .unset] []))
      refine own_by (fun t k => XS.lloadN Xc0_1.here hx rfl (hb hby at_104) rfl k) ?_
      show own_Go _ _ _ _ (Tc0_1.setTop (mkF m 105 #[.val (.long q1), .second, .val (.int p2), .val (.long mx), .second, .val (.int (4 : Int32)), .unset, .unset, .unset] [(.long mx)]))
      refine own_by (fun t k => XS.lconst Xc0_1.here hx rfl (hb hby at_105) k) ?_
      show own_Go _ _ _ _ (Tc0_1.setTop (mkF m 106 #[.val (.long q1), .second, .val (.int p2), .val (.long mx), .second, .val (.int (4 : Int32)), .unset, .unset, .unset] [(.long (1 : Int64)), (.long mx)]))
      refine own_by (fun t k => XS.bipush Xc0_1.here hx rfl (hb hby at_106) k) ?_
      show own_Go _ _ _ _ (Tc0_1.setTop (mkF m 108 #[.val (.long q1), .second, .val (.int p2), .val (.long mx), .second, .val (.int (4 : Int32)), .unset, .unset, .unset] [(.int (8 : Int32)), (.long (1 : Int64)), (.long mx)]))
      refine own_by (fun t k => XS.iload Xc0_1.here hx rfl (hb hby at_108) rfl k) ?_
      show own_Go _ _ _ _ (Tc0_1.setTop (mkF m 110 #[.val (.long q1), .second, .val (.int p2), .val (.long mx), .second, .val (.int (4 : Int32)), .unset, .unset, .unset] [(.int (4 : Int32)), (.int (8 : Int32)), (.long (1 : Int64)), (.long mx)]))
      refine own_by (fun t k => XS.imul Xc0_1.here hx rfl (hb hby at_110) rfl k) ?_
      show own_Go _ _ _ _ (Tc0_1.setTop (mkF m 111 #[.val (.long q1), .second, .val (.int p2), .val (.long mx), .second, .val (.int (4 : Int32)), .unset, .unset, .unset] [(.int ((8 : Int32) * (4 : Int32))), (.long (1 : Int64)), (.long mx)]))
      refine own_by (fun t k => XS.lshl Xc0_1.here hx rfl (hb hby at_111) rfl k) ?_
      show own_Go _ _ _ _ (Tc0_1.setTop (mkF m 112 #[.val (.long q1), .second, .val (.int p2), .val (.long mx), .second, .val (.int (4 : Int32)), .unset, .unset, .unset] [(.long ((1 : Int64) <<< (((8 : Int32) * (4 : Int32)) &&& 0x3f).toInt64)), (.long mx)]))
      refine own_by (fun t k => XS.lcmp Xc0_1.here hx rfl (hb hby at_112) rfl k) ?_
      show own_Go _ _ _ _ (Tc0_1.setTop (mkF m 113 #[.val (.long q1), .second, .val (.int p2), .val (.long mx), .second, .val (.int (4 : Int32)), .unset, .unset, .unset] [(.int (lcmpW mx ((1 : Int64) <<< (((8 : Int32) * (4 : Int32)) &&& 0x3f).toInt64)))]))
      refine own_by (fun t k => XS.ifNo Xc0_1.here hx rfl (hb hby at_113) rfl ((if0 _ _).trans (tlt ((lw_lt _ _).mpr (own_fit _ hcap : mx < ((1 : Int64) <<< (((8 : Int32) * (4 : Int32)) &&& 0x3f).toInt64)))).2.1) k) ?_
      show own_Go _ _ _ _ (Tc0_1.setTop (mkF m 116 #[.val (.long q1), .second, .val (.int p2), .val (.long mx), .second, .val (.int (4 : Int32)), .unset, .unset, .unset] []))
      refine own_by (fun t k => XS.iconst Xc0_1.here hx rfl (hb hby at_116) k) ?_
      show own_Go _ _ _ _ (Tc0_1.setTop (mkF m 117 #[.val (.long q1), .second, .val (.int p2), .val (.long mx), .second, .val (.int (4 : Int32)), .unset, .unset, .unset] [(.int (1 : Int32))]))
      refine own_by (fun t k => XS.goto Xc0_1.here hx rfl (pc0 := 117) (pc' := 121) rfl (hb hby at_117) (by decide) (by decide) k) ?_
      show own_Go _ _ _ _ (Tc0_1.setTop (mkF m 121 #[.val (.long q1), .second, .val (.int p2), .val (.long mx), .second, .val (.int (4 : Int32)), .unset, .unset, .unset] [(.int (1 : Int32))]))
      refine own_by (fun t k => XS.istore Xc0_1.here hx rfl (hb hby at_121) rfl (l' := #[.val (.long q1), .second, .val (.int p2), .val (.long mx), .second, .val (.int (4 : Int32)), .val (.int (1 : Int32)), .unset, .unset]) rfl k) ?_
      show own_Go _ _ _ _ (Tc0_1.setTop (mkF m 123 #[.val (.long q1), .second, .val (.int p2), .val (.long mx), .second, .val (.int (4 : Int32)), .val (.int (1 : Int32)), .unset, .unset] []))
      refine own_by (fun t k => XS.iload Xc0_1.here hx rfl (hb hby at_123) rfl k) ?_
      show own_Go _ _ _ _ (Tc0_1.setTop (mkF m 125 #[.val (.long q1), .second, .val (.int p2), .val (.long mx), .second, .val (.int (4 : Int32)), .val (.int (1 : Int32)), .unset, .unset] [(.int (4 : Int32))]))
      refine own_by (fun t k => XS.iconst Xc0_1.here hx rfl (hb hby at_125) k) ?_
      show own_Go _ _ _ _ (Tc0_1.setTop (mkF m 126 #[.val (.long q1), .second, .val (.int p2), .val (.long mx), .second, .val (.int (4 : Int32)), .val (.int (1 : Int32)), .unset, .unset] [(.int (1 : Int32)), (.int (4 : Int32))]))
      refine own_by (fun t k => XS.icmpNo Xc0_1.here hx rfl (hb hby at_126) rfl (feq (by decide : ¬ ((4 : Int32) = (1 : Int32)))).1 k) ?_
      show own_Go _ _ _ _ (Tc0_1.setTop (mkF m 129 #[.val (.long q1), .second, .val (.int p2), .val (.long mx), .second, .val (.int (4 : Int32)), .val (.int (1 : Int32)), .unset, .unset] []))
      refine own_by (fun t k => XS.lloadN Xc0_1.here hx rfl (hb hby at_129) rfl k) ?_
      show own_Go _ _ _ _ (Tc0_1.setTop (mkF m 130 #[.val (.long q1), .second, .val (.int p2), .val (.long mx), .second, .val (.int (4 : Int32)), .val (.int (1 : Int32)), .unset, .unset] [(.long mx)]))
      refine own_by (fun t k => XS.lconst Xc0_1.here hx rfl (hb hby at_130) k) ?_
      show own_Go _ _ _ _ (Tc0_1.setTop (mkF m 131 #[.val (.long q1), .second, .val (.int p2), .val (.long mx), .second, .val (.int (4 : Int32)), .val (.int (1 : Int32)), .unset, .unset] [(.long (1 : Int64)), (.long mx)]))
      refine own_by (fun t k => XS.iconst Xc0_1.here hx rfl (hb hby at_131) k) ?_
      show own_Go _ _ _ _ (Tc0_1.setTop (mkF m 132 #[.val (.long q1), .second, .val (.int p2), .val (.long mx), .second, .val (.int (4 : Int32)), .val (.int (1 : Int32)), .unset, .unset] [(.int (4 : Int32)), (.long (1 : Int64)), (.long mx)]))
      refine own_by (fun t k => XS.iload Xc0_1.here hx rfl (hb hby at_132) rfl k) ?_
      show own_Go _ _ _ _ (Tc0_1.setTop (mkF m 134 #[.val (.long q1), .second, .val (.int p2), .val (.long mx), .second, .val (.int (4 : Int32)), .val (.int (1 : Int32)), .unset, .unset] [(.int (4 : Int32)), (.int (4 : Int32)), (.long (1 : Int64)), (.long mx)]))
      refine own_by (fun t k => XS.imul Xc0_1.here hx rfl (hb hby at_134) rfl k) ?_
      show own_Go _ _ _ _ (Tc0_1.setTop (mkF m 135 #[.val (.long q1), .second, .val (.int p2), .val (.long mx), .second, .val (.int (4 : Int32)), .val (.int (1 : Int32)), .unset, .unset] [(.int ((4 : Int32) * (4 : Int32))), (.long (1 : Int64)), (.long mx)]))
      refine own_by (fun t k => XS.lshl Xc0_1.here hx rfl (hb hby at_135) rfl k) ?_
      show own_Go _ _ _ _ (Tc0_1.setTop (mkF m 136 #[.val (.long q1), .second, .val (.int p2), .val (.long mx), .second, .val (.int (4 : Int32)), .val (.int (1 : Int32)), .unset, .unset] [(.long ((1 : Int64) <<< (((4 : Int32) * (4 : Int32)) &&& 0x3f).toInt64)), (.long mx)]))
      refine own_by (fun t k => XS.lcmp Xc0_1.here hx rfl (hb hby at_136) rfl k) ?_
      show own_Go _ _ _ _ (Tc0_1.setTop (mkF m 137 #[.val (.long q1), .second, .val (.int p2), .val (.long mx), .second, .val (.int (4 : Int32)), .val (.int (1 : Int32)), .unset, .unset] [(.int (lcmpW mx ((1 : Int64) <<< (((4 : Int32) * (4 : Int32)) &&& 0x3f).toInt64)))]))
      refine own_by (fun t k => XS.ifNo Xc0_1.here hx rfl (hb hby at_137) rfl ((if0 _ _).trans (flt (fun q => (u2 : ¬ (mx < ((1 : Int64) <<< (((4 : Int32) * (4 : Int32)) &&& 0x3f).toInt64))) ((lw_lt _ _).mp q))).1) k) ?_
      show own_Go _ _ _ _ (Tc0_1.setTop (mkF m 140 #[.val (.long q1), .second, .val (.int p2), .val (.long mx), .second, .val (.int (4 : Int32)), .val (.int (1 : Int32)), .unset, .unset] []))
      refine own_by (fun t k => XS.iconst Xc0_1.here hx rfl (hb hby at_140) k) ?_
      show own_Go _ _ _ _ (Tc0_1.setTop (mkF m 141 #[.val (.long q1), .second, .val (.int p2), .val (.long mx), .second, .val (.int (4 : Int32)), .val (.int (1 : Int32)), .unset, .unset] [(.int (1 : Int32))]))
      refine own_by (fun t k => XS.goto Xc0_1.here hx rfl (pc0 := 141) (pc' := 145) rfl (hb hby at_141) (by decide) (by decide) k) ?_
      show own_Go _ _ _ _ (Tc0_1.setTop (mkF m 145 #[.val (.long q1), .second, .val (.int p2), .val (.long mx), .second, .val (.int (4 : Int32)), .val (.int (1 : Int32)), .unset, .unset] [(.int (1 : Int32))]))
      refine own_by (fun t k => XS.istore Xc0_1.here hx rfl (hb hby at_145) rfl (l' := #[.val (.long q1), .second, .val (.int p2), .val (.long mx), .second, .val (.int (4 : Int32)), .val (.int (1 : Int32)), .val (.int (1 : Int32)), .unset]) rfl k) ?_
      show own_Go _ _ _ _ (Tc0_1.setTop (mkF m 147 #[.val (.long q1), .second, .val (.int p2), .val (.long mx), .second, .val (.int (4 : Int32)), .val (.int (1 : Int32)), .val (.int (1 : Int32)), .unset] []))
      refine own_by (fun t k => XS.iload Xc0_1.here hx rfl (hb hby at_147) rfl k) ?_
      show own_Go _ _ _ _ (Tc0_1.setTop (mkF m 149 #[.val (.long q1), .second, .val (.int p2), .val (.long mx), .second, .val (.int (4 : Int32)), .val (.int (1 : Int32)), .val (.int (1 : Int32)), .unset] [(.int (1 : Int32))]))
      refine own_by (fun t k => XS.ifNo Xc0_1.here hx rfl (hb hby at_149) rfl ((if0 _ _).trans (feq (by decide : ¬ ((1 : Int32) = (0 : Int32)))).1) k) ?_
      show own_Go _ _ _ _ (Tc0_1.setTop (mkF m 152 #[.val (.long q1), .second, .val (.int p2), .val (.long mx), .second, .val (.int (4 : Int32)), .val (.int (1 : Int32)), .val (.int (1 : Int32)), .unset] []))
      refine own_by (fun t k => XS.iload Xc0_1.here hx rfl (hb hby at_152) rfl k) ?_
      show own_Go _ _ _ _ (Tc0_1.setTop (mkF m 154 #[.val (.long q1), .second, .val (.int p2), .val (.long mx), .second, .val (.int (4 : Int32)), .val (.int (1 : Int32)), .val (.int (1 : Int32)), .unset] [(.int (1 : Int32))]))
      refine own_by (fun t k => XS.ifNo Xc0_1.here hx rfl (hb hby at_154) rfl ((if0 _ _).trans (feq (by decide : ¬ ((1 : Int32) = (0 : Int32)))).1) k) ?_
      show own_Go _ _ _ _ (Tc0_1.setTop (mkF m 157 #[.val (.long q1), .second, .val (.int p2), .val (.long mx), .second, .val (.int (4 : Int32)), .val (.int (1 : Int32)), .val (.int (1 : Int32)), .unset] []))
      refine own_by (fun t k => XS.iconst Xc0_1.here hx rfl (hb hby at_157) k) ?_
      show own_Go _ _ _ _ (Tc0_1.setTop (mkF m 158 #[.val (.long q1), .second, .val (.int p2), .val (.long mx), .second, .val (.int (4 : Int32)), .val (.int (1 : Int32)), .val (.int (1 : Int32)), .unset] [(.int (1 : Int32))]))
      refine own_by (fun t k => XS.goto Xc0_1.here hx rfl (pc0 := 158) (pc' := 162) rfl (hb hby at_158) (by decide) (by decide) k) ?_
      show own_Go _ _ _ _ (Tc0_1.setTop (mkF m 162 #[.val (.long q1), .second, .val (.int p2), .val (.long mx), .second, .val (.int (4 : Int32)), .val (.int (1 : Int32)), .val (.int (1 : Int32)), .unset] [(.int (1 : Int32))]))
      obtain ⟨fs, hr, hrun, hended, hW, hsame⟩ := Xc0_1.leave (v := some (.int (1 : Int32))) (fun h => by rw [Bd.returns] at h; cases h)
      refine ⟨_, _, retN Xc0_1 hx (t := .boolean) Bd.returns (by simp) (hb hby at_162) hr, hrun, hended, _, _, rfl, ?_, ⟨_, rfl⟩, hW, hsame.mono (by decide) (by decide)⟩
      show Q0 Z q1 p2 h0 n0 _ Tc0_1.heap _
      rw [ehc0_1]
      exact ⟨rfl, Nc0_1⟩
  have JB : ∀ (mx : Int64) (i5 i6 : Int32) (j7 : Int64), ¬ (4294967295 : Int64) < mx → own_Go p.tables e below (P0 Z q1 p2 h0 n0 s) (s₁.setTop (mkF m 78 #[.val (.long q1), .second, .val (.int p2), .val (.long mx), .second, .val (.int i5), .val (.int i6), .val (.long j7), .second] [])) := by
    intro mx i5 i6 j7 hcap
    show own_Go _ _ _ _ (s₁.setTop (mkF m 78 #[.val (.long q1), .second, .val (.int p2), .val (.long mx), .second, .val (.int i5), .val (.int i6), .val (.long j7), .second] []))
    refine own_by (fun t k => XS.lloadN X0.here hx rfl (hb hby at_78) rfl k) ?_
    show own_Go _ _ _ _ (s₁.setTop (mkF m 79 #[.val (.long q1), .second, .val (.int p2), .val (.long mx), .second, .val (.int i5), .val (.int i6), .val (.long j7), .second] [(.long mx)]))
    have hw3 : (own_w mx = (1 : Int32) ∧ mx < (256 : Int64)) ∨ (own_w mx = (2 : Int32) ∧ ¬ mx < (256 : Int64) ∧ mx < (65536 : Int64)) ∨ (own_w mx = (4 : Int32) ∧ ¬ mx < (65536 : Int64)) := by
      by_cases u1 : mx < (256 : Int64)
      · exact Or.inl ⟨by simp [own_w, u1], u1⟩
      · by_cases u2 : mx < (65536 : Int64)
        · exact Or.inr (Or.inl ⟨by simp [own_w, u1, u2], u1, u2⟩)
        · exact Or.inr (Or.inr ⟨by simp [own_w, u1, u2], u2⟩)
    show own_Go _ _ _ _ (s₁.setTop (mkF m 79 #[.val (.long q1), .second, .val (.int p2), .val (.long mx), .second, .val (.int i5), .val (.int i6), .val (.long j7), .second] [(.long mx)]))
    obtain ⟨_, _, ⟨Tc0_2, Lc0_2, kc0_2, nc0_2⟩, -, Xc0_2, ⟨Lcc0_2, hQc0_2, lc0_2, yc0_2, zc0_2⟩, stc0_2⟩ := Jvm.LawKit.callS X0 hx (y := (⟨"com/example/techwood/techwood/Column", "widthOf", "(J)I"⟩ : MethodName)) hown (mvT hZ (hw _ (List.mem_of_getElem? (i := 1) rfl))) (mvT hZ (hw _ (List.mem_of_getElem? (i := 2) rfl))) (mvT hZ (hw _ (List.mem_of_getElem? (i := 3) rfl))) (mvT hZ (hw _ (List.mem_of_getElem? (i := 4) rfl))) (by decide) (backOf (W := 0) (rm1 l Z a0 hw [] mx  h0 n0 Z0 ) hZ (hw _ (List.mem_of_getElem? (i := 4) rfl)) (hw _ (List.mem_of_getElem? (i := 3) rfl)) (by decide) (by decide)) (g := (mkF m 79 #[.val (.long q1), .second, .val (.int p2), .val (.long mx), .second, .val (.int i5), .val (.int i6), .val (.long j7), .second] [(.long mx)])) rfl (by rw [hml]; rfl) (argsL := [(.long mx)]) (rest := []) (lenOf pd_0_0 rfl) rfl (by show 2 * 0 + _ ≤ _; exact Nat.le_of_eq rfl) (hb hby at_79) (fun _ _ => ⟨rfl, e0, (by decide : 0 + 0 ≤ _), (by decide : 0 + 0 ≤ _)⟩)
    dsimp only [Pt.U, Pt.locs, Pt.cells, Pt.slots] at Xc0_2 lc0_2 yc0_2 zc0_2 stc0_2 hQc0_2
    subst lc0_2 yc0_2 zc0_2
    obtain ⟨rfl, Nc0_2q, ehc0_2⟩ := hQc0_2
    have Nc0_2 := Fr.app N0 Nc0_2q
    refine own_by (fun t k => stc0_2 t k) ?_
    show own_Go _ _ _ _ (Tc0_2.setTop (mkF m 82 #[.val (.long q1), .second, .val (.int p2), .val (.long mx), .second, .val (.int i5), .val (.int i6), .val (.long j7), .second] [(.int (own_w mx))]))
    rcases hw3 with ⟨ew, u1⟩ | ⟨ew, u1, u2⟩ | ⟨ew, u2⟩
    · rw [ew]
      show own_Go _ _ _ _ (Tc0_2.setTop (mkF m 82 #[.val (.long q1), .second, .val (.int p2), .val (.long mx), .second, .val (.int i5), .val (.int i6), .val (.long j7), .second] [(.int (1 : Int32))]))
      refine own_by (fun t k => XS.istore Xc0_2.here hx rfl (hb hby at_82) rfl (l' := #[.val (.long q1), .second, .val (.int p2), .val (.long mx), .second, .val (.int (1 : Int32)), .val (.int i6), .val (.long j7), .second]) rfl k) ?_
      show own_Go _ _ _ _ (Tc0_2.setTop (mkF m 84 #[.val (.long q1), .second, .val (.int p2), .val (.long mx), .second, .val (.int (1 : Int32)), .val (.int i6), .val (.long j7), .second] []))
      refine own_by (fun t k => XS.iload Xc0_2.here hx rfl (hb hby at_84) rfl k) ?_
      show own_Go _ _ _ _ (Tc0_2.setTop (mkF m 86 #[.val (.long q1), .second, .val (.int p2), .val (.long mx), .second, .val (.int (1 : Int32)), .val (.int i6), .val (.long j7), .second] [(.int (1 : Int32))]))
      refine own_by (fun t k => XS.iconst Xc0_2.here hx rfl (hb hby at_86) k) ?_
      show own_Go _ _ _ _ (Tc0_2.setTop (mkF m 87 #[.val (.long q1), .second, .val (.int p2), .val (.long mx), .second, .val (.int (1 : Int32)), .val (.int i6), .val (.long j7), .second] [(.int (1 : Int32)), (.int (1 : Int32))]))
      refine own_by (fun t k => XS.icmpYes Xc0_2.here hx rfl (pc0 := 87) (pc' := 104) rfl (hb hby at_87) rfl (teq (by decide : (1 : Int32) = (1 : Int32))).1 (by decide) (by decide) k) ?_
      show own_Go _ _ _ _ (Tc0_2.setTop (mkF m 104 #[.val (.long q1), .second, .val (.int p2), .val (.long mx), .second, .val (.int (1 : Int32)), .val (.int i6), .val (.long j7), .second] []))
      refine own_by (fun t k => XS.lloadN Xc0_2.here hx rfl (hb hby at_104) rfl k) ?_
      show own_Go _ _ _ _ (Tc0_2.setTop (mkF m 105 #[.val (.long q1), .second, .val (.int p2), .val (.long mx), .second, .val (.int (1 : Int32)), .val (.int i6), .val (.long j7), .second] [(.long mx)]))
      refine own_by (fun t k => XS.lconst Xc0_2.here hx rfl (hb hby at_105) k) ?_
      show own_Go _ _ _ _ (Tc0_2.setTop (mkF m 106 #[.val (.long q1), .second, .val (.int p2), .val (.long mx), .second, .val (.int (1 : Int32)), .val (.int i6), .val (.long j7), .second] [(.long (1 : Int64)), (.long mx)]))
      refine own_by (fun t k => XS.bipush Xc0_2.here hx rfl (hb hby at_106) k) ?_
      show own_Go _ _ _ _ (Tc0_2.setTop (mkF m 108 #[.val (.long q1), .second, .val (.int p2), .val (.long mx), .second, .val (.int (1 : Int32)), .val (.int i6), .val (.long j7), .second] [(.int (8 : Int32)), (.long (1 : Int64)), (.long mx)]))
      refine own_by (fun t k => XS.iload Xc0_2.here hx rfl (hb hby at_108) rfl k) ?_
      show own_Go _ _ _ _ (Tc0_2.setTop (mkF m 110 #[.val (.long q1), .second, .val (.int p2), .val (.long mx), .second, .val (.int (1 : Int32)), .val (.int i6), .val (.long j7), .second] [(.int (1 : Int32)), (.int (8 : Int32)), (.long (1 : Int64)), (.long mx)]))
      refine own_by (fun t k => XS.imul Xc0_2.here hx rfl (hb hby at_110) rfl k) ?_
      show own_Go _ _ _ _ (Tc0_2.setTop (mkF m 111 #[.val (.long q1), .second, .val (.int p2), .val (.long mx), .second, .val (.int (1 : Int32)), .val (.int i6), .val (.long j7), .second] [(.int ((8 : Int32) * (1 : Int32))), (.long (1 : Int64)), (.long mx)]))
      refine own_by (fun t k => XS.lshl Xc0_2.here hx rfl (hb hby at_111) rfl k) ?_
      show own_Go _ _ _ _ (Tc0_2.setTop (mkF m 112 #[.val (.long q1), .second, .val (.int p2), .val (.long mx), .second, .val (.int (1 : Int32)), .val (.int i6), .val (.long j7), .second] [(.long ((1 : Int64) <<< (((8 : Int32) * (1 : Int32)) &&& 0x3f).toInt64)), (.long mx)]))
      refine own_by (fun t k => XS.lcmp Xc0_2.here hx rfl (hb hby at_112) rfl k) ?_
      show own_Go _ _ _ _ (Tc0_2.setTop (mkF m 113 #[.val (.long q1), .second, .val (.int p2), .val (.long mx), .second, .val (.int (1 : Int32)), .val (.int i6), .val (.long j7), .second] [(.int (lcmpW mx ((1 : Int64) <<< (((8 : Int32) * (1 : Int32)) &&& 0x3f).toInt64)))]))
      refine own_by (fun t k => XS.ifNo Xc0_2.here hx rfl (hb hby at_113) rfl ((if0 _ _).trans (tlt ((lw_lt _ _).mpr (u1 : mx < ((1 : Int64) <<< (((8 : Int32) * (1 : Int32)) &&& 0x3f).toInt64)))).2.1) k) ?_
      show own_Go _ _ _ _ (Tc0_2.setTop (mkF m 116 #[.val (.long q1), .second, .val (.int p2), .val (.long mx), .second, .val (.int (1 : Int32)), .val (.int i6), .val (.long j7), .second] []))
      refine own_by (fun t k => XS.iconst Xc0_2.here hx rfl (hb hby at_116) k) ?_
      show own_Go _ _ _ _ (Tc0_2.setTop (mkF m 117 #[.val (.long q1), .second, .val (.int p2), .val (.long mx), .second, .val (.int (1 : Int32)), .val (.int i6), .val (.long j7), .second] [(.int (1 : Int32))]))
      refine own_by (fun t k => XS.goto Xc0_2.here hx rfl (pc0 := 117) (pc' := 121) rfl (hb hby at_117) (by decide) (by decide) k) ?_
      show own_Go _ _ _ _ (Tc0_2.setTop (mkF m 121 #[.val (.long q1), .second, .val (.int p2), .val (.long mx), .second, .val (.int (1 : Int32)), .val (.int i6), .val (.long j7), .second] [(.int (1 : Int32))]))
      refine own_by (fun t k => XS.istore Xc0_2.here hx rfl (hb hby at_121) rfl (l' := #[.val (.long q1), .second, .val (.int p2), .val (.long mx), .second, .val (.int (1 : Int32)), .val (.int (1 : Int32)), .val (.long j7), .second]) rfl k) ?_
      show own_Go _ _ _ _ (Tc0_2.setTop (mkF m 123 #[.val (.long q1), .second, .val (.int p2), .val (.long mx), .second, .val (.int (1 : Int32)), .val (.int (1 : Int32)), .val (.long j7), .second] []))
      refine own_by (fun t k => XS.iload Xc0_2.here hx rfl (hb hby at_123) rfl k) ?_
      show own_Go _ _ _ _ (Tc0_2.setTop (mkF m 125 #[.val (.long q1), .second, .val (.int p2), .val (.long mx), .second, .val (.int (1 : Int32)), .val (.int (1 : Int32)), .val (.long j7), .second] [(.int (1 : Int32))]))
      refine own_by (fun t k => XS.iconst Xc0_2.here hx rfl (hb hby at_125) k) ?_
      show own_Go _ _ _ _ (Tc0_2.setTop (mkF m 126 #[.val (.long q1), .second, .val (.int p2), .val (.long mx), .second, .val (.int (1 : Int32)), .val (.int (1 : Int32)), .val (.long j7), .second] [(.int (1 : Int32)), (.int (1 : Int32))]))
      refine own_by (fun t k => XS.icmpYes Xc0_2.here hx rfl (pc0 := 126) (pc' := 140) rfl (hb hby at_126) rfl (teq (by decide : (1 : Int32) = (1 : Int32))).1 (by decide) (by decide) k) ?_
      show own_Go _ _ _ _ (Tc0_2.setTop (mkF m 140 #[.val (.long q1), .second, .val (.int p2), .val (.long mx), .second, .val (.int (1 : Int32)), .val (.int (1 : Int32)), .val (.long j7), .second] []))
      refine own_by (fun t k => XS.iconst Xc0_2.here hx rfl (hb hby at_140) k) ?_
      show own_Go _ _ _ _ (Tc0_2.setTop (mkF m 141 #[.val (.long q1), .second, .val (.int p2), .val (.long mx), .second, .val (.int (1 : Int32)), .val (.int (1 : Int32)), .val (.long j7), .second] [(.int (1 : Int32))]))
      refine own_by (fun t k => XS.goto Xc0_2.here hx rfl (pc0 := 141) (pc' := 145) rfl (hb hby at_141) (by decide) (by decide) k) ?_
      show own_Go _ _ _ _ (Tc0_2.setTop (mkF m 145 #[.val (.long q1), .second, .val (.int p2), .val (.long mx), .second, .val (.int (1 : Int32)), .val (.int (1 : Int32)), .val (.long j7), .second] [(.int (1 : Int32))]))
      refine own_by (fun t k => XS.istore Xc0_2.here hx rfl (hb hby at_145) rfl (l' := #[.val (.long q1), .second, .val (.int p2), .val (.long mx), .second, .val (.int (1 : Int32)), .val (.int (1 : Int32)), .val (.int (1 : Int32)), .unset]) rfl k) ?_
      show own_Go _ _ _ _ (Tc0_2.setTop (mkF m 147 #[.val (.long q1), .second, .val (.int p2), .val (.long mx), .second, .val (.int (1 : Int32)), .val (.int (1 : Int32)), .val (.int (1 : Int32)), .unset] []))
      refine own_by (fun t k => XS.iload Xc0_2.here hx rfl (hb hby at_147) rfl k) ?_
      show own_Go _ _ _ _ (Tc0_2.setTop (mkF m 149 #[.val (.long q1), .second, .val (.int p2), .val (.long mx), .second, .val (.int (1 : Int32)), .val (.int (1 : Int32)), .val (.int (1 : Int32)), .unset] [(.int (1 : Int32))]))
      refine own_by (fun t k => XS.ifNo Xc0_2.here hx rfl (hb hby at_149) rfl ((if0 _ _).trans (feq (by decide : ¬ ((1 : Int32) = (0 : Int32)))).1) k) ?_
      show own_Go _ _ _ _ (Tc0_2.setTop (mkF m 152 #[.val (.long q1), .second, .val (.int p2), .val (.long mx), .second, .val (.int (1 : Int32)), .val (.int (1 : Int32)), .val (.int (1 : Int32)), .unset] []))
      refine own_by (fun t k => XS.iload Xc0_2.here hx rfl (hb hby at_152) rfl k) ?_
      show own_Go _ _ _ _ (Tc0_2.setTop (mkF m 154 #[.val (.long q1), .second, .val (.int p2), .val (.long mx), .second, .val (.int (1 : Int32)), .val (.int (1 : Int32)), .val (.int (1 : Int32)), .unset] [(.int (1 : Int32))]))
      refine own_by (fun t k => XS.ifNo Xc0_2.here hx rfl (hb hby at_154) rfl ((if0 _ _).trans (feq (by decide : ¬ ((1 : Int32) = (0 : Int32)))).1) k) ?_
      show own_Go _ _ _ _ (Tc0_2.setTop (mkF m 157 #[.val (.long q1), .second, .val (.int p2), .val (.long mx), .second, .val (.int (1 : Int32)), .val (.int (1 : Int32)), .val (.int (1 : Int32)), .unset] []))
      refine own_by (fun t k => XS.iconst Xc0_2.here hx rfl (hb hby at_157) k) ?_
      show own_Go _ _ _ _ (Tc0_2.setTop (mkF m 158 #[.val (.long q1), .second, .val (.int p2), .val (.long mx), .second, .val (.int (1 : Int32)), .val (.int (1 : Int32)), .val (.int (1 : Int32)), .unset] [(.int (1 : Int32))]))
      refine own_by (fun t k => XS.goto Xc0_2.here hx rfl (pc0 := 158) (pc' := 162) rfl (hb hby at_158) (by decide) (by decide) k) ?_
      show own_Go _ _ _ _ (Tc0_2.setTop (mkF m 162 #[.val (.long q1), .second, .val (.int p2), .val (.long mx), .second, .val (.int (1 : Int32)), .val (.int (1 : Int32)), .val (.int (1 : Int32)), .unset] [(.int (1 : Int32))]))
      obtain ⟨fs, hr, hrun, hended, hW, hsame⟩ := Xc0_2.leave (v := some (.int (1 : Int32))) (fun h => by rw [Bd.returns] at h; cases h)
      refine ⟨_, _, retN Xc0_2 hx (t := .boolean) Bd.returns (by simp) (hb hby at_162) hr, hrun, hended, _, _, rfl, ?_, ⟨_, rfl⟩, hW, hsame.mono (by decide) (by decide)⟩
      show Q0 Z q1 p2 h0 n0 _ Tc0_2.heap _
      rw [ehc0_2]
      exact ⟨rfl, Nc0_2⟩
    · rw [ew]
      show own_Go _ _ _ _ (Tc0_2.setTop (mkF m 82 #[.val (.long q1), .second, .val (.int p2), .val (.long mx), .second, .val (.int i5), .val (.int i6), .val (.long j7), .second] [(.int (2 : Int32))]))
      refine own_by (fun t k => XS.istore Xc0_2.here hx rfl (hb hby at_82) rfl (l' := #[.val (.long q1), .second, .val (.int p2), .val (.long mx), .second, .val (.int (2 : Int32)), .val (.int i6), .val (.long j7), .second]) rfl k) ?_
      show own_Go _ _ _ _ (Tc0_2.setTop (mkF m 84 #[.val (.long q1), .second, .val (.int p2), .val (.long mx), .second, .val (.int (2 : Int32)), .val (.int i6), .val (.long j7), .second] []))
      refine own_by (fun t k => XS.iload Xc0_2.here hx rfl (hb hby at_84) rfl k) ?_
      show own_Go _ _ _ _ (Tc0_2.setTop (mkF m 86 #[.val (.long q1), .second, .val (.int p2), .val (.long mx), .second, .val (.int (2 : Int32)), .val (.int i6), .val (.long j7), .second] [(.int (2 : Int32))]))
      refine own_by (fun t k => XS.iconst Xc0_2.here hx rfl (hb hby at_86) k) ?_
      show own_Go _ _ _ _ (Tc0_2.setTop (mkF m 87 #[.val (.long q1), .second, .val (.int p2), .val (.long mx), .second, .val (.int (2 : Int32)), .val (.int i6), .val (.long j7), .second] [(.int (1 : Int32)), (.int (2 : Int32))]))
      refine own_by (fun t k => XS.icmpNo Xc0_2.here hx rfl (hb hby at_87) rfl (feq (by decide : ¬ ((2 : Int32) = (1 : Int32)))).1 k) ?_
      show own_Go _ _ _ _ (Tc0_2.setTop (mkF m 90 #[.val (.long q1), .second, .val (.int p2), .val (.long mx), .second, .val (.int (2 : Int32)), .val (.int i6), .val (.long j7), .second] []))
      refine own_by (fun t k => XS.iload Xc0_2.here hx rfl (hb hby at_90) rfl k) ?_
      show own_Go _ _ _ _ (Tc0_2.setTop (mkF m 92 #[.val (.long q1), .second, .val (.int p2), .val (.long mx), .second, .val (.int (2 : Int32)), .val (.int i6), .val (.long j7), .second] [(.int (2 : Int32))]))
      refine own_by (fun t k => XS.iconst Xc0_2.here hx rfl (hb hby at_92) k) ?_
      show own_Go _ _ _ _ (Tc0_2.setTop (mkF m 93 #[.val (.long q1), .second, .val (.int p2), .val (.long mx), .second, .val (.int (2 : Int32)), .val (.int i6), .val (.long j7), .second] [(.int (2 : Int32)), (.int (2 : Int32))]))
      refine own_by (fun t k => XS.icmpYes Xc0_2.here hx rfl (pc0 := 93) (pc' := 104) rfl (hb hby at_93) rfl (teq (by decide : (2 : Int32) = (2 : Int32))).1 (by decide) (by decide) k) ?_
      show own_Go _ _ _ _ (Tc0_2.setTop (mkF m 104 #[.val (.long q1), .second, .val (.int p2), .val (.long mx), .second, .val (.int (2 : Int32)), .val (.int i6), .val (.long j7), .second] []))
      refine own_by (fun t k => XS.lloadN Xc0_2.here hx rfl (hb hby at_104) rfl k) ?_
      show own_Go _ _ _ _ (Tc0_2.setTop (mkF m 105 #[.val (.long q1), .second, .val (.int p2), .val (.long mx), .second, .val (.int (2 : Int32)), .val (.int i6), .val (.long j7), .second] [(.long mx)]))
      refine own_by (fun t k => XS.lconst Xc0_2.here hx rfl (hb hby at_105) k) ?_
      show own_Go _ _ _ _ (Tc0_2.setTop (mkF m 106 #[.val (.long q1), .second, .val (.int p2), .val (.long mx), .second, .val (.int (2 : Int32)), .val (.int i6), .val (.long j7), .second] [(.long (1 : Int64)), (.long mx)]))
      refine own_by (fun t k => XS.bipush Xc0_2.here hx rfl (hb hby at_106) k) ?_
      show own_Go _ _ _ _ (Tc0_2.setTop (mkF m 108 #[.val (.long q1), .second, .val (.int p2), .val (.long mx), .second, .val (.int (2 : Int32)), .val (.int i6), .val (.long j7), .second] [(.int (8 : Int32)), (.long (1 : Int64)), (.long mx)]))
      refine own_by (fun t k => XS.iload Xc0_2.here hx rfl (hb hby at_108) rfl k) ?_
      show own_Go _ _ _ _ (Tc0_2.setTop (mkF m 110 #[.val (.long q1), .second, .val (.int p2), .val (.long mx), .second, .val (.int (2 : Int32)), .val (.int i6), .val (.long j7), .second] [(.int (2 : Int32)), (.int (8 : Int32)), (.long (1 : Int64)), (.long mx)]))
      refine own_by (fun t k => XS.imul Xc0_2.here hx rfl (hb hby at_110) rfl k) ?_
      show own_Go _ _ _ _ (Tc0_2.setTop (mkF m 111 #[.val (.long q1), .second, .val (.int p2), .val (.long mx), .second, .val (.int (2 : Int32)), .val (.int i6), .val (.long j7), .second] [(.int ((8 : Int32) * (2 : Int32))), (.long (1 : Int64)), (.long mx)]))
      refine own_by (fun t k => XS.lshl Xc0_2.here hx rfl (hb hby at_111) rfl k) ?_
      show own_Go _ _ _ _ (Tc0_2.setTop (mkF m 112 #[.val (.long q1), .second, .val (.int p2), .val (.long mx), .second, .val (.int (2 : Int32)), .val (.int i6), .val (.long j7), .second] [(.long ((1 : Int64) <<< (((8 : Int32) * (2 : Int32)) &&& 0x3f).toInt64)), (.long mx)]))
      refine own_by (fun t k => XS.lcmp Xc0_2.here hx rfl (hb hby at_112) rfl k) ?_
      show own_Go _ _ _ _ (Tc0_2.setTop (mkF m 113 #[.val (.long q1), .second, .val (.int p2), .val (.long mx), .second, .val (.int (2 : Int32)), .val (.int i6), .val (.long j7), .second] [(.int (lcmpW mx ((1 : Int64) <<< (((8 : Int32) * (2 : Int32)) &&& 0x3f).toInt64)))]))
      refine own_by (fun t k => XS.ifNo Xc0_2.here hx rfl (hb hby at_113) rfl ((if0 _ _).trans (tlt ((lw_lt _ _).mpr (u2 : mx < ((1 : Int64) <<< (((8 : Int32) * (2 : Int32)) &&& 0x3f).toInt64)))).2.1) k) ?_
      show own_Go _ _ _ _ (Tc0_2.setTop (mkF m 116 #[.val (.long q1), .second, .val (.int p2), .val (.long mx), .second, .val (.int (2 : Int32)), .val (.int i6), .val (.long j7), .second] []))
      refine own_by (fun t k => XS.iconst Xc0_2.here hx rfl (hb hby at_116) k) ?_
      show own_Go _ _ _ _ (Tc0_2.setTop (mkF m 117 #[.val (.long q1), .second, .val (.int p2), .val (.long mx), .second, .val (.int (2 : Int32)), .val (.int i6), .val (.long j7), .second] [(.int (1 : Int32))]))
      refine own_by (fun t k => XS.goto Xc0_2.here hx rfl (pc0 := 117) (pc' := 121) rfl (hb hby at_117) (by decide) (by decide) k) ?_
      show own_Go _ _ _ _ (Tc0_2.setTop (mkF m 121 #[.val (.long q1), .second, .val (.int p2), .val (.long mx), .second, .val (.int (2 : Int32)), .val (.int i6), .val (.long j7), .second] [(.int (1 : Int32))]))
      refine own_by (fun t k => XS.istore Xc0_2.here hx rfl (hb hby at_121) rfl (l' := #[.val (.long q1), .second, .val (.int p2), .val (.long mx), .second, .val (.int (2 : Int32)), .val (.int (1 : Int32)), .val (.long j7), .second]) rfl k) ?_
      show own_Go _ _ _ _ (Tc0_2.setTop (mkF m 123 #[.val (.long q1), .second, .val (.int p2), .val (.long mx), .second, .val (.int (2 : Int32)), .val (.int (1 : Int32)), .val (.long j7), .second] []))
      refine own_by (fun t k => XS.iload Xc0_2.here hx rfl (hb hby at_123) rfl k) ?_
      show own_Go _ _ _ _ (Tc0_2.setTop (mkF m 125 #[.val (.long q1), .second, .val (.int p2), .val (.long mx), .second, .val (.int (2 : Int32)), .val (.int (1 : Int32)), .val (.long j7), .second] [(.int (2 : Int32))]))
      refine own_by (fun t k => XS.iconst Xc0_2.here hx rfl (hb hby at_125) k) ?_
      show own_Go _ _ _ _ (Tc0_2.setTop (mkF m 126 #[.val (.long q1), .second, .val (.int p2), .val (.long mx), .second, .val (.int (2 : Int32)), .val (.int (1 : Int32)), .val (.long j7), .second] [(.int (1 : Int32)), (.int (2 : Int32))]))
      refine own_by (fun t k => XS.icmpNo Xc0_2.here hx rfl (hb hby at_126) rfl (feq (by decide : ¬ ((2 : Int32) = (1 : Int32)))).1 k) ?_
      show own_Go _ _ _ _ (Tc0_2.setTop (mkF m 129 #[.val (.long q1), .second, .val (.int p2), .val (.long mx), .second, .val (.int (2 : Int32)), .val (.int (1 : Int32)), .val (.long j7), .second] []))
      refine own_by (fun t k => XS.lloadN Xc0_2.here hx rfl (hb hby at_129) rfl k) ?_
      show own_Go _ _ _ _ (Tc0_2.setTop (mkF m 130 #[.val (.long q1), .second, .val (.int p2), .val (.long mx), .second, .val (.int (2 : Int32)), .val (.int (1 : Int32)), .val (.long j7), .second] [(.long mx)]))
      refine own_by (fun t k => XS.lconst Xc0_2.here hx rfl (hb hby at_130) k) ?_
      show own_Go _ _ _ _ (Tc0_2.setTop (mkF m 131 #[.val (.long q1), .second, .val (.int p2), .val (.long mx), .second, .val (.int (2 : Int32)), .val (.int (1 : Int32)), .val (.long j7), .second] [(.long (1 : Int64)), (.long mx)]))
      refine own_by (fun t k => XS.iconst Xc0_2.here hx rfl (hb hby at_131) k) ?_
      show own_Go _ _ _ _ (Tc0_2.setTop (mkF m 132 #[.val (.long q1), .second, .val (.int p2), .val (.long mx), .second, .val (.int (2 : Int32)), .val (.int (1 : Int32)), .val (.long j7), .second] [(.int (4 : Int32)), (.long (1 : Int64)), (.long mx)]))
      refine own_by (fun t k => XS.iload Xc0_2.here hx rfl (hb hby at_132) rfl k) ?_
      show own_Go _ _ _ _ (Tc0_2.setTop (mkF m 134 #[.val (.long q1), .second, .val (.int p2), .val (.long mx), .second, .val (.int (2 : Int32)), .val (.int (1 : Int32)), .val (.long j7), .second] [(.int (2 : Int32)), (.int (4 : Int32)), (.long (1 : Int64)), (.long mx)]))
      refine own_by (fun t k => XS.imul Xc0_2.here hx rfl (hb hby at_134) rfl k) ?_
      show own_Go _ _ _ _ (Tc0_2.setTop (mkF m 135 #[.val (.long q1), .second, .val (.int p2), .val (.long mx), .second, .val (.int (2 : Int32)), .val (.int (1 : Int32)), .val (.long j7), .second] [(.int ((4 : Int32) * (2 : Int32))), (.long (1 : Int64)), (.long mx)]))
      refine own_by (fun t k => XS.lshl Xc0_2.here hx rfl (hb hby at_135) rfl k) ?_
      show own_Go _ _ _ _ (Tc0_2.setTop (mkF m 136 #[.val (.long q1), .second, .val (.int p2), .val (.long mx), .second, .val (.int (2 : Int32)), .val (.int (1 : Int32)), .val (.long j7), .second] [(.long ((1 : Int64) <<< (((4 : Int32) * (2 : Int32)) &&& 0x3f).toInt64)), (.long mx)]))
      refine own_by (fun t k => XS.lcmp Xc0_2.here hx rfl (hb hby at_136) rfl k) ?_
      show own_Go _ _ _ _ (Tc0_2.setTop (mkF m 137 #[.val (.long q1), .second, .val (.int p2), .val (.long mx), .second, .val (.int (2 : Int32)), .val (.int (1 : Int32)), .val (.long j7), .second] [(.int (lcmpW mx ((1 : Int64) <<< (((4 : Int32) * (2 : Int32)) &&& 0x3f).toInt64)))]))
      refine own_by (fun t k => XS.ifNo Xc0_2.here hx rfl (hb hby at_137) rfl ((if0 _ _).trans (flt (fun q => (u1 : ¬ (mx < ((1 : Int64) <<< (((4 : Int32) * (2 : Int32)) &&& 0x3f).toInt64))) ((lw_lt _ _).mp q))).1) k) ?_
      show own_Go _ _ _ _ (Tc0_2.setTop (mkF m 140 #[.val (.long q1), .second, .val (.int p2), .val (.long mx), .second, .val (.int (2 : Int32)), .val (.int (1 : Int32)), .val (.long j7), .second] []))
      refine own_by (fun t k => XS.iconst Xc0_2.here hx rfl (hb hby at_140) k) ?_
      show own_Go _ _ _ _ (Tc0_2.setTop (mkF m 141 #[.val (.long q1), .second, .val (.int p2), .val (.long mx), .second, .val (.int (2 : Int32)), .val (.int (1 : Int32)), .val (.long j7), .second] [(.int (1 : Int32))]))
      refine own_by (fun t k => XS.goto Xc0_2.here hx rfl (pc0 := 141) (pc' := 145) rfl (hb hby at_141) (by decide) (by decide) k) ?_
      show own_Go _ _ _ _ (Tc0_2.setTop (mkF m 145 #[.val (.long q1), .second, .val (.int p2), .val (.long mx), .second, .val (.int (2 : Int32)), .val (.int (1 : Int32)), .val (.long j7), .second] [(.int (1 : Int32))]))
      refine own_by (fun t k => XS.istore Xc0_2.here hx rfl (hb hby at_145) rfl (l' := #[.val (.long q1), .second, .val (.int p2), .val (.long mx), .second, .val (.int (2 : Int32)), .val (.int (1 : Int32)), .val (.int (1 : Int32)), .unset]) rfl k) ?_
      show own_Go _ _ _ _ (Tc0_2.setTop (mkF m 147 #[.val (.long q1), .second, .val (.int p2), .val (.long mx), .second, .val (.int (2 : Int32)), .val (.int (1 : Int32)), .val (.int (1 : Int32)), .unset] []))
      refine own_by (fun t k => XS.iload Xc0_2.here hx rfl (hb hby at_147) rfl k) ?_
      show own_Go _ _ _ _ (Tc0_2.setTop (mkF m 149 #[.val (.long q1), .second, .val (.int p2), .val (.long mx), .second, .val (.int (2 : Int32)), .val (.int (1 : Int32)), .val (.int (1 : Int32)), .unset] [(.int (1 : Int32))]))
      refine own_by (fun t k => XS.ifNo Xc0_2.here hx rfl (hb hby at_149) rfl ((if0 _ _).trans (feq (by decide : ¬ ((1 : Int32) = (0 : Int32)))).1) k) ?_
      show own_Go _ _ _ _ (Tc0_2.setTop (mkF m 152 #[.val (.long q1), .second, .val (.int p2), .val (.long mx), .second, .val (.int (2 : Int32)), .val (.int (1 : Int32)), .val (.int (1 : Int32)), .unset] []))
      refine own_by (fun t k => XS.iload Xc0_2.here hx rfl (hb hby at_152) rfl k) ?_
      show own_Go _ _ _ _ (Tc0_2.setTop (mkF m 154 #[.val (.long q1), .second, .val (.int p2), .val (.long mx), .second, .val (.int (2 : Int32)), .val (.int (1 : Int32)), .val (.int (1 : Int32)), .unset] [(.int (1 : Int32))]))
      refine own_by (fun t k => XS.ifNo Xc0_2.here hx rfl (hb hby at_154) rfl ((if0 _ _).trans (feq (by decide : ¬ ((1 : Int32) = (0 : Int32)))).1) k) ?_
      show own_Go _ _ _ _ (Tc0_2.setTop (mkF m 157 #[.val (.long q1), .second, .val (.int p2), .val (.long mx), .second, .val (.int (2 : Int32)), .val (.int (1 : Int32)), .val (.int (1 : Int32)), .unset] []))
      refine own_by (fun t k => XS.iconst Xc0_2.here hx rfl (hb hby at_157) k) ?_
      show own_Go _ _ _ _ (Tc0_2.setTop (mkF m 158 #[.val (.long q1), .second, .val (.int p2), .val (.long mx), .second, .val (.int (2 : Int32)), .val (.int (1 : Int32)), .val (.int (1 : Int32)), .unset] [(.int (1 : Int32))]))
      refine own_by (fun t k => XS.goto Xc0_2.here hx rfl (pc0 := 158) (pc' := 162) rfl (hb hby at_158) (by decide) (by decide) k) ?_
      show own_Go _ _ _ _ (Tc0_2.setTop (mkF m 162 #[.val (.long q1), .second, .val (.int p2), .val (.long mx), .second, .val (.int (2 : Int32)), .val (.int (1 : Int32)), .val (.int (1 : Int32)), .unset] [(.int (1 : Int32))]))
      obtain ⟨fs, hr, hrun, hended, hW, hsame⟩ := Xc0_2.leave (v := some (.int (1 : Int32))) (fun h => by rw [Bd.returns] at h; cases h)
      refine ⟨_, _, retN Xc0_2 hx (t := .boolean) Bd.returns (by simp) (hb hby at_162) hr, hrun, hended, _, _, rfl, ?_, ⟨_, rfl⟩, hW, hsame.mono (by decide) (by decide)⟩
      show Q0 Z q1 p2 h0 n0 _ Tc0_2.heap _
      rw [ehc0_2]
      exact ⟨rfl, Nc0_2⟩
    · rw [ew]
      show own_Go _ _ _ _ (Tc0_2.setTop (mkF m 82 #[.val (.long q1), .second, .val (.int p2), .val (.long mx), .second, .val (.int i5), .val (.int i6), .val (.long j7), .second] [(.int (4 : Int32))]))
      refine own_by (fun t k => XS.istore Xc0_2.here hx rfl (hb hby at_82) rfl (l' := #[.val (.long q1), .second, .val (.int p2), .val (.long mx), .second, .val (.int (4 : Int32)), .val (.int i6), .val (.long j7), .second]) rfl k) ?_
      show own_Go _ _ _ _ (Tc0_2.setTop (mkF m 84 #[.val (.long q1), .second, .val (.int p2), .val (.long mx), .second, .val (.int (4 : Int32)), .val (.int i6), .val (.long j7), .second] []))
      refine own_by (fun t k => XS.iload Xc0_2.here hx rfl (hb hby at_84) rfl k) ?_
      show own_Go _ _ _ _ (Tc0_2.setTop (mkF m 86 #[.val (.long q1), .second, .val (.int p2), .val (.long mx), .second, .val (.int (4 : Int32)), .val (.int i6), .val (.long j7), .second] [(.int (4 : Int32))]))
      refine own_by (fun t k => XS.iconst Xc0_2.here hx rfl (hb hby at_86) k) ?_
      show own_Go _ _ _ _ (Tc0_2.setTop (mkF m 87 #[.val (.long q1), .second, .val (.int p2), .val (.long mx), .second, .val (.int (4 : Int32)), .val (.int i6), .val (.long j7), .second] [(.int (1 : Int32)), (.int (4 : Int32))]))
      refine own_by (fun t k => XS.icmpNo Xc0_2.here hx rfl (hb hby at_87) rfl (feq (by decide : ¬ ((4 : Int32) = (1 : Int32)))).1 k) ?_
      show own_Go _ _ _ _ (Tc0_2.setTop (mkF m 90 #[.val (.long q1), .second, .val (.int p2), .val (.long mx), .second, .val (.int (4 : Int32)), .val (.int i6), .val (.long j7), .second] []))
      refine own_by (fun t k => XS.iload Xc0_2.here hx rfl (hb hby at_90) rfl k) ?_
      show own_Go _ _ _ _ (Tc0_2.setTop (mkF m 92 #[.val (.long q1), .second, .val (.int p2), .val (.long mx), .second, .val (.int (4 : Int32)), .val (.int i6), .val (.long j7), .second] [(.int (4 : Int32))]))
      refine own_by (fun t k => XS.iconst Xc0_2.here hx rfl (hb hby at_92) k) ?_
      show own_Go _ _ _ _ (Tc0_2.setTop (mkF m 93 #[.val (.long q1), .second, .val (.int p2), .val (.long mx), .second, .val (.int (4 : Int32)), .val (.int i6), .val (.long j7), .second] [(.int (2 : Int32)), (.int (4 : Int32))]))
      refine own_by (fun t k => XS.icmpNo Xc0_2.here hx rfl (hb hby at_93) rfl (feq (by decide : ¬ ((4 : Int32) = (2 : Int32)))).1 k) ?_
      show own_Go _ _ _ _ (Tc0_2.setTop (mkF m 96 #[.val (.long q1), .second, .val (.int p2), .val (.long mx), .second, .val (.int (4 : Int32)), .val (.int i6), .val (.long j7), .second] []))
      refine own_by (fun t k => XS.iload Xc0_2.here hx rfl (hb hby at_96) rfl k) ?_
      show own_Go _ _ _ _ (Tc0_2.setTop (mkF m 98 #[.val (.long q1), .second, .val (.int p2), .val (.long mx), .second, .val (.int (4 : Int32)), .val (.int i6), .val (.long j7), .second] [(.int (4 : Int32))]))
      refine own_by (fun t k => XS.iconst Xc0_2.here hx rfl (hb hby at_98) k) ?_
      show own_Go _ _ _ _ (Tc0_2.setTop (mkF m 99 #[.val (.long q1), .second, .val (.int p2), .val (.long mx), .second, .val (.int (4 : Int32)), .val (.int i6), .val (.long j7), .second] [(.int (4 : Int32)), (.int (4 : Int32))]))
      refine own_by (fun t k => XS.icmpYes Xc0_2.here hx rfl (pc0 := 99) (pc' := 104) rfl (hb hby at_99) rfl (teq (by decide : (4 : Int32) = (4 : Int32))).1 (by decide) (by decide) k) ?_
      show own_Go _ _ _ _ (Tc0_2.setTop (mkF m 104 #[.val (.long q1), .second, .val (.int p2), .val (.long mx), .second, .val (.int (4 : Int32)), .val (.int i6), .val (.long j7), .second] []))
      refine own_by (fun t k => XS.lloadN Xc0_2.here hx rfl (hb hby at_104) rfl k) ?_
      show own_Go _ _ _ _ (Tc0_2.setTop (mkF m 105 #[.val (.long q1), .second, .val (.int p2), .val (.long mx), .second, .val (.int (4 : Int32)), .val (.int i6), .val (.long j7), .second] [(.long mx)]))
      refine own_by (fun t k => XS.lconst Xc0_2.here hx rfl (hb hby at_105) k) ?_
      show own_Go _ _ _ _ (Tc0_2.setTop (mkF m 106 #[.val (.long q1), .second, .val (.int p2), .val (.long mx), .second, .val (.int (4 : Int32)), .val (.int i6), .val (.long j7), .second] [(.long (1 : Int64)), (.long mx)]))
      refine own_by (fun t k => XS.bipush Xc0_2.here hx rfl (hb hby at_106) k) ?_
      show own_Go _ _ _ _ (Tc0_2.setTop (mkF m 108 #[.val (.long q1), .second, .val (.int p2), .val (.long mx), .second, .val (.int (4 : Int32)), .val (.int i6), .val (.long j7), .second] [(.int (8 : Int32)), (.long (1 : Int64)), (.long mx)]))
      refine own_by (fun t k => XS.iload Xc0_2.here hx rfl (hb hby at_108) rfl k) ?_
      show own_Go _ _ _ _ (Tc0_2.setTop (mkF m 110 #[.val (.long q1), .second, .val (.int p2), .val (.long mx), .second, .val (.int (4 : Int32)), .val (.int i6), .val (.long j7), .second] [(.int (4 : Int32)), (.int (8 : Int32)), (.long (1 : Int64)), (.long mx)]))
      refine own_by (fun t k => XS.imul Xc0_2.here hx rfl (hb hby at_110) rfl k) ?_
      show own_Go _ _ _ _ (Tc0_2.setTop (mkF m 111 #[.val (.long q1), .second, .val (.int p2), .val (.long mx), .second, .val (.int (4 : Int32)), .val (.int i6), .val (.long j7), .second] [(.int ((8 : Int32) * (4 : Int32))), (.long (1 : Int64)), (.long mx)]))
      refine own_by (fun t k => XS.lshl Xc0_2.here hx rfl (hb hby at_111) rfl k) ?_
      show own_Go _ _ _ _ (Tc0_2.setTop (mkF m 112 #[.val (.long q1), .second, .val (.int p2), .val (.long mx), .second, .val (.int (4 : Int32)), .val (.int i6), .val (.long j7), .second] [(.long ((1 : Int64) <<< (((8 : Int32) * (4 : Int32)) &&& 0x3f).toInt64)), (.long mx)]))
      refine own_by (fun t k => XS.lcmp Xc0_2.here hx rfl (hb hby at_112) rfl k) ?_
      show own_Go _ _ _ _ (Tc0_2.setTop (mkF m 113 #[.val (.long q1), .second, .val (.int p2), .val (.long mx), .second, .val (.int (4 : Int32)), .val (.int i6), .val (.long j7), .second] [(.int (lcmpW mx ((1 : Int64) <<< (((8 : Int32) * (4 : Int32)) &&& 0x3f).toInt64)))]))
      refine own_by (fun t k => XS.ifNo Xc0_2.here hx rfl (hb hby at_113) rfl ((if0 _ _).trans (tlt ((lw_lt _ _).mpr (own_fit _ hcap : mx < ((1 : Int64) <<< (((8 : Int32) * (4 : Int32)) &&& 0x3f).toInt64)))).2.1) k) ?_
      show own_Go _ _ _ _ (Tc0_2.setTop (mkF m 116 #[.val (.long q1), .second, .val (.int p2), .val (.long mx), .second, .val (.int (4 : Int32)), .val (.int i6), .val (.long j7), .second] []))
      refine own_by (fun t k => XS.iconst Xc0_2.here hx rfl (hb hby at_116) k) ?_
      show own_Go _ _ _ _ (Tc0_2.setTop (mkF m 117 #[.val (.long q1), .second, .val (.int p2), .val (.long mx), .second, .val (.int (4 : Int32)), .val (.int i6), .val (.long j7), .second] [(.int (1 : Int32))]))
      refine own_by (fun t k => XS.goto Xc0_2.here hx rfl (pc0 := 117) (pc' := 121) rfl (hb hby at_117) (by decide) (by decide) k) ?_
      show own_Go _ _ _ _ (Tc0_2.setTop (mkF m 121 #[.val (.long q1), .second, .val (.int p2), .val (.long mx), .second, .val (.int (4 : Int32)), .val (.int i6), .val (.long j7), .second] [(.int (1 : Int32))]))
      refine own_by (fun t k => XS.istore Xc0_2.here hx rfl (hb hby at_121) rfl (l' := #[.val (.long q1), .second, .val (.int p2), .val (.long mx), .second, .val (.int (4 : Int32)), .val (.int (1 : Int32)), .val (.long j7), .second]) rfl k) ?_
      show own_Go _ _ _ _ (Tc0_2.setTop (mkF m 123 #[.val (.long q1), .second, .val (.int p2), .val (.long mx), .second, .val (.int (4 : Int32)), .val (.int (1 : Int32)), .val (.long j7), .second] []))
      refine own_by (fun t k => XS.iload Xc0_2.here hx rfl (hb hby at_123) rfl k) ?_
      show own_Go _ _ _ _ (Tc0_2.setTop (mkF m 125 #[.val (.long q1), .second, .val (.int p2), .val (.long mx), .second, .val (.int (4 : Int32)), .val (.int (1 : Int32)), .val (.long j7), .second] [(.int (4 : Int32))]))
      refine own_by (fun t k => XS.iconst Xc0_2.here hx rfl (hb hby at_125) k) ?_
      show own_Go _ _ _ _ (Tc0_2.setTop (mkF m 126 #[.val (.long q1), .second, .val (.int p2), .val (.long mx), .second, .val (.int (4 : Int32)), .val (.int (1 : Int32)), .val (.long j7), .second] [(.int (1 : Int32)), (.int (4 : Int32))]))
      refine own_by (fun t k => XS.icmpNo Xc0_2.here hx rfl (hb hby at_126) rfl (feq (by decide : ¬ ((4 : Int32) = (1 : Int32)))).1 k) ?_
      show own_Go _ _ _ _ (Tc0_2.setTop (mkF m 129 #[.val (.long q1), .second, .val (.int p2), .val (.long mx), .second, .val (.int (4 : Int32)), .val (.int (1 : Int32)), .val (.long j7), .second] []))
      refine own_by (fun t k => XS.lloadN Xc0_2.here hx rfl (hb hby at_129) rfl k) ?_
      show own_Go _ _ _ _ (Tc0_2.setTop (mkF m 130 #[.val (.long q1), .second, .val (.int p2), .val (.long mx), .second, .val (.int (4 : Int32)), .val (.int (1 : Int32)), .val (.long j7), .second] [(.long mx)]))
      refine own_by (fun t k => XS.lconst Xc0_2.here hx rfl (hb hby at_130) k) ?_
      show own_Go _ _ _ _ (Tc0_2.setTop (mkF m 131 #[.val (.long q1), .second, .val (.int p2), .val (.long mx), .second, .val (.int (4 : Int32)), .val (.int (1 : Int32)), .val (.long j7), .second] [(.long (1 : Int64)), (.long mx)]))
      refine own_by (fun t k => XS.iconst Xc0_2.here hx rfl (hb hby at_131) k) ?_
      show own_Go _ _ _ _ (Tc0_2.setTop (mkF m 132 #[.val (.long q1), .second, .val (.int p2), .val (.long mx), .second, .val (.int (4 : Int32)), .val (.int (1 : Int32)), .val (.long j7), .second] [(.int (4 : Int32)), (.long (1 : Int64)), (.long mx)]))
      refine own_by (fun t k => XS.iload Xc0_2.here hx rfl (hb hby at_132) rfl k) ?_
      show own_Go _ _ _ _ (Tc0_2.setTop (mkF m 134 #[.val (.long q1), .second, .val (.int p2), .val (.long mx), .second, .val (.int (4 : Int32)), .val (.int (1 : Int32)), .val (.long j7), .second] [(.int (4 : Int32)), (.int (4 : Int32)), (.long (1 : Int64)), (.long mx)]))
      refine own_by (fun t k => XS.imul Xc0_2.here hx rfl (hb hby at_134) rfl k) ?_
      show own_Go _ _ _ _ (Tc0_2.setTop (mkF m 135 #[.val (.long q1), .second, .val (.int p2), .val (.long mx), .second, .val (.int (4 : Int32)), .val (.int (1 : Int32)), .val (.long j7), .second] [(.int ((4 : Int32) * (4 : Int32))), (.long (1 : Int64)), (.long mx)]))
      refine own_by (fun t k => XS.lshl Xc0_2.here hx rfl (hb hby at_135) rfl k) ?_
      show own_Go _ _ _ _ (Tc0_2.setTop (mkF m 136 #[.val (.long q1), .second, .val (.int p2), .val (.long mx), .second, .val (.int (4 : Int32)), .val (.int (1 : Int32)), .val (.long j7), .second] [(.long ((1 : Int64) <<< (((4 : Int32) * (4 : Int32)) &&& 0x3f).toInt64)), (.long mx)]))
      refine own_by (fun t k => XS.lcmp Xc0_2.here hx rfl (hb hby at_136) rfl k) ?_
      show own_Go _ _ _ _ (Tc0_2.setTop (mkF m 137 #[.val (.long q1), .second, .val (.int p2), .val (.long mx), .second, .val (.int (4 : Int32)), .val (.int (1 : Int32)), .val (.long j7), .second] [(.int (lcmpW mx ((1 : Int64) <<< (((4 : Int32) * (4 : Int32)) &&& 0x3f).toInt64)))]))
      refine own_by (fun t k => XS.ifNo Xc0_2.here hx rfl (hb hby at_137) rfl ((if0 _ _).trans (flt (fun q => (u2 : ¬ (mx < ((1 : Int64) <<< (((4 : Int32) * (4 : Int32)) &&& 0x3f).toInt64))) ((lw_lt _ _).mp q))).1) k) ?_
      show own_Go _ _ _ _ (Tc0_2.setTop (mkF m 140 #[.val (.long q1), .second, .val (.int p2), .val (.long mx), .second, .val (.int (4 : Int32)), .val (.int (1 : Int32)), .val (.long j7), .second] []))
      refine own_by (fun t k => XS.iconst Xc0_2.here hx rfl (hb hby at_140) k) ?_
      show own_Go _ _ _ _ (Tc0_2.setTop (mkF m 141 #[.val (.long q1), .second, .val (.int p2), .val (.long mx), .second, .val (.int (4 : Int32)), .val (.int (1 : Int32)), .val (.long j7), .second] [(.int (1 : Int32))]))
      refine own_by (fun t k => XS.goto Xc0_2.here hx rfl (pc0 := 141) (pc' := 145) rfl (hb hby at_141) (by decide) (by decide) k) ?_
      show own_Go _ _ _ _ (Tc0_2.setTop (mkF m 145 #[.val (.long q1), .second, .val (.int p2), .val (.long mx), .second, .val (.int (4 : Int32)), .val (.int (1 : Int32)), .val (.long j7), .second] [(.int (1 : Int32))]))
      refine own_by (fun t k => XS.istore Xc0_2.here hx rfl (hb hby at_145) rfl (l' := #[.val (.long q1), .second, .val (.int p2), .val (.long mx), .second, .val (.int (4 : Int32)), .val (.int (1 : Int32)), .val (.int (1 : Int32)), .unset]) rfl k) ?_
      show own_Go _ _ _ _ (Tc0_2.setTop (mkF m 147 #[.val (.long q1), .second, .val (.int p2), .val (.long mx), .second, .val (.int (4 : Int32)), .val (.int (1 : Int32)), .val (.int (1 : Int32)), .unset] []))
      refine own_by (fun t k => XS.iload Xc0_2.here hx rfl (hb hby at_147) rfl k) ?_
      show own_Go _ _ _ _ (Tc0_2.setTop (mkF m 149 #[.val (.long q1), .second, .val (.int p2), .val (.long mx), .second, .val (.int (4 : Int32)), .val (.int (1 : Int32)), .val (.int (1 : Int32)), .unset] [(.int (1 : Int32))]))
      refine own_by (fun t k => XS.ifNo Xc0_2.here hx rfl (hb hby at_149) rfl ((if0 _ _).trans (feq (by decide : ¬ ((1 : Int32) = (0 : Int32)))).1) k) ?_
      show own_Go _ _ _ _ (Tc0_2.setTop (mkF m 152 #[.val (.long q1), .second, .val (.int p2), .val (.long mx), .second, .val (.int (4 : Int32)), .val (.int (1 : Int32)), .val (.int (1 : Int32)), .unset] []))
      refine own_by (fun t k => XS.iload Xc0_2.here hx rfl (hb hby at_152) rfl k) ?_
      show own_Go _ _ _ _ (Tc0_2.setTop (mkF m 154 #[.val (.long q1), .second, .val (.int p2), .val (.long mx), .second, .val (.int (4 : Int32)), .val (.int (1 : Int32)), .val (.int (1 : Int32)), .unset] [(.int (1 : Int32))]))
      refine own_by (fun t k => XS.ifNo Xc0_2.here hx rfl (hb hby at_154) rfl ((if0 _ _).trans (feq (by decide : ¬ ((1 : Int32) = (0 : Int32)))).1) k) ?_
      show own_Go _ _ _ _ (Tc0_2.setTop (mkF m 157 #[.val (.long q1), .second, .val (.int p2), .val (.long mx), .second, .val (.int (4 : Int32)), .val (.int (1 : Int32)), .val (.int (1 : Int32)), .unset] []))
      refine own_by (fun t k => XS.iconst Xc0_2.here hx rfl (hb hby at_157) k) ?_
      show own_Go _ _ _ _ (Tc0_2.setTop (mkF m 158 #[.val (.long q1), .second, .val (.int p2), .val (.long mx), .second, .val (.int (4 : Int32)), .val (.int (1 : Int32)), .val (.int (1 : Int32)), .unset] [(.int (1 : Int32))]))
      refine own_by (fun t k => XS.goto Xc0_2.here hx rfl (pc0 := 158) (pc' := 162) rfl (hb hby at_158) (by decide) (by decide) k) ?_
      show own_Go _ _ _ _ (Tc0_2.setTop (mkF m 162 #[.val (.long q1), .second, .val (.int p2), .val (.long mx), .second, .val (.int (4 : Int32)), .val (.int (1 : Int32)), .val (.int (1 : Int32)), .unset] [(.int (1 : Int32))]))
      obtain ⟨fs, hr, hrun, hended, hW, hsame⟩ := Xc0_2.leave (v := some (.int (1 : Int32))) (fun h => by rw [Bd.returns] at h; cases h)
      refine ⟨_, _, retN Xc0_2 hx (t := .boolean) Bd.returns (by simp) (hb hby at_162) hr, hrun, hended, _, _, rfl, ?_, ⟨_, rfl⟩, hW, hsame.mono (by decide) (by decide)⟩
      show Q0 Z q1 p2 h0 n0 _ Tc0_2.heap _
      rw [ehc0_2]
      exact ⟨rfl, Nc0_2⟩
  have JC : ∀ (i5 sh : Int32), own_Go p.tables e below (P0 Z q1 p2 h0 n0 s) (s₁.setTop (mkF m 45 #[.val (.long q1), .second, .val (.int p2), .unset, .unset, .val (.int i5), .unset, .unset, .unset] [(.int sh)])) := by
    intro i5 sh
    show own_Go _ _ _ _ (s₁.setTop (mkF m 45 #[.val (.long q1), .second, .val (.int p2), .unset, .unset, .val (.int i5), .unset, .unset, .unset] [(.int sh)]))
    refine own_by (fun t k => XS.istore X0.here hx rfl (hb hby at_45) rfl (l' := #[.val (.long q1), .second, .val (.int p2), .unset, .unset, .val (.int i5), .val (.int sh), .unset, .unset]) rfl k) ?_
    show own_Go _ _ _ _ (s₁.setTop (mkF m 47 #[.val (.long q1), .second, .val (.int p2), .unset, .unset, .val (.int i5), .val (.int sh), .unset, .unset] []))
    refine own_by (fun t k => XS.iloadN X0.here hx rfl (hb hby at_47) rfl k) ?_
    show own_Go _ _ _ _ (s₁.setTop (mkF m 48 #[.val (.long q1), .second, .val (.int p2), .unset, .unset, .val (.int i5), .val (.int sh), .unset, .unset] [(.int p2)]))
    refine own_by (fun t k => XS.iconst X0.here hx rfl (hb hby at_48) k) ?_
    show own_Go _ _ _ _ (s₁.setTop (mkF m 49 #[.val (.long q1), .second, .val (.int p2), .unset, .unset, .val (.int i5), .val (.int sh), .unset, .unset] [(.int (3 : Int32)), (.int p2)]))
    refine own_by (fun t k => XS.iushr X0.here hx rfl (hb hby at_49) rfl k) ?_
    show own_Go _ _ _ _ (s₁.setTop (mkF m 50 #[.val (.long q1), .second, .val (.int p2), .unset, .unset, .val (.int i5), .val (.int sh), .unset, .unset] [(.int ((p2.toUInt32 >>> ((3 : Int32) &&& 31).toUInt32).toInt32))]))
    refine own_by (fun t k => XS.bipush X0.here hx rfl (hb hby at_50) k) ?_
    show own_Go _ _ _ _ (s₁.setTop (mkF m 52 #[.val (.long q1), .second, .val (.int p2), .unset, .unset, .val (.int i5), .val (.int sh), .unset, .unset] [(.int (7 : Int32)), (.int ((p2.toUInt32 >>> ((3 : Int32) &&& 31).toUInt32).toInt32))]))
    refine own_by (fun t k => XS.iand X0.here hx rfl (hb hby at_52) rfl k) ?_
    show own_Go _ _ _ _ (s₁.setTop (mkF m 53 #[.val (.long q1), .second, .val (.int p2), .unset, .unset, .val (.int i5), .val (.int sh), .unset, .unset] [(.int (((p2.toUInt32 >>> ((3 : Int32) &&& 31).toUInt32).toInt32) &&& (7 : Int32)))]))
    refine own_by (fun t k => XS.iconst X0.here hx rfl (hb hby at_53) k) ?_
    show own_Go _ _ _ _ (s₁.setTop (mkF m 54 #[.val (.long q1), .second, .val (.int p2), .unset, .unset, .val (.int i5), .val (.int sh), .unset, .unset] [(.int (4 : Int32)), (.int (((p2.toUInt32 >>> ((3 : Int32) &&& 31).toUInt32).toInt32) &&& (7 : Int32)))]))
    refine own_by (fun t k => XS.isub X0.here hx rfl (hb hby at_54) rfl k) ?_
    show own_Go _ _ _ _ (s₁.setTop (mkF m 55 #[.val (.long q1), .second, .val (.int p2), .unset, .unset, .val (.int i5), .val (.int sh), .unset, .unset] [(.int ((((p2.toUInt32 >>> ((3 : Int32) &&& 31).toUInt32).toInt32) &&& (7 : Int32)) - (4 : Int32)))]))
    refine own_by (fun t k => XS.i2l X0.here hx rfl (hb hby at_55) rfl k) ?_
    show own_Go _ _ _ _ (s₁.setTop (mkF m 56 #[.val (.long q1), .second, .val (.int p2), .unset, .unset, .val (.int i5), .val (.int sh), .unset, .unset] [(.long (((((p2.toUInt32 >>> ((3 : Int32) &&& 31).toUInt32).toInt32) &&& (7 : Int32)) - (4 : Int32)).toInt64))]))
    refine own_by (fun t k => XS.lstore X0.here hx rfl (hb hby at_56) rfl (l' := #[.val (.long q1), .second, .val (.int p2), .unset, .unset, .val (.int i5), .val (.int sh), .val (.long (((((p2.toUInt32 >>> ((3 : Int32) &&& 31).toUInt32).toInt32) &&& (7 : Int32)) - (4 : Int32)).toInt64)), .second]) rfl k) ?_
    show own_Go _ _ _ _ (s₁.setTop (mkF m 58 #[.val (.long q1), .second, .val (.int p2), .unset, .unset, .val (.int i5), .val (.int sh), .val (.long (((((p2.toUInt32 >>> ((3 : Int32) &&& 31).toUInt32).toInt32) &&& (7 : Int32)) - (4 : Int32)).toInt64)), .second] []))
    refine own_by (fun t k => XS.lconst X0.here hx rfl (hb hby at_58) k) ?_
    show own_Go _ _ _ _ (s₁.setTop (mkF m 59 #[.val (.long q1), .second, .val (.int p2), .unset, .unset, .val (.int i5), .val (.int sh), .val (.long (((((p2.toUInt32 >>> ((3 : Int32) &&& 31).toUInt32).toInt32) &&& (7 : Int32)) - (4 : Int32)).toInt64)), .second] [(.long (1 : Int64))]))
    refine own_by (fun t k => XS.iload X0.here hx rfl (hb hby at_59) rfl k) ?_
    show own_Go _ _ _ _ (s₁.setTop (mkF m 61 #[.val (.long q1), .second, .val (.int p2), .unset, .unset, .val (.int i5), .val (.int sh), .val (.long (((((p2.toUInt32 >>> ((3 : Int32) &&& 31).toUInt32).toInt32) &&& (7 : Int32)) - (4 : Int32)).toInt64)), .second] [(.int sh), (.long (1 : Int64))]))
    refine own_by (fun t k => XS.lshl X0.here hx rfl (hb hby at_61) rfl k) ?_
    show own_Go _ _ _ _ (s₁.setTop (mkF m 62 #[.val (.long q1), .second, .val (.int p2), .unset, .unset, .val (.int i5), .val (.int sh), .val (.long (((((p2.toUInt32 >>> ((3 : Int32) &&& 31).toUInt32).toInt32) &&& (7 : Int32)) - (4 : Int32)).toInt64)), .second] [(.long ((1 : Int64) <<< (sh &&& 0x3f).toInt64))]))
    refine own_by (fun t k => XS.lload X0.here hx rfl (hb hby at_62) rfl k) ?_
    show own_Go _ _ _ _ (s₁.setTop (mkF m 64 #[.val (.long q1), .second, .val (.int p2), .unset, .unset, .val (.int i5), .val (.int sh), .val (.long (((((p2.toUInt32 >>> ((3 : Int32) &&& 31).toUInt32).toInt32) &&& (7 : Int32)) - (4 : Int32)).toInt64)), .second] [(.long (((((p2.toUInt32 >>> ((3 : Int32) &&& 31).toUInt32).toInt32) &&& (7 : Int32)) - (4 : Int32)).toInt64)), (.long ((1 : Int64) <<< (sh &&& 0x3f).toInt64))]))
    refine own_by (fun t k => XS.ladd X0.here hx rfl (hb hby at_64) rfl k) ?_
    show own_Go _ _ _ _ (s₁.setTop (mkF m 65 #[.val (.long q1), .second, .val (.int p2), .unset, .unset, .val (.int i5), .val (.int sh), .val (.long (((((p2.toUInt32 >>> ((3 : Int32) &&& 31).toUInt32).toInt32) &&& (7 : Int32)) - (4 : Int32)).toInt64)), .second] [(.long (((1 : Int64) <<< (sh &&& 0x3f).toInt64) + (((((p2.toUInt32 >>> ((3 : Int32) &&& 31).toUInt32).toInt32) &&& (7 : Int32)) - (4 : Int32)).toInt64)))]))
    refine own_by (fun t k => XS.lstoreN X0.here hx rfl (hb hby at_65) rfl (l' := #[.val (.long q1), .second, .val (.int p2), .val (.long (((1 : Int64) <<< (sh &&& 0x3f).toInt64) + (((((p2.toUInt32 >>> ((3 : Int32) &&& 31).toUInt32).toInt32) &&& (7 : Int32)) - (4 : Int32)).toInt64))), .second, .val (.int i5), .val (.int sh), .val (.long (((((p2.toUInt32 >>> ((3 : Int32) &&& 31).toUInt32).toInt32) &&& (7 : Int32)) - (4 : Int32)).toInt64)), .second]) rfl k) ?_
    show own_Go _ _ _ _ (s₁.setTop (mkF m 66 #[.val (.long q1), .second, .val (.int p2), .val (.long (((1 : Int64) <<< (sh &&& 0x3f).toInt64) + (((((p2.toUInt32 >>> ((3 : Int32) &&& 31).toUInt32).toInt32) &&& (7 : Int32)) - (4 : Int32)).toInt64))), .second, .val (.int i5), .val (.int sh), .val (.long (((((p2.toUInt32 >>> ((3 : Int32) &&& 31).toUInt32).toInt32) &&& (7 : Int32)) - (4 : Int32)).toInt64)), .second] []))
    refine own_by (fun t k => XS.lloadN X0.here hx rfl (hb hby at_66) rfl k) ?_
    show own_Go _ _ _ _ (s₁.setTop (mkF m 67 #[.val (.long q1), .second, .val (.int p2), .val (.long (((1 : Int64) <<< (sh &&& 0x3f).toInt64) + (((((p2.toUInt32 >>> ((3 : Int32) &&& 31).toUInt32).toInt32) &&& (7 : Int32)) - (4 : Int32)).toInt64))), .second, .val (.int i5), .val (.int sh), .val (.long (((((p2.toUInt32 >>> ((3 : Int32) &&& 31).toUInt32).toInt32) &&& (7 : Int32)) - (4 : Int32)).toInt64)), .second] [(.long (((1 : Int64) <<< (sh &&& 0x3f).toInt64) + (((((p2.toUInt32 >>> ((3 : Int32) &&& 31).toUInt32).toInt32) &&& (7 : Int32)) - (4 : Int32)).toInt64)))]))
    refine own_by (fun t k => X0.ldc2Long hx hown (mvT hZ (hw _ (List.mem_of_getElem? (i := 0) rfl))) (g := (mkF m 67 #[.val (.long q1), .second, .val (.int p2), .val (.long (((1 : Int64) <<< (sh &&& 0x3f).toInt64) + (((((p2.toUInt32 >>> ((3 : Int32) &&& 31).toUInt32).toInt32) &&& (7 : Int32)) - (4 : Int32)).toInt64))), .second, .val (.int i5), .val (.int sh), .val (.long (((((p2.toUInt32 >>> ((3 : Int32) &&& 31).toUInt32).toInt32) &&& (7 : Int32)) - (4 : Int32)).toInt64)), .second] [(.long (((1 : Int64) <<< (sh &&& 0x3f).toInt64) + (((((p2.toUInt32 >>> ((3 : Int32) &&& 31).toUInt32).toInt32) &&& (7 : Int32)) - (4 : Int32)).toInt64)))])) rfl (hb hby at_67) _ k) ?_
    show own_Go _ _ _ _ (s₁.setTop (mkF m 70 #[.val (.long q1), .second, .val (.int p2), .val (.long (((1 : Int64) <<< (sh &&& 0x3f).toInt64) + (((((p2.toUInt32 >>> ((3 : Int32) &&& 31).toUInt32).toInt32) &&& (7 : Int32)) - (4 : Int32)).toInt64))), .second, .val (.int i5), .val (.int sh), .val (.long (((((p2.toUInt32 >>> ((3 : Int32) &&& 31).toUInt32).toInt32) &&& (7 : Int32)) - (4 : Int32)).toInt64)), .second] [(.long (4294967295 : Int64)), (.long (((1 : Int64) <<< (sh &&& 0x3f).toInt64) + (((((p2.toUInt32 >>> ((3 : Int32) &&& 31).toUInt32).toInt32) &&& (7 : Int32)) - (4 : Int32)).toInt64)))]))
    refine own_by (fun t k => XS.lcmp X0.here hx rfl (hb hby at_70) rfl k) ?_
    show own_Go _ _ _ _ (s₁.setTop (mkF m 71 #[.val (.long q1), .second, .val (.int p2), .val (.long (((1 : Int64) <<< (sh &&& 0x3f).toInt64) + (((((p2.toUInt32 >>> ((3 : Int32) &&& 31).toUInt32).toInt32) &&& (7 : Int32)) - (4 : Int32)).toInt64))), .second, .val (.int i5), .val (.int sh), .val (.long (((((p2.toUInt32 >>> ((3 : Int32) &&& 31).toUInt32).toInt32) &&& (7 : Int32)) - (4 : Int32)).toInt64)), .second] [(.int (lcmpW (((1 : Int64) <<< (sh &&& 0x3f).toInt64) + (((((p2.toUInt32 >>> ((3 : Int32) &&& 31).toUInt32).toInt32) &&& (7 : Int32)) - (4 : Int32)).toInt64)) (4294967295 : Int64)))]))
    by_cases hc71 : (4294967295 : Int64) < (((1 : Int64) <<< (sh &&& 0x3f).toInt64) + (((((p2.toUInt32 >>> ((3 : Int32) &&& 31).toUInt32).toInt32) &&& (7 : Int32)) - (4 : Int32)).toInt64))
    · refine own_by (fun t k => XS.ifNo X0.here hx rfl (hb hby at_71) rfl ((if0 _ _).trans (tlt ((lw_gt _ _).mpr hc71)).2.2.2) k) ?_
      show own_Go _ _ _ _ (s₁.setTop (mkF m 74 #[.val (.long q1), .second, .val (.int p2), .val (.long (((1 : Int64) <<< (sh &&& 0x3f).toInt64) + (((((p2.toUInt32 >>> ((3 : Int32) &&& 31).toUInt32).toInt32) &&& (7 : Int32)) - (4 : Int32)).toInt64))), .second, .val (.int i5), .val (.int sh), .val (.long (((((p2.toUInt32 >>> ((3 : Int32) &&& 31).toUInt32).toInt32) &&& (7 : Int32)) - (4 : Int32)).toInt64)), .second] []))
      refine own_by (fun t k => X0.ldc2Long hx hown (mvT hZ (hw _ (List.mem_of_getElem? (i := 0) rfl))) (g := (mkF m 74 #[.val (.long q1), .second, .val (.int p2), .val (.long (((1 : Int64) <<< (sh &&& 0x3f).toInt64) + (((((p2.toUInt32 >>> ((3 : Int32) &&& 31).toUInt32).toInt32) &&& (7 : Int32)) - (4 : Int32)).toInt64))), .second, .val (.int i5), .val (.int sh), .val (.long (((((p2.toUInt32 >>> ((3 : Int32) &&& 31).toUInt32).toInt32) &&& (7 : Int32)) - (4 : Int32)).toInt64)), .second] [])) rfl (hb hby at_74) _ k) ?_
      show own_Go _ _ _ _ (s₁.setTop (mkF m 77 #[.val (.long q1), .second, .val (.int p2), .val (.long (((1 : Int64) <<< (sh &&& 0x3f).toInt64) + (((((p2.toUInt32 >>> ((3 : Int32) &&& 31).toUInt32).toInt32) &&& (7 : Int32)) - (4 : Int32)).toInt64))), .second, .val (.int i5), .val (.int sh), .val (.long (((((p2.toUInt32 >>> ((3 : Int32) &&& 31).toUInt32).toInt32) &&& (7 : Int32)) - (4 : Int32)).toInt64)), .second] [(.long (4294967295 : Int64))]))
      refine own_by (fun t k => XS.lstoreN X0.here hx rfl (hb hby at_77) rfl (l' := #[.val (.long q1), .second, .val (.int p2), .val (.long (4294967295 : Int64)), .second, .val (.int i5), .val (.int sh), .val (.long (((((p2.toUInt32 >>> ((3 : Int32) &&& 31).toUInt32).toInt32) &&& (7 : Int32)) - (4 : Int32)).toInt64)), .second]) rfl k) ?_
      exact JB _ _ _ _ (by decide)
    · refine own_by (fun t k => XS.ifYes X0.here hx rfl (pc0 := 71) (pc' := 78) rfl (hb hby at_71) rfl ((if0 _ _).trans (flt (fun q => hc71 ((lw_gt _ _).mp q))).2.2.2) (by decide) (by decide) k) ?_
      exact JB _ _ _ _ hc71
  show own_Go _ _ _ _ (s₁.setTop (mkF m 0 #[.val (.long q1), .second, .val (.int p2), .unset, .unset, .unset, .unset, .unset, .unset] []))
  refine own_by (fun t k => XS.iloadN X0.here hx rfl (hb hby at_0) rfl k) ?_
  show own_Go _ _ _ _ (s₁.setTop (mkF m 1 #[.val (.long q1), .second, .val (.int p2), .unset, .unset, .unset, .unset, .unset, .unset] [(.int p2)]))
  refine own_by (fun t k => XS.iconst X0.here hx rfl (hb hby at_1) k) ?_
  show own_Go _ _ _ _ (s₁.setTop (mkF m 2 #[.val (.long q1), .second, .val (.int p2), .unset, .unset, .unset, .unset, .unset, .unset] [(.int (1 : Int32)), (.int p2)]))
  refine own_by (fun t k => XS.iand X0.here hx rfl (hb hby at_2) rfl k) ?_
  show own_Go _ _ _ _ (s₁.setTop (mkF m 3 #[.val (.long q1), .second, .val (.int p2), .unset, .unset, .unset, .unset, .unset, .unset] [(.int (p2 &&& (1 : Int32)))]))
  by_cases hc3 : (p2 &&& (1 : Int32)) = (0 : Int32)
  · refine own_by (fun t k => XS.ifNo X0.here hx rfl (hb hby at_3) rfl ((if0 _ _).trans (teq hc3).2) k) ?_
    show own_Go _ _ _ _ (s₁.setTop (mkF m 6 #[.val (.long q1), .second, .val (.int p2), .unset, .unset, .unset, .unset, .unset, .unset] []))
    refine own_by (fun t k => XS.lloadN X0.here hx rfl (hb hby at_6) rfl k) ?_
    show own_Go _ _ _ _ (s₁.setTop (mkF m 7 #[.val (.long q1), .second, .val (.int p2), .unset, .unset, .unset, .unset, .unset, .unset] [(.long q1)]))
    refine own_by (fun t k => X0.ldc2Long hx hown (mvT hZ (hw _ (List.mem_of_getElem? (i := 0) rfl))) (g := (mkF m 7 #[.val (.long q1), .second, .val (.int p2), .unset, .unset, .unset, .unset, .unset, .unset] [(.long q1)])) rfl (hb hby at_7) _ k) ?_
    show own_Go _ _ _ _ (s₁.setTop (mkF m 10 #[.val (.long q1), .second, .val (.int p2), .unset, .unset, .unset, .unset, .unset, .unset] [(.long (4294967295 : Int64)), (.long q1)]))
    refine own_by (fun t k => XS.land X0.here hx rfl (hb hby at_10) rfl k) ?_
    show own_Go _ _ _ _ (s₁.setTop (mkF m 11 #[.val (.long q1), .second, .val (.int p2), .unset, .unset, .unset, .unset, .unset, .unset] [(.long (q1 &&& (4294967295 : Int64)))]))
    refine own_by (fun t k => XS.lstoreN X0.here hx rfl (hb hby at_11) rfl (l' := #[.val (.long q1), .second, .val (.int p2), .val (.long (q1 &&& (4294967295 : Int64))), .second, .unset, .unset, .unset, .unset]) rfl k) ?_
    show own_Go _ _ _ _ (s₁.setTop (mkF m 12 #[.val (.long q1), .second, .val (.int p2), .val (.long (q1 &&& (4294967295 : Int64))), .second, .unset, .unset, .unset, .unset] []))
    refine own_by (fun t k => XS.goto X0.here hx rfl (pc0 := 12) (pc' := 78) rfl (hb hby at_12) (by decide) (by decide) k) ?_
    exact JA _ (own_cap q1)
  · refine own_by (fun t k => XS.ifYes X0.here hx rfl (pc0 := 3) (pc' := 15) rfl (hb hby at_3) rfl ((if0 _ _).trans (feq hc3).2) (by decide) (by decide) k) ?_
    show own_Go _ _ _ _ (s₁.setTop (mkF m 15 #[.val (.long q1), .second, .val (.int p2), .unset, .unset, .unset, .unset, .unset, .unset] []))
    refine own_by (fun t k => XS.iloadN X0.here hx rfl (hb hby at_15) rfl k) ?_
    show own_Go _ _ _ _ (s₁.setTop (mkF m 16 #[.val (.long q1), .second, .val (.int p2), .unset, .unset, .unset, .unset, .unset, .unset] [(.int p2)]))
    refine own_by (fun t k => XS.iconst X0.here hx rfl (hb hby at_16) k) ?_
    show own_Go _ _ _ _ (s₁.setTop (mkF m 17 #[.val (.long q1), .second, .val (.int p2), .unset, .unset, .unset, .unset, .unset, .unset] [(.int (1 : Int32)), (.int p2)]))
    refine own_by (fun t k => XS.iushr X0.here hx rfl (hb hby at_17) rfl k) ?_
    show own_Go _ _ _ _ (s₁.setTop (mkF m 18 #[.val (.long q1), .second, .val (.int p2), .unset, .unset, .unset, .unset, .unset, .unset] [(.int ((p2.toUInt32 >>> ((1 : Int32) &&& 31).toUInt32).toInt32))]))
    refine own_by (fun t k => XS.iconst X0.here hx rfl (hb hby at_18) k) ?_
    show own_Go _ _ _ _ (s₁.setTop (mkF m 19 #[.val (.long q1), .second, .val (.int p2), .unset, .unset, .unset, .unset, .unset, .unset] [(.int (3 : Int32)), (.int ((p2.toUInt32 >>> ((1 : Int32) &&& 31).toUInt32).toInt32))]))
    refine own_by (fun t k => iremM X0 hx rfl (hb hby at_19) rfl (by decide : ¬ ((3 : Int32) = (0 : Int32))) k) ?_
    show own_Go _ _ _ _ (s₁.setTop (mkF m 20 #[.val (.long q1), .second, .val (.int p2), .unset, .unset, .unset, .unset, .unset, .unset] [(.int (((p2.toUInt32 >>> ((1 : Int32) &&& 31).toUInt32).toInt32) % (3 : Int32)))]))
    refine own_by (fun t k => XS.istore X0.here hx rfl (hb hby at_20) rfl (l' := #[.val (.long q1), .second, .val (.int p2), .unset, .unset, .val (.int (((p2.toUInt32 >>> ((1 : Int32) &&& 31).toUInt32).toInt32) % (3 : Int32))), .unset, .unset, .unset]) rfl k) ?_
    show own_Go _ _ _ _ (s₁.setTop (mkF m 22 #[.val (.long q1), .second, .val (.int p2), .unset, .unset, .val (.int (((p2.toUInt32 >>> ((1 : Int32) &&& 31).toUInt32).toInt32) % (3 : Int32))), .unset, .unset, .unset] []))
    refine own_by (fun t k => XS.iload X0.here hx rfl (hb hby at_22) rfl k) ?_
    show own_Go _ _ _ _ (s₁.setTop (mkF m 24 #[.val (.long q1), .second, .val (.int p2), .unset, .unset, .val (.int (((p2.toUInt32 >>> ((1 : Int32) &&& 31).toUInt32).toInt32) % (3 : Int32))), .unset, .unset, .unset] [(.int (((p2.toUInt32 >>> ((1 : Int32) &&& 31).toUInt32).toInt32) % (3 : Int32)))]))
    by_cases hc24 : (((p2.toUInt32 >>> ((1 : Int32) &&& 31).toUInt32).toInt32) % (3 : Int32)) = (0 : Int32)
    · refine own_by (fun t k => XS.ifNo X0.here hx rfl (hb hby at_24) rfl ((if0 _ _).trans (teq hc24).2) k) ?_
      show own_Go _ _ _ _ (s₁.setTop (mkF m 27 #[.val (.long q1), .second, .val (.int p2), .unset, .unset, .val (.int (((p2.toUInt32 >>> ((1 : Int32) &&& 31).toUInt32).toInt32) % (3 : Int32))), .unset, .unset, .unset] []))
      refine own_by (fun t k => XS.bipush X0.here hx rfl (hb hby at_27) k) ?_
      show own_Go _ _ _ _ (s₁.setTop (mkF m 29 #[.val (.long q1), .second, .val (.int p2), .unset, .unset, .val (.int (((p2.toUInt32 >>> ((1 : Int32) &&& 31).toUInt32).toInt32) % (3 : Int32))), .unset, .unset, .unset] [(.int (8 : Int32))]))
      refine own_by (fun t k => XS.goto X0.here hx rfl (pc0 := 29) (pc' := 45) rfl (hb hby at_29) (by decide) (by decide) k) ?_
      exact JC _ _
    · refine own_by (fun t k => XS.ifYes X0.here hx rfl (pc0 := 24) (pc' := 32) rfl (hb hby at_24) rfl ((if0 _ _).trans (feq hc24).2) (by decide) (by decide) k) ?_
      show own_Go _ _ _ _ (s₁.setTop (mkF m 32 #[.val (.long q1), .second, .val (.int p2), .unset, .unset, .val (.int (((p2.toUInt32 >>> ((1 : Int32) &&& 31).toUInt32).toInt32) % (3 : Int32))), .unset, .unset, .unset] []))
      refine own_by (fun t k => XS.iload X0.here hx rfl (hb hby at_32) rfl k) ?_
      show own_Go _ _ _ _ (s₁.setTop (mkF m 34 #[.val (.long q1), .second, .val (.int p2), .unset, .unset, .val (.int (((p2.toUInt32 >>> ((1 : Int32) &&& 31).toUInt32).toInt32) % (3 : Int32))), .unset, .unset, .unset] [(.int (((p2.toUInt32 >>> ((1 : Int32) &&& 31).toUInt32).toInt32) % (3 : Int32)))]))
      refine own_by (fun t k => XS.iconst X0.here hx rfl (hb hby at_34) k) ?_
      show own_Go _ _ _ _ (s₁.setTop (mkF m 35 #[.val (.long q1), .second, .val (.int p2), .unset, .unset, .val (.int (((p2.toUInt32 >>> ((1 : Int32) &&& 31).toUInt32).toInt32) % (3 : Int32))), .unset, .unset, .unset] [(.int (1 : Int32)), (.int (((p2.toUInt32 >>> ((1 : Int32) &&& 31).toUInt32).toInt32) % (3 : Int32)))]))
      by_cases hc35 : (((p2.toUInt32 >>> ((1 : Int32) &&& 31).toUInt32).toInt32) % (3 : Int32)) = (1 : Int32)
      · refine own_by (fun t k => XS.icmpNo X0.here hx rfl (hb hby at_35) rfl (teq hc35).2 k) ?_
        show own_Go _ _ _ _ (s₁.setTop (mkF m 38 #[.val (.long q1), .second, .val (.int p2), .unset, .unset, .val (.int (((p2.toUInt32 >>> ((1 : Int32) &&& 31).toUInt32).toInt32) % (3 : Int32))), .unset, .unset, .unset] []))
        refine own_by (fun t k => XS.bipush X0.here hx rfl (hb hby at_38) k) ?_
        show own_Go _ _ _ _ (s₁.setTop (mkF m 40 #[.val (.long q1), .second, .val (.int p2), .unset, .unset, .val (.int (((p2.toUInt32 >>> ((1 : Int32) &&& 31).toUInt32).toInt32) % (3 : Int32))), .unset, .unset, .unset] [(.int (16 : Int32))]))
        refine own_by (fun t k => XS.goto X0.here hx rfl (pc0 := 40) (pc' := 45) rfl (hb hby at_40) (by decide) (by decide) k) ?_
        exact JC _ _
      · refine own_by (fun t k => XS.icmpYes X0.here hx rfl (pc0 := 35) (pc' := 43) rfl (hb hby at_35) rfl (feq hc35).2 (by decide) (by decide) k) ?_
        show own_Go _ _ _ _ (s₁.setTop (mkF m 43 #[.val (.long q1), .second, .val (.int p2), .unset, .unset, .val (.int (((p2.toUInt32 >>> ((1 : Int32) &&& 31).toUInt32).toInt32) % (3 : Int32))), .unset, .unset, .unset] []))
        refine own_by (fun t k => XS.bipush X0.here hx rfl (hb hby at_43) k) ?_
        exact JC _ _
set_option maxRecDepth 65536 in
set_option maxHeartbeats 40000000 in
theorem comes_1 {Post : Tables → Env → Array Value → State → Outcome → State → Prop} (hpost : ∀ tb e args s v u, (limb_1_1.after args s (.returned v) u = true ∧ limb_1_2.after args s (.returned v) u = true ∧ True) → FrameEnd s (.returned v) u (Jvm.fieldLocs frame_1_writes args s ++ Jvm.arrayLocs frame_1_arrays args s ++ Jvm.staticLocs frame_1_statics s) 0 0 → Post tb e args s (.returned v) u) :
    ArmFor flags0 classFile x code maxLocals ret World_1 tables_1 room_1 Calls_1 rest_1 Pre_1 Post := by
  intro l hfl _ _ p e ha hc hk s m args below hf hA hF happ hP
  obtain ⟨hcalls, hrest, hpre⟩ := hP
  obtain ⟨-, -, -, hnamed, -, -, -, hat⟩ := (Spec.applies_iff hf).mp happ
  obtain ⟨hg, hn⟩ := and_e (Cond.before_iff.mp (show (Jvm.Cond.and given_1 narrow_1).before args s = true from hpre))
  obtain ⟨gc, gr0⟩ := and_e hg
  obtain ⟨ga0, gr1⟩ := and_e gr0
  obtain ⟨w0, w1, rfl⟩ : ∃ w0 w1 : Value, args = #[w0, w1] := by
    have hs : args.size = 2 := by simpa [Cond.value, given_1] using gc
    obtain ⟨L⟩ := args
    match L, hs with
    | [w0, w1], _ => exact ⟨w0, w1, rfl⟩
  have hw := fun d (hd : d ∈ tables_1) => atoms_spec (ws := Jvm.Cond.code x code maxLocals ret :: tables_1) hat d (List.mem_cons_of_mem _ hd)
  obtain ⟨i0, ei0⟩ := isL_v ga0
  obtain rfl : w0 = (.long i0) := Option.some.inj ei0
  obtain ⟨i1, ei1⟩ := is_v gr1
  obtain rfl : w1 = (.int i1) := Option.some.inj ei1
  obtain ⟨n, o, h1, h2, h3, _, L, rfl, ⟨rfl, N⟩, hq⟩ := rm0 l s _ hw tables_1 i0 i1 s.heap s.heap.size (Nat.le_refl _) p e ha hc hk s m _ below hf ((Spec.applies_iff_loose hf).mp happ).1 ⟨rfl, State.Warmed39.refl s, rfl⟩ trivial
  refine ⟨n, _, h1, h2, h3, hpost _ _ _ _ _ _ ⟨Cond.after_iff.mpr rfl, Cond.after_iff.mpr (eq_i res_at (Term.int_eval (1)) rfl), trivial⟩ ⟨hq.1, hq.2.1, (hq.2.2.sift fun y hy => Or.inr (N y hy)).mono (by decide) (by decide)⟩⟩
theorem main_1_1 : Claimed_1_1 := comes_1 fun _ _ _ _ _ _ h hF => ⟨h.1, hF⟩
theorem main_1_2 : Claimed_1_2 := comes_1 fun _ _ _ _ _ _ h hF => ⟨h.2.1, hF⟩
end Jvm.Pilot.@@N@@
namespace Jvm.Pilot.@@N@@
open Jvm Jvm.ClassFile Sem Op Lib Jvm.Free Jvm.Stand Jvm.Pilot.@@N@@.Jvm.D
/-! MADE BY PROGRAM (witnessworld.py) out of the Statement's table words and the real class files: 9 classes; the members and pool entries that the words name. The judged class is class 1, her method 1. -/
namespace start1
open Jvm.ClassFile
def u (s : String) : CpInfo := .utf8 (stringToUtf16 s)
/-- a pool by its gaps: so many unusable entries, then the entry; so many at the end -/
def gap : Nat → List CpInfo → List CpInfo
  | 0, r => r
  | n + 1, r => .unusable :: gap n r
def poolList (es : List (Nat × CpInfo)) (last : Nat) : List CpInfo := es.foldr (fun e r => gap e.1 (e.2 :: r)) (gap last [])
def pool (es : List (Nat × CpInfo)) (last : Nat) : Array CpInfo := ⟨poolList es last⟩
def fileOf (pool : Array CpInfo) (this : Nat) (attrs : Array Attribute := #[]) (ms : Array MethodInfo := #[]) (fl : Nat := 33) (sup : Nat := 0) (ifs : Array Nat := #[]) (fds : Array FieldInfo := #[]) : ClassFile where
  minorVersion := 0
  majorVersion := 65
  constantPool := pool
  accessFlags := fl
  thisClass := this
  superClass := sup
  interfaces := ifs
  fields := fds
  methods := ms
  attributes := attrs
def plain (name : String) (sup : Option ClassId) : Class where
  name := name
  kind := .ordinary
  loader := none
  accessFlags := 33
  super := sup
  interfaces := #[]
  cf := none
  fields := #[]
  methods := #[]
  instanceTypes := #[]
  staticTypes := #[]
  resolved := #[]
  callSites := []
  init := .initialized
  statics := none
  mirror := none

def pool0 : Array CpInfo := pool [(5, u "<init>"), (0, u "()V"), (1, .class_ 10), (1, u "java/lang/Object")] 113

def k0m0 : Method := { name := "<init>", desc := "()V", sig := { parameters := [], returnType := none }, accessFlags := 1, code := none }
/-- java/lang/Object -/
def k0 : Class := { plain "java/lang/Object" none with
  accessFlags := 33
  interfaces := #[]
  cf := some (fileOf pool0 8 #[] #[{ accessFlags := 1, nameIndex := 5, descriptorIndex := 6, attributes := #[] }] 33 0 #[] #[])
  fields := #[]
  methods := #[k0m0]
  instanceTypes := #[]
  staticTypes := #[]
  resolved := Array.replicate 124 none
  statics := none }

def pool1 : Array CpInfo := pool [(2, .class_ 4), (1, u "java/lang/Object"), (0, u "<init>"), (0, u "()V"), (0, .long 4294967295), (1, .methodref 10 11), (0, .class_ 12), (0, .nameAndType 13 14), (0, u "com/example/techwood/techwood/Column"), (0, u "widthOf"), (0, u "(J)I"), (0, .class_ 16), (0, u "com/example/techwood/techwood/ColumnWidthOfPinLaw"), (2, u "law"), (0, u "(JI)Z")] 3

def k1m0 : Method := { name := "<init>", desc := "()V", sig := { parameters := [], returnType := none }, accessFlags := 2, code := none }
def k1c1 : Code := { maxStack := 6, maxLocals := 9, code := code, exceptionTable := #[], attributes := #[] }
def k1m1 : Method := { name := "law", desc := "(JI)Z", sig := { parameters := [.long, .int], returnType := some .boolean }, accessFlags := 9, code := some k1c1 }
/-- com/example/techwood/techwood/ColumnWidthOfPinLaw -/
def k1 : Class := { plain "com/example/techwood/techwood/ColumnWidthOfPinLaw" (some 0) with
  accessFlags := 49
  interfaces := #[]
  cf := some (fileOf pool1 15 #[] #[{ accessFlags := 2, nameIndex := 5, descriptorIndex := 6, attributes := #[] }, { accessFlags := 9, nameIndex := 19, descriptorIndex := 20, attributes := #[] }] 49 2 #[] #[])
  fields := #[]
  methods := #[k1m0, k1m1]
  instanceTypes := #[]
  staticTypes := #[]
  resolved := Array.replicate 24 none
  statics := none }

def pool2 : Array CpInfo := pool [(4, .class_ 6), (1, u "java/lang/Object"), (3, .class_ 12), (1, u "com/example/techwood/techwood/Column"), (0, u "bytes"), (0, u "[B"), (2, u "offset"), (0, u "I"), (2, u "length"), (2, u "width"), (0, .class_ 26), (0, u "com/example/techwood/techwood/Column$Builder"), (26, .long 256), (1, .long 65536), (69, u "INT"), (0, u "Ljava/lang/invoke/VarHandle;"), (7, u "WIDTHS"), (0, u "[I"), (17, u "SHORT"), (0, u "PAD"), (2, u "CHUNK"), (8, u "widthOf"), (0, u "(J)I")] 47

def k2c0 : Code := { maxStack := 4, maxLocals := 2, code := prog_8_method_4_code, exceptionTable := #[], attributes := #[] }
def k2m0 : Method := { name := "widthOf", desc := "(J)I", sig := { parameters := [.long], returnType := some .int }, accessFlags := 8, code := some k2c0 }
/-- com/example/techwood/techwood/Column -/
def k2 : Class := { plain "com/example/techwood/techwood/Column" (some 0) with
  accessFlags := 48
  interfaces := #[]
  cf := some (fileOf pool2 10 #[.nestMembers #[25]] #[{ accessFlags := 8, nameIndex := 166, descriptorIndex := 167, attributes := #[] }] 48 4 #[] #[{ accessFlags := 24, nameIndex := 134, descriptorIndex := 135, attributes := #[] }, { accessFlags := 26, nameIndex := 154, descriptorIndex := 18, attributes := #[] }, { accessFlags := 26, nameIndex := 125, descriptorIndex := 126, attributes := #[] }, { accessFlags := 26, nameIndex := 153, descriptorIndex := 126, attributes := #[] }, { accessFlags := 26, nameIndex := 157, descriptorIndex := 18, attributes := #[] }, { accessFlags := 18, nameIndex := 13, descriptorIndex := 14, attributes := #[] }, { accessFlags := 18, nameIndex := 17, descriptorIndex := 18, attributes := #[] }, { accessFlags := 18, nameIndex := 21, descriptorIndex := 18, attributes := #[] }, { accessFlags := 18, nameIndex := 24, descriptorIndex := 18, attributes := #[] }])
  fields := #[{ name := "WIDTHS", type := (.array .int), accessFlags := 24, slot := 0, constantValue := 0 }, { name := "PAD", type := .int, accessFlags := 26, slot := 1, constantValue := 0 }, { name := "INT", type := (.object "java/lang/invoke/VarHandle"), accessFlags := 26, slot := 2, constantValue := 0 }, { name := "SHORT", type := (.object "java/lang/invoke/VarHandle"), accessFlags := 26, slot := 3, constantValue := 0 }, { name := "CHUNK", type := .int, accessFlags := 26, slot := 4, constantValue := 0 }, { name := "bytes", type := (.array .byte), accessFlags := 18, slot := 0, constantValue := 0 }, { name := "offset", type := .int, accessFlags := 18, slot := 1, constantValue := 0 }, { name := "length", type := .int, accessFlags := 18, slot := 2, constantValue := 0 }, { name := "width", type := .int, accessFlags := 18, slot := 3, constantValue := 0 }]
  methods := #[k2m0]
  instanceTypes := #[(.array .byte), .int, .int, .int]
  staticTypes := #[(.array .int), .int, (.object "java/lang/invoke/VarHandle"), (.object "java/lang/invoke/VarHandle"), .int]
  resolved := Array.replicate 215 none
  statics := none }

def pool3 : Array CpInfo := pool [(1, u "java/lang/Cloneable"), (0, .class_ 1), (0, u "java/lang/Object"), (0, .class_ 3)] 3

/-- java/lang/Cloneable -/
def k3 : Class := { plain "java/lang/Cloneable" (some 0) with
  accessFlags := 1537
  interfaces := #[]
  cf := some (fileOf pool3 2 #[] #[] 1537 4 #[] #[])
  fields := #[]
  methods := #[]
  instanceTypes := #[]
  staticTypes := #[]
  resolved := Array.replicate 8 none
  statics := none }

def pool4 : Array CpInfo := pool [(1, u "java/io/Serializable"), (0, .class_ 1), (0, u "java/lang/Object"), (0, .class_ 3)] 3

/-- java/io/Serializable -/
def k4 : Class := { plain "java/io/Serializable" (some 0) with
  accessFlags := 1537
  interfaces := #[]
  cf := some (fileOf pool4 2 #[] #[] 1537 4 #[] #[])
  fields := #[]
  methods := #[]
  instanceTypes := #[]
  staticTypes := #[]
  resolved := Array.replicate 8 none
  statics := none }

/-- the primitive byte -/
def k5 : Class := { plain "byte" none with kind := .primitive 'B', accessFlags := 0x411 }
/-- [B -/
def k6 : Class := { plain "[B" (some 0) with kind := .array 5 .byte, interfaces := #[3, 4], accessFlags := 1041 }

/-- the primitive int -/
def k7 : Class := { plain "int" none with kind := .primitive 'I', accessFlags := 0x411 }
/-- [I -/
def k8 : Class := { plain "[I" (some 0) with kind := .array 7 .int, interfaces := #[3, 4], accessFlags := 1041 }

def heap : Heap := #[]
def classes : Array Class := #[k0, k1, k2, k3, k4, k5, k6, k7, k8]
def interned : List (Array UInt16 × Addr) := []
def slotsUsed : Nat := 0
def theMethod : MethodId := ⟨1, 1⟩
def args0 : Array Value := #[.long 5, .int 7]
def aboutOver (below : List Frame) : State where
  vm := { classes := classes, interned := interned.toArray }
  heap := heap
  slotsUsed := slotsUsed
  threads := #[{ frames := .invoking theMethod args0 :: below }]
def below0 : List Frame := [.native { method := ⟨0, 0⟩, args := #[] }]
def about1 : State := aboutOver below0
def p0 : Program := .bare "" "" ""
def e0 : Env := launch0.env 0 0 0
theorem w_frames : about1.frames = Frame.invoking theMethod args0 :: below0 := rfl
set_option maxRecDepth 65536 in
theorem w_args : argsFit about1.vm theMethod args0 = true := by decide +kernel
set_option maxRecDepth 65536 in
theorem w_heap : heapFits about1 = true := by decide +kernel
set_option maxRecDepth 65536 in
theorem w_runnable : about1.curStatus? = some .runnable := by decide +kernel
set_option maxRecDepth 65536 in
theorem w_alone : about1.alone = true := by decide +kernel
set_option maxRecDepth 65536 in
theorem w_named : about1.methodNamed? x = some theMethod := by decide +kernel
set_option maxRecDepth 65536 in
theorem w_hears : about1.hears theMethod below0 = true := by decide +kernel
set_option maxRecDepth 65536 in
theorem w_ripe : about1.ripe theMethod args0 below0 = true := by decide +kernel
theorem w_running : about1.status = .running := rfl
set_option maxRecDepth 65536 in
theorem w_room : about1.hasRoom e0.platform room_1 = true :=
  launch0.hasRoom_least _ room_1 (by decide +kernel) (by decide +kernel) (by decide +kernel) (by decide +kernel) (by decide +kernel) (by decide +kernel)
theorem allAtoms_all (ts : List Jvm.Cond) (a : Array Jvm.Value) (st : Jvm.State) : (allAtoms ts).before a st = ts.all (fun c => c.before a st) := by
  induction ts with
  | nil => rfl
  | cons c t ih =>
    show (Jvm.Cond.and c (allAtoms t)).before a st = _
    rw [Jvm.Cond.before_and, ih, List.all_cons]
def words1 : List Jvm.Cond := Jvm.Cond.code x code maxLocals ret :: tables_1
/-- a 'code' word, met by the world's own term for the bytes: nothing is compared byte by byte -/
theorem code_word {y : MethodName} {bytes : ByteArray} {mx : Nat} {rt : Option FieldType} {a : Array Value} {s : State} {m : MethodId} {meth : Method} {c : Code} (h1 : s.methodNamed? y = some m) (h2 : s.vm.method? m = some meth) (h3 : meth.code = some c) (h4 : c.code = bytes)
    (h5 : (c.maxLocals == mx && c.exceptionTable.isEmpty && decide (c.maxStack ≤ mostOperands) && decide (meth.sig.returnType = rt) && !meth.locks && decide (parseMethodDescriptor y.desc = some meth.sig)) = true) : (Jvm.Cond.code y bytes mx rt).before a s = true := by
  simp only [Bool.and_eq_true, beq_iff_eq, Bool.not_eq_true', decide_eq_true_eq] at h5
  obtain ⟨⟨⟨⟨⟨g1, g2⟩, g3⟩, g4⟩, g5⟩, g6⟩ := h5
  simp [Cond.before, Cond.holds, Cond.value, h1, h2, h3, h4, g1, g2, g3, g4, g5, g6]
def isCode : Jvm.Cond → Bool
  | .code _ _ _ _ => true
  | _ => false
theorem all_split {L : List Jvm.Cond} {P : Jvm.Cond → Bool} (h1 : L.all (fun c => isCode c || P c) = true) (h2 : ∀ c ∈ L.filter isCode, P c = true) : L.all P = true := by
  refine List.all_eq_true.mpr fun c hc => ?_
  have h := List.all_eq_true.mp h1 c hc
  rcases Bool.eq_false_or_eq_true (isCode c) with hi | hi
  · exact h2 c (List.mem_filter.mpr ⟨hc, hi⟩)
  · simpa [hi] using h
set_option maxRecDepth 65536 in
theorem w_c0 : (Jvm.Cond.code x code maxLocals ret).before args0 about1 = true := code_word (m := ⟨1, 1⟩) (meth := k1m1) (c := k1c1) (by decide +kernel) rfl rfl rfl (by decide +kernel)
set_option maxRecDepth 65536 in
theorem w_c1 : (Jvm.Cond.code ({ cls := "com/example/techwood/techwood/Column", name := "widthOf", desc := "(J)I" } : Jvm.MethodName) prog_8_method_4_code (2 : Nat) (Option.some Jvm.ClassFile.FieldType.int)).before args0 about1 = true := code_word (m := ⟨2, 0⟩) (meth := k2m0) (c := k2c0) (by decide +kernel) rfl rfl rfl (by decide +kernel)
def codes1 : List Jvm.Cond := [Jvm.Cond.code x code maxLocals ret, Jvm.Cond.code ({ cls := "com/example/techwood/techwood/Column", name := "widthOf", desc := "(J)I" } : Jvm.MethodName) prog_8_method_4_code (2 : Nat) (Option.some Jvm.ClassFile.FieldType.int)]
set_option maxRecDepth 65536 in
theorem codes_eq : words1.filter isCode = codes1 := rfl
theorem w_codes : ∀ c ∈ words1.filter isCode, c.before args0 about1 = true := by
  rw [codes_eq]
  intro c hc
  simp only [codes1, List.mem_cons, List.not_mem_nil, or_false] at hc
  rcases hc with rfl | rfl
  · exact w_c0
  · exact w_c1
set_option maxRecDepth 65536 in
theorem w_t1 : words1.all (fun c => isCode c || c.before args0 about1) = true := by decide +kernel
theorem w_tables : (allAtoms (Jvm.Cond.code x code maxLocals ret :: tables_1)).before args0 about1 = true := by
  rw [allAtoms_all]
  show words1.all (fun c => c.before args0 about1) = true
  refine all_split ?_ w_codes
  rw [w_t1]
set_option maxRecDepth 65536 in
theorem w_case : (Jvm.Cond.and given_1 narrow_1).before args0 about1 = true := by decide +kernel
theorem w_applies : (headSpec (Jvm.Cond.code x code maxLocals ret :: tables_1) room_1).applies x e0.platform about1 = true :=
  (Spec.applies_iff w_frames).mpr ⟨w_running, w_runnable, w_alone, w_named, w_hears, w_ripe, w_room, w_tables⟩
theorem atStart : AtStart classFile x code maxLocals ret World_1 tables_1 room_1 Calls_1 rest_1 Pre_1 launch0 p0 e0 about1 theMethod args0 below0 :=
  ⟨lists_1, trivial, launch0.admits_env _ _ _, launch0.least_env, fairChoices_fair.cas, fairChoices_fair.clock, w_frames, w_args, w_heap, w_applies, trivial, trivial, w_case⟩
end start1
theorem witness_1 : WitnessClaimed_1 := ⟨start1.p0, start1.e0, start1.about1, start1.theMethod, start1.args0, start1.below0, start1.atStart⟩
end Jvm.Pilot.@@N@@
