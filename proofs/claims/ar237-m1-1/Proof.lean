import JvmDerived
import JvmDerived.Pilot.@@N@@Statement
import JvmDerived.Pilot.@@N@@Code
set_option linter.unusedVariables false
set_option linter.unusedSimpArgs false
namespace Jvm.Pilot.@@N@@
open Jvm Jvm.ClassFile Sem Op Lib Jvm.Free Jvm.Stand Jvm.LawKit Jvm.RoadKit Bundle Jvm.Pilot.@@N@@.Jvm.D
/-! the end of a walk, as a goal that forks and joins can be walked under -/
def own_Go (tb : Tables) (e : Env) (below : List Frame) (P : Outcome → State → Prop) (T : State) : Prop := ∃ s₂ o, Steps tb e below T s₂ ∧ s₂.status = .running ∧ Ended s₂ below o ∧ P o s₂
theorem own_by {tb : Tables} {e : Env} {below : List Frame} {P : Outcome → State → Prop} {T T' : State} (h : ∀ t, Steps tb e below T' t → Steps tb e below T t) (g : own_Go tb e below P T') : own_Go tb e below P T := by
  obtain ⟨s2, o, h1, h2⟩ := g
  exact ⟨s2, o, h _ h1, h2⟩
/-! the number of 7-bit groups, as the thresholds say it, and less one, by the unsigned value -/
def own_r (n : Int64) : Int32 := if n < (0 : Int64) then 10 else if n < (128 : Int64) then 1 else if n < (16384 : Int64) then 2 else if n < (2097152 : Int64) then 3 else if n < (268435456 : Int64) then 4 else if n < (34359738368 : Int64) then 5 else if n < (4398046511104 : Int64) then 6 else if n < (562949953421312 : Int64) then 7 else if n < (72057594037927936 : Int64) then 8 else 9
def own_g (N : Int) : Int32 := if N < 128 then 0 else if N < 16384 then 1 else if N < 2097152 then 2 else if N < 268435456 then 3 else if N < 34359738368 then 4 else if N < 4398046511104 then 5 else if N < 562949953421312 then 6 else if N < 72057594037927936 then 7 else if N < 9223372036854775808 then 8 else 9
def own_N (v : Int64) : Int := v.toInt % 18446744073709551616
theorem own_N_nat (v : Int64) : own_N v = v.toBitVec.toNat := by
  have h := v.toBitVec.isLt
  show v.toBitVec.toInt % 18446744073709551616 = _
  rw [BitVec.toInt_eq_toNat_cond]
  split <;> omega
theorem own_and (v : Int64) : v &&& (-128 : Int64) = (0 : Int64) ↔ own_N v < 128 := by
  rw [own_N_nat, ← Int64.toBitVec_inj]
  show v.toBitVec &&& (-128 : Int64).toBitVec = (0 : Int64).toBitVec ↔ _
  have e1 : (-128 : Int64).toBitVec = ~~~((BitVec.ofNat 64 127)) := by decide
  have e2 : (0 : Int64).toBitVec = (BitVec.ofNat 64 0) := by decide
  rw [e1, e2]
  generalize v.toBitVec = b
  have hm : (b &&& (BitVec.ofNat 64 127)).toNat = b.toNat % 128 := by
    rw [BitVec.toNat_and, show ((BitVec.ofNat 64 127)).toNat = 2 ^ 7 - 1 from by decide, Nat.and_two_pow_sub_one_eq_mod]
  have hall : (b &&& ~~~((BitVec.ofNat 64 127))) ||| (b &&& (BitVec.ofNat 64 127)) = b := by
    rw [← BitVec.and_or_distrib_left, show (~~~((BitVec.ofNat 64 127)) ||| (BitVec.ofNat 64 127)) = BitVec.allOnes 64 from by decide, BitVec.and_allOnes]
  constructor
  · intro h
    rw [h, BitVec.zero_or] at hall
    rw [hall] at hm
    omega
  · intro h
    have hb : b &&& (BitVec.ofNat 64 127) = b := BitVec.eq_of_toNat_eq (by rw [hm]; omega)
    rw [← hb, BitVec.and_assoc, show ((BitVec.ofNat 64 127) &&& ~~~((BitVec.ofNat 64 127))) = (BitVec.ofNat 64 0) from by decide, BitVec.and_zero]
theorem own_sh (v : Int64) : own_N ((v.toUInt64 >>> ((7 : Int32) &&& 0x3f).toInt64.toUInt64).toInt64) = own_N v / 128 := by
  have h := c_lushr v 7 7 (by decide) (by decide)
  unfold own_N
  rw [h]
  show (v.toInt % 18446744073709551616 / 128) % 18446744073709551616 = _
  omega
theorem own_g_lo (N : Int) (h : N < 128) : own_g N = 0 := if_pos h
theorem own_g_hi (N : Int) (h0 : ¬ N < 128) (h1 : N < 18446744073709551616) : own_g N = 1 + own_g (N / 128) := by
  unfold own_g
  rw [if_neg h0]
  by_cases q14 : N < 16384
  · rw [if_pos q14, if_pos (show N / 128 < 128 by omega)]; rfl
  rw [if_neg q14]
  by_cases q21 : N < 2097152
  · rw [if_pos q21, if_neg (show ¬ N / 128 < 128 by omega), if_pos (show N / 128 < 16384 by omega)]; rfl
  rw [if_neg q21]
  by_cases q28 : N < 268435456
  · rw [if_pos q28, if_neg (show ¬ N / 128 < 128 by omega), if_neg (show ¬ N / 128 < 16384 by omega), if_pos (show N / 128 < 2097152 by omega)]; rfl
  rw [if_neg q28]
  by_cases q35 : N < 34359738368
  · rw [if_pos q35, if_neg (show ¬ N / 128 < 128 by omega), if_neg (show ¬ N / 128 < 16384 by omega), if_neg (show ¬ N / 128 < 2097152 by omega), if_pos (show N / 128 < 268435456 by omega)]; rfl
  rw [if_neg q35]
  by_cases q42 : N < 4398046511104
  · rw [if_pos q42, if_neg (show ¬ N / 128 < 128 by omega), if_neg (show ¬ N / 128 < 16384 by omega), if_neg (show ¬ N / 128 < 2097152 by omega), if_neg (show ¬ N / 128 < 268435456 by omega), if_pos (show N / 128 < 34359738368 by omega)]; rfl
  rw [if_neg q42]
  by_cases q49 : N < 562949953421312
  · rw [if_pos q49, if_neg (show ¬ N / 128 < 128 by omega), if_neg (show ¬ N / 128 < 16384 by omega), if_neg (show ¬ N / 128 < 2097152 by omega), if_neg (show ¬ N / 128 < 268435456 by omega), if_neg (show ¬ N / 128 < 34359738368 by omega), if_pos (show N / 128 < 4398046511104 by omega)]; rfl
  rw [if_neg q49]
  by_cases q56 : N < 72057594037927936
  · rw [if_pos q56, if_neg (show ¬ N / 128 < 128 by omega), if_neg (show ¬ N / 128 < 16384 by omega), if_neg (show ¬ N / 128 < 2097152 by omega), if_neg (show ¬ N / 128 < 268435456 by omega), if_neg (show ¬ N / 128 < 34359738368 by omega), if_neg (show ¬ N / 128 < 4398046511104 by omega), if_pos (show N / 128 < 562949953421312 by omega)]; rfl
  rw [if_neg q56]
  by_cases q63 : N < 9223372036854775808
  · rw [if_pos q63, if_neg (show ¬ N / 128 < 128 by omega), if_neg (show ¬ N / 128 < 16384 by omega), if_neg (show ¬ N / 128 < 2097152 by omega), if_neg (show ¬ N / 128 < 268435456 by omega), if_neg (show ¬ N / 128 < 34359738368 by omega), if_neg (show ¬ N / 128 < 4398046511104 by omega), if_neg (show ¬ N / 128 < 562949953421312 by omega), if_pos (show N / 128 < 72057594037927936 by omega)]; rfl
  rw [if_neg q63]
  rw [if_neg (show ¬ N / 128 < 128 by omega), if_neg (show ¬ N / 128 < 16384 by omega), if_neg (show ¬ N / 128 < 2097152 by omega), if_neg (show ¬ N / 128 < 268435456 by omega), if_neg (show ¬ N / 128 < 34359738368 by omega), if_neg (show ¬ N / 128 < 4398046511104 by omega), if_neg (show ¬ N / 128 < 562949953421312 by omega), if_neg (show ¬ N / 128 < 72057594037927936 by omega), if_pos (show N / 128 < 9223372036854775808 by omega)]; rfl
theorem own_r_g (n : Int64) : own_r n = 1 + own_g (own_N n) := by
  have h1 := rng64 n
  have e0 : (0 : Int64).toInt = 0 := by decide
  have e7 : (128 : Int64).toInt = 128 := by decide
  have e14 : (16384 : Int64).toInt = 16384 := by decide
  have e21 : (2097152 : Int64).toInt = 2097152 := by decide
  have e28 : (268435456 : Int64).toInt = 268435456 := by decide
  have e35 : (34359738368 : Int64).toInt = 34359738368 := by decide
  have e42 : (4398046511104 : Int64).toInt = 4398046511104 := by decide
  have e49 : (562949953421312 : Int64).toInt = 562949953421312 := by decide
  have e56 : (72057594037927936 : Int64).toInt = 72057594037927936 := by decide
  unfold own_r own_g own_N
  simp only [Int64.lt_iff_toInt_lt, e0, e7, e14, e21, e28, e35, e42, e49, e56]
  by_cases q0 : n.toInt < 0
  · rw [if_pos q0, if_neg (show ¬ n.toInt % 18446744073709551616 < 128 by omega), if_neg (show ¬ n.toInt % 18446744073709551616 < 16384 by omega), if_neg (show ¬ n.toInt % 18446744073709551616 < 2097152 by omega), if_neg (show ¬ n.toInt % 18446744073709551616 < 268435456 by omega), if_neg (show ¬ n.toInt % 18446744073709551616 < 34359738368 by omega), if_neg (show ¬ n.toInt % 18446744073709551616 < 4398046511104 by omega), if_neg (show ¬ n.toInt % 18446744073709551616 < 562949953421312 by omega), if_neg (show ¬ n.toInt % 18446744073709551616 < 72057594037927936 by omega), if_neg (show ¬ n.toInt % 18446744073709551616 < 9223372036854775808 by omega)]; rfl
  rw [if_neg q0]
  by_cases q7 : n.toInt < 128
  · rw [if_pos q7, if_pos (show n.toInt % 18446744073709551616 < 128 by omega)]; rfl
  rw [if_neg q7]
  by_cases q14 : n.toInt < 16384
  · rw [if_pos q14, if_neg (show ¬ n.toInt % 18446744073709551616 < 128 by omega), if_pos (show n.toInt % 18446744073709551616 < 16384 by omega)]; rfl
  rw [if_neg q14]
  by_cases q21 : n.toInt < 2097152
  · rw [if_pos q21, if_neg (show ¬ n.toInt % 18446744073709551616 < 128 by omega), if_neg (show ¬ n.toInt % 18446744073709551616 < 16384 by omega), if_pos (show n.toInt % 18446744073709551616 < 2097152 by omega)]; rfl
  rw [if_neg q21]
  by_cases q28 : n.toInt < 268435456
  · rw [if_pos q28, if_neg (show ¬ n.toInt % 18446744073709551616 < 128 by omega), if_neg (show ¬ n.toInt % 18446744073709551616 < 16384 by omega), if_neg (show ¬ n.toInt % 18446744073709551616 < 2097152 by omega), if_pos (show n.toInt % 18446744073709551616 < 268435456 by omega)]; rfl
  rw [if_neg q28]
  by_cases q35 : n.toInt < 34359738368
  · rw [if_pos q35, if_neg (show ¬ n.toInt % 18446744073709551616 < 128 by omega), if_neg (show ¬ n.toInt % 18446744073709551616 < 16384 by omega), if_neg (show ¬ n.toInt % 18446744073709551616 < 2097152 by omega), if_neg (show ¬ n.toInt % 18446744073709551616 < 268435456 by omega), if_pos (show n.toInt % 18446744073709551616 < 34359738368 by omega)]; rfl
  rw [if_neg q35]
  by_cases q42 : n.toInt < 4398046511104
  · rw [if_pos q42, if_neg (show ¬ n.toInt % 18446744073709551616 < 128 by omega), if_neg (show ¬ n.toInt % 18446744073709551616 < 16384 by omega), if_neg (show ¬ n.toInt % 18446744073709551616 < 2097152 by omega), if_neg (show ¬ n.toInt % 18446744073709551616 < 268435456 by omega), if_neg (show ¬ n.toInt % 18446744073709551616 < 34359738368 by omega), if_pos (show n.toInt % 18446744073709551616 < 4398046511104 by omega)]; rfl
  rw [if_neg q42]
  by_cases q49 : n.toInt < 562949953421312
  · rw [if_pos q49, if_neg (show ¬ n.toInt % 18446744073709551616 < 128 by omega), if_neg (show ¬ n.toInt % 18446744073709551616 < 16384 by omega), if_neg (show ¬ n.toInt % 18446744073709551616 < 2097152 by omega), if_neg (show ¬ n.toInt % 18446744073709551616 < 268435456 by omega), if_neg (show ¬ n.toInt % 18446744073709551616 < 34359738368 by omega), if_neg (show ¬ n.toInt % 18446744073709551616 < 4398046511104 by omega), if_pos (show n.toInt % 18446744073709551616 < 562949953421312 by omega)]; rfl
  rw [if_neg q49]
  by_cases q56 : n.toInt < 72057594037927936
  · rw [if_pos q56, if_neg (show ¬ n.toInt % 18446744073709551616 < 128 by omega), if_neg (show ¬ n.toInt % 18446744073709551616 < 16384 by omega), if_neg (show ¬ n.toInt % 18446744073709551616 < 2097152 by omega), if_neg (show ¬ n.toInt % 18446744073709551616 < 268435456 by omega), if_neg (show ¬ n.toInt % 18446744073709551616 < 34359738368 by omega), if_neg (show ¬ n.toInt % 18446744073709551616 < 4398046511104 by omega), if_neg (show ¬ n.toInt % 18446744073709551616 < 562949953421312 by omega), if_pos (show n.toInt % 18446744073709551616 < 72057594037927936 by omega)]; rfl
  rw [if_neg q56]
  rw [if_neg (show ¬ n.toInt % 18446744073709551616 < 128 by omega), if_neg (show ¬ n.toInt % 18446744073709551616 < 16384 by omega), if_neg (show ¬ n.toInt % 18446744073709551616 < 2097152 by omega), if_neg (show ¬ n.toInt % 18446744073709551616 < 268435456 by omega), if_neg (show ¬ n.toInt % 18446744073709551616 < 34359738368 by omega), if_neg (show ¬ n.toInt % 18446744073709551616 < 4398046511104 by omega), if_neg (show ¬ n.toInt % 18446744073709551616 < 562949953421312 by omega), if_neg (show ¬ n.toInt % 18446744073709551616 < 72057594037927936 by omega), if_pos (show n.toInt % 18446744073709551616 < 9223372036854775808 by omega)]; rfl
theorem own_N_rng (v : Int64) : 0 ≤ own_N v ∧ own_N v < 18446744073709551616 := by unfold own_N; omega
theorem d1_0 : decode prog_36_method_3_code 0 = .ok (.iconst 1, 1) := by decide +kernel
theorem d1_1 : decode prog_36_method_3_code 1 = .ok (.istore_n 2, 1) := by decide +kernel
theorem d1_2 : decode prog_36_method_3_code 2 = .ok (.lload_n 0, 1) := by decide +kernel
theorem d1_3 : decode prog_36_method_3_code 3 = .ok (.lstore_n 3, 1) := by decide +kernel
theorem d1_4 : decode prog_36_method_3_code 4 = .ok (.lload_n 3, 1) := by decide +kernel
theorem d1_5 : decode prog_36_method_3_code 5 = .ok (.ldc2_w 11, 3) := by decide +kernel
theorem d1_8 : decode prog_36_method_3_code 8 = .ok (.land, 1) := by decide +kernel
theorem d1_9 : decode prog_36_method_3_code 9 = .ok (.lconst 0, 1) := by decide +kernel
theorem d1_10 : decode prog_36_method_3_code 10 = .ok (.lcmp, 1) := by decide +kernel
theorem d1_11 : decode prog_36_method_3_code 11 = .ok (.ifCond .eq 14, 3) := by decide +kernel
theorem d1_14 : decode prog_36_method_3_code 14 = .ok (.lload_n 3, 1) := by decide +kernel
theorem d1_15 : decode prog_36_method_3_code 15 = .ok (.bipush 7, 2) := by decide +kernel
theorem d1_17 : decode prog_36_method_3_code 17 = .ok (.lushr, 1) := by decide +kernel
theorem d1_18 : decode prog_36_method_3_code 18 = .ok (.lstore_n 3, 1) := by decide +kernel
theorem d1_19 : decode prog_36_method_3_code 19 = .ok (.iinc 2 1, 3) := by decide +kernel
theorem d1_22 : decode prog_36_method_3_code 22 = .ok (.goto (-18), 3) := by decide +kernel
theorem d1_25 : decode prog_36_method_3_code 25 = .ok (.iload_n 2, 1) := by decide +kernel
theorem d1_26 : decode prog_36_method_3_code 26 = .ok (.ireturn, 1) := by decide +kernel
theorem pn_1 : plainName "com/example/gauge_rank/gaugerank/retrieval/IndexFormat" = true := by first | (simp [plainName, overriddenIn]; done) | decide +kernel
theorem ef_1 (m : MethodId) (q1 : Int64) : entryFrame m #[(.long q1)] 5 = mkF m 0 #[.val (.long q1), .second, .unset, .unset, .unset] [] := by first | (simp [entryFrame, mkF, argsToLocals, Value.category]; done) | rfl
def Q1 (Z : State) (q1 : Int64) (h0 : Heap) (n0 : Nat) (v : Option Value) (h : Heap) (L : List Loc) : Prop := v = some (.int (own_r q1)) ∧ Fr n0 L ∧ h = h0
abbrev P1 (Z : State) (q1 : Int64) (h0 : Heap) (n0 : Nat) (s : State) : Outcome → State → Prop := fun o U' => ∃ v L, o = .returned v ∧ Q1 Z q1 h0 n0 v U'.heap L ∧ FrameEnd s o U' L ({ frames := 0, cells := 0, slots := 0, locals := 0 } : Room).cells ({ frames := 0, cells := 0, slots := 0, locals := 0 } : Room).slots
set_option maxRecDepth 65536 in
set_option maxHeartbeats 40000000 in
theorem rm1 (l : Launch) (Z : State) (a0 : Array Value) (hw : ∀ d ∈ tables_1, d.before a0 Z = true) (ws : List Jvm.Cond) (q1 : Int64) (h0 : Heap) (n0 : Nat) (Z0 : n0 ≤ h0.size) :
    MetFree l (⟨"com/example/gauge_rank/gaugerank/retrieval/IndexFormat", "numberLength", "(J)I"⟩ : MethodName) (head1 (Jvm.Cond.code (⟨"com/example/gauge_rank/gaugerank/retrieval/IndexFormat", "numberLength", "(J)I"⟩ : MethodName) prog_36_method_3_code 5 (some .int) :: ws) ({ frames := 0, cells := 0, slots := 0, locals := 0 } : Room)) (fun a U => a = #[(.long q1)] ∧ Z.Warmed39 U.vm ∧ U.heap = h0) (fun _ _ _ _ _ => True) (fun _ U o U' => ∃ v L, o = .returned v ∧ Q1 Z q1 h0 n0 v U'.heap L ∧ FrameEnd U o U' L ({ frames := 0, cells := 0, slots := 0, locals := 0 } : Room).cells ({ frames := 0, cells := 0, slots := 0, locals := 0 } : Room).slots) := by
  refine MetFree.of_bodySF (plainFor_of_name pn_1) hisR ?_
  intro p e s m args below meth c s₁ Bd hml0 hP hK
  obtain ⟨rfl, hZ, hh⟩ := hP
  have hx := Bd.exec
  have hby := Bd.bytes
  have hml : c.maxLocals = 5 := hml0
  have hown : s.vm.findClass "com/example/gauge_rank/gaugerank/retrieval/IndexFormat" = some m.cls := findClass_of_methodNamed Bd.named
  have hnm := (name_of_methodNamed Bd.named Bd.method).1
  have X0 : Stand p l e ({ frames := 0, cells := 0, slots := 0, locals := 0 } : Room) s m #[(.long q1)] below meth c s₁ [] 0 0 := Stand.of_body Bd
  have e0 : s₁.heap = h0 := by rw [← hh, Bd.state]; rfl
  have N0 := Fr.nil n0
  show own_Go p.tables e below (P1 Z q1 h0 n0 s) (s₁.setTop (entryFrame m #[(.long q1)] 5))
  refine own_by (T' := s₁.setTop (mkF m 0 #[.val (.long q1), .second, .unset, .unset, .unset] [])) (fun t k => castTop (ef_1 m q1) k) ?_
  show own_Go _ _ _ _ (s₁.setTop (mkF m 0 #[.val (.long q1), .second, .unset, .unset, .unset] []))
  refine own_by (fun t k => XS.iconst X0.here hx rfl (hb hby d1_0) k) ?_
  show own_Go _ _ _ _ (s₁.setTop (mkF m 1 #[.val (.long q1), .second, .unset, .unset, .unset] [(.int (1 : Int32))]))
  refine own_by (fun t k => XS.istoreN X0.here hx rfl (hb hby d1_1) rfl (l' := #[.val (.long q1), .second, .val (.int (1 : Int32)), .unset, .unset]) rfl k) ?_
  show own_Go _ _ _ _ (s₁.setTop (mkF m 2 #[.val (.long q1), .second, .val (.int (1 : Int32)), .unset, .unset] []))
  refine own_by (fun t k => XS.lloadN X0.here hx rfl (hb hby d1_2) rfl k) ?_
  show own_Go _ _ _ _ (s₁.setTop (mkF m 3 #[.val (.long q1), .second, .val (.int (1 : Int32)), .unset, .unset] [(.long q1)]))
  refine own_by (fun t k => XS.lstoreN X0.here hx rfl (hb hby d1_3) rfl (l' := #[.val (.long q1), .second, .val (.int (1 : Int32)), .val (.long q1), .second]) rfl k) ?_
  show own_Go _ _ _ _ (s₁.setTop (mkF m 4 #[.val (.long q1), .second, .val (.int (1 : Int32)), .val (.long q1), .second] []))
  have LOOP : ∀ (M : Nat) (j3 : Int64) (i2 : Int32), (own_N j3).toNat = M → own_r q1 = i2 + own_g (own_N j3) → own_Go p.tables e below (P1 Z q1 h0 n0 s) (s₁.setTop (mkF m 4 #[.val (.long q1), .second, .val (.int i2), .val (.long j3), .second] [])) := by
    intro M
    induction M using Nat.strongRecOn with
    | ind M ih =>
      intro j3 i2 hM hrr
      show own_Go _ _ _ _ (s₁.setTop (mkF m 4 #[.val (.long q1), .second, .val (.int i2), .val (.long j3), .second] []))
      refine own_by (fun t k => XS.lloadN X0.here hx rfl (hb hby d1_4) rfl k) ?_
      show own_Go _ _ _ _ (s₁.setTop (mkF m 5 #[.val (.long q1), .second, .val (.int i2), .val (.long j3), .second] [(.long j3)]))
      refine own_by (fun t k => X0.ldc2Long hx hown (mvT hZ (hw _ (List.mem_of_getElem? (i := 4) rfl))) (g := (mkF m 5 #[.val (.long q1), .second, .val (.int i2), .val (.long j3), .second] [(.long j3)])) rfl (hb hby d1_5) _ k) ?_
      show own_Go _ _ _ _ (s₁.setTop (mkF m 8 #[.val (.long q1), .second, .val (.int i2), .val (.long j3), .second] [(.long (-128 : Int64)), (.long j3)]))
      refine own_by (fun t k => XS.land X0.here hx rfl (hb hby d1_8) rfl k) ?_
      show own_Go _ _ _ _ (s₁.setTop (mkF m 9 #[.val (.long q1), .second, .val (.int i2), .val (.long j3), .second] [(.long (j3 &&& (-128 : Int64)))]))
      refine own_by (fun t k => XS.lconst X0.here hx rfl (hb hby d1_9) k) ?_
      show own_Go _ _ _ _ (s₁.setTop (mkF m 10 #[.val (.long q1), .second, .val (.int i2), .val (.long j3), .second] [(.long (0 : Int64)), (.long (j3 &&& (-128 : Int64)))]))
      refine own_by (fun t k => XS.lcmp X0.here hx rfl (hb hby d1_10) rfl k) ?_
      show own_Go _ _ _ _ (s₁.setTop (mkF m 11 #[.val (.long q1), .second, .val (.int i2), .val (.long j3), .second] [(.int (lcmpW (j3 &&& (-128 : Int64)) (0 : Int64)))]))
      by_cases hc11 : (j3 &&& (-128 : Int64)) = (0 : Int64)
      · refine own_by (fun t k => XS.ifYes X0.here hx rfl (pc0 := 11) (pc' := 25) rfl (hb hby d1_11) rfl ((if0 _ _).trans (teq ((lw_eq _ _).mpr hc11)).1) (by decide) (by decide) k) ?_
        show own_Go _ _ _ _ (s₁.setTop (mkF m 25 #[.val (.long q1), .second, .val (.int i2), .val (.long j3), .second] []))
        refine own_by (fun t k => XS.iloadN X0.here hx rfl (hb hby d1_25) rfl k) ?_
        show own_Go _ _ _ _ (s₁.setTop (mkF m 26 #[.val (.long q1), .second, .val (.int i2), .val (.long j3), .second] [(.int i2)]))
        obtain ⟨fs, hr, hrun, hended, hW, hsame⟩ := X0.leave (v := some (.int i2)) (fun h => by rw [Bd.returns] at h; cases h)
        refine ⟨_, _, retOut X0 hx Bd.returns rfl (Or.inl ⟨rfl, Or.inl rfl, _, rfl⟩) (hb hby d1_26) hr, hrun, hended, _, _, rfl, ?_, ⟨_, rfl⟩, hW, hsame.mono (by decide) (by decide)⟩
        show Q1 Z q1 h0 n0 _ s₁.heap _
        rw [e0]
        exact ⟨by rw [hrr, own_g_lo _ ((own_and _).mp hc11), Int32.add_zero], N0, rfl⟩
      · refine own_by (fun t k => XS.ifNo X0.here hx rfl (hb hby d1_11) rfl ((if0 _ _).trans (feq (fun q => hc11 ((lw_eq _ _).mp q))).1) k) ?_
        show own_Go _ _ _ _ (s₁.setTop (mkF m 14 #[.val (.long q1), .second, .val (.int i2), .val (.long j3), .second] []))
        refine own_by (fun t k => XS.lloadN X0.here hx rfl (hb hby d1_14) rfl k) ?_
        show own_Go _ _ _ _ (s₁.setTop (mkF m 15 #[.val (.long q1), .second, .val (.int i2), .val (.long j3), .second] [(.long j3)]))
        refine own_by (fun t k => XS.bipush X0.here hx rfl (hb hby d1_15) k) ?_
        show own_Go _ _ _ _ (s₁.setTop (mkF m 17 #[.val (.long q1), .second, .val (.int i2), .val (.long j3), .second] [(.int (7 : Int32)), (.long j3)]))
        refine own_by (fun t k => XS.lushr X0.here hx rfl (hb hby d1_17) rfl k) ?_
        show own_Go _ _ _ _ (s₁.setTop (mkF m 18 #[.val (.long q1), .second, .val (.int i2), .val (.long j3), .second] [(.long ((j3.toUInt64 >>> ((7 : Int32) &&& 0x3f).toInt64.toUInt64).toInt64))]))
        refine own_by (fun t k => XS.lstoreN X0.here hx rfl (hb hby d1_18) rfl (l' := #[.val (.long q1), .second, .val (.int i2), .val (.long ((j3.toUInt64 >>> ((7 : Int32) &&& 0x3f).toInt64.toUInt64).toInt64)), .second]) rfl k) ?_
        show own_Go _ _ _ _ (s₁.setTop (mkF m 19 #[.val (.long q1), .second, .val (.int i2), .val (.long ((j3.toUInt64 >>> ((7 : Int32) &&& 0x3f).toInt64.toUInt64).toInt64)), .second] []))
        refine own_by (fun t k => XS.iinc X0.here hx rfl (hb hby d1_19) rfl (l' := #[.val (.long q1), .second, .val (.int (i2 + (1 : Int32))), .val (.long ((j3.toUInt64 >>> ((7 : Int32) &&& 0x3f).toInt64.toUInt64).toInt64)), .second]) rfl k) ?_
        show own_Go _ _ _ _ (s₁.setTop (mkF m 22 #[.val (.long q1), .second, .val (.int (i2 + (1 : Int32))), .val (.long ((j3.toUInt64 >>> ((7 : Int32) &&& 0x3f).toInt64.toUInt64).toInt64)), .second] []))
        refine own_by (fun t k => XS.goto X0.here hx rfl (pc0 := 22) (pc' := 4) rfl (hb hby d1_22) (by decide) (by decide) k) ?_
        show own_Go _ _ _ _ (s₁.setTop (mkF m 4 #[.val (.long q1), .second, .val (.int (i2 + (1 : Int32))), .val (.long ((j3.toUInt64 >>> ((7 : Int32) &&& 0x3f).toInt64.toUInt64).toInt64)), .second] []))
        have u1 : ¬ own_N j3 < 128 := fun q => hc11 ((own_and _).mpr q)
        have u2 := own_N_rng j3
        exact ih _ (by rw [own_sh, ← hM]; omega) _ _ rfl (by rw [hrr, own_g_hi _ u1 u2.2, own_sh, Int32.add_assoc])
  show own_Go _ _ _ _ (s₁.setTop (mkF m 4 #[.val (.long q1), .second, .val (.int (1 : Int32)), .val (.long q1), .second] []))
  exact LOOP _ _ _ rfl (own_r_g q1)
theorem d2_0 : decode method_2_code 0 = .ok (.lload_n 0, 1) := by decide +kernel
theorem d2_1 : decode method_2_code 1 = .ok (.lconst 0, 1) := by decide +kernel
theorem d2_2 : decode method_2_code 2 = .ok (.lcmp, 1) := by decide +kernel
theorem d2_3 : decode method_2_code 3 = .ok (.ifCond .ge 6, 3) := by decide +kernel
theorem d2_6 : decode method_2_code 6 = .ok (.bipush 10, 2) := by decide +kernel
theorem d2_8 : decode method_2_code 8 = .ok (.ireturn, 1) := by decide +kernel
theorem d2_9 : decode method_2_code 9 = .ok (.lload_n 0, 1) := by decide +kernel
theorem d2_10 : decode method_2_code 10 = .ok (.ldc2_w 7, 3) := by decide +kernel
theorem d2_13 : decode method_2_code 13 = .ok (.lcmp, 1) := by decide +kernel
theorem d2_14 : decode method_2_code 14 = .ok (.ifCond .ge 5, 3) := by decide +kernel
theorem d2_17 : decode method_2_code 17 = .ok (.iconst 1, 1) := by decide +kernel
theorem d2_18 : decode method_2_code 18 = .ok (.ireturn, 1) := by decide +kernel
theorem d2_19 : decode method_2_code 19 = .ok (.lload_n 0, 1) := by decide +kernel
theorem d2_20 : decode method_2_code 20 = .ok (.ldc2_w 9, 3) := by decide +kernel
theorem d2_23 : decode method_2_code 23 = .ok (.lcmp, 1) := by decide +kernel
theorem d2_24 : decode method_2_code 24 = .ok (.ifCond .ge 5, 3) := by decide +kernel
theorem d2_27 : decode method_2_code 27 = .ok (.iconst 2, 1) := by decide +kernel
theorem d2_28 : decode method_2_code 28 = .ok (.ireturn, 1) := by decide +kernel
theorem d2_29 : decode method_2_code 29 = .ok (.lload_n 0, 1) := by decide +kernel
theorem d2_30 : decode method_2_code 30 = .ok (.ldc2_w 11, 3) := by decide +kernel
theorem d2_33 : decode method_2_code 33 = .ok (.lcmp, 1) := by decide +kernel
theorem d2_34 : decode method_2_code 34 = .ok (.ifCond .ge 5, 3) := by decide +kernel
theorem d2_37 : decode method_2_code 37 = .ok (.iconst 3, 1) := by decide +kernel
theorem d2_38 : decode method_2_code 38 = .ok (.ireturn, 1) := by decide +kernel
theorem d2_39 : decode method_2_code 39 = .ok (.lload_n 0, 1) := by decide +kernel
theorem d2_40 : decode method_2_code 40 = .ok (.ldc2_w 13, 3) := by decide +kernel
theorem d2_43 : decode method_2_code 43 = .ok (.lcmp, 1) := by decide +kernel
theorem d2_44 : decode method_2_code 44 = .ok (.ifCond .ge 5, 3) := by decide +kernel
theorem d2_47 : decode method_2_code 47 = .ok (.iconst 4, 1) := by decide +kernel
theorem d2_48 : decode method_2_code 48 = .ok (.ireturn, 1) := by decide +kernel
theorem d2_49 : decode method_2_code 49 = .ok (.lload_n 0, 1) := by decide +kernel
theorem d2_50 : decode method_2_code 50 = .ok (.ldc2_w 15, 3) := by decide +kernel
theorem d2_53 : decode method_2_code 53 = .ok (.lcmp, 1) := by decide +kernel
theorem d2_54 : decode method_2_code 54 = .ok (.ifCond .ge 5, 3) := by decide +kernel
theorem d2_57 : decode method_2_code 57 = .ok (.iconst 5, 1) := by decide +kernel
theorem d2_58 : decode method_2_code 58 = .ok (.ireturn, 1) := by decide +kernel
theorem d2_59 : decode method_2_code 59 = .ok (.lload_n 0, 1) := by decide +kernel
theorem d2_60 : decode method_2_code 60 = .ok (.ldc2_w 17, 3) := by decide +kernel
theorem d2_63 : decode method_2_code 63 = .ok (.lcmp, 1) := by decide +kernel
theorem d2_64 : decode method_2_code 64 = .ok (.ifCond .ge 6, 3) := by decide +kernel
theorem d2_67 : decode method_2_code 67 = .ok (.bipush 6, 2) := by decide +kernel
theorem d2_69 : decode method_2_code 69 = .ok (.ireturn, 1) := by decide +kernel
theorem d2_70 : decode method_2_code 70 = .ok (.lload_n 0, 1) := by decide +kernel
theorem d2_71 : decode method_2_code 71 = .ok (.ldc2_w 19, 3) := by decide +kernel
theorem d2_74 : decode method_2_code 74 = .ok (.lcmp, 1) := by decide +kernel
theorem d2_75 : decode method_2_code 75 = .ok (.ifCond .ge 6, 3) := by decide +kernel
theorem d2_78 : decode method_2_code 78 = .ok (.bipush 7, 2) := by decide +kernel
theorem d2_80 : decode method_2_code 80 = .ok (.ireturn, 1) := by decide +kernel
theorem d2_81 : decode method_2_code 81 = .ok (.lload_n 0, 1) := by decide +kernel
theorem d2_82 : decode method_2_code 82 = .ok (.ldc2_w 21, 3) := by decide +kernel
theorem d2_85 : decode method_2_code 85 = .ok (.lcmp, 1) := by decide +kernel
theorem d2_86 : decode method_2_code 86 = .ok (.ifCond .ge 6, 3) := by decide +kernel
theorem d2_89 : decode method_2_code 89 = .ok (.bipush 8, 2) := by decide +kernel
theorem d2_91 : decode method_2_code 91 = .ok (.ireturn, 1) := by decide +kernel
theorem d2_92 : decode method_2_code 92 = .ok (.bipush 9, 2) := by decide +kernel
theorem d2_94 : decode method_2_code 94 = .ok (.ireturn, 1) := by decide +kernel
theorem pn_2 : plainName "com/example/gauge_rank/gaugerank/retrieval/IndexFormatNumberLengthPinLaw" = true := by first | (simp [plainName, overriddenIn]; done) | decide +kernel
theorem ef_2 (m : MethodId) (q1 : Int64) : entryFrame m #[(.long q1)] 2 = mkF m 0 #[.val (.long q1), .second] [] := by first | (simp [entryFrame, mkF, argsToLocals, Value.category]; done) | rfl
def Q2 (Z : State) (q1 : Int64) (h0 : Heap) (n0 : Nat) (v : Option Value) (h : Heap) (L : List Loc) : Prop := v = some (.int (own_r q1)) ∧ Fr n0 L ∧ h = h0
abbrev P2 (Z : State) (q1 : Int64) (h0 : Heap) (n0 : Nat) (s : State) : Outcome → State → Prop := fun o U' => ∃ v L, o = .returned v ∧ Q2 Z q1 h0 n0 v U'.heap L ∧ FrameEnd s o U' L ({ frames := 0, cells := 0, slots := 0, locals := 0 } : Room).cells ({ frames := 0, cells := 0, slots := 0, locals := 0 } : Room).slots
set_option maxRecDepth 65536 in
set_option maxHeartbeats 40000000 in
theorem rm2 (l : Launch) (Z : State) (a0 : Array Value) (hw : ∀ d ∈ tables_1, d.before a0 Z = true) (ws : List Jvm.Cond) (q1 : Int64) (h0 : Heap) (n0 : Nat) (Z0 : n0 ≤ h0.size) :
    MetFree l (⟨"com/example/gauge_rank/gaugerank/retrieval/IndexFormatNumberLengthPinLaw", "expected", "(J)I"⟩ : MethodName) (head1 (Jvm.Cond.code (⟨"com/example/gauge_rank/gaugerank/retrieval/IndexFormatNumberLengthPinLaw", "expected", "(J)I"⟩ : MethodName) method_2_code 2 (some .int) :: ws) ({ frames := 0, cells := 0, slots := 0, locals := 0 } : Room)) (fun a U => a = #[(.long q1)] ∧ Z.Warmed39 U.vm ∧ U.heap = h0) (fun _ _ _ _ _ => True) (fun _ U o U' => ∃ v L, o = .returned v ∧ Q2 Z q1 h0 n0 v U'.heap L ∧ FrameEnd U o U' L ({ frames := 0, cells := 0, slots := 0, locals := 0 } : Room).cells ({ frames := 0, cells := 0, slots := 0, locals := 0 } : Room).slots) := by
  refine MetFree.of_bodySF (plainFor_of_name pn_2) hisR ?_
  intro p e s m args below meth c s₁ Bd hml0 hP hK
  obtain ⟨rfl, hZ, hh⟩ := hP
  have hx := Bd.exec
  have hby := Bd.bytes
  have hml : c.maxLocals = 2 := hml0
  have hown : s.vm.findClass "com/example/gauge_rank/gaugerank/retrieval/IndexFormatNumberLengthPinLaw" = some m.cls := findClass_of_methodNamed Bd.named
  have hnm := (name_of_methodNamed Bd.named Bd.method).1
  have X0 : Stand p l e ({ frames := 0, cells := 0, slots := 0, locals := 0 } : Room) s m #[(.long q1)] below meth c s₁ [] 0 0 := Stand.of_body Bd
  have e0 : s₁.heap = h0 := by rw [← hh, Bd.state]; rfl
  have N0 := Fr.nil n0
  show own_Go p.tables e below (P2 Z q1 h0 n0 s) (s₁.setTop (entryFrame m #[(.long q1)] 2))
  refine own_by (T' := s₁.setTop (mkF m 0 #[.val (.long q1), .second] [])) (fun t k => castTop (ef_2 m q1) k) ?_
  show own_Go _ _ _ _ (s₁.setTop (mkF m 0 #[.val (.long q1), .second] []))
  refine own_by (fun t k => XS.lloadN X0.here hx rfl (hb hby d2_0) rfl k) ?_
  show own_Go _ _ _ _ (s₁.setTop (mkF m 1 #[.val (.long q1), .second] [(.long q1)]))
  refine own_by (fun t k => XS.lconst X0.here hx rfl (hb hby d2_1) k) ?_
  show own_Go _ _ _ _ (s₁.setTop (mkF m 2 #[.val (.long q1), .second] [(.long (0 : Int64)), (.long q1)]))
  refine own_by (fun t k => XS.lcmp X0.here hx rfl (hb hby d2_2) rfl k) ?_
  show own_Go _ _ _ _ (s₁.setTop (mkF m 3 #[.val (.long q1), .second] [(.int (lcmpW q1 (0 : Int64)))]))
  by_cases hc3 : q1 < (0 : Int64)
  · refine own_by (fun t k => XS.ifNo X0.here hx rfl (hb hby d2_3) rfl ((if0 _ _).trans (tlt ((lw_lt _ _).mpr hc3)).2.1) k) ?_
    show own_Go _ _ _ _ (s₁.setTop (mkF m 6 #[.val (.long q1), .second] []))
    refine own_by (fun t k => XS.bipush X0.here hx rfl (hb hby d2_6) k) ?_
    show own_Go _ _ _ _ (s₁.setTop (mkF m 8 #[.val (.long q1), .second] [(.int (10 : Int32))]))
    obtain ⟨fs, hr, hrun, hended, hW, hsame⟩ := X0.leave (v := some (.int (10 : Int32))) (fun h => by rw [Bd.returns] at h; cases h)
    refine ⟨_, _, retOut X0 hx Bd.returns rfl (Or.inl ⟨rfl, Or.inl rfl, _, rfl⟩) (hb hby d2_8) hr, hrun, hended, _, _, rfl, ?_, ⟨_, rfl⟩, hW, hsame.mono (by decide) (by decide)⟩
    show Q2 Z q1 h0 n0 _ s₁.heap _
    rw [e0]
    exact ⟨by simp [own_r, hc3], N0, rfl⟩
  · refine own_by (fun t k => XS.ifYes X0.here hx rfl (pc0 := 3) (pc' := 9) rfl (hb hby d2_3) rfl ((if0 _ _).trans (flt (fun q => hc3 ((lw_lt _ _).mp q))).2.1) (by decide) (by decide) k) ?_
    show own_Go _ _ _ _ (s₁.setTop (mkF m 9 #[.val (.long q1), .second] []))
    refine own_by (fun t k => XS.lloadN X0.here hx rfl (hb hby d2_9) rfl k) ?_
    show own_Go _ _ _ _ (s₁.setTop (mkF m 10 #[.val (.long q1), .second] [(.long q1)]))
    refine own_by (fun t k => X0.ldc2Long hx hown (mvT hZ (hw _ (List.mem_of_getElem? (i := 9) rfl))) (g := (mkF m 10 #[.val (.long q1), .second] [(.long q1)])) rfl (hb hby d2_10) _ k) ?_
    show own_Go _ _ _ _ (s₁.setTop (mkF m 13 #[.val (.long q1), .second] [(.long (128 : Int64)), (.long q1)]))
    refine own_by (fun t k => XS.lcmp X0.here hx rfl (hb hby d2_13) rfl k) ?_
    show own_Go _ _ _ _ (s₁.setTop (mkF m 14 #[.val (.long q1), .second] [(.int (lcmpW q1 (128 : Int64)))]))
    by_cases hc14 : q1 < (128 : Int64)
    · refine own_by (fun t k => XS.ifNo X0.here hx rfl (hb hby d2_14) rfl ((if0 _ _).trans (tlt ((lw_lt _ _).mpr hc14)).2.1) k) ?_
      show own_Go _ _ _ _ (s₁.setTop (mkF m 17 #[.val (.long q1), .second] []))
      refine own_by (fun t k => XS.iconst X0.here hx rfl (hb hby d2_17) k) ?_
      show own_Go _ _ _ _ (s₁.setTop (mkF m 18 #[.val (.long q1), .second] [(.int (1 : Int32))]))
      obtain ⟨fs, hr, hrun, hended, hW, hsame⟩ := X0.leave (v := some (.int (1 : Int32))) (fun h => by rw [Bd.returns] at h; cases h)
      refine ⟨_, _, retOut X0 hx Bd.returns rfl (Or.inl ⟨rfl, Or.inl rfl, _, rfl⟩) (hb hby d2_18) hr, hrun, hended, _, _, rfl, ?_, ⟨_, rfl⟩, hW, hsame.mono (by decide) (by decide)⟩
      show Q2 Z q1 h0 n0 _ s₁.heap _
      rw [e0]
      exact ⟨by simp [own_r, hc3, hc14], N0, rfl⟩
    · refine own_by (fun t k => XS.ifYes X0.here hx rfl (pc0 := 14) (pc' := 19) rfl (hb hby d2_14) rfl ((if0 _ _).trans (flt (fun q => hc14 ((lw_lt _ _).mp q))).2.1) (by decide) (by decide) k) ?_
      show own_Go _ _ _ _ (s₁.setTop (mkF m 19 #[.val (.long q1), .second] []))
      refine own_by (fun t k => XS.lloadN X0.here hx rfl (hb hby d2_19) rfl k) ?_
      show own_Go _ _ _ _ (s₁.setTop (mkF m 20 #[.val (.long q1), .second] [(.long q1)]))
      refine own_by (fun t k => X0.ldc2Long hx hown (mvT hZ (hw _ (List.mem_of_getElem? (i := 10) rfl))) (g := (mkF m 20 #[.val (.long q1), .second] [(.long q1)])) rfl (hb hby d2_20) _ k) ?_
      show own_Go _ _ _ _ (s₁.setTop (mkF m 23 #[.val (.long q1), .second] [(.long (16384 : Int64)), (.long q1)]))
      refine own_by (fun t k => XS.lcmp X0.here hx rfl (hb hby d2_23) rfl k) ?_
      show own_Go _ _ _ _ (s₁.setTop (mkF m 24 #[.val (.long q1), .second] [(.int (lcmpW q1 (16384 : Int64)))]))
      by_cases hc24 : q1 < (16384 : Int64)
      · refine own_by (fun t k => XS.ifNo X0.here hx rfl (hb hby d2_24) rfl ((if0 _ _).trans (tlt ((lw_lt _ _).mpr hc24)).2.1) k) ?_
        show own_Go _ _ _ _ (s₁.setTop (mkF m 27 #[.val (.long q1), .second] []))
        refine own_by (fun t k => XS.iconst X0.here hx rfl (hb hby d2_27) k) ?_
        show own_Go _ _ _ _ (s₁.setTop (mkF m 28 #[.val (.long q1), .second] [(.int (2 : Int32))]))
        obtain ⟨fs, hr, hrun, hended, hW, hsame⟩ := X0.leave (v := some (.int (2 : Int32))) (fun h => by rw [Bd.returns] at h; cases h)
        refine ⟨_, _, retOut X0 hx Bd.returns rfl (Or.inl ⟨rfl, Or.inl rfl, _, rfl⟩) (hb hby d2_28) hr, hrun, hended, _, _, rfl, ?_, ⟨_, rfl⟩, hW, hsame.mono (by decide) (by decide)⟩
        show Q2 Z q1 h0 n0 _ s₁.heap _
        rw [e0]
        exact ⟨by simp [own_r, hc3, hc14, hc24], N0, rfl⟩
      · refine own_by (fun t k => XS.ifYes X0.here hx rfl (pc0 := 24) (pc' := 29) rfl (hb hby d2_24) rfl ((if0 _ _).trans (flt (fun q => hc24 ((lw_lt _ _).mp q))).2.1) (by decide) (by decide) k) ?_
        show own_Go _ _ _ _ (s₁.setTop (mkF m 29 #[.val (.long q1), .second] []))
        refine own_by (fun t k => XS.lloadN X0.here hx rfl (hb hby d2_29) rfl k) ?_
        show own_Go _ _ _ _ (s₁.setTop (mkF m 30 #[.val (.long q1), .second] [(.long q1)]))
        refine own_by (fun t k => X0.ldc2Long hx hown (mvT hZ (hw _ (List.mem_of_getElem? (i := 11) rfl))) (g := (mkF m 30 #[.val (.long q1), .second] [(.long q1)])) rfl (hb hby d2_30) _ k) ?_
        show own_Go _ _ _ _ (s₁.setTop (mkF m 33 #[.val (.long q1), .second] [(.long (2097152 : Int64)), (.long q1)]))
        refine own_by (fun t k => XS.lcmp X0.here hx rfl (hb hby d2_33) rfl k) ?_
        show own_Go _ _ _ _ (s₁.setTop (mkF m 34 #[.val (.long q1), .second] [(.int (lcmpW q1 (2097152 : Int64)))]))
        by_cases hc34 : q1 < (2097152 : Int64)
        · refine own_by (fun t k => XS.ifNo X0.here hx rfl (hb hby d2_34) rfl ((if0 _ _).trans (tlt ((lw_lt _ _).mpr hc34)).2.1) k) ?_
          show own_Go _ _ _ _ (s₁.setTop (mkF m 37 #[.val (.long q1), .second] []))
          refine own_by (fun t k => XS.iconst X0.here hx rfl (hb hby d2_37) k) ?_
          show own_Go _ _ _ _ (s₁.setTop (mkF m 38 #[.val (.long q1), .second] [(.int (3 : Int32))]))
          obtain ⟨fs, hr, hrun, hended, hW, hsame⟩ := X0.leave (v := some (.int (3 : Int32))) (fun h => by rw [Bd.returns] at h; cases h)
          refine ⟨_, _, retOut X0 hx Bd.returns rfl (Or.inl ⟨rfl, Or.inl rfl, _, rfl⟩) (hb hby d2_38) hr, hrun, hended, _, _, rfl, ?_, ⟨_, rfl⟩, hW, hsame.mono (by decide) (by decide)⟩
          show Q2 Z q1 h0 n0 _ s₁.heap _
          rw [e0]
          exact ⟨by simp [own_r, hc3, hc14, hc24, hc34], N0, rfl⟩
        · refine own_by (fun t k => XS.ifYes X0.here hx rfl (pc0 := 34) (pc' := 39) rfl (hb hby d2_34) rfl ((if0 _ _).trans (flt (fun q => hc34 ((lw_lt _ _).mp q))).2.1) (by decide) (by decide) k) ?_
          show own_Go _ _ _ _ (s₁.setTop (mkF m 39 #[.val (.long q1), .second] []))
          refine own_by (fun t k => XS.lloadN X0.here hx rfl (hb hby d2_39) rfl k) ?_
          show own_Go _ _ _ _ (s₁.setTop (mkF m 40 #[.val (.long q1), .second] [(.long q1)]))
          refine own_by (fun t k => X0.ldc2Long hx hown (mvT hZ (hw _ (List.mem_of_getElem? (i := 12) rfl))) (g := (mkF m 40 #[.val (.long q1), .second] [(.long q1)])) rfl (hb hby d2_40) _ k) ?_
          show own_Go _ _ _ _ (s₁.setTop (mkF m 43 #[.val (.long q1), .second] [(.long (268435456 : Int64)), (.long q1)]))
          refine own_by (fun t k => XS.lcmp X0.here hx rfl (hb hby d2_43) rfl k) ?_
          show own_Go _ _ _ _ (s₁.setTop (mkF m 44 #[.val (.long q1), .second] [(.int (lcmpW q1 (268435456 : Int64)))]))
          by_cases hc44 : q1 < (268435456 : Int64)
          · refine own_by (fun t k => XS.ifNo X0.here hx rfl (hb hby d2_44) rfl ((if0 _ _).trans (tlt ((lw_lt _ _).mpr hc44)).2.1) k) ?_
            show own_Go _ _ _ _ (s₁.setTop (mkF m 47 #[.val (.long q1), .second] []))
            refine own_by (fun t k => XS.iconst X0.here hx rfl (hb hby d2_47) k) ?_
            show own_Go _ _ _ _ (s₁.setTop (mkF m 48 #[.val (.long q1), .second] [(.int (4 : Int32))]))
            obtain ⟨fs, hr, hrun, hended, hW, hsame⟩ := X0.leave (v := some (.int (4 : Int32))) (fun h => by rw [Bd.returns] at h; cases h)
            refine ⟨_, _, retOut X0 hx Bd.returns rfl (Or.inl ⟨rfl, Or.inl rfl, _, rfl⟩) (hb hby d2_48) hr, hrun, hended, _, _, rfl, ?_, ⟨_, rfl⟩, hW, hsame.mono (by decide) (by decide)⟩
            show Q2 Z q1 h0 n0 _ s₁.heap _
            rw [e0]
            exact ⟨by simp [own_r, hc3, hc14, hc24, hc34, hc44], N0, rfl⟩
          · refine own_by (fun t k => XS.ifYes X0.here hx rfl (pc0 := 44) (pc' := 49) rfl (hb hby d2_44) rfl ((if0 _ _).trans (flt (fun q => hc44 ((lw_lt _ _).mp q))).2.1) (by decide) (by decide) k) ?_
            show own_Go _ _ _ _ (s₁.setTop (mkF m 49 #[.val (.long q1), .second] []))
            refine own_by (fun t k => XS.lloadN X0.here hx rfl (hb hby d2_49) rfl k) ?_
            show own_Go _ _ _ _ (s₁.setTop (mkF m 50 #[.val (.long q1), .second] [(.long q1)]))
            refine own_by (fun t k => X0.ldc2Long hx hown (mvT hZ (hw _ (List.mem_of_getElem? (i := 13) rfl))) (g := (mkF m 50 #[.val (.long q1), .second] [(.long q1)])) rfl (hb hby d2_50) _ k) ?_
            show own_Go _ _ _ _ (s₁.setTop (mkF m 53 #[.val (.long q1), .second] [(.long (34359738368 : Int64)), (.long q1)]))
            refine own_by (fun t k => XS.lcmp X0.here hx rfl (hb hby d2_53) rfl k) ?_
            show own_Go _ _ _ _ (s₁.setTop (mkF m 54 #[.val (.long q1), .second] [(.int (lcmpW q1 (34359738368 : Int64)))]))
            by_cases hc54 : q1 < (34359738368 : Int64)
            · refine own_by (fun t k => XS.ifNo X0.here hx rfl (hb hby d2_54) rfl ((if0 _ _).trans (tlt ((lw_lt _ _).mpr hc54)).2.1) k) ?_
              show own_Go _ _ _ _ (s₁.setTop (mkF m 57 #[.val (.long q1), .second] []))
              refine own_by (fun t k => XS.iconst X0.here hx rfl (hb hby d2_57) k) ?_
              show own_Go _ _ _ _ (s₁.setTop (mkF m 58 #[.val (.long q1), .second] [(.int (5 : Int32))]))
              obtain ⟨fs, hr, hrun, hended, hW, hsame⟩ := X0.leave (v := some (.int (5 : Int32))) (fun h => by rw [Bd.returns] at h; cases h)
              refine ⟨_, _, retOut X0 hx Bd.returns rfl (Or.inl ⟨rfl, Or.inl rfl, _, rfl⟩) (hb hby d2_58) hr, hrun, hended, _, _, rfl, ?_, ⟨_, rfl⟩, hW, hsame.mono (by decide) (by decide)⟩
              show Q2 Z q1 h0 n0 _ s₁.heap _
              rw [e0]
              exact ⟨by simp [own_r, hc3, hc14, hc24, hc34, hc44, hc54], N0, rfl⟩
            · refine own_by (fun t k => XS.ifYes X0.here hx rfl (pc0 := 54) (pc' := 59) rfl (hb hby d2_54) rfl ((if0 _ _).trans (flt (fun q => hc54 ((lw_lt _ _).mp q))).2.1) (by decide) (by decide) k) ?_
              show own_Go _ _ _ _ (s₁.setTop (mkF m 59 #[.val (.long q1), .second] []))
              refine own_by (fun t k => XS.lloadN X0.here hx rfl (hb hby d2_59) rfl k) ?_
              show own_Go _ _ _ _ (s₁.setTop (mkF m 60 #[.val (.long q1), .second] [(.long q1)]))
              refine own_by (fun t k => X0.ldc2Long hx hown (mvT hZ (hw _ (List.mem_of_getElem? (i := 14) rfl))) (g := (mkF m 60 #[.val (.long q1), .second] [(.long q1)])) rfl (hb hby d2_60) _ k) ?_
              show own_Go _ _ _ _ (s₁.setTop (mkF m 63 #[.val (.long q1), .second] [(.long (4398046511104 : Int64)), (.long q1)]))
              refine own_by (fun t k => XS.lcmp X0.here hx rfl (hb hby d2_63) rfl k) ?_
              show own_Go _ _ _ _ (s₁.setTop (mkF m 64 #[.val (.long q1), .second] [(.int (lcmpW q1 (4398046511104 : Int64)))]))
              by_cases hc64 : q1 < (4398046511104 : Int64)
              · refine own_by (fun t k => XS.ifNo X0.here hx rfl (hb hby d2_64) rfl ((if0 _ _).trans (tlt ((lw_lt _ _).mpr hc64)).2.1) k) ?_
                show own_Go _ _ _ _ (s₁.setTop (mkF m 67 #[.val (.long q1), .second] []))
                refine own_by (fun t k => XS.bipush X0.here hx rfl (hb hby d2_67) k) ?_
                show own_Go _ _ _ _ (s₁.setTop (mkF m 69 #[.val (.long q1), .second] [(.int (6 : Int32))]))
                obtain ⟨fs, hr, hrun, hended, hW, hsame⟩ := X0.leave (v := some (.int (6 : Int32))) (fun h => by rw [Bd.returns] at h; cases h)
                refine ⟨_, _, retOut X0 hx Bd.returns rfl (Or.inl ⟨rfl, Or.inl rfl, _, rfl⟩) (hb hby d2_69) hr, hrun, hended, _, _, rfl, ?_, ⟨_, rfl⟩, hW, hsame.mono (by decide) (by decide)⟩
                show Q2 Z q1 h0 n0 _ s₁.heap _
                rw [e0]
                exact ⟨by simp [own_r, hc3, hc14, hc24, hc34, hc44, hc54, hc64], N0, rfl⟩
              · refine own_by (fun t k => XS.ifYes X0.here hx rfl (pc0 := 64) (pc' := 70) rfl (hb hby d2_64) rfl ((if0 _ _).trans (flt (fun q => hc64 ((lw_lt _ _).mp q))).2.1) (by decide) (by decide) k) ?_
                show own_Go _ _ _ _ (s₁.setTop (mkF m 70 #[.val (.long q1), .second] []))
                refine own_by (fun t k => XS.lloadN X0.here hx rfl (hb hby d2_70) rfl k) ?_
                show own_Go _ _ _ _ (s₁.setTop (mkF m 71 #[.val (.long q1), .second] [(.long q1)]))
                refine own_by (fun t k => X0.ldc2Long hx hown (mvT hZ (hw _ (List.mem_of_getElem? (i := 15) rfl))) (g := (mkF m 71 #[.val (.long q1), .second] [(.long q1)])) rfl (hb hby d2_71) _ k) ?_
                show own_Go _ _ _ _ (s₁.setTop (mkF m 74 #[.val (.long q1), .second] [(.long (562949953421312 : Int64)), (.long q1)]))
                refine own_by (fun t k => XS.lcmp X0.here hx rfl (hb hby d2_74) rfl k) ?_
                show own_Go _ _ _ _ (s₁.setTop (mkF m 75 #[.val (.long q1), .second] [(.int (lcmpW q1 (562949953421312 : Int64)))]))
                by_cases hc75 : q1 < (562949953421312 : Int64)
                · refine own_by (fun t k => XS.ifNo X0.here hx rfl (hb hby d2_75) rfl ((if0 _ _).trans (tlt ((lw_lt _ _).mpr hc75)).2.1) k) ?_
                  show own_Go _ _ _ _ (s₁.setTop (mkF m 78 #[.val (.long q1), .second] []))
                  refine own_by (fun t k => XS.bipush X0.here hx rfl (hb hby d2_78) k) ?_
                  show own_Go _ _ _ _ (s₁.setTop (mkF m 80 #[.val (.long q1), .second] [(.int (7 : Int32))]))
                  obtain ⟨fs, hr, hrun, hended, hW, hsame⟩ := X0.leave (v := some (.int (7 : Int32))) (fun h => by rw [Bd.returns] at h; cases h)
                  refine ⟨_, _, retOut X0 hx Bd.returns rfl (Or.inl ⟨rfl, Or.inl rfl, _, rfl⟩) (hb hby d2_80) hr, hrun, hended, _, _, rfl, ?_, ⟨_, rfl⟩, hW, hsame.mono (by decide) (by decide)⟩
                  show Q2 Z q1 h0 n0 _ s₁.heap _
                  rw [e0]
                  exact ⟨by simp [own_r, hc3, hc14, hc24, hc34, hc44, hc54, hc64, hc75], N0, rfl⟩
                · refine own_by (fun t k => XS.ifYes X0.here hx rfl (pc0 := 75) (pc' := 81) rfl (hb hby d2_75) rfl ((if0 _ _).trans (flt (fun q => hc75 ((lw_lt _ _).mp q))).2.1) (by decide) (by decide) k) ?_
                  show own_Go _ _ _ _ (s₁.setTop (mkF m 81 #[.val (.long q1), .second] []))
                  refine own_by (fun t k => XS.lloadN X0.here hx rfl (hb hby d2_81) rfl k) ?_
                  show own_Go _ _ _ _ (s₁.setTop (mkF m 82 #[.val (.long q1), .second] [(.long q1)]))
                  refine own_by (fun t k => X0.ldc2Long hx hown (mvT hZ (hw _ (List.mem_of_getElem? (i := 16) rfl))) (g := (mkF m 82 #[.val (.long q1), .second] [(.long q1)])) rfl (hb hby d2_82) _ k) ?_
                  show own_Go _ _ _ _ (s₁.setTop (mkF m 85 #[.val (.long q1), .second] [(.long (72057594037927936 : Int64)), (.long q1)]))
                  refine own_by (fun t k => XS.lcmp X0.here hx rfl (hb hby d2_85) rfl k) ?_
                  show own_Go _ _ _ _ (s₁.setTop (mkF m 86 #[.val (.long q1), .second] [(.int (lcmpW q1 (72057594037927936 : Int64)))]))
                  by_cases hc86 : q1 < (72057594037927936 : Int64)
                  · refine own_by (fun t k => XS.ifNo X0.here hx rfl (hb hby d2_86) rfl ((if0 _ _).trans (tlt ((lw_lt _ _).mpr hc86)).2.1) k) ?_
                    show own_Go _ _ _ _ (s₁.setTop (mkF m 89 #[.val (.long q1), .second] []))
                    refine own_by (fun t k => XS.bipush X0.here hx rfl (hb hby d2_89) k) ?_
                    show own_Go _ _ _ _ (s₁.setTop (mkF m 91 #[.val (.long q1), .second] [(.int (8 : Int32))]))
                    obtain ⟨fs, hr, hrun, hended, hW, hsame⟩ := X0.leave (v := some (.int (8 : Int32))) (fun h => by rw [Bd.returns] at h; cases h)
                    refine ⟨_, _, retOut X0 hx Bd.returns rfl (Or.inl ⟨rfl, Or.inl rfl, _, rfl⟩) (hb hby d2_91) hr, hrun, hended, _, _, rfl, ?_, ⟨_, rfl⟩, hW, hsame.mono (by decide) (by decide)⟩
                    show Q2 Z q1 h0 n0 _ s₁.heap _
                    rw [e0]
                    exact ⟨by simp [own_r, hc3, hc14, hc24, hc34, hc44, hc54, hc64, hc75, hc86], N0, rfl⟩
                  · refine own_by (fun t k => XS.ifYes X0.here hx rfl (pc0 := 86) (pc' := 92) rfl (hb hby d2_86) rfl ((if0 _ _).trans (flt (fun q => hc86 ((lw_lt _ _).mp q))).2.1) (by decide) (by decide) k) ?_
                    show own_Go _ _ _ _ (s₁.setTop (mkF m 92 #[.val (.long q1), .second] []))
                    refine own_by (fun t k => XS.bipush X0.here hx rfl (hb hby d2_92) k) ?_
                    show own_Go _ _ _ _ (s₁.setTop (mkF m 94 #[.val (.long q1), .second] [(.int (9 : Int32))]))
                    obtain ⟨fs, hr, hrun, hended, hW, hsame⟩ := X0.leave (v := some (.int (9 : Int32))) (fun h => by rw [Bd.returns] at h; cases h)
                    refine ⟨_, _, retOut X0 hx Bd.returns rfl (Or.inl ⟨rfl, Or.inl rfl, _, rfl⟩) (hb hby d2_94) hr, hrun, hended, _, _, rfl, ?_, ⟨_, rfl⟩, hW, hsame.mono (by decide) (by decide)⟩
                    show Q2 Z q1 h0 n0 _ s₁.heap _
                    rw [e0]
                    exact ⟨by simp [own_r, hc3, hc14, hc24, hc34, hc44, hc54, hc64, hc75, hc86], N0, rfl⟩
theorem pd_0_0 : parseMethodDescriptor "(J)I" = some ⟨[.long], some .int⟩ := by decide +kernel
theorem pn_0 : plainName "com/example/gauge_rank/gaugerank/retrieval/IndexFormatNumberLengthPinLaw" = true := by first | (simp [plainName, overriddenIn]; done) | decide +kernel
theorem ef_0 (m : MethodId) (q1 : Int64) (p2 : Int32) : entryFrame m #[(.long q1), (.int p2)] maxLocals = mkF m 0 #[.val (.long q1), .second, .val (.int p2), .unset, .unset] [] := by first | (simp [entryFrame, mkF, argsToLocals, Value.category, maxLocals]; done) | rfl
def Q0 (Z : State) (q1 : Int64) (p2 : Int32) (h0 : Heap) (n0 : Nat) (v : Option Value) (h : Heap) (L : List Loc) : Prop := v = some (.int (1 : Int32)) ∧ Fr n0 L
abbrev P0 (Z : State) (q1 : Int64) (p2 : Int32) (h0 : Heap) (n0 : Nat) (s : State) : Outcome → State → Prop := fun o U' => ∃ v L, o = .returned v ∧ Q0 Z q1 p2 h0 n0 v U'.heap L ∧ FrameEnd s o U' L room_1.cells room_1.slots
set_option maxRecDepth 65536 in
set_option maxHeartbeats 40000000 in
theorem rm0 (l : Launch) (Z : State) (a0 : Array Value) (hw : ∀ d ∈ tables_1, d.before a0 Z = true) (ws : List Jvm.Cond) (q1 : Int64) (p2 : Int32) (h0 : Heap) (n0 : Nat) (Z0 : n0 ≤ h0.size) :
    MetFree l x (head1 (Jvm.Cond.code x code maxLocals ret :: ws) room_1) (fun a U => a = #[(.long q1), (.int p2)] ∧ Z.Warmed39 U.vm ∧ U.heap = h0) (fun _ _ _ _ _ => True) (fun _ U o U' => ∃ v L, o = .returned v ∧ Q0 Z q1 p2 h0 n0 v U'.heap L ∧ FrameEnd U o U' L room_1.cells room_1.slots) := by
  refine MetFree.of_bodySF (plainFor_of_name pn_0) hisR ?_
  intro p e s m args below meth c s₁ Bd hml0 hP hK
  obtain ⟨rfl, hZ, hh⟩ := hP
  have hx := Bd.exec
  have hby := Bd.bytes
  have hml : c.maxLocals = 5 := hml0
  have hown : s.vm.findClass "com/example/gauge_rank/gaugerank/retrieval/IndexFormatNumberLengthPinLaw" = some m.cls := findClass_of_methodNamed Bd.named
  have hnm := (name_of_methodNamed Bd.named Bd.method).1
  have X0 : Stand p l e room_1 s m #[(.long q1), (.int p2)] below meth c s₁ [] 0 0 := Stand.of_body Bd
  have e0 : s₁.heap = h0 := by rw [← hh, Bd.state]; rfl
  have N0 := Fr.nil n0
  show own_Go p.tables e below (P0 Z q1 p2 h0 n0 s) (s₁.setTop (entryFrame m #[(.long q1), (.int p2)] maxLocals))
  refine own_by (T' := s₁.setTop (mkF m 0 #[.val (.long q1), .second, .val (.int p2), .unset, .unset] [])) (fun t k => castTop (ef_0 m q1 p2) k) ?_
  show own_Go _ _ _ _ (s₁.setTop (mkF m 0 #[.val (.long q1), .second, .val (.int p2), .unset, .unset] []))
  refine own_by (fun t k => XS.lloadN X0.here hx rfl (hb hby at_0) rfl k) ?_
  show own_Go _ _ _ _ (s₁.setTop (mkF m 1 #[.val (.long q1), .second, .val (.int p2), .unset, .unset] [(.long q1)]))
  refine own_by (fun t k => XS.iloadN X0.here hx rfl (hb hby at_1) rfl k) ?_
  show own_Go _ _ _ _ (s₁.setTop (mkF m 2 #[.val (.long q1), .second, .val (.int p2), .unset, .unset] [(.int p2), (.long q1)]))
  refine own_by (fun t k => XS.bipush X0.here hx rfl (hb hby at_2) k) ?_
  show own_Go _ _ _ _ (s₁.setTop (mkF m 4 #[.val (.long q1), .second, .val (.int p2), .unset, .unset] [(.int (63 : Int32)), (.int p2), (.long q1)]))
  refine own_by (fun t k => XS.iand X0.here hx rfl (hb hby at_4) rfl k) ?_
  show own_Go _ _ _ _ (s₁.setTop (mkF m 5 #[.val (.long q1), .second, .val (.int p2), .unset, .unset] [(.int (p2 &&& (63 : Int32))), (.long q1)]))
  refine own_by (fun t k => XS.lushr X0.here hx rfl (hb hby at_5) rfl k) ?_
  show own_Go _ _ _ _ (s₁.setTop (mkF m 6 #[.val (.long q1), .second, .val (.int p2), .unset, .unset] [(.long ((q1.toUInt64 >>> ((p2 &&& (63 : Int32)) &&& 0x3f).toInt64.toUInt64).toInt64))]))
  obtain ⟨nn, hnn⟩ : ∃ z : Int64, z = ((q1.toUInt64 >>> ((p2 &&& (63 : Int32)) &&& 0x3f).toInt64.toUInt64).toInt64) := ⟨_, rfl⟩
  rw [← hnn]
  show own_Go _ _ _ _ (s₁.setTop (mkF m 6 #[.val (.long q1), .second, .val (.int p2), .unset, .unset] [(.long nn)]))
  refine own_by (fun t k => XS.lstoreN X0.here hx rfl (hb hby at_6) rfl (l' := #[.val (.long q1), .second, .val (.int p2), .val (.long nn), .second]) rfl k) ?_
  show own_Go _ _ _ _ (s₁.setTop (mkF m 7 #[.val (.long q1), .second, .val (.int p2), .val (.long nn), .second] []))
  refine own_by (fun t k => XS.lloadN X0.here hx rfl (hb hby at_7) rfl k) ?_
  show own_Go _ _ _ _ (s₁.setTop (mkF m 8 #[.val (.long q1), .second, .val (.int p2), .val (.long nn), .second] [(.long nn)]))
  obtain ⟨_, _, ⟨Tc0_1, Lc0_1, kc0_1, nc0_1⟩, -, Xc0_1, ⟨Lcc0_1, hQc0_1, lc0_1, yc0_1, zc0_1⟩, stc0_1⟩ := Jvm.LawKit.callS X0 hx (y := (⟨"com/example/gauge_rank/gaugerank/retrieval/IndexFormat", "numberLength", "(J)I"⟩ : MethodName)) hown (mvT hZ (hw _ (List.mem_of_getElem? (i := 0) rfl))) (mvT hZ (hw _ (List.mem_of_getElem? (i := 1) rfl))) (mvT hZ (hw _ (List.mem_of_getElem? (i := 2) rfl))) (mvT hZ (hw _ (List.mem_of_getElem? (i := 3) rfl))) (by decide) (backOf (W := 0) (rm1 l Z a0 hw [] nn  h0 n0 Z0 ) hZ (hw _ (List.mem_of_getElem? (i := 3) rfl)) (hw _ (List.mem_of_getElem? (i := 2) rfl)) (by decide) (by decide)) (g := (mkF m 8 #[.val (.long q1), .second, .val (.int p2), .val (.long nn), .second] [(.long nn)])) rfl (by rw [hml]; rfl) (argsL := [(.long nn)]) (rest := []) (lenOf pd_0_0 rfl) rfl (by show 2 * 0 + _ ≤ _; exact Nat.le_of_eq rfl) (hb hby at_8) (fun _ _ => ⟨rfl, e0, (by decide : 0 + 0 ≤ _), (by decide : 0 + 0 ≤ _)⟩)
  dsimp only [Pt.U, Pt.locs, Pt.cells, Pt.slots] at Xc0_1 lc0_1 yc0_1 zc0_1 stc0_1 hQc0_1
  subst lc0_1 yc0_1 zc0_1
  obtain ⟨rfl, Nc0_1q, ehc0_1⟩ := hQc0_1
  have Nc0_1 := Fr.app N0 Nc0_1q
  refine own_by (fun t k => stc0_1 t k) ?_
  show own_Go _ _ _ _ (Tc0_1.setTop (mkF m 11 #[.val (.long q1), .second, .val (.int p2), .val (.long nn), .second] [(.int (own_r nn))]))
  refine own_by (fun t k => XS.lloadN Xc0_1.here hx rfl (hb hby at_11) rfl k) ?_
  show own_Go _ _ _ _ (Tc0_1.setTop (mkF m 12 #[.val (.long q1), .second, .val (.int p2), .val (.long nn), .second] [(.long nn), (.int (own_r nn))]))
  obtain ⟨_, _, ⟨Tc0_2, Lc0_2, kc0_2, nc0_2⟩, -, Xc0_2, ⟨Lcc0_2, hQc0_2, lc0_2, yc0_2, zc0_2⟩, stc0_2⟩ := Jvm.LawKit.callS Xc0_1 hx (y := (⟨"com/example/gauge_rank/gaugerank/retrieval/IndexFormatNumberLengthPinLaw", "expected", "(J)I"⟩ : MethodName)) hown (mvT hZ (hw _ (List.mem_of_getElem? (i := 5) rfl))) (mvT hZ (hw _ (List.mem_of_getElem? (i := 6) rfl))) (mvT hZ (hw _ (List.mem_of_getElem? (i := 7) rfl))) (mvT hZ (hw _ (List.mem_of_getElem? (i := 8) rfl))) (by decide) (backOf (W := 1) (rm2 l Z a0 hw [] nn  h0 n0 Z0 ) hZ (hw _ (List.mem_of_getElem? (i := 8) rfl)) (hw _ (List.mem_of_getElem? (i := 7) rfl)) (by decide) (by decide)) (g := (mkF m 12 #[.val (.long q1), .second, .val (.int p2), .val (.long nn), .second] [(.long nn), (.int (own_r nn))])) rfl (by rw [hml]; rfl) (argsL := [(.long nn)]) (rest := [(.int (own_r nn))]) (lenOf pd_0_0 rfl) rfl (by show 2 * 0 + _ ≤ _; exact Nat.le_of_eq rfl) (hb hby at_12) (fun _ _ => ⟨rfl, ehc0_1, (by decide : 0 + 0 ≤ _), (by decide : 0 + 0 ≤ _)⟩)
  dsimp only [Pt.U, Pt.locs, Pt.cells, Pt.slots] at Xc0_2 lc0_2 yc0_2 zc0_2 stc0_2 hQc0_2
  subst lc0_2 yc0_2 zc0_2
  obtain ⟨rfl, Nc0_2q, ehc0_2⟩ := hQc0_2
  have Nc0_2 := Fr.app Nc0_1 Nc0_2q
  refine own_by (fun t k => stc0_2 t k) ?_
  show own_Go _ _ _ _ (Tc0_2.setTop (mkF m 15 #[.val (.long q1), .second, .val (.int p2), .val (.long nn), .second] [(.int (own_r nn)), (.int (own_r nn))]))
  refine own_by (fun t k => XS.icmpNo Xc0_2.here hx rfl (hb hby at_15) rfl (teq (rfl : (own_r nn) = (own_r nn))).2 k) ?_
  show own_Go _ _ _ _ (Tc0_2.setTop (mkF m 18 #[.val (.long q1), .second, .val (.int p2), .val (.long nn), .second] []))
  refine own_by (fun t k => XS.iconst Xc0_2.here hx rfl (hb hby at_18) k) ?_
  show own_Go _ _ _ _ (Tc0_2.setTop (mkF m 19 #[.val (.long q1), .second, .val (.int p2), .val (.long nn), .second] [(.int (1 : Int32))]))
  refine own_by (fun t k => XS.goto Xc0_2.here hx rfl (pc0 := 19) (pc' := 23) rfl (hb hby at_19) (by decide) (by decide) k) ?_
  show own_Go _ _ _ _ (Tc0_2.setTop (mkF m 23 #[.val (.long q1), .second, .val (.int p2), .val (.long nn), .second] [(.int (1 : Int32))]))
  obtain ⟨fs, hr, hrun, hended, hW, hsame⟩ := Xc0_2.leave (v := some (.int (1 : Int32))) (fun h => by rw [Bd.returns] at h; cases h)
  refine ⟨_, _, retN Xc0_2 hx (t := .boolean) Bd.returns (by simp) (hb hby at_23) hr, hrun, hended, _, _, rfl, ?_, ⟨_, rfl⟩, hW, hsame.mono (by decide) (by decide)⟩
  show Q0 Z q1 p2 h0 n0 _ Tc0_2.heap _
  rw [ehc0_2]
  exact ⟨rfl, Nc0_2⟩
set_option maxRecDepth 65536 in
set_option maxHeartbeats 40000000 in
theorem comes_1 {Post : Tables → Env → Array Value → State → Outcome → State → Prop} (hpost : ∀ tb e args s v u, (limb_1_1.after args s (.returned v) u = true ∧ limb_1_2.after args s (.returned v) u = true ∧ True) → FrameEnd s (.returned v) u (Jvm.fieldLocs frame_1_writes args s ++ Jvm.arrayLocs frame_1_arrays args s ++ Jvm.staticLocs frame_1_statics s) 0 0 → Post tb e args s (.returned v) u) :
    ArmFor flags0 classFile x code maxLocals ret World_1 tables_1 room_1 Calls_1 rest_1 Pre_1 Post := by
  intro l hfl _ _ p e ha hc hk s m args below hf hA hF happ hP
  obtain ⟨hcalls, hrest, hpre⟩ := hP
  obtain ⟨-, -, -, hnamed, -, -, -, hat⟩ := (Spec.applies_iff hf).mp happ
  obtain ⟨hg, hn⟩ := and_e (Cond.before_iff.mp (show (Jvm.Cond.and given_1 narrow_1).before args s = true from hpre))
  obtain ⟨gc, gr0⟩ := and_e hg
  obtain ⟨ga0, gr1⟩ := and_e gr0
  obtain ⟨w0, w1, rfl⟩ : ∃ w0 w1 : Value, args = #[w0, w1] := by
    have hs : args.size = 2 := by simpa [Cond.value, given_1] using gc
    obtain ⟨L⟩ := args
    match L, hs with
    | [w0, w1], _ => exact ⟨w0, w1, rfl⟩
  have hw := fun d (hd : d ∈ tables_1) => atoms_spec (ws := Jvm.Cond.code x code maxLocals ret :: tables_1) hat d (List.mem_cons_of_mem _ hd)
  obtain ⟨i0, ei0⟩ := isL_v ga0
  obtain rfl : w0 = (.long i0) := Option.some.inj ei0
  obtain ⟨i1, ei1⟩ := is_v gr1
  obtain rfl : w1 = (.int i1) := Option.some.inj ei1
  obtain ⟨n, o, h1, h2, h3, _, L, rfl, ⟨rfl, N⟩, hq⟩ := rm0 l s _ hw tables_1 i0 i1 s.heap s.heap.size (Nat.le_refl _) p e ha hc hk s m _ below hf ((Spec.applies_iff_loose hf).mp happ).1 ⟨rfl, State.Warmed39.refl s, rfl⟩ trivial
  refine ⟨n, _, h1, h2, h3, hpost _ _ _ _ _ _ ⟨Cond.after_iff.mpr rfl, Cond.after_iff.mpr (eq_i res_at (Term.int_eval (1)) rfl), trivial⟩ ⟨hq.1, hq.2.1, (hq.2.2.sift fun y hy => Or.inr (N y hy)).mono (by decide) (by decide)⟩⟩
theorem main_1_1 : Claimed_1_1 := comes_1 fun _ _ _ _ _ _ h hF => ⟨h.1, hF⟩
theorem main_1_2 : Claimed_1_2 := comes_1 fun _ _ _ _ _ _ h hF => ⟨h.2.1, hF⟩
end Jvm.Pilot.@@N@@
namespace Jvm.Pilot.@@N@@
open Jvm Jvm.ClassFile Sem Op Lib Jvm.Free Jvm.Stand Jvm.Pilot.@@N@@.Jvm.D
/-! MADE BY PROGRAM (witnessworld.py) out of the Statement's table words and the real class files: 9 classes; the members and pool entries that the words name. The judged class is class 1, her method 2. -/
namespace start1
open Jvm.ClassFile
def u (s : String) : CpInfo := .utf8 (stringToUtf16 s)
/-- a pool by its gaps: so many unusable entries, then the entry; so many at the end -/
def gap : Nat → List CpInfo → List CpInfo
  | 0, r => r
  | n + 1, r => .unusable :: gap n r
def poolList (es : List (Nat × CpInfo)) (last : Nat) : List CpInfo := es.foldr (fun e r => gap e.1 (e.2 :: r)) (gap last [])
def pool (es : List (Nat × CpInfo)) (last : Nat) : Array CpInfo := ⟨poolList es last⟩
def fileOf (pool : Array CpInfo) (this : Nat) (attrs : Array Attribute := #[]) (ms : Array MethodInfo := #[]) (fl : Nat := 33) (sup : Nat := 0) (ifs : Array Nat := #[]) (fds : Array FieldInfo := #[]) : ClassFile where
  minorVersion := 0
  majorVersion := 65
  constantPool := pool
  accessFlags := fl
  thisClass := this
  superClass := sup
  interfaces := ifs
  fields := fds
  methods := ms
  attributes := attrs
def plain (name : String) (sup : Option ClassId) : Class where
  name := name
  kind := .ordinary
  loader := none
  accessFlags := 33
  super := sup
  interfaces := #[]
  cf := none
  fields := #[]
  methods := #[]
  instanceTypes := #[]
  staticTypes := #[]
  resolved := #[]
  callSites := []
  init := .initialized
  statics := none
  mirror := none

def pool0 : Array CpInfo := pool [(5, u "<init>"), (0, u "()V"), (1, .class_ 10), (1, u "java/lang/Object")] 113

def k0m0 : Method := { name := "<init>", desc := "()V", sig := { parameters := [], returnType := none }, accessFlags := 1, code := none }
/-- java/lang/Object -/
def k0 : Class := { plain "java/lang/Object" none with
  accessFlags := 33
  interfaces := #[]
  cf := some (fileOf pool0 8 #[] #[{ accessFlags := 1, nameIndex := 5, descriptorIndex := 6, attributes := #[] }] 33 0 #[] #[])
  fields := #[]
  methods := #[k0m0]
  instanceTypes := #[]
  staticTypes := #[]
  resolved := Array.replicate 124 none
  statics := none }

def pool1 : Array CpInfo := pool [(2, .class_ 4), (1, u "java/lang/Object"), (0, u "<init>"), (0, u "()V"), (0, .long 128), (1, .long 16384), (1, .long 2097152), (1, .long 268435456), (1, .long 34359738368), (1, .long 4398046511104), (1, .long 562949953421312), (1, .long 72057594037927936), (1, .methodref 24 25), (0, .class_ 26), (0, .nameAndType 27 28), (0, u "com/example/gauge_rank/gaugerank/retrieval/IndexFormat"), (0, u "numberLength"), (0, u "(J)I"), (0, .methodref 30 31), (0, .class_ 32), (0, .nameAndType 33 28), (0, u "com/example/gauge_rank/gaugerank/retrieval/IndexFormatNumberLengthPinLaw"), (0, u "expected"), (3, u "law"), (0, u "(JI)Z")] 2

def k1m0 : Method := { name := "<init>", desc := "()V", sig := { parameters := [], returnType := none }, accessFlags := 2, code := none }
def k1c1 : Code := { maxStack := 4, maxLocals := 2, code := method_2_code, exceptionTable := #[], attributes := #[] }
def k1m1 : Method := { name := "expected", desc := "(J)I", sig := { parameters := [.long], returnType := some .int }, accessFlags := 10, code := some k1c1 }
def k1c2 : Code := { maxStack := 4, maxLocals := 5, code := code, exceptionTable := #[], attributes := #[] }
def k1m2 : Method := { name := "law", desc := "(JI)Z", sig := { parameters := [.long, .int], returnType := some .boolean }, accessFlags := 9, code := some k1c2 }
/-- com/example/gauge_rank/gaugerank/retrieval/IndexFormatNumberLengthPinLaw -/
def k1 : Class := { plain "com/example/gauge_rank/gaugerank/retrieval/IndexFormatNumberLengthPinLaw" (some 0) with
  accessFlags := 49
  interfaces := #[]
  cf := some (fileOf pool1 30 #[] #[{ accessFlags := 2, nameIndex := 5, descriptorIndex := 6, attributes := #[] }, { accessFlags := 10, nameIndex := 33, descriptorIndex := 28, attributes := #[] }, { accessFlags := 9, nameIndex := 37, descriptorIndex := 38, attributes := #[] }] 49 2 #[] #[])
  fields := #[]
  methods := #[k1m0, k1m1, k1m2]
  instanceTypes := #[]
  staticTypes := #[]
  resolved := Array.replicate 41 none
  statics := none }

def pool2 : Array CpInfo := pool [(1, .class_ 2), (0, u "com/example/gauge_rank/gaugerank/retrieval/IndexFormat"), (3, .class_ 8), (1, u "java/lang/Object"), (0, u "<init>"), (0, u "()V"), (0, .long 18446744073709551488), (69, u "TERM_ORDER"), (0, u "Ljava/util/Comparator;"), (0, u "HEADER"), (0, u "Ljava/lang/String;"), (3, u "TERMS"), (2, u "POSTINGS"), (2, u "MAGIC"), (0, u "I"), (1, u "VERSION"), (3, u "GROUP_BITS"), (1, u "GROUP"), (1, u "MORE"), (1, u "LONGEST_NUMBER"), (7, u "numberLength"), (0, u "(J)I")] 39

def k2m0 : Method := { name := "<init>", desc := "()V", sig := { parameters := [], returnType := none }, accessFlags := 2, code := none }
def k2c1 : Code := { maxStack := 4, maxLocals := 5, code := prog_36_method_3_code, exceptionTable := #[], attributes := #[] }
def k2m1 : Method := { name := "numberLength", desc := "(J)I", sig := { parameters := [.long], returnType := some .int }, accessFlags := 8, code := some k2c1 }
/-- com/example/gauge_rank/gaugerank/retrieval/IndexFormat -/
def k2 : Class := { plain "com/example/gauge_rank/gaugerank/retrieval/IndexFormat" (some 0) with
  accessFlags := 32
  interfaces := #[]
  cf := some (fileOf pool2 1 #[] #[{ accessFlags := 2, nameIndex := 9, descriptorIndex := 10, attributes := #[] }, { accessFlags := 8, nameIndex := 115, descriptorIndex := 116, attributes := #[] }] 32 6 #[] #[{ accessFlags := 24, nameIndex := 83, descriptorIndex := 84, attributes := #[] }, { accessFlags := 24, nameIndex := 88, descriptorIndex := 84, attributes := #[] }, { accessFlags := 24, nameIndex := 91, descriptorIndex := 84, attributes := #[] }, { accessFlags := 24, nameIndex := 94, descriptorIndex := 95, attributes := #[] }, { accessFlags := 24, nameIndex := 97, descriptorIndex := 95, attributes := #[] }, { accessFlags := 24, nameIndex := 81, descriptorIndex := 82, attributes := #[] }, { accessFlags := 26, nameIndex := 101, descriptorIndex := 95, attributes := #[] }, { accessFlags := 26, nameIndex := 103, descriptorIndex := 95, attributes := #[] }, { accessFlags := 26, nameIndex := 105, descriptorIndex := 95, attributes := #[] }, { accessFlags := 26, nameIndex := 107, descriptorIndex := 95, attributes := #[] }])
  fields := #[{ name := "HEADER", type := (.object "java/lang/String"), accessFlags := 24, slot := 0, constantValue := 0 }, { name := "TERMS", type := (.object "java/lang/String"), accessFlags := 24, slot := 1, constantValue := 0 }, { name := "POSTINGS", type := (.object "java/lang/String"), accessFlags := 24, slot := 2, constantValue := 0 }, { name := "MAGIC", type := .int, accessFlags := 24, slot := 3, constantValue := 0 }, { name := "VERSION", type := .int, accessFlags := 24, slot := 4, constantValue := 0 }, { name := "TERM_ORDER", type := (.object "java/util/Comparator"), accessFlags := 24, slot := 5, constantValue := 0 }, { name := "GROUP_BITS", type := .int, accessFlags := 26, slot := 6, constantValue := 0 }, { name := "GROUP", type := .int, accessFlags := 26, slot := 7, constantValue := 0 }, { name := "MORE", type := .int, accessFlags := 26, slot := 8, constantValue := 0 }, { name := "LONGEST_NUMBER", type := .int, accessFlags := 26, slot := 9, constantValue := 0 }]
  methods := #[k2m0, k2m1]
  instanceTypes := #[]
  staticTypes := #[(.object "java/lang/String"), (.object "java/lang/String"), (.object "java/lang/String"), .int, .int, (.object "java/util/Comparator"), .int, .int, .int, .int]
  resolved := Array.replicate 156 none
  statics := none }

def pool3 : Array CpInfo := pool [(1, u "java/lang/Cloneable"), (0, .class_ 1), (0, u "java/lang/Object"), (0, .class_ 3)] 3

/-- java/lang/Cloneable -/
def k3 : Class := { plain "java/lang/Cloneable" (some 0) with
  accessFlags := 1537
  interfaces := #[]
  cf := some (fileOf pool3 2 #[] #[] 1537 4 #[] #[])
  fields := #[]
  methods := #[]
  instanceTypes := #[]
  staticTypes := #[]
  resolved := Array.replicate 8 none
  statics := none }

def pool4 : Array CpInfo := pool [(1, u "java/io/Serializable"), (0, .class_ 1), (0, u "java/lang/Object"), (0, .class_ 3)] 3

/-- java/io/Serializable -/
def k4 : Class := { plain "java/io/Serializable" (some 0) with
  accessFlags := 1537
  interfaces := #[]
  cf := some (fileOf pool4 2 #[] #[] 1537 4 #[] #[])
  fields := #[]
  methods := #[]
  instanceTypes := #[]
  staticTypes := #[]
  resolved := Array.replicate 8 none
  statics := none }

/-- the primitive byte -/
def k5 : Class := { plain "byte" none with kind := .primitive 'B', accessFlags := 0x411 }
/-- [B -/
def k6 : Class := { plain "[B" (some 0) with kind := .array 5 .byte, interfaces := #[3, 4], accessFlags := 1041 }

/-- the primitive int -/
def k7 : Class := { plain "int" none with kind := .primitive 'I', accessFlags := 0x411 }
/-- [I -/
def k8 : Class := { plain "[I" (some 0) with kind := .array 7 .int, interfaces := #[3, 4], accessFlags := 1041 }

def heap : Heap := #[]
def classes : Array Class := #[k0, k1, k2, k3, k4, k5, k6, k7, k8]
def interned : List (Array UInt16 × Addr) := []
def slotsUsed : Nat := 0
def theMethod : MethodId := ⟨1, 2⟩
def args0 : Array Value := #[.long 5, .int 7]
def aboutOver (below : List Frame) : State where
  vm := { classes := classes, interned := interned.toArray }
  heap := heap
  slotsUsed := slotsUsed
  threads := #[{ frames := .invoking theMethod args0 :: below }]
def below0 : List Frame := [.native { method := ⟨0, 0⟩, args := #[] }]
def about1 : State := aboutOver below0
def p0 : Program := .bare "" "" ""
def e0 : Env := launch0.env 0 0 0
theorem w_frames : about1.frames = Frame.invoking theMethod args0 :: below0 := rfl
set_option maxRecDepth 65536 in
theorem w_args : argsFit about1.vm theMethod args0 = true := by decide +kernel
set_option maxRecDepth 65536 in
theorem w_heap : heapFits about1 = true := by decide +kernel
set_option maxRecDepth 65536 in
theorem w_runnable : about1.curStatus? = some .runnable := by decide +kernel
set_option maxRecDepth 65536 in
theorem w_alone : about1.alone = true := by decide +kernel
set_option maxRecDepth 65536 in
theorem w_named : about1.methodNamed? x = some theMethod := by decide +kernel
set_option maxRecDepth 65536 in
theorem w_hears : about1.hears theMethod below0 = true := by decide +kernel
set_option maxRecDepth 65536 in
theorem w_ripe : about1.ripe theMethod args0 below0 = true := by decide +kernel
theorem w_running : about1.status = .running := rfl
set_option maxRecDepth 65536 in
theorem w_room : about1.hasRoom e0.platform room_1 = true :=
  launch0.hasRoom_least _ room_1 (by decide +kernel) (by decide +kernel) (by decide +kernel) (by decide +kernel) (by decide +kernel) (by decide +kernel)
theorem allAtoms_all (ts : List Jvm.Cond) (a : Array Jvm.Value) (st : Jvm.State) : (allAtoms ts).before a st = ts.all (fun c => c.before a st) := by
  induction ts with
  | nil => rfl
  | cons c t ih =>
    show (Jvm.Cond.and c (allAtoms t)).before a st = _
    rw [Jvm.Cond.before_and, ih, List.all_cons]
def words1 : List Jvm.Cond := Jvm.Cond.code x code maxLocals ret :: tables_1
/-- a 'code' word, met by the world's own term for the bytes: nothing is compared byte by byte -/
theorem code_word {y : MethodName} {bytes : ByteArray} {mx : Nat} {rt : Option FieldType} {a : Array Value} {s : State} {m : MethodId} {meth : Method} {c : Code} (h1 : s.methodNamed? y = some m) (h2 : s.vm.method? m = some meth) (h3 : meth.code = some c) (h4 : c.code = bytes)
    (h5 : (c.maxLocals == mx && c.exceptionTable.isEmpty && decide (c.maxStack ≤ mostOperands) && decide (meth.sig.returnType = rt) && !meth.locks && decide (parseMethodDescriptor y.desc = some meth.sig)) = true) : (Jvm.Cond.code y bytes mx rt).before a s = true := by
  simp only [Bool.and_eq_true, beq_iff_eq, Bool.not_eq_true', decide_eq_true_eq] at h5
  obtain ⟨⟨⟨⟨⟨g1, g2⟩, g3⟩, g4⟩, g5⟩, g6⟩ := h5
  simp [Cond.before, Cond.holds, Cond.value, h1, h2, h3, h4, g1, g2, g3, g4, g5, g6]
def isCode : Jvm.Cond → Bool
  | .code _ _ _ _ => true
  | _ => false
theorem all_split {L : List Jvm.Cond} {P : Jvm.Cond → Bool} (h1 : L.all (fun c => isCode c || P c) = true) (h2 : ∀ c ∈ L.filter isCode, P c = true) : L.all P = true := by
  refine List.all_eq_true.mpr fun c hc => ?_
  have h := List.all_eq_true.mp h1 c hc
  rcases Bool.eq_false_or_eq_true (isCode c) with hi | hi
  · exact h2 c (List.mem_filter.mpr ⟨hc, hi⟩)
  · simpa [hi] using h
set_option maxRecDepth 65536 in
theorem w_c0 : (Jvm.Cond.code x code maxLocals ret).before args0 about1 = true := code_word (m := ⟨1, 2⟩) (meth := k1m2) (c := k1c2) (by decide +kernel) rfl rfl rfl (by decide +kernel)
set_option maxRecDepth 65536 in
theorem w_c1 : (Jvm.Cond.code ({ cls := "com/example/gauge_rank/gaugerank/retrieval/IndexFormat", name := "numberLength", desc := "(J)I" } : Jvm.MethodName) prog_36_method_3_code (5 : Nat) (Option.some Jvm.ClassFile.FieldType.int)).before args0 about1 = true := code_word (m := ⟨2, 1⟩) (meth := k2m1) (c := k2c1) (by decide +kernel) rfl rfl rfl (by decide +kernel)
set_option maxRecDepth 65536 in
theorem w_c2 : (Jvm.Cond.code ({ cls := "com/example/gauge_rank/gaugerank/retrieval/IndexFormatNumberLengthPinLaw", name := "expected", desc := "(J)I" } : Jvm.MethodName) method_2_code (2 : Nat) (Option.some Jvm.ClassFile.FieldType.int)).before args0 about1 = true := code_word (m := ⟨1, 1⟩) (meth := k1m1) (c := k1c1) (by decide +kernel) rfl rfl rfl (by decide +kernel)
def codes1 : List Jvm.Cond := [Jvm.Cond.code x code maxLocals ret, Jvm.Cond.code ({ cls := "com/example/gauge_rank/gaugerank/retrieval/IndexFormat", name := "numberLength", desc := "(J)I" } : Jvm.MethodName) prog_36_method_3_code (5 : Nat) (Option.some Jvm.ClassFile.FieldType.int), Jvm.Cond.code ({ cls := "com/example/gauge_rank/gaugerank/retrieval/IndexFormatNumberLengthPinLaw", name := "expected", desc := "(J)I" } : Jvm.MethodName) method_2_code (2 : Nat) (Option.some Jvm.ClassFile.FieldType.int)]
set_option maxRecDepth 65536 in
theorem codes_eq : words1.filter isCode = codes1 := rfl
theorem w_codes : ∀ c ∈ words1.filter isCode, c.before args0 about1 = true := by
  rw [codes_eq]
  intro c hc
  simp only [codes1, List.mem_cons, List.not_mem_nil, or_false] at hc
  rcases hc with rfl | rfl | rfl
  · exact w_c0
  · exact w_c1
  · exact w_c2
set_option maxRecDepth 65536 in
theorem w_t1 : words1.all (fun c => isCode c || c.before args0 about1) = true := by decide +kernel
theorem w_tables : (allAtoms (Jvm.Cond.code x code maxLocals ret :: tables_1)).before args0 about1 = true := by
  rw [allAtoms_all]
  show words1.all (fun c => c.before args0 about1) = true
  refine all_split ?_ w_codes
  rw [w_t1]
set_option maxRecDepth 65536 in
theorem w_case : (Jvm.Cond.and given_1 narrow_1).before args0 about1 = true := by decide +kernel
theorem w_applies : (headSpec (Jvm.Cond.code x code maxLocals ret :: tables_1) room_1).applies x e0.platform about1 = true :=
  (Spec.applies_iff w_frames).mpr ⟨w_running, w_runnable, w_alone, w_named, w_hears, w_ripe, w_room, w_tables⟩
theorem atStart : AtStart classFile x code maxLocals ret World_1 tables_1 room_1 Calls_1 rest_1 Pre_1 launch0 p0 e0 about1 theMethod args0 below0 :=
  ⟨lists_1, trivial, launch0.admits_env _ _ _, launch0.least_env, fairChoices_fair.cas, fairChoices_fair.clock, w_frames, w_args, w_heap, w_applies, trivial, trivial, w_case⟩
end start1
theorem witness_1 : WitnessClaimed_1 := ⟨start1.p0, start1.e0, start1.about1, start1.theMethod, start1.args0, start1.below0, start1.atStart⟩
end Jvm.Pilot.@@N@@
