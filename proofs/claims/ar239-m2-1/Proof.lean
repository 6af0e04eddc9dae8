import JvmDerived
import JvmDerived.Pilot.@@N@@Statement
import JvmDerived.Pilot.@@N@@Code
set_option linter.unusedVariables false
set_option linter.unusedSimpArgs false
namespace Jvm.Pilot.@@N@@
open Jvm Jvm.ClassFile Sem Op Lib Jvm.Free Jvm.Stand Jvm.LawKit Jvm.RoadKit Bundle Jvm.Pilot.@@N@@.Jvm.D
/-! the end of a walk, as a goal that forks and joins can be walked under -/
def own_Go (tb : Tables) (e : Env) (below : List Frame) (P : Outcome → State → Prop) (T : State) : Prop := ∃ s₂ o, Steps tb e below T s₂ ∧ s₂.status = .running ∧ Ended s₂ below o ∧ P o s₂
theorem own_by {tb : Tables} {e : Env} {below : List Frame} {P : Outcome → State → Prop} {T T' : State} (h : ∀ t, Steps tb e below T' t → Steps tb e below T t) (g : own_Go tb e below P T') : own_Go tb e below P T := by
  obtain ⟨s2, o, h1, h2⟩ := g
  exact ⟨s2, o, h _ h1, h2⟩
/-! an array by its length and what its places hold -/
def own_Ar (Z : State) (h : Heap) (a : Addr) (ty : FieldType) (n : Int32) (f : Nat → Value) : Prop := ∃ c : Cell, Arr Z h a c ty ∧ c.slots.size = n.toNatClampNeg ∧ ¬ n < 0 ∧ ∀ k, k < c.slots.size → c.slots[k]? = some (f k)
section Arrays
variable {Z : State} {h h' : Heap} {a b : Addr} {ty : FieldType} {n : Int32} {f f' : Nat → Value} {sl : Nat} {v : Value} {ws : List Addr}
theorem own_Ar.lt (V : own_Ar Z h a ty n f) : a < h.size := by obtain ⟨c, A, -⟩ := V; exact A.lt
theorem own_Ar.ext (V : own_Ar Z h a ty n f) (E : Ext h h') : own_Ar Z h' a ty n f := by obtain ⟨c, A, r⟩ := V; exact ⟨c, A.ext E, r⟩
theorem own_Ar.other (V : own_Ar Z h b ty n f) (W : Wr h h' a sl v) (q : b ≠ a) : own_Ar Z h' b ty n f := by obtain ⟨c, A, r⟩ := V; exact ⟨c, A.other W q, r⟩
theorem own_Ar.keep (V : own_Ar Z h a ty n f) (K : Keep h h' ws) (q : a ∉ ws) : own_Ar Z h' a ty n f := by obtain ⟨c, A, r⟩ := V; exact ⟨c, ⟨K.2.1 a c A.1 q, A.2⟩, r⟩
theorem own_Ar.weak (V : own_Ar Z h a ty n f) (q : ∀ k, k < n.toNatClampNeg → f k = f' k) : own_Ar Z h a ty n f' := by
  obtain ⟨c, A, S, M, H⟩ := V
  exact ⟨c, A, S, M, fun k hk => by rw [← q k (S ▸ hk)]; exact H k hk⟩
theorem own_new {k : ClassId} (A : Arr Z h a (newA k ty n) ty) (q : ¬ n < 0) : own_Ar Z h a ty n (fun _ => defaultValue ty) :=
  ⟨_, A, sz_new _ _ _, q, fun i hi => by rw [sz_new] at hi; simp [newA, hi]⟩
theorem own_Ar.set {j : Int32} (V : own_Ar Z h a ty n f) (W : Wr h h' a j.toNatClampNeg v) : own_Ar Z h' a ty n (fun k => if k = j.toNatClampNeg then v else f k) := by
  obtain ⟨c, A, S, M, H⟩ := V
  refine ⟨_, A.same W, by rw [sz_set]; exact S, M, fun k hk => ?_⟩
  rw [sz_set] at hk
  by_cases q : k = j.toNatClampNeg
  · subst q; simp [Cell.setSlot, hk]
  · show _ = some (if k = j.toNatClampNeg then v else f k)
    rw [if_neg q, ← H k hk]
    simp only [Cell.setSlot]
    rw [Array.getElem?_setIfInBounds_ne (Ne.symm q)]
theorem own_Ar.at {j : Int32} (V : own_Ar Z h a ty n f) (q : ¬ j < 0 ∧ j < n) : ∃ c : Cell, Arr Z h a c ty ∧ ¬ (j < 0 ∨ c.slots.size ≤ j.toNatClampNeg) ∧ c.slots[j.toNatClampNeg]? = some (f j.toNatClampNeg) := by
  obtain ⟨c, A, S, M, H⟩ := V
  have hi := inb_of S q
  exact ⟨c, A, hi, H _ (Nat.lt_of_not_le fun y => hi (Or.inr y))⟩
variable {p : Program} {l : Launch} {e : Env} {R : Room} {s : State} {m : MethodId} {args : Array Value} {below : List Frame} {meth : Method} {c : Code} {T : State} {locs : List Loc} {cells slots : Nat}
theorem own_stI (X : Stand p l e R s m args below meth c T locs cells slots) (hx : p.tables.exec = Jvm.exec) (hZ : Z.Warmed39 s.vm) (eT : T.heap = h) (V : own_Ar Z h a .int n f) {j x : Int32} (q : ¬ j < 0 ∧ j < n) {g : JFrame} (hg : g.method = m) {rest : List Value} (hs : g.stack = .int x :: .int j :: .ref a :: rest) (hd : decode c.code g.pc = .ok (.iastore, 1)) :
    ∃ T' h', Stand p l e R s m args below meth c T' (locs ++ [⟨a, j.toNatClampNeg⟩]) cells slots ∧ T'.heap = h' ∧ Wr h h' a j.toNatClampNeg (.int x) ∧ own_Ar Z h' a .int n (fun k => if k = j.toNatClampNeg then .int x else f k) ∧ ∀ target, Steps p.tables e below (T'.setTop { g with pc := g.pc + 1, stack := rest }) target → Steps p.tables e below (T.setTop g) target := by
  obtain ⟨cl, A, hi, -⟩ := V.at q
  obtain ⟨T', h', X', e', W, st⟩ := stI X hx hZ eT A hi hg hs hd
  exact ⟨T', h', X', e', W, V.set W, st⟩
theorem own_stJ (X : Stand p l e R s m args below meth c T locs cells slots) (hx : p.tables.exec = Jvm.exec) (hZ : Z.Warmed39 s.vm) (eT : T.heap = h) (V : own_Ar Z h a .long n f) {j : Int32} {x : Int64} (q : ¬ j < 0 ∧ j < n) {g : JFrame} (hg : g.method = m) {rest : List Value} (hs : g.stack = .long x :: .int j :: .ref a :: rest) (hd : decode c.code g.pc = .ok (.lastore, 1)) :
    ∃ T' h', Stand p l e R s m args below meth c T' (locs ++ [⟨a, j.toNatClampNeg⟩]) cells slots ∧ T'.heap = h' ∧ Wr h h' a j.toNatClampNeg (.long x) ∧ own_Ar Z h' a .long n (fun k => if k = j.toNatClampNeg then .long x else f k) ∧ ∀ target, Steps p.tables e below (T'.setTop { g with pc := g.pc + 1, stack := rest }) target → Steps p.tables e below (T.setTop g) target := by
  obtain ⟨cl, A, hi, -⟩ := V.at q
  obtain ⟨T', h', X', e', W, st⟩ := stJ X hx hZ eT A hi hg hs hd
  exact ⟨T', h', X', e', W, V.set W, st⟩
end Arrays
def own_cells (n : Int32) (c : Addr) (k : Nat) : Value := if k = ((4 : Int32) * n).toNatClampNeg then .ref c else .null
theorem own_n (n : Int32) (h0 : 0 ≤ n.toInt) (h1 : n.toInt ≤ 15) : ((4 : Int32) * n).toInt = 4 * n.toInt ∧ (((4 : Int32) * n) + (1 : Int32)).toInt = 4 * n.toInt + 1 := by
  have a1 := c_imul 4 n
  have a2 := rng32 ((4 : Int32) * n)
  have a3 := c_iadd ((4 : Int32) * n) 1
  have a4 := rng32 (((4 : Int32) * n) + (1 : Int32))
  have e1 : (1 : Int32).toInt = 1 := by decide
  have e4 : (4 : Int32).toInt = 4 := by decide
  rw [e4] at a1
  rw [e1] at a3
  omega
theorem own_neg (n : Int32) (h : 0 ≤ n.toInt) : ¬ n < (0 : Int32) := by
  rw [Int32.lt_iff_toInt_lt, show (0 : Int32).toInt = 0 from by decide]; omega
theorem own_le (n : Int32) (k : Nat) (h : n.toInt ≤ k) : n.toNatClampNeg ≤ k := by
  simp only [Int32.toNatClampNeg]; omega
theorem own_in (j n : Int32) (h0 : 0 ≤ j.toInt) (h1 : j.toInt < n.toInt) : ¬ j < 0 ∧ j < n := ⟨own_neg j h0, by rw [Int32.lt_iff_toInt_lt]; exact h1⟩
theorem own_rem (b d : Int32) (h : 0 < d.toInt) : 0 ≤ ((b &&& (2147483647 : Int32)) % d).toInt ∧ ((b &&& (2147483647 : Int32)) % d).toInt < d.toInt := by
  have h1 := c_and b 2147483647 (by decide)
  have h2 := (c_iremV (b &&& (2147483647 : Int32)) d).1 h1.1 h
  exact ⟨h2.1, h2.2.1⟩
theorem own_nz {n : Int32} (h : 0 < n.toInt) : ¬ n = (0 : Int32) := by
  rw [← Int32.toInt_inj, show (0 : Int32).toInt = 0 from by decide]; omega
theorem own_pos {n : Int32} (h0 : 0 ≤ n.toInt) (h : ¬ n = (0 : Int32)) : 0 < n.toInt := by
  rw [← Int32.toInt_inj, show (0 : Int32).toInt = 0 from by decide] at h; omega
theorem own_null (n j : Int32) (c : Addr) (h0 : 0 ≤ j.toInt) (h1 : j.toInt < ((4 : Int32) * n).toInt) : own_cells n c j.toNatClampNeg = .null := by
  unfold own_cells
  rw [if_neg]
  simp only [Int32.toNatClampNeg]
  omega
theorem d1_0 : decode prog_48_method_2_code 0 = .ok (.iconst 4, 1) := by decide +kernel
theorem d1_1 : decode prog_48_method_2_code 1 = .ok (.iload_n 0, 1) := by decide +kernel
theorem d1_2 : decode prog_48_method_2_code 2 = .ok (.imul, 1) := by decide +kernel
theorem d1_3 : decode prog_48_method_2_code 3 = .ok (.iconst 1, 1) := by decide +kernel
theorem d1_4 : decode prog_48_method_2_code 4 = .ok (.iadd, 1) := by decide +kernel
theorem d1_5 : decode prog_48_method_2_code 5 = .ok (.anewarray 2, 3) := by decide +kernel
theorem d1_8 : decode prog_48_method_2_code 8 = .ok (.astore_n 1, 1) := by decide +kernel
theorem d1_9 : decode prog_48_method_2_code 9 = .ok (.aload_n 1, 1) := by decide +kernel
theorem d1_10 : decode prog_48_method_2_code 10 = .ok (.iconst 4, 1) := by decide +kernel
theorem d1_11 : decode prog_48_method_2_code 11 = .ok (.iload_n 0, 1) := by decide +kernel
theorem d1_12 : decode prog_48_method_2_code 12 = .ok (.imul, 1) := by decide +kernel
theorem d1_13 : decode prog_48_method_2_code 13 = .ok (.iload_n 0, 1) := by decide +kernel
theorem d1_14 : decode prog_48_method_2_code 14 = .ok (.newarray .long, 2) := by decide +kernel
theorem d1_16 : decode prog_48_method_2_code 16 = .ok (.aastore, 1) := by decide +kernel
theorem d1_17 : decode prog_48_method_2_code 17 = .ok (.aload_n 1, 1) := by decide +kernel
theorem d1_18 : decode prog_48_method_2_code 18 = .ok (.areturn, 1) := by decide +kernel
theorem pn_1 : plainName "com/example/latchless/latchless/engine/Cells" = true := by first | (simp [plainName, overriddenIn]; done) | decide +kernel
theorem ef_1 (m : MethodId) (p1 : Int32) : entryFrame m #[(.int p1)] 2 = mkF m 0 #[.val (.int p1), .unset] [] := by first | (simp [entryFrame, mkF, argsToLocals, Value.category]; done) | rfl
def Q1 (Z : State) (p1 : Int32) (h0 : Heap) (n0 : Nat) (v : Option Value) (h : Heap) (L : List Loc) : Prop := ∃ b c : Addr, v = some (.ref b) ∧ Fr n0 L ∧ Keep h0 h [] ∧ h0.size ≤ b ∧ h0.size ≤ c ∧ own_Ar Z h b (.object "java/lang/Object") (((4 : Int32) * p1) + (1 : Int32)) (own_cells p1 c) ∧ own_Ar Z h c .long p1 (fun _ => .long (0 : Int64)) ∧ Exa Z h c "[J"
abbrev P1 (Z : State) (p1 : Int32) (h0 : Heap) (n0 : Nat) (s : State) : Outcome → State → Prop := fun o U' => ∃ v L, o = .returned v ∧ Q1 Z p1 h0 n0 v U'.heap L ∧ FrameEnd s o U' L ({ frames := 0, cells := 2, slots := 76, locals := 0 } : Room).cells ({ frames := 0, cells := 2, slots := 76, locals := 0 } : Room).slots
set_option maxRecDepth 65536 in
set_option maxHeartbeats 40000000 in
theorem rm1 (l : Launch) (Z : State) (a0 : Array Value) (hw : ∀ d ∈ tables_1, d.before a0 Z = true) (ws : List Jvm.Cond) (p1 : Int32) (h0 : Heap) (n0 : Nat) (Z0 : n0 ≤ h0.size) (hn0 : 0 ≤ p1.toInt) (hn1 : p1.toInt ≤ 15) :
    MetFree l (⟨"com/example/latchless/latchless/engine/Cells", "arrayWords", "(I)[Ljava/lang/Object;"⟩ : MethodName) (head1 (Jvm.Cond.code (⟨"com/example/latchless/latchless/engine/Cells", "arrayWords", "(I)[Ljava/lang/Object;"⟩ : MethodName) prog_48_method_2_code 2 (some (.array (.object "java/lang/Object"))) :: ws) ({ frames := 0, cells := 2, slots := 76, locals := 0 } : Room)) (fun a U => a = #[(.int p1)] ∧ Z.Warmed39 U.vm ∧ U.heap = h0) (fun _ _ _ _ _ => True) (fun _ U o U' => ∃ v L, o = .returned v ∧ Q1 Z p1 h0 n0 v U'.heap L ∧ FrameEnd U o U' L ({ frames := 0, cells := 2, slots := 76, locals := 0 } : Room).cells ({ frames := 0, cells := 2, slots := 76, locals := 0 } : Room).slots) := by
  refine MetFree.of_bodySF (plainFor_of_name pn_1) hisR ?_
  intro p e s m args below meth c s₁ Bd hml0 hP hK
  obtain ⟨rfl, hZ, hh⟩ := hP
  have hx := Bd.exec
  have hby := Bd.bytes
  have hml : c.maxLocals = 2 := hml0
  have hown : s.vm.findClass "com/example/latchless/latchless/engine/Cells" = some m.cls := findClass_of_methodNamed Bd.named
  have hnm := (name_of_methodNamed Bd.named Bd.method).1
  have X0 : Stand p l e ({ frames := 0, cells := 2, slots := 76, locals := 0 } : Room) s m #[(.int p1)] below meth c s₁ [] 0 0 := Stand.of_body Bd
  have e0 : s₁.heap = h0 := by rw [← hh, Bd.state]; rfl
  have N0 := Fr.nil n0
  show own_Go p.tables e below (P1 Z p1 h0 n0 s) (s₁.setTop (entryFrame m #[(.int p1)] 2))
  refine own_by (T' := s₁.setTop (mkF m 0 #[.val (.int p1), .unset] [])) (fun t k => castTop (ef_1 m p1) k) ?_
  have KK := Keep.refl h0 []
  obtain ⟨u4, u5⟩ := own_n p1 hn0 hn1
  show own_Go _ _ _ _ (s₁.setTop (mkF m 0 #[.val (.int p1), .unset] []))
  refine own_by (fun t k => XS.iconst X0.here hx rfl (hb hby d1_0) k) ?_
  show own_Go _ _ _ _ (s₁.setTop (mkF m 1 #[.val (.int p1), .unset] [(.int (4 : Int32))]))
  refine own_by (fun t k => XS.iloadN X0.here hx rfl (hb hby d1_1) rfl k) ?_
  show own_Go _ _ _ _ (s₁.setTop (mkF m 2 #[.val (.int p1), .unset] [(.int p1), (.int (4 : Int32))]))
  refine own_by (fun t k => XS.imul X0.here hx rfl (hb hby d1_2) rfl k) ?_
  show own_Go _ _ _ _ (s₁.setTop (mkF m 3 #[.val (.int p1), .unset] [(.int ((4 : Int32) * p1))]))
  refine own_by (fun t k => XS.iconst X0.here hx rfl (hb hby d1_3) k) ?_
  show own_Go _ _ _ _ (s₁.setTop (mkF m 4 #[.val (.int p1), .unset] [(.int (1 : Int32)), (.int ((4 : Int32) * p1))]))
  refine own_by (fun t k => XS.iadd X0.here hx rfl (hb hby d1_4) rfl k) ?_
  show own_Go _ _ _ _ (s₁.setTop (mkF m 5 #[.val (.int p1), .unset] [(.int (((4 : Int32) * p1) + (1 : Int32)))]))
  obtain ⟨Tr1, hr1, kr1, Xr1, er1, Er1, Ar1, Or1, str1⟩ := newR X0 hx hZ hown (hw _ (List.mem_of_getElem? (i := 4) rfl)) (hw _ (List.mem_of_getElem? (i := 5) rfl)) e0 (g := (mkF m 5 #[.val (.int p1), .unset] [(.int (((4 : Int32) * p1) + (1 : Int32)))])) rfl (hb hby d1_5) rfl (own_neg _ (by rw [u5]; omega)) (cap := 61) (own_le _ 61 (by rw [u5]; omega)) (by decide) (by decide) (by decide)
  obtain ⟨bw, q_bw⟩ : ∃ z, z = h0.size := ⟨_, rfl⟩
  rw [← q_bw] at Ar1 str1
  have g_bw : n0 ≤ bw := Nat.le_trans Z0 (Nat.le_of_eq q_bw.symm)
  have Zs_r1 : n0 ≤ hr1.size := Nat.le_trans Z0 Er1.1
  have sz_bw : h0.size ≤ bw := Nat.le_trans KK.1 (Nat.le_of_eq q_bw.symm)
  replace KK := KK.ext Er1
  refine own_by (fun t k => str1 t k) ?_
  have Ar1 := Ar1
  show own_Go _ _ _ _ (Tr1.setTop (mkF m 8 #[.val (.int p1), .unset] [(.ref bw)]))
  refine own_by (fun t k => XS.astoreN Xr1.here hx rfl (hb hby d1_8) rfl rfl (l' := #[.val (.int p1), .val (.ref bw)]) rfl k) ?_
  show own_Go _ _ _ _ (Tr1.setTop (mkF m 9 #[.val (.int p1), .val (.ref bw)] []))
  refine own_by (fun t k => XS.aloadN Xr1.here hx rfl (hb hby d1_9) rfl rfl k) ?_
  show own_Go _ _ _ _ (Tr1.setTop (mkF m 10 #[.val (.int p1), .val (.ref bw)] [(.ref bw)]))
  refine own_by (fun t k => XS.iconst Xr1.here hx rfl (hb hby d1_10) k) ?_
  show own_Go _ _ _ _ (Tr1.setTop (mkF m 11 #[.val (.int p1), .val (.ref bw)] [(.int (4 : Int32)), (.ref bw)]))
  refine own_by (fun t k => XS.iloadN Xr1.here hx rfl (hb hby d1_11) rfl k) ?_
  show own_Go _ _ _ _ (Tr1.setTop (mkF m 12 #[.val (.int p1), .val (.ref bw)] [(.int p1), (.int (4 : Int32)), (.ref bw)]))
  refine own_by (fun t k => XS.imul Xr1.here hx rfl (hb hby d1_12) rfl k) ?_
  show own_Go _ _ _ _ (Tr1.setTop (mkF m 13 #[.val (.int p1), .val (.ref bw)] [(.int ((4 : Int32) * p1)), (.ref bw)]))
  refine own_by (fun t k => XS.iloadN Xr1.here hx rfl (hb hby d1_13) rfl k) ?_
  show own_Go _ _ _ _ (Tr1.setTop (mkF m 14 #[.val (.int p1), .val (.ref bw)] [(.int p1), (.int ((4 : Int32) * p1)), (.ref bw)]))
  obtain ⟨Tr2, hr2, kr2, Xr2, er2, Er2, Ar2, Gr2, str2⟩ := newPE Xr1 hx hZ (hw _ (List.mem_of_getElem? (i := 6) rfl)) er1 (g := (mkF m 14 #[.val (.int p1), .val (.ref bw)] [(.int p1), (.int ((4 : Int32) * p1)), (.ref bw)])) rfl (hb hby d1_14) rfl (own_neg _ hn0) (cap := 15) (own_le _ 15 hn1) (by decide) (by decide) (by decide) (ad := "[J") (by decide)
  obtain ⟨bs, q_bs⟩ : ∃ z, z = hr1.size := ⟨_, rfl⟩
  rw [← q_bs] at Ar2 Gr2 str2
  have g_bs : n0 ≤ bs := Nat.le_trans Zs_r1 (Nat.le_of_eq q_bs.symm)
  have Zs_r2 : n0 ≤ hr2.size := Nat.le_trans Zs_r1 Er2.1
  have ne_bw_bs : bw ≠ bs := Nat.ne_of_lt (Nat.lt_of_lt_of_le Ar1.lt (Nat.le_of_eq q_bs.symm))
  replace Ar1 := Ar1.ext Er2
  have sz_bs : h0.size ≤ bs := Nat.le_trans KK.1 (Nat.le_of_eq q_bs.symm)
  replace KK := KK.ext Er2
  have V_bs := own_new Ar2 (own_neg _ hn0)
  have E_bs := Gr2
  refine own_by (fun t k => str2 t k) ?_
  show own_Go _ _ _ _ (Tr2.setTop (mkF m 16 #[.val (.int p1), .val (.ref bw)] [(.ref bs), (.int ((4 : Int32) * p1)), (.ref bw)]))
  have hs16 : Sto Z hr2 bw (.ref bs) := Sto.ofV Ar1 rfl Or1 (Ins.of_exa E_bs (hw _ (List.mem_of_getElem? (i := 7) rfl)))
  have V_bw := own_new Ar1 (own_neg _ (by rw [u5]; omega))
  obtain ⟨Tr3, hr3, Xr3, er3, Wr3, str3⟩ := stR Xr2 hx hZ er2 Ar1 (j := ((4 : Int32) * p1)) (inb_of (sz_new _ _ _) (own_in _ _ (by rw [u4]; omega) (by rw [u4, u5]; omega))) rfl hs16 (g := (mkF m 16 #[.val (.int p1), .val (.ref bw)] [(.ref bs), (.int ((4 : Int32) * p1)), (.ref bw)])) rfl rfl (hb hby d1_16)
  replace V_bw := (V_bw.set Wr3).weak (f' := own_cells p1 bs) (fun k _ => rfl)
  replace V_bs := V_bs.other Wr3 (Ne.symm ne_bw_bs)
  replace E_bs := E_bs.wr Wr3
  replace KK := KK.wr Wr3 (Or.inr sz_bw)
  have Nr3 := Fr.snoc Xr3 N0 g_bw
  have Zs_r3 : n0 ≤ hr3.size := by rw [Wr3.size]; exact Zs_r2
  refine own_by (fun t k => str3 t k) ?_
  show own_Go _ _ _ _ (Tr3.setTop (mkF m 17 #[.val (.int p1), .val (.ref bw)] []))
  refine own_by (fun t k => XS.aloadN Xr3.here hx rfl (hb hby d1_17) rfl rfl k) ?_
  show own_Go _ _ _ _ (Tr3.setTop (mkF m 18 #[.val (.int p1), .val (.ref bw)] [(.ref bw)]))
  obtain ⟨fs, hr, hrun, hended, hW, hsame⟩ := Xr3.leave (v := some (.ref bw)) (fun h => by rw [Bd.returns] at h; cases h)
  refine ⟨_, _, retOut Xr3 hx Bd.returns rfl (Or.inr (Or.inr (Or.inr (Or.inr ⟨rfl, rfl, rfl⟩)))) (hb hby d1_18) hr, hrun, hended, _, _, rfl, ?_, ⟨_, rfl⟩, hW, hsame.mono (by decide) (by decide)⟩
  show Q1 Z p1 h0 n0 _ Tr3.heap _
  rw [er3]
  exact ⟨bw, bs, rfl, Nr3, KK, sz_bw, sz_bs, V_bw, V_bs, E_bs⟩
theorem pd_0_0 : parseMethodDescriptor "(I)[Ljava/lang/Object;" = some ⟨[.int], some (.array (.object "java/lang/Object"))⟩ := by decide +kernel
theorem pn_0 : plainName "com/example/latchless/latchless/engine/CellsArrayWordsPinLaw" = true := by first | (simp [plainName, overriddenIn]; done) | decide +kernel
theorem ef_0 (m : MethodId) (p1 : Int32) (p2 : Int32) (p3 : Int32) : entryFrame m #[(.int p1), (.int p2), (.int p3)] maxLocals = mkF m 0 #[.val (.int p1), .val (.int p2), .val (.int p3), .unset, .unset, .unset, .unset, .unset, .unset, .unset, .unset] [] := by first | (simp [entryFrame, mkF, argsToLocals, Value.category, maxLocals]; done) | rfl
def Q0 (Z : State) (p1 : Int32) (p2 : Int32) (p3 : Int32) (h0 : Heap) (n0 : Nat) (v : Option Value) (h : Heap) (L : List Loc) : Prop := v = some (.int (1 : Int32)) ∧ Fr n0 L
abbrev P0 (Z : State) (p1 : Int32) (p2 : Int32) (p3 : Int32) (h0 : Heap) (n0 : Nat) (s : State) : Outcome → State → Prop := fun o U' => ∃ v L, o = .returned v ∧ Q0 Z p1 p2 p3 h0 n0 v U'.heap L ∧ FrameEnd s o U' L room_1.cells room_1.slots
set_option maxRecDepth 65536 in
set_option maxHeartbeats 40000000 in
theorem rm0 (l : Launch) (Z : State) (a0 : Array Value) (hw : ∀ d ∈ tables_1, d.before a0 Z = true) (ws : List Jvm.Cond) (p1 : Int32) (p2 : Int32) (p3 : Int32) (h0 : Heap) (n0 : Nat) (Z0 : n0 ≤ h0.size) :
    MetFree l x (head1 (Jvm.Cond.code x code maxLocals ret :: ws) room_1) (fun a U => a = #[(.int p1), (.int p2), (.int p3)] ∧ Z.Warmed39 U.vm ∧ U.heap = h0) (fun _ _ _ _ _ => True) (fun _ U o U' => ∃ v L, o = .returned v ∧ Q0 Z p1 p2 p3 h0 n0 v U'.heap L ∧ FrameEnd U o U' L room_1.cells room_1.slots) := by
  refine MetFree.of_bodySF (plainFor_of_name pn_0) hisR ?_
  intro p e s m args below meth c s₁ Bd hml0 hP hK
  obtain ⟨rfl, hZ, hh⟩ := hP
  have hx := Bd.exec
  have hby := Bd.bytes
  have hml : c.maxLocals = 11 := hml0
  have hown : s.vm.findClass "com/example/latchless/latchless/engine/CellsArrayWordsPinLaw" = some m.cls := findClass_of_methodNamed Bd.named
  have hnm := (name_of_methodNamed Bd.named Bd.method).1
  have X0 : Stand p l e room_1 s m #[(.int p1), (.int p2), (.int p3)] below meth c s₁ [] 0 0 := Stand.of_body Bd
  have e0 : s₁.heap = h0 := by rw [← hh, Bd.state]; rfl
  have N0 := Fr.nil n0
  show own_Go p.tables e below (P0 Z p1 p2 p3 h0 n0 s) (s₁.setTop (entryFrame m #[(.int p1), (.int p2), (.int p3)] maxLocals))
  refine own_by (T' := s₁.setTop (mkF m 0 #[.val (.int p1), .val (.int p2), .val (.int p3), .unset, .unset, .unset, .unset, .unset, .unset, .unset, .unset] [])) (fun t k => castTop (ef_0 m p1 p2 p3) k) ?_
  show own_Go _ _ _ _ (s₁.setTop (mkF m 0 #[.val (.int p1), .val (.int p2), .val (.int p3), .unset, .unset, .unset, .unset, .unset, .unset, .unset, .unset] []))
  refine own_by (fun t k => XS.iloadN X0.here hx rfl (hb hby at_0) rfl k) ?_
  show own_Go _ _ _ _ (s₁.setTop (mkF m 1 #[.val (.int p1), .val (.int p2), .val (.int p3), .unset, .unset, .unset, .unset, .unset, .unset, .unset, .unset] [(.int p1)]))
  refine own_by (fun t k => XS.bipush X0.here hx rfl (hb hby at_1) k) ?_
  show own_Go _ _ _ _ (s₁.setTop (mkF m 3 #[.val (.int p1), .val (.int p2), .val (.int p3), .unset, .unset, .unset, .unset, .unset, .unset, .unset, .unset] [(.int (15 : Int32)), (.int p1)]))
  refine own_by (fun t k => XS.iand X0.here hx rfl (hb hby at_3) rfl k) ?_
  show own_Go _ _ _ _ (s₁.setTop (mkF m 4 #[.val (.int p1), .val (.int p2), .val (.int p3), .unset, .unset, .unset, .unset, .unset, .unset, .unset, .unset] [(.int (p1 &&& (15 : Int32)))]))
  obtain ⟨nn, hnn⟩ : ∃ z : Int32, z = (p1 &&& (15 : Int32)) := ⟨_, rfl⟩
  rw [← hnn]
  have hnb : 0 ≤ nn.toInt ∧ nn.toInt ≤ 15 := by rw [hnn]; have q := c_and p1 15 (by decide); rw [show (15 : Int32).toInt = 15 from by decide] at q; exact q
  obtain ⟨u4, u5⟩ := own_n nn hnb.1 hnb.2
  show own_Go _ _ _ _ (s₁.setTop (mkF m 4 #[.val (.int p1), .val (.int p2), .val (.int p3), .unset, .unset, .unset, .unset, .unset, .unset, .unset, .unset] [(.int nn)]))
  refine own_by (fun t k => XS.istoreN X0.here hx rfl (hb hby at_4) rfl (l' := #[.val (.int p1), .val (.int p2), .val (.int p3), .val (.int nn), .unset, .unset, .unset, .unset, .unset, .unset, .unset]) rfl k) ?_
  show own_Go _ _ _ _ (s₁.setTop (mkF m 5 #[.val (.int p1), .val (.int p2), .val (.int p3), .val (.int nn), .unset, .unset, .unset, .unset, .unset, .unset, .unset] []))
  refine own_by (fun t k => XS.iloadN X0.here hx rfl (hb hby at_5) rfl k) ?_
  show own_Go _ _ _ _ (s₁.setTop (mkF m 6 #[.val (.int p1), .val (.int p2), .val (.int p3), .val (.int nn), .unset, .unset, .unset, .unset, .unset, .unset, .unset] [(.int nn)]))
  obtain ⟨_, _, ⟨Tc0_1, Lc0_1, kc0_1, nc0_1⟩, -, Xc0_1, ⟨Lcc0_1, hQc0_1, lc0_1, yc0_1, zc0_1⟩, stc0_1⟩ := Jvm.LawKit.callS X0 hx (y := (⟨"com/example/latchless/latchless/engine/Cells", "arrayWords", "(I)[Ljava/lang/Object;"⟩ : MethodName)) hown (mvT hZ (hw _ (List.mem_of_getElem? (i := 0) rfl))) (mvT hZ (hw _ (List.mem_of_getElem? (i := 1) rfl))) (mvT hZ (hw _ (List.mem_of_getElem? (i := 2) rfl))) (mvT hZ (hw _ (List.mem_of_getElem? (i := 3) rfl))) (by decide) (backOf (W := 0) (rm1 l Z a0 hw [] nn  h0 n0 Z0 hnb.1 hnb.2) hZ (hw _ (List.mem_of_getElem? (i := 3) rfl)) (hw _ (List.mem_of_getElem? (i := 2) rfl)) (by decide) (by decide)) (g := (mkF m 6 #[.val (.int p1), .val (.int p2), .val (.int p3), .val (.int nn), .unset, .unset, .unset, .unset, .unset, .unset, .unset] [(.int nn)])) rfl (by rw [hml]; rfl) (argsL := [(.int nn)]) (rest := []) (lenOf pd_0_0 rfl) rfl (by show 2 * 0 + _ ≤ _; exact Nat.le_of_eq rfl) (hb hby at_6) (fun _ _ => ⟨rfl, e0, (by decide : 0 + 2 ≤ _), (by decide : 0 + 76 ≤ _)⟩)
  dsimp only [Pt.U, Pt.locs, Pt.cells, Pt.slots] at Xc0_1 lc0_1 yc0_1 zc0_1 stc0_1 hQc0_1
  subst lc0_1 yc0_1 zc0_1
  obtain ⟨b1, c1, rfl, Nc0_1q, Kc0_1, zbc0_1, zcc0_1, V_b1, V_c1, E_c1⟩ := hQc0_1
  have Nc0_1 := Fr.app N0 Nc0_1q
  have Zs_c0_1 : n0 ≤ Tc0_1.heap.size := Nat.le_trans Z0 Kc0_1.1
  refine own_by (fun t k => stc0_1 t k) ?_
  show own_Go _ _ _ _ (Tc0_1.setTop (mkF m 9 #[.val (.int p1), .val (.int p2), .val (.int p3), .val (.int nn), .unset, .unset, .unset, .unset, .unset, .unset, .unset] [(.ref b1)]))
  refine own_by (fun t k => XS.astore Xc0_1.here hx rfl (hb hby at_9) rfl rfl (l' := #[.val (.int p1), .val (.int p2), .val (.int p3), .val (.int nn), .val (.ref b1), .unset, .unset, .unset, .unset, .unset, .unset]) rfl k) ?_
  show own_Go _ _ _ _ (Tc0_1.setTop (mkF m 11 #[.val (.int p1), .val (.int p2), .val (.int p3), .val (.int nn), .val (.ref b1), .unset, .unset, .unset, .unset, .unset, .unset] []))
  refine own_by (fun t k => XS.iloadN Xc0_1.here hx rfl (hb hby at_11) rfl k) ?_
  show own_Go _ _ _ _ (Tc0_1.setTop (mkF m 12 #[.val (.int p1), .val (.int p2), .val (.int p3), .val (.int nn), .val (.ref b1), .unset, .unset, .unset, .unset, .unset, .unset] [(.int nn)]))
  obtain ⟨_, _, ⟨Tc0_2, Lc0_2, kc0_2, nc0_2⟩, -, Xc0_2, ⟨Lcc0_2, hQc0_2, lc0_2, yc0_2, zc0_2⟩, stc0_2⟩ := Jvm.LawKit.callS Xc0_1 hx (y := (⟨"com/example/latchless/latchless/engine/Cells", "arrayWords", "(I)[Ljava/lang/Object;"⟩ : MethodName)) hown (mvT hZ (hw _ (List.mem_of_getElem? (i := 0) rfl))) (mvT hZ (hw _ (List.mem_of_getElem? (i := 1) rfl))) (mvT hZ (hw _ (List.mem_of_getElem? (i := 2) rfl))) (mvT hZ (hw _ (List.mem_of_getElem? (i := 3) rfl))) (by decide) (backOf (W := 0) (rm1 l Z a0 hw [] nn  Tc0_1.heap n0 Zs_c0_1 hnb.1 hnb.2) hZ (hw _ (List.mem_of_getElem? (i := 3) rfl)) (hw _ (List.mem_of_getElem? (i := 2) rfl)) (by decide) (by decide)) (g := (mkF m 12 #[.val (.int p1), .val (.int p2), .val (.int p3), .val (.int nn), .val (.ref b1), .unset, .unset, .unset, .unset, .unset, .unset] [(.int nn)])) rfl (by rw [hml]; rfl) (argsL := [(.int nn)]) (rest := []) (lenOf pd_0_0 rfl) rfl (by show 2 * 0 + _ ≤ _; exact Nat.le_of_eq rfl) (hb hby at_12) (fun _ _ => ⟨rfl, rfl, (by decide : 2 + 2 ≤ _), (by decide : 76 + 76 ≤ _)⟩)
  dsimp only [Pt.U, Pt.locs, Pt.cells, Pt.slots] at Xc0_2 lc0_2 yc0_2 zc0_2 stc0_2 hQc0_2
  subst lc0_2 yc0_2 zc0_2
  obtain ⟨b2, c2, rfl, Nc0_2q, Kc0_2, zbc0_2, zcc0_2, V_b2, V_c2, E_c2⟩ := hQc0_2
  have Nc0_2 := Fr.app Nc0_1 Nc0_2q
  have ne_b1_b2 : b1 ≠ b2 := Nat.ne_of_lt (Nat.lt_of_lt_of_le V_b1.lt zbc0_2)
  have ne_b1_c2 : b1 ≠ c2 := Nat.ne_of_lt (Nat.lt_of_lt_of_le V_b1.lt zcc0_2)
  have ne_c1_b2 : c1 ≠ b2 := Nat.ne_of_lt (Nat.lt_of_lt_of_le V_c1.lt zbc0_2)
  have ne_c1_c2 : c1 ≠ c2 := Nat.ne_of_lt (Nat.lt_of_lt_of_le V_c1.lt zcc0_2)
  replace V_b1 := V_b1.keep Kc0_2 nin0
  replace V_c1 := V_c1.keep Kc0_2 nin0
  replace E_c1 := E_c1.keep Kc0_2
  have Zs_c0_2 : n0 ≤ Tc0_2.heap.size := Nat.le_trans Zs_c0_1 Kc0_2.1
  refine own_by (fun t k => stc0_2 t k) ?_
  show own_Go _ _ _ _ (Tc0_2.setTop (mkF m 15 #[.val (.int p1), .val (.int p2), .val (.int p3), .val (.int nn), .val (.ref b1), .unset, .unset, .unset, .unset, .unset, .unset] [(.ref b2)]))
  refine own_by (fun t k => XS.astore Xc0_2.here hx rfl (hb hby at_15) rfl rfl (l' := #[.val (.int p1), .val (.int p2), .val (.int p3), .val (.int nn), .val (.ref b1), .val (.ref b2), .unset, .unset, .unset, .unset, .unset]) rfl k) ?_
  show own_Go _ _ _ _ (Tc0_2.setTop (mkF m 17 #[.val (.int p1), .val (.int p2), .val (.int p3), .val (.int nn), .val (.ref b1), .val (.ref b2), .unset, .unset, .unset, .unset, .unset] []))
  refine own_by (fun t k => XS.aload Xc0_2.here hx rfl (hb hby at_17) rfl rfl k) ?_
  show own_Go _ _ _ _ (Tc0_2.setTop (mkF m 19 #[.val (.int p1), .val (.int p2), .val (.int p3), .val (.int nn), .val (.ref b1), .val (.ref b2), .unset, .unset, .unset, .unset, .unset] [(.ref b1)]))
  refine own_by (fun t k => XS.ifnullNo Xc0_2.here hx rfl (hb hby at_19) rfl k) ?_
  show own_Go _ _ _ _ (Tc0_2.setTop (mkF m 22 #[.val (.int p1), .val (.int p2), .val (.int p3), .val (.int nn), .val (.ref b1), .val (.ref b2), .unset, .unset, .unset, .unset, .unset] []))
  refine own_by (fun t k => XS.aload Xc0_2.here hx rfl (hb hby at_22) rfl rfl k) ?_
  show own_Go _ _ _ _ (Tc0_2.setTop (mkF m 24 #[.val (.int p1), .val (.int p2), .val (.int p3), .val (.int nn), .val (.ref b1), .val (.ref b2), .unset, .unset, .unset, .unset, .unset] [(.ref b2)]))
  refine own_by (fun t k => XS.ifnullNo Xc0_2.here hx rfl (hb hby at_24) rfl k) ?_
  show own_Go _ _ _ _ (Tc0_2.setTop (mkF m 27 #[.val (.int p1), .val (.int p2), .val (.int p3), .val (.int nn), .val (.ref b1), .val (.ref b2), .unset, .unset, .unset, .unset, .unset] []))
  refine own_by (fun t k => XS.aload Xc0_2.here hx rfl (hb hby at_27) rfl rfl k) ?_
  show own_Go _ _ _ _ (Tc0_2.setTop (mkF m 29 #[.val (.int p1), .val (.int p2), .val (.int p3), .val (.int nn), .val (.ref b1), .val (.ref b2), .unset, .unset, .unset, .unset, .unset] [(.ref b1)]))
  refine own_by (fun t k => XS.aload Xc0_2.here hx rfl (hb hby at_29) rfl rfl k) ?_
  show own_Go _ _ _ _ (Tc0_2.setTop (mkF m 31 #[.val (.int p1), .val (.int p2), .val (.int p3), .val (.int nn), .val (.ref b1), .val (.ref b2), .unset, .unset, .unset, .unset, .unset] [(.ref b2), (.ref b1)]))
  refine own_by (fun t k => Jvm.RoadKit.acmp (g := (mkF m 31 #[.val (.int p1), .val (.int p2), .val (.int p3), .val (.int nn), .val (.ref b1), .val (.ref b2), .unset, .unset, .unset, .unset, .unset] [(.ref b2), (.ref b1)])) Xc0_2 hx rfl rfl rfl (pc0 := 31) (pc' := 36) (same := false) rfl (hb hby at_31) rfl (decide_eq_false fun q => ne_b1_b2 (Value.ref.inj q)) (by decide) (by decide) k) ?_
  show own_Go _ _ _ _ (Tc0_2.setTop (mkF m 36 #[.val (.int p1), .val (.int p2), .val (.int p3), .val (.int nn), .val (.ref b1), .val (.ref b2), .unset, .unset, .unset, .unset, .unset] []))
  refine own_by (fun t k => XS.aload Xc0_2.here hx rfl (hb hby at_36) rfl rfl k) ?_
  show own_Go _ _ _ _ (Tc0_2.setTop (mkF m 38 #[.val (.int p1), .val (.int p2), .val (.int p3), .val (.int nn), .val (.ref b1), .val (.ref b2), .unset, .unset, .unset, .unset, .unset] [(.ref b1)]))
  obtain ⟨cll0_3, Arl0_3, Sl0_3, Ml0_3, -⟩ := id V_b1
  refine own_by (fun t k => Xc0_2.arraylength hx Arl0_3.1 (State.isArrayOf_alike hZ.alike Arl0_3.2.1) (g := (mkF m 38 #[.val (.int p1), .val (.int p2), .val (.int p3), .val (.int nn), .val (.ref b1), .val (.ref b2), .unset, .unset, .unset, .unset, .unset] [(.ref b1)])) rfl rfl (hb hby at_38) _ k) ?_
  rw [len_of Sl0_3 Ml0_3]
  show own_Go _ _ _ _ (Tc0_2.setTop (mkF m 39 #[.val (.int p1), .val (.int p2), .val (.int p3), .val (.int nn), .val (.ref b1), .val (.ref b2), .unset, .unset, .unset, .unset, .unset] [(.int (((4 : Int32) * nn) + (1 : Int32)))]))
  refine own_by (fun t k => XS.iconst Xc0_2.here hx rfl (hb hby at_39) k) ?_
  show own_Go _ _ _ _ (Tc0_2.setTop (mkF m 40 #[.val (.int p1), .val (.int p2), .val (.int p3), .val (.int nn), .val (.ref b1), .val (.ref b2), .unset, .unset, .unset, .unset, .unset] [(.int (4 : Int32)), (.int (((4 : Int32) * nn) + (1 : Int32)))]))
  refine own_by (fun t k => XS.iloadN Xc0_2.here hx rfl (hb hby at_40) rfl k) ?_
  show own_Go _ _ _ _ (Tc0_2.setTop (mkF m 41 #[.val (.int p1), .val (.int p2), .val (.int p3), .val (.int nn), .val (.ref b1), .val (.ref b2), .unset, .unset, .unset, .unset, .unset] [(.int nn), (.int (4 : Int32)), (.int (((4 : Int32) * nn) + (1 : Int32)))]))
  refine own_by (fun t k => XS.imul Xc0_2.here hx rfl (hb hby at_41) rfl k) ?_
  show own_Go _ _ _ _ (Tc0_2.setTop (mkF m 42 #[.val (.int p1), .val (.int p2), .val (.int p3), .val (.int nn), .val (.ref b1), .val (.ref b2), .unset, .unset, .unset, .unset, .unset] [(.int ((4 : Int32) * nn)), (.int (((4 : Int32) * nn) + (1 : Int32)))]))
  refine own_by (fun t k => XS.iconst Xc0_2.here hx rfl (hb hby at_42) k) ?_
  show own_Go _ _ _ _ (Tc0_2.setTop (mkF m 43 #[.val (.int p1), .val (.int p2), .val (.int p3), .val (.int nn), .val (.ref b1), .val (.ref b2), .unset, .unset, .unset, .unset, .unset] [(.int (1 : Int32)), (.int ((4 : Int32) * nn)), (.int (((4 : Int32) * nn) + (1 : Int32)))]))
  refine own_by (fun t k => XS.iadd Xc0_2.here hx rfl (hb hby at_43) rfl k) ?_
  show own_Go _ _ _ _ (Tc0_2.setTop (mkF m 44 #[.val (.int p1), .val (.int p2), .val (.int p3), .val (.int nn), .val (.ref b1), .val (.ref b2), .unset, .unset, .unset, .unset, .unset] [(.int (((4 : Int32) * nn) + (1 : Int32))), (.int (((4 : Int32) * nn) + (1 : Int32)))]))
  refine own_by (fun t k => XS.icmpYes Xc0_2.here hx rfl (pc0 := 44) (pc' := 49) rfl (hb hby at_44) rfl (teq (rfl : (((4 : Int32) * nn) + (1 : Int32)) = (((4 : Int32) * nn) + (1 : Int32)))).1 (by decide) (by decide) k) ?_
  show own_Go _ _ _ _ (Tc0_2.setTop (mkF m 49 #[.val (.int p1), .val (.int p2), .val (.int p3), .val (.int nn), .val (.ref b1), .val (.ref b2), .unset, .unset, .unset, .unset, .unset] []))
  refine own_by (fun t k => XS.aload Xc0_2.here hx rfl (hb hby at_49) rfl rfl k) ?_
  show own_Go _ _ _ _ (Tc0_2.setTop (mkF m 51 #[.val (.int p1), .val (.int p2), .val (.int p3), .val (.int nn), .val (.ref b1), .val (.ref b2), .unset, .unset, .unset, .unset, .unset] [(.ref b1)]))
  refine own_by (fun t k => XS.iconst Xc0_2.here hx rfl (hb hby at_51) k) ?_
  show own_Go _ _ _ _ (Tc0_2.setTop (mkF m 52 #[.val (.int p1), .val (.int p2), .val (.int p3), .val (.int nn), .val (.ref b1), .val (.ref b2), .unset, .unset, .unset, .unset, .unset] [(.int (4 : Int32)), (.ref b1)]))
  refine own_by (fun t k => XS.iloadN Xc0_2.here hx rfl (hb hby at_52) rfl k) ?_
  show own_Go _ _ _ _ (Tc0_2.setTop (mkF m 53 #[.val (.int p1), .val (.int p2), .val (.int p3), .val (.int nn), .val (.ref b1), .val (.ref b2), .unset, .unset, .unset, .unset, .unset] [(.int nn), (.int (4 : Int32)), (.ref b1)]))
  refine own_by (fun t k => XS.imul Xc0_2.here hx rfl (hb hby at_53) rfl k) ?_
  show own_Go _ _ _ _ (Tc0_2.setTop (mkF m 54 #[.val (.int p1), .val (.int p2), .val (.int p3), .val (.int nn), .val (.ref b1), .val (.ref b2), .unset, .unset, .unset, .unset, .unset] [(.int ((4 : Int32) * nn)), (.ref b1)]))
  obtain ⟨clr0_4, Arr0_4, hir0_4, har0_4⟩ := V_b1.at (j := ((4 : Int32) * nn)) (own_in _ _ (by rw [u4]; omega) (by rw [u4, u5]; omega))
  replace har0_4 := har0_4.trans (congrArg some (if_pos rfl : own_cells nn c1 _ = .ref c1))
  refine own_by (fun t k => Xc0_2.aaload hx (j := ((4 : Int32) * nn)) (v := (.ref c1)) Arr0_4.1 (State.isArrayOf_alike hZ.alike Arr0_4.2.1) rfl Arr0_4.2.2 hir0_4 har0_4 (g := (mkF m 54 #[.val (.int p1), .val (.int p2), .val (.int p3), .val (.int nn), .val (.ref b1), .val (.ref b2), .unset, .unset, .unset, .unset, .unset] [(.int ((4 : Int32) * nn)), (.ref b1)])) rfl rfl (hb hby at_54) _ k) ?_
  show own_Go _ _ _ _ (Tc0_2.setTop (mkF m 55 #[.val (.int p1), .val (.int p2), .val (.int p3), .val (.int nn), .val (.ref b1), .val (.ref b2), .unset, .unset, .unset, .unset, .unset] [(.ref c1)]))
  refine own_by (fun t k => XS.astore Xc0_2.here hx rfl (hb hby at_55) rfl rfl (l' := #[.val (.int p1), .val (.int p2), .val (.int p3), .val (.int nn), .val (.ref b1), .val (.ref b2), .val (.ref c1), .unset, .unset, .unset, .unset]) rfl k) ?_
  show own_Go _ _ _ _ (Tc0_2.setTop (mkF m 57 #[.val (.int p1), .val (.int p2), .val (.int p3), .val (.int nn), .val (.ref b1), .val (.ref b2), .val (.ref c1), .unset, .unset, .unset, .unset] []))
  refine own_by (fun t k => XS.aload Xc0_2.here hx rfl (hb hby at_57) rfl rfl k) ?_
  show own_Go _ _ _ _ (Tc0_2.setTop (mkF m 59 #[.val (.int p1), .val (.int p2), .val (.int p3), .val (.int nn), .val (.ref b1), .val (.ref b2), .val (.ref c1), .unset, .unset, .unset, .unset] [(.ref b2)]))
  refine own_by (fun t k => XS.iconst Xc0_2.here hx rfl (hb hby at_59) k) ?_
  show own_Go _ _ _ _ (Tc0_2.setTop (mkF m 60 #[.val (.int p1), .val (.int p2), .val (.int p3), .val (.int nn), .val (.ref b1), .val (.ref b2), .val (.ref c1), .unset, .unset, .unset, .unset] [(.int (4 : Int32)), (.ref b2)]))
  refine own_by (fun t k => XS.iloadN Xc0_2.here hx rfl (hb hby at_60) rfl k) ?_
  show own_Go _ _ _ _ (Tc0_2.setTop (mkF m 61 #[.val (.int p1), .val (.int p2), .val (.int p3), .val (.int nn), .val (.ref b1), .val (.ref b2), .val (.ref c1), .unset, .unset, .unset, .unset] [(.int nn), (.int (4 : Int32)), (.ref b2)]))
  refine own_by (fun t k => XS.imul Xc0_2.here hx rfl (hb hby at_61) rfl k) ?_
  show own_Go _ _ _ _ (Tc0_2.setTop (mkF m 62 #[.val (.int p1), .val (.int p2), .val (.int p3), .val (.int nn), .val (.ref b1), .val (.ref b2), .val (.ref c1), .unset, .unset, .unset, .unset] [(.int ((4 : Int32) * nn)), (.ref b2)]))
  obtain ⟨clr0_5, Arr0_5, hir0_5, har0_5⟩ := V_b2.at (j := ((4 : Int32) * nn)) (own_in _ _ (by rw [u4]; omega) (by rw [u4, u5]; omega))
  replace har0_5 := har0_5.trans (congrArg some (if_pos rfl : own_cells nn c2 _ = .ref c2))
  refine own_by (fun t k => Xc0_2.aaload hx (j := ((4 : Int32) * nn)) (v := (.ref c2)) Arr0_5.1 (State.isArrayOf_alike hZ.alike Arr0_5.2.1) rfl Arr0_5.2.2 hir0_5 har0_5 (g := (mkF m 62 #[.val (.int p1), .val (.int p2), .val (.int p3), .val (.int nn), .val (.ref b1), .val (.ref b2), .val (.ref c1), .unset, .unset, .unset, .unset] [(.int ((4 : Int32) * nn)), (.ref b2)])) rfl rfl (hb hby at_62) _ k) ?_
  show own_Go _ _ _ _ (Tc0_2.setTop (mkF m 63 #[.val (.int p1), .val (.int p2), .val (.int p3), .val (.int nn), .val (.ref b1), .val (.ref b2), .val (.ref c1), .unset, .unset, .unset, .unset] [(.ref c2)]))
  refine own_by (fun t k => XS.astore Xc0_2.here hx rfl (hb hby at_63) rfl rfl (l' := #[.val (.int p1), .val (.int p2), .val (.int p3), .val (.int nn), .val (.ref b1), .val (.ref b2), .val (.ref c1), .val (.ref c2), .unset, .unset, .unset]) rfl k) ?_
  show own_Go _ _ _ _ (Tc0_2.setTop (mkF m 65 #[.val (.int p1), .val (.int p2), .val (.int p3), .val (.int nn), .val (.ref b1), .val (.ref b2), .val (.ref c1), .val (.ref c2), .unset, .unset, .unset] []))
  refine own_by (fun t k => XS.aload Xc0_2.here hx rfl (hb hby at_65) rfl rfl k) ?_
  show own_Go _ _ _ _ (Tc0_2.setTop (mkF m 67 #[.val (.int p1), .val (.int p2), .val (.int p3), .val (.int nn), .val (.ref b1), .val (.ref b2), .val (.ref c1), .val (.ref c2), .unset, .unset, .unset] [(.ref c1)]))
  obtain ⟨Tt0_6, Xt0_6, et0_6, stt0_6⟩ := instY Xc0_2 hx hZ hown (hw _ (List.mem_of_getElem? (i := 8) rfl)) rfl (Ins.self E_c1) (g := (mkF m 67 #[.val (.int p1), .val (.int p2), .val (.int p3), .val (.int nn), .val (.ref b1), .val (.ref b2), .val (.ref c1), .val (.ref c2), .unset, .unset, .unset] [(.ref c1)])) rfl rfl (hb hby at_67)
  refine own_by (fun t k => stt0_6 t k) ?_
  show own_Go _ _ _ _ (Tt0_6.setTop (mkF m 70 #[.val (.int p1), .val (.int p2), .val (.int p3), .val (.int nn), .val (.ref b1), .val (.ref b2), .val (.ref c1), .val (.ref c2), .unset, .unset, .unset] [(.int (1 : Int32))]))
  refine own_by (fun t k => XS.ifNo Xt0_6.here hx rfl (hb hby at_70) rfl ((if0 _ _).trans (feq (by decide : ¬ ((1 : Int32) = (0 : Int32)))).1) k) ?_
  show own_Go _ _ _ _ (Tt0_6.setTop (mkF m 73 #[.val (.int p1), .val (.int p2), .val (.int p3), .val (.int nn), .val (.ref b1), .val (.ref b2), .val (.ref c1), .val (.ref c2), .unset, .unset, .unset] []))
  refine own_by (fun t k => XS.aload Xt0_6.here hx rfl (hb hby at_73) rfl rfl k) ?_
  show own_Go _ _ _ _ (Tt0_6.setTop (mkF m 75 #[.val (.int p1), .val (.int p2), .val (.int p3), .val (.int nn), .val (.ref b1), .val (.ref b2), .val (.ref c1), .val (.ref c2), .unset, .unset, .unset] [(.ref c2)]))
  obtain ⟨Tt0_7, Xt0_7, et0_7, stt0_7⟩ := instY Xt0_6 hx hZ hown (hw _ (List.mem_of_getElem? (i := 8) rfl)) et0_6 (Ins.self E_c2) (g := (mkF m 75 #[.val (.int p1), .val (.int p2), .val (.int p3), .val (.int nn), .val (.ref b1), .val (.ref b2), .val (.ref c1), .val (.ref c2), .unset, .unset, .unset] [(.ref c2)])) rfl rfl (hb hby at_75)
  refine own_by (fun t k => stt0_7 t k) ?_
  show own_Go _ _ _ _ (Tt0_7.setTop (mkF m 78 #[.val (.int p1), .val (.int p2), .val (.int p3), .val (.int nn), .val (.ref b1), .val (.ref b2), .val (.ref c1), .val (.ref c2), .unset, .unset, .unset] [(.int (1 : Int32))]))
  refine own_by (fun t k => XS.ifNo Xt0_7.here hx rfl (hb hby at_78) rfl ((if0 _ _).trans (feq (by decide : ¬ ((1 : Int32) = (0 : Int32)))).1) k) ?_
  show own_Go _ _ _ _ (Tt0_7.setTop (mkF m 81 #[.val (.int p1), .val (.int p2), .val (.int p3), .val (.int nn), .val (.ref b1), .val (.ref b2), .val (.ref c1), .val (.ref c2), .unset, .unset, .unset] []))
  refine own_by (fun t k => XS.aload Xt0_7.here hx rfl (hb hby at_81) rfl rfl k) ?_
  show own_Go _ _ _ _ (Tt0_7.setTop (mkF m 83 #[.val (.int p1), .val (.int p2), .val (.int p3), .val (.int nn), .val (.ref b1), .val (.ref b2), .val (.ref c1), .val (.ref c2), .unset, .unset, .unset] [(.ref c1)]))
  refine own_by (fun t k => XS.aload Xt0_7.here hx rfl (hb hby at_83) rfl rfl k) ?_
  show own_Go _ _ _ _ (Tt0_7.setTop (mkF m 85 #[.val (.int p1), .val (.int p2), .val (.int p3), .val (.int nn), .val (.ref b1), .val (.ref b2), .val (.ref c1), .val (.ref c2), .unset, .unset, .unset] [(.ref c2), (.ref c1)]))
  refine own_by (fun t k => Jvm.RoadKit.acmp (g := (mkF m 85 #[.val (.int p1), .val (.int p2), .val (.int p3), .val (.int nn), .val (.ref b1), .val (.ref b2), .val (.ref c1), .val (.ref c2), .unset, .unset, .unset] [(.ref c2), (.ref c1)])) Xt0_7 hx rfl rfl rfl (pc0 := 85) (pc' := 90) (same := false) rfl (hb hby at_85) rfl (decide_eq_false fun q => ne_c1_c2 (Value.ref.inj q)) (by decide) (by decide) k) ?_
  show own_Go _ _ _ _ (Tt0_7.setTop (mkF m 90 #[.val (.int p1), .val (.int p2), .val (.int p3), .val (.int nn), .val (.ref b1), .val (.ref b2), .val (.ref c1), .val (.ref c2), .unset, .unset, .unset] []))
  refine own_by (fun t k => XS.aload Xt0_7.here hx rfl (hb hby at_90) rfl rfl k) ?_
  show own_Go _ _ _ _ (Tt0_7.setTop (mkF m 92 #[.val (.int p1), .val (.int p2), .val (.int p3), .val (.int nn), .val (.ref b1), .val (.ref b2), .val (.ref c1), .val (.ref c2), .unset, .unset, .unset] [(.ref c1)]))
  obtain ⟨Tt0_8, Xt0_8, et0_8, stt0_8⟩ := castY Xt0_7 hx hZ hown (hw _ (List.mem_of_getElem? (i := 8) rfl)) et0_7 (Ins.self E_c1) (g := (mkF m 92 #[.val (.int p1), .val (.int p2), .val (.int p3), .val (.int nn), .val (.ref b1), .val (.ref b2), .val (.ref c1), .val (.ref c2), .unset, .unset, .unset] [(.ref c1)])) rfl rfl (hb hby at_92)
  refine own_by (fun t k => stt0_8 t k) ?_
  show own_Go _ _ _ _ (Tt0_8.setTop (mkF m 95 #[.val (.int p1), .val (.int p2), .val (.int p3), .val (.int nn), .val (.ref b1), .val (.ref b2), .val (.ref c1), .val (.ref c2), .unset, .unset, .unset] [(.ref c1)]))
  refine own_by (fun t k => XS.astore Xt0_8.here hx rfl (hb hby at_95) rfl rfl (l' := #[.val (.int p1), .val (.int p2), .val (.int p3), .val (.int nn), .val (.ref b1), .val (.ref b2), .val (.ref c1), .val (.ref c2), .val (.ref c1), .unset, .unset]) rfl k) ?_
  show own_Go _ _ _ _ (Tt0_8.setTop (mkF m 97 #[.val (.int p1), .val (.int p2), .val (.int p3), .val (.int nn), .val (.ref b1), .val (.ref b2), .val (.ref c1), .val (.ref c2), .val (.ref c1), .unset, .unset] []))
  refine own_by (fun t k => XS.aload Xt0_8.here hx rfl (hb hby at_97) rfl rfl k) ?_
  show own_Go _ _ _ _ (Tt0_8.setTop (mkF m 99 #[.val (.int p1), .val (.int p2), .val (.int p3), .val (.int nn), .val (.ref b1), .val (.ref b2), .val (.ref c1), .val (.ref c2), .val (.ref c1), .unset, .unset] [(.ref c1)]))
  obtain ⟨cll0_9, Arl0_9, Sl0_9, Ml0_9, -⟩ := id V_c1
  refine own_by (fun t k => Xt0_8.arraylength hx (by rw [et0_8]; exact Arl0_9.1) (State.isArrayOf_alike hZ.alike Arl0_9.2.1) (g := (mkF m 99 #[.val (.int p1), .val (.int p2), .val (.int p3), .val (.int nn), .val (.ref b1), .val (.ref b2), .val (.ref c1), .val (.ref c2), .val (.ref c1), .unset, .unset] [(.ref c1)])) rfl rfl (hb hby at_99) _ k) ?_
  rw [len_of Sl0_9 Ml0_9]
  show own_Go _ _ _ _ (Tt0_8.setTop (mkF m 100 #[.val (.int p1), .val (.int p2), .val (.int p3), .val (.int nn), .val (.ref b1), .val (.ref b2), .val (.ref c1), .val (.ref c2), .val (.ref c1), .unset, .unset] [(.int nn)]))
  refine own_by (fun t k => XS.iloadN Xt0_8.here hx rfl (hb hby at_100) rfl k) ?_
  show own_Go _ _ _ _ (Tt0_8.setTop (mkF m 101 #[.val (.int p1), .val (.int p2), .val (.int p3), .val (.int nn), .val (.ref b1), .val (.ref b2), .val (.ref c1), .val (.ref c2), .val (.ref c1), .unset, .unset] [(.int nn), (.int nn)]))
  refine own_by (fun t k => XS.icmpYes Xt0_8.here hx rfl (pc0 := 101) (pc' := 106) rfl (hb hby at_101) rfl (teq (rfl : nn = nn)).1 (by decide) (by decide) k) ?_
  show own_Go _ _ _ _ (Tt0_8.setTop (mkF m 106 #[.val (.int p1), .val (.int p2), .val (.int p3), .val (.int nn), .val (.ref b1), .val (.ref b2), .val (.ref c1), .val (.ref c2), .val (.ref c1), .unset, .unset] []))
  refine own_by (fun t k => XS.iloadN Xt0_8.here hx rfl (hb hby at_106) rfl k) ?_
  show own_Go _ _ _ _ (Tt0_8.setTop (mkF m 107 #[.val (.int p1), .val (.int p2), .val (.int p3), .val (.int nn), .val (.ref b1), .val (.ref b2), .val (.ref c1), .val (.ref c2), .val (.ref c1), .unset, .unset] [(.int nn)]))
  by_cases hc107 : nn = (0 : Int32)
  · refine own_by (fun t k => XS.ifNo Xt0_8.here hx rfl (hb hby at_107) rfl ((if0 _ _).trans (teq hc107).2) k) ?_
    show own_Go _ _ _ _ (Tt0_8.setTop (mkF m 110 #[.val (.int p1), .val (.int p2), .val (.int p3), .val (.int nn), .val (.ref b1), .val (.ref b2), .val (.ref c1), .val (.ref c2), .val (.ref c1), .unset, .unset] []))
    refine own_by (fun t k => XS.iconst Xt0_8.here hx rfl (hb hby at_110) k) ?_
    show own_Go _ _ _ _ (Tt0_8.setTop (mkF m 111 #[.val (.int p1), .val (.int p2), .val (.int p3), .val (.int nn), .val (.ref b1), .val (.ref b2), .val (.ref c1), .val (.ref c2), .val (.ref c1), .unset, .unset] [(.int (1 : Int32))]))
    obtain ⟨fs, hr, hrun, hended, hW, hsame⟩ := Xt0_8.leave (v := some (.int (1 : Int32))) (fun h => by rw [Bd.returns] at h; cases h)
    refine ⟨_, _, retN Xt0_8 hx (t := .boolean) Bd.returns (by simp) (hb hby at_111) hr, hrun, hended, _, _, rfl, ?_, ⟨_, rfl⟩, hW, hsame.mono (by decide) (by decide)⟩
    show Q0 Z p1 p2 p3 h0 n0 _ Tt0_8.heap _
    rw [et0_8]
    exact ⟨rfl, Nc0_2⟩
  · refine own_by (fun t k => XS.ifYes Xt0_8.here hx rfl (pc0 := 107) (pc' := 112) rfl (hb hby at_107) rfl ((if0 _ _).trans (feq hc107).2) (by decide) (by decide) k) ?_
    show own_Go _ _ _ _ (Tt0_8.setTop (mkF m 112 #[.val (.int p1), .val (.int p2), .val (.int p3), .val (.int nn), .val (.ref b1), .val (.ref b2), .val (.ref c1), .val (.ref c2), .val (.ref c1), .unset, .unset] []))
    refine own_by (fun t k => XS.iloadN Xt0_8.here hx rfl (hb hby at_112) rfl k) ?_
    show own_Go _ _ _ _ (Tt0_8.setTop (mkF m 113 #[.val (.int p1), .val (.int p2), .val (.int p3), .val (.int nn), .val (.ref b1), .val (.ref b2), .val (.ref c1), .val (.ref c2), .val (.ref c1), .unset, .unset] [(.int p2)]))
    refine own_by (fun t k => Xt0_8.ldcInt hx hown (mvT hZ (hw _ (List.mem_of_getElem? (i := 10) rfl))) (g := (mkF m 113 #[.val (.int p1), .val (.int p2), .val (.int p3), .val (.int nn), .val (.ref b1), .val (.ref b2), .val (.ref c1), .val (.ref c2), .val (.ref c1), .unset, .unset] [(.int p2)])) rfl (hb hby at_113) _ k) ?_
    show own_Go _ _ _ _ (Tt0_8.setTop (mkF m 115 #[.val (.int p1), .val (.int p2), .val (.int p3), .val (.int nn), .val (.ref b1), .val (.ref b2), .val (.ref c1), .val (.ref c2), .val (.ref c1), .unset, .unset] [(.int (2147483647 : Int32)), (.int p2)]))
    refine own_by (fun t k => XS.iand Xt0_8.here hx rfl (hb hby at_115) rfl k) ?_
    show own_Go _ _ _ _ (Tt0_8.setTop (mkF m 116 #[.val (.int p1), .val (.int p2), .val (.int p3), .val (.int nn), .val (.ref b1), .val (.ref b2), .val (.ref c1), .val (.ref c2), .val (.ref c1), .unset, .unset] [(.int (p2 &&& (2147483647 : Int32)))]))
    refine own_by (fun t k => XS.iconst Xt0_8.here hx rfl (hb hby at_116) k) ?_
    show own_Go _ _ _ _ (Tt0_8.setTop (mkF m 117 #[.val (.int p1), .val (.int p2), .val (.int p3), .val (.int nn), .val (.ref b1), .val (.ref b2), .val (.ref c1), .val (.ref c2), .val (.ref c1), .unset, .unset] [(.int (4 : Int32)), (.int (p2 &&& (2147483647 : Int32)))]))
    refine own_by (fun t k => XS.iloadN Xt0_8.here hx rfl (hb hby at_117) rfl k) ?_
    show own_Go _ _ _ _ (Tt0_8.setTop (mkF m 118 #[.val (.int p1), .val (.int p2), .val (.int p3), .val (.int nn), .val (.ref b1), .val (.ref b2), .val (.ref c1), .val (.ref c2), .val (.ref c1), .unset, .unset] [(.int nn), (.int (4 : Int32)), (.int (p2 &&& (2147483647 : Int32)))]))
    refine own_by (fun t k => XS.imul Xt0_8.here hx rfl (hb hby at_118) rfl k) ?_
    have hp := own_pos hnb.1 hc107
    have hnz119 : ¬ ((4 : Int32) * nn) = (0 : Int32) := own_nz (by rw [u4]; omega)
    show own_Go _ _ _ _ (Tt0_8.setTop (mkF m 119 #[.val (.int p1), .val (.int p2), .val (.int p3), .val (.int nn), .val (.ref b1), .val (.ref b2), .val (.ref c1), .val (.ref c2), .val (.ref c1), .unset, .unset] [(.int ((4 : Int32) * nn)), (.int (p2 &&& (2147483647 : Int32)))]))
    refine own_by (fun t k => iremM Xt0_8 hx rfl (hb hby at_119) rfl (hnz119 : ¬ (((4 : Int32) * nn) = (0 : Int32))) k) ?_
    show own_Go _ _ _ _ (Tt0_8.setTop (mkF m 120 #[.val (.int p1), .val (.int p2), .val (.int p3), .val (.int nn), .val (.ref b1), .val (.ref b2), .val (.ref c1), .val (.ref c2), .val (.ref c1), .unset, .unset] [(.int ((p2 &&& (2147483647 : Int32)) % ((4 : Int32) * nn)))]))
    obtain ⟨kk, hkk⟩ : ∃ z : Int32, z = ((p2 &&& (2147483647 : Int32)) % ((4 : Int32) * nn)) := ⟨_, rfl⟩
    rw [← hkk]
    have hk : 0 ≤ kk.toInt ∧ kk.toInt < ((4 : Int32) * nn).toInt := by rw [hkk]; exact own_rem p2 _ (by rw [u4]; omega)
    show own_Go _ _ _ _ (Tt0_8.setTop (mkF m 120 #[.val (.int p1), .val (.int p2), .val (.int p3), .val (.int nn), .val (.ref b1), .val (.ref b2), .val (.ref c1), .val (.ref c2), .val (.ref c1), .unset, .unset] [(.int kk)]))
    refine own_by (fun t k => XS.istore Xt0_8.here hx rfl (hb hby at_120) rfl (l' := #[.val (.int p1), .val (.int p2), .val (.int p3), .val (.int nn), .val (.ref b1), .val (.ref b2), .val (.ref c1), .val (.ref c2), .val (.ref c1), .val (.int kk), .unset]) rfl k) ?_
    show own_Go _ _ _ _ (Tt0_8.setTop (mkF m 122 #[.val (.int p1), .val (.int p2), .val (.int p3), .val (.int nn), .val (.ref b1), .val (.ref b2), .val (.ref c1), .val (.ref c2), .val (.ref c1), .val (.int kk), .unset] []))
    refine own_by (fun t k => XS.aload Xt0_8.here hx rfl (hb hby at_122) rfl rfl k) ?_
    show own_Go _ _ _ _ (Tt0_8.setTop (mkF m 124 #[.val (.int p1), .val (.int p2), .val (.int p3), .val (.int nn), .val (.ref b1), .val (.ref b2), .val (.ref c1), .val (.ref c2), .val (.ref c1), .val (.int kk), .unset] [(.ref b1)]))
    refine own_by (fun t k => XS.iload Xt0_8.here hx rfl (hb hby at_124) rfl k) ?_
    show own_Go _ _ _ _ (Tt0_8.setTop (mkF m 126 #[.val (.int p1), .val (.int p2), .val (.int p3), .val (.int nn), .val (.ref b1), .val (.ref b2), .val (.ref c1), .val (.ref c2), .val (.ref c1), .val (.int kk), .unset] [(.int kk), (.ref b1)]))
    obtain ⟨clr0_10, Arr0_10, hir0_10, har0_10⟩ := V_b1.at (j := kk) (own_in _ _ hk.1 (by rw [u5]; rw [u4] at hk; omega))
    replace har0_10 := har0_10.trans (congrArg some (own_null nn kk c1 hk.1 hk.2))
    refine own_by (fun t k => Xt0_8.aaload hx (j := kk) (v := .null) (by rw [et0_8]; exact Arr0_10.1) (State.isArrayOf_alike hZ.alike Arr0_10.2.1) rfl Arr0_10.2.2 hir0_10 har0_10 (g := (mkF m 126 #[.val (.int p1), .val (.int p2), .val (.int p3), .val (.int nn), .val (.ref b1), .val (.ref b2), .val (.ref c1), .val (.ref c2), .val (.ref c1), .val (.int kk), .unset] [(.int kk), (.ref b1)])) rfl rfl (hb hby at_126) _ k) ?_
    show own_Go _ _ _ _ (Tt0_8.setTop (mkF m 127 #[.val (.int p1), .val (.int p2), .val (.int p3), .val (.int nn), .val (.ref b1), .val (.ref b2), .val (.ref c1), .val (.ref c2), .val (.ref c1), .val (.int kk), .unset] [.null]))
    refine own_by (fun t k => XS.ifnullYes Xt0_8.here hx rfl (pc0 := 127) (pc' := 132) rfl (hb hby at_127) rfl (by decide) (by decide) k) ?_
    show own_Go _ _ _ _ (Tt0_8.setTop (mkF m 132 #[.val (.int p1), .val (.int p2), .val (.int p3), .val (.int nn), .val (.ref b1), .val (.ref b2), .val (.ref c1), .val (.ref c2), .val (.ref c1), .val (.int kk), .unset] []))
    refine own_by (fun t k => XS.iloadN Xt0_8.here hx rfl (hb hby at_132) rfl k) ?_
    show own_Go _ _ _ _ (Tt0_8.setTop (mkF m 133 #[.val (.int p1), .val (.int p2), .val (.int p3), .val (.int nn), .val (.ref b1), .val (.ref b2), .val (.ref c1), .val (.ref c2), .val (.ref c1), .val (.int kk), .unset] [(.int p3)]))
    refine own_by (fun t k => Xt0_8.ldcInt hx hown (mvT hZ (hw _ (List.mem_of_getElem? (i := 10) rfl))) (g := (mkF m 133 #[.val (.int p1), .val (.int p2), .val (.int p3), .val (.int nn), .val (.ref b1), .val (.ref b2), .val (.ref c1), .val (.ref c2), .val (.ref c1), .val (.int kk), .unset] [(.int p3)])) rfl (hb hby at_133) _ k) ?_
    show own_Go _ _ _ _ (Tt0_8.setTop (mkF m 135 #[.val (.int p1), .val (.int p2), .val (.int p3), .val (.int nn), .val (.ref b1), .val (.ref b2), .val (.ref c1), .val (.ref c2), .val (.ref c1), .val (.int kk), .unset] [(.int (2147483647 : Int32)), (.int p3)]))
    refine own_by (fun t k => XS.iand Xt0_8.here hx rfl (hb hby at_135) rfl k) ?_
    show own_Go _ _ _ _ (Tt0_8.setTop (mkF m 136 #[.val (.int p1), .val (.int p2), .val (.int p3), .val (.int nn), .val (.ref b1), .val (.ref b2), .val (.ref c1), .val (.ref c2), .val (.ref c1), .val (.int kk), .unset] [(.int (p3 &&& (2147483647 : Int32)))]))
    refine own_by (fun t k => XS.iloadN Xt0_8.here hx rfl (hb hby at_136) rfl k) ?_
    have hnz137 : ¬ nn = (0 : Int32) := hc107
    show own_Go _ _ _ _ (Tt0_8.setTop (mkF m 137 #[.val (.int p1), .val (.int p2), .val (.int p3), .val (.int nn), .val (.ref b1), .val (.ref b2), .val (.ref c1), .val (.ref c2), .val (.ref c1), .val (.int kk), .unset] [(.int nn), (.int (p3 &&& (2147483647 : Int32)))]))
    refine own_by (fun t k => iremM Xt0_8 hx rfl (hb hby at_137) rfl (hnz137 : ¬ (nn = (0 : Int32))) k) ?_
    show own_Go _ _ _ _ (Tt0_8.setTop (mkF m 138 #[.val (.int p1), .val (.int p2), .val (.int p3), .val (.int nn), .val (.ref b1), .val (.ref b2), .val (.ref c1), .val (.ref c2), .val (.ref c1), .val (.int kk), .unset] [(.int ((p3 &&& (2147483647 : Int32)) % nn))]))
    obtain ⟨jj, hjj⟩ : ∃ z : Int32, z = ((p3 &&& (2147483647 : Int32)) % nn) := ⟨_, rfl⟩
    rw [← hjj]
    have hj : 0 ≤ jj.toInt ∧ jj.toInt < nn.toInt := by rw [hjj]; exact own_rem p3 _ hp
    show own_Go _ _ _ _ (Tt0_8.setTop (mkF m 138 #[.val (.int p1), .val (.int p2), .val (.int p3), .val (.int nn), .val (.ref b1), .val (.ref b2), .val (.ref c1), .val (.ref c2), .val (.ref c1), .val (.int kk), .unset] [(.int jj)]))
    refine own_by (fun t k => XS.istore Xt0_8.here hx rfl (hb hby at_138) rfl (l' := #[.val (.int p1), .val (.int p2), .val (.int p3), .val (.int nn), .val (.ref b1), .val (.ref b2), .val (.ref c1), .val (.ref c2), .val (.ref c1), .val (.int kk), .val (.int jj)]) rfl k) ?_
    show own_Go _ _ _ _ (Tt0_8.setTop (mkF m 140 #[.val (.int p1), .val (.int p2), .val (.int p3), .val (.int nn), .val (.ref b1), .val (.ref b2), .val (.ref c1), .val (.ref c2), .val (.ref c1), .val (.int kk), .val (.int jj)] []))
    refine own_by (fun t k => XS.aload Xt0_8.here hx rfl (hb hby at_140) rfl rfl k) ?_
    show own_Go _ _ _ _ (Tt0_8.setTop (mkF m 142 #[.val (.int p1), .val (.int p2), .val (.int p3), .val (.int nn), .val (.ref b1), .val (.ref b2), .val (.ref c1), .val (.ref c2), .val (.ref c1), .val (.int kk), .val (.int jj)] [(.ref c1)]))
    refine own_by (fun t k => XS.iload Xt0_8.here hx rfl (hb hby at_142) rfl k) ?_
    show own_Go _ _ _ _ (Tt0_8.setTop (mkF m 144 #[.val (.int p1), .val (.int p2), .val (.int p3), .val (.int nn), .val (.ref b1), .val (.ref b2), .val (.ref c1), .val (.ref c2), .val (.ref c1), .val (.int kk), .val (.int jj)] [(.int jj), (.ref c1)]))
    obtain ⟨clr0_11, Arr0_11, hir0_11, har0_11⟩ := V_c1.at (j := jj) (own_in _ _ hj.1 hj.2)
    replace har0_11 := har0_11.trans (congrArg some rfl)
    refine own_by (fun t k => Xt0_8.laload hx (j := jj) (v := (.long (0 : Int64))) (by rw [et0_8]; exact Arr0_11.1) (State.isArrayOf_alike hZ.alike Arr0_11.2.1) Arr0_11.2.2 hir0_11 har0_11 (g := (mkF m 144 #[.val (.int p1), .val (.int p2), .val (.int p3), .val (.int nn), .val (.ref b1), .val (.ref b2), .val (.ref c1), .val (.ref c2), .val (.ref c1), .val (.int kk), .val (.int jj)] [(.int jj), (.ref c1)])) rfl rfl (hb hby at_144) _ k) ?_
    show own_Go _ _ _ _ (Tt0_8.setTop (mkF m 145 #[.val (.int p1), .val (.int p2), .val (.int p3), .val (.int nn), .val (.ref b1), .val (.ref b2), .val (.ref c1), .val (.ref c2), .val (.ref c1), .val (.int kk), .val (.int jj)] [(.long (0 : Int64))]))
    refine own_by (fun t k => XS.lconst Xt0_8.here hx rfl (hb hby at_145) k) ?_
    show own_Go _ _ _ _ (Tt0_8.setTop (mkF m 146 #[.val (.int p1), .val (.int p2), .val (.int p3), .val (.int nn), .val (.ref b1), .val (.ref b2), .val (.ref c1), .val (.ref c2), .val (.ref c1), .val (.int kk), .val (.int jj)] [(.long (0 : Int64)), (.long (0 : Int64))]))
    refine own_by (fun t k => XS.lcmp Xt0_8.here hx rfl (hb hby at_146) rfl k) ?_
    show own_Go _ _ _ _ (Tt0_8.setTop (mkF m 147 #[.val (.int p1), .val (.int p2), .val (.int p3), .val (.int nn), .val (.ref b1), .val (.ref b2), .val (.ref c1), .val (.ref c2), .val (.ref c1), .val (.int kk), .val (.int jj)] [(.int (lcmpW (0 : Int64) (0 : Int64)))]))
    refine own_by (fun t k => XS.ifNo Xt0_8.here hx rfl (hb hby at_147) rfl ((if0 _ _).trans (teq ((lw_eq _ _).mpr (rfl : (0 : Int64) = (0 : Int64)))).2) k) ?_
    show own_Go _ _ _ _ (Tt0_8.setTop (mkF m 150 #[.val (.int p1), .val (.int p2), .val (.int p3), .val (.int nn), .val (.ref b1), .val (.ref b2), .val (.ref c1), .val (.ref c2), .val (.ref c1), .val (.int kk), .val (.int jj)] []))
    refine own_by (fun t k => XS.iconst Xt0_8.here hx rfl (hb hby at_150) k) ?_
    show own_Go _ _ _ _ (Tt0_8.setTop (mkF m 151 #[.val (.int p1), .val (.int p2), .val (.int p3), .val (.int nn), .val (.ref b1), .val (.ref b2), .val (.ref c1), .val (.ref c2), .val (.ref c1), .val (.int kk), .val (.int jj)] [(.int (1 : Int32))]))
    refine own_by (fun t k => XS.goto Xt0_8.here hx rfl (pc0 := 151) (pc' := 155) rfl (hb hby at_151) (by decide) (by decide) k) ?_
    show own_Go _ _ _ _ (Tt0_8.setTop (mkF m 155 #[.val (.int p1), .val (.int p2), .val (.int p3), .val (.int nn), .val (.ref b1), .val (.ref b2), .val (.ref c1), .val (.ref c2), .val (.ref c1), .val (.int kk), .val (.int jj)] [(.int (1 : Int32))]))
    obtain ⟨fs, hr, hrun, hended, hW, hsame⟩ := Xt0_8.leave (v := some (.int (1 : Int32))) (fun h => by rw [Bd.returns] at h; cases h)
    refine ⟨_, _, retN Xt0_8 hx (t := .boolean) Bd.returns (by simp) (hb hby at_155) hr, hrun, hended, _, _, rfl, ?_, ⟨_, rfl⟩, hW, hsame.mono (by decide) (by decide)⟩
    show Q0 Z p1 p2 p3 h0 n0 _ Tt0_8.heap _
    rw [et0_8]
    exact ⟨rfl, Nc0_2⟩
set_option maxRecDepth 65536 in
set_option maxHeartbeats 40000000 in
theorem comes_1 {Post : Tables → Env → Array Value → State → Outcome → State → Prop} (hpost : ∀ tb e args s v u, (limb_1_1.after args s (.returned v) u = true ∧ limb_1_2.after args s (.returned v) u = true ∧ True) → FrameEnd s (.returned v) u (Jvm.fieldLocs frame_1_writes args s ++ Jvm.arrayLocs frame_1_arrays args s ++ Jvm.staticLocs frame_1_statics s) 16 384 → Post tb e args s (.returned v) u) :
    ArmFor flags0 classFile x code maxLocals ret World_1 tables_1 room_1 Calls_1 rest_1 Pre_1 Post := by
  intro l hfl _ _ p e ha hc hk s m args below hf hA hF happ hP
  obtain ⟨hcalls, hrest, hpre⟩ := hP
  obtain ⟨-, -, -, hnamed, -, -, -, hat⟩ := (Spec.applies_iff hf).mp happ
  obtain ⟨hg, hn⟩ := and_e (Cond.before_iff.mp (show (Jvm.Cond.and given_1 narrow_1).before args s = true from hpre))
  obtain ⟨gc, gr0⟩ := and_e hg
  obtain ⟨ga0, gr1⟩ := and_e gr0
  obtain ⟨ga1, gr2⟩ := and_e gr1
  obtain ⟨w0, w1, w2, rfl⟩ : ∃ w0 w1 w2 : Value, args = #[w0, w1, w2] := by
    have hs : args.size = 3 := by simpa [Cond.value, given_1] using gc
    obtain ⟨L⟩ := args
    match L, hs with
    | [w0, w1, w2], _ => exact ⟨w0, w1, w2, rfl⟩
  have hw := fun d (hd : d ∈ tables_1) => atoms_spec (ws := Jvm.Cond.code x code maxLocals ret :: tables_1) hat d (List.mem_cons_of_mem _ hd)
  obtain ⟨i0, ei0⟩ := is_v ga0
  obtain rfl : w0 = (.int i0) := Option.some.inj ei0
  obtain ⟨i1, ei1⟩ := is_v ga1
  obtain rfl : w1 = (.int i1) := Option.some.inj ei1
  obtain ⟨i2, ei2⟩ := is_v gr2
  obtain rfl : w2 = (.int i2) := Option.some.inj ei2
  obtain ⟨n, o, h1, h2, h3, _, L, rfl, ⟨rfl, N⟩, hq⟩ := rm0 l s _ hw tables_1 i0 i1 i2 s.heap s.heap.size (Nat.le_refl _) p e ha hc hk s m _ below hf ((Spec.applies_iff_loose hf).mp happ).1 ⟨rfl, State.Warmed39.refl s, rfl⟩ trivial
  refine ⟨n, _, h1, h2, h3, hpost _ _ _ _ _ _ ⟨Cond.after_iff.mpr rfl, Cond.after_iff.mpr (eq_i res_at (Term.int_eval (1)) rfl), trivial⟩ ⟨hq.1, hq.2.1, (hq.2.2.sift fun y hy => Or.inr (N y hy)).mono (by decide) (by decide)⟩⟩
theorem main_1_1 : Claimed_1_1 := comes_1 fun _ _ _ _ _ _ h hF => ⟨h.1, hF⟩
theorem main_1_2 : Claimed_1_2 := comes_1 fun _ _ _ _ _ _ h hF => ⟨h.2.1, hF⟩
end Jvm.Pilot.@@N@@
namespace Jvm.Pilot.@@N@@
open Jvm Jvm.ClassFile Sem Op Lib Jvm.Free Jvm.Stand Jvm.Pilot.@@N@@.Jvm.D
/-! MADE BY PROGRAM (witnessworld.py) out of the Statement's table words and the real class files: 12 classes; the members and pool entries that the words name. The judged class is class 1, her method 1. -/
namespace start1
open Jvm.ClassFile
def u (s : String) : CpInfo := .utf8 (stringToUtf16 s)
/-- a pool by its gaps: so many unusable entries, then the entry; so many at the end -/
def gap : Nat → List CpInfo → List CpInfo
  | 0, r => r
  | n + 1, r => .unusable :: gap n r
def poolList (es : List (Nat × CpInfo)) (last : Nat) : List CpInfo := es.foldr (fun e r => gap e.1 (e.2 :: r)) (gap last [])
def pool (es : List (Nat × CpInfo)) (last : Nat) : Array CpInfo := ⟨poolList es last⟩
def fileOf (pool : Array CpInfo) (this : Nat) (attrs : Array Attribute := #[]) (ms : Array MethodInfo := #[]) (fl : Nat := 33) (sup : Nat := 0) (ifs : Array Nat := #[]) (fds : Array FieldInfo := #[]) : ClassFile where
  minorVersion := 0
  majorVersion := 65
  constantPool := pool
  accessFlags := fl
  thisClass := this
  superClass := sup
  interfaces := ifs
  fields := fds
  methods := ms
  attributes := attrs
def plain (name : String) (sup : Option ClassId) : Class where
  name := name
  kind := .ordinary
  loader := none
  accessFlags := 33
  super := sup
  interfaces := #[]
  cf := none
  fields := #[]
  methods := #[]
  instanceTypes := #[]
  staticTypes := #[]
  resolved := #[]
  callSites := []
  init := .initialized
  statics := none
  mirror := none

def pool0 : Array CpInfo := pool [(5, u "<init>"), (0, u "()V"), (1, .class_ 10), (1, u "java/lang/Object")] 113

def k0m0 : Method := { name := "<init>", desc := "()V", sig := { parameters := [], returnType := none }, accessFlags := 1, code := none }
/-- java/lang/Object -/
def k0 : Class := { plain "java/lang/Object" none with
  accessFlags := 33
  interfaces := #[]
  cf := some (fileOf pool0 8 #[] #[{ accessFlags := 1, nameIndex := 5, descriptorIndex := 6, attributes := #[] }] 33 0 #[] #[])
  fields := #[]
  methods := #[k0m0]
  instanceTypes := #[]
  staticTypes := #[]
  resolved := Array.replicate 124 none
  statics := none }

def pool1 : Array CpInfo := pool [(2, .class_ 4), (1, u "java/lang/Object"), (0, u "<init>"), (0, u "()V"), (0, .methodref 8 9), (0, .class_ 10), (0, .nameAndType 11 12), (0, u "com/example/latchless/latchless/engine/Cells"), (0, u "arrayWords"), (0, u "(I)[Ljava/lang/Object;"), (0, .class_ 14), (0, u "[J"), (0, .integer 2147483647), (0, .class_ 17), (0, u "com/example/latchless/latchless/engine/CellsArrayWordsPinLaw"), (2, u "law"), (0, u "(III)Z")] 5

def k1m0 : Method := { name := "<init>", desc := "()V", sig := { parameters := [], returnType := none }, accessFlags := 2, code := none }
def k1c1 : Code := { maxStack := 4, maxLocals := 11, code := code, exceptionTable := #[], attributes := #[] }
def k1m1 : Method := { name := "law", desc := "(III)Z", sig := { parameters := [.int, .int, .int], returnType := some .boolean }, accessFlags := 9, code := some k1c1 }
/-- com/example/latchless/latchless/engine/CellsArrayWordsPinLaw -/
def k1 : Class := { plain "com/example/latchless/latchless/engine/CellsArrayWordsPinLaw" (some 0) with
  accessFlags := 49
  interfaces := #[]
  cf := some (fileOf pool1 16 #[] #[{ accessFlags := 2, nameIndex := 5, descriptorIndex := 6, attributes := #[] }, { accessFlags := 9, nameIndex := 20, descriptorIndex := 21, attributes := #[] }] 49 2 #[] #[])
  fields := #[]
  methods := #[k1m0, k1m1]
  instanceTypes := #[]
  staticTypes := #[]
  resolved := Array.replicate 27 none
  statics := none }

def pool2 : Array CpInfo := pool [(2, .class_ 4), (1, u "java/lang/Object"), (0, u "<init>"), (0, u "()V"), (0, .class_ 8), (0, u "com/example/latchless/latchless/engine/Cells"), (5, u "Lcom/example/latchless/latchless/engine/Locator;"), (2, u "WORD"), (0, u "Ljava/lang/invoke/VarHandle;"), (10, u "UNWRITTEN"), (4, u "LOCATOR"), (13, u "SETTLED_VALUE"), (14, u "STAMP"), (12, u "SETTLED_FOR"), (2, u "CLAIMED"), (131, u "WAITERS"), (23, u "WORDS"), (0, u "I"), (8, u "arrayWords"), (0, u "(I)[Ljava/lang/Object;")] 34

def k2m0 : Method := { name := "<init>", desc := "()V", sig := { parameters := [], returnType := none }, accessFlags := 2, code := none }
def k2c1 : Code := { maxStack := 3, maxLocals := 2, code := prog_48_method_2_code, exceptionTable := #[], attributes := #[] }
def k2m1 : Method := { name := "arrayWords", desc := "(I)[Ljava/lang/Object;", sig := { parameters := [.int], returnType := some (.array (.object "java/lang/Object")) }, accessFlags := 8, code := some k2c1 }
/-- com/example/latchless/latchless/engine/Cells -/
def k2 : Class := { plain "com/example/latchless/latchless/engine/Cells" (some 0) with
  accessFlags := 48
  interfaces := #[]
  cf := some (fileOf pool2 7 #[] #[{ accessFlags := 2, nameIndex := 5, descriptorIndex := 6, attributes := #[] }, { accessFlags := 8, nameIndex := 245, descriptorIndex := 246, attributes := #[] }] 48 2 #[] #[{ accessFlags := 24, nameIndex := 235, descriptorIndex := 236, attributes := #[] }, { accessFlags := 26, nameIndex := 34, descriptorIndex := 236, attributes := #[] }, { accessFlags := 26, nameIndex := 76, descriptorIndex := 236, attributes := #[] }, { accessFlags := 26, nameIndex := 48, descriptorIndex := 236, attributes := #[] }, { accessFlags := 26, nameIndex := 211, descriptorIndex := 236, attributes := #[] }, { accessFlags := 26, nameIndex := 17, descriptorIndex := 18, attributes := #[] }, { accessFlags := 26, nameIndex := 63, descriptorIndex := 18, attributes := #[] }, { accessFlags := 26, nameIndex := 29, descriptorIndex := 14, attributes := #[] }, { accessFlags := 26, nameIndex := 79, descriptorIndex := 14, attributes := #[] }])
  fields := #[{ name := "WORDS", type := .int, accessFlags := 24, slot := 0, constantValue := 0 }, { name := "LOCATOR", type := .int, accessFlags := 26, slot := 1, constantValue := 0 }, { name := "SETTLED_FOR", type := .int, accessFlags := 26, slot := 2, constantValue := 0 }, { name := "SETTLED_VALUE", type := .int, accessFlags := 26, slot := 3, constantValue := 0 }, { name := "WAITERS", type := .int, accessFlags := 26, slot := 4, constantValue := 0 }, { name := "WORD", type := (.object "java/lang/invoke/VarHandle"), accessFlags := 26, slot := 5, constantValue := 0 }, { name := "STAMP", type := (.object "java/lang/invoke/VarHandle"), accessFlags := 26, slot := 6, constantValue := 0 }, { name := "UNWRITTEN", type := (.object "com/example/latchless/latchless/engine/Locator"), accessFlags := 26, slot := 7, constantValue := 0 }, { name := "CLAIMED", type := (.object "com/example/latchless/latchless/engine/Locator"), accessFlags := 26, slot := 8, constantValue := 0 }]
  methods := #[k2m0, k2m1]
  instanceTypes := #[]
  staticTypes := #[.int, .int, .int, .int, .int, (.object "java/lang/invoke/VarHandle"), (.object "java/lang/invoke/VarHandle"), (.object "com/example/latchless/latchless/engine/Locator"), (.object "com/example/latchless/latchless/engine/Locator")]
  resolved := Array.replicate 281 none
  statics := none }

def pool3 : Array CpInfo := pool [(1, u "java/lang/Cloneable"), (0, .class_ 1), (0, u "java/lang/Object"), (0, .class_ 3)] 3

/-- java/lang/Cloneable -/
def k3 : Class := { plain "java/lang/Cloneable" (some 0) with
  accessFlags := 1537
  interfaces := #[]
  cf := some (fileOf pool3 2 #[] #[] 1537 4 #[] #[])
  fields := #[]
  methods := #[]
  instanceTypes := #[]
  staticTypes := #[]
  resolved := Array.replicate 8 none
  statics := none }

def pool4 : Array CpInfo := pool [(1, u "java/io/Serializable"), (0, .class_ 1), (0, u "java/lang/Object"), (0, .class_ 3)] 3

/-- java/io/Serializable -/
def k4 : Class := { plain "java/io/Serializable" (some 0) with
  accessFlags := 1537
  interfaces := #[]
  cf := some (fileOf pool4 2 #[] #[] 1537 4 #[] #[])
  fields := #[]
  methods := #[]
  instanceTypes := #[]
  staticTypes := #[]
  resolved := Array.replicate 8 none
  statics := none }

/-- the primitive byte -/
def k5 : Class := { plain "byte" none with kind := .primitive 'B', accessFlags := 0x411 }
/-- [B -/
def k6 : Class := { plain "[B" (some 0) with kind := .array 5 .byte, interfaces := #[3, 4], accessFlags := 1041 }

/-- the primitive int -/
def k7 : Class := { plain "int" none with kind := .primitive 'I', accessFlags := 0x411 }
/-- [I -/
def k8 : Class := { plain "[I" (some 0) with kind := .array 7 .int, interfaces := #[3, 4], accessFlags := 1041 }

/-- the primitive long -/
def k9 : Class := { plain "long" none with kind := .primitive 'J', accessFlags := 0x411 }
/-- [J -/
def k10 : Class := { plain "[J" (some 0) with kind := .array 9 .long, interfaces := #[3, 4], accessFlags := 1041 }

/-- [Ljava/lang/Object; -/
def k11 : Class := { plain "[Ljava/lang/Object;" (some 0) with kind := .array 0 (.object "java/lang/Object"), interfaces := #[3, 4], accessFlags := 1041 }

def heap : Heap := #[]
def classes : Array Class := #[k0, k1, k2, k3, k4, k5, k6, k7, k8, k9, k10, k11]
def interned : List (Array UInt16 × Addr) := []
def slotsUsed : Nat := 0
def theMethod : MethodId := ⟨1, 1⟩
def args0 : Array Value := #[.int 5, .int 7, .int 3]
def aboutOver (below : List Frame) : State where
  vm := { classes := classes, interned := interned.toArray }
  heap := heap
  slotsUsed := slotsUsed
  threads := #[{ frames := .invoking theMethod args0 :: below }]
def below0 : List Frame := [.native { method := ⟨0, 0⟩, args := #[] }]
def about1 : State := aboutOver below0
def p0 : Program := .bare "" "" ""
def e0 : Env := launch0.env 0 0 0
theorem w_frames : about1.frames = Frame.invoking theMethod args0 :: below0 := rfl
set_option maxRecDepth 65536 in
theorem w_args : argsFit about1.vm theMethod args0 = true := by decide +kernel
set_option maxRecDepth 65536 in
theorem w_heap : heapFits about1 = true := by decide +kernel
set_option maxRecDepth 65536 in
theorem w_runnable : about1.curStatus? = some .runnable := by decide +kernel
set_option maxRecDepth 65536 in
theorem w_alone : about1.alone = true := by decide +kernel
set_option maxRecDepth 65536 in
theorem w_named : about1.methodNamed? x = some theMethod := by decide +kernel
set_option maxRecDepth 65536 in
theorem w_hears : about1.hears theMethod below0 = true := by decide +kernel
set_option maxRecDepth 65536 in
theorem w_ripe : about1.ripe theMethod args0 below0 = true := by decide +kernel
theorem w_running : about1.status = .running := rfl
set_option maxRecDepth 65536 in
theorem w_room : about1.hasRoom e0.platform room_1 = true :=
  launch0.hasRoom_least _ room_1 (by decide +kernel) (by decide +kernel) (by decide +kernel) (by decide +kernel) (by decide +kernel) (by decide +kernel)
theorem allAtoms_all (ts : List Jvm.Cond) (a : Array Jvm.Value) (st : Jvm.State) : (allAtoms ts).before a st = ts.all (fun c => c.before a st) := by
  induction ts with
  | nil => rfl
  | cons c t ih =>
    show (Jvm.Cond.and c (allAtoms t)).before a st = _
    rw [Jvm.Cond.before_and, ih, List.all_cons]
def words1 : List Jvm.Cond := Jvm.Cond.code x code maxLocals ret :: tables_1
/-- a 'code' word, met by the world's own term for the bytes: nothing is compared byte by byte -/
theorem code_word {y : MethodName} {bytes : ByteArray} {mx : Nat} {rt : Option FieldType} {a : Array Value} {s : State} {m : MethodId} {meth : Method} {c : Code} (h1 : s.methodNamed? y = some m) (h2 : s.vm.method? m = some meth) (h3 : meth.code = some c) (h4 : c.code = bytes)
    (h5 : (c.maxLocals == mx && c.exceptionTable.isEmpty && decide (c.maxStack ≤ mostOperands) && decide (meth.sig.returnType = rt) && !meth.locks && decide (parseMethodDescriptor y.desc = some meth.sig)) = true) : (Jvm.Cond.code y bytes mx rt).before a s = true := by
  simp only [Bool.and_eq_true, beq_iff_eq, Bool.not_eq_true', decide_eq_true_eq] at h5
  obtain ⟨⟨⟨⟨⟨g1, g2⟩, g3⟩, g4⟩, g5⟩, g6⟩ := h5
  simp [Cond.before, Cond.holds, Cond.value, h1, h2, h3, h4, g1, g2, g3, g4, g5, g6]
def isCode : Jvm.Cond → Bool
  | .code _ _ _ _ => true
  | _ => false
theorem all_split {L : List Jvm.Cond} {P : Jvm.Cond → Bool} (h1 : L.all (fun c => isCode c || P c) = true) (h2 : ∀ c ∈ L.filter isCode, P c = true) : L.all P = true := by
  refine List.all_eq_true.mpr fun c hc => ?_
  have h := List.all_eq_true.mp h1 c hc
  rcases Bool.eq_false_or_eq_true (isCode c) with hi | hi
  · exact h2 c (List.mem_filter.mpr ⟨hc, hi⟩)
  · simpa [hi] using h
set_option maxRecDepth 65536 in
theorem w_c0 : (Jvm.Cond.code x code maxLocals ret).before args0 about1 = true := code_word (m := ⟨1, 1⟩) (meth := k1m1) (c := k1c1) (by decide +kernel) rfl rfl rfl (by decide +kernel)
set_option maxRecDepth 65536 in
theorem w_c1 : (Jvm.Cond.code ({ cls := "com/example/latchless/latchless/engine/Cells", name := "arrayWords", desc := "(I)[Ljava/lang/Object;" } : Jvm.MethodName) prog_48_method_2_code (2 : Nat) (Option.some (Jvm.ClassFile.FieldType.array (Jvm.ClassFile.FieldType.object "java/lang/Object")))).before args0 about1 = true := code_word (m := ⟨2, 1⟩) (meth := k2m1) (c := k2c1) (by decide +kernel) rfl rfl rfl (by decide +kernel)
def codes1 : List Jvm.Cond := [Jvm.Cond.code x code maxLocals ret, Jvm.Cond.code ({ cls := "com/example/latchless/latchless/engine/Cells", name := "arrayWords", desc := "(I)[Ljava/lang/Object;" } : Jvm.MethodName) prog_48_method_2_code (2 : Nat) (Option.some (Jvm.ClassFile.FieldType.array (Jvm.ClassFile.FieldType.object "java/lang/Object")))]
set_option maxRecDepth 65536 in
theorem codes_eq : words1.filter isCode = codes1 := rfl
theorem w_codes : ∀ c ∈ words1.filter isCode, c.before args0 about1 = true := by
  rw [codes_eq]
  intro c hc
  simp only [codes1, List.mem_cons, List.not_mem_nil, or_false] at hc
  rcases hc with rfl | rfl
  · exact w_c0
  · exact w_c1
set_option maxRecDepth 65536 in
theorem w_t1 : words1.all (fun c => isCode c || c.before args0 about1) = true := by decide +kernel
theorem w_tables : (allAtoms (Jvm.Cond.code x code maxLocals ret :: tables_1)).before args0 about1 = true := by
  rw [allAtoms_all]
  show words1.all (fun c => c.before args0 about1) = true
  refine all_split ?_ w_codes
  rw [w_t1]
set_option maxRecDepth 65536 in
theorem w_case : (Jvm.Cond.and given_1 narrow_1).before args0 about1 = true := by decide +kernel
theorem w_applies : (headSpec (Jvm.Cond.code x code maxLocals ret :: tables_1) room_1).applies x e0.platform about1 = true :=
  (Spec.applies_iff w_frames).mpr ⟨w_running, w_runnable, w_alone, w_named, w_hears, w_ripe, w_room, w_tables⟩
theorem atStart : AtStart classFile x code maxLocals ret World_1 tables_1 room_1 Calls_1 rest_1 Pre_1 launch0 p0 e0 about1 theMethod args0 below0 :=
  ⟨lists_1, trivial, launch0.admits_env _ _ _, launch0.least_env, fairChoices_fair.cas, fairChoices_fair.clock, w_frames, w_args, w_heap, w_applies, trivial, trivial, w_case⟩
end start1
theorem witness_1 : WitnessClaimed_1 := ⟨start1.p0, start1.e0, start1.about1, start1.theMethod, start1.args0, start1.below0, start1.atStart⟩
end Jvm.Pilot.@@N@@
