import JvmDerived
import JvmDerived.Pilot.@@N@@Statement
import JvmDerived.Pilot.@@N@@Code
set_option linter.unusedVariables false
set_option linter.unusedSimpArgs false
namespace Jvm.Pilot.@@N@@
open Jvm Jvm.ClassFile Sem Op Lib Jvm.Free Jvm.Stand Jvm.LawKit Jvm.RoadKit Bundle Jvm.Pilot.@@N@@.Jvm.D
/-! the end of a walk, as a goal that forks and joins can be walked under -/
def own_Go (tb : Tables) (e : Env) (below : List Frame) (P : Outcome → State → Prop) (T : State) : Prop := ∃ s₂ o, Steps tb e below T s₂ ∧ s₂.status = .running ∧ Ended s₂ below o ∧ P o s₂
theorem own_by {tb : Tables} {e : Env} {below : List Frame} {P : Outcome → State → Prop} {T T' : State} (h : ∀ t, Steps tb e below T' t → Steps tb e below T t) (g : own_Go tb e below P T') : own_Go tb e below P T := by
  obtain ⟨s2, o, h1, h2⟩ := g
  exact ⟨s2, o, h _ h1, h2⟩
/-! an array by its length and what its places hold -/
def own_Ar (Z : State) (h : Heap) (a : Addr) (ty : FieldType) (n : Int32) (f : Nat → Value) : Prop := ∃ c : Cell, Arr Z h a c ty ∧ c.slots.size = n.toNatClampNeg ∧ ¬ n < 0 ∧ ∀ k, k < c.slots.size → c.slots[k]? = some (f k)
section Arrays
variable {Z : State} {h h' : Heap} {a b : Addr} {ty : FieldType} {n : Int32} {f f' : Nat → Value} {sl : Nat} {v : Value} {ws : List Addr}
theorem own_Ar.lt (V : own_Ar Z h a ty n f) : a < h.size := by obtain ⟨c, A, -⟩ := V; exact A.lt
theorem own_Ar.ext (V : own_Ar Z h a ty n f) (E : Ext h h') : own_Ar Z h' a ty n f := by obtain ⟨c, A, r⟩ := V; exact ⟨c, A.ext E, r⟩
theorem own_Ar.other (V : own_Ar Z h b ty n f) (W : Wr h h' a sl v) (q : b ≠ a) : own_Ar Z h' b ty n f := by obtain ⟨c, A, r⟩ := V; exact ⟨c, A.other W q, r⟩
theorem own_Ar.keep (V : own_Ar Z h a ty n f) (K : Keep h h' ws) (q : a ∉ ws) : own_Ar Z h' a ty n f := by obtain ⟨c, A, r⟩ := V; exact ⟨c, ⟨K.2.1 a c A.1 q, A.2⟩, r⟩
theorem own_Ar.weak (V : own_Ar Z h a ty n f) (q : ∀ k, k < n.toNatClampNeg → f k = f' k) : own_Ar Z h a ty n f' := by
  obtain ⟨c, A, S, M, H⟩ := V
  exact ⟨c, A, S, M, fun k hk => by rw [← q k (S ▸ hk)]; exact H k hk⟩
theorem own_new {k : ClassId} (A : Arr Z h a (newA k ty n) ty) (q : ¬ n < 0) : own_Ar Z h a ty n (fun _ => defaultValue ty) :=
  ⟨_, A, sz_new _ _ _, q, fun i hi => by rw [sz_new] at hi; simp [newA, hi]⟩
theorem own_Ar.set {j : Int32} (V : own_Ar Z h a ty n f) (W : Wr h h' a j.toNatClampNeg v) : own_Ar Z h' a ty n (fun k => if k = j.toNatClampNeg then v else f k) := by
  obtain ⟨c, A, S, M, H⟩ := V
  refine ⟨_, A.same W, by rw [sz_set]; exact S, M, fun k hk => ?_⟩
  rw [sz_set] at hk
  by_cases q : k = j.toNatClampNeg
  · subst q; simp [Cell.setSlot, hk]
  · show _ = some (if k = j.toNatClampNeg then v else f k)
    rw [if_neg q, ← H k hk]
    simp only [Cell.setSlot]
    rw [Array.getElem?_setIfInBounds_ne (Ne.symm q)]
theorem own_Ar.at {j : Int32} (V : own_Ar Z h a ty n f) (q : ¬ j < 0 ∧ j < n) : ∃ c : Cell, Arr Z h a c ty ∧ ¬ (j < 0 ∨ c.slots.size ≤ j.toNatClampNeg) ∧ c.slots[j.toNatClampNeg]? = some (f j.toNatClampNeg) := by
  obtain ⟨c, A, S, M, H⟩ := V
  have hi := inb_of S q
  exact ⟨c, A, hi, H _ (Nat.lt_of_not_le fun y => hi (Or.inr y))⟩
variable {p : Program} {l : Launch} {e : Env} {R : Room} {s : State} {m : MethodId} {args : Array Value} {below : List Frame} {meth : Method} {c : Code} {T : State} {locs : List Loc} {cells slots : Nat}
theorem own_stI (X : Stand p l e R s m args below meth c T locs cells slots) (hx : p.tables.exec = Jvm.exec) (hZ : Z.Warmed39 s.vm) (eT : T.heap = h) (V : own_Ar Z h a .int n f) {j x : Int32} (q : ¬ j < 0 ∧ j < n) {g : JFrame} (hg : g.method = m) {rest : List Value} (hs : g.stack = .int x :: .int j :: .ref a :: rest) (hd : decode c.code g.pc = .ok (.iastore, 1)) :
    ∃ T' h', Stand p l e R s m args below meth c T' (locs ++ [⟨a, j.toNatClampNeg⟩]) cells slots ∧ T'.heap = h' ∧ Wr h h' a j.toNatClampNeg (.int x) ∧ own_Ar Z h' a .int n (fun k => if k = j.toNatClampNeg then .int x else f k) ∧ ∀ target, Steps p.tables e below (T'.setTop { g with pc := g.pc + 1, stack := rest }) target → Steps p.tables e below (T.setTop g) target := by
  obtain ⟨cl, A, hi, -⟩ := V.at q
  obtain ⟨T', h', X', e', W, st⟩ := stI X hx hZ eT A hi hg hs hd
  exact ⟨T', h', X', e', W, V.set W, st⟩
theorem own_stJ (X : Stand p l e R s m args below meth c T locs cells slots) (hx : p.tables.exec = Jvm.exec) (hZ : Z.Warmed39 s.vm) (eT : T.heap = h) (V : own_Ar Z h a .long n f) {j : Int32} {x : Int64} (q : ¬ j < 0 ∧ j < n) {g : JFrame} (hg : g.method = m) {rest : List Value} (hs : g.stack = .long x :: .int j :: .ref a :: rest) (hd : decode c.code g.pc = .ok (.lastore, 1)) :
    ∃ T' h', Stand p l e R s m args below meth c T' (locs ++ [⟨a, j.toNatClampNeg⟩]) cells slots ∧ T'.heap = h' ∧ Wr h h' a j.toNatClampNeg (.long x) ∧ own_Ar Z h' a .long n (fun k => if k = j.toNatClampNeg then .long x else f k) ∧ ∀ target, Steps p.tables e below (T'.setTop { g with pc := g.pc + 1, stack := rest }) target → Steps p.tables e below (T.setTop g) target := by
  obtain ⟨cl, A, hi, -⟩ := V.at q
  obtain ⟨T', h', X', e', W, st⟩ := stJ X hx hZ eT A hi hg hs hd
  exact ⟨T', h', X', e', W, V.set W, st⟩
end Arrays
def own_W (c : Int) : Prop := c = 9 ∨ c = 10 ∨ (32 ≤ c ∧ c ≤ 55295) ∨ (57344 ≤ c ∧ c ≤ 65533) ∨ (65536 ≤ c ∧ c ≤ 1114111)
instance (c : Int) : Decidable (own_W c) := by unfold own_W; infer_instance
def own_wr (c : Int32) : Int32 := if own_W c.toInt then 1 else 0
theorem own_wr1 {c : Int32} (h : own_W c.toInt) : own_wr c = 1 := if_pos h
theorem own_wr0 {c : Int32} (h : ¬ own_W c.toInt) : own_wr c = 0 := if_neg h
theorem own_b0 {b : Int32} {P : Prop} (h : (b = 1 ∧ P) ∨ (b = 0 ∧ ¬ P)) (q : b = 0) : ¬ P := by
  rcases h with ⟨rfl, _⟩ | ⟨_, h⟩
  · exact absurd q (by decide)
  · exact h
theorem own_b1 {b : Int32} {P : Prop} (h : (b = 1 ∧ P) ∨ (b = 0 ∧ ¬ P)) (q : ¬ b = 0) : P := by
  rcases h with ⟨_, h⟩ | ⟨rfl, _⟩
  · exact h
  · exact absurd rfl q
def own_ints (f : Nat → Value) : Prop := ∀ k, ∃ w : Int32, f k = .int w
theorem own_ints_new : own_ints (fun _ => defaultValue .int) := fun _ => ⟨0, rfl⟩
theorem own_ints_set {f : Nat → Value} (I : own_ints f) (j : Nat) (x : Int32) : own_ints (fun k => if k = j then .int x else f k) := fun k => by
  by_cases q : k = j
  · exact ⟨x, if_pos q⟩
  · obtain ⟨w, hw⟩ := I k
    exact ⟨w, (if_neg q).trans hw⟩
theorem own_idx (p : Int32) : ¬ ((p.toUInt32 >>> ((1 : Int32) &&& 31).toUInt32).toInt32) % (18 : Int32) < 0 ∧ ((p.toUInt32 >>> ((1 : Int32) &&& 31).toUInt32).toInt32) % (18 : Int32) < 18 := by
  have h := c_iushr p 1 1 (by decide) (by decide)
  have h2 := (c_irem ((p.toUInt32 >>> ((1 : Int32) &&& 31).toUInt32).toInt32) 18 18 (by decide)).1 (by rw [h]; show 0 ≤ p.toInt % 4294967296 / 2; omega)
  have e0 : (0 : Int32).toInt = 0 := by decide
  have e18 : (18 : Int32).toInt = 18 := by decide
  rw [Int32.lt_iff_toInt_lt, Int32.lt_iff_toInt_lt, h2, e0, e18]
  omega
theorem own_i0 : (0 : Int32).toInt = 0 := by decide
theorem own_i9 : (9 : Int32).toInt = 9 := by decide
theorem own_i10 : (10 : Int32).toInt = 10 := by decide
theorem own_i32 : (32 : Int32).toInt = 32 := by decide
theorem own_i55295 : (55295 : Int32).toInt = 55295 := by decide
theorem own_i55296 : (55296 : Int32).toInt = 55296 := by decide
theorem own_i57343 : (57343 : Int32).toInt = 57343 := by decide
theorem own_i57344 : (57344 : Int32).toInt = 57344 := by decide
theorem own_i65533 : (65533 : Int32).toInt = 65533 := by decide
theorem own_i65534 : (65534 : Int32).toInt = 65534 := by decide
theorem own_i65535 : (65535 : Int32).toInt = 65535 := by decide
theorem own_i65536 : (65536 : Int32).toInt = 65536 := by decide
theorem own_i1114111 : (1114111 : Int32).toInt = 1114111 := by decide
theorem d1_0 : decode prog_28_method_5_code 0 = .ok (.iload_n 0, 1) := by decide +kernel
theorem d1_1 : decode prog_28_method_5_code 1 = .ok (.bipush 9, 2) := by decide +kernel
theorem d1_3 : decode prog_28_method_5_code 3 = .ok (.if_icmp .eq 45, 3) := by decide +kernel
theorem d1_6 : decode prog_28_method_5_code 6 = .ok (.iload_n 0, 1) := by decide +kernel
theorem d1_7 : decode prog_28_method_5_code 7 = .ok (.bipush 10, 2) := by decide +kernel
theorem d1_9 : decode prog_28_method_5_code 9 = .ok (.if_icmp .eq 39, 3) := by decide +kernel
theorem d1_12 : decode prog_28_method_5_code 12 = .ok (.iload_n 0, 1) := by decide +kernel
theorem d1_13 : decode prog_28_method_5_code 13 = .ok (.bipush 32, 2) := by decide +kernel
theorem d1_15 : decode prog_28_method_5_code 15 = .ok (.if_icmp .lt 9, 3) := by decide +kernel
theorem d1_18 : decode prog_28_method_5_code 18 = .ok (.iload_n 0, 1) := by decide +kernel
theorem d1_19 : decode prog_28_method_5_code 19 = .ok (.ldc 85, 2) := by decide +kernel
theorem d1_21 : decode prog_28_method_5_code 21 = .ok (.if_icmp .le 27, 3) := by decide +kernel
theorem d1_24 : decode prog_28_method_5_code 24 = .ok (.iload_n 0, 1) := by decide +kernel
theorem d1_25 : decode prog_28_method_5_code 25 = .ok (.ldc 86, 2) := by decide +kernel
theorem d1_27 : decode prog_28_method_5_code 27 = .ok (.if_icmp .lt 9, 3) := by decide +kernel
theorem d1_30 : decode prog_28_method_5_code 30 = .ok (.iload_n 0, 1) := by decide +kernel
theorem d1_31 : decode prog_28_method_5_code 31 = .ok (.ldc 87, 2) := by decide +kernel
theorem d1_33 : decode prog_28_method_5_code 33 = .ok (.if_icmp .le 15, 3) := by decide +kernel
theorem d1_36 : decode prog_28_method_5_code 36 = .ok (.iload_n 0, 1) := by decide +kernel
theorem d1_37 : decode prog_28_method_5_code 37 = .ok (.ldc 88, 2) := by decide +kernel
theorem d1_39 : decode prog_28_method_5_code 39 = .ok (.if_icmp .lt 13, 3) := by decide +kernel
theorem d1_42 : decode prog_28_method_5_code 42 = .ok (.iload_n 0, 1) := by decide +kernel
theorem d1_43 : decode prog_28_method_5_code 43 = .ok (.ldc 89, 2) := by decide +kernel
theorem d1_45 : decode prog_28_method_5_code 45 = .ok (.if_icmp .gt 7, 3) := by decide +kernel
theorem d1_48 : decode prog_28_method_5_code 48 = .ok (.iconst 1, 1) := by decide +kernel
theorem d1_49 : decode prog_28_method_5_code 49 = .ok (.goto 4, 3) := by decide +kernel
theorem d1_52 : decode prog_28_method_5_code 52 = .ok (.iconst 0, 1) := by decide +kernel
theorem d1_53 : decode prog_28_method_5_code 53 = .ok (.ireturn, 1) := by decide +kernel
theorem pn_1 : plainName "com/example/bordereau/bordereau/XmlOutput" = true := by first | (simp [plainName, overriddenIn]; done) | decide +kernel
theorem ef_1 (m : MethodId) (p1 : Int32) : entryFrame m #[(.int p1)] 1 = mkF m 0 #[.val (.int p1)] [] := by first | (simp [entryFrame, mkF, argsToLocals, Value.category]; done) | rfl
def Q1 (Z : State) (p1 : Int32) (h0 : Heap) (n0 : Nat) (v : Option Value) (h : Heap) (L : List Loc) : Prop := v = some (.int (own_wr p1)) ∧ Fr n0 L ∧ h = h0
abbrev P1 (Z : State) (p1 : Int32) (h0 : Heap) (n0 : Nat) (s : State) : Outcome → State → Prop := fun o U' => ∃ v L, o = .returned v ∧ Q1 Z p1 h0 n0 v U'.heap L ∧ FrameEnd s o U' L ({ frames := 0, cells := 0, slots := 0, locals := 0 } : Room).cells ({ frames := 0, cells := 0, slots := 0, locals := 0 } : Room).slots
set_option maxRecDepth 65536 in
set_option maxHeartbeats 40000000 in
theorem rm1 (l : Launch) (Z : State) (a0 : Array Value) (hw : ∀ d ∈ tables_1, d.before a0 Z = true) (ws : List Jvm.Cond) (p1 : Int32) (h0 : Heap) (n0 : Nat) (Z0 : n0 ≤ h0.size) :
    MetFree l (⟨"com/example/bordereau/bordereau/XmlOutput", "isWritable", "(I)Z"⟩ : MethodName) (head1 (Jvm.Cond.code (⟨"com/example/bordereau/bordereau/XmlOutput", "isWritable", "(I)Z"⟩ : MethodName) prog_28_method_5_code 1 (some .boolean) :: ws) ({ frames := 0, cells := 0, slots := 0, locals := 0 } : Room)) (fun a U => a = #[(.int p1)] ∧ Z.Warmed39 U.vm ∧ U.heap = h0) (fun _ _ _ _ _ => True) (fun _ U o U' => ∃ v L, o = .returned v ∧ Q1 Z p1 h0 n0 v U'.heap L ∧ FrameEnd U o U' L ({ frames := 0, cells := 0, slots := 0, locals := 0 } : Room).cells ({ frames := 0, cells := 0, slots := 0, locals := 0 } : Room).slots) := by
  refine MetFree.of_bodySF (plainFor_of_name pn_1) hisR ?_
  intro p e s m args below meth c s₁ Bd hml0 hP hK
  obtain ⟨rfl, hZ, hh⟩ := hP
  have hx := Bd.exec
  have hby := Bd.bytes
  have hml : c.maxLocals = 1 := hml0
  have hown : s.vm.findClass "com/example/bordereau/bordereau/XmlOutput" = some m.cls := findClass_of_methodNamed Bd.named
  have hnm := (name_of_methodNamed Bd.named Bd.method).1
  have X0 : Stand p l e ({ frames := 0, cells := 0, slots := 0, locals := 0 } : Room) s m #[(.int p1)] below meth c s₁ [] 0 0 := Stand.of_body Bd
  have e0 : s₁.heap = h0 := by rw [← hh, Bd.state]; rfl
  have N0 := Fr.nil n0
  show own_Go p.tables e below (P1 Z p1 h0 n0 s) (s₁.setTop (entryFrame m #[(.int p1)] 1))
  refine own_by (T' := s₁.setTop (mkF m 0 #[.val (.int p1)] [])) (fun t k => castTop (ef_1 m p1) k) ?_
  show own_Go _ _ _ _ (s₁.setTop (mkF m 0 #[.val (.int p1)] []))
  refine own_by (fun t k => XS.iloadN X0.here hx rfl (hb hby d1_0) rfl k) ?_
  show own_Go _ _ _ _ (s₁.setTop (mkF m 1 #[.val (.int p1)] [(.int p1)]))
  refine own_by (fun t k => XS.bipush X0.here hx rfl (hb hby d1_1) k) ?_
  show own_Go _ _ _ _ (s₁.setTop (mkF m 3 #[.val (.int p1)] [(.int (9 : Int32)), (.int p1)]))
  by_cases hc3 : p1 = (9 : Int32)
  · refine own_by (fun t k => XS.icmpYes X0.here hx rfl (pc0 := 3) (pc' := 48) rfl (hb hby d1_3) rfl (teq hc3).1 (by decide) (by decide) k) ?_
    show own_Go _ _ _ _ (s₁.setTop (mkF m 48 #[.val (.int p1)] []))
    refine own_by (fun t k => XS.iconst X0.here hx rfl (hb hby d1_48) k) ?_
    show own_Go _ _ _ _ (s₁.setTop (mkF m 49 #[.val (.int p1)] [(.int (1 : Int32))]))
    refine own_by (fun t k => XS.goto X0.here hx rfl (pc0 := 49) (pc' := 53) rfl (hb hby d1_49) (by decide) (by decide) k) ?_
    show own_Go _ _ _ _ (s₁.setTop (mkF m 53 #[.val (.int p1)] [(.int (1 : Int32))]))
    obtain ⟨fs, hr, hrun, hended, hW, hsame⟩ := X0.leave (v := some (.int (1 : Int32))) (fun h => by rw [Bd.returns] at h; cases h)
    refine ⟨_, _, retN X0 hx (t := .boolean) Bd.returns (by simp) (hb hby d1_53) hr, hrun, hended, _, _, rfl, ?_, ⟨_, rfl⟩, hW, hsame.mono (by decide) (by decide)⟩
    show Q1 Z p1 h0 n0 _ s₁.heap _
    rw [e0]
    refine ⟨?_, N0, rfl⟩
    rw [own_wr1 (c := p1) (by simp only [Int32.lt_iff_toInt_lt, ← Int32.toInt_inj, own_i0, own_i9, own_i10, own_i32, own_i55295, own_i55296, own_i57343, own_i57344, own_i65533, own_i65534, own_i65535, own_i65536, own_i1114111] at hc3; unfold own_W; omega)]
  · refine own_by (fun t k => XS.icmpNo X0.here hx rfl (hb hby d1_3) rfl (feq hc3).1 k) ?_
    show own_Go _ _ _ _ (s₁.setTop (mkF m 6 #[.val (.int p1)] []))
    refine own_by (fun t k => XS.iloadN X0.here hx rfl (hb hby d1_6) rfl k) ?_
    show own_Go _ _ _ _ (s₁.setTop (mkF m 7 #[.val (.int p1)] [(.int p1)]))
    refine own_by (fun t k => XS.bipush X0.here hx rfl (hb hby d1_7) k) ?_
    show own_Go _ _ _ _ (s₁.setTop (mkF m 9 #[.val (.int p1)] [(.int (10 : Int32)), (.int p1)]))
    by_cases hc9 : p1 = (10 : Int32)
    · refine own_by (fun t k => XS.icmpYes X0.here hx rfl (pc0 := 9) (pc' := 48) rfl (hb hby d1_9) rfl (teq hc9).1 (by decide) (by decide) k) ?_
      show own_Go _ _ _ _ (s₁.setTop (mkF m 48 #[.val (.int p1)] []))
      refine own_by (fun t k => XS.iconst X0.here hx rfl (hb hby d1_48) k) ?_
      show own_Go _ _ _ _ (s₁.setTop (mkF m 49 #[.val (.int p1)] [(.int (1 : Int32))]))
      refine own_by (fun t k => XS.goto X0.here hx rfl (pc0 := 49) (pc' := 53) rfl (hb hby d1_49) (by decide) (by decide) k) ?_
      show own_Go _ _ _ _ (s₁.setTop (mkF m 53 #[.val (.int p1)] [(.int (1 : Int32))]))
      obtain ⟨fs, hr, hrun, hended, hW, hsame⟩ := X0.leave (v := some (.int (1 : Int32))) (fun h => by rw [Bd.returns] at h; cases h)
      refine ⟨_, _, retN X0 hx (t := .boolean) Bd.returns (by simp) (hb hby d1_53) hr, hrun, hended, _, _, rfl, ?_, ⟨_, rfl⟩, hW, hsame.mono (by decide) (by decide)⟩
      show Q1 Z p1 h0 n0 _ s₁.heap _
      rw [e0]
      refine ⟨?_, N0, rfl⟩
      rw [own_wr1 (c := p1) (by simp only [Int32.lt_iff_toInt_lt, ← Int32.toInt_inj, own_i0, own_i9, own_i10, own_i32, own_i55295, own_i55296, own_i57343, own_i57344, own_i65533, own_i65534, own_i65535, own_i65536, own_i1114111] at hc3 hc9; unfold own_W; omega)]
    · refine own_by (fun t k => XS.icmpNo X0.here hx rfl (hb hby d1_9) rfl (feq hc9).1 k) ?_
      show own_Go _ _ _ _ (s₁.setTop (mkF m 12 #[.val (.int p1)] []))
      refine own_by (fun t k => XS.iloadN X0.here hx rfl (hb hby d1_12) rfl k) ?_
      show own_Go _ _ _ _ (s₁.setTop (mkF m 13 #[.val (.int p1)] [(.int p1)]))
      refine own_by (fun t k => XS.bipush X0.here hx rfl (hb hby d1_13) k) ?_
      show own_Go _ _ _ _ (s₁.setTop (mkF m 15 #[.val (.int p1)] [(.int (32 : Int32)), (.int p1)]))
      by_cases hc15 : p1 < (32 : Int32)
      · refine own_by (fun t k => XS.icmpYes X0.here hx rfl (pc0 := 15) (pc' := 24) rfl (hb hby d1_15) rfl (tlt hc15).1 (by decide) (by decide) k) ?_
        show own_Go _ _ _ _ (s₁.setTop (mkF m 24 #[.val (.int p1)] []))
        refine own_by (fun t k => XS.iloadN X0.here hx rfl (hb hby d1_24) rfl k) ?_
        show own_Go _ _ _ _ (s₁.setTop (mkF m 25 #[.val (.int p1)] [(.int p1)]))
        refine own_by (fun t k => X0.ldcInt hx hown (mvT hZ (hw _ (List.mem_of_getElem? (i := 17) rfl))) (g := (mkF m 25 #[.val (.int p1)] [(.int p1)])) rfl (hb hby d1_25) _ k) ?_
        show own_Go _ _ _ _ (s₁.setTop (mkF m 27 #[.val (.int p1)] [(.int (57344 : Int32)), (.int p1)]))
        by_cases hc27 : p1 < (57344 : Int32)
        · refine own_by (fun t k => XS.icmpYes X0.here hx rfl (pc0 := 27) (pc' := 36) rfl (hb hby d1_27) rfl (tlt hc27).1 (by decide) (by decide) k) ?_
          show own_Go _ _ _ _ (s₁.setTop (mkF m 36 #[.val (.int p1)] []))
          refine own_by (fun t k => XS.iloadN X0.here hx rfl (hb hby d1_36) rfl k) ?_
          show own_Go _ _ _ _ (s₁.setTop (mkF m 37 #[.val (.int p1)] [(.int p1)]))
          refine own_by (fun t k => X0.ldcInt hx hown (mvT hZ (hw _ (List.mem_of_getElem? (i := 18) rfl))) (g := (mkF m 37 #[.val (.int p1)] [(.int p1)])) rfl (hb hby d1_37) _ k) ?_
          show own_Go _ _ _ _ (s₁.setTop (mkF m 39 #[.val (.int p1)] [(.int (65536 : Int32)), (.int p1)]))
          by_cases hc39 : p1 < (65536 : Int32)
          · refine own_by (fun t k => XS.icmpYes X0.here hx rfl (pc0 := 39) (pc' := 52) rfl (hb hby d1_39) rfl (tlt hc39).1 (by decide) (by decide) k) ?_
            show own_Go _ _ _ _ (s₁.setTop (mkF m 52 #[.val (.int p1)] []))
            refine own_by (fun t k => XS.iconst X0.here hx rfl (hb hby d1_52) k) ?_
            show own_Go _ _ _ _ (s₁.setTop (mkF m 53 #[.val (.int p1)] [(.int (0 : Int32))]))
            obtain ⟨fs, hr, hrun, hended, hW, hsame⟩ := X0.leave (v := some (.int (0 : Int32))) (fun h => by rw [Bd.returns] at h; cases h)
            refine ⟨_, _, retN X0 hx (t := .boolean) Bd.returns (by simp) (hb hby d1_53) hr, hrun, hended, _, _, rfl, ?_, ⟨_, rfl⟩, hW, hsame.mono (by decide) (by decide)⟩
            show Q1 Z p1 h0 n0 _ s₁.heap _
            rw [e0]
            refine ⟨?_, N0, rfl⟩
            rw [own_wr0 (c := p1) (by simp only [Int32.lt_iff_toInt_lt, ← Int32.toInt_inj, own_i0, own_i9, own_i10, own_i32, own_i55295, own_i55296, own_i57343, own_i57344, own_i65533, own_i65534, own_i65535, own_i65536, own_i1114111] at hc3 hc9 hc15 hc27 hc39; unfold own_W; omega)]
          · refine own_by (fun t k => XS.icmpNo X0.here hx rfl (hb hby d1_39) rfl (flt hc39).1 k) ?_
            show own_Go _ _ _ _ (s₁.setTop (mkF m 42 #[.val (.int p1)] []))
            refine own_by (fun t k => XS.iloadN X0.here hx rfl (hb hby d1_42) rfl k) ?_
            show own_Go _ _ _ _ (s₁.setTop (mkF m 43 #[.val (.int p1)] [(.int p1)]))
            refine own_by (fun t k => X0.ldcInt hx hown (mvT hZ (hw _ (List.mem_of_getElem? (i := 25) rfl))) (g := (mkF m 43 #[.val (.int p1)] [(.int p1)])) rfl (hb hby d1_43) _ k) ?_
            show own_Go _ _ _ _ (s₁.setTop (mkF m 45 #[.val (.int p1)] [(.int (1114111 : Int32)), (.int p1)]))
            by_cases hc45 : (1114111 : Int32) < p1
            · refine own_by (fun t k => XS.icmpYes X0.here hx rfl (pc0 := 45) (pc' := 52) rfl (hb hby d1_45) rfl (tlt hc45).2.2.1 (by decide) (by decide) k) ?_
              show own_Go _ _ _ _ (s₁.setTop (mkF m 52 #[.val (.int p1)] []))
              refine own_by (fun t k => XS.iconst X0.here hx rfl (hb hby d1_52) k) ?_
              show own_Go _ _ _ _ (s₁.setTop (mkF m 53 #[.val (.int p1)] [(.int (0 : Int32))]))
              obtain ⟨fs, hr, hrun, hended, hW, hsame⟩ := X0.leave (v := some (.int (0 : Int32))) (fun h => by rw [Bd.returns] at h; cases h)
              refine ⟨_, _, retN X0 hx (t := .boolean) Bd.returns (by simp) (hb hby d1_53) hr, hrun, hended, _, _, rfl, ?_, ⟨_, rfl⟩, hW, hsame.mono (by decide) (by decide)⟩
              show Q1 Z p1 h0 n0 _ s₁.heap _
              rw [e0]
              refine ⟨?_, N0, rfl⟩
              rw [own_wr0 (c := p1) (by simp only [Int32.lt_iff_toInt_lt, ← Int32.toInt_inj, own_i0, own_i9, own_i10, own_i32, own_i55295, own_i55296, own_i57343, own_i57344, own_i65533, own_i65534, own_i65535, own_i65536, own_i1114111] at hc3 hc9 hc15 hc27 hc39 hc45; unfold own_W; omega)]
            · refine own_by (fun t k => XS.icmpNo X0.here hx rfl (hb hby d1_45) rfl (flt hc45).2.2.1 k) ?_
              show own_Go _ _ _ _ (s₁.setTop (mkF m 48 #[.val (.int p1)] []))
              refine own_by (fun t k => XS.iconst X0.here hx rfl (hb hby d1_48) k) ?_
              show own_Go _ _ _ _ (s₁.setTop (mkF m 49 #[.val (.int p1)] [(.int (1 : Int32))]))
              refine own_by (fun t k => XS.goto X0.here hx rfl (pc0 := 49) (pc' := 53) rfl (hb hby d1_49) (by decide) (by decide) k) ?_
              show own_Go _ _ _ _ (s₁.setTop (mkF m 53 #[.val (.int p1)] [(.int (1 : Int32))]))
              obtain ⟨fs, hr, hrun, hended, hW, hsame⟩ := X0.leave (v := some (.int (1 : Int32))) (fun h => by rw [Bd.returns] at h; cases h)
              refine ⟨_, _, retN X0 hx (t := .boolean) Bd.returns (by simp) (hb hby d1_53) hr, hrun, hended, _, _, rfl, ?_, ⟨_, rfl⟩, hW, hsame.mono (by decide) (by decide)⟩
              show Q1 Z p1 h0 n0 _ s₁.heap _
              rw [e0]
              refine ⟨?_, N0, rfl⟩
              rw [own_wr1 (c := p1) (by simp only [Int32.lt_iff_toInt_lt, ← Int32.toInt_inj, own_i0, own_i9, own_i10, own_i32, own_i55295, own_i55296, own_i57343, own_i57344, own_i65533, own_i65534, own_i65535, own_i65536, own_i1114111] at hc3 hc9 hc15 hc27 hc39 hc45; unfold own_W; omega)]
        · refine own_by (fun t k => XS.icmpNo X0.here hx rfl (hb hby d1_27) rfl (flt hc27).1 k) ?_
          show own_Go _ _ _ _ (s₁.setTop (mkF m 30 #[.val (.int p1)] []))
          refine own_by (fun t k => XS.iloadN X0.here hx rfl (hb hby d1_30) rfl k) ?_
          show own_Go _ _ _ _ (s₁.setTop (mkF m 31 #[.val (.int p1)] [(.int p1)]))
          refine own_by (fun t k => X0.ldcInt hx hown (mvT hZ (hw _ (List.mem_of_getElem? (i := 24) rfl))) (g := (mkF m 31 #[.val (.int p1)] [(.int p1)])) rfl (hb hby d1_31) _ k) ?_
          show own_Go _ _ _ _ (s₁.setTop (mkF m 33 #[.val (.int p1)] [(.int (65533 : Int32)), (.int p1)]))
          by_cases hc33 : (65533 : Int32) < p1
          · refine own_by (fun t k => XS.icmpNo X0.here hx rfl (hb hby d1_33) rfl (tlt hc33).2.2.2 k) ?_
            show own_Go _ _ _ _ (s₁.setTop (mkF m 36 #[.val (.int p1)] []))
            refine own_by (fun t k => XS.iloadN X0.here hx rfl (hb hby d1_36) rfl k) ?_
            show own_Go _ _ _ _ (s₁.setTop (mkF m 37 #[.val (.int p1)] [(.int p1)]))
            refine own_by (fun t k => X0.ldcInt hx hown (mvT hZ (hw _ (List.mem_of_getElem? (i := 18) rfl))) (g := (mkF m 37 #[.val (.int p1)] [(.int p1)])) rfl (hb hby d1_37) _ k) ?_
            show own_Go _ _ _ _ (s₁.setTop (mkF m 39 #[.val (.int p1)] [(.int (65536 : Int32)), (.int p1)]))
            by_cases hc39 : p1 < (65536 : Int32)
            · refine own_by (fun t k => XS.icmpYes X0.here hx rfl (pc0 := 39) (pc' := 52) rfl (hb hby d1_39) rfl (tlt hc39).1 (by decide) (by decide) k) ?_
              show own_Go _ _ _ _ (s₁.setTop (mkF m 52 #[.val (.int p1)] []))
              refine own_by (fun t k => XS.iconst X0.here hx rfl (hb hby d1_52) k) ?_
              show own_Go _ _ _ _ (s₁.setTop (mkF m 53 #[.val (.int p1)] [(.int (0 : Int32))]))
              obtain ⟨fs, hr, hrun, hended, hW, hsame⟩ := X0.leave (v := some (.int (0 : Int32))) (fun h => by rw [Bd.returns] at h; cases h)
              refine ⟨_, _, retN X0 hx (t := .boolean) Bd.returns (by simp) (hb hby d1_53) hr, hrun, hended, _, _, rfl, ?_, ⟨_, rfl⟩, hW, hsame.mono (by decide) (by decide)⟩
              show Q1 Z p1 h0 n0 _ s₁.heap _
              rw [e0]
              refine ⟨?_, N0, rfl⟩
              rw [own_wr0 (c := p1) (by simp only [Int32.lt_iff_toInt_lt, ← Int32.toInt_inj, own_i0, own_i9, own_i10, own_i32, own_i55295, own_i55296, own_i57343, own_i57344, own_i65533, own_i65534, own_i65535, own_i65536, own_i1114111] at hc3 hc9 hc15 hc27 hc33 hc39; unfold own_W; omega)]
            · refine own_by (fun t k => XS.icmpNo X0.here hx rfl (hb hby d1_39) rfl (flt hc39).1 k) ?_
              show own_Go _ _ _ _ (s₁.setTop (mkF m 42 #[.val (.int p1)] []))
              refine own_by (fun t k => XS.iloadN X0.here hx rfl (hb hby d1_42) rfl k) ?_
              show own_Go _ _ _ _ (s₁.setTop (mkF m 43 #[.val (.int p1)] [(.int p1)]))
              refine own_by (fun t k => X0.ldcInt hx hown (mvT hZ (hw _ (List.mem_of_getElem? (i := 25) rfl))) (g := (mkF m 43 #[.val (.int p1)] [(.int p1)])) rfl (hb hby d1_43) _ k) ?_
              show own_Go _ _ _ _ (s₁.setTop (mkF m 45 #[.val (.int p1)] [(.int (1114111 : Int32)), (.int p1)]))
              by_cases hc45 : (1114111 : Int32) < p1
              · refine own_by (fun t k => XS.icmpYes X0.here hx rfl (pc0 := 45) (pc' := 52) rfl (hb hby d1_45) rfl (tlt hc45).2.2.1 (by decide) (by decide) k) ?_
                show own_Go _ _ _ _ (s₁.setTop (mkF m 52 #[.val (.int p1)] []))
                refine own_by (fun t k => XS.iconst X0.here hx rfl (hb hby d1_52) k) ?_
                show own_Go _ _ _ _ (s₁.setTop (mkF m 53 #[.val (.int p1)] [(.int (0 : Int32))]))
                obtain ⟨fs, hr, hrun, hended, hW, hsame⟩ := X0.leave (v := some (.int (0 : Int32))) (fun h => by rw [Bd.returns] at h; cases h)
                refine ⟨_, _, retN X0 hx (t := .boolean) Bd.returns (by simp) (hb hby d1_53) hr, hrun, hended, _, _, rfl, ?_, ⟨_, rfl⟩, hW, hsame.mono (by decide) (by decide)⟩
                show Q1 Z p1 h0 n0 _ s₁.heap _
                rw [e0]
                refine ⟨?_, N0, rfl⟩
                rw [own_wr0 (c := p1) (by simp only [Int32.lt_iff_toInt_lt, ← Int32.toInt_inj, own_i0, own_i9, own_i10, own_i32, own_i55295, own_i55296, own_i57343, own_i57344, own_i65533, own_i65534, own_i65535, own_i65536, own_i1114111] at hc3 hc9 hc15 hc27 hc33 hc39 hc45; unfold own_W; omega)]
              · refine own_by (fun t k => XS.icmpNo X0.here hx rfl (hb hby d1_45) rfl (flt hc45).2.2.1 k) ?_
                show own_Go _ _ _ _ (s₁.setTop (mkF m 48 #[.val (.int p1)] []))
                refine own_by (fun t k => XS.iconst X0.here hx rfl (hb hby d1_48) k) ?_
                show own_Go _ _ _ _ (s₁.setTop (mkF m 49 #[.val (.int p1)] [(.int (1 : Int32))]))
                refine own_by (fun t k => XS.goto X0.here hx rfl (pc0 := 49) (pc' := 53) rfl (hb hby d1_49) (by decide) (by decide) k) ?_
                show own_Go _ _ _ _ (s₁.setTop (mkF m 53 #[.val (.int p1)] [(.int (1 : Int32))]))
                obtain ⟨fs, hr, hrun, hended, hW, hsame⟩ := X0.leave (v := some (.int (1 : Int32))) (fun h => by rw [Bd.returns] at h; cases h)
                refine ⟨_, _, retN X0 hx (t := .boolean) Bd.returns (by simp) (hb hby d1_53) hr, hrun, hended, _, _, rfl, ?_, ⟨_, rfl⟩, hW, hsame.mono (by decide) (by decide)⟩
                show Q1 Z p1 h0 n0 _ s₁.heap _
                rw [e0]
                refine ⟨?_, N0, rfl⟩
                rw [own_wr1 (c := p1) (by simp only [Int32.lt_iff_toInt_lt, ← Int32.toInt_inj, own_i0, own_i9, own_i10, own_i32, own_i55295, own_i55296, own_i57343, own_i57344, own_i65533, own_i65534, own_i65535, own_i65536, own_i1114111] at hc3 hc9 hc15 hc27 hc33 hc39 hc45; unfold own_W; omega)]
          · refine own_by (fun t k => XS.icmpYes X0.here hx rfl (pc0 := 33) (pc' := 48) rfl (hb hby d1_33) rfl (flt hc33).2.2.2 (by decide) (by decide) k) ?_
            show own_Go _ _ _ _ (s₁.setTop (mkF m 48 #[.val (.int p1)] []))
            refine own_by (fun t k => XS.iconst X0.here hx rfl (hb hby d1_48) k) ?_
            show own_Go _ _ _ _ (s₁.setTop (mkF m 49 #[.val (.int p1)] [(.int (1 : Int32))]))
            refine own_by (fun t k => XS.goto X0.here hx rfl (pc0 := 49) (pc' := 53) rfl (hb hby d1_49) (by decide) (by decide) k) ?_
            show own_Go _ _ _ _ (s₁.setTop (mkF m 53 #[.val (.int p1)] [(.int (1 : Int32))]))
            obtain ⟨fs, hr, hrun, hended, hW, hsame⟩ := X0.leave (v := some (.int (1 : Int32))) (fun h => by rw [Bd.returns] at h; cases h)
            refine ⟨_, _, retN X0 hx (t := .boolean) Bd.returns (by simp) (hb hby d1_53) hr, hrun, hended, _, _, rfl, ?_, ⟨_, rfl⟩, hW, hsame.mono (by decide) (by decide)⟩
            show Q1 Z p1 h0 n0 _ s₁.heap _
            rw [e0]
            refine ⟨?_, N0, rfl⟩
            rw [own_wr1 (c := p1) (by simp only [Int32.lt_iff_toInt_lt, ← Int32.toInt_inj, own_i0, own_i9, own_i10, own_i32, own_i55295, own_i55296, own_i57343, own_i57344, own_i65533, own_i65534, own_i65535, own_i65536, own_i1114111] at hc3 hc9 hc15 hc27 hc33; unfold own_W; omega)]
      · refine own_by (fun t k => XS.icmpNo X0.here hx rfl (hb hby d1_15) rfl (flt hc15).1 k) ?_
        show own_Go _ _ _ _ (s₁.setTop (mkF m 18 #[.val (.int p1)] []))
        refine own_by (fun t k => XS.iloadN X0.here hx rfl (hb hby d1_18) rfl k) ?_
        show own_Go _ _ _ _ (s₁.setTop (mkF m 19 #[.val (.int p1)] [(.int p1)]))
        refine own_by (fun t k => X0.ldcInt hx hown (mvT hZ (hw _ (List.mem_of_getElem? (i := 23) rfl))) (g := (mkF m 19 #[.val (.int p1)] [(.int p1)])) rfl (hb hby d1_19) _ k) ?_
        show own_Go _ _ _ _ (s₁.setTop (mkF m 21 #[.val (.int p1)] [(.int (55295 : Int32)), (.int p1)]))
        by_cases hc21 : (55295 : Int32) < p1
        · refine own_by (fun t k => XS.icmpNo X0.here hx rfl (hb hby d1_21) rfl (tlt hc21).2.2.2 k) ?_
          show own_Go _ _ _ _ (s₁.setTop (mkF m 24 #[.val (.int p1)] []))
          refine own_by (fun t k => XS.iloadN X0.here hx rfl (hb hby d1_24) rfl k) ?_
          show own_Go _ _ _ _ (s₁.setTop (mkF m 25 #[.val (.int p1)] [(.int p1)]))
          refine own_by (fun t k => X0.ldcInt hx hown (mvT hZ (hw _ (List.mem_of_getElem? (i := 17) rfl))) (g := (mkF m 25 #[.val (.int p1)] [(.int p1)])) rfl (hb hby d1_25) _ k) ?_
          show own_Go _ _ _ _ (s₁.setTop (mkF m 27 #[.val (.int p1)] [(.int (57344 : Int32)), (.int p1)]))
          by_cases hc27 : p1 < (57344 : Int32)
          · refine own_by (fun t k => XS.icmpYes X0.here hx rfl (pc0 := 27) (pc' := 36) rfl (hb hby d1_27) rfl (tlt hc27).1 (by decide) (by decide) k) ?_
            show own_Go _ _ _ _ (s₁.setTop (mkF m 36 #[.val (.int p1)] []))
            refine own_by (fun t k => XS.iloadN X0.here hx rfl (hb hby d1_36) rfl k) ?_
            show own_Go _ _ _ _ (s₁.setTop (mkF m 37 #[.val (.int p1)] [(.int p1)]))
            refine own_by (fun t k => X0.ldcInt hx hown (mvT hZ (hw _ (List.mem_of_getElem? (i := 18) rfl))) (g := (mkF m 37 #[.val (.int p1)] [(.int p1)])) rfl (hb hby d1_37) _ k) ?_
            show own_Go _ _ _ _ (s₁.setTop (mkF m 39 #[.val (.int p1)] [(.int (65536 : Int32)), (.int p1)]))
            by_cases hc39 : p1 < (65536 : Int32)
            · refine own_by (fun t k => XS.icmpYes X0.here hx rfl (pc0 := 39) (pc' := 52) rfl (hb hby d1_39) rfl (tlt hc39).1 (by decide) (by decide) k) ?_
              show own_Go _ _ _ _ (s₁.setTop (mkF m 52 #[.val (.int p1)] []))
              refine own_by (fun t k => XS.iconst X0.here hx rfl (hb hby d1_52) k) ?_
              show own_Go _ _ _ _ (s₁.setTop (mkF m 53 #[.val (.int p1)] [(.int (0 : Int32))]))
              obtain ⟨fs, hr, hrun, hended, hW, hsame⟩ := X0.leave (v := some (.int (0 : Int32))) (fun h => by rw [Bd.returns] at h; cases h)
              refine ⟨_, _, retN X0 hx (t := .boolean) Bd.returns (by simp) (hb hby d1_53) hr, hrun, hended, _, _, rfl, ?_, ⟨_, rfl⟩, hW, hsame.mono (by decide) (by decide)⟩
              show Q1 Z p1 h0 n0 _ s₁.heap _
              rw [e0]
              refine ⟨?_, N0, rfl⟩
              rw [own_wr0 (c := p1) (by simp only [Int32.lt_iff_toInt_lt, ← Int32.toInt_inj, own_i0, own_i9, own_i10, own_i32, own_i55295, own_i55296, own_i57343, own_i57344, own_i65533, own_i65534, own_i65535, own_i65536, own_i1114111] at hc3 hc9 hc15 hc21 hc27 hc39; unfold own_W; omega)]
            · refine own_by (fun t k => XS.icmpNo X0.here hx rfl (hb hby d1_39) rfl (flt hc39).1 k) ?_
              show own_Go _ _ _ _ (s₁.setTop (mkF m 42 #[.val (.int p1)] []))
              refine own_by (fun t k => XS.iloadN X0.here hx rfl (hb hby d1_42) rfl k) ?_
              show own_Go _ _ _ _ (s₁.setTop (mkF m 43 #[.val (.int p1)] [(.int p1)]))
              refine own_by (fun t k => X0.ldcInt hx hown (mvT hZ (hw _ (List.mem_of_getElem? (i := 25) rfl))) (g := (mkF m 43 #[.val (.int p1)] [(.int p1)])) rfl (hb hby d1_43) _ k) ?_
              show own_Go _ _ _ _ (s₁.setTop (mkF m 45 #[.val (.int p1)] [(.int (1114111 : Int32)), (.int p1)]))
              by_cases hc45 : (1114111 : Int32) < p1
              · refine own_by (fun t k => XS.icmpYes X0.here hx rfl (pc0 := 45) (pc' := 52) rfl (hb hby d1_45) rfl (tlt hc45).2.2.1 (by decide) (by decide) k) ?_
                show own_Go _ _ _ _ (s₁.setTop (mkF m 52 #[.val (.int p1)] []))
                refine own_by (fun t k => XS.iconst X0.here hx rfl (hb hby d1_52) k) ?_
                show own_Go _ _ _ _ (s₁.setTop (mkF m 53 #[.val (.int p1)] [(.int (0 : Int32))]))
                obtain ⟨fs, hr, hrun, hended, hW, hsame⟩ := X0.leave (v := some (.int (0 : Int32))) (fun h => by rw [Bd.returns] at h; cases h)
                refine ⟨_, _, retN X0 hx (t := .boolean) Bd.returns (by simp) (hb hby d1_53) hr, hrun, hended, _, _, rfl, ?_, ⟨_, rfl⟩, hW, hsame.mono (by decide) (by decide)⟩
                show Q1 Z p1 h0 n0 _ s₁.heap _
                rw [e0]
                refine ⟨?_, N0, rfl⟩
                rw [own_wr0 (c := p1) (by simp only [Int32.lt_iff_toInt_lt, ← Int32.toInt_inj, own_i0, own_i9, own_i10, own_i32, own_i55295, own_i55296, own_i57343, own_i57344, own_i65533, own_i65534, own_i65535, own_i65536, own_i1114111] at hc3 hc9 hc15 hc21 hc27 hc39 hc45; unfold own_W; omega)]
              · refine own_by (fun t k => XS.icmpNo X0.here hx rfl (hb hby d1_45) rfl (flt hc45).2.2.1 k) ?_
                show own_Go _ _ _ _ (s₁.setTop (mkF m 48 #[.val (.int p1)] []))
                refine own_by (fun t k => XS.iconst X0.here hx rfl (hb hby d1_48) k) ?_
                show own_Go _ _ _ _ (s₁.setTop (mkF m 49 #[.val (.int p1)] [(.int (1 : Int32))]))
                refine own_by (fun t k => XS.goto X0.here hx rfl (pc0 := 49) (pc' := 53) rfl (hb hby d1_49) (by decide) (by decide) k) ?_
                show own_Go _ _ _ _ (s₁.setTop (mkF m 53 #[.val (.int p1)] [(.int (1 : Int32))]))
                obtain ⟨fs, hr, hrun, hended, hW, hsame⟩ := X0.leave (v := some (.int (1 : Int32))) (fun h => by rw [Bd.returns] at h; cases h)
                refine ⟨_, _, retN X0 hx (t := .boolean) Bd.returns (by simp) (hb hby d1_53) hr, hrun, hended, _, _, rfl, ?_, ⟨_, rfl⟩, hW, hsame.mono (by decide) (by decide)⟩
                show Q1 Z p1 h0 n0 _ s₁.heap _
                rw [e0]
                refine ⟨?_, N0, rfl⟩
                rw [own_wr1 (c := p1) (by simp only [Int32.lt_iff_toInt_lt, ← Int32.toInt_inj, own_i0, own_i9, own_i10, own_i32, own_i55295, own_i55296, own_i57343, own_i57344, own_i65533, own_i65534, own_i65535, own_i65536, own_i1114111] at hc3 hc9 hc15 hc21 hc27 hc39 hc45; unfold own_W; omega)]
          · refine own_by (fun t k => XS.icmpNo X0.here hx rfl (hb hby d1_27) rfl (flt hc27).1 k) ?_
            show own_Go _ _ _ _ (s₁.setTop (mkF m 30 #[.val (.int p1)] []))
            refine own_by (fun t k => XS.iloadN X0.here hx rfl (hb hby d1_30) rfl k) ?_
            show own_Go _ _ _ _ (s₁.setTop (mkF m 31 #[.val (.int p1)] [(.int p1)]))
            refine own_by (fun t k => X0.ldcInt hx hown (mvT hZ (hw _ (List.mem_of_getElem? (i := 24) rfl))) (g := (mkF m 31 #[.val (.int p1)] [(.int p1)])) rfl (hb hby d1_31) _ k) ?_
            show own_Go _ _ _ _ (s₁.setTop (mkF m 33 #[.val (.int p1)] [(.int (65533 : Int32)), (.int p1)]))
            by_cases hc33 : (65533 : Int32) < p1
            · refine own_by (fun t k => XS.icmpNo X0.here hx rfl (hb hby d1_33) rfl (tlt hc33).2.2.2 k) ?_
              show own_Go _ _ _ _ (s₁.setTop (mkF m 36 #[.val (.int p1)] []))
              refine own_by (fun t k => XS.iloadN X0.here hx rfl (hb hby d1_36) rfl k) ?_
              show own_Go _ _ _ _ (s₁.setTop (mkF m 37 #[.val (.int p1)] [(.int p1)]))
              refine own_by (fun t k => X0.ldcInt hx hown (mvT hZ (hw _ (List.mem_of_getElem? (i := 18) rfl))) (g := (mkF m 37 #[.val (.int p1)] [(.int p1)])) rfl (hb hby d1_37) _ k) ?_
              show own_Go _ _ _ _ (s₁.setTop (mkF m 39 #[.val (.int p1)] [(.int (65536 : Int32)), (.int p1)]))
              by_cases hc39 : p1 < (65536 : Int32)
              · refine own_by (fun t k => XS.icmpYes X0.here hx rfl (pc0 := 39) (pc' := 52) rfl (hb hby d1_39) rfl (tlt hc39).1 (by decide) (by decide) k) ?_
                show own_Go _ _ _ _ (s₁.setTop (mkF m 52 #[.val (.int p1)] []))
                refine own_by (fun t k => XS.iconst X0.here hx rfl (hb hby d1_52) k) ?_
                show own_Go _ _ _ _ (s₁.setTop (mkF m 53 #[.val (.int p1)] [(.int (0 : Int32))]))
                obtain ⟨fs, hr, hrun, hended, hW, hsame⟩ := X0.leave (v := some (.int (0 : Int32))) (fun h => by rw [Bd.returns] at h; cases h)
                refine ⟨_, _, retN X0 hx (t := .boolean) Bd.returns (by simp) (hb hby d1_53) hr, hrun, hended, _, _, rfl, ?_, ⟨_, rfl⟩, hW, hsame.mono (by decide) (by decide)⟩
                show Q1 Z p1 h0 n0 _ s₁.heap _
                rw [e0]
                refine ⟨?_, N0, rfl⟩
                rw [own_wr0 (c := p1) (by simp only [Int32.lt_iff_toInt_lt, ← Int32.toInt_inj, own_i0, own_i9, own_i10, own_i32, own_i55295, own_i55296, own_i57343, own_i57344, own_i65533, own_i65534, own_i65535, own_i65536, own_i1114111] at hc3 hc9 hc15 hc21 hc27 hc33 hc39; unfold own_W; omega)]
              · refine own_by (fun t k => XS.icmpNo X0.here hx rfl (hb hby d1_39) rfl (flt hc39).1 k) ?_
                show own_Go _ _ _ _ (s₁.setTop (mkF m 42 #[.val (.int p1)] []))
                refine own_by (fun t k => XS.iloadN X0.here hx rfl (hb hby d1_42) rfl k) ?_
                show own_Go _ _ _ _ (s₁.setTop (mkF m 43 #[.val (.int p1)] [(.int p1)]))
                refine own_by (fun t k => X0.ldcInt hx hown (mvT hZ (hw _ (List.mem_of_getElem? (i := 25) rfl))) (g := (mkF m 43 #[.val (.int p1)] [(.int p1)])) rfl (hb hby d1_43) _ k) ?_
                show own_Go _ _ _ _ (s₁.setTop (mkF m 45 #[.val (.int p1)] [(.int (1114111 : Int32)), (.int p1)]))
                by_cases hc45 : (1114111 : Int32) < p1
                · refine own_by (fun t k => XS.icmpYes X0.here hx rfl (pc0 := 45) (pc' := 52) rfl (hb hby d1_45) rfl (tlt hc45).2.2.1 (by decide) (by decide) k) ?_
                  show own_Go _ _ _ _ (s₁.setTop (mkF m 52 #[.val (.int p1)] []))
                  refine own_by (fun t k => XS.iconst X0.here hx rfl (hb hby d1_52) k) ?_
                  show own_Go _ _ _ _ (s₁.setTop (mkF m 53 #[.val (.int p1)] [(.int (0 : Int32))]))
                  obtain ⟨fs, hr, hrun, hended, hW, hsame⟩ := X0.leave (v := some (.int (0 : Int32))) (fun h => by rw [Bd.returns] at h; cases h)
                  refine ⟨_, _, retN X0 hx (t := .boolean) Bd.returns (by simp) (hb hby d1_53) hr, hrun, hended, _, _, rfl, ?_, ⟨_, rfl⟩, hW, hsame.mono (by decide) (by decide)⟩
                  show Q1 Z p1 h0 n0 _ s₁.heap _
                  rw [e0]
                  refine ⟨?_, N0, rfl⟩
                  rw [own_wr0 (c := p1) (by simp only [Int32.lt_iff_toInt_lt, ← Int32.toInt_inj, own_i0, own_i9, own_i10, own_i32, own_i55295, own_i55296, own_i57343, own_i57344, own_i65533, own_i65534, own_i65535, own_i65536, own_i1114111] at hc3 hc9 hc15 hc21 hc27 hc33 hc39 hc45; unfold own_W; omega)]
                · refine own_by (fun t k => XS.icmpNo X0.here hx rfl (hb hby d1_45) rfl (flt hc45).2.2.1 k) ?_
                  show own_Go _ _ _ _ (s₁.setTop (mkF m 48 #[.val (.int p1)] []))
                  refine own_by (fun t k => XS.iconst X0.here hx rfl (hb hby d1_48) k) ?_
                  show own_Go _ _ _ _ (s₁.setTop (mkF m 49 #[.val (.int p1)] [(.int (1 : Int32))]))
                  refine own_by (fun t k => XS.goto X0.here hx rfl (pc0 := 49) (pc' := 53) rfl (hb hby d1_49) (by decide) (by decide) k) ?_
                  show own_Go _ _ _ _ (s₁.setTop (mkF m 53 #[.val (.int p1)] [(.int (1 : Int32))]))
                  obtain ⟨fs, hr, hrun, hended, hW, hsame⟩ := X0.leave (v := some (.int (1 : Int32))) (fun h => by rw [Bd.returns] at h; cases h)
                  refine ⟨_, _, retN X0 hx (t := .boolean) Bd.returns (by simp) (hb hby d1_53) hr, hrun, hended, _, _, rfl, ?_, ⟨_, rfl⟩, hW, hsame.mono (by decide) (by decide)⟩
                  show Q1 Z p1 h0 n0 _ s₁.heap _
                  rw [e0]
                  refine ⟨?_, N0, rfl⟩
                  rw [own_wr1 (c := p1) (by simp only [Int32.lt_iff_toInt_lt, ← Int32.toInt_inj, own_i0, own_i9, own_i10, own_i32, own_i55295, own_i55296, own_i57343, own_i57344, own_i65533, own_i65534, own_i65535, own_i65536, own_i1114111] at hc3 hc9 hc15 hc21 hc27 hc33 hc39 hc45; unfold own_W; omega)]
            · refine own_by (fun t k => XS.icmpYes X0.here hx rfl (pc0 := 33) (pc' := 48) rfl (hb hby d1_33) rfl (flt hc33).2.2.2 (by decide) (by decide) k) ?_
              show own_Go _ _ _ _ (s₁.setTop (mkF m 48 #[.val (.int p1)] []))
              refine own_by (fun t k => XS.iconst X0.here hx rfl (hb hby d1_48) k) ?_
              show own_Go _ _ _ _ (s₁.setTop (mkF m 49 #[.val (.int p1)] [(.int (1 : Int32))]))
              refine own_by (fun t k => XS.goto X0.here hx rfl (pc0 := 49) (pc' := 53) rfl (hb hby d1_49) (by decide) (by decide) k) ?_
              show own_Go _ _ _ _ (s₁.setTop (mkF m 53 #[.val (.int p1)] [(.int (1 : Int32))]))
              obtain ⟨fs, hr, hrun, hended, hW, hsame⟩ := X0.leave (v := some (.int (1 : Int32))) (fun h => by rw [Bd.returns] at h; cases h)
              refine ⟨_, _, retN X0 hx (t := .boolean) Bd.returns (by simp) (hb hby d1_53) hr, hrun, hended, _, _, rfl, ?_, ⟨_, rfl⟩, hW, hsame.mono (by decide) (by decide)⟩
              show Q1 Z p1 h0 n0 _ s₁.heap _
              rw [e0]
              refine ⟨?_, N0, rfl⟩
              rw [own_wr1 (c := p1) (by simp only [Int32.lt_iff_toInt_lt, ← Int32.toInt_inj, own_i0, own_i9, own_i10, own_i32, own_i55295, own_i55296, own_i57343, own_i57344, own_i65533, own_i65534, own_i65535, own_i65536, own_i1114111] at hc3 hc9 hc15 hc21 hc27 hc33; unfold own_W; omega)]
        · refine own_by (fun t k => XS.icmpYes X0.here hx rfl (pc0 := 21) (pc' := 48) rfl (hb hby d1_21) rfl (flt hc21).2.2.2 (by decide) (by decide) k) ?_
          show own_Go _ _ _ _ (s₁.setTop (mkF m 48 #[.val (.int p1)] []))
          refine own_by (fun t k => XS.iconst X0.here hx rfl (hb hby d1_48) k) ?_
          show own_Go _ _ _ _ (s₁.setTop (mkF m 49 #[.val (.int p1)] [(.int (1 : Int32))]))
          refine own_by (fun t k => XS.goto X0.here hx rfl (pc0 := 49) (pc' := 53) rfl (hb hby d1_49) (by decide) (by decide) k) ?_
          show own_Go _ _ _ _ (s₁.setTop (mkF m 53 #[.val (.int p1)] [(.int (1 : Int32))]))
          obtain ⟨fs, hr, hrun, hended, hW, hsame⟩ := X0.leave (v := some (.int (1 : Int32))) (fun h => by rw [Bd.returns] at h; cases h)
          refine ⟨_, _, retN X0 hx (t := .boolean) Bd.returns (by simp) (hb hby d1_53) hr, hrun, hended, _, _, rfl, ?_, ⟨_, rfl⟩, hW, hsame.mono (by decide) (by decide)⟩
          show Q1 Z p1 h0 n0 _ s₁.heap _
          rw [e0]
          refine ⟨?_, N0, rfl⟩
          rw [own_wr1 (c := p1) (by simp only [Int32.lt_iff_toInt_lt, ← Int32.toInt_inj, own_i0, own_i9, own_i10, own_i32, own_i55295, own_i55296, own_i57343, own_i57344, own_i65533, own_i65534, own_i65535, own_i65536, own_i1114111] at hc3 hc9 hc15 hc21; unfold own_W; omega)]
theorem d2_0 : decode method_3_code 0 = .ok (.iload_n 0, 1) := by decide +kernel
theorem d2_1 : decode method_3_code 1 = .ok (.ifCond .lt 13, 3) := by decide +kernel
theorem d2_4 : decode method_3_code 4 = .ok (.iload_n 0, 1) := by decide +kernel
theorem d2_5 : decode method_3_code 5 = .ok (.ldc 15, 2) := by decide +kernel
theorem d2_7 : decode method_3_code 7 = .ok (.if_icmp .gt 7, 3) := by decide +kernel
theorem d2_10 : decode method_3_code 10 = .ok (.iconst 1, 1) := by decide +kernel
theorem d2_11 : decode method_3_code 11 = .ok (.goto 4, 3) := by decide +kernel
theorem d2_14 : decode method_3_code 14 = .ok (.iconst 0, 1) := by decide +kernel
theorem d2_15 : decode method_3_code 15 = .ok (.istore_n 1, 1) := by decide +kernel
theorem d2_16 : decode method_3_code 16 = .ok (.iload_n 0, 1) := by decide +kernel
theorem d2_17 : decode method_3_code 17 = .ok (.bipush 32, 2) := by decide +kernel
theorem d2_19 : decode method_3_code 19 = .ok (.if_icmp .ge 19, 3) := by decide +kernel
theorem d2_22 : decode method_3_code 22 = .ok (.iload_n 0, 1) := by decide +kernel
theorem d2_23 : decode method_3_code 23 = .ok (.bipush 9, 2) := by decide +kernel
theorem d2_25 : decode method_3_code 25 = .ok (.if_icmp .eq 13, 3) := by decide +kernel
theorem d2_28 : decode method_3_code 28 = .ok (.iload_n 0, 1) := by decide +kernel
theorem d2_29 : decode method_3_code 29 = .ok (.bipush 10, 2) := by decide +kernel
theorem d2_31 : decode method_3_code 31 = .ok (.if_icmp .eq 7, 3) := by decide +kernel
theorem d2_34 : decode method_3_code 34 = .ok (.iconst 1, 1) := by decide +kernel
theorem d2_35 : decode method_3_code 35 = .ok (.goto 4, 3) := by decide +kernel
theorem d2_38 : decode method_3_code 38 = .ok (.iconst 0, 1) := by decide +kernel
theorem d2_39 : decode method_3_code 39 = .ok (.istore_n 2, 1) := by decide +kernel
theorem d2_40 : decode method_3_code 40 = .ok (.iload_n 0, 1) := by decide +kernel
theorem d2_41 : decode method_3_code 41 = .ok (.ldc 8, 2) := by decide +kernel
theorem d2_43 : decode method_3_code 43 = .ok (.if_icmp .lt 13, 3) := by decide +kernel
theorem d2_46 : decode method_3_code 46 = .ok (.iload_n 0, 1) := by decide +kernel
theorem d2_47 : decode method_3_code 47 = .ok (.ldc 9, 2) := by decide +kernel
theorem d2_49 : decode method_3_code 49 = .ok (.if_icmp .gt 7, 3) := by decide +kernel
theorem d2_52 : decode method_3_code 52 = .ok (.iconst 1, 1) := by decide +kernel
theorem d2_53 : decode method_3_code 53 = .ok (.goto 4, 3) := by decide +kernel
theorem d2_56 : decode method_3_code 56 = .ok (.iconst 0, 1) := by decide +kernel
theorem d2_57 : decode method_3_code 57 = .ok (.istore_n 3, 1) := by decide +kernel
theorem d2_58 : decode method_3_code 58 = .ok (.iload_n 0, 1) := by decide +kernel
theorem d2_59 : decode method_3_code 59 = .ok (.ldc 12, 2) := by decide +kernel
theorem d2_61 : decode method_3_code 61 = .ok (.if_icmp .eq 9, 3) := by decide +kernel
theorem d2_64 : decode method_3_code 64 = .ok (.iload_n 0, 1) := by decide +kernel
theorem d2_65 : decode method_3_code 65 = .ok (.ldc 13, 2) := by decide +kernel
theorem d2_67 : decode method_3_code 67 = .ok (.if_icmp .ne 7, 3) := by decide +kernel
theorem d2_70 : decode method_3_code 70 = .ok (.iconst 1, 1) := by decide +kernel
theorem d2_71 : decode method_3_code 71 = .ok (.goto 4, 3) := by decide +kernel
theorem d2_74 : decode method_3_code 74 = .ok (.iconst 0, 1) := by decide +kernel
theorem d2_75 : decode method_3_code 75 = .ok (.istore 4, 2) := by decide +kernel
theorem d2_77 : decode method_3_code 77 = .ok (.iload_n 1, 1) := by decide +kernel
theorem d2_78 : decode method_3_code 78 = .ok (.ifCond .eq 20, 3) := by decide +kernel
theorem d2_81 : decode method_3_code 81 = .ok (.iload_n 2, 1) := by decide +kernel
theorem d2_82 : decode method_3_code 82 = .ok (.ifCond .ne 16, 3) := by decide +kernel
theorem d2_85 : decode method_3_code 85 = .ok (.iload_n 3, 1) := by decide +kernel
theorem d2_86 : decode method_3_code 86 = .ok (.ifCond .ne 12, 3) := by decide +kernel
theorem d2_89 : decode method_3_code 89 = .ok (.iload 4, 2) := by decide +kernel
theorem d2_91 : decode method_3_code 91 = .ok (.ifCond .ne 7, 3) := by decide +kernel
theorem d2_94 : decode method_3_code 94 = .ok (.iconst 1, 1) := by decide +kernel
theorem d2_95 : decode method_3_code 95 = .ok (.goto 4, 3) := by decide +kernel
theorem d2_98 : decode method_3_code 98 = .ok (.iconst 0, 1) := by decide +kernel
theorem d2_99 : decode method_3_code 99 = .ok (.ireturn, 1) := by decide +kernel
theorem pn_2 : plainName "com/example/bordereau/bordereau/XmlOutputIsWritablePinLaw" = true := by first | (simp [plainName, overriddenIn]; done) | decide +kernel
theorem ef_2 (m : MethodId) (p1 : Int32) : entryFrame m #[(.int p1)] 5 = mkF m 0 #[.val (.int p1), .unset, .unset, .unset, .unset] [] := by first | (simp [entryFrame, mkF, argsToLocals, Value.category]; done) | rfl
def Q2 (Z : State) (p1 : Int32) (h0 : Heap) (n0 : Nat) (v : Option Value) (h : Heap) (L : List Loc) : Prop := v = some (.int (own_wr p1)) ∧ Fr n0 L ∧ h = h0
abbrev P2 (Z : State) (p1 : Int32) (h0 : Heap) (n0 : Nat) (s : State) : Outcome → State → Prop := fun o U' => ∃ v L, o = .returned v ∧ Q2 Z p1 h0 n0 v U'.heap L ∧ FrameEnd s o U' L ({ frames := 0, cells := 0, slots := 0, locals := 0 } : Room).cells ({ frames := 0, cells := 0, slots := 0, locals := 0 } : Room).slots
set_option maxRecDepth 65536 in
set_option maxHeartbeats 40000000 in
theorem rm2 (l : Launch) (Z : State) (a0 : Array Value) (hw : ∀ d ∈ tables_1, d.before a0 Z = true) (ws : List Jvm.Cond) (p1 : Int32) (h0 : Heap) (n0 : Nat) (Z0 : n0 ≤ h0.size) :
    MetFree l (⟨"com/example/bordereau/bordereau/XmlOutputIsWritablePinLaw", "expected", "(I)Z"⟩ : MethodName) (head1 (Jvm.Cond.code (⟨"com/example/bordereau/bordereau/XmlOutputIsWritablePinLaw", "expected", "(I)Z"⟩ : MethodName) method_3_code 5 (some .boolean) :: ws) ({ frames := 0, cells := 0, slots := 0, locals := 0 } : Room)) (fun a U => a = #[(.int p1)] ∧ Z.Warmed39 U.vm ∧ U.heap = h0) (fun _ _ _ _ _ => True) (fun _ U o U' => ∃ v L, o = .returned v ∧ Q2 Z p1 h0 n0 v U'.heap L ∧ FrameEnd U o U' L ({ frames := 0, cells := 0, slots := 0, locals := 0 } : Room).cells ({ frames := 0, cells := 0, slots := 0, locals := 0 } : Room).slots) := by
  refine MetFree.of_bodySF (plainFor_of_name pn_2) hisR ?_
  intro p e s m args below meth c s₁ Bd hml0 hP hK
  obtain ⟨rfl, hZ, hh⟩ := hP
  have hx := Bd.exec
  have hby := Bd.bytes
  have hml : c.maxLocals = 5 := hml0
  have hown : s.vm.findClass "com/example/bordereau/bordereau/XmlOutputIsWritablePinLaw" = some m.cls := findClass_of_methodNamed Bd.named
  have hnm := (name_of_methodNamed Bd.named Bd.method).1
  have X0 : Stand p l e ({ frames := 0, cells := 0, slots := 0, locals := 0 } : Room) s m #[(.int p1)] below meth c s₁ [] 0 0 := Stand.of_body Bd
  have e0 : s₁.heap = h0 := by rw [← hh, Bd.state]; rfl
  have N0 := Fr.nil n0
  show own_Go p.tables e below (P2 Z p1 h0 n0 s) (s₁.setTop (entryFrame m #[(.int p1)] 5))
  refine own_by (T' := s₁.setTop (mkF m 0 #[.val (.int p1), .unset, .unset, .unset, .unset] [])) (fun t k => castTop (ef_2 m p1) k) ?_
  show own_Go _ _ _ _ (s₁.setTop (mkF m 0 #[.val (.int p1), .unset, .unset, .unset, .unset] []))
  have J15 : ∀ b1 : Int32, (b1 = 1 ∧ (0 ≤ p1.toInt ∧ p1.toInt ≤ 1114111)) ∨ (b1 = 0 ∧ ¬ (0 ≤ p1.toInt ∧ p1.toInt ≤ 1114111)) → own_Go p.tables e below (P2 Z p1 h0 n0 s) (s₁.setTop (mkF m 15 #[.val (.int p1), .unset, .unset, .unset, .unset] [(.int b1)])) := by
    intro b1 hb1
    show own_Go _ _ _ _ (s₁.setTop (mkF m 15 #[.val (.int p1), .unset, .unset, .unset, .unset] [(.int b1)]))
    refine own_by (fun t k => XS.istoreN X0.here hx rfl (hb hby d2_15) rfl (l' := #[.val (.int p1), .val (.int b1), .unset, .unset, .unset]) rfl k) ?_
    show own_Go _ _ _ _ (s₁.setTop (mkF m 16 #[.val (.int p1), .val (.int b1), .unset, .unset, .unset] []))
    have J39 : ∀ b2 : Int32, (b2 = 1 ∧ (p1.toInt < 32 ∧ ¬ p1.toInt = 9 ∧ ¬ p1.toInt = 10)) ∨ (b2 = 0 ∧ ¬ (p1.toInt < 32 ∧ ¬ p1.toInt = 9 ∧ ¬ p1.toInt = 10)) → own_Go p.tables e below (P2 Z p1 h0 n0 s) (s₁.setTop (mkF m 39 #[.val (.int p1), .val (.int b1), .unset, .unset, .unset] [(.int b2)])) := by
      intro b2 hb2
      show own_Go _ _ _ _ (s₁.setTop (mkF m 39 #[.val (.int p1), .val (.int b1), .unset, .unset, .unset] [(.int b2)]))
      refine own_by (fun t k => XS.istoreN X0.here hx rfl (hb hby d2_39) rfl (l' := #[.val (.int p1), .val (.int b1), .val (.int b2), .unset, .unset]) rfl k) ?_
      show own_Go _ _ _ _ (s₁.setTop (mkF m 40 #[.val (.int p1), .val (.int b1), .val (.int b2), .unset, .unset] []))
      have J57 : ∀ b3 : Int32, (b3 = 1 ∧ (55296 ≤ p1.toInt ∧ p1.toInt ≤ 57343)) ∨ (b3 = 0 ∧ ¬ (55296 ≤ p1.toInt ∧ p1.toInt ≤ 57343)) → own_Go p.tables e below (P2 Z p1 h0 n0 s) (s₁.setTop (mkF m 57 #[.val (.int p1), .val (.int b1), .val (.int b2), .unset, .unset] [(.int b3)])) := by
        intro b3 hb3
        show own_Go _ _ _ _ (s₁.setTop (mkF m 57 #[.val (.int p1), .val (.int b1), .val (.int b2), .unset, .unset] [(.int b3)]))
        refine own_by (fun t k => XS.istoreN X0.here hx rfl (hb hby d2_57) rfl (l' := #[.val (.int p1), .val (.int b1), .val (.int b2), .val (.int b3), .unset]) rfl k) ?_
        show own_Go _ _ _ _ (s₁.setTop (mkF m 58 #[.val (.int p1), .val (.int b1), .val (.int b2), .val (.int b3), .unset] []))
        have J75 : ∀ b4 : Int32, (b4 = 1 ∧ (p1.toInt = 65534 ∨ p1.toInt = 65535)) ∨ (b4 = 0 ∧ ¬ (p1.toInt = 65534 ∨ p1.toInt = 65535)) → own_Go p.tables e below (P2 Z p1 h0 n0 s) (s₁.setTop (mkF m 75 #[.val (.int p1), .val (.int b1), .val (.int b2), .val (.int b3), .unset] [(.int b4)])) := by
          intro b4 hb4
          show own_Go _ _ _ _ (s₁.setTop (mkF m 75 #[.val (.int p1), .val (.int b1), .val (.int b2), .val (.int b3), .unset] [(.int b4)]))
          refine own_by (fun t k => XS.istore X0.here hx rfl (hb hby d2_75) rfl (l' := #[.val (.int p1), .val (.int b1), .val (.int b2), .val (.int b3), .val (.int b4)]) rfl k) ?_
          show own_Go _ _ _ _ (s₁.setTop (mkF m 77 #[.val (.int p1), .val (.int b1), .val (.int b2), .val (.int b3), .val (.int b4)] []))
          refine own_by (fun t k => XS.iloadN X0.here hx rfl (hb hby d2_77) rfl k) ?_
          show own_Go _ _ _ _ (s₁.setTop (mkF m 78 #[.val (.int p1), .val (.int b1), .val (.int b2), .val (.int b3), .val (.int b4)] [(.int b1)]))
          by_cases hc78 : b1 = (0 : Int32)
          · refine own_by (fun t k => XS.ifYes X0.here hx rfl (pc0 := 78) (pc' := 98) rfl (hb hby d2_78) rfl ((if0 _ _).trans (teq hc78).1) (by decide) (by decide) k) ?_
            show own_Go _ _ _ _ (s₁.setTop (mkF m 98 #[.val (.int p1), .val (.int b1), .val (.int b2), .val (.int b3), .val (.int b4)] []))
            refine own_by (fun t k => XS.iconst X0.here hx rfl (hb hby d2_98) k) ?_
            show own_Go _ _ _ _ (s₁.setTop (mkF m 99 #[.val (.int p1), .val (.int b1), .val (.int b2), .val (.int b3), .val (.int b4)] [(.int (0 : Int32))]))
            obtain ⟨fs, hr, hrun, hended, hW, hsame⟩ := X0.leave (v := some (.int (0 : Int32))) (fun h => by rw [Bd.returns] at h; cases h)
            refine ⟨_, _, retN X0 hx (t := .boolean) Bd.returns (by simp) (hb hby d2_99) hr, hrun, hended, _, _, rfl, ?_, ⟨_, rfl⟩, hW, hsame.mono (by decide) (by decide)⟩
            show Q2 Z p1 h0 n0 _ s₁.heap _
            rw [e0]
            have u1 := own_b0 hb1 hc78
            refine ⟨?_, N0, rfl⟩
            rw [own_wr0 (c := p1) (by unfold own_W; omega)]
          · refine own_by (fun t k => XS.ifNo X0.here hx rfl (hb hby d2_78) rfl ((if0 _ _).trans (feq hc78).1) k) ?_
            show own_Go _ _ _ _ (s₁.setTop (mkF m 81 #[.val (.int p1), .val (.int b1), .val (.int b2), .val (.int b3), .val (.int b4)] []))
            refine own_by (fun t k => XS.iloadN X0.here hx rfl (hb hby d2_81) rfl k) ?_
            show own_Go _ _ _ _ (s₁.setTop (mkF m 82 #[.val (.int p1), .val (.int b1), .val (.int b2), .val (.int b3), .val (.int b4)] [(.int b2)]))
            by_cases hc82 : b2 = (0 : Int32)
            · refine own_by (fun t k => XS.ifNo X0.here hx rfl (hb hby d2_82) rfl ((if0 _ _).trans (teq hc82).2) k) ?_
              show own_Go _ _ _ _ (s₁.setTop (mkF m 85 #[.val (.int p1), .val (.int b1), .val (.int b2), .val (.int b3), .val (.int b4)] []))
              refine own_by (fun t k => XS.iloadN X0.here hx rfl (hb hby d2_85) rfl k) ?_
              show own_Go _ _ _ _ (s₁.setTop (mkF m 86 #[.val (.int p1), .val (.int b1), .val (.int b2), .val (.int b3), .val (.int b4)] [(.int b3)]))
              by_cases hc86 : b3 = (0 : Int32)
              · refine own_by (fun t k => XS.ifNo X0.here hx rfl (hb hby d2_86) rfl ((if0 _ _).trans (teq hc86).2) k) ?_
                show own_Go _ _ _ _ (s₁.setTop (mkF m 89 #[.val (.int p1), .val (.int b1), .val (.int b2), .val (.int b3), .val (.int b4)] []))
                refine own_by (fun t k => XS.iload X0.here hx rfl (hb hby d2_89) rfl k) ?_
                show own_Go _ _ _ _ (s₁.setTop (mkF m 91 #[.val (.int p1), .val (.int b1), .val (.int b2), .val (.int b3), .val (.int b4)] [(.int b4)]))
                by_cases hc91 : b4 = (0 : Int32)
                · refine own_by (fun t k => XS.ifNo X0.here hx rfl (hb hby d2_91) rfl ((if0 _ _).trans (teq hc91).2) k) ?_
                  show own_Go _ _ _ _ (s₁.setTop (mkF m 94 #[.val (.int p1), .val (.int b1), .val (.int b2), .val (.int b3), .val (.int b4)] []))
                  refine own_by (fun t k => XS.iconst X0.here hx rfl (hb hby d2_94) k) ?_
                  show own_Go _ _ _ _ (s₁.setTop (mkF m 95 #[.val (.int p1), .val (.int b1), .val (.int b2), .val (.int b3), .val (.int b4)] [(.int (1 : Int32))]))
                  refine own_by (fun t k => XS.goto X0.here hx rfl (pc0 := 95) (pc' := 99) rfl (hb hby d2_95) (by decide) (by decide) k) ?_
                  show own_Go _ _ _ _ (s₁.setTop (mkF m 99 #[.val (.int p1), .val (.int b1), .val (.int b2), .val (.int b3), .val (.int b4)] [(.int (1 : Int32))]))
                  obtain ⟨fs, hr, hrun, hended, hW, hsame⟩ := X0.leave (v := some (.int (1 : Int32))) (fun h => by rw [Bd.returns] at h; cases h)
                  refine ⟨_, _, retN X0 hx (t := .boolean) Bd.returns (by simp) (hb hby d2_99) hr, hrun, hended, _, _, rfl, ?_, ⟨_, rfl⟩, hW, hsame.mono (by decide) (by decide)⟩
                  show Q2 Z p1 h0 n0 _ s₁.heap _
                  rw [e0]
                  have u1 := own_b1 hb1 hc78
                  have u2 := own_b0 hb2 hc82
                  have u3 := own_b0 hb3 hc86
                  have u4 := own_b0 hb4 hc91
                  refine ⟨?_, N0, rfl⟩
                  rw [own_wr1 (c := p1) (by unfold own_W; omega)]
                · refine own_by (fun t k => XS.ifYes X0.here hx rfl (pc0 := 91) (pc' := 98) rfl (hb hby d2_91) rfl ((if0 _ _).trans (feq hc91).2) (by decide) (by decide) k) ?_
                  show own_Go _ _ _ _ (s₁.setTop (mkF m 98 #[.val (.int p1), .val (.int b1), .val (.int b2), .val (.int b3), .val (.int b4)] []))
                  refine own_by (fun t k => XS.iconst X0.here hx rfl (hb hby d2_98) k) ?_
                  show own_Go _ _ _ _ (s₁.setTop (mkF m 99 #[.val (.int p1), .val (.int b1), .val (.int b2), .val (.int b3), .val (.int b4)] [(.int (0 : Int32))]))
                  obtain ⟨fs, hr, hrun, hended, hW, hsame⟩ := X0.leave (v := some (.int (0 : Int32))) (fun h => by rw [Bd.returns] at h; cases h)
                  refine ⟨_, _, retN X0 hx (t := .boolean) Bd.returns (by simp) (hb hby d2_99) hr, hrun, hended, _, _, rfl, ?_, ⟨_, rfl⟩, hW, hsame.mono (by decide) (by decide)⟩
                  show Q2 Z p1 h0 n0 _ s₁.heap _
                  rw [e0]
                  have u1 := own_b1 hb1 hc78
                  have u2 := own_b0 hb2 hc82
                  have u3 := own_b0 hb3 hc86
                  have u4 := own_b1 hb4 hc91
                  refine ⟨?_, N0, rfl⟩
                  rw [own_wr0 (c := p1) (by unfold own_W; omega)]
              · refine own_by (fun t k => XS.ifYes X0.here hx rfl (pc0 := 86) (pc' := 98) rfl (hb hby d2_86) rfl ((if0 _ _).trans (feq hc86).2) (by decide) (by decide) k) ?_
                show own_Go _ _ _ _ (s₁.setTop (mkF m 98 #[.val (.int p1), .val (.int b1), .val (.int b2), .val (.int b3), .val (.int b4)] []))
                refine own_by (fun t k => XS.iconst X0.here hx rfl (hb hby d2_98) k) ?_
                show own_Go _ _ _ _ (s₁.setTop (mkF m 99 #[.val (.int p1), .val (.int b1), .val (.int b2), .val (.int b3), .val (.int b4)] [(.int (0 : Int32))]))
                obtain ⟨fs, hr, hrun, hended, hW, hsame⟩ := X0.leave (v := some (.int (0 : Int32))) (fun h => by rw [Bd.returns] at h; cases h)
                refine ⟨_, _, retN X0 hx (t := .boolean) Bd.returns (by simp) (hb hby d2_99) hr, hrun, hended, _, _, rfl, ?_, ⟨_, rfl⟩, hW, hsame.mono (by decide) (by decide)⟩
                show Q2 Z p1 h0 n0 _ s₁.heap _
                rw [e0]
                have u1 := own_b1 hb1 hc78
                have u2 := own_b0 hb2 hc82
                have u3 := own_b1 hb3 hc86
                refine ⟨?_, N0, rfl⟩
                rw [own_wr0 (c := p1) (by unfold own_W; omega)]
            · refine own_by (fun t k => XS.ifYes X0.here hx rfl (pc0 := 82) (pc' := 98) rfl (hb hby d2_82) rfl ((if0 _ _).trans (feq hc82).2) (by decide) (by decide) k) ?_
              show own_Go _ _ _ _ (s₁.setTop (mkF m 98 #[.val (.int p1), .val (.int b1), .val (.int b2), .val (.int b3), .val (.int b4)] []))
              refine own_by (fun t k => XS.iconst X0.here hx rfl (hb hby d2_98) k) ?_
              show own_Go _ _ _ _ (s₁.setTop (mkF m 99 #[.val (.int p1), .val (.int b1), .val (.int b2), .val (.int b3), .val (.int b4)] [(.int (0 : Int32))]))
              obtain ⟨fs, hr, hrun, hended, hW, hsame⟩ := X0.leave (v := some (.int (0 : Int32))) (fun h => by rw [Bd.returns] at h; cases h)
              refine ⟨_, _, retN X0 hx (t := .boolean) Bd.returns (by simp) (hb hby d2_99) hr, hrun, hended, _, _, rfl, ?_, ⟨_, rfl⟩, hW, hsame.mono (by decide) (by decide)⟩
              show Q2 Z p1 h0 n0 _ s₁.heap _
              rw [e0]
              have u1 := own_b1 hb1 hc78
              have u2 := own_b1 hb2 hc82
              refine ⟨?_, N0, rfl⟩
              rw [own_wr0 (c := p1) (by unfold own_W; omega)]
        show own_Go _ _ _ _ (s₁.setTop (mkF m 58 #[.val (.int p1), .val (.int b1), .val (.int b2), .val (.int b3), .unset] []))
        refine own_by (fun t k => XS.iloadN X0.here hx rfl (hb hby d2_58) rfl k) ?_
        show own_Go _ _ _ _ (s₁.setTop (mkF m 59 #[.val (.int p1), .val (.int b1), .val (.int b2), .val (.int b3), .unset] [(.int p1)]))
        refine own_by (fun t k => X0.ldcInt hx hown (mvT hZ (hw _ (List.mem_of_getElem? (i := 6) rfl))) (g := (mkF m 59 #[.val (.int p1), .val (.int b1), .val (.int b2), .val (.int b3), .unset] [(.int p1)])) rfl (hb hby d2_59) _ k) ?_
        show own_Go _ _ _ _ (s₁.setTop (mkF m 61 #[.val (.int p1), .val (.int b1), .val (.int b2), .val (.int b3), .unset] [(.int (65534 : Int32)), (.int p1)]))
        by_cases hc61 : p1 = (65534 : Int32)
        · refine own_by (fun t k => XS.icmpYes X0.here hx rfl (pc0 := 61) (pc' := 70) rfl (hb hby d2_61) rfl (teq hc61).1 (by decide) (by decide) k) ?_
          show own_Go _ _ _ _ (s₁.setTop (mkF m 70 #[.val (.int p1), .val (.int b1), .val (.int b2), .val (.int b3), .unset] []))
          refine own_by (fun t k => XS.iconst X0.here hx rfl (hb hby d2_70) k) ?_
          show own_Go _ _ _ _ (s₁.setTop (mkF m 71 #[.val (.int p1), .val (.int b1), .val (.int b2), .val (.int b3), .unset] [(.int (1 : Int32))]))
          refine own_by (fun t k => XS.goto X0.here hx rfl (pc0 := 71) (pc' := 75) rfl (hb hby d2_71) (by decide) (by decide) k) ?_
          show own_Go _ _ _ _ (s₁.setTop (mkF m 75 #[.val (.int p1), .val (.int b1), .val (.int b2), .val (.int b3), .unset] [(.int (1 : Int32))]))
          exact J75 _ (Or.inl ⟨rfl, by simp only [Int32.lt_iff_toInt_lt, ← Int32.toInt_inj, own_i0, own_i9, own_i10, own_i32, own_i55295, own_i55296, own_i57343, own_i57344, own_i65533, own_i65534, own_i65535, own_i65536, own_i1114111] at hc61; omega⟩)
        · refine own_by (fun t k => XS.icmpNo X0.here hx rfl (hb hby d2_61) rfl (feq hc61).1 k) ?_
          show own_Go _ _ _ _ (s₁.setTop (mkF m 64 #[.val (.int p1), .val (.int b1), .val (.int b2), .val (.int b3), .unset] []))
          refine own_by (fun t k => XS.iloadN X0.here hx rfl (hb hby d2_64) rfl k) ?_
          show own_Go _ _ _ _ (s₁.setTop (mkF m 65 #[.val (.int p1), .val (.int b1), .val (.int b2), .val (.int b3), .unset] [(.int p1)]))
          refine own_by (fun t k => X0.ldcInt hx hown (mvT hZ (hw _ (List.mem_of_getElem? (i := 7) rfl))) (g := (mkF m 65 #[.val (.int p1), .val (.int b1), .val (.int b2), .val (.int b3), .unset] [(.int p1)])) rfl (hb hby d2_65) _ k) ?_
          show own_Go _ _ _ _ (s₁.setTop (mkF m 67 #[.val (.int p1), .val (.int b1), .val (.int b2), .val (.int b3), .unset] [(.int (65535 : Int32)), (.int p1)]))
          by_cases hc67 : p1 = (65535 : Int32)
          · refine own_by (fun t k => XS.icmpNo X0.here hx rfl (hb hby d2_67) rfl (teq hc67).2 k) ?_
            show own_Go _ _ _ _ (s₁.setTop (mkF m 70 #[.val (.int p1), .val (.int b1), .val (.int b2), .val (.int b3), .unset] []))
            refine own_by (fun t k => XS.iconst X0.here hx rfl (hb hby d2_70) k) ?_
            show own_Go _ _ _ _ (s₁.setTop (mkF m 71 #[.val (.int p1), .val (.int b1), .val (.int b2), .val (.int b3), .unset] [(.int (1 : Int32))]))
            refine own_by (fun t k => XS.goto X0.here hx rfl (pc0 := 71) (pc' := 75) rfl (hb hby d2_71) (by decide) (by decide) k) ?_
            show own_Go _ _ _ _ (s₁.setTop (mkF m 75 #[.val (.int p1), .val (.int b1), .val (.int b2), .val (.int b3), .unset] [(.int (1 : Int32))]))
            exact J75 _ (Or.inl ⟨rfl, by simp only [Int32.lt_iff_toInt_lt, ← Int32.toInt_inj, own_i0, own_i9, own_i10, own_i32, own_i55295, own_i55296, own_i57343, own_i57344, own_i65533, own_i65534, own_i65535, own_i65536, own_i1114111] at hc61 hc67; omega⟩)
          · refine own_by (fun t k => XS.icmpYes X0.here hx rfl (pc0 := 67) (pc' := 74) rfl (hb hby d2_67) rfl (feq hc67).2 (by decide) (by decide) k) ?_
            show own_Go _ _ _ _ (s₁.setTop (mkF m 74 #[.val (.int p1), .val (.int b1), .val (.int b2), .val (.int b3), .unset] []))
            refine own_by (fun t k => XS.iconst X0.here hx rfl (hb hby d2_74) k) ?_
            show own_Go _ _ _ _ (s₁.setTop (mkF m 75 #[.val (.int p1), .val (.int b1), .val (.int b2), .val (.int b3), .unset] [(.int (0 : Int32))]))
            exact J75 _ (Or.inr ⟨rfl, by simp only [Int32.lt_iff_toInt_lt, ← Int32.toInt_inj, own_i0, own_i9, own_i10, own_i32, own_i55295, own_i55296, own_i57343, own_i57344, own_i65533, own_i65534, own_i65535, own_i65536, own_i1114111] at hc61 hc67; omega⟩)
      show own_Go _ _ _ _ (s₁.setTop (mkF m 40 #[.val (.int p1), .val (.int b1), .val (.int b2), .unset, .unset] []))
      refine own_by (fun t k => XS.iloadN X0.here hx rfl (hb hby d2_40) rfl k) ?_
      show own_Go _ _ _ _ (s₁.setTop (mkF m 41 #[.val (.int p1), .val (.int b1), .val (.int b2), .unset, .unset] [(.int p1)]))
      refine own_by (fun t k => X0.ldcInt hx hown (mvT hZ (hw _ (List.mem_of_getElem? (i := 2) rfl))) (g := (mkF m 41 #[.val (.int p1), .val (.int b1), .val (.int b2), .unset, .unset] [(.int p1)])) rfl (hb hby d2_41) _ k) ?_
      show own_Go _ _ _ _ (s₁.setTop (mkF m 43 #[.val (.int p1), .val (.int b1), .val (.int b2), .unset, .unset] [(.int (55296 : Int32)), (.int p1)]))
      by_cases hc43 : p1 < (55296 : Int32)
      · refine own_by (fun t k => XS.icmpYes X0.here hx rfl (pc0 := 43) (pc' := 56) rfl (hb hby d2_43) rfl (tlt hc43).1 (by decide) (by decide) k) ?_
        show own_Go _ _ _ _ (s₁.setTop (mkF m 56 #[.val (.int p1), .val (.int b1), .val (.int b2), .unset, .unset] []))
        refine own_by (fun t k => XS.iconst X0.here hx rfl (hb hby d2_56) k) ?_
        show own_Go _ _ _ _ (s₁.setTop (mkF m 57 #[.val (.int p1), .val (.int b1), .val (.int b2), .unset, .unset] [(.int (0 : Int32))]))
        exact J57 _ (Or.inr ⟨rfl, by simp only [Int32.lt_iff_toInt_lt, ← Int32.toInt_inj, own_i0, own_i9, own_i10, own_i32, own_i55295, own_i55296, own_i57343, own_i57344, own_i65533, own_i65534, own_i65535, own_i65536, own_i1114111] at hc43; omega⟩)
      · refine own_by (fun t k => XS.icmpNo X0.here hx rfl (hb hby d2_43) rfl (flt hc43).1 k) ?_
        show own_Go _ _ _ _ (s₁.setTop (mkF m 46 #[.val (.int p1), .val (.int b1), .val (.int b2), .unset, .unset] []))
        refine own_by (fun t k => XS.iloadN X0.here hx rfl (hb hby d2_46) rfl k) ?_
        show own_Go _ _ _ _ (s₁.setTop (mkF m 47 #[.val (.int p1), .val (.int b1), .val (.int b2), .unset, .unset] [(.int p1)]))
        refine own_by (fun t k => X0.ldcInt hx hown (mvT hZ (hw _ (List.mem_of_getElem? (i := 3) rfl))) (g := (mkF m 47 #[.val (.int p1), .val (.int b1), .val (.int b2), .unset, .unset] [(.int p1)])) rfl (hb hby d2_47) _ k) ?_
        show own_Go _ _ _ _ (s₁.setTop (mkF m 49 #[.val (.int p1), .val (.int b1), .val (.int b2), .unset, .unset] [(.int (57343 : Int32)), (.int p1)]))
        by_cases hc49 : (57343 : Int32) < p1
        · refine own_by (fun t k => XS.icmpYes X0.here hx rfl (pc0 := 49) (pc' := 56) rfl (hb hby d2_49) rfl (tlt hc49).2.2.1 (by decide) (by decide) k) ?_
          show own_Go _ _ _ _ (s₁.setTop (mkF m 56 #[.val (.int p1), .val (.int b1), .val (.int b2), .unset, .unset] []))
          refine own_by (fun t k => XS.iconst X0.here hx rfl (hb hby d2_56) k) ?_
          show own_Go _ _ _ _ (s₁.setTop (mkF m 57 #[.val (.int p1), .val (.int b1), .val (.int b2), .unset, .unset] [(.int (0 : Int32))]))
          exact J57 _ (Or.inr ⟨rfl, by simp only [Int32.lt_iff_toInt_lt, ← Int32.toInt_inj, own_i0, own_i9, own_i10, own_i32, own_i55295, own_i55296, own_i57343, own_i57344, own_i65533, own_i65534, own_i65535, own_i65536, own_i1114111] at hc43 hc49; omega⟩)
        · refine own_by (fun t k => XS.icmpNo X0.here hx rfl (hb hby d2_49) rfl (flt hc49).2.2.1 k) ?_
          show own_Go _ _ _ _ (s₁.setTop (mkF m 52 #[.val (.int p1), .val (.int b1), .val (.int b2), .unset, .unset] []))
          refine own_by (fun t k => XS.iconst X0.here hx rfl (hb hby d2_52) k) ?_
          show own_Go _ _ _ _ (s₁.setTop (mkF m 53 #[.val (.int p1), .val (.int b1), .val (.int b2), .unset, .unset] [(.int (1 : Int32))]))
          refine own_by (fun t k => XS.goto X0.here hx rfl (pc0 := 53) (pc' := 57) rfl (hb hby d2_53) (by decide) (by decide) k) ?_
          show own_Go _ _ _ _ (s₁.setTop (mkF m 57 #[.val (.int p1), .val (.int b1), .val (.int b2), .unset, .unset] [(.int (1 : Int32))]))
          exact J57 _ (Or.inl ⟨rfl, by simp only [Int32.lt_iff_toInt_lt, ← Int32.toInt_inj, own_i0, own_i9, own_i10, own_i32, own_i55295, own_i55296, own_i57343, own_i57344, own_i65533, own_i65534, own_i65535, own_i65536, own_i1114111] at hc43 hc49; omega⟩)
    show own_Go _ _ _ _ (s₁.setTop (mkF m 16 #[.val (.int p1), .val (.int b1), .unset, .unset, .unset] []))
    refine own_by (fun t k => XS.iloadN X0.here hx rfl (hb hby d2_16) rfl k) ?_
    show own_Go _ _ _ _ (s₁.setTop (mkF m 17 #[.val (.int p1), .val (.int b1), .unset, .unset, .unset] [(.int p1)]))
    refine own_by (fun t k => XS.bipush X0.here hx rfl (hb hby d2_17) k) ?_
    show own_Go _ _ _ _ (s₁.setTop (mkF m 19 #[.val (.int p1), .val (.int b1), .unset, .unset, .unset] [(.int (32 : Int32)), (.int p1)]))
    by_cases hc19 : p1 < (32 : Int32)
    · refine own_by (fun t k => XS.icmpNo X0.here hx rfl (hb hby d2_19) rfl (tlt hc19).2.1 k) ?_
      show own_Go _ _ _ _ (s₁.setTop (mkF m 22 #[.val (.int p1), .val (.int b1), .unset, .unset, .unset] []))
      refine own_by (fun t k => XS.iloadN X0.here hx rfl (hb hby d2_22) rfl k) ?_
      show own_Go _ _ _ _ (s₁.setTop (mkF m 23 #[.val (.int p1), .val (.int b1), .unset, .unset, .unset] [(.int p1)]))
      refine own_by (fun t k => XS.bipush X0.here hx rfl (hb hby d2_23) k) ?_
      show own_Go _ _ _ _ (s₁.setTop (mkF m 25 #[.val (.int p1), .val (.int b1), .unset, .unset, .unset] [(.int (9 : Int32)), (.int p1)]))
      by_cases hc25 : p1 = (9 : Int32)
      · refine own_by (fun t k => XS.icmpYes X0.here hx rfl (pc0 := 25) (pc' := 38) rfl (hb hby d2_25) rfl (teq hc25).1 (by decide) (by decide) k) ?_
        show own_Go _ _ _ _ (s₁.setTop (mkF m 38 #[.val (.int p1), .val (.int b1), .unset, .unset, .unset] []))
        refine own_by (fun t k => XS.iconst X0.here hx rfl (hb hby d2_38) k) ?_
        show own_Go _ _ _ _ (s₁.setTop (mkF m 39 #[.val (.int p1), .val (.int b1), .unset, .unset, .unset] [(.int (0 : Int32))]))
        exact J39 _ (Or.inr ⟨rfl, by simp only [Int32.lt_iff_toInt_lt, ← Int32.toInt_inj, own_i0, own_i9, own_i10, own_i32, own_i55295, own_i55296, own_i57343, own_i57344, own_i65533, own_i65534, own_i65535, own_i65536, own_i1114111] at hc19 hc25; omega⟩)
      · refine own_by (fun t k => XS.icmpNo X0.here hx rfl (hb hby d2_25) rfl (feq hc25).1 k) ?_
        show own_Go _ _ _ _ (s₁.setTop (mkF m 28 #[.val (.int p1), .val (.int b1), .unset, .unset, .unset] []))
        refine own_by (fun t k => XS.iloadN X0.here hx rfl (hb hby d2_28) rfl k) ?_
        show own_Go _ _ _ _ (s₁.setTop (mkF m 29 #[.val (.int p1), .val (.int b1), .unset, .unset, .unset] [(.int p1)]))
        refine own_by (fun t k => XS.bipush X0.here hx rfl (hb hby d2_29) k) ?_
        show own_Go _ _ _ _ (s₁.setTop (mkF m 31 #[.val (.int p1), .val (.int b1), .unset, .unset, .unset] [(.int (10 : Int32)), (.int p1)]))
        by_cases hc31 : p1 = (10 : Int32)
        · refine own_by (fun t k => XS.icmpYes X0.here hx rfl (pc0 := 31) (pc' := 38) rfl (hb hby d2_31) rfl (teq hc31).1 (by decide) (by decide) k) ?_
          show own_Go _ _ _ _ (s₁.setTop (mkF m 38 #[.val (.int p1), .val (.int b1), .unset, .unset, .unset] []))
          refine own_by (fun t k => XS.iconst X0.here hx rfl (hb hby d2_38) k) ?_
          show own_Go _ _ _ _ (s₁.setTop (mkF m 39 #[.val (.int p1), .val (.int b1), .unset, .unset, .unset] [(.int (0 : Int32))]))
          exact J39 _ (Or.inr ⟨rfl, by simp only [Int32.lt_iff_toInt_lt, ← Int32.toInt_inj, own_i0, own_i9, own_i10, own_i32, own_i55295, own_i55296, own_i57343, own_i57344, own_i65533, own_i65534, own_i65535, own_i65536, own_i1114111] at hc19 hc25 hc31; omega⟩)
        · refine own_by (fun t k => XS.icmpNo X0.here hx rfl (hb hby d2_31) rfl (feq hc31).1 k) ?_
          show own_Go _ _ _ _ (s₁.setTop (mkF m 34 #[.val (.int p1), .val (.int b1), .unset, .unset, .unset] []))
          refine own_by (fun t k => XS.iconst X0.here hx rfl (hb hby d2_34) k) ?_
          show own_Go _ _ _ _ (s₁.setTop (mkF m 35 #[.val (.int p1), .val (.int b1), .unset, .unset, .unset] [(.int (1 : Int32))]))
          refine own_by (fun t k => XS.goto X0.here hx rfl (pc0 := 35) (pc' := 39) rfl (hb hby d2_35) (by decide) (by decide) k) ?_
          show own_Go _ _ _ _ (s₁.setTop (mkF m 39 #[.val (.int p1), .val (.int b1), .unset, .unset, .unset] [(.int (1 : Int32))]))
          exact J39 _ (Or.inl ⟨rfl, by simp only [Int32.lt_iff_toInt_lt, ← Int32.toInt_inj, own_i0, own_i9, own_i10, own_i32, own_i55295, own_i55296, own_i57343, own_i57344, own_i65533, own_i65534, own_i65535, own_i65536, own_i1114111] at hc19 hc25 hc31; omega⟩)
    · refine own_by (fun t k => XS.icmpYes X0.here hx rfl (pc0 := 19) (pc' := 38) rfl (hb hby d2_19) rfl (flt hc19).2.1 (by decide) (by decide) k) ?_
      show own_Go _ _ _ _ (s₁.setTop (mkF m 38 #[.val (.int p1), .val (.int b1), .unset, .unset, .unset] []))
      refine own_by (fun t k => XS.iconst X0.here hx rfl (hb hby d2_38) k) ?_
      show own_Go _ _ _ _ (s₁.setTop (mkF m 39 #[.val (.int p1), .val (.int b1), .unset, .unset, .unset] [(.int (0 : Int32))]))
      exact J39 _ (Or.inr ⟨rfl, by simp only [Int32.lt_iff_toInt_lt, ← Int32.toInt_inj, own_i0, own_i9, own_i10, own_i32, own_i55295, own_i55296, own_i57343, own_i57344, own_i65533, own_i65534, own_i65535, own_i65536, own_i1114111] at hc19; omega⟩)
  show own_Go _ _ _ _ (s₁.setTop (mkF m 0 #[.val (.int p1), .unset, .unset, .unset, .unset] []))
  refine own_by (fun t k => XS.iloadN X0.here hx rfl (hb hby d2_0) rfl k) ?_
  show own_Go _ _ _ _ (s₁.setTop (mkF m 1 #[.val (.int p1), .unset, .unset, .unset, .unset] [(.int p1)]))
  by_cases hc1 : p1 < (0 : Int32)
  · refine own_by (fun t k => XS.ifYes X0.here hx rfl (pc0 := 1) (pc' := 14) rfl (hb hby d2_1) rfl ((if0 _ _).trans (tlt hc1).1) (by decide) (by decide) k) ?_
    show own_Go _ _ _ _ (s₁.setTop (mkF m 14 #[.val (.int p1), .unset, .unset, .unset, .unset] []))
    refine own_by (fun t k => XS.iconst X0.here hx rfl (hb hby d2_14) k) ?_
    show own_Go _ _ _ _ (s₁.setTop (mkF m 15 #[.val (.int p1), .unset, .unset, .unset, .unset] [(.int (0 : Int32))]))
    exact J15 _ (Or.inr ⟨rfl, by simp only [Int32.lt_iff_toInt_lt, ← Int32.toInt_inj, own_i0, own_i9, own_i10, own_i32, own_i55295, own_i55296, own_i57343, own_i57344, own_i65533, own_i65534, own_i65535, own_i65536, own_i1114111] at hc1; omega⟩)
  · refine own_by (fun t k => XS.ifNo X0.here hx rfl (hb hby d2_1) rfl ((if0 _ _).trans (flt hc1).1) k) ?_
    show own_Go _ _ _ _ (s₁.setTop (mkF m 4 #[.val (.int p1), .unset, .unset, .unset, .unset] []))
    refine own_by (fun t k => XS.iloadN X0.here hx rfl (hb hby d2_4) rfl k) ?_
    show own_Go _ _ _ _ (s₁.setTop (mkF m 5 #[.val (.int p1), .unset, .unset, .unset, .unset] [(.int p1)]))
    refine own_by (fun t k => X0.ldcInt hx hown (mvT hZ (hw _ (List.mem_of_getElem? (i := 9) rfl))) (g := (mkF m 5 #[.val (.int p1), .unset, .unset, .unset, .unset] [(.int p1)])) rfl (hb hby d2_5) _ k) ?_
    show own_Go _ _ _ _ (s₁.setTop (mkF m 7 #[.val (.int p1), .unset, .unset, .unset, .unset] [(.int (1114111 : Int32)), (.int p1)]))
    by_cases hc7 : (1114111 : Int32) < p1
    · refine own_by (fun t k => XS.icmpYes X0.here hx rfl (pc0 := 7) (pc' := 14) rfl (hb hby d2_7) rfl (tlt hc7).2.2.1 (by decide) (by decide) k) ?_
      show own_Go _ _ _ _ (s₁.setTop (mkF m 14 #[.val (.int p1), .unset, .unset, .unset, .unset] []))
      refine own_by (fun t k => XS.iconst X0.here hx rfl (hb hby d2_14) k) ?_
      show own_Go _ _ _ _ (s₁.setTop (mkF m 15 #[.val (.int p1), .unset, .unset, .unset, .unset] [(.int (0 : Int32))]))
      exact J15 _ (Or.inr ⟨rfl, by simp only [Int32.lt_iff_toInt_lt, ← Int32.toInt_inj, own_i0, own_i9, own_i10, own_i32, own_i55295, own_i55296, own_i57343, own_i57344, own_i65533, own_i65534, own_i65535, own_i65536, own_i1114111] at hc1 hc7; omega⟩)
    · refine own_by (fun t k => XS.icmpNo X0.here hx rfl (hb hby d2_7) rfl (flt hc7).2.2.1 k) ?_
      show own_Go _ _ _ _ (s₁.setTop (mkF m 10 #[.val (.int p1), .unset, .unset, .unset, .unset] []))
      refine own_by (fun t k => XS.iconst X0.here hx rfl (hb hby d2_10) k) ?_
      show own_Go _ _ _ _ (s₁.setTop (mkF m 11 #[.val (.int p1), .unset, .unset, .unset, .unset] [(.int (1 : Int32))]))
      refine own_by (fun t k => XS.goto X0.here hx rfl (pc0 := 11) (pc' := 15) rfl (hb hby d2_11) (by decide) (by decide) k) ?_
      show own_Go _ _ _ _ (s₁.setTop (mkF m 15 #[.val (.int p1), .unset, .unset, .unset, .unset] [(.int (1 : Int32))]))
      exact J15 _ (Or.inl ⟨rfl, by simp only [Int32.lt_iff_toInt_lt, ← Int32.toInt_inj, own_i0, own_i9, own_i10, own_i32, own_i55295, own_i55296, own_i57343, own_i57344, own_i65533, own_i65534, own_i65535, own_i65536, own_i1114111] at hc1 hc7; omega⟩)
theorem pd_0_0 : parseMethodDescriptor "(I)Z" = some ⟨[.int], some .boolean⟩ := by decide +kernel
theorem pn_0 : plainName "com/example/bordereau/bordereau/XmlOutputIsWritablePinLaw" = true := by first | (simp [plainName, overriddenIn]; done) | decide +kernel
theorem ef_0 (m : MethodId) (p1 : Int32) (p2 : Int32) (p3 : Int32) : entryFrame m #[(.int p1), (.int p2), (.int p3)] maxLocals = mkF m 0 #[.val (.int p1), .val (.int p2), .val (.int p3), .unset, .unset] [] := by first | (simp [entryFrame, mkF, argsToLocals, Value.category, maxLocals]; done) | rfl
def Q0 (Z : State) (p1 : Int32) (p2 : Int32) (p3 : Int32) (h0 : Heap) (n0 : Nat) (v : Option Value) (h : Heap) (L : List Loc) : Prop := v = some (.int (1 : Int32)) ∧ Fr n0 L
abbrev P0 (Z : State) (p1 : Int32) (p2 : Int32) (p3 : Int32) (h0 : Heap) (n0 : Nat) (s : State) : Outcome → State → Prop := fun o U' => ∃ v L, o = .returned v ∧ Q0 Z p1 p2 p3 h0 n0 v U'.heap L ∧ FrameEnd s o U' L room_1.cells room_1.slots
set_option maxRecDepth 65536 in
set_option maxHeartbeats 40000000 in
theorem rm0 (l : Launch) (Z : State) (a0 : Array Value) (hw : ∀ d ∈ tables_1, d.before a0 Z = true) (ws : List Jvm.Cond) (p1 : Int32) (p2 : Int32) (p3 : Int32) (h0 : Heap) (n0 : Nat) (Z0 : n0 ≤ h0.size) :
    MetFree l x (head1 (Jvm.Cond.code x code maxLocals ret :: ws) room_1) (fun a U => a = #[(.int p1), (.int p2), (.int p3)] ∧ Z.Warmed39 U.vm ∧ U.heap = h0) (fun _ _ _ _ _ => True) (fun _ U o U' => ∃ v L, o = .returned v ∧ Q0 Z p1 p2 p3 h0 n0 v U'.heap L ∧ FrameEnd U o U' L room_1.cells room_1.slots) := by
  refine MetFree.of_bodySF (plainFor_of_name pn_0) hisR ?_
  intro p e s m args below meth c s₁ Bd hml0 hP hK
  obtain ⟨rfl, hZ, hh⟩ := hP
  have hx := Bd.exec
  have hby := Bd.bytes
  have hml : c.maxLocals = 5 := hml0
  have hown : s.vm.findClass "com/example/bordereau/bordereau/XmlOutputIsWritablePinLaw" = some m.cls := findClass_of_methodNamed Bd.named
  have hnm := (name_of_methodNamed Bd.named Bd.method).1
  have X0 : Stand p l e room_1 s m #[(.int p1), (.int p2), (.int p3)] below meth c s₁ [] 0 0 := Stand.of_body Bd
  have e0 : s₁.heap = h0 := by rw [← hh, Bd.state]; rfl
  have N0 := Fr.nil n0
  show own_Go p.tables e below (P0 Z p1 p2 p3 h0 n0 s) (s₁.setTop (entryFrame m #[(.int p1), (.int p2), (.int p3)] maxLocals))
  refine own_by (T' := s₁.setTop (mkF m 0 #[.val (.int p1), .val (.int p2), .val (.int p3), .unset, .unset] [])) (fun t k => castTop (ef_0 m p1 p2 p3) k) ?_
  show own_Go _ _ _ _ (s₁.setTop (mkF m 0 #[.val (.int p1), .val (.int p2), .val (.int p3), .unset, .unset] []))
  refine own_by (fun t k => XS.bipush X0.here hx rfl (hb hby at_0) k) ?_
  show own_Go _ _ _ _ (s₁.setTop (mkF m 2 #[.val (.int p1), .val (.int p2), .val (.int p3), .unset, .unset] [(.int (18 : Int32))]))
  obtain ⟨Ta0_1, ha0_1, ka0_1, Xa0_1, ea0_1, Ea0_1, Aa0_1, sta0_1⟩ := newP X0 hx hZ (hw _ (List.mem_of_getElem? (i := 0) rfl)) e0 (g := (mkF m 2 #[.val (.int p1), .val (.int p2), .val (.int p3), .unset, .unset] [(.int (18 : Int32))])) rfl (hb hby at_2) rfl (by decide) (cap := 18) (by decide) (by decide) (by decide) (by decide)
  obtain ⟨bb, q_bb⟩ : ∃ z, z = h0.size := ⟨_, rfl⟩
  rw [← q_bb] at Aa0_1 sta0_1
  have g_bb : n0 ≤ bb := Nat.le_trans Z0 (Nat.le_of_eq q_bb.symm)
  have Zs_a0_1 : n0 ≤ ha0_1.size := Nat.le_trans Z0 Ea0_1.1
  have V_bb := own_new Aa0_1 (by decide)
  refine own_by (fun t k => sta0_1 t k) ?_
  have I0 : own_ints (fun _ => defaultValue .int) := own_ints_new
  show own_Go _ _ _ _ (Ta0_1.setTop (mkF m 4 #[.val (.int p1), .val (.int p2), .val (.int p3), .unset, .unset] [(.ref bb)]))
  refine own_by (fun t k => XS.dup Xa0_1.here hx rfl (hb hby at_4) rfl rfl k) ?_
  show own_Go _ _ _ _ (Ta0_1.setTop (mkF m 5 #[.val (.int p1), .val (.int p2), .val (.int p3), .unset, .unset] [(.ref bb), (.ref bb)]))
  refine own_by (fun t k => XS.iconst Xa0_1.here hx rfl (hb hby at_5) k) ?_
  show own_Go _ _ _ _ (Ta0_1.setTop (mkF m 6 #[.val (.int p1), .val (.int p2), .val (.int p3), .unset, .unset] [(.int (0 : Int32)), (.ref bb), (.ref bb)]))
  refine own_by (fun t k => XS.iconst Xa0_1.here hx rfl (hb hby at_6) k) ?_
  show own_Go _ _ _ _ (Ta0_1.setTop (mkF m 7 #[.val (.int p1), .val (.int p2), .val (.int p3), .unset, .unset] [(.int (0 : Int32)), (.int (0 : Int32)), (.ref bb), (.ref bb)]))
  obtain ⟨Tw0_2, hw0_2, Xw0_2, ew0_2, Ww0_2, Vw0_2, stw0_2⟩ := own_stI Xa0_1 hx hZ ea0_1 V_bb (j := (0 : Int32)) ⟨by decide, by decide⟩ (g := (mkF m 7 #[.val (.int p1), .val (.int p2), .val (.int p3), .unset, .unset] [(.int (0 : Int32)), (.int (0 : Int32)), (.ref bb), (.ref bb)])) rfl rfl (hb hby at_7)
  replace V_bb := Vw0_2
  have Nw0_2 := Fr.snoc Xw0_2 N0 g_bb
  have Zs_w0_2 : n0 ≤ hw0_2.size := by rw [Ww0_2.size]; exact Zs_a0_1
  refine own_by (fun t k => stw0_2 t k) ?_
  have I1 := own_ints_set I0 ((0 : Int32)).toNatClampNeg (0 : Int32)
  show own_Go _ _ _ _ (Tw0_2.setTop (mkF m 8 #[.val (.int p1), .val (.int p2), .val (.int p3), .unset, .unset] [(.ref bb)]))
  refine own_by (fun t k => XS.dup Xw0_2.here hx rfl (hb hby at_8) rfl rfl k) ?_
  show own_Go _ _ _ _ (Tw0_2.setTop (mkF m 9 #[.val (.int p1), .val (.int p2), .val (.int p3), .unset, .unset] [(.ref bb), (.ref bb)]))
  refine own_by (fun t k => XS.iconst Xw0_2.here hx rfl (hb hby at_9) k) ?_
  show own_Go _ _ _ _ (Tw0_2.setTop (mkF m 10 #[.val (.int p1), .val (.int p2), .val (.int p3), .unset, .unset] [(.int (1 : Int32)), (.ref bb), (.ref bb)]))
  refine own_by (fun t k => XS.bipush Xw0_2.here hx rfl (hb hby at_10) k) ?_
  show own_Go _ _ _ _ (Tw0_2.setTop (mkF m 12 #[.val (.int p1), .val (.int p2), .val (.int p3), .unset, .unset] [(.int (9 : Int32)), (.int (1 : Int32)), (.ref bb), (.ref bb)]))
  obtain ⟨Tw0_3, hw0_3, Xw0_3, ew0_3, Ww0_3, Vw0_3, stw0_3⟩ := own_stI Xw0_2 hx hZ ew0_2 V_bb (j := (1 : Int32)) ⟨by decide, by decide⟩ (g := (mkF m 12 #[.val (.int p1), .val (.int p2), .val (.int p3), .unset, .unset] [(.int (9 : Int32)), (.int (1 : Int32)), (.ref bb), (.ref bb)])) rfl rfl (hb hby at_12)
  replace V_bb := Vw0_3
  have Nw0_3 := Fr.snoc Xw0_3 Nw0_2 g_bb
  have Zs_w0_3 : n0 ≤ hw0_3.size := by rw [Ww0_3.size]; exact Zs_w0_2
  refine own_by (fun t k => stw0_3 t k) ?_
  have I2 := own_ints_set I1 ((1 : Int32)).toNatClampNeg (9 : Int32)
  show own_Go _ _ _ _ (Tw0_3.setTop (mkF m 13 #[.val (.int p1), .val (.int p2), .val (.int p3), .unset, .unset] [(.ref bb)]))
  refine own_by (fun t k => XS.dup Xw0_3.here hx rfl (hb hby at_13) rfl rfl k) ?_
  show own_Go _ _ _ _ (Tw0_3.setTop (mkF m 14 #[.val (.int p1), .val (.int p2), .val (.int p3), .unset, .unset] [(.ref bb), (.ref bb)]))
  refine own_by (fun t k => XS.iconst Xw0_3.here hx rfl (hb hby at_14) k) ?_
  show own_Go _ _ _ _ (Tw0_3.setTop (mkF m 15 #[.val (.int p1), .val (.int p2), .val (.int p3), .unset, .unset] [(.int (2 : Int32)), (.ref bb), (.ref bb)]))
  refine own_by (fun t k => XS.bipush Xw0_3.here hx rfl (hb hby at_15) k) ?_
  show own_Go _ _ _ _ (Tw0_3.setTop (mkF m 17 #[.val (.int p1), .val (.int p2), .val (.int p3), .unset, .unset] [(.int (10 : Int32)), (.int (2 : Int32)), (.ref bb), (.ref bb)]))
  obtain ⟨Tw0_4, hw0_4, Xw0_4, ew0_4, Ww0_4, Vw0_4, stw0_4⟩ := own_stI Xw0_3 hx hZ ew0_3 V_bb (j := (2 : Int32)) ⟨by decide, by decide⟩ (g := (mkF m 17 #[.val (.int p1), .val (.int p2), .val (.int p3), .unset, .unset] [(.int (10 : Int32)), (.int (2 : Int32)), (.ref bb), (.ref bb)])) rfl rfl (hb hby at_17)
  replace V_bb := Vw0_4
  have Nw0_4 := Fr.snoc Xw0_4 Nw0_3 g_bb
  have Zs_w0_4 : n0 ≤ hw0_4.size := by rw [Ww0_4.size]; exact Zs_w0_3
  refine own_by (fun t k => stw0_4 t k) ?_
  have I3 := own_ints_set I2 ((2 : Int32)).toNatClampNeg (10 : Int32)
  show own_Go _ _ _ _ (Tw0_4.setTop (mkF m 18 #[.val (.int p1), .val (.int p2), .val (.int p3), .unset, .unset] [(.ref bb)]))
  refine own_by (fun t k => XS.dup Xw0_4.here hx rfl (hb hby at_18) rfl rfl k) ?_
  show own_Go _ _ _ _ (Tw0_4.setTop (mkF m 19 #[.val (.int p1), .val (.int p2), .val (.int p3), .unset, .unset] [(.ref bb), (.ref bb)]))
  refine own_by (fun t k => XS.iconst Xw0_4.here hx rfl (hb hby at_19) k) ?_
  show own_Go _ _ _ _ (Tw0_4.setTop (mkF m 20 #[.val (.int p1), .val (.int p2), .val (.int p3), .unset, .unset] [(.int (3 : Int32)), (.ref bb), (.ref bb)]))
  refine own_by (fun t k => XS.bipush Xw0_4.here hx rfl (hb hby at_20) k) ?_
  show own_Go _ _ _ _ (Tw0_4.setTop (mkF m 22 #[.val (.int p1), .val (.int p2), .val (.int p3), .unset, .unset] [(.int (13 : Int32)), (.int (3 : Int32)), (.ref bb), (.ref bb)]))
  obtain ⟨Tw0_5, hw0_5, Xw0_5, ew0_5, Ww0_5, Vw0_5, stw0_5⟩ := own_stI Xw0_4 hx hZ ew0_4 V_bb (j := (3 : Int32)) ⟨by decide, by decide⟩ (g := (mkF m 22 #[.val (.int p1), .val (.int p2), .val (.int p3), .unset, .unset] [(.int (13 : Int32)), (.int (3 : Int32)), (.ref bb), (.ref bb)])) rfl rfl (hb hby at_22)
  replace V_bb := Vw0_5
  have Nw0_5 := Fr.snoc Xw0_5 Nw0_4 g_bb
  have Zs_w0_5 : n0 ≤ hw0_5.size := by rw [Ww0_5.size]; exact Zs_w0_4
  refine own_by (fun t k => stw0_5 t k) ?_
  have I4 := own_ints_set I3 ((3 : Int32)).toNatClampNeg (13 : Int32)
  show own_Go _ _ _ _ (Tw0_5.setTop (mkF m 23 #[.val (.int p1), .val (.int p2), .val (.int p3), .unset, .unset] [(.ref bb)]))
  refine own_by (fun t k => XS.dup Xw0_5.here hx rfl (hb hby at_23) rfl rfl k) ?_
  show own_Go _ _ _ _ (Tw0_5.setTop (mkF m 24 #[.val (.int p1), .val (.int p2), .val (.int p3), .unset, .unset] [(.ref bb), (.ref bb)]))
  refine own_by (fun t k => XS.iconst Xw0_5.here hx rfl (hb hby at_24) k) ?_
  show own_Go _ _ _ _ (Tw0_5.setTop (mkF m 25 #[.val (.int p1), .val (.int p2), .val (.int p3), .unset, .unset] [(.int (4 : Int32)), (.ref bb), (.ref bb)]))
  refine own_by (fun t k => XS.bipush Xw0_5.here hx rfl (hb hby at_25) k) ?_
  show own_Go _ _ _ _ (Tw0_5.setTop (mkF m 27 #[.val (.int p1), .val (.int p2), .val (.int p3), .unset, .unset] [(.int (31 : Int32)), (.int (4 : Int32)), (.ref bb), (.ref bb)]))
  obtain ⟨Tw0_6, hw0_6, Xw0_6, ew0_6, Ww0_6, Vw0_6, stw0_6⟩ := own_stI Xw0_5 hx hZ ew0_5 V_bb (j := (4 : Int32)) ⟨by decide, by decide⟩ (g := (mkF m 27 #[.val (.int p1), .val (.int p2), .val (.int p3), .unset, .unset] [(.int (31 : Int32)), (.int (4 : Int32)), (.ref bb), (.ref bb)])) rfl rfl (hb hby at_27)
  replace V_bb := Vw0_6
  have Nw0_6 := Fr.snoc Xw0_6 Nw0_5 g_bb
  have Zs_w0_6 : n0 ≤ hw0_6.size := by rw [Ww0_6.size]; exact Zs_w0_5
  refine own_by (fun t k => stw0_6 t k) ?_
  have I5 := own_ints_set I4 ((4 : Int32)).toNatClampNeg (31 : Int32)
  show own_Go _ _ _ _ (Tw0_6.setTop (mkF m 28 #[.val (.int p1), .val (.int p2), .val (.int p3), .unset, .unset] [(.ref bb)]))
  refine own_by (fun t k => XS.dup Xw0_6.here hx rfl (hb hby at_28) rfl rfl k) ?_
  show own_Go _ _ _ _ (Tw0_6.setTop (mkF m 29 #[.val (.int p1), .val (.int p2), .val (.int p3), .unset, .unset] [(.ref bb), (.ref bb)]))
  refine own_by (fun t k => XS.iconst Xw0_6.here hx rfl (hb hby at_29) k) ?_
  show own_Go _ _ _ _ (Tw0_6.setTop (mkF m 30 #[.val (.int p1), .val (.int p2), .val (.int p3), .unset, .unset] [(.int (5 : Int32)), (.ref bb), (.ref bb)]))
  refine own_by (fun t k => XS.bipush Xw0_6.here hx rfl (hb hby at_30) k) ?_
  show own_Go _ _ _ _ (Tw0_6.setTop (mkF m 32 #[.val (.int p1), .val (.int p2), .val (.int p3), .unset, .unset] [(.int (32 : Int32)), (.int (5 : Int32)), (.ref bb), (.ref bb)]))
  obtain ⟨Tw0_7, hw0_7, Xw0_7, ew0_7, Ww0_7, Vw0_7, stw0_7⟩ := own_stI Xw0_6 hx hZ ew0_6 V_bb (j := (5 : Int32)) ⟨by decide, by decide⟩ (g := (mkF m 32 #[.val (.int p1), .val (.int p2), .val (.int p3), .unset, .unset] [(.int (32 : Int32)), (.int (5 : Int32)), (.ref bb), (.ref bb)])) rfl rfl (hb hby at_32)
  replace V_bb := Vw0_7
  have Nw0_7 := Fr.snoc Xw0_7 Nw0_6 g_bb
  have Zs_w0_7 : n0 ≤ hw0_7.size := by rw [Ww0_7.size]; exact Zs_w0_6
  refine own_by (fun t k => stw0_7 t k) ?_
  have I6 := own_ints_set I5 ((5 : Int32)).toNatClampNeg (32 : Int32)
  show own_Go _ _ _ _ (Tw0_7.setTop (mkF m 33 #[.val (.int p1), .val (.int p2), .val (.int p3), .unset, .unset] [(.ref bb)]))
  refine own_by (fun t k => XS.dup Xw0_7.here hx rfl (hb hby at_33) rfl rfl k) ?_
  show own_Go _ _ _ _ (Tw0_7.setTop (mkF m 34 #[.val (.int p1), .val (.int p2), .val (.int p3), .unset, .unset] [(.ref bb), (.ref bb)]))
  refine own_by (fun t k => XS.bipush Xw0_7.here hx rfl (hb hby at_34) k) ?_
  show own_Go _ _ _ _ (Tw0_7.setTop (mkF m 36 #[.val (.int p1), .val (.int p2), .val (.int p3), .unset, .unset] [(.int (6 : Int32)), (.ref bb), (.ref bb)]))
  refine own_by (fun t k => Xw0_7.ldcInt hx hown (mvT hZ (hw _ (List.mem_of_getElem? (i := 1) rfl))) (g := (mkF m 36 #[.val (.int p1), .val (.int p2), .val (.int p3), .unset, .unset] [(.int (6 : Int32)), (.ref bb), (.ref bb)])) rfl (hb hby at_36) _ k) ?_
  show own_Go _ _ _ _ (Tw0_7.setTop (mkF m 38 #[.val (.int p1), .val (.int p2), .val (.int p3), .unset, .unset] [(.int (55295 : Int32)), (.int (6 : Int32)), (.ref bb), (.ref bb)]))
  obtain ⟨Tw0_8, hw0_8, Xw0_8, ew0_8, Ww0_8, Vw0_8, stw0_8⟩ := own_stI Xw0_7 hx hZ ew0_7 V_bb (j := (6 : Int32)) ⟨by decide, by decide⟩ (g := (mkF m 38 #[.val (.int p1), .val (.int p2), .val (.int p3), .unset, .unset] [(.int (55295 : Int32)), (.int (6 : Int32)), (.ref bb), (.ref bb)])) rfl rfl (hb hby at_38)
  replace V_bb := Vw0_8
  have Nw0_8 := Fr.snoc Xw0_8 Nw0_7 g_bb
  have Zs_w0_8 : n0 ≤ hw0_8.size := by rw [Ww0_8.size]; exact Zs_w0_7
  refine own_by (fun t k => stw0_8 t k) ?_
  have I7 := own_ints_set I6 ((6 : Int32)).toNatClampNeg (55295 : Int32)
  show own_Go _ _ _ _ (Tw0_8.setTop (mkF m 39 #[.val (.int p1), .val (.int p2), .val (.int p3), .unset, .unset] [(.ref bb)]))
  refine own_by (fun t k => XS.dup Xw0_8.here hx rfl (hb hby at_39) rfl rfl k) ?_
  show own_Go _ _ _ _ (Tw0_8.setTop (mkF m 40 #[.val (.int p1), .val (.int p2), .val (.int p3), .unset, .unset] [(.ref bb), (.ref bb)]))
  refine own_by (fun t k => XS.bipush Xw0_8.here hx rfl (hb hby at_40) k) ?_
  show own_Go _ _ _ _ (Tw0_8.setTop (mkF m 42 #[.val (.int p1), .val (.int p2), .val (.int p3), .unset, .unset] [(.int (7 : Int32)), (.ref bb), (.ref bb)]))
  refine own_by (fun t k => Xw0_8.ldcInt hx hown (mvT hZ (hw _ (List.mem_of_getElem? (i := 2) rfl))) (g := (mkF m 42 #[.val (.int p1), .val (.int p2), .val (.int p3), .unset, .unset] [(.int (7 : Int32)), (.ref bb), (.ref bb)])) rfl (hb hby at_42) _ k) ?_
  show own_Go _ _ _ _ (Tw0_8.setTop (mkF m 44 #[.val (.int p1), .val (.int p2), .val (.int p3), .unset, .unset] [(.int (55296 : Int32)), (.int (7 : Int32)), (.ref bb), (.ref bb)]))
  obtain ⟨Tw0_9, hw0_9, Xw0_9, ew0_9, Ww0_9, Vw0_9, stw0_9⟩ := own_stI Xw0_8 hx hZ ew0_8 V_bb (j := (7 : Int32)) ⟨by decide, by decide⟩ (g := (mkF m 44 #[.val (.int p1), .val (.int p2), .val (.int p3), .unset, .unset] [(.int (55296 : Int32)), (.int (7 : Int32)), (.ref bb), (.ref bb)])) rfl rfl (hb hby at_44)
  replace V_bb := Vw0_9
  have Nw0_9 := Fr.snoc Xw0_9 Nw0_8 g_bb
  have Zs_w0_9 : n0 ≤ hw0_9.size := by rw [Ww0_9.size]; exact Zs_w0_8
  refine own_by (fun t k => stw0_9 t k) ?_
  have I8 := own_ints_set I7 ((7 : Int32)).toNatClampNeg (55296 : Int32)
  show own_Go _ _ _ _ (Tw0_9.setTop (mkF m 45 #[.val (.int p1), .val (.int p2), .val (.int p3), .unset, .unset] [(.ref bb)]))
  refine own_by (fun t k => XS.dup Xw0_9.here hx rfl (hb hby at_45) rfl rfl k) ?_
  show own_Go _ _ _ _ (Tw0_9.setTop (mkF m 46 #[.val (.int p1), .val (.int p2), .val (.int p3), .unset, .unset] [(.ref bb), (.ref bb)]))
  refine own_by (fun t k => XS.bipush Xw0_9.here hx rfl (hb hby at_46) k) ?_
  show own_Go _ _ _ _ (Tw0_9.setTop (mkF m 48 #[.val (.int p1), .val (.int p2), .val (.int p3), .unset, .unset] [(.int (8 : Int32)), (.ref bb), (.ref bb)]))
  refine own_by (fun t k => Xw0_9.ldcInt hx hown (mvT hZ (hw _ (List.mem_of_getElem? (i := 3) rfl))) (g := (mkF m 48 #[.val (.int p1), .val (.int p2), .val (.int p3), .unset, .unset] [(.int (8 : Int32)), (.ref bb), (.ref bb)])) rfl (hb hby at_48) _ k) ?_
  show own_Go _ _ _ _ (Tw0_9.setTop (mkF m 50 #[.val (.int p1), .val (.int p2), .val (.int p3), .unset, .unset] [(.int (57343 : Int32)), (.int (8 : Int32)), (.ref bb), (.ref bb)]))
  obtain ⟨Tw0_10, hw0_10, Xw0_10, ew0_10, Ww0_10, Vw0_10, stw0_10⟩ := own_stI Xw0_9 hx hZ ew0_9 V_bb (j := (8 : Int32)) ⟨by decide, by decide⟩ (g := (mkF m 50 #[.val (.int p1), .val (.int p2), .val (.int p3), .unset, .unset] [(.int (57343 : Int32)), (.int (8 : Int32)), (.ref bb), (.ref bb)])) rfl rfl (hb hby at_50)
  replace V_bb := Vw0_10
  have Nw0_10 := Fr.snoc Xw0_10 Nw0_9 g_bb
  have Zs_w0_10 : n0 ≤ hw0_10.size := by rw [Ww0_10.size]; exact Zs_w0_9
  refine own_by (fun t k => stw0_10 t k) ?_
  have I9 := own_ints_set I8 ((8 : Int32)).toNatClampNeg (57343 : Int32)
  show own_Go _ _ _ _ (Tw0_10.setTop (mkF m 51 #[.val (.int p1), .val (.int p2), .val (.int p3), .unset, .unset] [(.ref bb)]))
  refine own_by (fun t k => XS.dup Xw0_10.here hx rfl (hb hby at_51) rfl rfl k) ?_
  show own_Go _ _ _ _ (Tw0_10.setTop (mkF m 52 #[.val (.int p1), .val (.int p2), .val (.int p3), .unset, .unset] [(.ref bb), (.ref bb)]))
  refine own_by (fun t k => XS.bipush Xw0_10.here hx rfl (hb hby at_52) k) ?_
  show own_Go _ _ _ _ (Tw0_10.setTop (mkF m 54 #[.val (.int p1), .val (.int p2), .val (.int p3), .unset, .unset] [(.int (9 : Int32)), (.ref bb), (.ref bb)]))
  refine own_by (fun t k => Xw0_10.ldcInt hx hown (mvT hZ (hw _ (List.mem_of_getElem? (i := 4) rfl))) (g := (mkF m 54 #[.val (.int p1), .val (.int p2), .val (.int p3), .unset, .unset] [(.int (9 : Int32)), (.ref bb), (.ref bb)])) rfl (hb hby at_54) _ k) ?_
  show own_Go _ _ _ _ (Tw0_10.setTop (mkF m 56 #[.val (.int p1), .val (.int p2), .val (.int p3), .unset, .unset] [(.int (57344 : Int32)), (.int (9 : Int32)), (.ref bb), (.ref bb)]))
  obtain ⟨Tw0_11, hw0_11, Xw0_11, ew0_11, Ww0_11, Vw0_11, stw0_11⟩ := own_stI Xw0_10 hx hZ ew0_10 V_bb (j := (9 : Int32)) ⟨by decide, by decide⟩ (g := (mkF m 56 #[.val (.int p1), .val (.int p2), .val (.int p3), .unset, .unset] [(.int (57344 : Int32)), (.int (9 : Int32)), (.ref bb), (.ref bb)])) rfl rfl (hb hby at_56)
  replace V_bb := Vw0_11
  have Nw0_11 := Fr.snoc Xw0_11 Nw0_10 g_bb
  have Zs_w0_11 : n0 ≤ hw0_11.size := by rw [Ww0_11.size]; exact Zs_w0_10
  refine own_by (fun t k => stw0_11 t k) ?_
  have I10 := own_ints_set I9 ((9 : Int32)).toNatClampNeg (57344 : Int32)
  show own_Go _ _ _ _ (Tw0_11.setTop (mkF m 57 #[.val (.int p1), .val (.int p2), .val (.int p3), .unset, .unset] [(.ref bb)]))
  refine own_by (fun t k => XS.dup Xw0_11.here hx rfl (hb hby at_57) rfl rfl k) ?_
  show own_Go _ _ _ _ (Tw0_11.setTop (mkF m 58 #[.val (.int p1), .val (.int p2), .val (.int p3), .unset, .unset] [(.ref bb), (.ref bb)]))
  refine own_by (fun t k => XS.bipush Xw0_11.here hx rfl (hb hby at_58) k) ?_
  show own_Go _ _ _ _ (Tw0_11.setTop (mkF m 60 #[.val (.int p1), .val (.int p2), .val (.int p3), .unset, .unset] [(.int (10 : Int32)), (.ref bb), (.ref bb)]))
  refine own_by (fun t k => Xw0_11.ldcInt hx hown (mvT hZ (hw _ (List.mem_of_getElem? (i := 5) rfl))) (g := (mkF m 60 #[.val (.int p1), .val (.int p2), .val (.int p3), .unset, .unset] [(.int (10 : Int32)), (.ref bb), (.ref bb)])) rfl (hb hby at_60) _ k) ?_
  show own_Go _ _ _ _ (Tw0_11.setTop (mkF m 62 #[.val (.int p1), .val (.int p2), .val (.int p3), .unset, .unset] [(.int (65533 : Int32)), (.int (10 : Int32)), (.ref bb), (.ref bb)]))
  obtain ⟨Tw0_12, hw0_12, Xw0_12, ew0_12, Ww0_12, Vw0_12, stw0_12⟩ := own_stI Xw0_11 hx hZ ew0_11 V_bb (j := (10 : Int32)) ⟨by decide, by decide⟩ (g := (mkF m 62 #[.val (.int p1), .val (.int p2), .val (.int p3), .unset, .unset] [(.int (65533 : Int32)), (.int (10 : Int32)), (.ref bb), (.ref bb)])) rfl rfl (hb hby at_62)
  replace V_bb := Vw0_12
  have Nw0_12 := Fr.snoc Xw0_12 Nw0_11 g_bb
  have Zs_w0_12 : n0 ≤ hw0_12.size := by rw [Ww0_12.size]; exact Zs_w0_11
  refine own_by (fun t k => stw0_12 t k) ?_
  have I11 := own_ints_set I10 ((10 : Int32)).toNatClampNeg (65533 : Int32)
  show own_Go _ _ _ _ (Tw0_12.setTop (mkF m 63 #[.val (.int p1), .val (.int p2), .val (.int p3), .unset, .unset] [(.ref bb)]))
  refine own_by (fun t k => XS.dup Xw0_12.here hx rfl (hb hby at_63) rfl rfl k) ?_
  show own_Go _ _ _ _ (Tw0_12.setTop (mkF m 64 #[.val (.int p1), .val (.int p2), .val (.int p3), .unset, .unset] [(.ref bb), (.ref bb)]))
  refine own_by (fun t k => XS.bipush Xw0_12.here hx rfl (hb hby at_64) k) ?_
  show own_Go _ _ _ _ (Tw0_12.setTop (mkF m 66 #[.val (.int p1), .val (.int p2), .val (.int p3), .unset, .unset] [(.int (11 : Int32)), (.ref bb), (.ref bb)]))
  refine own_by (fun t k => Xw0_12.ldcInt hx hown (mvT hZ (hw _ (List.mem_of_getElem? (i := 6) rfl))) (g := (mkF m 66 #[.val (.int p1), .val (.int p2), .val (.int p3), .unset, .unset] [(.int (11 : Int32)), (.ref bb), (.ref bb)])) rfl (hb hby at_66) _ k) ?_
  show own_Go _ _ _ _ (Tw0_12.setTop (mkF m 68 #[.val (.int p1), .val (.int p2), .val (.int p3), .unset, .unset] [(.int (65534 : Int32)), (.int (11 : Int32)), (.ref bb), (.ref bb)]))
  obtain ⟨Tw0_13, hw0_13, Xw0_13, ew0_13, Ww0_13, Vw0_13, stw0_13⟩ := own_stI Xw0_12 hx hZ ew0_12 V_bb (j := (11 : Int32)) ⟨by decide, by decide⟩ (g := (mkF m 68 #[.val (.int p1), .val (.int p2), .val (.int p3), .unset, .unset] [(.int (65534 : Int32)), (.int (11 : Int32)), (.ref bb), (.ref bb)])) rfl rfl (hb hby at_68)
  replace V_bb := Vw0_13
  have Nw0_13 := Fr.snoc Xw0_13 Nw0_12 g_bb
  have Zs_w0_13 : n0 ≤ hw0_13.size := by rw [Ww0_13.size]; exact Zs_w0_12
  refine own_by (fun t k => stw0_13 t k) ?_
  have I12 := own_ints_set I11 ((11 : Int32)).toNatClampNeg (65534 : Int32)
  show own_Go _ _ _ _ (Tw0_13.setTop (mkF m 69 #[.val (.int p1), .val (.int p2), .val (.int p3), .unset, .unset] [(.ref bb)]))
  refine own_by (fun t k => XS.dup Xw0_13.here hx rfl (hb hby at_69) rfl rfl k) ?_
  show own_Go _ _ _ _ (Tw0_13.setTop (mkF m 70 #[.val (.int p1), .val (.int p2), .val (.int p3), .unset, .unset] [(.ref bb), (.ref bb)]))
  refine own_by (fun t k => XS.bipush Xw0_13.here hx rfl (hb hby at_70) k) ?_
  show own_Go _ _ _ _ (Tw0_13.setTop (mkF m 72 #[.val (.int p1), .val (.int p2), .val (.int p3), .unset, .unset] [(.int (12 : Int32)), (.ref bb), (.ref bb)]))
  refine own_by (fun t k => Xw0_13.ldcInt hx hown (mvT hZ (hw _ (List.mem_of_getElem? (i := 7) rfl))) (g := (mkF m 72 #[.val (.int p1), .val (.int p2), .val (.int p3), .unset, .unset] [(.int (12 : Int32)), (.ref bb), (.ref bb)])) rfl (hb hby at_72) _ k) ?_
  show own_Go _ _ _ _ (Tw0_13.setTop (mkF m 74 #[.val (.int p1), .val (.int p2), .val (.int p3), .unset, .unset] [(.int (65535 : Int32)), (.int (12 : Int32)), (.ref bb), (.ref bb)]))
  obtain ⟨Tw0_14, hw0_14, Xw0_14, ew0_14, Ww0_14, Vw0_14, stw0_14⟩ := own_stI Xw0_13 hx hZ ew0_13 V_bb (j := (12 : Int32)) ⟨by decide, by decide⟩ (g := (mkF m 74 #[.val (.int p1), .val (.int p2), .val (.int p3), .unset, .unset] [(.int (65535 : Int32)), (.int (12 : Int32)), (.ref bb), (.ref bb)])) rfl rfl (hb hby at_74)
  replace V_bb := Vw0_14
  have Nw0_14 := Fr.snoc Xw0_14 Nw0_13 g_bb
  have Zs_w0_14 : n0 ≤ hw0_14.size := by rw [Ww0_14.size]; exact Zs_w0_13
  refine own_by (fun t k => stw0_14 t k) ?_
  have I13 := own_ints_set I12 ((12 : Int32)).toNatClampNeg (65535 : Int32)
  show own_Go _ _ _ _ (Tw0_14.setTop (mkF m 75 #[.val (.int p1), .val (.int p2), .val (.int p3), .unset, .unset] [(.ref bb)]))
  refine own_by (fun t k => XS.dup Xw0_14.here hx rfl (hb hby at_75) rfl rfl k) ?_
  show own_Go _ _ _ _ (Tw0_14.setTop (mkF m 76 #[.val (.int p1), .val (.int p2), .val (.int p3), .unset, .unset] [(.ref bb), (.ref bb)]))
  refine own_by (fun t k => XS.bipush Xw0_14.here hx rfl (hb hby at_76) k) ?_
  show own_Go _ _ _ _ (Tw0_14.setTop (mkF m 78 #[.val (.int p1), .val (.int p2), .val (.int p3), .unset, .unset] [(.int (13 : Int32)), (.ref bb), (.ref bb)]))
  refine own_by (fun t k => Xw0_14.ldcInt hx hown (mvT hZ (hw _ (List.mem_of_getElem? (i := 8) rfl))) (g := (mkF m 78 #[.val (.int p1), .val (.int p2), .val (.int p3), .unset, .unset] [(.int (13 : Int32)), (.ref bb), (.ref bb)])) rfl (hb hby at_78) _ k) ?_
  show own_Go _ _ _ _ (Tw0_14.setTop (mkF m 80 #[.val (.int p1), .val (.int p2), .val (.int p3), .unset, .unset] [(.int (65536 : Int32)), (.int (13 : Int32)), (.ref bb), (.ref bb)]))
  obtain ⟨Tw0_15, hw0_15, Xw0_15, ew0_15, Ww0_15, Vw0_15, stw0_15⟩ := own_stI Xw0_14 hx hZ ew0_14 V_bb (j := (13 : Int32)) ⟨by decide, by decide⟩ (g := (mkF m 80 #[.val (.int p1), .val (.int p2), .val (.int p3), .unset, .unset] [(.int (65536 : Int32)), (.int (13 : Int32)), (.ref bb), (.ref bb)])) rfl rfl (hb hby at_80)
  replace V_bb := Vw0_15
  have Nw0_15 := Fr.snoc Xw0_15 Nw0_14 g_bb
  have Zs_w0_15 : n0 ≤ hw0_15.size := by rw [Ww0_15.size]; exact Zs_w0_14
  refine own_by (fun t k => stw0_15 t k) ?_
  have I14 := own_ints_set I13 ((13 : Int32)).toNatClampNeg (65536 : Int32)
  show own_Go _ _ _ _ (Tw0_15.setTop (mkF m 81 #[.val (.int p1), .val (.int p2), .val (.int p3), .unset, .unset] [(.ref bb)]))
  refine own_by (fun t k => XS.dup Xw0_15.here hx rfl (hb hby at_81) rfl rfl k) ?_
  show own_Go _ _ _ _ (Tw0_15.setTop (mkF m 82 #[.val (.int p1), .val (.int p2), .val (.int p3), .unset, .unset] [(.ref bb), (.ref bb)]))
  refine own_by (fun t k => XS.bipush Xw0_15.here hx rfl (hb hby at_82) k) ?_
  show own_Go _ _ _ _ (Tw0_15.setTop (mkF m 84 #[.val (.int p1), .val (.int p2), .val (.int p3), .unset, .unset] [(.int (14 : Int32)), (.ref bb), (.ref bb)]))
  refine own_by (fun t k => Xw0_15.ldcInt hx hown (mvT hZ (hw _ (List.mem_of_getElem? (i := 9) rfl))) (g := (mkF m 84 #[.val (.int p1), .val (.int p2), .val (.int p3), .unset, .unset] [(.int (14 : Int32)), (.ref bb), (.ref bb)])) rfl (hb hby at_84) _ k) ?_
  show own_Go _ _ _ _ (Tw0_15.setTop (mkF m 86 #[.val (.int p1), .val (.int p2), .val (.int p3), .unset, .unset] [(.int (1114111 : Int32)), (.int (14 : Int32)), (.ref bb), (.ref bb)]))
  obtain ⟨Tw0_16, hw0_16, Xw0_16, ew0_16, Ww0_16, Vw0_16, stw0_16⟩ := own_stI Xw0_15 hx hZ ew0_15 V_bb (j := (14 : Int32)) ⟨by decide, by decide⟩ (g := (mkF m 86 #[.val (.int p1), .val (.int p2), .val (.int p3), .unset, .unset] [(.int (1114111 : Int32)), (.int (14 : Int32)), (.ref bb), (.ref bb)])) rfl rfl (hb hby at_86)
  replace V_bb := Vw0_16
  have Nw0_16 := Fr.snoc Xw0_16 Nw0_15 g_bb
  have Zs_w0_16 : n0 ≤ hw0_16.size := by rw [Ww0_16.size]; exact Zs_w0_15
  refine own_by (fun t k => stw0_16 t k) ?_
  have I15 := own_ints_set I14 ((14 : Int32)).toNatClampNeg (1114111 : Int32)
  show own_Go _ _ _ _ (Tw0_16.setTop (mkF m 87 #[.val (.int p1), .val (.int p2), .val (.int p3), .unset, .unset] [(.ref bb)]))
  refine own_by (fun t k => XS.dup Xw0_16.here hx rfl (hb hby at_87) rfl rfl k) ?_
  show own_Go _ _ _ _ (Tw0_16.setTop (mkF m 88 #[.val (.int p1), .val (.int p2), .val (.int p3), .unset, .unset] [(.ref bb), (.ref bb)]))
  refine own_by (fun t k => XS.bipush Xw0_16.here hx rfl (hb hby at_88) k) ?_
  show own_Go _ _ _ _ (Tw0_16.setTop (mkF m 90 #[.val (.int p1), .val (.int p2), .val (.int p3), .unset, .unset] [(.int (15 : Int32)), (.ref bb), (.ref bb)]))
  refine own_by (fun t k => Xw0_16.ldcInt hx hown (mvT hZ (hw _ (List.mem_of_getElem? (i := 10) rfl))) (g := (mkF m 90 #[.val (.int p1), .val (.int p2), .val (.int p3), .unset, .unset] [(.int (15 : Int32)), (.ref bb), (.ref bb)])) rfl (hb hby at_90) _ k) ?_
  show own_Go _ _ _ _ (Tw0_16.setTop (mkF m 92 #[.val (.int p1), .val (.int p2), .val (.int p3), .unset, .unset] [(.int (1114112 : Int32)), (.int (15 : Int32)), (.ref bb), (.ref bb)]))
  obtain ⟨Tw0_17, hw0_17, Xw0_17, ew0_17, Ww0_17, Vw0_17, stw0_17⟩ := own_stI Xw0_16 hx hZ ew0_16 V_bb (j := (15 : Int32)) ⟨by decide, by decide⟩ (g := (mkF m 92 #[.val (.int p1), .val (.int p2), .val (.int p3), .unset, .unset] [(.int (1114112 : Int32)), (.int (15 : Int32)), (.ref bb), (.ref bb)])) rfl rfl (hb hby at_92)
  replace V_bb := Vw0_17
  have Nw0_17 := Fr.snoc Xw0_17 Nw0_16 g_bb
  have Zs_w0_17 : n0 ≤ hw0_17.size := by rw [Ww0_17.size]; exact Zs_w0_16
  refine own_by (fun t k => stw0_17 t k) ?_
  have I16 := own_ints_set I15 ((15 : Int32)).toNatClampNeg (1114112 : Int32)
  show own_Go _ _ _ _ (Tw0_17.setTop (mkF m 93 #[.val (.int p1), .val (.int p2), .val (.int p3), .unset, .unset] [(.ref bb)]))
  refine own_by (fun t k => XS.dup Xw0_17.here hx rfl (hb hby at_93) rfl rfl k) ?_
  show own_Go _ _ _ _ (Tw0_17.setTop (mkF m 94 #[.val (.int p1), .val (.int p2), .val (.int p3), .unset, .unset] [(.ref bb), (.ref bb)]))
  refine own_by (fun t k => XS.bipush Xw0_17.here hx rfl (hb hby at_94) k) ?_
  show own_Go _ _ _ _ (Tw0_17.setTop (mkF m 96 #[.val (.int p1), .val (.int p2), .val (.int p3), .unset, .unset] [(.int (16 : Int32)), (.ref bb), (.ref bb)]))
  refine own_by (fun t k => Xw0_17.ldcInt hx hown (mvT hZ (hw _ (List.mem_of_getElem? (i := 11) rfl))) (g := (mkF m 96 #[.val (.int p1), .val (.int p2), .val (.int p3), .unset, .unset] [(.int (16 : Int32)), (.ref bb), (.ref bb)])) rfl (hb hby at_96) _ k) ?_
  show own_Go _ _ _ _ (Tw0_17.setTop (mkF m 98 #[.val (.int p1), .val (.int p2), .val (.int p3), .unset, .unset] [(.int (-2147483648 : Int32)), (.int (16 : Int32)), (.ref bb), (.ref bb)]))
  obtain ⟨Tw0_18, hw0_18, Xw0_18, ew0_18, Ww0_18, Vw0_18, stw0_18⟩ := own_stI Xw0_17 hx hZ ew0_17 V_bb (j := (16 : Int32)) ⟨by decide, by decide⟩ (g := (mkF m 98 #[.val (.int p1), .val (.int p2), .val (.int p3), .unset, .unset] [(.int (-2147483648 : Int32)), (.int (16 : Int32)), (.ref bb), (.ref bb)])) rfl rfl (hb hby at_98)
  replace V_bb := Vw0_18
  have Nw0_18 := Fr.snoc Xw0_18 Nw0_17 g_bb
  have Zs_w0_18 : n0 ≤ hw0_18.size := by rw [Ww0_18.size]; exact Zs_w0_17
  refine own_by (fun t k => stw0_18 t k) ?_
  have I17 := own_ints_set I16 ((16 : Int32)).toNatClampNeg (-2147483648 : Int32)
  show own_Go _ _ _ _ (Tw0_18.setTop (mkF m 99 #[.val (.int p1), .val (.int p2), .val (.int p3), .unset, .unset] [(.ref bb)]))
  refine own_by (fun t k => XS.dup Xw0_18.here hx rfl (hb hby at_99) rfl rfl k) ?_
  show own_Go _ _ _ _ (Tw0_18.setTop (mkF m 100 #[.val (.int p1), .val (.int p2), .val (.int p3), .unset, .unset] [(.ref bb), (.ref bb)]))
  refine own_by (fun t k => XS.bipush Xw0_18.here hx rfl (hb hby at_100) k) ?_
  show own_Go _ _ _ _ (Tw0_18.setTop (mkF m 102 #[.val (.int p1), .val (.int p2), .val (.int p3), .unset, .unset] [(.int (17 : Int32)), (.ref bb), (.ref bb)]))
  refine own_by (fun t k => Xw0_18.ldcInt hx hown (mvT hZ (hw _ (List.mem_of_getElem? (i := 12) rfl))) (g := (mkF m 102 #[.val (.int p1), .val (.int p2), .val (.int p3), .unset, .unset] [(.int (17 : Int32)), (.ref bb), (.ref bb)])) rfl (hb hby at_102) _ k) ?_
  show own_Go _ _ _ _ (Tw0_18.setTop (mkF m 104 #[.val (.int p1), .val (.int p2), .val (.int p3), .unset, .unset] [(.int (2147483647 : Int32)), (.int (17 : Int32)), (.ref bb), (.ref bb)]))
  obtain ⟨Tw0_19, hw0_19, Xw0_19, ew0_19, Ww0_19, Vw0_19, stw0_19⟩ := own_stI Xw0_18 hx hZ ew0_18 V_bb (j := (17 : Int32)) ⟨by decide, by decide⟩ (g := (mkF m 104 #[.val (.int p1), .val (.int p2), .val (.int p3), .unset, .unset] [(.int (2147483647 : Int32)), (.int (17 : Int32)), (.ref bb), (.ref bb)])) rfl rfl (hb hby at_104)
  replace V_bb := Vw0_19
  have Nw0_19 := Fr.snoc Xw0_19 Nw0_18 g_bb
  have Zs_w0_19 : n0 ≤ hw0_19.size := by rw [Ww0_19.size]; exact Zs_w0_18
  refine own_by (fun t k => stw0_19 t k) ?_
  have I18 := own_ints_set I17 ((17 : Int32)).toNatClampNeg (2147483647 : Int32)
  show own_Go _ _ _ _ (Tw0_19.setTop (mkF m 105 #[.val (.int p1), .val (.int p2), .val (.int p3), .unset, .unset] [(.ref bb)]))
  refine own_by (fun t k => XS.astoreN Xw0_19.here hx rfl (hb hby at_105) rfl rfl (l' := #[.val (.int p1), .val (.int p2), .val (.int p3), .val (.ref bb), .unset]) rfl k) ?_
  show own_Go _ _ _ _ (Tw0_19.setTop (mkF m 106 #[.val (.int p1), .val (.int p2), .val (.int p3), .val (.ref bb), .unset] []))
  have J135 : ∀ i4 : Int32, True → own_Go p.tables e below (P0 Z p1 p2 p3 h0 n0 s) (Tw0_19.setTop (mkF m 135 #[.val (.int p1), .val (.int p2), .val (.int p3), .val (.ref bb), .val (.int i4)] [])) := by
    intro i4 _
    show own_Go _ _ _ _ (Tw0_19.setTop (mkF m 135 #[.val (.int p1), .val (.int p2), .val (.int p3), .val (.ref bb), .val (.int i4)] []))
    refine own_by (fun t k => XS.iload Xw0_19.here hx rfl (hb hby at_135) rfl k) ?_
    show own_Go _ _ _ _ (Tw0_19.setTop (mkF m 137 #[.val (.int p1), .val (.int p2), .val (.int p3), .val (.ref bb), .val (.int i4)] [(.int i4)]))
    obtain ⟨_, _, ⟨Tc0_20, Lc0_20, kc0_20, nc0_20⟩, -, Xc0_20, ⟨Lcc0_20, hQc0_20, lc0_20, yc0_20, zc0_20⟩, stc0_20⟩ := Jvm.LawKit.callS Xw0_19 hx (y := (⟨"com/example/bordereau/bordereau/XmlOutput", "isWritable", "(I)Z"⟩ : MethodName)) hown (mvT hZ (hw _ (List.mem_of_getElem? (i := 13) rfl))) (mvT hZ (hw _ (List.mem_of_getElem? (i := 14) rfl))) (mvT hZ (hw _ (List.mem_of_getElem? (i := 15) rfl))) (mvT hZ (hw _ (List.mem_of_getElem? (i := 16) rfl))) (by decide) (backOf (W := 0) (rm1 l Z a0 hw [] i4  hw0_19 n0 Zs_w0_19 ) hZ (hw _ (List.mem_of_getElem? (i := 16) rfl)) (hw _ (List.mem_of_getElem? (i := 15) rfl)) (by decide) (by decide)) (g := (mkF m 137 #[.val (.int p1), .val (.int p2), .val (.int p3), .val (.ref bb), .val (.int i4)] [(.int i4)])) rfl (by rw [hml]; rfl) (argsL := [(.int i4)]) (rest := []) (lenOf pd_0_0 rfl) rfl (by show 2 * 0 + _ ≤ _; exact Nat.le_of_eq rfl) (hb hby at_137) (fun _ _ => ⟨rfl, ew0_19, (by decide : 1 + 0 ≤ _), (by decide : 18 + 0 ≤ _)⟩)
    dsimp only [Pt.U, Pt.locs, Pt.cells, Pt.slots] at Xc0_20 lc0_20 yc0_20 zc0_20 stc0_20 hQc0_20
    subst lc0_20 yc0_20 zc0_20
    obtain ⟨rfl, Nc0_20q, ehc0_20⟩ := hQc0_20
    have Nc0_20 := Fr.app Nw0_19 Nc0_20q
    refine own_by (fun t k => stc0_20 t k) ?_
    show own_Go _ _ _ _ (Tc0_20.setTop (mkF m 140 #[.val (.int p1), .val (.int p2), .val (.int p3), .val (.ref bb), .val (.int i4)] [(.int (own_wr i4))]))
    refine own_by (fun t k => XS.iload Xc0_20.here hx rfl (hb hby at_140) rfl k) ?_
    show own_Go _ _ _ _ (Tc0_20.setTop (mkF m 142 #[.val (.int p1), .val (.int p2), .val (.int p3), .val (.ref bb), .val (.int i4)] [(.int i4), (.int (own_wr i4))]))
    obtain ⟨_, _, ⟨Tc0_21, Lc0_21, kc0_21, nc0_21⟩, -, Xc0_21, ⟨Lcc0_21, hQc0_21, lc0_21, yc0_21, zc0_21⟩, stc0_21⟩ := Jvm.LawKit.callS Xc0_20 hx (y := (⟨"com/example/bordereau/bordereau/XmlOutputIsWritablePinLaw", "expected", "(I)Z"⟩ : MethodName)) hown (mvT hZ (hw _ (List.mem_of_getElem? (i := 19) rfl))) (mvT hZ (hw _ (List.mem_of_getElem? (i := 20) rfl))) (mvT hZ (hw _ (List.mem_of_getElem? (i := 21) rfl))) (mvT hZ (hw _ (List.mem_of_getElem? (i := 22) rfl))) (by decide) (backOf (W := 1) (rm2 l Z a0 hw [] i4  hw0_19 n0 Zs_w0_19 ) hZ (hw _ (List.mem_of_getElem? (i := 22) rfl)) (hw _ (List.mem_of_getElem? (i := 21) rfl)) (by decide) (by decide)) (g := (mkF m 142 #[.val (.int p1), .val (.int p2), .val (.int p3), .val (.ref bb), .val (.int i4)] [(.int i4), (.int (own_wr i4))])) rfl (by rw [hml]; rfl) (argsL := [(.int i4)]) (rest := [(.int (own_wr i4))]) (lenOf pd_0_0 rfl) rfl (by show 2 * 0 + _ ≤ _; exact Nat.le_of_eq rfl) (hb hby at_142) (fun _ _ => ⟨rfl, ehc0_20, (by decide : 1 + 0 ≤ _), (by decide : 18 + 0 ≤ _)⟩)
    dsimp only [Pt.U, Pt.locs, Pt.cells, Pt.slots] at Xc0_21 lc0_21 yc0_21 zc0_21 stc0_21 hQc0_21
    subst lc0_21 yc0_21 zc0_21
    obtain ⟨rfl, Nc0_21q, ehc0_21⟩ := hQc0_21
    have Nc0_21 := Fr.app Nc0_20 Nc0_21q
    refine own_by (fun t k => stc0_21 t k) ?_
    show own_Go _ _ _ _ (Tc0_21.setTop (mkF m 145 #[.val (.int p1), .val (.int p2), .val (.int p3), .val (.ref bb), .val (.int i4)] [(.int (own_wr i4)), (.int (own_wr i4))]))
    refine own_by (fun t k => XS.icmpNo Xc0_21.here hx rfl (hb hby at_145) rfl (teq (rfl : (own_wr i4) = (own_wr i4))).2 k) ?_
    show own_Go _ _ _ _ (Tc0_21.setTop (mkF m 148 #[.val (.int p1), .val (.int p2), .val (.int p3), .val (.ref bb), .val (.int i4)] []))
    refine own_by (fun t k => XS.iconst Xc0_21.here hx rfl (hb hby at_148) k) ?_
    show own_Go _ _ _ _ (Tc0_21.setTop (mkF m 149 #[.val (.int p1), .val (.int p2), .val (.int p3), .val (.ref bb), .val (.int i4)] [(.int (1 : Int32))]))
    refine own_by (fun t k => XS.goto Xc0_21.here hx rfl (pc0 := 149) (pc' := 153) rfl (hb hby at_149) (by decide) (by decide) k) ?_
    show own_Go _ _ _ _ (Tc0_21.setTop (mkF m 153 #[.val (.int p1), .val (.int p2), .val (.int p3), .val (.ref bb), .val (.int i4)] [(.int (1 : Int32))]))
    obtain ⟨fs, hr, hrun, hended, hW, hsame⟩ := Xc0_21.leave (v := some (.int (1 : Int32))) (fun h => by rw [Bd.returns] at h; cases h)
    refine ⟨_, _, retN Xc0_21 hx (t := .boolean) Bd.returns (by simp) (hb hby at_153) hr, hrun, hended, _, _, rfl, ?_, ⟨_, rfl⟩, hW, hsame.mono (by decide) (by decide)⟩
    show Q0 Z p1 p2 p3 h0 n0 _ Tc0_21.heap _
    rw [ehc0_21]
    exact ⟨rfl, Nc0_21⟩
  show own_Go _ _ _ _ (Tw0_19.setTop (mkF m 106 #[.val (.int p1), .val (.int p2), .val (.int p3), .val (.ref bb), .unset] []))
  refine own_by (fun t k => XS.iloadN Xw0_19.here hx rfl (hb hby at_106) rfl k) ?_
  show own_Go _ _ _ _ (Tw0_19.setTop (mkF m 107 #[.val (.int p1), .val (.int p2), .val (.int p3), .val (.ref bb), .unset] [(.int p2)]))
  refine own_by (fun t k => XS.iconst Xw0_19.here hx rfl (hb hby at_107) k) ?_
  show own_Go _ _ _ _ (Tw0_19.setTop (mkF m 108 #[.val (.int p1), .val (.int p2), .val (.int p3), .val (.ref bb), .unset] [(.int (1 : Int32)), (.int p2)]))
  refine own_by (fun t k => XS.iand Xw0_19.here hx rfl (hb hby at_108) rfl k) ?_
  show own_Go _ _ _ _ (Tw0_19.setTop (mkF m 109 #[.val (.int p1), .val (.int p2), .val (.int p3), .val (.ref bb), .unset] [(.int (p2 &&& (1 : Int32)))]))
  by_cases hc109 : (p2 &&& (1 : Int32)) = (0 : Int32)
  · refine own_by (fun t k => XS.ifNo Xw0_19.here hx rfl (hb hby at_109) rfl ((if0 _ _).trans (teq hc109).2) k) ?_
    show own_Go _ _ _ _ (Tw0_19.setTop (mkF m 112 #[.val (.int p1), .val (.int p2), .val (.int p3), .val (.ref bb), .unset] []))
    refine own_by (fun t k => XS.iloadN Xw0_19.here hx rfl (hb hby at_112) rfl k) ?_
    show own_Go _ _ _ _ (Tw0_19.setTop (mkF m 113 #[.val (.int p1), .val (.int p2), .val (.int p3), .val (.ref bb), .unset] [(.int p1)]))
    refine own_by (fun t k => XS.istore Xw0_19.here hx rfl (hb hby at_113) rfl (l' := #[.val (.int p1), .val (.int p2), .val (.int p3), .val (.ref bb), .val (.int p1)]) rfl k) ?_
    show own_Go _ _ _ _ (Tw0_19.setTop (mkF m 115 #[.val (.int p1), .val (.int p2), .val (.int p3), .val (.ref bb), .val (.int p1)] []))
    refine own_by (fun t k => XS.goto Xw0_19.here hx rfl (pc0 := 115) (pc' := 135) rfl (hb hby at_115) (by decide) (by decide) k) ?_
    show own_Go _ _ _ _ (Tw0_19.setTop (mkF m 135 #[.val (.int p1), .val (.int p2), .val (.int p3), .val (.ref bb), .val (.int p1)] []))
    exact J135 _ trivial
  · refine own_by (fun t k => XS.ifYes Xw0_19.here hx rfl (pc0 := 109) (pc' := 118) rfl (hb hby at_109) rfl ((if0 _ _).trans (feq hc109).2) (by decide) (by decide) k) ?_
    show own_Go _ _ _ _ (Tw0_19.setTop (mkF m 118 #[.val (.int p1), .val (.int p2), .val (.int p3), .val (.ref bb), .unset] []))
    refine own_by (fun t k => XS.aloadN Xw0_19.here hx rfl (hb hby at_118) rfl rfl k) ?_
    show own_Go _ _ _ _ (Tw0_19.setTop (mkF m 119 #[.val (.int p1), .val (.int p2), .val (.int p3), .val (.ref bb), .unset] [(.ref bb)]))
    refine own_by (fun t k => XS.iloadN Xw0_19.here hx rfl (hb hby at_119) rfl k) ?_
    show own_Go _ _ _ _ (Tw0_19.setTop (mkF m 120 #[.val (.int p1), .val (.int p2), .val (.int p3), .val (.ref bb), .unset] [(.int p2), (.ref bb)]))
    refine own_by (fun t k => XS.iconst Xw0_19.here hx rfl (hb hby at_120) k) ?_
    show own_Go _ _ _ _ (Tw0_19.setTop (mkF m 121 #[.val (.int p1), .val (.int p2), .val (.int p3), .val (.ref bb), .unset] [(.int (1 : Int32)), (.int p2), (.ref bb)]))
    refine own_by (fun t k => XS.iushr Xw0_19.here hx rfl (hb hby at_121) rfl k) ?_
    show own_Go _ _ _ _ (Tw0_19.setTop (mkF m 122 #[.val (.int p1), .val (.int p2), .val (.int p3), .val (.ref bb), .unset] [(.int ((p2.toUInt32 >>> ((1 : Int32) &&& 31).toUInt32).toInt32)), (.ref bb)]))
    refine own_by (fun t k => XS.aloadN Xw0_19.here hx rfl (hb hby at_122) rfl rfl k) ?_
    show own_Go _ _ _ _ (Tw0_19.setTop (mkF m 123 #[.val (.int p1), .val (.int p2), .val (.int p3), .val (.ref bb), .unset] [(.ref bb), (.int ((p2.toUInt32 >>> ((1 : Int32) &&& 31).toUInt32).toInt32)), (.ref bb)]))
    obtain ⟨cll0_22, Arl0_22, Sl0_22, Ml0_22, -⟩ := id V_bb
    refine own_by (fun t k => Xw0_19.arraylength hx (by rw [ew0_19]; exact Arl0_22.1) (State.isArrayOf_alike hZ.alike Arl0_22.2.1) (g := (mkF m 123 #[.val (.int p1), .val (.int p2), .val (.int p3), .val (.ref bb), .unset] [(.ref bb), (.int ((p2.toUInt32 >>> ((1 : Int32) &&& 31).toUInt32).toInt32)), (.ref bb)])) rfl rfl (hb hby at_123) _ k) ?_
    rw [len_of Sl0_22 Ml0_22]
    show own_Go _ _ _ _ (Tw0_19.setTop (mkF m 124 #[.val (.int p1), .val (.int p2), .val (.int p3), .val (.ref bb), .unset] [(.int (18 : Int32)), (.int ((p2.toUInt32 >>> ((1 : Int32) &&& 31).toUInt32).toInt32)), (.ref bb)]))
    refine own_by (fun t k => iremM Xw0_19 hx rfl (hb hby at_124) rfl (by decide : ¬ ((18 : Int32) = (0 : Int32))) k) ?_
    show own_Go _ _ _ _ (Tw0_19.setTop (mkF m 125 #[.val (.int p1), .val (.int p2), .val (.int p3), .val (.ref bb), .unset] [(.int (((p2.toUInt32 >>> ((1 : Int32) &&& 31).toUInt32).toInt32) % (18 : Int32))), (.ref bb)]))
    obtain ⟨jj, hjj⟩ : ∃ z : Int32, z = (((p2.toUInt32 >>> ((1 : Int32) &&& 31).toUInt32).toInt32) % (18 : Int32)) := ⟨_, rfl⟩
    rw [← hjj]
    have hji : ¬ jj < 0 ∧ jj < 18 := by rw [hjj]; exact own_idx p2
    obtain ⟨ww, hww⟩ := I18 jj.toNatClampNeg
    show own_Go _ _ _ _ (Tw0_19.setTop (mkF m 125 #[.val (.int p1), .val (.int p2), .val (.int p3), .val (.ref bb), .unset] [(.int jj), (.ref bb)]))
    obtain ⟨clr0_23, Arr0_23, hir0_23, har0_23⟩ := V_bb.at (j := jj) hji
    replace har0_23 := har0_23.trans (congrArg some hww)
    refine own_by (fun t k => Xw0_19.iaload hx (j := jj) (v := (.int ww)) (by rw [ew0_19]; exact Arr0_23.1) (State.isArrayOf_alike hZ.alike Arr0_23.2.1) Arr0_23.2.2 hir0_23 har0_23 (g := (mkF m 125 #[.val (.int p1), .val (.int p2), .val (.int p3), .val (.ref bb), .unset] [(.int jj), (.ref bb)])) rfl rfl (hb hby at_125) _ k) ?_
    show own_Go _ _ _ _ (Tw0_19.setTop (mkF m 126 #[.val (.int p1), .val (.int p2), .val (.int p3), .val (.ref bb), .unset] [(.int ww)]))
    refine own_by (fun t k => XS.iloadN Xw0_19.here hx rfl (hb hby at_126) rfl k) ?_
    show own_Go _ _ _ _ (Tw0_19.setTop (mkF m 127 #[.val (.int p1), .val (.int p2), .val (.int p3), .val (.ref bb), .unset] [(.int p3), (.int ww)]))
    refine own_by (fun t k => XS.bipush Xw0_19.here hx rfl (hb hby at_127) k) ?_
    show own_Go _ _ _ _ (Tw0_19.setTop (mkF m 129 #[.val (.int p1), .val (.int p2), .val (.int p3), .val (.ref bb), .unset] [(.int (7 : Int32)), (.int p3), (.int ww)]))
    refine own_by (fun t k => XS.iand Xw0_19.here hx rfl (hb hby at_129) rfl k) ?_
    show own_Go _ _ _ _ (Tw0_19.setTop (mkF m 130 #[.val (.int p1), .val (.int p2), .val (.int p3), .val (.ref bb), .unset] [(.int (p3 &&& (7 : Int32))), (.int ww)]))
    refine own_by (fun t k => XS.iconst Xw0_19.here hx rfl (hb hby at_130) k) ?_
    show own_Go _ _ _ _ (Tw0_19.setTop (mkF m 131 #[.val (.int p1), .val (.int p2), .val (.int p3), .val (.ref bb), .unset] [(.int (4 : Int32)), (.int (p3 &&& (7 : Int32))), (.int ww)]))
    refine own_by (fun t k => XS.isub Xw0_19.here hx rfl (hb hby at_131) rfl k) ?_
    show own_Go _ _ _ _ (Tw0_19.setTop (mkF m 132 #[.val (.int p1), .val (.int p2), .val (.int p3), .val (.ref bb), .unset] [(.int ((p3 &&& (7 : Int32)) - (4 : Int32))), (.int ww)]))
    refine own_by (fun t k => XS.iadd Xw0_19.here hx rfl (hb hby at_132) rfl k) ?_
    show own_Go _ _ _ _ (Tw0_19.setTop (mkF m 133 #[.val (.int p1), .val (.int p2), .val (.int p3), .val (.ref bb), .unset] [(.int (ww + ((p3 &&& (7 : Int32)) - (4 : Int32))))]))
    refine own_by (fun t k => XS.istore Xw0_19.here hx rfl (hb hby at_133) rfl (l' := #[.val (.int p1), .val (.int p2), .val (.int p3), .val (.ref bb), .val (.int (ww + ((p3 &&& (7 : Int32)) - (4 : Int32))))]) rfl k) ?_
    show own_Go _ _ _ _ (Tw0_19.setTop (mkF m 135 #[.val (.int p1), .val (.int p2), .val (.int p3), .val (.ref bb), .val (.int (ww + ((p3 &&& (7 : Int32)) - (4 : Int32))))] []))
    exact J135 _ trivial
set_option maxRecDepth 65536 in
set_option maxHeartbeats 40000000 in
theorem comes_1 {Post : Tables → Env → Array Value → State → Outcome → State → Prop} (hpost : ∀ tb e args s v u, (limb_1_1.after args s (.returned v) u = true ∧ limb_1_2.after args s (.returned v) u = true ∧ True) → FrameEnd s (.returned v) u (Jvm.fieldLocs frame_1_writes args s ++ Jvm.arrayLocs frame_1_arrays args s ++ Jvm.staticLocs frame_1_statics s) 16 128 → Post tb e args s (.returned v) u) :
    ArmFor flags0 classFile x code maxLocals ret World_1 tables_1 room_1 Calls_1 rest_1 Pre_1 Post := by
  intro l hfl _ _ p e ha hc hk s m args below hf hA hF happ hP
  obtain ⟨hcalls, hrest, hpre⟩ := hP
  obtain ⟨-, -, -, hnamed, -, -, -, hat⟩ := (Spec.applies_iff hf).mp happ
  obtain ⟨hg, hn⟩ := and_e (Cond.before_iff.mp (show (Jvm.Cond.and given_1 narrow_1).before args s = true from hpre))
  obtain ⟨gc, gr0⟩ := and_e hg
  obtain ⟨ga0, gr1⟩ := and_e gr0
  obtain ⟨ga1, gr2⟩ := and_e gr1
  obtain ⟨w0, w1, w2, rfl⟩ : ∃ w0 w1 w2 : Value, args = #[w0, w1, w2] := by
    have hs : args.size = 3 := by simpa [Cond.value, given_1] using gc
    obtain ⟨L⟩ := args
    match L, hs with
    | [w0, w1, w2], _ => exact ⟨w0, w1, w2, rfl⟩
  have hw := fun d (hd : d ∈ tables_1) => atoms_spec (ws := Jvm.Cond.code x code maxLocals ret :: tables_1) hat d (List.mem_cons_of_mem _ hd)
  obtain ⟨i0, ei0⟩ := is_v ga0
  obtain rfl : w0 = (.int i0) := Option.some.inj ei0
  obtain ⟨i1, ei1⟩ := is_v ga1
  obtain rfl : w1 = (.int i1) := Option.some.inj ei1
  obtain ⟨i2, ei2⟩ := is_v gr2
  obtain rfl : w2 = (.int i2) := Option.some.inj ei2
  obtain ⟨n, o, h1, h2, h3, _, L, rfl, ⟨rfl, N⟩, hq⟩ := rm0 l s _ hw tables_1 i0 i1 i2 s.heap s.heap.size (Nat.le_refl _) p e ha hc hk s m _ below hf ((Spec.applies_iff_loose hf).mp happ).1 ⟨rfl, State.Warmed39.refl s, rfl⟩ trivial
  refine ⟨n, _, h1, h2, h3, hpost _ _ _ _ _ _ ⟨Cond.after_iff.mpr rfl, Cond.after_iff.mpr (eq_i res_at (Term.int_eval (1)) rfl), trivial⟩ ⟨hq.1, hq.2.1, (hq.2.2.sift fun y hy => Or.inr (N y hy)).mono (by decide) (by decide)⟩⟩
theorem main_1_1 : Claimed_1_1 := comes_1 fun _ _ _ _ _ _ h hF => ⟨h.1, hF⟩
theorem main_1_2 : Claimed_1_2 := comes_1 fun _ _ _ _ _ _ h hF => ⟨h.2.1, hF⟩
end Jvm.Pilot.@@N@@
namespace Jvm.Pilot.@@N@@
open Jvm Jvm.ClassFile Sem Op Lib Jvm.Free Jvm.Stand Jvm.Pilot.@@N@@.Jvm.D
/-! MADE BY PROGRAM (witnessworld.py) out of the Statement's table words and the real class files: 9 classes; the members and pool entries that the words name. The judged class is class 1, her method 1. -/
namespace start1
open Jvm.ClassFile
def u (s : String) : CpInfo := .utf8 (stringToUtf16 s)
/-- a pool by its gaps: so many unusable entries, then the entry; so many at the end -/
def gap : Nat → List CpInfo → List CpInfo
  | 0, r => r
  | n + 1, r => .unusable :: gap n r
def poolList (es : List (Nat × CpInfo)) (last : Nat) : List CpInfo := es.foldr (fun e r => gap e.1 (e.2 :: r)) (gap last [])
def pool (es : List (Nat × CpInfo)) (last : Nat) : Array CpInfo := ⟨poolList es last⟩
def fileOf (pool : Array CpInfo) (this : Nat) (attrs : Array Attribute := #[]) (ms : Array MethodInfo := #[]) (fl : Nat := 33) (sup : Nat := 0) (ifs : Array Nat := #[]) (fds : Array FieldInfo := #[]) : ClassFile where
  minorVersion := 0
  majorVersion := 65
  constantPool := pool
  accessFlags := fl
  thisClass := this
  superClass := sup
  interfaces := ifs
  fields := fds
  methods := ms
  attributes := attrs
def plain (name : String) (sup : Option ClassId) : Class where
  name := name
  kind := .ordinary
  loader := none
  accessFlags := 33
  super := sup
  interfaces := #[]
  cf := none
  fields := #[]
  methods := #[]
  instanceTypes := #[]
  staticTypes := #[]
  resolved := #[]
  callSites := []
  init := .initialized
  statics := none
  mirror := none

def pool0 : Array CpInfo := pool [(5, u "<init>"), (0, u "()V"), (1, .class_ 10), (1, u "java/lang/Object")] 113

def k0m0 : Method := { name := "<init>", desc := "()V", sig := { parameters := [], returnType := none }, accessFlags := 1, code := none }
/-- java/lang/Object -/
def k0 : Class := { plain "java/lang/Object" none with
  accessFlags := 33
  interfaces := #[]
  cf := some (fileOf pool0 8 #[] #[{ accessFlags := 1, nameIndex := 5, descriptorIndex := 6, attributes := #[] }] 33 0 #[] #[])
  fields := #[]
  methods := #[k0m0]
  instanceTypes := #[]
  staticTypes := #[]
  resolved := Array.replicate 124 none
  statics := none }

def pool1 : Array CpInfo := pool [(2, .class_ 4), (1, u "java/lang/Object"), (0, u "<init>"), (0, u "()V"), (0, .integer 55295), (0, .integer 55296), (0, .integer 57343), (0, .integer 57344), (0, .integer 65533), (0, .integer 65534), (0, .integer 65535), (0, .integer 65536), (0, .integer 1114111), (0, .integer 1114112), (2, .integer 2147483648), (0, .integer 2147483647), (0, .methodref 22 23), (0, .class_ 24), (0, .nameAndType 25 26), (0, u "com/example/bordereau/bordereau/XmlOutput"), (0, u "isWritable"), (0, u "(I)Z"), (0, .methodref 28 29), (0, .class_ 30), (0, .nameAndType 31 26), (0, u "com/example/bordereau/bordereau/XmlOutputIsWritablePinLaw"), (0, u "expected"), (2, u "law"), (0, u "(III)Z")] 5

def k1m0 : Method := { name := "<init>", desc := "()V", sig := { parameters := [], returnType := none }, accessFlags := 2, code := none }
def k1c1 : Code := { maxStack := 4, maxLocals := 5, code := code, exceptionTable := #[], attributes := #[] }
def k1m1 : Method := { name := "law", desc := "(III)Z", sig := { parameters := [.int, .int, .int], returnType := some .boolean }, accessFlags := 9, code := some k1c1 }
def k1c2 : Code := { maxStack := 2, maxLocals := 5, code := method_3_code, exceptionTable := #[], attributes := #[] }
def k1m2 : Method := { name := "expected", desc := "(I)Z", sig := { parameters := [.int], returnType := some .boolean }, accessFlags := 10, code := some k1c2 }
/-- com/example/bordereau/bordereau/XmlOutputIsWritablePinLaw -/
def k1 : Class := { plain "com/example/bordereau/bordereau/XmlOutputIsWritablePinLaw" (some 0) with
  accessFlags := 49
  interfaces := #[]
  cf := some (fileOf pool1 28 #[] #[{ accessFlags := 2, nameIndex := 5, descriptorIndex := 6, attributes := #[] }, { accessFlags := 9, nameIndex := 34, descriptorIndex := 35, attributes := #[] }, { accessFlags := 10, nameIndex := 31, descriptorIndex := 26, attributes := #[] }] 49 2 #[] #[])
  fields := #[]
  methods := #[k1m0, k1m1, k1m2]
  instanceTypes := #[]
  staticTypes := #[]
  resolved := Array.replicate 41 none
  statics := none }

def pool2 : Array CpInfo := pool [(2, .class_ 4), (1, u "java/lang/Object"), (25, .class_ 32), (1, u "com/example/bordereau/bordereau/XmlOutput"), (0, u "writer"), (0, u "Ljavax/xml/stream/XMLStreamWriter;"), (19, u "indented"), (0, u "Z"), (29, .integer 55295), (0, .integer 57344), (0, .integer 65533), (0, .integer 65536), (0, .integer 1114111), (9, u "depth"), (0, u "I"), (11, u "hasChildElements"), (156, u "isWritable"), (0, u "(I)Z"), (0, u "NAMESPACE"), (0, u "Ljava/lang/String;"), (1, u "INDENT")] 51

def k2c0 : Code := { maxStack := 2, maxLocals := 1, code := prog_28_method_5_code, exceptionTable := #[], attributes := #[] }
def k2m0 : Method := { name := "isWritable", desc := "(I)Z", sig := { parameters := [.int], returnType := some .boolean }, accessFlags := 8, code := some k2c0 }
/-- com/example/bordereau/bordereau/XmlOutput -/
def k2 : Class := { plain "com/example/bordereau/bordereau/XmlOutput" (some 0) with
  accessFlags := 48
  interfaces := #[]
  cf := some (fileOf pool2 30 #[] #[{ accessFlags := 8, nameIndex := 269, descriptorIndex := 270, attributes := #[] }] 48 2 #[] #[{ accessFlags := 24, nameIndex := 271, descriptorIndex := 272, attributes := #[] }, { accessFlags := 26, nameIndex := 274, descriptorIndex := 272, attributes := #[] }, { accessFlags := 18, nameIndex := 33, descriptorIndex := 34, attributes := #[] }, { accessFlags := 18, nameIndex := 54, descriptorIndex := 55, attributes := #[] }, { accessFlags := 2, nameIndex := 99, descriptorIndex := 100, attributes := #[] }, { accessFlags := 2, nameIndex := 112, descriptorIndex := 55, attributes := #[] }])
  fields := #[{ name := "NAMESPACE", type := (.object "java/lang/String"), accessFlags := 24, slot := 0, constantValue := 0 }, { name := "INDENT", type := (.object "java/lang/String"), accessFlags := 26, slot := 1, constantValue := 0 }, { name := "writer", type := (.object "javax/xml/stream/XMLStreamWriter"), accessFlags := 18, slot := 0, constantValue := 0 }, { name := "indented", type := .boolean, accessFlags := 18, slot := 1, constantValue := 0 }, { name := "depth", type := .int, accessFlags := 2, slot := 2, constantValue := 0 }, { name := "hasChildElements", type := .boolean, accessFlags := 2, slot := 3, constantValue := 0 }]
  methods := #[k2m0]
  instanceTypes := #[(.object "javax/xml/stream/XMLStreamWriter"), .boolean, .int, .boolean]
  staticTypes := #[(.object "java/lang/String"), (.object "java/lang/String")]
  resolved := Array.replicate 326 none
  statics := none }

def pool3 : Array CpInfo := pool [(1, u "java/lang/Cloneable"), (0, .class_ 1), (0, u "java/lang/Object"), (0, .class_ 3)] 3

/-- java/lang/Cloneable -/
def k3 : Class := { plain "java/lang/Cloneable" (some 0) with
  accessFlags := 1537
  interfaces := #[]
  cf := some (fileOf pool3 2 #[] #[] 1537 4 #[] #[])
  fields := #[]
  methods := #[]
  instanceTypes := #[]
  staticTypes := #[]
  resolved := Array.replicate 8 none
  statics := none }

def pool4 : Array CpInfo := pool [(1, u "java/io/Serializable"), (0, .class_ 1), (0, u "java/lang/Object"), (0, .class_ 3)] 3

/-- java/io/Serializable -/
def k4 : Class := { plain "java/io/Serializable" (some 0) with
  accessFlags := 1537
  interfaces := #[]
  cf := some (fileOf pool4 2 #[] #[] 1537 4 #[] #[])
  fields := #[]
  methods := #[]
  instanceTypes := #[]
  staticTypes := #[]
  resolved := Array.replicate 8 none
  statics := none }

/-- the primitive byte -/
def k5 : Class := { plain "byte" none with kind := .primitive 'B', accessFlags := 0x411 }
/-- [B -/
def k6 : Class := { plain "[B" (some 0) with kind := .array 5 .byte, interfaces := #[3, 4], accessFlags := 1041 }

/-- the primitive int -/
def k7 : Class := { plain "int" none with kind := .primitive 'I', accessFlags := 0x411 }
/-- [I -/
def k8 : Class := { plain "[I" (some 0) with kind := .array 7 .int, interfaces := #[3, 4], accessFlags := 1041 }

def heap : Heap := #[]
def classes : Array Class := #[k0, k1, k2, k3, k4, k5, k6, k7, k8]
def interned : List (Array UInt16 × Addr) := []
def slotsUsed : Nat := 0
def theMethod : MethodId := ⟨1, 1⟩
def args0 : Array Value := #[.int 5, .int 7, .int 3]
def aboutOver (below : List Frame) : State where
  vm := { classes := classes, interned := interned.toArray }
  heap := heap
  slotsUsed := slotsUsed
  threads := #[{ frames := .invoking theMethod args0 :: below }]
def below0 : List Frame := [.native { method := ⟨0, 0⟩, args := #[] }]
def about1 : State := aboutOver below0
def p0 : Program := .bare "" "" ""
def e0 : Env := launch0.env 0 0 0
theorem w_frames : about1.frames = Frame.invoking theMethod args0 :: below0 := rfl
set_option maxRecDepth 65536 in
theorem w_args : argsFit about1.vm theMethod args0 = true := by decide +kernel
set_option maxRecDepth 65536 in
theorem w_heap : heapFits about1 = true := by decide +kernel
set_option maxRecDepth 65536 in
theorem w_runnable : about1.curStatus? = some .runnable := by decide +kernel
set_option maxRecDepth 65536 in
theorem w_alone : about1.alone = true := by decide +kernel
set_option maxRecDepth 65536 in
theorem w_named : about1.methodNamed? x = some theMethod := by decide +kernel
set_option maxRecDepth 65536 in
theorem w_hears : about1.hears theMethod below0 = true := by decide +kernel
set_option maxRecDepth 65536 in
theorem w_ripe : about1.ripe theMethod args0 below0 = true := by decide +kernel
theorem w_running : about1.status = .running := rfl
set_option maxRecDepth 65536 in
theorem w_room : about1.hasRoom e0.platform room_1 = true :=
  launch0.hasRoom_least _ room_1 (by decide +kernel) (by decide +kernel) (by decide +kernel) (by decide +kernel) (by decide +kernel) (by decide +kernel)
theorem allAtoms_all (ts : List Jvm.Cond) (a : Array Jvm.Value) (st : Jvm.State) : (allAtoms ts).before a st = ts.all (fun c => c.before a st) := by
  induction ts with
  | nil => rfl
  | cons c t ih =>
    show (Jvm.Cond.and c (allAtoms t)).before a st = _
    rw [Jvm.Cond.before_and, ih, List.all_cons]
def words1 : List Jvm.Cond := Jvm.Cond.code x code maxLocals ret :: tables_1
/-- a 'code' word, met by the world's own term for the bytes: nothing is compared byte by byte -/
theorem code_word {y : MethodName} {bytes : ByteArray} {mx : Nat} {rt : Option FieldType} {a : Array Value} {s : State} {m : MethodId} {meth : Method} {c : Code} (h1 : s.methodNamed? y = some m) (h2 : s.vm.method? m = some meth) (h3 : meth.code = some c) (h4 : c.code = bytes)
    (h5 : (c.maxLocals == mx && c.exceptionTable.isEmpty && decide (c.maxStack ≤ mostOperands) && decide (meth.sig.returnType = rt) && !meth.locks && decide (parseMethodDescriptor y.desc = some meth.sig)) = true) : (Jvm.Cond.code y bytes mx rt).before a s = true := by
  simp only [Bool.and_eq_true, beq_iff_eq, Bool.not_eq_true', decide_eq_true_eq] at h5
  obtain ⟨⟨⟨⟨⟨g1, g2⟩, g3⟩, g4⟩, g5⟩, g6⟩ := h5
  simp [Cond.before, Cond.holds, Cond.value, h1, h2, h3, h4, g1, g2, g3, g4, g5, g6]
def isCode : Jvm.Cond → Bool
  | .code _ _ _ _ => true
  | _ => false
theorem all_split {L : List Jvm.Cond} {P : Jvm.Cond → Bool} (h1 : L.all (fun c => isCode c || P c) = true) (h2 : ∀ c ∈ L.filter isCode, P c = true) : L.all P = true := by
  refine List.all_eq_true.mpr fun c hc => ?_
  have h := List.all_eq_true.mp h1 c hc
  rcases Bool.eq_false_or_eq_true (isCode c) with hi | hi
  · exact h2 c (List.mem_filter.mpr ⟨hc, hi⟩)
  · simpa [hi] using h
set_option maxRecDepth 65536 in
theorem w_c0 : (Jvm.Cond.code x code maxLocals ret).before args0 about1 = true := code_word (m := ⟨1, 1⟩) (meth := k1m1) (c := k1c1) (by decide +kernel) rfl rfl rfl (by decide +kernel)
set_option maxRecDepth 65536 in
theorem w_c1 : (Jvm.Cond.code ({ cls := "com/example/bordereau/bordereau/XmlOutput", name := "isWritable", desc := "(I)Z" } : Jvm.MethodName) prog_28_method_5_code (1 : Nat) (Option.some Jvm.ClassFile.FieldType.boolean)).before args0 about1 = true := code_word (m := ⟨2, 0⟩) (meth := k2m0) (c := k2c0) (by decide +kernel) rfl rfl rfl (by decide +kernel)
set_option maxRecDepth 65536 in
theorem w_c2 : (Jvm.Cond.code ({ cls := "com/example/bordereau/bordereau/XmlOutputIsWritablePinLaw", name := "expected", desc := "(I)Z" } : Jvm.MethodName) method_3_code (5 : Nat) (Option.some Jvm.ClassFile.FieldType.boolean)).before args0 about1 = true := code_word (m := ⟨1, 2⟩) (meth := k1m2) (c := k1c2) (by decide +kernel) rfl rfl rfl (by decide +kernel)
def codes1 : List Jvm.Cond := [Jvm.Cond.code x code maxLocals ret, Jvm.Cond.code ({ cls := "com/example/bordereau/bordereau/XmlOutput", name := "isWritable", desc := "(I)Z" } : Jvm.MethodName) prog_28_method_5_code (1 : Nat) (Option.some Jvm.ClassFile.FieldType.boolean), Jvm.Cond.code ({ cls := "com/example/bordereau/bordereau/XmlOutputIsWritablePinLaw", name := "expected", desc := "(I)Z" } : Jvm.MethodName) method_3_code (5 : Nat) (Option.some Jvm.ClassFile.FieldType.boolean)]
set_option maxRecDepth 65536 in
theorem codes_eq : words1.filter isCode = codes1 := rfl
theorem w_codes : ∀ c ∈ words1.filter isCode, c.before args0 about1 = true := by
  rw [codes_eq]
  intro c hc
  simp only [codes1, List.mem_cons, List.not_mem_nil, or_false] at hc
  rcases hc with rfl | rfl | rfl
  · exact w_c0
  · exact w_c1
  · exact w_c2
set_option maxRecDepth 65536 in
theorem w_t1 : (words1.take 24).all (fun c => isCode c || c.before args0 about1) = true := by decide +kernel
set_option maxRecDepth 65536 in
theorem w_t2 : (words1.drop 24).all (fun c => isCode c || c.before args0 about1) = true := by decide +kernel
theorem w_tables : (allAtoms (Jvm.Cond.code x code maxLocals ret :: tables_1)).before args0 about1 = true := by
  rw [allAtoms_all]
  show words1.all (fun c => c.before args0 about1) = true
  refine all_split ?_ w_codes
  rw [← List.take_append_drop 24 words1, List.all_append, w_t1, w_t2]
  rfl
set_option maxRecDepth 65536 in
theorem w_case : (Jvm.Cond.and given_1 narrow_1).before args0 about1 = true := by decide +kernel
theorem w_applies : (headSpec (Jvm.Cond.code x code maxLocals ret :: tables_1) room_1).applies x e0.platform about1 = true :=
  (Spec.applies_iff w_frames).mpr ⟨w_running, w_runnable, w_alone, w_named, w_hears, w_ripe, w_room, w_tables⟩
theorem atStart : AtStart classFile x code maxLocals ret World_1 tables_1 room_1 Calls_1 rest_1 Pre_1 launch0 p0 e0 about1 theMethod args0 below0 :=
  ⟨lists_1, trivial, launch0.admits_env _ _ _, launch0.least_env, fairChoices_fair.cas, fairChoices_fair.clock, w_frames, w_args, w_heap, w_applies, trivial, trivial, w_case⟩
end start1
theorem witness_1 : WitnessClaimed_1 := ⟨start1.p0, start1.e0, start1.about1, start1.theMethod, start1.args0, start1.below0, start1.atStart⟩
end Jvm.Pilot.@@N@@
