import JvmDerived
import JvmDerived.Pilot.@@N@@Statement
import JvmDerived.Pilot.@@N@@Code
set_option linter.unusedVariables false
set_option linter.unusedSimpArgs false
@@BLOCK:HandJ.lean.txt@@
@@BLOCK:SymMore.lean.txt@@
namespace Jvm.Pilot.@@N@@
open Jvm Jvm.ClassFile Sem Op Lib Jvm.Free Jvm.Stand Jvm.LawKit Jvm.RoadKit Bundle Jvm.Pilot.@@N@@.Jvm.D
/-! the end of a walk, as a goal that forks and joins can be walked under -/
def own_Go (tb : Tables) (e : Env) (below : List Frame) (P : Outcome → State → Prop) (T : State) : Prop := ∃ s₂ o, Steps tb e below T s₂ ∧ s₂.status = .running ∧ Ended s₂ below o ∧ P o s₂
theorem own_by {tb : Tables} {e : Env} {below : List Frame} {P : Outcome → State → Prop} {T T' : State} (h : ∀ t, Steps tb e below T' t → Steps tb e below T t) (g : own_Go tb e below P T') : own_Go tb e below P T := by
  obtain ⟨s2, o, h1, h2⟩ := g
  exact ⟨s2, o, h _ h1, h2⟩
/-! an array by its length and what its places hold -/
def own_Ar (Z : State) (h : Heap) (a : Addr) (ty : FieldType) (n : Int32) (f : Nat → Value) : Prop := ∃ c : Cell, Arr Z h a c ty ∧ c.slots.size = n.toNatClampNeg ∧ ¬ n < 0 ∧ ∀ k, k < c.slots.size → c.slots[k]? = some (f k)
section Arrays
variable {Z : State} {h h' : Heap} {a b : Addr} {ty : FieldType} {n : Int32} {f f' : Nat → Value} {sl : Nat} {v : Value} {ws : List Addr}
theorem own_Ar.lt (V : own_Ar Z h a ty n f) : a < h.size := by obtain ⟨c, A, -⟩ := V; exact A.lt
theorem own_Ar.ext (V : own_Ar Z h a ty n f) (E : Ext h h') : own_Ar Z h' a ty n f := by obtain ⟨c, A, r⟩ := V; exact ⟨c, A.ext E, r⟩
theorem own_Ar.other (V : own_Ar Z h b ty n f) (W : Wr h h' a sl v) (q : b ≠ a) : own_Ar Z h' b ty n f := by obtain ⟨c, A, r⟩ := V; exact ⟨c, A.other W q, r⟩
theorem own_Ar.keep (V : own_Ar Z h a ty n f) (K : Keep h h' ws) (q : a ∉ ws) : own_Ar Z h' a ty n f := by obtain ⟨c, A, r⟩ := V; exact ⟨c, ⟨K.2.1 a c A.1 q, A.2⟩, r⟩
theorem own_Ar.weak (V : own_Ar Z h a ty n f) (q : ∀ k, k < n.toNatClampNeg → f k = f' k) : own_Ar Z h a ty n f' := by
  obtain ⟨c, A, S, M, H⟩ := V
  exact ⟨c, A, S, M, fun k hk => by rw [← q k (S ▸ hk)]; exact H k hk⟩
theorem own_new {k : ClassId} (A : Arr Z h a (newA k ty n) ty) (q : ¬ n < 0) : own_Ar Z h a ty n (fun _ => defaultValue ty) :=
  ⟨_, A, sz_new _ _ _, q, fun i hi => by rw [sz_new] at hi; simp [newA, hi]⟩
theorem own_Ar.set {j : Int32} (V : own_Ar Z h a ty n f) (W : Wr h h' a j.toNatClampNeg v) : own_Ar Z h' a ty n (fun k => if k = j.toNatClampNeg then v else f k) := by
  obtain ⟨c, A, S, M, H⟩ := V
  refine ⟨_, A.same W, by rw [sz_set]; exact S, M, fun k hk => ?_⟩
  rw [sz_set] at hk
  by_cases q : k = j.toNatClampNeg
  · subst q; simp [Cell.setSlot, hk]
  · show _ = some (if k = j.toNatClampNeg then v else f k)
    rw [if_neg q, ← H k hk]
    simp only [Cell.setSlot]
    rw [Array.getElem?_setIfInBounds_ne (Ne.symm q)]
theorem own_Ar.at {j : Int32} (V : own_Ar Z h a ty n f) (q : ¬ j < 0 ∧ j < n) : ∃ c : Cell, Arr Z h a c ty ∧ ¬ (j < 0 ∨ c.slots.size ≤ j.toNatClampNeg) ∧ c.slots[j.toNatClampNeg]? = some (f j.toNatClampNeg) := by
  obtain ⟨c, A, S, M, H⟩ := V
  have hi := inb_of S q
  exact ⟨c, A, hi, H _ (Nat.lt_of_not_le fun y => hi (Or.inr y))⟩
variable {p : Program} {l : Launch} {e : Env} {R : Room} {s : State} {m : MethodId} {args : Array Value} {below : List Frame} {meth : Method} {c : Code} {T : State} {locs : List Loc} {cells slots : Nat}
theorem own_stI (X : Stand p l e R s m args below meth c T locs cells slots) (hx : p.tables.exec = Jvm.exec) (hZ : Z.Warmed39 s.vm) (eT : T.heap = h) (V : own_Ar Z h a .int n f) {j x : Int32} (q : ¬ j < 0 ∧ j < n) {g : JFrame} (hg : g.method = m) {rest : List Value} (hs : g.stack = .int x :: .int j :: .ref a :: rest) (hd : decode c.code g.pc = .ok (.iastore, 1)) :
    ∃ T' h', Stand p l e R s m args below meth c T' (locs ++ [⟨a, j.toNatClampNeg⟩]) cells slots ∧ T'.heap = h' ∧ Wr h h' a j.toNatClampNeg (.int x) ∧ own_Ar Z h' a .int n (fun k => if k = j.toNatClampNeg then .int x else f k) ∧ ∀ target, Steps p.tables e below (T'.setTop { g with pc := g.pc + 1, stack := rest }) target → Steps p.tables e below (T.setTop g) target := by
  obtain ⟨cl, A, hi, -⟩ := V.at q
  obtain ⟨T', h', X', e', W, st⟩ := stI X hx hZ eT A hi hg hs hd
  exact ⟨T', h', X', e', W, V.set W, st⟩
theorem own_stJ (X : Stand p l e R s m args below meth c T locs cells slots) (hx : p.tables.exec = Jvm.exec) (hZ : Z.Warmed39 s.vm) (eT : T.heap = h) (V : own_Ar Z h a .long n f) {j : Int32} {x : Int64} (q : ¬ j < 0 ∧ j < n) {g : JFrame} (hg : g.method = m) {rest : List Value} (hs : g.stack = .long x :: .int j :: .ref a :: rest) (hd : decode c.code g.pc = .ok (.lastore, 1)) :
    ∃ T' h', Stand p l e R s m args below meth c T' (locs ++ [⟨a, j.toNatClampNeg⟩]) cells slots ∧ T'.heap = h' ∧ Wr h h' a j.toNatClampNeg (.long x) ∧ own_Ar Z h' a .long n (fun k => if k = j.toNatClampNeg then .long x else f k) ∧ ∀ target, Steps p.tables e below (T'.setTop { g with pc := g.pc + 1, stack := rest }) target → Steps p.tables e below (T.setTop g) target := by
  obtain ⟨cl, A, hi, -⟩ := V.at q
  obtain ⟨T', h', X', e', W, st⟩ := stJ X hx hZ eT A hi hg hs hd
  exact ⟨T', h', X', e', W, V.set W, st⟩
end Arrays
theorem own_ti {k : Nat} (h : k < 2147483648) : (Int32.ofNat k).toInt = k := Int32.toInt_ofNat_of_lt h
theorem own_cl {k : Nat} (h : k < 2147483648) : (Int32.ofNat k).toNatClampNeg = k := by simp only [Int32.toNatClampNeg, own_ti h]; rfl
theorem own_nlt {a b : Nat} (ha : a < 2147483648) (hb : b < 2147483648) : Int32.ofNat a < Int32.ofNat b ↔ a < b := by
  rw [Int32.lt_iff_toInt_lt, own_ti ha, own_ti hb]; omega
theorem own_neq {a b : Nat} (ha : a < 2147483648) (hb : b < 2147483648) : Int32.ofNat a = Int32.ofNat b ↔ a = b := by
  rw [← Int32.toInt_inj, own_ti ha, own_ti hb]; omega
theorem own_nn {k : Nat} (h : k < 2147483648) : ¬ Int32.ofNat k < 0 := by
  rw [Int32.lt_iff_toInt_lt, own_ti h, show (0 : Int32).toInt = 0 from by decide]; omega
theorem own_nsub {a b : Nat} (h : b ≤ a) (ha : a < 2147483648) : Int32.ofNat a - Int32.ofNat b = Int32.ofNat (a - b) := by
  rw [← Int32.toInt_inj, Int32.toInt_sub, own_ti ha, own_ti (by omega), own_ti (by omega)]
  simp only [Int.bmod_def]; omega
theorem own_nadd {a b : Nat} (h : a + b < 2147483648) : Int32.ofNat a + Int32.ofNat b = Int32.ofNat (a + b) := by
  rw [← Int32.toInt_inj, Int32.toInt_add, own_ti (by omega), own_ti (by omega), own_ti h]
  simp only [Int.bmod_def]; omega
theorem own_sub1 {a : Nat} (h : 0 < a) (ha : a < 2147483648) : Int32.ofNat a - (1 : Int32) = Int32.ofNat (a - 1) := own_nsub (b := 1) h ha
theorem own_dec {a : Nat} (h : 0 < a) (ha : a < 2147483648) : Int32.ofNat a + (-1 : Int32) = Int32.ofNat (a - 1) := by
  rw [← Int32.toInt_inj, Int32.toInt_add, own_ti (by omega), own_ti (by omega), show (-1 : Int32).toInt = -1 from by decide]
  simp only [Int.bmod_def]; omega
theorem own_add1 {a : Nat} (ha : a + 1 < 2147483648) : Int32.ofNat a + (1 : Int32) = Int32.ofNat (a + 1) := own_nadd (b := 1) ha
theorem own_in4 {k : Nat} (h : k < 4) : ¬ Int32.ofNat k < 0 ∧ Int32.ofNat k < 4 := ⟨own_nn (by omega), (own_nlt (b := 4) (by omega) (by omega)).mpr h⟩
def own_gap {α : Type} (I : Nat → α) (g e k : Nat) : α := if k ≤ g then I k else if k ≤ e then I (k - 1) else I k
theorem own_copy {α : Type} (F : Nat → α) (d : α) (g e : Nat) (hg : g ≤ e) (he : e ≤ 3) : ∀ k, k < 4 → (([F 0, F 1, F 2, F 3].take (g + 1)) ++ ((List.range (e - g)).map fun i => [F 0, F 1, F 2, F 3].getD (g + i) d) ++ ([F 0, F 1, F 2, F 3].drop (g + 1 + (e - g)))).getD k d = own_gap F g e k := by
  intro k hk
  rcases (show (g = 0 ∧ e = 0) ∨ (g = 0 ∧ e = 1) ∨ (g = 0 ∧ e = 2) ∨ (g = 0 ∧ e = 3) ∨ (g = 1 ∧ e = 1) ∨ (g = 1 ∧ e = 2) ∨ (g = 1 ∧ e = 3) ∨ (g = 2 ∧ e = 2) ∨ (g = 2 ∧ e = 3) ∨ (g = 3 ∧ e = 3) by omega) with ⟨rfl, rfl⟩ | ⟨rfl, rfl⟩ | ⟨rfl, rfl⟩ | ⟨rfl, rfl⟩ | ⟨rfl, rfl⟩ | ⟨rfl, rfl⟩ | ⟨rfl, rfl⟩ | ⟨rfl, rfl⟩ | ⟨rfl, rfl⟩ | ⟨rfl, rfl⟩ <;>
    (rcases (show k = 0 ∨ k = 1 ∨ k = 2 ∨ k = 3 by omega) with rfl | rfl | rfl | rfl <;> rfl)
def own_Inc (I : Nat → Int64) (f e : Nat) : Prop := ∀ j k, f ≤ j → j < k → k < e → (I j).toInt < (I k).toInt
def own_Mem (I : Nat → Int64) (f e : Nat) (y : Int64) : Prop := ∃ k, f ≤ k ∧ k < e ∧ I k = y
theorem own_uniq (I g : Nat → Int64) : ∀ (m f e f' : Nat), f ≤ e → own_Inc I f e → own_Inc g f' (f' + m) → (∀ y, own_Mem I f e y ↔ own_Mem g f' (f' + m) y) → e = f + m ∧ ∀ k, k < m → I (f + k) = g (f' + k) := by
  intro m
  induction m with
  | zero =>
    intro f e f' hfe hI hg hm
    refine ⟨?_, fun k hk => absurd hk (Nat.not_lt_zero _)⟩
    by_cases q : f < e
    · obtain ⟨k, h1, h2, -⟩ := (hm (I f)).mp ⟨f, Nat.le_refl _, q, rfl⟩
      omega
    · omega
  | succ m ih =>
    intro f e f' hfe hI hg hm
    obtain ⟨k0, a1, a2, a3⟩ := (hm (g f')).mpr ⟨f', Nat.le_refl _, by omega, rfl⟩
    have hlt : f < e := by omega
    have e0 : I f = g f' := by
      obtain ⟨k1, b1, b2, b3⟩ := (hm (I f)).mp ⟨f, Nat.le_refl _, hlt, rfl⟩
      by_cases q : k1 = f'
      · rw [← b3, q]
      · have u1 := hg f' k1 (Nat.le_refl _) (by omega) b2
        rw [b3] at u1
        by_cases r : k0 = f
        · rw [← a3, r]
        · have u2 := hI f k0 (Nat.le_refl _) (by omega) a2
          rw [a3] at u2
          omega
    have hI' : own_Inc I (f + 1) e := fun j k h1 h2 h3 => hI j k (by omega) h2 h3
    have hg' : own_Inc g (f' + 1) (f' + 1 + m) := fun j k h1 h2 h3 => hg j k (by omega) h2 (by omega)
    have hm' : ∀ y, own_Mem I (f + 1) e y ↔ own_Mem g (f' + 1) (f' + 1 + m) y := by
      intro y
      constructor
      · rintro ⟨k, h1, h2, h3⟩
        obtain ⟨k', c1, c2, c3⟩ := (hm y).mp ⟨k, by omega, h2, h3⟩
        by_cases q : k' = f'
        · have u := hI f k (Nat.le_refl _) (by omega) h2
          rw [q] at c3
          rw [h3, ← c3, e0] at u
          omega
        · exact ⟨k', by omega, by omega, c3⟩
      · rintro ⟨k, h1, h2, h3⟩
        obtain ⟨k', c1, c2, c3⟩ := (hm y).mpr ⟨k, by omega, by omega, h3⟩
        by_cases q : k' = f
        · have u := hg f' k (Nat.le_refl _) (by omega) (by omega)
          rw [q] at c3
          rw [h3, ← c3, e0] at u
          omega
        · exact ⟨k', by omega, by omega, c3⟩
    obtain ⟨r1, r2⟩ := ih (f + 1) e (f' + 1) (by omega) hI' hg' hm'
    refine ⟨by omega, fun k hk => ?_⟩
    cases k with
    | zero => exact e0
    | succ k =>
      have := r2 k (by omega)
      rw [show f + (k + 1) = f + 1 + k by omega, show f' + (k + 1) = f' + 1 + k by omega]
      exact this
/-! what a gap and a value laid into it make of the values -/
def own_put (I : Nat → Int64) (g e : Nat) (x : Int64) (k : Nat) : Int64 := if k = g then x else own_gap I g e k
theorem own_put_inc (I : Nat → Int64) (f e g : Nat) (x : Int64) (hI : own_Inc I f e) (h1 : f ≤ g) (h2 : g ≤ e) (h3 : ∀ k, g ≤ k → k < e → x.toInt < (I k).toInt) (h4 : g = f ∨ (I (g - 1)).toInt < x.toInt) : own_Inc (own_put I g e x) f (e + 1) := by
  have lo : ∀ k, f ≤ k → k < g → (I k).toInt < x.toInt := fun k a b => by
    rcases h4 with h4 | h4
    · omega
    · by_cases q : k = g - 1
      · rw [q]; exact h4
      · have := hI k (g - 1) a (by omega) (by omega)
        omega
  intro j k a b c
  unfold own_put own_gap
  by_cases q1 : j = g
  · rw [if_pos q1, if_neg (by omega), if_neg (by omega), if_pos (by omega)]
    exact h3 (k - 1) (by omega) (by omega)
  · rw [if_neg q1]
    by_cases q2 : k = g
    · rw [if_pos q2, if_pos (by omega)]
      exact lo j a (by omega)
    · rw [if_neg q2]
      by_cases q3 : k ≤ g
      · rw [if_pos q3, if_pos (by omega)]
        exact hI j k a b (by omega)
      · rw [if_neg q3, if_pos (show k ≤ e by omega)]
        by_cases q4 : j ≤ g
        · rw [if_pos q4]
          have u1 := lo j a (by omega)
          have u2 := h3 (k - 1) (by omega) (by omega)
          omega
        · rw [if_neg q4, if_pos (show j ≤ e by omega)]
          exact hI (j - 1) (k - 1) (by omega) (by omega) (by omega)
theorem own_put_mem (I : Nat → Int64) (f e g : Nat) (x : Int64) (h1 : f ≤ g) (h2 : g ≤ e) (y : Int64) : own_Mem (own_put I g e x) f (e + 1) y ↔ own_Mem I f e y ∨ y = x := by
  constructor
  · rintro ⟨k, a, b, c⟩
    unfold own_put own_gap at c
    by_cases q1 : k = g
    · rw [if_pos q1] at c; exact Or.inr c.symm
    · rw [if_neg q1] at c
      by_cases q2 : k ≤ g
      · rw [if_pos q2] at c; exact Or.inl ⟨k, a, by omega, c⟩
      · rw [if_neg q2, if_pos (by omega)] at c; exact Or.inl ⟨k - 1, by omega, by omega, c⟩
  · rintro (⟨k, a, b, c⟩ | rfl)
    · by_cases q : k < g
      · exact ⟨k, a, by omega, by unfold own_put own_gap; rw [if_neg (by omega), if_pos (by omega)]; exact c⟩
      · exact ⟨k + 1, by omega, by omega, by unfold own_put own_gap; rw [if_neg (by omega), if_neg (by omega), if_pos (by omega)]; exact c⟩
    · exact ⟨g, h1, by omega, by unfold own_put; rw [if_pos rfl]⟩
theorem own_drop_mem (I : Nat → Int64) (f e f' : Nat) (d : Int64) (hI : own_Inc I f e) (h1 : f ≤ f') (h2 : f' ≤ e) (h3 : ∀ k, f ≤ k → k < f' → (I k).toInt < d.toInt) (h4 : f' = e ∨ ¬ (I f').toInt < d.toInt) (y : Int64) : own_Mem I f' e y ↔ own_Mem I f e y ∧ ¬ y < d := by
  rw [Int64.lt_iff_toInt_lt]
  constructor
  · rintro ⟨k, a, b, c⟩
    refine ⟨⟨k, by omega, b, c⟩, ?_⟩
    rcases h4 with h4 | h4
    · omega
    · rw [← c]
      by_cases q : k = f'
      · rw [q]; exact h4
      · have := hI f' k h1 (by omega) b
        omega
  · rintro ⟨⟨k, a, b, c⟩, h⟩
    refine ⟨k, ?_, b, c⟩
    by_cases q : k < f'
    · have := h3 k a q
      rw [c] at this
      exact absurd this h
    · omega
/-! the law's own three places: no two alike, then sorted by exchanges -/
def own_Dis (g : Nat → Int64) (m : Nat) : Prop := ∀ j k, j < k → k < m → ¬ g j = g k
def own_cs (g : Nat → Int64) (i j k : Nat) : Int64 := if g j < g i then (if k = j then g i else if k = i then g j else g k) else g k
theorem own_mem1 (g : Nat → Int64) (y : Int64) : own_Mem g 0 1 y ↔ g 0 = y := ⟨fun ⟨k, _, b, c⟩ => by rw [show k = 0 by omega] at c; exact c, fun h => ⟨0, by omega, by omega, h⟩⟩
theorem own_mem2 (g : Nat → Int64) (y : Int64) : own_Mem g 0 2 y ↔ g 0 = y ∨ g 1 = y := by
  constructor
  · rintro ⟨k, _, b, c⟩
    rcases (show k = 0 ∨ k = 1 by omega) with rfl | rfl
    · exact Or.inl c
    · exact Or.inr c
  · rintro (h | h)
    · exact ⟨0, by omega, by omega, h⟩
    · exact ⟨1, by omega, by omega, h⟩
theorem own_mem3 (g : Nat → Int64) (y : Int64) : own_Mem g 0 3 y ↔ g 0 = y ∨ g 1 = y ∨ g 2 = y := by
  constructor
  · rintro ⟨k, _, b, c⟩
    rcases (show k = 0 ∨ k = 1 ∨ k = 2 by omega) with rfl | rfl | rfl
    · exact Or.inl c
    · exact Or.inr (Or.inl c)
    · exact Or.inr (Or.inr c)
  · rintro (h | h | h)
    · exact ⟨0, by omega, by omega, h⟩
    · exact ⟨1, by omega, by omega, h⟩
    · exact ⟨2, by omega, by omega, h⟩
theorem own_sort2 (g : Nat → Int64) (hd : own_Dis g 2) : own_Inc (own_cs g 0 1) 0 2 ∧ ∀ y, own_Mem (own_cs g 0 1) 0 2 y ↔ own_Mem g 0 2 y := by
  have h01 := hd 0 1 (by omega) (by omega)
  rw [← Int64.toInt_inj] at h01
  constructor
  · intro j k _ b c
    obtain rfl : j = 0 := by omega
    obtain rfl : k = 1 := by omega
    unfold own_cs
    by_cases q : g 1 < g 0
    · rw [if_pos q, if_pos q]; simpa [Int64.lt_iff_toInt_lt] using q
    · rw [if_neg q, if_neg q]; rw [Int64.lt_iff_toInt_lt] at q; omega
  · intro y
    rw [own_mem2, own_mem2]
    unfold own_cs
    by_cases q : g 1 < g 0
    · simp [q, or_comm]
    · simp [q]
theorem own_sort3 (g : Nat → Int64) (hd : own_Dis g 3) : own_Inc (own_cs (own_cs (own_cs g 0 1) 1 2) 0 1) 0 3 ∧ ∀ y, own_Mem (own_cs (own_cs (own_cs g 0 1) 1 2) 0 1) 0 3 y ↔ own_Mem g 0 3 y := by
  have h01 := hd 0 1 (by omega) (by omega)
  have h12 := hd 1 2 (by omega) (by omega)
  have h02 := hd 0 2 (by omega) (by omega)
  rw [← Int64.toInt_inj] at h01 h12 h02
  have key : ∃ x y z : Int64, own_cs (own_cs (own_cs g 0 1) 1 2) 0 1 0 = x ∧ own_cs (own_cs (own_cs g 0 1) 1 2) 0 1 1 = y ∧ own_cs (own_cs (own_cs g 0 1) 1 2) 0 1 2 = z ∧ x.toInt < y.toInt ∧ y.toInt < z.toInt ∧ ∀ w, (x = w ∨ y = w ∨ z = w) ↔ (g 0 = w ∨ g 1 = w ∨ g 2 = w) := by
    generalize e0 : g 0 = a at *
    generalize e1 : g 1 = b at *
    generalize e2 : g 2 = c at *
    by_cases q1 : b < a
    · by_cases q2 : c < a
      · by_cases q3 : c < b
        · refine ⟨c, b, a, by simp [own_cs, e0, e1, e2, q1, q2, q3], by simp [own_cs, e0, e1, e2, q1, q2, q3], by simp [own_cs, e0, e1, e2, q1, q2, q3], ?_, ?_, fun w => ⟨?_, ?_⟩⟩ <;> first | (simp only [Int64.lt_iff_toInt_lt] at *; omega) | (rintro (h | h | h) <;> simp [h])
        · refine ⟨b, c, a, by simp [own_cs, e0, e1, e2, q1, q2, q3], by simp [own_cs, e0, e1, e2, q1, q2, q3], by simp [own_cs, e0, e1, e2, q1, q2, q3], ?_, ?_, fun w => ⟨?_, ?_⟩⟩ <;> first | (simp only [Int64.lt_iff_toInt_lt] at *; omega) | (rintro (h | h | h) <;> simp [h])
      · have q3 : ¬ a < b := by simp only [Int64.lt_iff_toInt_lt] at *; omega
        refine ⟨b, a, c, by simp [own_cs, e0, e1, e2, q1, q2, q3], by simp [own_cs, e0, e1, e2, q1, q2, q3], by simp [own_cs, e0, e1, e2, q1, q2, q3], ?_, ?_, fun w => ⟨?_, ?_⟩⟩ <;> first | (simp only [Int64.lt_iff_toInt_lt] at *; omega) | (rintro (h | h | h) <;> simp [h])
    · by_cases q2 : c < b
      · by_cases q3 : c < a
        · refine ⟨c, a, b, by simp [own_cs, e0, e1, e2, q1, q2, q3], by simp [own_cs, e0, e1, e2, q1, q2, q3], by simp [own_cs, e0, e1, e2, q1, q2, q3], ?_, ?_, fun w => ⟨?_, ?_⟩⟩ <;> first | (simp only [Int64.lt_iff_toInt_lt] at *; omega) | (rintro (h | h | h) <;> simp [h])
        · refine ⟨a, c, b, by simp [own_cs, e0, e1, e2, q1, q2, q3], by simp [own_cs, e0, e1, e2, q1, q2, q3], by simp [own_cs, e0, e1, e2, q1, q2, q3], ?_, ?_, fun w => ⟨?_, ?_⟩⟩ <;> first | (simp only [Int64.lt_iff_toInt_lt] at *; omega) | (rintro (h | h | h) <;> simp [h])
      · refine ⟨a, b, c, by simp [own_cs, e0, e1, e2, q1, q2], by simp [own_cs, e0, e1, e2, q1, q2], by simp [own_cs, e0, e1, e2, q1, q2], ?_, ?_, fun w => ⟨?_, ?_⟩⟩ <;> first | (simp only [Int64.lt_iff_toInt_lt] at *; omega) | (rintro (h | h | h) <;> simp [h])
  obtain ⟨x, y, z, k0, k1, k2, k3, k4, k5⟩ := key
  constructor
  · intro j k _ b c
    rcases (show (j = 0 ∧ k = 1) ∨ (j = 0 ∧ k = 2) ∨ (j = 1 ∧ k = 2) by omega) with ⟨rfl, rfl⟩ | ⟨rfl, rfl⟩ | ⟨rfl, rfl⟩
    · rw [k0, k1]; exact k3
    · rw [k0, k2]; omega
    · rw [k1, k2]; exact k4
  · intro w
    rw [own_mem3, own_mem3, k0, k1, k2]
    exact k5 w
theorem own_r0 (g : Nat → Int64) {a b d : Int64} (h1 : a < d) (h2 : b < d) : own_Dis g 0 ∧ ∀ y, own_Mem g 0 0 y ↔ (y = a ∧ ¬ a < d) ∨ (y = b ∧ ¬ b < d) :=
  ⟨fun _ _ _ q => absurd q (Nat.not_lt_zero _), fun y => ⟨fun ⟨_, _, q, _⟩ => absurd q (Nat.not_lt_zero _), fun q => by rcases q with ⟨_, q⟩ | ⟨_, q⟩ <;> contradiction⟩⟩
theorem own_dis1 (g : Nat → Int64) : own_Dis g 1 := fun j k h1 h2 => by omega
theorem own_r1 (g : Nat → Int64) {a b d : Int64} (e : g 0 = a) (h1 : ¬ a < d) (h2 : b < d ∨ a = b) : own_Dis g 1 ∧ ∀ y, own_Mem g 0 1 y ↔ (y = a ∧ ¬ a < d) ∨ (y = b ∧ ¬ b < d) := by
  refine ⟨own_dis1 g, fun y => ?_⟩
  rw [own_mem1, e]
  constructor
  · intro q; exact Or.inl ⟨q.symm, h1⟩
  · rintro (⟨q, _⟩ | ⟨q, r⟩)
    · exact q.symm
    · rcases h2 with h2 | h2
      · exact absurd h2 r
      · rw [h2, q]
theorem own_r2 (g : Nat → Int64) {a b d : Int64} (e : g 0 = b) (h1 : a < d) (h2 : ¬ b < d) : own_Dis g 1 ∧ ∀ y, own_Mem g 0 1 y ↔ (y = a ∧ ¬ a < d) ∨ (y = b ∧ ¬ b < d) := by
  refine ⟨own_dis1 g, fun y => ?_⟩
  rw [own_mem1, e]
  constructor
  · intro q; exact Or.inr ⟨q.symm, h2⟩
  · rintro (⟨q, r⟩ | ⟨q, _⟩)
    · exact absurd h1 r
    · exact q.symm
theorem own_r3 (g : Nat → Int64) {a b d : Int64} (e : g 0 = a) (e' : g 1 = b) (h1 : ¬ a < d) (h2 : ¬ b < d) (h3 : ¬ a = b) : own_Dis g 2 ∧ ∀ y, own_Mem g 0 2 y ↔ (y = a ∧ ¬ a < d) ∨ (y = b ∧ ¬ b < d) := by
  refine ⟨fun j k p q => ?_, fun y => ?_⟩
  · obtain rfl : j = 0 := by omega
    obtain rfl : k = 1 := by omega
    rw [e, e']; exact h3
  · rw [own_mem2, e, e']
    constructor
    · rintro (q | q)
      · exact Or.inl ⟨q.symm, h1⟩
      · exact Or.inr ⟨q.symm, h2⟩
    · rintro (⟨q, _⟩ | ⟨q, _⟩)
      · exact Or.inl q.symm
      · exact Or.inr q.symm
theorem own_k0 (g : Nat → Int64) (m : Nat) (c : Int64) (P : Int64 → Prop) (hD : own_Dis g m) (hM : ∀ y, own_Mem g 0 m y ↔ P y) (k : Nat) (hk : k < m) (hc : g k = c) : own_Dis g m ∧ ∀ y, own_Mem g 0 m y ↔ P y ∨ y = c :=
  ⟨hD, fun y => ⟨fun q => Or.inl ((hM y).mp q), fun q => q.elim (hM y).mpr fun e => ⟨k, Nat.zero_le _, hk, by rw [hc, e]⟩⟩⟩
theorem own_k1 (g g' : Nat → Int64) (m : Nat) (c : Int64) (P : Int64 → Prop) (hD : own_Dis g m) (hM : ∀ y, own_Mem g 0 m y ↔ P y) (hn : ∀ k, k < m → ¬ g k = c) (e1 : ∀ k, k < m → g' k = g k) (e2 : g' m = c) : own_Dis g' (m + 1) ∧ ∀ y, own_Mem g' 0 (m + 1) y ↔ P y ∨ y = c := by
  refine ⟨fun j k p q => ?_, fun y => ⟨?_, ?_⟩⟩
  · rw [e1 j (by omega)]
    by_cases r : k = m
    · rw [r, e2]; exact hn j (by omega)
    · rw [e1 k (by omega)]; exact hD j k p (by omega)
  · rintro ⟨k, _, q, r⟩
    by_cases u : k = m
    · rw [u, e2] at r; exact Or.inr r.symm
    · rw [e1 k (by omega)] at r; exact Or.inl ((hM y).mp ⟨k, Nat.zero_le _, by omega, r⟩)
  · rintro (q | q)
    · obtain ⟨k, _, u, r⟩ := (hM y).mpr q
      exact ⟨k, Nat.zero_le _, by omega, by rw [e1 k u]; exact r⟩
    · exact ⟨m, Nat.zero_le _, by omega, by rw [e2, q]⟩
theorem own_fin (a b c d : Int64) (I1 I2 I4 g : Nat → Int64) (n1 n2 f n4 m : Nat) (h1 : ∀ y, own_Mem I1 0 n1 y ↔ own_Mem (fun _ => (0 : Int64)) 0 0 y ∨ y = a) (h2 : ∀ y, own_Mem I2 0 n2 y ↔ own_Mem I1 0 n1 y ∨ y = b) (h3 : ∀ y, own_Mem I2 f n2 y ↔ own_Mem I2 0 n2 y ∧ ¬ y < d) (h4 : ∀ y, own_Mem I4 f n4 y ↔ own_Mem I2 f n2 y ∨ y = c)
    (hg : ∀ y, own_Mem g 0 m y ↔ ((y = a ∧ ¬ a < d) ∨ (y = b ∧ ¬ b < d)) ∨ y = c) (hI : own_Inc I4 f n4) (hG : own_Inc g 0 m) (hf : f ≤ n4) : n4 = f + m ∧ ∀ k, k < m → I4 (f + k) = g k := by
  have key := own_uniq I4 g m f n4 0 hf hI (by rw [Nat.zero_add]; exact hG) (fun y => by
    rw [Nat.zero_add, h4, h3, h2, h1, hg]
    have h0 : ¬ own_Mem (fun _ => (0 : Int64)) 0 0 y := fun ⟨_, _, q, _⟩ => absurd q (Nat.not_lt_zero _)
    constructor
    · rintro (⟨(q | q) | q, r⟩ | q)
      · exact absurd q h0
      · exact Or.inl (Or.inl ⟨q, q ▸ r⟩)
      · exact Or.inl (Or.inr ⟨q, q ▸ r⟩)
      · exact Or.inr q
    · rintro ((⟨q, r⟩ | ⟨q, r⟩) | q)
      · exact Or.inl ⟨Or.inl (Or.inr q), q ▸ r⟩
      · exact Or.inl ⟨Or.inr q, q ▸ r⟩
      · exact Or.inr q)
  refine ⟨key.1, fun k hk => ?_⟩
  have := key.2 k hk
  rw [Nat.zero_add] at this
  exact this
/-! the object: its two arrays, where its first and last places are, what they hold -/
def own_S (Z : State) (h : Heap) (n0 : Nat) (a ia ca : Addr) (fi en : Nat) (tt : Int64) (I : Nat → Int64) (C : Nat → Int32) : Prop :=
  Exa Z h a "com/example/water_clock/waterclock/SubWindowCounts" ∧ Fld Z h a "com/example/water_clock/waterclock/SubWindowCounts" "indices" "[J" (.ref ia) ∧ Fld Z h a "com/example/water_clock/waterclock/SubWindowCounts" "counts" "[I" (.ref ca) ∧ Fld Z h a "com/example/water_clock/waterclock/SubWindowCounts" "first" "I" (.int (Int32.ofNat fi)) ∧ Fld Z h a "com/example/water_clock/waterclock/SubWindowCounts" "end" "I" (.int (Int32.ofNat en)) ∧ Fld Z h a "com/example/water_clock/waterclock/SubWindowCounts" "total" "J" (.long tt) ∧ own_Ar Z h ia .long 4 (fun k => .long (I k)) ∧ own_Ar Z h ca .int 4 (fun k => .int (C k)) ∧ n0 ≤ a ∧ n0 ≤ ia ∧ n0 ≤ ca ∧ a ≠ ia ∧ a ≠ ca ∧ ia ≠ ca
theorem own_at (F : Nat → Value) {k : Nat} (h : k < 2147483648) : F (Int32.ofNat k).toNatClampNeg = F k := by rw [own_cl h]
theorem own_wkL (I : Nat → Int64) {j : Nat} (hj : j < 2147483648) (x : Int64) (k : Nat) : (if k = (Int32.ofNat j).toNatClampNeg then Value.long x else Value.long (I k)) = Value.long (if k = j then x else I k) := by
  rw [own_cl hj]; split <;> rfl
theorem own_wkI (I : Nat → Int32) {j : Nat} (hj : j < 2147483648) (x : Int32) (k : Nat) : (if k = (Int32.ofNat j).toNatClampNeg then Value.int x else Value.int (I k)) = Value.int (if k = j then x else I k) := by
  rw [own_cl hj]; split <;> rfl
theorem own_arv {Z : State} {h : Heap} {a : Addr} {ty : FieldType} {F : Nat → Value} (V : own_Ar Z h a ty 4 F) (hf : ∀ k, fits ty (F k) = true) : ∃ k, Arv Z h a k ty 4 [F 0, F 1, F 2, F 3] (F 0) := by
  obtain ⟨c, A, S, M, H⟩ := V
  have e4 : (4 : Int32).toNatClampNeg = 4 := by decide
  have g : ∀ i, i < c.slots.size → [F 0, F 1, F 2, F 3].getD i (F 0) = F i := fun i hi => by
    rw [S, e4] at hi
    rcases (show i = 0 ∨ i = 1 ∨ i = 2 ∨ i = 3 by omega) with rfl | rfl | rfl | rfl <;> rfl
  exact ⟨c.cls, c, A, rfl, S, M, fun i hi => by rw [g i hi]; exact H i hi, fun i hi => by rw [g i hi]; exact hf i⟩
theorem own_of_arv {Z : State} {h : Heap} {a : Addr} {k : ClassId} {ty : FieldType} {vs : List Value} {d : Value} (V : Arv Z h a k ty 4 vs d) : own_Ar Z h a ty 4 (fun i => vs.getD i d) := by
  obtain ⟨c, A, -, S, M, H, -⟩ := V
  exact ⟨c, A, S, M, H⟩
theorem d6_0 : decode prog_16_method_2_code 0 = .ok (.aload_n 0, 1) := by decide +kernel
theorem d6_1 : decode prog_16_method_2_code 1 = .ok (.getfield 17, 3) := by decide +kernel
theorem d6_4 : decode prog_16_method_2_code 4 = .ok (.aload_n 0, 1) := by decide +kernel
theorem d6_5 : decode prog_16_method_2_code 5 = .ok (.getfield 21, 3) := by decide +kernel
theorem d6_8 : decode prog_16_method_2_code 8 = .ok (.isub, 1) := by decide +kernel
theorem d6_9 : decode prog_16_method_2_code 9 = .ok (.ireturn, 1) := by decide +kernel
theorem pn_6 : plainName "com/example/water_clock/waterclock/SubWindowCounts" = true := by first | (simp [plainName, overriddenIn]; done) | decide +kernel
theorem ef_6 (m : MethodId) (a1 : Addr) : entryFrame m #[(.ref a1)] 1 = mkF m 0 #[.val (.ref a1)] [] := by first | (simp [entryFrame, mkF, argsToLocals, Value.category]; done) | rfl
def Q6 (Z : State) (a1 : Addr) (fi : Nat) (en : Nat) (h0 : Heap) (n0 : Nat) (v : Option Value) (h : Heap) (L : List Loc) : Prop := v = some (.int (Int32.ofNat (en - fi))) ∧ Fr n0 L ∧ h = h0
abbrev P6 (Z : State) (a1 : Addr) (fi : Nat) (en : Nat) (h0 : Heap) (n0 : Nat) (s : State) : Outcome → State → Prop := fun o U' => ∃ v L, o = .returned v ∧ Q6 Z a1 fi en h0 n0 v U'.heap L ∧ FrameEnd s o U' L ({ frames := 0, cells := 0, slots := 0, locals := 0 } : Room).cells ({ frames := 0, cells := 0, slots := 0, locals := 0 } : Room).slots
set_option maxRecDepth 65536 in
set_option maxHeartbeats 40000000 in
theorem rm6 (l : Launch) (Z : State) (a0 : Array Value) (hw : ∀ d ∈ tables_1, d.before a0 Z = true) (ws : List Jvm.Cond) (a1 : Addr) (fi : Nat) (en : Nat) (h0 : Heap) (n0 : Nat) (Z0 : n0 ≤ h0.size) (F_end_a1 : Fld Z h0 a1 "com/example/water_clock/waterclock/SubWindowCounts" "end" "I" (.int (Int32.ofNat en))) (F_first_a1 : Fld Z h0 a1 "com/example/water_clock/waterclock/SubWindowCounts" "first" "I" (.int (Int32.ofNat fi))) (hfe : fi ≤ en) (he4 : en ≤ 4) :
    MetFree l (⟨"com/example/water_clock/waterclock/SubWindowCounts", "size", "()I"⟩ : MethodName) (head1 (Jvm.Cond.code (⟨"com/example/water_clock/waterclock/SubWindowCounts", "size", "()I"⟩ : MethodName) prog_16_method_2_code 1 (some .int) :: ws) ({ frames := 0, cells := 0, slots := 0, locals := 0 } : Room)) (fun a U => a = #[(.ref a1)] ∧ Z.Warmed39 U.vm ∧ U.heap = h0) (fun _ _ _ _ _ => True) (fun _ U o U' => ∃ v L, o = .returned v ∧ Q6 Z a1 fi en h0 n0 v U'.heap L ∧ FrameEnd U o U' L ({ frames := 0, cells := 0, slots := 0, locals := 0 } : Room).cells ({ frames := 0, cells := 0, slots := 0, locals := 0 } : Room).slots) := by
  refine MetFree.of_bodySF (plainFor_of_name pn_6) hisR ?_
  intro p e s m args below meth c s₁ Bd hml0 hP hK
  obtain ⟨rfl, hZ, hh⟩ := hP
  have hx := Bd.exec
  have hby := Bd.bytes
  have hml : c.maxLocals = 1 := hml0
  have hown : s.vm.findClass "com/example/water_clock/waterclock/SubWindowCounts" = some m.cls := findClass_of_methodNamed Bd.named
  have hnm := (name_of_methodNamed Bd.named Bd.method).1
  have X0 : Stand p l e ({ frames := 0, cells := 0, slots := 0, locals := 0 } : Room) s m #[(.ref a1)] below meth c s₁ [] 0 0 := Stand.of_body Bd
  have e0 : s₁.heap = h0 := by rw [← hh, Bd.state]; rfl
  have N0 := Fr.nil n0
  show own_Go p.tables e below (P6 Z a1 fi en h0 n0 s) (s₁.setTop (entryFrame m #[(.ref a1)] 1))
  refine own_by (T' := s₁.setTop (mkF m 0 #[.val (.ref a1)] [])) (fun t k => castTop (ef_6 m a1) k) ?_
  show own_Go _ _ _ _ (s₁.setTop (mkF m 0 #[.val (.ref a1)] []))
  refine own_by (fun t k => XS.aloadN X0.here hx rfl (hb hby d6_0) rfl rfl k) ?_
  show own_Go _ _ _ _ (s₁.setTop (mkF m 1 #[.val (.ref a1)] [(.ref a1)]))
  obtain ⟨Tf6_1, Xf6_1, ef6_1, stf6_1⟩ := getF X0 hx hZ hown (host := "") (Or.inl (hw _ (List.mem_of_getElem? (i := 20) rfl))) Via.refl e0 F_end_a1 (g := (mkF m 1 #[.val (.ref a1)] [(.ref a1)])) rfl rfl (hb hby d6_1)
  refine own_by (fun t k => stf6_1 t k) ?_
  show own_Go _ _ _ _ (Tf6_1.setTop (mkF m 4 #[.val (.ref a1)] [(.int (Int32.ofNat en))]))
  refine own_by (fun t k => XS.aloadN Xf6_1.here hx rfl (hb hby d6_4) rfl rfl k) ?_
  show own_Go _ _ _ _ (Tf6_1.setTop (mkF m 5 #[.val (.ref a1)] [(.ref a1), (.int (Int32.ofNat en))]))
  obtain ⟨Tf6_2, Xf6_2, ef6_2, stf6_2⟩ := getF Xf6_1 hx hZ hown (host := "") (Or.inl (hw _ (List.mem_of_getElem? (i := 22) rfl))) Via.refl ef6_1 F_first_a1 (g := (mkF m 5 #[.val (.ref a1)] [(.ref a1), (.int (Int32.ofNat en))])) rfl rfl (hb hby d6_5)
  refine own_by (fun t k => stf6_2 t k) ?_
  show own_Go _ _ _ _ (Tf6_2.setTop (mkF m 8 #[.val (.ref a1)] [(.int (Int32.ofNat fi)), (.int (Int32.ofNat en))]))
  refine own_by (fun t k => XS.isub Xf6_2.here hx rfl (hb hby d6_8) rfl k) ?_
  show own_Go _ _ _ _ (Tf6_2.setTop (mkF m 9 #[.val (.ref a1)] [(.int ((Int32.ofNat en) - (Int32.ofNat fi)))]))
  rw [show ((Int32.ofNat en) - (Int32.ofNat fi)) = (Int32.ofNat (en - fi)) from own_nsub hfe (by omega)]
  show own_Go _ _ _ _ (Tf6_2.setTop (mkF m 9 #[.val (.ref a1)] [(.int (Int32.ofNat (en - fi)))]))
  obtain ⟨fs, hr, hrun, hended, hW, hsame⟩ := Xf6_2.leave (v := some (.int (Int32.ofNat (en - fi)))) (fun h => by rw [Bd.returns] at h; cases h)
  refine ⟨_, _, retOut Xf6_2 hx Bd.returns rfl (Or.inl ⟨rfl, Or.inl rfl, _, rfl⟩) (hb hby d6_9) hr, hrun, hended, _, _, rfl, ?_, ⟨_, rfl⟩, hW, hsame.mono (by decide) (by decide)⟩
  show Q6 Z a1 fi en h0 n0 _ Tf6_2.heap _
  rw [ef6_2]
  exact ⟨rfl, N0, rfl⟩
theorem d7_0 : decode prog_16_method_3_code 0 = .ok (.aload_n 0, 1) := by decide +kernel
theorem d7_1 : decode prog_16_method_3_code 1 = .ok (.getfield 9, 3) := by decide +kernel
theorem d7_4 : decode prog_16_method_3_code 4 = .ok (.aload_n 0, 1) := by decide +kernel
theorem d7_5 : decode prog_16_method_3_code 5 = .ok (.getfield 21, 3) := by decide +kernel
theorem d7_8 : decode prog_16_method_3_code 8 = .ok (.iload_n 1, 1) := by decide +kernel
theorem d7_9 : decode prog_16_method_3_code 9 = .ok (.iadd, 1) := by decide +kernel
theorem d7_10 : decode prog_16_method_3_code 10 = .ok (.laload, 1) := by decide +kernel
theorem d7_11 : decode prog_16_method_3_code 11 = .ok (.lreturn, 1) := by decide +kernel
theorem pn_7 : plainName "com/example/water_clock/waterclock/SubWindowCounts" = true := by first | (simp [plainName, overriddenIn]; done) | decide +kernel
theorem ef_7 (m : MethodId) (a1 : Addr) (p2 : Int32) : entryFrame m #[(.ref a1), (.int p2)] 2 = mkF m 0 #[.val (.ref a1), .val (.int p2)] [] := by first | (simp [entryFrame, mkF, argsToLocals, Value.category]; done) | rfl
def Q7 (Z : State) (a1 : Addr) (p2 : Int32) (ia : Addr) (fi : Nat) (kx : Nat) (II : Nat → Int64) (h0 : Heap) (n0 : Nat) (v : Option Value) (h : Heap) (L : List Loc) : Prop := v = some (.long (II (fi + kx))) ∧ Fr n0 L ∧ h = h0
abbrev P7 (Z : State) (a1 : Addr) (p2 : Int32) (ia : Addr) (fi : Nat) (kx : Nat) (II : Nat → Int64) (h0 : Heap) (n0 : Nat) (s : State) : Outcome → State → Prop := fun o U' => ∃ v L, o = .returned v ∧ Q7 Z a1 p2 ia fi kx II h0 n0 v U'.heap L ∧ FrameEnd s o U' L ({ frames := 0, cells := 0, slots := 0, locals := 0 } : Room).cells ({ frames := 0, cells := 0, slots := 0, locals := 0 } : Room).slots
set_option maxRecDepth 65536 in
set_option maxHeartbeats 40000000 in
theorem rm7 (l : Launch) (Z : State) (a0 : Array Value) (hw : ∀ d ∈ tables_1, d.before a0 Z = true) (ws : List Jvm.Cond) (a1 : Addr) (p2 : Int32) (ia : Addr) (fi : Nat) (kx : Nat) (II : Nat → Int64) (h0 : Heap) (n0 : Nat) (Z0 : n0 ≤ h0.size) (F_indices_a1 : Fld Z h0 a1 "com/example/water_clock/waterclock/SubWindowCounts" "indices" "[J" (.ref ia)) (F_first_a1 : Fld Z h0 a1 "com/example/water_clock/waterclock/SubWindowCounts" "first" "I" (.int (Int32.ofNat fi))) (V_ia : own_Ar Z h0 ia .long 4 (fun k => .long (II k))) (hp : p2 = Int32.ofNat kx) (hk : fi + kx < 4) :
    MetFree l (⟨"com/example/water_clock/waterclock/SubWindowCounts", "index", "(I)J"⟩ : MethodName) (head1 (Jvm.Cond.code (⟨"com/example/water_clock/waterclock/SubWindowCounts", "index", "(I)J"⟩ : MethodName) prog_16_method_3_code 2 (some .long) :: ws) ({ frames := 0, cells := 0, slots := 0, locals := 0 } : Room)) (fun a U => a = #[(.ref a1), (.int p2)] ∧ Z.Warmed39 U.vm ∧ U.heap = h0) (fun _ _ _ _ _ => True) (fun _ U o U' => ∃ v L, o = .returned v ∧ Q7 Z a1 p2 ia fi kx II h0 n0 v U'.heap L ∧ FrameEnd U o U' L ({ frames := 0, cells := 0, slots := 0, locals := 0 } : Room).cells ({ frames := 0, cells := 0, slots := 0, locals := 0 } : Room).slots) := by
  refine MetFree.of_bodySF (plainFor_of_name pn_7) hisR ?_
  intro p e s m args below meth c s₁ Bd hml0 hP hK
  obtain ⟨rfl, hZ, hh⟩ := hP
  have hx := Bd.exec
  have hby := Bd.bytes
  have hml : c.maxLocals = 2 := hml0
  have hown : s.vm.findClass "com/example/water_clock/waterclock/SubWindowCounts" = some m.cls := findClass_of_methodNamed Bd.named
  have hnm := (name_of_methodNamed Bd.named Bd.method).1
  have X0 : Stand p l e ({ frames := 0, cells := 0, slots := 0, locals := 0 } : Room) s m #[(.ref a1), (.int p2)] below meth c s₁ [] 0 0 := Stand.of_body Bd
  have e0 : s₁.heap = h0 := by rw [← hh, Bd.state]; rfl
  have N0 := Fr.nil n0
  show own_Go p.tables e below (P7 Z a1 p2 ia fi kx II h0 n0 s) (s₁.setTop (entryFrame m #[(.ref a1), (.int p2)] 2))
  refine own_by (T' := s₁.setTop (mkF m 0 #[.val (.ref a1), .val (.int p2)] [])) (fun t k => castTop (ef_7 m a1 p2) k) ?_
  show own_Go _ _ _ _ (s₁.setTop (mkF m 0 #[.val (.ref a1), .val (.int p2)] []))
  refine own_by (fun t k => XS.aloadN X0.here hx rfl (hb hby d7_0) rfl rfl k) ?_
  show own_Go _ _ _ _ (s₁.setTop (mkF m 1 #[.val (.ref a1), .val (.int p2)] [(.ref a1)]))
  obtain ⟨Tf7_1, Xf7_1, ef7_1, stf7_1⟩ := getF X0 hx hZ hown (host := "") (Or.inl (hw _ (List.mem_of_getElem? (i := 10) rfl))) Via.refl e0 F_indices_a1 (g := (mkF m 1 #[.val (.ref a1), .val (.int p2)] [(.ref a1)])) rfl rfl (hb hby d7_1)
  refine own_by (fun t k => stf7_1 t k) ?_
  show own_Go _ _ _ _ (Tf7_1.setTop (mkF m 4 #[.val (.ref a1), .val (.int p2)] [(.ref ia)]))
  refine own_by (fun t k => XS.aloadN Xf7_1.here hx rfl (hb hby d7_4) rfl rfl k) ?_
  show own_Go _ _ _ _ (Tf7_1.setTop (mkF m 5 #[.val (.ref a1), .val (.int p2)] [(.ref a1), (.ref ia)]))
  obtain ⟨Tf7_2, Xf7_2, ef7_2, stf7_2⟩ := getF Xf7_1 hx hZ hown (host := "") (Or.inl (hw _ (List.mem_of_getElem? (i := 22) rfl))) Via.refl ef7_1 F_first_a1 (g := (mkF m 5 #[.val (.ref a1), .val (.int p2)] [(.ref a1), (.ref ia)])) rfl rfl (hb hby d7_5)
  refine own_by (fun t k => stf7_2 t k) ?_
  show own_Go _ _ _ _ (Tf7_2.setTop (mkF m 8 #[.val (.ref a1), .val (.int p2)] [(.int (Int32.ofNat fi)), (.ref ia)]))
  refine own_by (fun t k => XS.iloadN Xf7_2.here hx rfl (hb hby d7_8) rfl k) ?_
  show own_Go _ _ _ _ (Tf7_2.setTop (mkF m 9 #[.val (.ref a1), .val (.int p2)] [(.int p2), (.int (Int32.ofNat fi)), (.ref ia)]))
  refine own_by (fun t k => XS.iadd Xf7_2.here hx rfl (hb hby d7_9) rfl k) ?_
  show own_Go _ _ _ _ (Tf7_2.setTop (mkF m 10 #[.val (.ref a1), .val (.int p2)] [(.int ((Int32.ofNat fi) + p2)), (.ref ia)]))
  rw [show ((Int32.ofNat fi) + p2) = (Int32.ofNat (fi + kx)) from by rw [hp]; exact own_nadd (by omega)]
  show own_Go _ _ _ _ (Tf7_2.setTop (mkF m 10 #[.val (.ref a1), .val (.int p2)] [(.int (Int32.ofNat (fi + kx))), (.ref ia)]))
  obtain ⟨clr7_3, Arr7_3, hir7_3, har7_3⟩ := V_ia.at (j := (Int32.ofNat (fi + kx))) (own_in4 hk)
  replace har7_3 := har7_3.trans (congrArg some (own_at (fun k => .long (II k)) (by omega)))
  refine own_by (fun t k => Xf7_2.laload hx (j := (Int32.ofNat (fi + kx))) (v := (.long (II (fi + kx)))) (by rw [ef7_2]; exact Arr7_3.1) (State.isArrayOf_alike hZ.alike Arr7_3.2.1) Arr7_3.2.2 hir7_3 har7_3 (g := (mkF m 10 #[.val (.ref a1), .val (.int p2)] [(.int (Int32.ofNat (fi + kx))), (.ref ia)])) rfl rfl (hb hby d7_10) _ k) ?_
  show own_Go _ _ _ _ (Tf7_2.setTop (mkF m 11 #[.val (.ref a1), .val (.int p2)] [(.long (II (fi + kx)))]))
  obtain ⟨fs, hr, hrun, hended, hW, hsame⟩ := Xf7_2.leave (v := some (.long (II (fi + kx)))) (fun h => by rw [Bd.returns] at h; cases h)
  refine ⟨_, _, retOut Xf7_2 hx Bd.returns rfl (Or.inr (Or.inl ⟨rfl, rfl, _, rfl⟩)) (hb hby d7_11) hr, hrun, hended, _, _, rfl, ?_, ⟨_, rfl⟩, hW, hsame.mono (by decide) (by decide)⟩
  show Q7 Z a1 p2 ia fi kx II h0 n0 _ Tf7_2.heap _
  rw [ef7_2]
  exact ⟨rfl, N0, rfl⟩
theorem d1_0 : decode prog_16_method_1_code 0 = .ok (.aload_n 0, 1) := by decide +kernel
theorem d1_1 : decode prog_16_method_1_code 1 = .ok (.invokespecial 1, 3) := by decide +kernel
theorem d1_4 : decode prog_16_method_1_code 4 = .ok (.aload_n 0, 1) := by decide +kernel
theorem d1_5 : decode prog_16_method_1_code 5 = .ok (.iconst 4, 1) := by decide +kernel
theorem d1_6 : decode prog_16_method_1_code 6 = .ok (.newarray .long, 2) := by decide +kernel
theorem d1_8 : decode prog_16_method_1_code 8 = .ok (.putfield 9, 3) := by decide +kernel
theorem d1_11 : decode prog_16_method_1_code 11 = .ok (.aload_n 0, 1) := by decide +kernel
theorem d1_12 : decode prog_16_method_1_code 12 = .ok (.iconst 4, 1) := by decide +kernel
theorem d1_13 : decode prog_16_method_1_code 13 = .ok (.newarray .int, 2) := by decide +kernel
theorem d1_15 : decode prog_16_method_1_code 15 = .ok (.putfield 13, 3) := by decide +kernel
theorem d1_18 : decode prog_16_method_1_code 18 = .ok (.return_, 1) := by decide +kernel
theorem pn_1 : plainName "com/example/water_clock/waterclock/SubWindowCounts" = true := by first | (simp [plainName, overriddenIn]; done) | decide +kernel
theorem ef_1 (m : MethodId) (a1 : Addr) : entryFrame m #[(.ref a1)] 1 = mkF m 0 #[.val (.ref a1)] [] := by first | (simp [entryFrame, mkF, argsToLocals, Value.category]; done) | rfl
def Q1 (Z : State) (a1 : Addr) (h0 : Heap) (n0 : Nat) (v : Option Value) (h : Heap) (L : List Loc) : Prop := ∃ ia ca : Addr, v = none ∧ Fr n0 L ∧ Keep h0 h [a1] ∧ h0.size ≤ ia ∧ h0.size ≤ ca ∧ own_S Z h n0 a1 ia ca 0 0 0 (fun _ => 0) (fun _ => 0)
abbrev P1 (Z : State) (a1 : Addr) (h0 : Heap) (n0 : Nat) (s : State) : Outcome → State → Prop := fun o U' => ∃ v L, o = .returned v ∧ Q1 Z a1 h0 n0 v U'.heap L ∧ FrameEnd s o U' L ({ frames := 1, cells := 2, slots := 8, locals := 12 } : Room).cells ({ frames := 1, cells := 2, slots := 8, locals := 12 } : Room).slots
set_option maxRecDepth 65536 in
set_option maxHeartbeats 40000000 in
theorem rm1 (l : Launch) (Z : State) (a0 : Array Value) (hw : ∀ d ∈ tables_1, d.before a0 Z = true) (ws : List Jvm.Cond) (a1 : Addr) (h0 : Heap) (n0 : Nat) (Z0 : n0 ≤ h0.size) (E_a1 : Exa Z h0 a1 "com/example/water_clock/waterclock/SubWindowCounts") (F_indices_a1 : Fld Z h0 a1 "com/example/water_clock/waterclock/SubWindowCounts" "indices" "[J" .null) (F_counts_a1 : Fld Z h0 a1 "com/example/water_clock/waterclock/SubWindowCounts" "counts" "[I" .null) (F_first_a1 : Fld Z h0 a1 "com/example/water_clock/waterclock/SubWindowCounts" "first" "I" (.int (0 : Int32))) (F_end_a1 : Fld Z h0 a1 "com/example/water_clock/waterclock/SubWindowCounts" "end" "I" (.int (0 : Int32))) (F_total_a1 : Fld Z h0 a1 "com/example/water_clock/waterclock/SubWindowCounts" "total" "J" (.long (0 : Int64))) (g_a1 : n0 ≤ a1) :
    MetFree l (⟨"com/example/water_clock/waterclock/SubWindowCounts", "<init>", "()V"⟩ : MethodName) (head1 (Jvm.Cond.code (⟨"com/example/water_clock/waterclock/SubWindowCounts", "<init>", "()V"⟩ : MethodName) prog_16_method_1_code 1 none :: ws) ({ frames := 1, cells := 2, slots := 8, locals := 12 } : Room)) (fun a U => a = #[(.ref a1)] ∧ Z.Warmed39 U.vm ∧ U.heap = h0) (fun _ _ _ _ _ => True) (fun _ U o U' => ∃ v L, o = .returned v ∧ Q1 Z a1 h0 n0 v U'.heap L ∧ FrameEnd U o U' L ({ frames := 1, cells := 2, slots := 8, locals := 12 } : Room).cells ({ frames := 1, cells := 2, slots := 8, locals := 12 } : Room).slots) := by
  refine MetFree.of_bodySF (plainFor_of_name pn_1) hisR ?_
  intro p e s m args below meth c s₁ Bd hml0 hP hK
  obtain ⟨rfl, hZ, hh⟩ := hP
  have hx := Bd.exec
  have hby := Bd.bytes
  have hml : c.maxLocals = 1 := hml0
  have hown : s.vm.findClass "com/example/water_clock/waterclock/SubWindowCounts" = some m.cls := findClass_of_methodNamed Bd.named
  have hnm := (name_of_methodNamed Bd.named Bd.method).1
  have X0 : Stand p l e ({ frames := 1, cells := 2, slots := 8, locals := 12 } : Room) s m #[(.ref a1)] below meth c s₁ [] 0 0 := Stand.of_body Bd
  have e0 : s₁.heap = h0 := by rw [← hh, Bd.state]; rfl
  have N0 := Fr.nil n0
  show own_Go p.tables e below (P1 Z a1 h0 n0 s) (s₁.setTop (entryFrame m #[(.ref a1)] 1))
  refine own_by (T' := s₁.setTop (mkF m 0 #[.val (.ref a1)] [])) (fun t k => castTop (ef_1 m a1) k) ?_
  have KK := Keep.refl h0 [a1]
  show own_Go _ _ _ _ (s₁.setTop (mkF m 0 #[.val (.ref a1)] []))
  refine own_by (fun t k => XS.aloadN X0.here hx rfl (hb hby d1_0) rfl rfl k) ?_
  show own_Go _ _ _ _ (s₁.setTop (mkF m 1 #[.val (.ref a1)] [(.ref a1)]))
  obtain ⟨Ti1_1, Xi1_1, ei1_1, sti1_1⟩ := initO X0 hx hZ hown (hw _ (List.mem_of_getElem? (i := 7) rfl)) (hw _ (List.mem_of_getElem? (i := 8) rfl)) (hw _ (List.mem_of_getElem? (i := 9) rfl)) e0 (g := (mkF m 1 #[.val (.ref a1)] [(.ref a1)])) rfl (by rw [hml]; rfl) rfl (hb hby d1_1) (by decide) (W := 0) (by show 2 * 0 + _ ≤ _; exact Nat.le_of_eq rfl) (by decide)
  refine own_by (fun t k => sti1_1 t k) ?_
  show own_Go _ _ _ _ (Ti1_1.setTop (mkF m 4 #[.val (.ref a1)] []))
  refine own_by (fun t k => XS.aloadN Xi1_1.here hx rfl (hb hby d1_4) rfl rfl k) ?_
  show own_Go _ _ _ _ (Ti1_1.setTop (mkF m 5 #[.val (.ref a1)] [(.ref a1)]))
  refine own_by (fun t k => XS.iconst Xi1_1.here hx rfl (hb hby d1_5) k) ?_
  show own_Go _ _ _ _ (Ti1_1.setTop (mkF m 6 #[.val (.ref a1)] [(.int (4 : Int32)), (.ref a1)]))
  obtain ⟨Ta1_2, ha1_2, ka1_2, Xa1_2, ea1_2, Ea1_2, Aa1_2, sta1_2⟩ := newP Xi1_1 hx hZ (hw _ (List.mem_of_getElem? (i := 0) rfl)) ei1_1 (g := (mkF m 6 #[.val (.ref a1)] [(.int (4 : Int32)), (.ref a1)])) rfl (hb hby d1_6) rfl (by decide) (cap := 4) (by decide) (by decide) (by decide) (by decide)
  obtain ⟨ia, q_ia⟩ : ∃ z, z = h0.size := ⟨_, rfl⟩
  rw [← q_ia] at Aa1_2 sta1_2
  have g_ia : n0 ≤ ia := Nat.le_trans Z0 (Nat.le_of_eq q_ia.symm)
  have Zs_a1_2 : n0 ≤ ha1_2.size := Nat.le_trans Z0 Ea1_2.1
  have ne_a1_ia : a1 ≠ ia := Nat.ne_of_lt (Nat.lt_of_lt_of_le E_a1.lt (Nat.le_of_eq q_ia.symm))
  replace E_a1 := E_a1.ext Ea1_2
  replace F_indices_a1 := F_indices_a1.ext Ea1_2
  replace F_counts_a1 := F_counts_a1.ext Ea1_2
  replace F_first_a1 := F_first_a1.ext Ea1_2
  replace F_end_a1 := F_end_a1.ext Ea1_2
  replace F_total_a1 := F_total_a1.ext Ea1_2
  have sz_ia : h0.size ≤ ia := Nat.le_trans KK.1 (Nat.le_of_eq q_ia.symm)
  replace KK := KK.ext Ea1_2
  have V_ia := own_new Aa1_2 (by decide)
  refine own_by (fun t k => sta1_2 t k) ?_
  show own_Go _ _ _ _ (Ta1_2.setTop (mkF m 8 #[.val (.ref a1)] [(.ref ia), (.ref a1)]))
  obtain ⟨Tp1_3, hp1_3, Xp1_3, ep1_3, Wp1_3, stp1_3⟩ := putF Xa1_2 hx hZ hown (host := "") (Or.inl (hw _ (List.mem_of_getElem? (i := 10) rfl))) Via.refl ea1_2 F_indices_a1 E_a1 (Or.inl (hw _ (List.mem_of_getElem? (i := 11) rfl))) (hw _ (List.mem_of_getElem? (i := 2) rfl)) (ty := (.array .long)) (by decide) rfl rfl (g := (mkF m 8 #[.val (.ref a1)] [(.ref ia), (.ref a1)])) rfl rfl (hb hby d1_8)
  replace F_indices_a1 := F_indices_a1.same Wp1_3
  replace E_a1 := E_a1.wr Wp1_3
  replace F_counts_a1 := F_counts_a1.other Wp1_3 (Or.inr (slot_ne (Or.inl (hw _ (List.mem_of_getElem? (i := 14) rfl))) (Or.inl (hw _ (List.mem_of_getElem? (i := 11) rfl))) (by decide) (t := (.array .int)) (t' := (.array .long)) (by decide) (by decide)))
  replace F_first_a1 := F_first_a1.other Wp1_3 (Or.inr (slot_ne (Or.inl (hw _ (List.mem_of_getElem? (i := 23) rfl))) (Or.inl (hw _ (List.mem_of_getElem? (i := 11) rfl))) (by decide) (t := .int) (t' := (.array .long)) (by decide) (by decide)))
  replace F_end_a1 := F_end_a1.other Wp1_3 (Or.inr (slot_ne (Or.inl (hw _ (List.mem_of_getElem? (i := 21) rfl))) (Or.inl (hw _ (List.mem_of_getElem? (i := 11) rfl))) (by decide) (t := .int) (t' := (.array .long)) (by decide) (by decide)))
  replace F_total_a1 := F_total_a1.other Wp1_3 (Or.inr (slot_ne (Or.inl (hw _ (List.mem_of_getElem? (i := 33) rfl))) (Or.inl (hw _ (List.mem_of_getElem? (i := 11) rfl))) (by decide) (t := .long) (t' := (.array .long)) (by decide) (by decide)))
  replace V_ia := V_ia.other Wp1_3 (Ne.symm ne_a1_ia)
  replace KK := KK.wr Wp1_3 (Or.inl (List.mem_of_getElem? (i := 0) rfl))
  have Np1_3 := Fr.snoc Xp1_3 N0 g_a1
  have Zs_p1_3 : n0 ≤ hp1_3.size := by rw [Wp1_3.size]; exact Zs_a1_2
  refine own_by (fun t k => stp1_3 t k) ?_
  show own_Go _ _ _ _ (Tp1_3.setTop (mkF m 11 #[.val (.ref a1)] []))
  refine own_by (fun t k => XS.aloadN Xp1_3.here hx rfl (hb hby d1_11) rfl rfl k) ?_
  show own_Go _ _ _ _ (Tp1_3.setTop (mkF m 12 #[.val (.ref a1)] [(.ref a1)]))
  refine own_by (fun t k => XS.iconst Xp1_3.here hx rfl (hb hby d1_12) k) ?_
  show own_Go _ _ _ _ (Tp1_3.setTop (mkF m 13 #[.val (.ref a1)] [(.int (4 : Int32)), (.ref a1)]))
  obtain ⟨Ta1_4, ha1_4, ka1_4, Xa1_4, ea1_4, Ea1_4, Aa1_4, sta1_4⟩ := newP Xp1_3 hx hZ (hw _ (List.mem_of_getElem? (i := 12) rfl)) ep1_3 (g := (mkF m 13 #[.val (.ref a1)] [(.int (4 : Int32)), (.ref a1)])) rfl (hb hby d1_13) rfl (by decide) (cap := 4) (by decide) (by decide) (by decide) (by decide)
  obtain ⟨ca, q_ca⟩ : ∃ z, z = hp1_3.size := ⟨_, rfl⟩
  rw [← q_ca] at Aa1_4 sta1_4
  have g_ca : n0 ≤ ca := Nat.le_trans Zs_p1_3 (Nat.le_of_eq q_ca.symm)
  have Zs_a1_4 : n0 ≤ ha1_4.size := Nat.le_trans Zs_p1_3 Ea1_4.1
  have ne_a1_ca : a1 ≠ ca := Nat.ne_of_lt (Nat.lt_of_lt_of_le E_a1.lt (Nat.le_of_eq q_ca.symm))
  have ne_ia_ca : ia ≠ ca := Nat.ne_of_lt (Nat.lt_of_lt_of_le V_ia.lt (Nat.le_of_eq q_ca.symm))
  replace E_a1 := E_a1.ext Ea1_4
  replace F_counts_a1 := F_counts_a1.ext Ea1_4
  replace F_first_a1 := F_first_a1.ext Ea1_4
  replace F_end_a1 := F_end_a1.ext Ea1_4
  replace F_total_a1 := F_total_a1.ext Ea1_4
  replace V_ia := V_ia.ext Ea1_4
  replace F_indices_a1 := F_indices_a1.ext Ea1_4
  have sz_ca : h0.size ≤ ca := Nat.le_trans KK.1 (Nat.le_of_eq q_ca.symm)
  replace KK := KK.ext Ea1_4
  have V_ca := own_new Aa1_4 (by decide)
  refine own_by (fun t k => sta1_4 t k) ?_
  show own_Go _ _ _ _ (Ta1_4.setTop (mkF m 15 #[.val (.ref a1)] [(.ref ca), (.ref a1)]))
  obtain ⟨Tp1_5, hp1_5, Xp1_5, ep1_5, Wp1_5, stp1_5⟩ := putF Xa1_4 hx hZ hown (host := "") (Or.inl (hw _ (List.mem_of_getElem? (i := 13) rfl))) Via.refl ea1_4 F_counts_a1 E_a1 (Or.inl (hw _ (List.mem_of_getElem? (i := 14) rfl))) (hw _ (List.mem_of_getElem? (i := 2) rfl)) (ty := (.array .int)) (by decide) rfl rfl (g := (mkF m 15 #[.val (.ref a1)] [(.ref ca), (.ref a1)])) rfl rfl (hb hby d1_15)
  replace F_counts_a1 := F_counts_a1.same Wp1_5
  replace E_a1 := E_a1.wr Wp1_5
  replace F_first_a1 := F_first_a1.other Wp1_5 (Or.inr (slot_ne (Or.inl (hw _ (List.mem_of_getElem? (i := 23) rfl))) (Or.inl (hw _ (List.mem_of_getElem? (i := 14) rfl))) (by decide) (t := .int) (t' := (.array .int)) (by decide) (by decide)))
  replace F_end_a1 := F_end_a1.other Wp1_5 (Or.inr (slot_ne (Or.inl (hw _ (List.mem_of_getElem? (i := 21) rfl))) (Or.inl (hw _ (List.mem_of_getElem? (i := 14) rfl))) (by decide) (t := .int) (t' := (.array .int)) (by decide) (by decide)))
  replace F_total_a1 := F_total_a1.other Wp1_5 (Or.inr (slot_ne (Or.inl (hw _ (List.mem_of_getElem? (i := 33) rfl))) (Or.inl (hw _ (List.mem_of_getElem? (i := 14) rfl))) (by decide) (t := .long) (t' := (.array .int)) (by decide) (by decide)))
  replace V_ia := V_ia.other Wp1_5 (Ne.symm ne_a1_ia)
  replace F_indices_a1 := F_indices_a1.other Wp1_5 (Or.inr (slot_ne (Or.inl (hw _ (List.mem_of_getElem? (i := 11) rfl))) (Or.inl (hw _ (List.mem_of_getElem? (i := 14) rfl))) (by decide) (t := (.array .long)) (t' := (.array .int)) (by decide) (by decide)))
  replace V_ca := V_ca.other Wp1_5 (Ne.symm ne_a1_ca)
  replace KK := KK.wr Wp1_5 (Or.inl (List.mem_of_getElem? (i := 0) rfl))
  have Np1_5 := Fr.snoc Xp1_5 Np1_3 g_a1
  have Zs_p1_5 : n0 ≤ hp1_5.size := by rw [Wp1_5.size]; exact Zs_a1_4
  refine own_by (fun t k => stp1_5 t k) ?_
  show own_Go _ _ _ _ (Tp1_5.setTop (mkF m 18 #[.val (.ref a1)] []))
  obtain ⟨fs, hr, hrun, hended, hW, hsame⟩ := Xp1_5.leave (v := none) (fun _ => rfl)
  refine ⟨_, _, Xp1_5.returnOut hx Bd.returns (hb hby d1_18) hr, hrun, hended, _, _, rfl, ?_, ⟨_, rfl⟩, hW, hsame.mono (by decide) (by decide)⟩
  show Q1 Z a1 h0 n0 _ Tp1_5.heap _
  rw [ep1_5]
  exact ⟨ia, ca, rfl, Np1_5, KK, sz_ia, sz_ca, E_a1, F_indices_a1, F_counts_a1, F_first_a1, F_end_a1, F_total_a1, V_ia, V_ca, g_a1, g_ia, g_ca, ne_a1_ia, ne_a1_ca, ne_ia_ca⟩
theorem d4_0 : decode prog_16_method_8_code 0 = .ok (.iload_n 1, 1) := by decide +kernel
theorem d4_1 : decode prog_16_method_8_code 1 = .ok (.istore_n 2, 1) := by decide +kernel
theorem d4_2 : decode prog_16_method_8_code 2 = .ok (.aload_n 0, 1) := by decide +kernel
theorem d4_3 : decode prog_16_method_8_code 3 = .ok (.getfield 17, 3) := by decide +kernel
theorem d4_6 : decode prog_16_method_8_code 6 = .ok (.aload_n 0, 1) := by decide +kernel
theorem d4_7 : decode prog_16_method_8_code 7 = .ok (.getfield 9, 3) := by decide +kernel
theorem d4_10 : decode prog_16_method_8_code 10 = .ok (.arraylength, 1) := by decide +kernel
theorem d4_11 : decode prog_16_method_8_code 11 = .ok (.if_icmp .ne 97, 3) := by decide +kernel
theorem d4_108 : decode prog_16_method_8_code 108 = .ok (.aload_n 0, 1) := by decide +kernel
theorem d4_109 : decode prog_16_method_8_code 109 = .ok (.getfield 9, 3) := by decide +kernel
theorem d4_112 : decode prog_16_method_8_code 112 = .ok (.iload_n 2, 1) := by decide +kernel
theorem d4_113 : decode prog_16_method_8_code 113 = .ok (.aload_n 0, 1) := by decide +kernel
theorem d4_114 : decode prog_16_method_8_code 114 = .ok (.getfield 9, 3) := by decide +kernel
theorem d4_117 : decode prog_16_method_8_code 117 = .ok (.iload_n 2, 1) := by decide +kernel
theorem d4_118 : decode prog_16_method_8_code 118 = .ok (.iconst 1, 1) := by decide +kernel
theorem d4_119 : decode prog_16_method_8_code 119 = .ok (.iadd, 1) := by decide +kernel
theorem d4_120 : decode prog_16_method_8_code 120 = .ok (.aload_n 0, 1) := by decide +kernel
theorem d4_121 : decode prog_16_method_8_code 121 = .ok (.getfield 17, 3) := by decide +kernel
theorem d4_124 : decode prog_16_method_8_code 124 = .ok (.iload_n 2, 1) := by decide +kernel
theorem d4_125 : decode prog_16_method_8_code 125 = .ok (.isub, 1) := by decide +kernel
theorem d4_126 : decode prog_16_method_8_code 126 = .ok (.invokestatic 45, 3) := by decide +kernel
theorem d4_129 : decode prog_16_method_8_code 129 = .ok (.aload_n 0, 1) := by decide +kernel
theorem d4_130 : decode prog_16_method_8_code 130 = .ok (.getfield 13, 3) := by decide +kernel
theorem d4_133 : decode prog_16_method_8_code 133 = .ok (.iload_n 2, 1) := by decide +kernel
theorem d4_134 : decode prog_16_method_8_code 134 = .ok (.aload_n 0, 1) := by decide +kernel
theorem d4_135 : decode prog_16_method_8_code 135 = .ok (.getfield 13, 3) := by decide +kernel
theorem d4_138 : decode prog_16_method_8_code 138 = .ok (.iload_n 2, 1) := by decide +kernel
theorem d4_139 : decode prog_16_method_8_code 139 = .ok (.iconst 1, 1) := by decide +kernel
theorem d4_140 : decode prog_16_method_8_code 140 = .ok (.iadd, 1) := by decide +kernel
theorem d4_141 : decode prog_16_method_8_code 141 = .ok (.aload_n 0, 1) := by decide +kernel
theorem d4_142 : decode prog_16_method_8_code 142 = .ok (.getfield 17, 3) := by decide +kernel
theorem d4_145 : decode prog_16_method_8_code 145 = .ok (.iload_n 2, 1) := by decide +kernel
theorem d4_146 : decode prog_16_method_8_code 146 = .ok (.isub, 1) := by decide +kernel
theorem d4_147 : decode prog_16_method_8_code 147 = .ok (.invokestatic 45, 3) := by decide +kernel
theorem d4_150 : decode prog_16_method_8_code 150 = .ok (.aload_n 0, 1) := by decide +kernel
theorem d4_151 : decode prog_16_method_8_code 151 = .ok (.dup, 1) := by decide +kernel
theorem d4_152 : decode prog_16_method_8_code 152 = .ok (.getfield 17, 3) := by decide +kernel
theorem d4_155 : decode prog_16_method_8_code 155 = .ok (.iconst 1, 1) := by decide +kernel
theorem d4_156 : decode prog_16_method_8_code 156 = .ok (.iadd, 1) := by decide +kernel
theorem d4_157 : decode prog_16_method_8_code 157 = .ok (.putfield 17, 3) := by decide +kernel
theorem d4_160 : decode prog_16_method_8_code 160 = .ok (.iload_n 2, 1) := by decide +kernel
theorem d4_161 : decode prog_16_method_8_code 161 = .ok (.ireturn, 1) := by decide +kernel
theorem pn_4 : plainName "com/example/water_clock/waterclock/SubWindowCounts" = true := by first | (simp [plainName, overriddenIn]; done) | decide +kernel
theorem ef_4 (m : MethodId) (a1 : Addr) (gp : Nat) : entryFrame m #[(.ref a1), (.int (Int32.ofNat gp))] 5 = mkF m 0 #[.val (.ref a1), .val (.int (Int32.ofNat gp)), .unset, .unset, .unset] [] := by first | (simp [entryFrame, mkF, argsToLocals, Value.category]; done) | rfl
def Q4 (Z : State) (a1 : Addr) (gp : Nat) (ia : Addr) (ca : Addr) (fi : Nat) (en : Nat) (tt : Int64) (II : Nat → Int64) (CC : Nat → Int32) (h0 : Heap) (n0 : Nat) (v : Option Value) (h : Heap) (L : List Loc) : Prop := v = some (.int (Int32.ofNat gp)) ∧ Fr n0 L ∧ Keep h0 h [a1, ia, ca] ∧ own_S Z h n0 a1 ia ca fi (en + 1) tt (own_gap II gp en) (own_gap CC gp en)
abbrev P4 (Z : State) (a1 : Addr) (gp : Nat) (ia : Addr) (ca : Addr) (fi : Nat) (en : Nat) (tt : Int64) (II : Nat → Int64) (CC : Nat → Int32) (h0 : Heap) (n0 : Nat) (s : State) : Outcome → State → Prop := fun o U' => ∃ v L, o = .returned v ∧ Q4 Z a1 gp ia ca fi en tt II CC h0 n0 v U'.heap L ∧ FrameEnd s o U' L ({ frames := 1, cells := 0, slots := 0, locals := 18 } : Room).cells ({ frames := 1, cells := 0, slots := 0, locals := 18 } : Room).slots
set_option maxRecDepth 65536 in
set_option maxHeartbeats 40000000 in
theorem rm4 (l : Launch) (Z : State) (a0 : Array Value) (hw : ∀ d ∈ tables_1, d.before a0 Z = true) (ws : List Jvm.Cond) (a1 : Addr) (gp : Nat) (ia : Addr) (ca : Addr) (fi : Nat) (en : Nat) (tt : Int64) (II : Nat → Int64) (CC : Nat → Int32) (h0 : Heap) (n0 : Nat) (Z0 : n0 ≤ h0.size) (S0 : own_S Z h0 n0 a1 ia ca fi en tt II CC) (hge : gp ≤ en) (he3 : en ≤ 3) :
    MetFree l (⟨"com/example/water_clock/waterclock/SubWindowCounts", "openGap", "(I)I"⟩ : MethodName) (head1 (Jvm.Cond.code (⟨"com/example/water_clock/waterclock/SubWindowCounts", "openGap", "(I)I"⟩ : MethodName) prog_16_method_8_code 5 (some .int) :: ws) ({ frames := 1, cells := 0, slots := 0, locals := 18 } : Room)) (fun a U => a = #[(.ref a1), (.int (Int32.ofNat gp))] ∧ Z.Warmed39 U.vm ∧ U.heap = h0) (fun _ _ _ _ _ => True) (fun _ U o U' => ∃ v L, o = .returned v ∧ Q4 Z a1 gp ia ca fi en tt II CC h0 n0 v U'.heap L ∧ FrameEnd U o U' L ({ frames := 1, cells := 0, slots := 0, locals := 18 } : Room).cells ({ frames := 1, cells := 0, slots := 0, locals := 18 } : Room).slots) := by
  refine MetFree.of_bodySF (plainFor_of_name pn_4) hisR ?_
  intro p e s m args below meth c s₁ Bd hml0 hP hK
  obtain ⟨rfl, hZ, hh⟩ := hP
  have hx := Bd.exec
  have hby := Bd.bytes
  have hml : c.maxLocals = 5 := hml0
  have hown : s.vm.findClass "com/example/water_clock/waterclock/SubWindowCounts" = some m.cls := findClass_of_methodNamed Bd.named
  have hnm := (name_of_methodNamed Bd.named Bd.method).1
  have X0 : Stand p l e ({ frames := 1, cells := 0, slots := 0, locals := 18 } : Room) s m #[(.ref a1), (.int (Int32.ofNat gp))] below meth c s₁ [] 0 0 := Stand.of_body Bd
  have e0 : s₁.heap = h0 := by rw [← hh, Bd.state]; rfl
  have N0 := Fr.nil n0
  show own_Go p.tables e below (P4 Z a1 gp ia ca fi en tt II CC h0 n0 s) (s₁.setTop (entryFrame m #[(.ref a1), (.int (Int32.ofNat gp))] 5))
  refine own_by (T' := s₁.setTop (mkF m 0 #[.val (.ref a1), .val (.int (Int32.ofNat gp)), .unset, .unset, .unset] [])) (fun t k => castTop (ef_4 m a1 gp) k) ?_
  obtain ⟨E_a1, F_indices_a1, F_counts_a1, F_first_a1, F_end_a1, F_total_a1, V_ia, V_ca, g_a1, g_ia, g_ca, ne_a1_ia, ne_a1_ca, ne_ia_ca⟩ := S0
  have KK := Keep.refl h0 [a1, ia, ca]
  show own_Go _ _ _ _ (s₁.setTop (mkF m 0 #[.val (.ref a1), .val (.int (Int32.ofNat gp)), .unset, .unset, .unset] []))
  refine own_by (fun t k => XS.iloadN X0.here hx rfl (hb hby d4_0) rfl k) ?_
  show own_Go _ _ _ _ (s₁.setTop (mkF m 1 #[.val (.ref a1), .val (.int (Int32.ofNat gp)), .unset, .unset, .unset] [(.int (Int32.ofNat gp))]))
  refine own_by (fun t k => XS.istoreN X0.here hx rfl (hb hby d4_1) rfl (l' := #[.val (.ref a1), .val (.int (Int32.ofNat gp)), .val (.int (Int32.ofNat gp)), .unset, .unset]) rfl k) ?_
  show own_Go _ _ _ _ (s₁.setTop (mkF m 2 #[.val (.ref a1), .val (.int (Int32.ofNat gp)), .val (.int (Int32.ofNat gp)), .unset, .unset] []))
  refine own_by (fun t k => XS.aloadN X0.here hx rfl (hb hby d4_2) rfl rfl k) ?_
  show own_Go _ _ _ _ (s₁.setTop (mkF m 3 #[.val (.ref a1), .val (.int (Int32.ofNat gp)), .val (.int (Int32.ofNat gp)), .unset, .unset] [(.ref a1)]))
  obtain ⟨Tf4_1, Xf4_1, ef4_1, stf4_1⟩ := getF X0 hx hZ hown (host := "") (Or.inl (hw _ (List.mem_of_getElem? (i := 20) rfl))) Via.refl e0 F_end_a1 (g := (mkF m 3 #[.val (.ref a1), .val (.int (Int32.ofNat gp)), .val (.int (Int32.ofNat gp)), .unset, .unset] [(.ref a1)])) rfl rfl (hb hby d4_3)
  refine own_by (fun t k => stf4_1 t k) ?_
  show own_Go _ _ _ _ (Tf4_1.setTop (mkF m 6 #[.val (.ref a1), .val (.int (Int32.ofNat gp)), .val (.int (Int32.ofNat gp)), .unset, .unset] [(.int (Int32.ofNat en))]))
  refine own_by (fun t k => XS.aloadN Xf4_1.here hx rfl (hb hby d4_6) rfl rfl k) ?_
  show own_Go _ _ _ _ (Tf4_1.setTop (mkF m 7 #[.val (.ref a1), .val (.int (Int32.ofNat gp)), .val (.int (Int32.ofNat gp)), .unset, .unset] [(.ref a1), (.int (Int32.ofNat en))]))
  obtain ⟨Tf4_2, Xf4_2, ef4_2, stf4_2⟩ := getF Xf4_1 hx hZ hown (host := "") (Or.inl (hw _ (List.mem_of_getElem? (i := 10) rfl))) Via.refl ef4_1 F_indices_a1 (g := (mkF m 7 #[.val (.ref a1), .val (.int (Int32.ofNat gp)), .val (.int (Int32.ofNat gp)), .unset, .unset] [(.ref a1), (.int (Int32.ofNat en))])) rfl rfl (hb hby d4_7)
  refine own_by (fun t k => stf4_2 t k) ?_
  show own_Go _ _ _ _ (Tf4_2.setTop (mkF m 10 #[.val (.ref a1), .val (.int (Int32.ofNat gp)), .val (.int (Int32.ofNat gp)), .unset, .unset] [(.ref ia), (.int (Int32.ofNat en))]))
  obtain ⟨cll4_3, Arl4_3, Sl4_3, Ml4_3, -⟩ := id V_ia
  refine own_by (fun t k => Xf4_2.arraylength hx (by rw [ef4_2]; exact Arl4_3.1) (State.isArrayOf_alike hZ.alike Arl4_3.2.1) (g := (mkF m 10 #[.val (.ref a1), .val (.int (Int32.ofNat gp)), .val (.int (Int32.ofNat gp)), .unset, .unset] [(.ref ia), (.int (Int32.ofNat en))])) rfl rfl (hb hby d4_10) _ k) ?_
  rw [len_of Sl4_3 Ml4_3]
  show own_Go _ _ _ _ (Tf4_2.setTop (mkF m 11 #[.val (.ref a1), .val (.int (Int32.ofNat gp)), .val (.int (Int32.ofNat gp)), .unset, .unset] [(.int (4 : Int32)), (.int (Int32.ofNat en))]))
  refine own_by (fun t k => XS.icmpYes Xf4_2.here hx rfl (pc0 := 11) (pc' := 108) rfl (hb hby d4_11) rfl (feq (fun q => absurd ((own_neq (b := 4) (by omega) (by omega)).mp q) (by omega) : ¬ ((Int32.ofNat en) = (4 : Int32)))).2 (by decide) (by decide) k) ?_
  show own_Go _ _ _ _ (Tf4_2.setTop (mkF m 108 #[.val (.ref a1), .val (.int (Int32.ofNat gp)), .val (.int (Int32.ofNat gp)), .unset, .unset] []))
  refine own_by (fun t k => XS.aloadN Xf4_2.here hx rfl (hb hby d4_108) rfl rfl k) ?_
  show own_Go _ _ _ _ (Tf4_2.setTop (mkF m 109 #[.val (.ref a1), .val (.int (Int32.ofNat gp)), .val (.int (Int32.ofNat gp)), .unset, .unset] [(.ref a1)]))
  obtain ⟨Tf4_4, Xf4_4, ef4_4, stf4_4⟩ := getF Xf4_2 hx hZ hown (host := "") (Or.inl (hw _ (List.mem_of_getElem? (i := 10) rfl))) Via.refl ef4_2 F_indices_a1 (g := (mkF m 109 #[.val (.ref a1), .val (.int (Int32.ofNat gp)), .val (.int (Int32.ofNat gp)), .unset, .unset] [(.ref a1)])) rfl rfl (hb hby d4_109)
  refine own_by (fun t k => stf4_4 t k) ?_
  show own_Go _ _ _ _ (Tf4_4.setTop (mkF m 112 #[.val (.ref a1), .val (.int (Int32.ofNat gp)), .val (.int (Int32.ofNat gp)), .unset, .unset] [(.ref ia)]))
  refine own_by (fun t k => XS.iloadN Xf4_4.here hx rfl (hb hby d4_112) rfl k) ?_
  show own_Go _ _ _ _ (Tf4_4.setTop (mkF m 113 #[.val (.ref a1), .val (.int (Int32.ofNat gp)), .val (.int (Int32.ofNat gp)), .unset, .unset] [(.int (Int32.ofNat gp)), (.ref ia)]))
  refine own_by (fun t k => XS.aloadN Xf4_4.here hx rfl (hb hby d4_113) rfl rfl k) ?_
  show own_Go _ _ _ _ (Tf4_4.setTop (mkF m 114 #[.val (.ref a1), .val (.int (Int32.ofNat gp)), .val (.int (Int32.ofNat gp)), .unset, .unset] [(.ref a1), (.int (Int32.ofNat gp)), (.ref ia)]))
  obtain ⟨Tf4_5, Xf4_5, ef4_5, stf4_5⟩ := getF Xf4_4 hx hZ hown (host := "") (Or.inl (hw _ (List.mem_of_getElem? (i := 10) rfl))) Via.refl ef4_4 F_indices_a1 (g := (mkF m 114 #[.val (.ref a1), .val (.int (Int32.ofNat gp)), .val (.int (Int32.ofNat gp)), .unset, .unset] [(.ref a1), (.int (Int32.ofNat gp)), (.ref ia)])) rfl rfl (hb hby d4_114)
  refine own_by (fun t k => stf4_5 t k) ?_
  show own_Go _ _ _ _ (Tf4_5.setTop (mkF m 117 #[.val (.ref a1), .val (.int (Int32.ofNat gp)), .val (.int (Int32.ofNat gp)), .unset, .unset] [(.ref ia), (.int (Int32.ofNat gp)), (.ref ia)]))
  refine own_by (fun t k => XS.iloadN Xf4_5.here hx rfl (hb hby d4_117) rfl k) ?_
  show own_Go _ _ _ _ (Tf4_5.setTop (mkF m 118 #[.val (.ref a1), .val (.int (Int32.ofNat gp)), .val (.int (Int32.ofNat gp)), .unset, .unset] [(.int (Int32.ofNat gp)), (.ref ia), (.int (Int32.ofNat gp)), (.ref ia)]))
  refine own_by (fun t k => XS.iconst Xf4_5.here hx rfl (hb hby d4_118) k) ?_
  show own_Go _ _ _ _ (Tf4_5.setTop (mkF m 119 #[.val (.ref a1), .val (.int (Int32.ofNat gp)), .val (.int (Int32.ofNat gp)), .unset, .unset] [(.int (1 : Int32)), (.int (Int32.ofNat gp)), (.ref ia), (.int (Int32.ofNat gp)), (.ref ia)]))
  refine own_by (fun t k => XS.iadd Xf4_5.here hx rfl (hb hby d4_119) rfl k) ?_
  show own_Go _ _ _ _ (Tf4_5.setTop (mkF m 120 #[.val (.ref a1), .val (.int (Int32.ofNat gp)), .val (.int (Int32.ofNat gp)), .unset, .unset] [(.int ((Int32.ofNat gp) + (1 : Int32))), (.ref ia), (.int (Int32.ofNat gp)), (.ref ia)]))
  refine own_by (fun t k => XS.aloadN Xf4_5.here hx rfl (hb hby d4_120) rfl rfl k) ?_
  show own_Go _ _ _ _ (Tf4_5.setTop (mkF m 121 #[.val (.ref a1), .val (.int (Int32.ofNat gp)), .val (.int (Int32.ofNat gp)), .unset, .unset] [(.ref a1), (.int ((Int32.ofNat gp) + (1 : Int32))), (.ref ia), (.int (Int32.ofNat gp)), (.ref ia)]))
  obtain ⟨Tf4_6, Xf4_6, ef4_6, stf4_6⟩ := getF Xf4_5 hx hZ hown (host := "") (Or.inl (hw _ (List.mem_of_getElem? (i := 20) rfl))) Via.refl ef4_5 F_end_a1 (g := (mkF m 121 #[.val (.ref a1), .val (.int (Int32.ofNat gp)), .val (.int (Int32.ofNat gp)), .unset, .unset] [(.ref a1), (.int ((Int32.ofNat gp) + (1 : Int32))), (.ref ia), (.int (Int32.ofNat gp)), (.ref ia)])) rfl rfl (hb hby d4_121)
  refine own_by (fun t k => stf4_6 t k) ?_
  show own_Go _ _ _ _ (Tf4_6.setTop (mkF m 124 #[.val (.ref a1), .val (.int (Int32.ofNat gp)), .val (.int (Int32.ofNat gp)), .unset, .unset] [(.int (Int32.ofNat en)), (.int ((Int32.ofNat gp) + (1 : Int32))), (.ref ia), (.int (Int32.ofNat gp)), (.ref ia)]))
  refine own_by (fun t k => XS.iloadN Xf4_6.here hx rfl (hb hby d4_124) rfl k) ?_
  show own_Go _ _ _ _ (Tf4_6.setTop (mkF m 125 #[.val (.ref a1), .val (.int (Int32.ofNat gp)), .val (.int (Int32.ofNat gp)), .unset, .unset] [(.int (Int32.ofNat gp)), (.int (Int32.ofNat en)), (.int ((Int32.ofNat gp) + (1 : Int32))), (.ref ia), (.int (Int32.ofNat gp)), (.ref ia)]))
  refine own_by (fun t k => XS.isub Xf4_6.here hx rfl (hb hby d4_125) rfl k) ?_
  show own_Go _ _ _ _ (Tf4_6.setTop (mkF m 126 #[.val (.ref a1), .val (.int (Int32.ofNat gp)), .val (.int (Int32.ofNat gp)), .unset, .unset] [(.int ((Int32.ofNat en) - (Int32.ofNat gp))), (.int ((Int32.ofNat gp) + (1 : Int32))), (.ref ia), (.int (Int32.ofNat gp)), (.ref ia)]))
  rw [show ((Int32.ofNat en) - (Int32.ofNat gp)) = (Int32.ofNat (en - gp)) from own_nsub hge (by omega)]
  show own_Go _ _ _ _ (Tf4_6.setTop (mkF m 126 #[.val (.ref a1), .val (.int (Int32.ofNat gp)), .val (.int (Int32.ofNat gp)), .unset, .unset] [(.int (Int32.ofNat (en - gp))), (.int ((Int32.ofNat gp) + (1 : Int32))), (.ref ia), (.int (Int32.ofNat gp)), (.ref ia)]))
  rw [show ((Int32.ofNat gp) + (1 : Int32)) = (Int32.ofNat (gp + 1)) from own_add1 (by omega)]
  show own_Go _ _ _ _ (Tf4_6.setTop (mkF m 126 #[.val (.ref a1), .val (.int (Int32.ofNat gp)), .val (.int (Int32.ofNat gp)), .unset, .unset] [(.int (Int32.ofNat (en - gp))), (.int (Int32.ofNat (gp + 1))), (.ref ia), (.int (Int32.ofNat gp)), (.ref ia)]))
  obtain ⟨kay4_7, Aay4_7⟩ := own_arv V_ia (fun _ => rfl)
  obtain ⟨Ty4_7, hy4_7, Ly4_7, Xy4_7, ey4_7, Ny4_7, Ky4_7, Ay4_7, sty4_7⟩ := cpA Xf4_6 hx hZ hown (hw _ (List.mem_of_getElem? (i := 28) rfl)) (hw _ (List.mem_of_getElem? (i := 31) rfl)) (hw _ (List.mem_of_getElem? (i := 29) rfl)) (hw _ (List.mem_of_getElem? (i := 30) rfl)) ef4_6 Aay4_7 Aay4_7 (Or.inl ⟨rfl, rfl⟩) (sp := Int32.ofNat gp) (dp := Int32.ofNat (gp + 1)) (nn := Int32.ofNat (en - gp)) (own_nn (by omega)) (own_nn (by omega)) (own_nn (by omega)) (by rw [own_cl (by omega), own_cl (by omega)]; show _ ≤ 4; omega) (by rw [own_cl (by omega), own_cl (by omega)]; show _ ≤ 4; omega) rfl (by rw [own_cl (by omega), own_cl (by omega)]; show _ ≤ 4; omega) N0 g_ia (g := (mkF m 126 #[.val (.ref a1), .val (.int (Int32.ofNat gp)), .val (.int (Int32.ofNat gp)), .unset, .unset] [(.int (Int32.ofNat (en - gp))), (.int (Int32.ofNat (gp + 1))), (.ref ia), (.int (Int32.ofNat gp)), (.ref ia)])) rfl (by rw [hml]; rfl) (rest := []) rfl (hb hby d4_126) (by decide) (W := 0) (by show 2 * 0 + _ ≤ _; exact Nat.le_of_eq rfl) (by decide)
  rw [own_cl (show gp < 2147483648 by omega), own_cl (show gp + 1 < 2147483648 by omega), own_cl (show en - gp < 2147483648 by omega)] at Ay4_7
  replace E_a1 := E_a1.keep Ky4_7
  replace F_indices_a1 := F_indices_a1.keep Ky4_7 (ninS ne_a1_ia nin0)
  replace F_counts_a1 := F_counts_a1.keep Ky4_7 (ninS ne_a1_ia nin0)
  replace F_first_a1 := F_first_a1.keep Ky4_7 (ninS ne_a1_ia nin0)
  replace F_end_a1 := F_end_a1.keep Ky4_7 (ninS ne_a1_ia nin0)
  replace F_total_a1 := F_total_a1.keep Ky4_7 (ninS ne_a1_ia nin0)
  replace V_ca := V_ca.keep Ky4_7 (ninS (Ne.symm ne_ia_ca) nin0)
  have Zs_y4_7 : n0 ≤ hy4_7.size := Nat.le_trans Z0 Ky4_7.1
  replace KK := KK.trans Ky4_7 (allS (Or.inl (List.mem_of_getElem? (i := 1) rfl)) all0)
  replace V_ia := (own_of_arv Ay4_7).weak (f' := fun k => .long (own_gap II gp en k)) (fun k hk => (own_copy (fun k => Value.long (II k)) _ gp en hge he3 k hk).trans (by simp only [own_gap]; split <;> (try split) <;> rfl))
  refine own_by (fun t k => sty4_7 t k) ?_
  show own_Go _ _ _ _ (Ty4_7.setTop (mkF m 129 #[.val (.ref a1), .val (.int (Int32.ofNat gp)), .val (.int (Int32.ofNat gp)), .unset, .unset] []))
  refine own_by (fun t k => XS.aloadN Xy4_7.here hx rfl (hb hby d4_129) rfl rfl k) ?_
  show own_Go _ _ _ _ (Ty4_7.setTop (mkF m 130 #[.val (.ref a1), .val (.int (Int32.ofNat gp)), .val (.int (Int32.ofNat gp)), .unset, .unset] [(.ref a1)]))
  obtain ⟨Tf4_8, Xf4_8, ef4_8, stf4_8⟩ := getF Xy4_7 hx hZ hown (host := "") (Or.inl (hw _ (List.mem_of_getElem? (i := 13) rfl))) Via.refl ey4_7 F_counts_a1 (g := (mkF m 130 #[.val (.ref a1), .val (.int (Int32.ofNat gp)), .val (.int (Int32.ofNat gp)), .unset, .unset] [(.ref a1)])) rfl rfl (hb hby d4_130)
  refine own_by (fun t k => stf4_8 t k) ?_
  show own_Go _ _ _ _ (Tf4_8.setTop (mkF m 133 #[.val (.ref a1), .val (.int (Int32.ofNat gp)), .val (.int (Int32.ofNat gp)), .unset, .unset] [(.ref ca)]))
  refine own_by (fun t k => XS.iloadN Xf4_8.here hx rfl (hb hby d4_133) rfl k) ?_
  show own_Go _ _ _ _ (Tf4_8.setTop (mkF m 134 #[.val (.ref a1), .val (.int (Int32.ofNat gp)), .val (.int (Int32.ofNat gp)), .unset, .unset] [(.int (Int32.ofNat gp)), (.ref ca)]))
  refine own_by (fun t k => XS.aloadN Xf4_8.here hx rfl (hb hby d4_134) rfl rfl k) ?_
  show own_Go _ _ _ _ (Tf4_8.setTop (mkF m 135 #[.val (.ref a1), .val (.int (Int32.ofNat gp)), .val (.int (Int32.ofNat gp)), .unset, .unset] [(.ref a1), (.int (Int32.ofNat gp)), (.ref ca)]))
  obtain ⟨Tf4_9, Xf4_9, ef4_9, stf4_9⟩ := getF Xf4_8 hx hZ hown (host := "") (Or.inl (hw _ (List.mem_of_getElem? (i := 13) rfl))) Via.refl ef4_8 F_counts_a1 (g := (mkF m 135 #[.val (.ref a1), .val (.int (Int32.ofNat gp)), .val (.int (Int32.ofNat gp)), .unset, .unset] [(.ref a1), (.int (Int32.ofNat gp)), (.ref ca)])) rfl rfl (hb hby d4_135)
  refine own_by (fun t k => stf4_9 t k) ?_
  show own_Go _ _ _ _ (Tf4_9.setTop (mkF m 138 #[.val (.ref a1), .val (.int (Int32.ofNat gp)), .val (.int (Int32.ofNat gp)), .unset, .unset] [(.ref ca), (.int (Int32.ofNat gp)), (.ref ca)]))
  refine own_by (fun t k => XS.iloadN Xf4_9.here hx rfl (hb hby d4_138) rfl k) ?_
  show own_Go _ _ _ _ (Tf4_9.setTop (mkF m 139 #[.val (.ref a1), .val (.int (Int32.ofNat gp)), .val (.int (Int32.ofNat gp)), .unset, .unset] [(.int (Int32.ofNat gp)), (.ref ca), (.int (Int32.ofNat gp)), (.ref ca)]))
  refine own_by (fun t k => XS.iconst Xf4_9.here hx rfl (hb hby d4_139) k) ?_
  show own_Go _ _ _ _ (Tf4_9.setTop (mkF m 140 #[.val (.ref a1), .val (.int (Int32.ofNat gp)), .val (.int (Int32.ofNat gp)), .unset, .unset] [(.int (1 : Int32)), (.int (Int32.ofNat gp)), (.ref ca), (.int (Int32.ofNat gp)), (.ref ca)]))
  refine own_by (fun t k => XS.iadd Xf4_9.here hx rfl (hb hby d4_140) rfl k) ?_
  show own_Go _ _ _ _ (Tf4_9.setTop (mkF m 141 #[.val (.ref a1), .val (.int (Int32.ofNat gp)), .val (.int (Int32.ofNat gp)), .unset, .unset] [(.int ((Int32.ofNat gp) + (1 : Int32))), (.ref ca), (.int (Int32.ofNat gp)), (.ref ca)]))
  refine own_by (fun t k => XS.aloadN Xf4_9.here hx rfl (hb hby d4_141) rfl rfl k) ?_
  show own_Go _ _ _ _ (Tf4_9.setTop (mkF m 142 #[.val (.ref a1), .val (.int (Int32.ofNat gp)), .val (.int (Int32.ofNat gp)), .unset, .unset] [(.ref a1), (.int ((Int32.ofNat gp) + (1 : Int32))), (.ref ca), (.int (Int32.ofNat gp)), (.ref ca)]))
  obtain ⟨Tf4_10, Xf4_10, ef4_10, stf4_10⟩ := getF Xf4_9 hx hZ hown (host := "") (Or.inl (hw _ (List.mem_of_getElem? (i := 20) rfl))) Via.refl ef4_9 F_end_a1 (g := (mkF m 142 #[.val (.ref a1), .val (.int (Int32.ofNat gp)), .val (.int (Int32.ofNat gp)), .unset, .unset] [(.ref a1), (.int ((Int32.ofNat gp) + (1 : Int32))), (.ref ca), (.int (Int32.ofNat gp)), (.ref ca)])) rfl rfl (hb hby d4_142)
  refine own_by (fun t k => stf4_10 t k) ?_
  show own_Go _ _ _ _ (Tf4_10.setTop (mkF m 145 #[.val (.ref a1), .val (.int (Int32.ofNat gp)), .val (.int (Int32.ofNat gp)), .unset, .unset] [(.int (Int32.ofNat en)), (.int ((Int32.ofNat gp) + (1 : Int32))), (.ref ca), (.int (Int32.ofNat gp)), (.ref ca)]))
  refine own_by (fun t k => XS.iloadN Xf4_10.here hx rfl (hb hby d4_145) rfl k) ?_
  show own_Go _ _ _ _ (Tf4_10.setTop (mkF m 146 #[.val (.ref a1), .val (.int (Int32.ofNat gp)), .val (.int (Int32.ofNat gp)), .unset, .unset] [(.int (Int32.ofNat gp)), (.int (Int32.ofNat en)), (.int ((Int32.ofNat gp) + (1 : Int32))), (.ref ca), (.int (Int32.ofNat gp)), (.ref ca)]))
  refine own_by (fun t k => XS.isub Xf4_10.here hx rfl (hb hby d4_146) rfl k) ?_
  show own_Go _ _ _ _ (Tf4_10.setTop (mkF m 147 #[.val (.ref a1), .val (.int (Int32.ofNat gp)), .val (.int (Int32.ofNat gp)), .unset, .unset] [(.int ((Int32.ofNat en) - (Int32.ofNat gp))), (.int ((Int32.ofNat gp) + (1 : Int32))), (.ref ca), (.int (Int32.ofNat gp)), (.ref ca)]))
  rw [show ((Int32.ofNat en) - (Int32.ofNat gp)) = (Int32.ofNat (en - gp)) from own_nsub hge (by omega)]
  show own_Go _ _ _ _ (Tf4_10.setTop (mkF m 147 #[.val (.ref a1), .val (.int (Int32.ofNat gp)), .val (.int (Int32.ofNat gp)), .unset, .unset] [(.int (Int32.ofNat (en - gp))), (.int ((Int32.ofNat gp) + (1 : Int32))), (.ref ca), (.int (Int32.ofNat gp)), (.ref ca)]))
  rw [show ((Int32.ofNat gp) + (1 : Int32)) = (Int32.ofNat (gp + 1)) from own_add1 (by omega)]
  show own_Go _ _ _ _ (Tf4_10.setTop (mkF m 147 #[.val (.ref a1), .val (.int (Int32.ofNat gp)), .val (.int (Int32.ofNat gp)), .unset, .unset] [(.int (Int32.ofNat (en - gp))), (.int (Int32.ofNat (gp + 1))), (.ref ca), (.int (Int32.ofNat gp)), (.ref ca)]))
  obtain ⟨kay4_11, Aay4_11⟩ := own_arv V_ca (fun _ => rfl)
  obtain ⟨Ty4_11, hy4_11, Ly4_11, Xy4_11, ey4_11, Ny4_11, Ky4_11, Ay4_11, sty4_11⟩ := cpA Xf4_10 hx hZ hown (hw _ (List.mem_of_getElem? (i := 28) rfl)) (hw _ (List.mem_of_getElem? (i := 31) rfl)) (hw _ (List.mem_of_getElem? (i := 29) rfl)) (hw _ (List.mem_of_getElem? (i := 30) rfl)) ef4_10 Aay4_11 Aay4_11 (Or.inl ⟨rfl, rfl⟩) (sp := Int32.ofNat gp) (dp := Int32.ofNat (gp + 1)) (nn := Int32.ofNat (en - gp)) (own_nn (by omega)) (own_nn (by omega)) (own_nn (by omega)) (by rw [own_cl (by omega), own_cl (by omega)]; show _ ≤ 4; omega) (by rw [own_cl (by omega), own_cl (by omega)]; show _ ≤ 4; omega) rfl (by rw [own_cl (by omega), own_cl (by omega)]; show _ ≤ 4; omega) Ny4_7 g_ca (g := (mkF m 147 #[.val (.ref a1), .val (.int (Int32.ofNat gp)), .val (.int (Int32.ofNat gp)), .unset, .unset] [(.int (Int32.ofNat (en - gp))), (.int (Int32.ofNat (gp + 1))), (.ref ca), (.int (Int32.ofNat gp)), (.ref ca)])) rfl (by rw [hml]; rfl) (rest := []) rfl (hb hby d4_147) (by decide) (W := 0) (by show 2 * 0 + _ ≤ _; exact Nat.le_of_eq rfl) (by decide)
  rw [own_cl (show gp < 2147483648 by omega), own_cl (show gp + 1 < 2147483648 by omega), own_cl (show en - gp < 2147483648 by omega)] at Ay4_11
  replace E_a1 := E_a1.keep Ky4_11
  replace F_indices_a1 := F_indices_a1.keep Ky4_11 (ninS ne_a1_ca nin0)
  replace F_counts_a1 := F_counts_a1.keep Ky4_11 (ninS ne_a1_ca nin0)
  replace F_first_a1 := F_first_a1.keep Ky4_11 (ninS ne_a1_ca nin0)
  replace F_end_a1 := F_end_a1.keep Ky4_11 (ninS ne_a1_ca nin0)
  replace F_total_a1 := F_total_a1.keep Ky4_11 (ninS ne_a1_ca nin0)
  replace V_ia := V_ia.keep Ky4_11 (ninS ne_ia_ca nin0)
  have Zs_y4_11 : n0 ≤ hy4_11.size := Nat.le_trans Zs_y4_7 Ky4_11.1
  replace KK := KK.trans Ky4_11 (allS (Or.inl (List.mem_of_getElem? (i := 2) rfl)) all0)
  replace V_ca := (own_of_arv Ay4_11).weak (f' := fun k => .int (own_gap CC gp en k)) (fun k hk => (own_copy (fun k => Value.int (CC k)) _ gp en hge he3 k hk).trans (by simp only [own_gap]; split <;> (try split) <;> rfl))
  refine own_by (fun t k => sty4_11 t k) ?_
  show own_Go _ _ _ _ (Ty4_11.setTop (mkF m 150 #[.val (.ref a1), .val (.int (Int32.ofNat gp)), .val (.int (Int32.ofNat gp)), .unset, .unset] []))
  refine own_by (fun t k => XS.aloadN Xy4_11.here hx rfl (hb hby d4_150) rfl rfl k) ?_
  show own_Go _ _ _ _ (Ty4_11.setTop (mkF m 151 #[.val (.ref a1), .val (.int (Int32.ofNat gp)), .val (.int (Int32.ofNat gp)), .unset, .unset] [(.ref a1)]))
  refine own_by (fun t k => XS.dup Xy4_11.here hx rfl (hb hby d4_151) rfl rfl k) ?_
  show own_Go _ _ _ _ (Ty4_11.setTop (mkF m 152 #[.val (.ref a1), .val (.int (Int32.ofNat gp)), .val (.int (Int32.ofNat gp)), .unset, .unset] [(.ref a1), (.ref a1)]))
  obtain ⟨Tf4_12, Xf4_12, ef4_12, stf4_12⟩ := getF Xy4_11 hx hZ hown (host := "") (Or.inl (hw _ (List.mem_of_getElem? (i := 20) rfl))) Via.refl ey4_11 F_end_a1 (g := (mkF m 152 #[.val (.ref a1), .val (.int (Int32.ofNat gp)), .val (.int (Int32.ofNat gp)), .unset, .unset] [(.ref a1), (.ref a1)])) rfl rfl (hb hby d4_152)
  refine own_by (fun t k => stf4_12 t k) ?_
  show own_Go _ _ _ _ (Tf4_12.setTop (mkF m 155 #[.val (.ref a1), .val (.int (Int32.ofNat gp)), .val (.int (Int32.ofNat gp)), .unset, .unset] [(.int (Int32.ofNat en)), (.ref a1)]))
  refine own_by (fun t k => XS.iconst Xf4_12.here hx rfl (hb hby d4_155) k) ?_
  show own_Go _ _ _ _ (Tf4_12.setTop (mkF m 156 #[.val (.ref a1), .val (.int (Int32.ofNat gp)), .val (.int (Int32.ofNat gp)), .unset, .unset] [(.int (1 : Int32)), (.int (Int32.ofNat en)), (.ref a1)]))
  refine own_by (fun t k => XS.iadd Xf4_12.here hx rfl (hb hby d4_156) rfl k) ?_
  show own_Go _ _ _ _ (Tf4_12.setTop (mkF m 157 #[.val (.ref a1), .val (.int (Int32.ofNat gp)), .val (.int (Int32.ofNat gp)), .unset, .unset] [(.int ((Int32.ofNat en) + (1 : Int32))), (.ref a1)]))
  rw [show ((Int32.ofNat en) + (1 : Int32)) = (Int32.ofNat (en + 1)) from own_add1 (by omega)]
  show own_Go _ _ _ _ (Tf4_12.setTop (mkF m 157 #[.val (.ref a1), .val (.int (Int32.ofNat gp)), .val (.int (Int32.ofNat gp)), .unset, .unset] [(.int (Int32.ofNat (en + 1))), (.ref a1)]))
  obtain ⟨Tp4_13, hp4_13, Xp4_13, ep4_13, Wp4_13, stp4_13⟩ := putF Xf4_12 hx hZ hown (host := "") (Or.inl (hw _ (List.mem_of_getElem? (i := 20) rfl))) Via.refl ef4_12 F_end_a1 E_a1 (Or.inl (hw _ (List.mem_of_getElem? (i := 21) rfl))) (hw _ (List.mem_of_getElem? (i := 2) rfl)) (ty := .int) (by decide) rfl rfl (g := (mkF m 157 #[.val (.ref a1), .val (.int (Int32.ofNat gp)), .val (.int (Int32.ofNat gp)), .unset, .unset] [(.int (Int32.ofNat (en + 1))), (.ref a1)])) rfl rfl (hb hby d4_157)
  replace F_end_a1 := F_end_a1.same Wp4_13
  replace E_a1 := E_a1.wr Wp4_13
  replace F_indices_a1 := F_indices_a1.other Wp4_13 (Or.inr (slot_ne (Or.inl (hw _ (List.mem_of_getElem? (i := 11) rfl))) (Or.inl (hw _ (List.mem_of_getElem? (i := 21) rfl))) (by decide) (t := (.array .long)) (t' := .int) (by decide) (by decide)))
  replace F_counts_a1 := F_counts_a1.other Wp4_13 (Or.inr (slot_ne (Or.inl (hw _ (List.mem_of_getElem? (i := 14) rfl))) (Or.inl (hw _ (List.mem_of_getElem? (i := 21) rfl))) (by decide) (t := (.array .int)) (t' := .int) (by decide) (by decide)))
  replace F_first_a1 := F_first_a1.other Wp4_13 (Or.inr (slot_ne (Or.inl (hw _ (List.mem_of_getElem? (i := 23) rfl))) (Or.inl (hw _ (List.mem_of_getElem? (i := 21) rfl))) (by decide) (t := .int) (t' := .int) (by decide) (by decide)))
  replace F_total_a1 := F_total_a1.other Wp4_13 (Or.inr (slot_ne (Or.inl (hw _ (List.mem_of_getElem? (i := 33) rfl))) (Or.inl (hw _ (List.mem_of_getElem? (i := 21) rfl))) (by decide) (t := .long) (t' := .int) (by decide) (by decide)))
  replace V_ia := V_ia.other Wp4_13 (Ne.symm ne_a1_ia)
  replace V_ca := V_ca.other Wp4_13 (Ne.symm ne_a1_ca)
  replace KK := KK.wr Wp4_13 (Or.inl (List.mem_of_getElem? (i := 0) rfl))
  have Np4_13 := Fr.snoc Xp4_13 Ny4_11 g_a1
  have Zs_p4_13 : n0 ≤ hp4_13.size := by rw [Wp4_13.size]; exact Zs_y4_11
  refine own_by (fun t k => stp4_13 t k) ?_
  show own_Go _ _ _ _ (Tp4_13.setTop (mkF m 160 #[.val (.ref a1), .val (.int (Int32.ofNat gp)), .val (.int (Int32.ofNat gp)), .unset, .unset] []))
  refine own_by (fun t k => XS.iloadN Xp4_13.here hx rfl (hb hby d4_160) rfl k) ?_
  show own_Go _ _ _ _ (Tp4_13.setTop (mkF m 161 #[.val (.ref a1), .val (.int (Int32.ofNat gp)), .val (.int (Int32.ofNat gp)), .unset, .unset] [(.int (Int32.ofNat gp))]))
  obtain ⟨fs, hr, hrun, hended, hW, hsame⟩ := Xp4_13.leave (v := some (.int (Int32.ofNat gp))) (fun h => by rw [Bd.returns] at h; cases h)
  refine ⟨_, _, retOut Xp4_13 hx Bd.returns rfl (Or.inl ⟨rfl, Or.inl rfl, _, rfl⟩) (hb hby d4_161) hr, hrun, hended, _, _, rfl, ?_, ⟨_, rfl⟩, hW, hsame.mono (by decide) (by decide)⟩
  show Q4 Z a1 gp ia ca fi en tt II CC h0 n0 _ Tp4_13.heap _
  rw [ep4_13]
  exact ⟨rfl, Np4_13, KK, E_a1, F_indices_a1, F_counts_a1, F_first_a1, F_end_a1, F_total_a1, V_ia, V_ca, g_a1, g_ia, g_ca, ne_a1_ia, ne_a1_ca, ne_ia_ca⟩
theorem pd_3_0 : parseMethodDescriptor "(I)I" = some ⟨[.int], some .int⟩ := by decide +kernel
theorem d3_0 : decode prog_16_method_7_code 0 = .ok (.aload_n 0, 1) := by decide +kernel
theorem d3_1 : decode prog_16_method_7_code 1 = .ok (.getfield 17, 3) := by decide +kernel
theorem d3_4 : decode prog_16_method_7_code 4 = .ok (.istore 4, 2) := by decide +kernel
theorem d3_6 : decode prog_16_method_7_code 6 = .ok (.iload 4, 2) := by decide +kernel
theorem d3_8 : decode prog_16_method_7_code 8 = .ok (.aload_n 0, 1) := by decide +kernel
theorem d3_9 : decode prog_16_method_7_code 9 = .ok (.getfield 21, 3) := by decide +kernel
theorem d3_12 : decode prog_16_method_7_code 12 = .ok (.if_icmp .le 23, 3) := by decide +kernel
theorem d3_15 : decode prog_16_method_7_code 15 = .ok (.aload_n 0, 1) := by decide +kernel
theorem d3_16 : decode prog_16_method_7_code 16 = .ok (.getfield 9, 3) := by decide +kernel
theorem d3_19 : decode prog_16_method_7_code 19 = .ok (.iload 4, 2) := by decide +kernel
theorem d3_21 : decode prog_16_method_7_code 21 = .ok (.iconst 1, 1) := by decide +kernel
theorem d3_22 : decode prog_16_method_7_code 22 = .ok (.isub, 1) := by decide +kernel
theorem d3_23 : decode prog_16_method_7_code 23 = .ok (.laload, 1) := by decide +kernel
theorem d3_24 : decode prog_16_method_7_code 24 = .ok (.lload_n 1, 1) := by decide +kernel
theorem d3_25 : decode prog_16_method_7_code 25 = .ok (.lcmp, 1) := by decide +kernel
theorem d3_26 : decode prog_16_method_7_code 26 = .ok (.ifCond .le 9, 3) := by decide +kernel
theorem d3_29 : decode prog_16_method_7_code 29 = .ok (.iinc 4 (-1), 3) := by decide +kernel
theorem d3_32 : decode prog_16_method_7_code 32 = .ok (.goto (-26), 3) := by decide +kernel
theorem d3_35 : decode prog_16_method_7_code 35 = .ok (.iload 4, 2) := by decide +kernel
theorem d3_37 : decode prog_16_method_7_code 37 = .ok (.aload_n 0, 1) := by decide +kernel
theorem d3_38 : decode prog_16_method_7_code 38 = .ok (.getfield 21, 3) := by decide +kernel
theorem d3_41 : decode prog_16_method_7_code 41 = .ok (.if_icmp .le 33, 3) := by decide +kernel
theorem d3_44 : decode prog_16_method_7_code 44 = .ok (.aload_n 0, 1) := by decide +kernel
theorem d3_45 : decode prog_16_method_7_code 45 = .ok (.getfield 9, 3) := by decide +kernel
theorem d3_48 : decode prog_16_method_7_code 48 = .ok (.iload 4, 2) := by decide +kernel
theorem d3_50 : decode prog_16_method_7_code 50 = .ok (.iconst 1, 1) := by decide +kernel
theorem d3_51 : decode prog_16_method_7_code 51 = .ok (.isub, 1) := by decide +kernel
theorem d3_52 : decode prog_16_method_7_code 52 = .ok (.laload, 1) := by decide +kernel
theorem d3_53 : decode prog_16_method_7_code 53 = .ok (.lload_n 1, 1) := by decide +kernel
theorem d3_54 : decode prog_16_method_7_code 54 = .ok (.lcmp, 1) := by decide +kernel
theorem d3_55 : decode prog_16_method_7_code 55 = .ok (.ifCond .ne 19, 3) := by decide +kernel
theorem d3_58 : decode prog_16_method_7_code 58 = .ok (.aload_n 0, 1) := by decide +kernel
theorem d3_59 : decode prog_16_method_7_code 59 = .ok (.getfield 13, 3) := by decide +kernel
theorem d3_62 : decode prog_16_method_7_code 62 = .ok (.iload 4, 2) := by decide +kernel
theorem d3_64 : decode prog_16_method_7_code 64 = .ok (.iconst 1, 1) := by decide +kernel
theorem d3_65 : decode prog_16_method_7_code 65 = .ok (.isub, 1) := by decide +kernel
theorem d3_66 : decode prog_16_method_7_code 66 = .ok (.dup2, 1) := by decide +kernel
theorem d3_67 : decode prog_16_method_7_code 67 = .ok (.iaload, 1) := by decide +kernel
theorem d3_68 : decode prog_16_method_7_code 68 = .ok (.iload_n 3, 1) := by decide +kernel
theorem d3_69 : decode prog_16_method_7_code 69 = .ok (.iadd, 1) := by decide +kernel
theorem d3_70 : decode prog_16_method_7_code 70 = .ok (.iastore, 1) := by decide +kernel
theorem d3_71 : decode prog_16_method_7_code 71 = .ok (.goto 27, 3) := by decide +kernel
theorem d3_74 : decode prog_16_method_7_code 74 = .ok (.aload_n 0, 1) := by decide +kernel
theorem d3_75 : decode prog_16_method_7_code 75 = .ok (.iload 4, 2) := by decide +kernel
theorem d3_77 : decode prog_16_method_7_code 77 = .ok (.invokevirtual 28, 3) := by decide +kernel
theorem d3_80 : decode prog_16_method_7_code 80 = .ok (.istore 4, 2) := by decide +kernel
theorem d3_82 : decode prog_16_method_7_code 82 = .ok (.aload_n 0, 1) := by decide +kernel
theorem d3_83 : decode prog_16_method_7_code 83 = .ok (.getfield 9, 3) := by decide +kernel
theorem d3_86 : decode prog_16_method_7_code 86 = .ok (.iload 4, 2) := by decide +kernel
theorem d3_88 : decode prog_16_method_7_code 88 = .ok (.lload_n 1, 1) := by decide +kernel
theorem d3_89 : decode prog_16_method_7_code 89 = .ok (.lastore, 1) := by decide +kernel
theorem d3_90 : decode prog_16_method_7_code 90 = .ok (.aload_n 0, 1) := by decide +kernel
theorem d3_91 : decode prog_16_method_7_code 91 = .ok (.getfield 13, 3) := by decide +kernel
theorem d3_94 : decode prog_16_method_7_code 94 = .ok (.iload 4, 2) := by decide +kernel
theorem d3_96 : decode prog_16_method_7_code 96 = .ok (.iload_n 3, 1) := by decide +kernel
theorem d3_97 : decode prog_16_method_7_code 97 = .ok (.iastore, 1) := by decide +kernel
theorem d3_98 : decode prog_16_method_7_code 98 = .ok (.aload_n 0, 1) := by decide +kernel
theorem d3_99 : decode prog_16_method_7_code 99 = .ok (.dup, 1) := by decide +kernel
theorem d3_100 : decode prog_16_method_7_code 100 = .ok (.getfield 24, 3) := by decide +kernel
theorem d3_103 : decode prog_16_method_7_code 103 = .ok (.iload_n 3, 1) := by decide +kernel
theorem d3_104 : decode prog_16_method_7_code 104 = .ok (.i2l, 1) := by decide +kernel
theorem d3_105 : decode prog_16_method_7_code 105 = .ok (.ladd, 1) := by decide +kernel
theorem d3_106 : decode prog_16_method_7_code 106 = .ok (.putfield 24, 3) := by decide +kernel
theorem d3_109 : decode prog_16_method_7_code 109 = .ok (.return_, 1) := by decide +kernel
theorem pn_3 : plainName "com/example/water_clock/waterclock/SubWindowCounts" = true := by first | (simp [plainName, overriddenIn]; done) | decide +kernel
theorem ef_3 (m : MethodId) (a1 : Addr) (xx : Int64) (p3 : Int32) : entryFrame m #[(.ref a1), (.long xx), (.int p3)] 5 = mkF m 0 #[.val (.ref a1), .val (.long xx), .second, .val (.int p3), .unset] [] := by first | (simp [entryFrame, mkF, argsToLocals, Value.category]; done) | rfl
def Q3 (Z : State) (a1 : Addr) (xx : Int64) (p3 : Int32) (ia : Addr) (ca : Addr) (fi : Nat) (en : Nat) (tt : Int64) (II : Nat → Int64) (CC : Nat → Int32) (h0 : Heap) (n0 : Nat) (v : Option Value) (h : Heap) (L : List Loc) : Prop := v = none ∧ Fr n0 L ∧ Keep h0 h [a1, ia, ca] ∧ ∃ (e1 : Nat) (t1 : Int64) (I1 : Nat → Int64) (C1 : Nat → Int32), fi ≤ e1 ∧ e1 ≤ en + 1 ∧ own_Inc I1 fi e1 ∧ (∀ y, own_Mem I1 fi e1 y ↔ own_Mem II fi en y ∨ y = xx) ∧ own_S Z h n0 a1 ia ca fi e1 t1 I1 C1
abbrev P3 (Z : State) (a1 : Addr) (xx : Int64) (p3 : Int32) (ia : Addr) (ca : Addr) (fi : Nat) (en : Nat) (tt : Int64) (II : Nat → Int64) (CC : Nat → Int32) (h0 : Heap) (n0 : Nat) (s : State) : Outcome → State → Prop := fun o U' => ∃ v L, o = .returned v ∧ Q3 Z a1 xx p3 ia ca fi en tt II CC h0 n0 v U'.heap L ∧ FrameEnd s o U' L ({ frames := 2, cells := 0, slots := 0, locals := 34 } : Room).cells ({ frames := 2, cells := 0, slots := 0, locals := 34 } : Room).slots
set_option maxRecDepth 65536 in
set_option maxHeartbeats 40000000 in
theorem rm3 (l : Launch) (Z : State) (a0 : Array Value) (hw : ∀ d ∈ tables_1, d.before a0 Z = true) (ws : List Jvm.Cond) (a1 : Addr) (xx : Int64) (p3 : Int32) (ia : Addr) (ca : Addr) (fi : Nat) (en : Nat) (tt : Int64) (II : Nat → Int64) (CC : Nat → Int32) (h0 : Heap) (n0 : Nat) (Z0 : n0 ≤ h0.size) (S0 : own_S Z h0 n0 a1 ia ca fi en tt II CC) (hfe : fi ≤ en) (he3 : en ≤ 3) (hinc : own_Inc II fi en) :
    MetFree l (⟨"com/example/water_clock/waterclock/SubWindowCounts", "add", "(JI)V"⟩ : MethodName) (head1 (Jvm.Cond.code (⟨"com/example/water_clock/waterclock/SubWindowCounts", "add", "(JI)V"⟩ : MethodName) prog_16_method_7_code 5 none :: ws) ({ frames := 2, cells := 0, slots := 0, locals := 34 } : Room)) (fun a U => a = #[(.ref a1), (.long xx), (.int p3)] ∧ Z.Warmed39 U.vm ∧ U.heap = h0) (fun _ _ _ _ _ => True) (fun _ U o U' => ∃ v L, o = .returned v ∧ Q3 Z a1 xx p3 ia ca fi en tt II CC h0 n0 v U'.heap L ∧ FrameEnd U o U' L ({ frames := 2, cells := 0, slots := 0, locals := 34 } : Room).cells ({ frames := 2, cells := 0, slots := 0, locals := 34 } : Room).slots) := by
  refine MetFree.of_bodySF (plainFor_of_name pn_3) hisR ?_
  intro p e s m args below meth c s₁ Bd hml0 hP hK
  obtain ⟨rfl, hZ, hh⟩ := hP
  have hx := Bd.exec
  have hby := Bd.bytes
  have hml : c.maxLocals = 5 := hml0
  have hown : s.vm.findClass "com/example/water_clock/waterclock/SubWindowCounts" = some m.cls := findClass_of_methodNamed Bd.named
  have hnm := (name_of_methodNamed Bd.named Bd.method).1
  have X0 : Stand p l e ({ frames := 2, cells := 0, slots := 0, locals := 34 } : Room) s m #[(.ref a1), (.long xx), (.int p3)] below meth c s₁ [] 0 0 := Stand.of_body Bd
  have e0 : s₁.heap = h0 := by rw [← hh, Bd.state]; rfl
  have N0 := Fr.nil n0
  show own_Go p.tables e below (P3 Z a1 xx p3 ia ca fi en tt II CC h0 n0 s) (s₁.setTop (entryFrame m #[(.ref a1), (.long xx), (.int p3)] 5))
  refine own_by (T' := s₁.setTop (mkF m 0 #[.val (.ref a1), .val (.long xx), .second, .val (.int p3), .unset] [])) (fun t k => castTop (ef_3 m a1 xx p3) k) ?_
  obtain ⟨E_a1, F_indices_a1, F_counts_a1, F_first_a1, F_end_a1, F_total_a1, V_ia, V_ca, g_a1, g_ia, g_ca, ne_a1_ia, ne_a1_ca, ne_ia_ca⟩ := S0
  have KK := Keep.refl h0 [a1, ia, ca]
  show own_Go _ _ _ _ (s₁.setTop (mkF m 0 #[.val (.ref a1), .val (.long xx), .second, .val (.int p3), .unset] []))
  have J98 : ∀ (T1 : State) (h1 : Heap) (lo1 : List Loc) (X1 : Stand p l e ({ frames := 2, cells := 0, slots := 0, locals := 34 } : Room) s m #[(.ref a1), (.long xx), (.int p3)] below meth c T1 lo1 0 0) (q1 : T1.heap = h1) (N1 : Fr n0 lo1) (Zs1 : n0 ≤ h1.size) (KK : Keep h0 h1 [a1, ia, ca]) (i4 : Int32) (e1 : Nat) (I1 : Nat → Int64) (C1 : Nat → Int32), fi ≤ e1 → e1 ≤ en + 1 → own_Inc I1 fi e1 → (∀ y, own_Mem I1 fi e1 y ↔ own_Mem II fi en y ∨ y = xx) → own_S Z h1 n0 a1 ia ca fi e1 tt I1 C1 → own_Go p.tables e below (P3 Z a1 xx p3 ia ca fi en tt II CC h0 n0 s) (T1.setTop (mkF m 98 #[.val (.ref a1), .val (.long xx), .second, .val (.int p3), .val (.int i4)] [])) := by
    intro T1 h1 lo1 X1 q1 N1 Zs1 KK i4 e1 I1 C1 hq1 hq2 hq3 hq4 ⟨E_a1, F_indices_a1, F_counts_a1, F_first_a1, F_end_a1, F_total_a1, V_ia, V_ca, g_a1, g_ia, g_ca, ne_a1_ia, ne_a1_ca, ne_ia_ca⟩
    show own_Go _ _ _ _ (T1.setTop (mkF m 98 #[.val (.ref a1), .val (.long xx), .second, .val (.int p3), .val (.int i4)] []))
    refine own_by (fun t k => XS.aloadN X1.here hx rfl (hb hby d3_98) rfl rfl k) ?_
    show own_Go _ _ _ _ (T1.setTop (mkF m 99 #[.val (.ref a1), .val (.long xx), .second, .val (.int p3), .val (.int i4)] [(.ref a1)]))
    refine own_by (fun t k => XS.dup X1.here hx rfl (hb hby d3_99) rfl rfl k) ?_
    show own_Go _ _ _ _ (T1.setTop (mkF m 100 #[.val (.ref a1), .val (.long xx), .second, .val (.int p3), .val (.int i4)] [(.ref a1), (.ref a1)]))
    obtain ⟨Tf3_1, Xf3_1, ef3_1, stf3_1⟩ := getF X1 hx hZ hown (host := "") (Or.inl (hw _ (List.mem_of_getElem? (i := 32) rfl))) Via.refl q1 F_total_a1 (g := (mkF m 100 #[.val (.ref a1), .val (.long xx), .second, .val (.int p3), .val (.int i4)] [(.ref a1), (.ref a1)])) rfl rfl (hb hby d3_100)
    refine own_by (fun t k => stf3_1 t k) ?_
    show own_Go _ _ _ _ (Tf3_1.setTop (mkF m 103 #[.val (.ref a1), .val (.long xx), .second, .val (.int p3), .val (.int i4)] [(.long tt), (.ref a1)]))
    refine own_by (fun t k => XS.iloadN Xf3_1.here hx rfl (hb hby d3_103) rfl k) ?_
    show own_Go _ _ _ _ (Tf3_1.setTop (mkF m 104 #[.val (.ref a1), .val (.long xx), .second, .val (.int p3), .val (.int i4)] [(.int p3), (.long tt), (.ref a1)]))
    refine own_by (fun t k => XS.i2l Xf3_1.here hx rfl (hb hby d3_104) rfl k) ?_
    show own_Go _ _ _ _ (Tf3_1.setTop (mkF m 105 #[.val (.ref a1), .val (.long xx), .second, .val (.int p3), .val (.int i4)] [(.long (p3.toInt64)), (.long tt), (.ref a1)]))
    refine own_by (fun t k => XS.ladd Xf3_1.here hx rfl (hb hby d3_105) rfl k) ?_
    show own_Go _ _ _ _ (Tf3_1.setTop (mkF m 106 #[.val (.ref a1), .val (.long xx), .second, .val (.int p3), .val (.int i4)] [(.long (tt + (p3.toInt64))), (.ref a1)]))
    obtain ⟨Tp3_2, hp3_2, Xp3_2, ep3_2, Wp3_2, stp3_2⟩ := putF Xf3_1 hx hZ hown (host := "") (Or.inl (hw _ (List.mem_of_getElem? (i := 32) rfl))) Via.refl ef3_1 F_total_a1 E_a1 (Or.inl (hw _ (List.mem_of_getElem? (i := 33) rfl))) (hw _ (List.mem_of_getElem? (i := 2) rfl)) (ty := .long) (by decide) rfl rfl (g := (mkF m 106 #[.val (.ref a1), .val (.long xx), .second, .val (.int p3), .val (.int i4)] [(.long (tt + (p3.toInt64))), (.ref a1)])) rfl rfl (hb hby d3_106)
    replace F_total_a1 := F_total_a1.same Wp3_2
    replace E_a1 := E_a1.wr Wp3_2
    replace F_indices_a1 := F_indices_a1.other Wp3_2 (Or.inr (slot_ne (Or.inl (hw _ (List.mem_of_getElem? (i := 11) rfl))) (Or.inl (hw _ (List.mem_of_getElem? (i := 33) rfl))) (by decide) (t := (.array .long)) (t' := .long) (by decide) (by decide)))
    replace F_counts_a1 := F_counts_a1.other Wp3_2 (Or.inr (slot_ne (Or.inl (hw _ (List.mem_of_getElem? (i := 14) rfl))) (Or.inl (hw _ (List.mem_of_getElem? (i := 33) rfl))) (by decide) (t := (.array .int)) (t' := .long) (by decide) (by decide)))
    replace F_first_a1 := F_first_a1.other Wp3_2 (Or.inr (slot_ne (Or.inl (hw _ (List.mem_of_getElem? (i := 23) rfl))) (Or.inl (hw _ (List.mem_of_getElem? (i := 33) rfl))) (by decide) (t := .int) (t' := .long) (by decide) (by decide)))
    replace F_end_a1 := F_end_a1.other Wp3_2 (Or.inr (slot_ne (Or.inl (hw _ (List.mem_of_getElem? (i := 21) rfl))) (Or.inl (hw _ (List.mem_of_getElem? (i := 33) rfl))) (by decide) (t := .int) (t' := .long) (by decide) (by decide)))
    replace V_ia := V_ia.other Wp3_2 (Ne.symm ne_a1_ia)
    replace V_ca := V_ca.other Wp3_2 (Ne.symm ne_a1_ca)
    replace KK := KK.wr Wp3_2 (Or.inl (List.mem_of_getElem? (i := 0) rfl))
    have Np3_2 := Fr.snoc Xp3_2 N1 g_a1
    have Zs_p3_2 : n0 ≤ hp3_2.size := by rw [Wp3_2.size]; exact Zs1
    refine own_by (fun t k => stp3_2 t k) ?_
    show own_Go _ _ _ _ (Tp3_2.setTop (mkF m 109 #[.val (.ref a1), .val (.long xx), .second, .val (.int p3), .val (.int i4)] []))
    obtain ⟨fs, hr, hrun, hended, hW, hsame⟩ := Xp3_2.leave (v := none) (fun _ => rfl)
    refine ⟨_, _, Xp3_2.returnOut hx Bd.returns (hb hby d3_109) hr, hrun, hended, _, _, rfl, ?_, ⟨_, rfl⟩, hW, hsame.mono (by decide) (by decide)⟩
    show Q3 Z a1 xx p3 ia ca fi en tt II CC h0 n0 _ Tp3_2.heap _
    rw [ep3_2]
    exact ⟨rfl, Np3_2, KK, e1, _, I1, C1, hq1, hq2, hq3, hq4, E_a1, F_indices_a1, F_counts_a1, F_first_a1, F_end_a1, F_total_a1, V_ia, V_ca, g_a1, g_ia, g_ca, ne_a1_ia, ne_a1_ca, ne_ia_ca⟩
  have J74 : ∀ (T1 : State) (X1 : Stand p l e ({ frames := 2, cells := 0, slots := 0, locals := 34 } : Room) s m #[(.ref a1), (.long xx), (.int p3)] below meth c T1 [] 0 0) (q1 : T1.heap = h0) (pos : Nat), fi ≤ pos → pos ≤ en → (∀ k, pos ≤ k → k < en → xx.toInt < (II k).toInt) → (pos = fi ∨ (II (pos - 1)).toInt < xx.toInt) → own_Go p.tables e below (P3 Z a1 xx p3 ia ca fi en tt II CC h0 n0 s) (T1.setTop (mkF m 74 #[.val (.ref a1), .val (.long xx), .second, .val (.int p3), .val (.int (Int32.ofNat pos))] [])) := by
    intro T1 X1 q1 pos hp1 hp2 hp3 hp5
    show own_Go _ _ _ _ (T1.setTop (mkF m 74 #[.val (.ref a1), .val (.long xx), .second, .val (.int p3), .val (.int (Int32.ofNat pos))] []))
    refine own_by (fun t k => XS.aloadN X1.here hx rfl (hb hby d3_74) rfl rfl k) ?_
    show own_Go _ _ _ _ (T1.setTop (mkF m 75 #[.val (.ref a1), .val (.long xx), .second, .val (.int p3), .val (.int (Int32.ofNat pos))] [(.ref a1)]))
    refine own_by (fun t k => XS.iload X1.here hx rfl (hb hby d3_75) rfl k) ?_
    show own_Go _ _ _ _ (T1.setTop (mkF m 77 #[.val (.ref a1), .val (.long xx), .second, .val (.int p3), .val (.int (Int32.ofNat pos))] [(.int (Int32.ofNat pos)), (.ref a1)]))
    obtain ⟨cqc3_3, qc3_3, qc3_3'⟩ := E_a1.cell
    obtain ⟨_, _, ⟨Tc3_3, Lc3_3, kc3_3, nc3_3⟩, -, Xc3_3, ⟨Lcc3_3, hQc3_3, lc3_3, yc3_3, zc3_3⟩, stc3_3⟩ := X1.privateBack hx (y := (⟨"com/example/water_clock/waterclock/SubWindowCounts", "openGap", "(I)I"⟩ : MethodName)) hown (mvT hZ (hw _ (List.mem_of_getElem? (i := 24) rfl))) (mvT hZ (hw _ (List.mem_of_getElem? (i := 25) rfl))) (Jvm.Kit.selects_private (by decide) (mvT hZ (hw _ (List.mem_of_getElem? (i := 2) rfl))) (mvP hZ (hw _ (List.mem_of_getElem? (i := 26) rfl))) (mvT hZ (hw _ (List.mem_of_getElem? (i := 25) rfl)))) (Cond.privateMethod_at (mvP hZ (hw _ (List.mem_of_getElem? (i := 26) rfl)) (args := #[]))) (mvT hZ (hw _ (List.mem_of_getElem? (i := 27) rfl))) (by decide) (backOf (W := 0) (rm4 l Z a0 hw [] a1 pos ia ca fi en tt II CC h0 n0 Z0 ⟨E_a1, F_indices_a1, F_counts_a1, F_first_a1, F_end_a1, F_total_a1, V_ia, V_ca, g_a1, g_ia, g_ca, ne_a1_ia, ne_a1_ca, ne_ia_ca⟩ hp2 he3) hZ (hw _ (List.mem_of_getElem? (i := 27) rfl)) (hw _ (List.mem_of_getElem? (i := 3) rfl)) (by decide) (by decide)) (g := (mkF m 77 #[.val (.ref a1), .val (.long xx), .second, .val (.int p3), .val (.int (Int32.ofNat pos))] [(.int (Int32.ofNat pos)), (.ref a1)])) rfl (by rw [hml]; rfl) (Steps.refl _) (a := a1) (by rw [q1]; exact qc3_3) qc3_3' (argsL := [(.int (Int32.ofNat pos))]) (rest := []) (lenOf pd_3_0 rfl) rfl (by show 2 * 0 + _ ≤ _; exact Nat.le_of_eq rfl) (hb hby d3_77) (fun _ _ => ⟨rfl, q1, (by decide : 0 + 0 ≤ _), (by decide : 0 + 0 ≤ _)⟩)
    dsimp only [Pt.U, Pt.locs, Pt.cells, Pt.slots] at Xc3_3 lc3_3 yc3_3 zc3_3 stc3_3 hQc3_3
    subst lc3_3 yc3_3 zc3_3
    obtain ⟨rfl, Nc3_3q, Kc3_3, Sc3_3⟩ := hQc3_3
    have Nc3_3 := Fr.app N0 Nc3_3q
    replace E_a1 := E_a1.keep Kc3_3
    have Zs_c3_3 : n0 ≤ Tc3_3.heap.size := Nat.le_trans Z0 Kc3_3.1
    replace KK := KK.trans Kc3_3 (allS (Or.inl (List.mem_of_getElem? (i := 0) rfl)) (allS (Or.inl (List.mem_of_getElem? (i := 1) rfl)) (allS (Or.inl (List.mem_of_getElem? (i := 2) rfl)) all0)))
    clear F_indices_a1 F_counts_a1 F_first_a1 F_end_a1 F_total_a1 V_ia V_ca
    obtain ⟨-, F_indices_a1, F_counts_a1, F_first_a1, F_end_a1, F_total_a1, V_ia, V_ca, -⟩ := Sc3_3
    refine own_by (fun t k => stc3_3.trans k) ?_
    show own_Go _ _ _ _ (Tc3_3.setTop (mkF m 80 #[.val (.ref a1), .val (.long xx), .second, .val (.int p3), .val (.int (Int32.ofNat pos))] [(.int (Int32.ofNat pos))]))
    refine own_by (fun t k => XS.istore Xc3_3.here hx rfl (hb hby d3_80) rfl (l' := #[.val (.ref a1), .val (.long xx), .second, .val (.int p3), .val (.int (Int32.ofNat pos))]) rfl k) ?_
    show own_Go _ _ _ _ (Tc3_3.setTop (mkF m 82 #[.val (.ref a1), .val (.long xx), .second, .val (.int p3), .val (.int (Int32.ofNat pos))] []))
    refine own_by (fun t k => XS.aloadN Xc3_3.here hx rfl (hb hby d3_82) rfl rfl k) ?_
    show own_Go _ _ _ _ (Tc3_3.setTop (mkF m 83 #[.val (.ref a1), .val (.long xx), .second, .val (.int p3), .val (.int (Int32.ofNat pos))] [(.ref a1)]))
    obtain ⟨Tf3_4, Xf3_4, ef3_4, stf3_4⟩ := getF Xc3_3 hx hZ hown (host := "") (Or.inl (hw _ (List.mem_of_getElem? (i := 10) rfl))) Via.refl rfl F_indices_a1 (g := (mkF m 83 #[.val (.ref a1), .val (.long xx), .second, .val (.int p3), .val (.int (Int32.ofNat pos))] [(.ref a1)])) rfl rfl (hb hby d3_83)
    refine own_by (fun t k => stf3_4 t k) ?_
    show own_Go _ _ _ _ (Tf3_4.setTop (mkF m 86 #[.val (.ref a1), .val (.long xx), .second, .val (.int p3), .val (.int (Int32.ofNat pos))] [(.ref ia)]))
    refine own_by (fun t k => XS.iload Xf3_4.here hx rfl (hb hby d3_86) rfl k) ?_
    show own_Go _ _ _ _ (Tf3_4.setTop (mkF m 88 #[.val (.ref a1), .val (.long xx), .second, .val (.int p3), .val (.int (Int32.ofNat pos))] [(.int (Int32.ofNat pos)), (.ref ia)]))
    refine own_by (fun t k => XS.lloadN Xf3_4.here hx rfl (hb hby d3_88) rfl k) ?_
    show own_Go _ _ _ _ (Tf3_4.setTop (mkF m 89 #[.val (.ref a1), .val (.long xx), .second, .val (.int p3), .val (.int (Int32.ofNat pos))] [(.long xx), (.int (Int32.ofNat pos)), (.ref ia)]))
    obtain ⟨Tw3_5, hw3_5, Xw3_5, ew3_5, Ww3_5, Vw3_5, stw3_5⟩ := own_stJ Xf3_4 hx hZ ef3_4 V_ia (j := (Int32.ofNat pos)) (own_in4 (by omega)) (g := (mkF m 89 #[.val (.ref a1), .val (.long xx), .second, .val (.int p3), .val (.int (Int32.ofNat pos))] [(.long xx), (.int (Int32.ofNat pos)), (.ref ia)])) rfl rfl (hb hby d3_89)
    replace E_a1 := E_a1.wr Ww3_5
    replace F_indices_a1 := F_indices_a1.other Ww3_5 (Or.inl ne_a1_ia)
    replace F_counts_a1 := F_counts_a1.other Ww3_5 (Or.inl ne_a1_ia)
    replace F_first_a1 := F_first_a1.other Ww3_5 (Or.inl ne_a1_ia)
    replace F_end_a1 := F_end_a1.other Ww3_5 (Or.inl ne_a1_ia)
    replace F_total_a1 := F_total_a1.other Ww3_5 (Or.inl ne_a1_ia)
    replace V_ca := V_ca.other Ww3_5 (Ne.symm ne_ia_ca)
    replace KK := KK.wr Ww3_5 (Or.inl (List.mem_of_getElem? (i := 1) rfl))
    replace V_ia := Vw3_5
    have Nw3_5 := Fr.snoc Xw3_5 Nc3_3 g_ia
    have Zs_w3_5 : n0 ≤ hw3_5.size := by rw [Ww3_5.size]; exact Zs_c3_3
    refine own_by (fun t k => stw3_5 t k) ?_
    replace V_ia := V_ia.weak (f' := fun k => .long (own_put II pos en xx k)) (fun k _ => own_wkL (own_gap II pos en) (by omega) _ k)
    show own_Go _ _ _ _ (Tw3_5.setTop (mkF m 90 #[.val (.ref a1), .val (.long xx), .second, .val (.int p3), .val (.int (Int32.ofNat pos))] []))
    refine own_by (fun t k => XS.aloadN Xw3_5.here hx rfl (hb hby d3_90) rfl rfl k) ?_
    show own_Go _ _ _ _ (Tw3_5.setTop (mkF m 91 #[.val (.ref a1), .val (.long xx), .second, .val (.int p3), .val (.int (Int32.ofNat pos))] [(.ref a1)]))
    obtain ⟨Tf3_6, Xf3_6, ef3_6, stf3_6⟩ := getF Xw3_5 hx hZ hown (host := "") (Or.inl (hw _ (List.mem_of_getElem? (i := 13) rfl))) Via.refl ew3_5 F_counts_a1 (g := (mkF m 91 #[.val (.ref a1), .val (.long xx), .second, .val (.int p3), .val (.int (Int32.ofNat pos))] [(.ref a1)])) rfl rfl (hb hby d3_91)
    refine own_by (fun t k => stf3_6 t k) ?_
    show own_Go _ _ _ _ (Tf3_6.setTop (mkF m 94 #[.val (.ref a1), .val (.long xx), .second, .val (.int p3), .val (.int (Int32.ofNat pos))] [(.ref ca)]))
    refine own_by (fun t k => XS.iload Xf3_6.here hx rfl (hb hby d3_94) rfl k) ?_
    show own_Go _ _ _ _ (Tf3_6.setTop (mkF m 96 #[.val (.ref a1), .val (.long xx), .second, .val (.int p3), .val (.int (Int32.ofNat pos))] [(.int (Int32.ofNat pos)), (.ref ca)]))
    refine own_by (fun t k => XS.iloadN Xf3_6.here hx rfl (hb hby d3_96) rfl k) ?_
    show own_Go _ _ _ _ (Tf3_6.setTop (mkF m 97 #[.val (.ref a1), .val (.long xx), .second, .val (.int p3), .val (.int (Int32.ofNat pos))] [(.int p3), (.int (Int32.ofNat pos)), (.ref ca)]))
    obtain ⟨Tw3_7, hw3_7, Xw3_7, ew3_7, Ww3_7, Vw3_7, stw3_7⟩ := own_stI Xf3_6 hx hZ ef3_6 V_ca (j := (Int32.ofNat pos)) (own_in4 (by omega)) (g := (mkF m 97 #[.val (.ref a1), .val (.long xx), .second, .val (.int p3), .val (.int (Int32.ofNat pos))] [(.int p3), (.int (Int32.ofNat pos)), (.ref ca)])) rfl rfl (hb hby d3_97)
    replace E_a1 := E_a1.wr Ww3_7
    replace F_indices_a1 := F_indices_a1.other Ww3_7 (Or.inl ne_a1_ca)
    replace F_counts_a1 := F_counts_a1.other Ww3_7 (Or.inl ne_a1_ca)
    replace F_first_a1 := F_first_a1.other Ww3_7 (Or.inl ne_a1_ca)
    replace F_end_a1 := F_end_a1.other Ww3_7 (Or.inl ne_a1_ca)
    replace F_total_a1 := F_total_a1.other Ww3_7 (Or.inl ne_a1_ca)
    replace V_ia := V_ia.other Ww3_7 ne_ia_ca
    replace KK := KK.wr Ww3_7 (Or.inl (List.mem_of_getElem? (i := 2) rfl))
    replace V_ca := Vw3_7
    have Nw3_7 := Fr.snoc Xw3_7 Nw3_5 g_ca
    have Zs_w3_7 : n0 ≤ hw3_7.size := by rw [Ww3_7.size]; exact Zs_w3_5
    refine own_by (fun t k => stw3_7 t k) ?_
    replace V_ca := V_ca.weak (f' := fun k => .int (if k = pos then p3 else own_gap CC pos en k)) (fun k _ => own_wkI (own_gap CC pos en) (by omega) _ k)
    show own_Go _ _ _ _ (Tw3_7.setTop (mkF m 98 #[.val (.ref a1), .val (.long xx), .second, .val (.int p3), .val (.int (Int32.ofNat pos))] []))
    exact J98 _ _ _ Xw3_7 ew3_7 Nw3_7 Zs_w3_7 KK _ (en + 1) (own_put II pos en xx) _ (by omega) (by omega) (own_put_inc II fi en pos xx hinc hp1 hp2 hp3 hp5) (own_put_mem II fi en pos xx hp1 hp2) ⟨E_a1, F_indices_a1, F_counts_a1, F_first_a1, F_end_a1, F_total_a1, V_ia, V_ca, g_a1, g_ia, g_ca, ne_a1_ia, ne_a1_ca, ne_ia_ca⟩
  have J35 : ∀ (T1 : State) (X1 : Stand p l e ({ frames := 2, cells := 0, slots := 0, locals := 34 } : Room) s m #[(.ref a1), (.long xx), (.int p3)] below meth c T1 [] 0 0) (q1 : T1.heap = h0) (pos : Nat), fi ≤ pos → pos ≤ en → (∀ k, pos ≤ k → k < en → xx.toInt < (II k).toInt) → (pos = fi ∨ ¬ xx < II (pos - 1)) → own_Go p.tables e below (P3 Z a1 xx p3 ia ca fi en tt II CC h0 n0 s) (T1.setTop (mkF m 35 #[.val (.ref a1), .val (.long xx), .second, .val (.int p3), .val (.int (Int32.ofNat pos))] [])) := by
    intro T1 X1 q1 pos hp1 hp2 hp3 hp4
    show own_Go _ _ _ _ (T1.setTop (mkF m 35 #[.val (.ref a1), .val (.long xx), .second, .val (.int p3), .val (.int (Int32.ofNat pos))] []))
    refine own_by (fun t k => XS.iload X1.here hx rfl (hb hby d3_35) rfl k) ?_
    show own_Go _ _ _ _ (T1.setTop (mkF m 37 #[.val (.ref a1), .val (.long xx), .second, .val (.int p3), .val (.int (Int32.ofNat pos))] [(.int (Int32.ofNat pos))]))
    refine own_by (fun t k => XS.aloadN X1.here hx rfl (hb hby d3_37) rfl rfl k) ?_
    show own_Go _ _ _ _ (T1.setTop (mkF m 38 #[.val (.ref a1), .val (.long xx), .second, .val (.int p3), .val (.int (Int32.ofNat pos))] [(.ref a1), (.int (Int32.ofNat pos))]))
    obtain ⟨Tf3_8, Xf3_8, ef3_8, stf3_8⟩ := getF X1 hx hZ hown (host := "") (Or.inl (hw _ (List.mem_of_getElem? (i := 22) rfl))) Via.refl q1 F_first_a1 (g := (mkF m 38 #[.val (.ref a1), .val (.long xx), .second, .val (.int p3), .val (.int (Int32.ofNat pos))] [(.ref a1), (.int (Int32.ofNat pos))])) rfl rfl (hb hby d3_38)
    refine own_by (fun t k => stf3_8 t k) ?_
    show own_Go _ _ _ _ (Tf3_8.setTop (mkF m 41 #[.val (.ref a1), .val (.long xx), .second, .val (.int p3), .val (.int (Int32.ofNat pos))] [(.int (Int32.ofNat fi)), (.int (Int32.ofNat pos))]))
    by_cases hc41 : (Int32.ofNat fi) < (Int32.ofNat pos)
    · refine own_by (fun t k => XS.icmpNo Xf3_8.here hx rfl (hb hby d3_41) rfl (tlt hc41).2.2.2 k) ?_
      show own_Go _ _ _ _ (Tf3_8.setTop (mkF m 44 #[.val (.ref a1), .val (.long xx), .second, .val (.int p3), .val (.int (Int32.ofNat pos))] []))
      refine own_by (fun t k => XS.aloadN Xf3_8.here hx rfl (hb hby d3_44) rfl rfl k) ?_
      show own_Go _ _ _ _ (Tf3_8.setTop (mkF m 45 #[.val (.ref a1), .val (.long xx), .second, .val (.int p3), .val (.int (Int32.ofNat pos))] [(.ref a1)]))
      obtain ⟨Tf3_9, Xf3_9, ef3_9, stf3_9⟩ := getF Xf3_8 hx hZ hown (host := "") (Or.inl (hw _ (List.mem_of_getElem? (i := 10) rfl))) Via.refl ef3_8 F_indices_a1 (g := (mkF m 45 #[.val (.ref a1), .val (.long xx), .second, .val (.int p3), .val (.int (Int32.ofNat pos))] [(.ref a1)])) rfl rfl (hb hby d3_45)
      refine own_by (fun t k => stf3_9 t k) ?_
      show own_Go _ _ _ _ (Tf3_9.setTop (mkF m 48 #[.val (.ref a1), .val (.long xx), .second, .val (.int p3), .val (.int (Int32.ofNat pos))] [(.ref ia)]))
      refine own_by (fun t k => XS.iload Xf3_9.here hx rfl (hb hby d3_48) rfl k) ?_
      show own_Go _ _ _ _ (Tf3_9.setTop (mkF m 50 #[.val (.ref a1), .val (.long xx), .second, .val (.int p3), .val (.int (Int32.ofNat pos))] [(.int (Int32.ofNat pos)), (.ref ia)]))
      refine own_by (fun t k => XS.iconst Xf3_9.here hx rfl (hb hby d3_50) k) ?_
      show own_Go _ _ _ _ (Tf3_9.setTop (mkF m 51 #[.val (.ref a1), .val (.long xx), .second, .val (.int p3), .val (.int (Int32.ofNat pos))] [(.int (1 : Int32)), (.int (Int32.ofNat pos)), (.ref ia)]))
      refine own_by (fun t k => XS.isub Xf3_9.here hx rfl (hb hby d3_51) rfl k) ?_
      have u1 := (own_nlt (a := fi) (b := pos) (by omega) (by omega)).mp hc41
      show own_Go _ _ _ _ (Tf3_9.setTop (mkF m 52 #[.val (.ref a1), .val (.long xx), .second, .val (.int p3), .val (.int (Int32.ofNat pos))] [(.int ((Int32.ofNat pos) - (1 : Int32))), (.ref ia)]))
      rw [show ((Int32.ofNat pos) - (1 : Int32)) = (Int32.ofNat (pos - 1)) from own_sub1 (by omega) (by omega)]
      show own_Go _ _ _ _ (Tf3_9.setTop (mkF m 52 #[.val (.ref a1), .val (.long xx), .second, .val (.int p3), .val (.int (Int32.ofNat pos))] [(.int (Int32.ofNat (pos - 1))), (.ref ia)]))
      obtain ⟨clr3_10, Arr3_10, hir3_10, har3_10⟩ := V_ia.at (j := (Int32.ofNat (pos - 1))) (own_in4 (by omega))
      replace har3_10 := har3_10.trans (congrArg some (own_at (fun k => .long (II k)) (by omega)))
      refine own_by (fun t k => Xf3_9.laload hx (j := (Int32.ofNat (pos - 1))) (v := (.long (II (pos - 1)))) (by rw [ef3_9]; exact Arr3_10.1) (State.isArrayOf_alike hZ.alike Arr3_10.2.1) Arr3_10.2.2 hir3_10 har3_10 (g := (mkF m 52 #[.val (.ref a1), .val (.long xx), .second, .val (.int p3), .val (.int (Int32.ofNat pos))] [(.int (Int32.ofNat (pos - 1))), (.ref ia)])) rfl rfl (hb hby d3_52) _ k) ?_
      show own_Go _ _ _ _ (Tf3_9.setTop (mkF m 53 #[.val (.ref a1), .val (.long xx), .second, .val (.int p3), .val (.int (Int32.ofNat pos))] [(.long (II (pos - 1)))]))
      refine own_by (fun t k => XS.lloadN Xf3_9.here hx rfl (hb hby d3_53) rfl k) ?_
      show own_Go _ _ _ _ (Tf3_9.setTop (mkF m 54 #[.val (.ref a1), .val (.long xx), .second, .val (.int p3), .val (.int (Int32.ofNat pos))] [(.long xx), (.long (II (pos - 1)))]))
      refine own_by (fun t k => XS.lcmp Xf3_9.here hx rfl (hb hby d3_54) rfl k) ?_
      show own_Go _ _ _ _ (Tf3_9.setTop (mkF m 55 #[.val (.ref a1), .val (.long xx), .second, .val (.int p3), .val (.int (Int32.ofNat pos))] [(.int (lcmpW (II (pos - 1)) xx))]))
      by_cases hc55 : (II (pos - 1)) = xx
      · refine own_by (fun t k => XS.ifNo Xf3_9.here hx rfl (hb hby d3_55) rfl ((if0 _ _).trans (teq ((lw_eq _ _).mpr hc55)).2) k) ?_
        show own_Go _ _ _ _ (Tf3_9.setTop (mkF m 58 #[.val (.ref a1), .val (.long xx), .second, .val (.int p3), .val (.int (Int32.ofNat pos))] []))
        refine own_by (fun t k => XS.aloadN Xf3_9.here hx rfl (hb hby d3_58) rfl rfl k) ?_
        show own_Go _ _ _ _ (Tf3_9.setTop (mkF m 59 #[.val (.ref a1), .val (.long xx), .second, .val (.int p3), .val (.int (Int32.ofNat pos))] [(.ref a1)]))
        obtain ⟨Tf3_11, Xf3_11, ef3_11, stf3_11⟩ := getF Xf3_9 hx hZ hown (host := "") (Or.inl (hw _ (List.mem_of_getElem? (i := 13) rfl))) Via.refl ef3_9 F_counts_a1 (g := (mkF m 59 #[.val (.ref a1), .val (.long xx), .second, .val (.int p3), .val (.int (Int32.ofNat pos))] [(.ref a1)])) rfl rfl (hb hby d3_59)
        refine own_by (fun t k => stf3_11 t k) ?_
        show own_Go _ _ _ _ (Tf3_11.setTop (mkF m 62 #[.val (.ref a1), .val (.long xx), .second, .val (.int p3), .val (.int (Int32.ofNat pos))] [(.ref ca)]))
        refine own_by (fun t k => XS.iload Xf3_11.here hx rfl (hb hby d3_62) rfl k) ?_
        show own_Go _ _ _ _ (Tf3_11.setTop (mkF m 64 #[.val (.ref a1), .val (.long xx), .second, .val (.int p3), .val (.int (Int32.ofNat pos))] [(.int (Int32.ofNat pos)), (.ref ca)]))
        refine own_by (fun t k => XS.iconst Xf3_11.here hx rfl (hb hby d3_64) k) ?_
        show own_Go _ _ _ _ (Tf3_11.setTop (mkF m 65 #[.val (.ref a1), .val (.long xx), .second, .val (.int p3), .val (.int (Int32.ofNat pos))] [(.int (1 : Int32)), (.int (Int32.ofNat pos)), (.ref ca)]))
        refine own_by (fun t k => XS.isub Xf3_11.here hx rfl (hb hby d3_65) rfl k) ?_
        show own_Go _ _ _ _ (Tf3_11.setTop (mkF m 66 #[.val (.ref a1), .val (.long xx), .second, .val (.int p3), .val (.int (Int32.ofNat pos))] [(.int ((Int32.ofNat pos) - (1 : Int32))), (.ref ca)]))
        rw [show ((Int32.ofNat pos) - (1 : Int32)) = (Int32.ofNat (pos - 1)) from own_sub1 (by omega) (by omega)]
        show own_Go _ _ _ _ (Tf3_11.setTop (mkF m 66 #[.val (.ref a1), .val (.long xx), .second, .val (.int p3), .val (.int (Int32.ofNat pos))] [(.int (Int32.ofNat (pos - 1))), (.ref ca)]))
        refine own_by (fun t k => XT.dup2 Xf3_11.here hx rfl (hb hby d3_66) rfl rfl rfl k) ?_
        show own_Go _ _ _ _ (Tf3_11.setTop (mkF m 67 #[.val (.ref a1), .val (.long xx), .second, .val (.int p3), .val (.int (Int32.ofNat pos))] [(.int (Int32.ofNat (pos - 1))), (.ref ca), (.int (Int32.ofNat (pos - 1))), (.ref ca)]))
        obtain ⟨clr3_12, Arr3_12, hir3_12, har3_12⟩ := V_ca.at (j := (Int32.ofNat (pos - 1))) (own_in4 (by omega))
        replace har3_12 := har3_12.trans (congrArg some (own_at (fun k => .int (CC k)) (by omega)))
        refine own_by (fun t k => Xf3_11.iaload hx (j := (Int32.ofNat (pos - 1))) (v := (.int (CC (pos - 1)))) (by rw [ef3_11]; exact Arr3_12.1) (State.isArrayOf_alike hZ.alike Arr3_12.2.1) Arr3_12.2.2 hir3_12 har3_12 (g := (mkF m 67 #[.val (.ref a1), .val (.long xx), .second, .val (.int p3), .val (.int (Int32.ofNat pos))] [(.int (Int32.ofNat (pos - 1))), (.ref ca), (.int (Int32.ofNat (pos - 1))), (.ref ca)])) rfl rfl (hb hby d3_67) _ k) ?_
        show own_Go _ _ _ _ (Tf3_11.setTop (mkF m 68 #[.val (.ref a1), .val (.long xx), .second, .val (.int p3), .val (.int (Int32.ofNat pos))] [(.int (CC (pos - 1))), (.int (Int32.ofNat (pos - 1))), (.ref ca)]))
        refine own_by (fun t k => XS.iloadN Xf3_11.here hx rfl (hb hby d3_68) rfl k) ?_
        show own_Go _ _ _ _ (Tf3_11.setTop (mkF m 69 #[.val (.ref a1), .val (.long xx), .second, .val (.int p3), .val (.int (Int32.ofNat pos))] [(.int p3), (.int (CC (pos - 1))), (.int (Int32.ofNat (pos - 1))), (.ref ca)]))
        refine own_by (fun t k => XS.iadd Xf3_11.here hx rfl (hb hby d3_69) rfl k) ?_
        show own_Go _ _ _ _ (Tf3_11.setTop (mkF m 70 #[.val (.ref a1), .val (.long xx), .second, .val (.int p3), .val (.int (Int32.ofNat pos))] [(.int ((CC (pos - 1)) + p3)), (.int (Int32.ofNat (pos - 1))), (.ref ca)]))
        obtain ⟨Tw3_13, hw3_13, Xw3_13, ew3_13, Ww3_13, Vw3_13, stw3_13⟩ := own_stI Xf3_11 hx hZ ef3_11 V_ca (j := (Int32.ofNat (pos - 1))) (own_in4 (by omega)) (g := (mkF m 70 #[.val (.ref a1), .val (.long xx), .second, .val (.int p3), .val (.int (Int32.ofNat pos))] [(.int ((CC (pos - 1)) + p3)), (.int (Int32.ofNat (pos - 1))), (.ref ca)])) rfl rfl (hb hby d3_70)
        replace E_a1 := E_a1.wr Ww3_13
        replace F_indices_a1 := F_indices_a1.other Ww3_13 (Or.inl ne_a1_ca)
        replace F_counts_a1 := F_counts_a1.other Ww3_13 (Or.inl ne_a1_ca)
        replace F_first_a1 := F_first_a1.other Ww3_13 (Or.inl ne_a1_ca)
        replace F_end_a1 := F_end_a1.other Ww3_13 (Or.inl ne_a1_ca)
        replace F_total_a1 := F_total_a1.other Ww3_13 (Or.inl ne_a1_ca)
        replace V_ia := V_ia.other Ww3_13 ne_ia_ca
        replace KK := KK.wr Ww3_13 (Or.inl (List.mem_of_getElem? (i := 2) rfl))
        replace V_ca := Vw3_13
        have Nw3_13 := Fr.snoc Xw3_13 N0 g_ca
        have Zs_w3_13 : n0 ≤ hw3_13.size := by rw [Ww3_13.size]; exact Z0
        refine own_by (fun t k => stw3_13 t k) ?_
        replace V_ca := V_ca.weak (f' := fun k => .int (if k = pos - 1 then ((CC (pos - 1)) + p3) else CC k)) (fun k _ => own_wkI CC (by omega) _ k)
        show own_Go _ _ _ _ (Tw3_13.setTop (mkF m 71 #[.val (.ref a1), .val (.long xx), .second, .val (.int p3), .val (.int (Int32.ofNat pos))] []))
        refine own_by (fun t k => XS.goto Xw3_13.here hx rfl (pc0 := 71) (pc' := 98) rfl (hb hby d3_71) (by decide) (by decide) k) ?_
        show own_Go _ _ _ _ (Tw3_13.setTop (mkF m 98 #[.val (.ref a1), .val (.long xx), .second, .val (.int p3), .val (.int (Int32.ofNat pos))] []))
        exact J98 _ _ _ Xw3_13 ew3_13 Nw3_13 Zs_w3_13 KK _ en II _ (by omega) (by omega) hinc (fun y => ⟨Or.inl, fun q => q.elim id fun q => ⟨pos - 1, by omega, by omega, by rw [q]; exact hc55⟩⟩) ⟨E_a1, F_indices_a1, F_counts_a1, F_first_a1, F_end_a1, F_total_a1, V_ia, V_ca, g_a1, g_ia, g_ca, ne_a1_ia, ne_a1_ca, ne_ia_ca⟩
      · refine own_by (fun t k => XS.ifYes Xf3_9.here hx rfl (pc0 := 55) (pc' := 74) rfl (hb hby d3_55) rfl ((if0 _ _).trans (feq (fun q => hc55 ((lw_eq _ _).mp q))).2) (by decide) (by decide) k) ?_
        show own_Go _ _ _ _ (Tf3_9.setTop (mkF m 74 #[.val (.ref a1), .val (.long xx), .second, .val (.int p3), .val (.int (Int32.ofNat pos))] []))
        exact J74 _ Xf3_9 ef3_9 pos hp1 hp2 hp3 (Or.inr (hp4.elim (fun q => by omega) (fun q => by rw [Int64.lt_iff_toInt_lt] at q; rw [← Int64.toInt_inj] at hc55; omega)))
    · refine own_by (fun t k => XS.icmpYes Xf3_8.here hx rfl (pc0 := 41) (pc' := 74) rfl (hb hby d3_41) rfl (flt hc41).2.2.2 (by decide) (by decide) k) ?_
      show own_Go _ _ _ _ (Tf3_8.setTop (mkF m 74 #[.val (.ref a1), .val (.long xx), .second, .val (.int p3), .val (.int (Int32.ofNat pos))] []))
      exact J74 _ Xf3_8 ef3_8 pos hp1 hp2 hp3 (Or.inl (by have q : ¬ fi < pos := fun q => hc41 ((own_nlt (by omega) (by omega)).mpr q); omega))
  have LOOP : ∀ (pos : Nat) (T1 : State) (X1 : Stand p l e ({ frames := 2, cells := 0, slots := 0, locals := 34 } : Room) s m #[(.ref a1), (.long xx), (.int p3)] below meth c T1 [] 0 0) (q1 : T1.heap = h0), fi ≤ pos → pos ≤ en → (∀ k, pos ≤ k → k < en → xx.toInt < (II k).toInt) → own_Go p.tables e below (P3 Z a1 xx p3 ia ca fi en tt II CC h0 n0 s) (T1.setTop (mkF m 6 #[.val (.ref a1), .val (.long xx), .second, .val (.int p3), .val (.int (Int32.ofNat pos))] [])) := by
    intro pos
    induction pos using Nat.strongRecOn with
    | ind pos ih =>
      intro T1 X1 q1 hp1 hp2 hp3
      show own_Go _ _ _ _ (T1.setTop (mkF m 6 #[.val (.ref a1), .val (.long xx), .second, .val (.int p3), .val (.int (Int32.ofNat pos))] []))
      refine own_by (fun t k => XS.iload X1.here hx rfl (hb hby d3_6) rfl k) ?_
      show own_Go _ _ _ _ (T1.setTop (mkF m 8 #[.val (.ref a1), .val (.long xx), .second, .val (.int p3), .val (.int (Int32.ofNat pos))] [(.int (Int32.ofNat pos))]))
      refine own_by (fun t k => XS.aloadN X1.here hx rfl (hb hby d3_8) rfl rfl k) ?_
      show own_Go _ _ _ _ (T1.setTop (mkF m 9 #[.val (.ref a1), .val (.long xx), .second, .val (.int p3), .val (.int (Int32.ofNat pos))] [(.ref a1), (.int (Int32.ofNat pos))]))
      obtain ⟨Tf3_14, Xf3_14, ef3_14, stf3_14⟩ := getF X1 hx hZ hown (host := "") (Or.inl (hw _ (List.mem_of_getElem? (i := 22) rfl))) Via.refl q1 F_first_a1 (g := (mkF m 9 #[.val (.ref a1), .val (.long xx), .second, .val (.int p3), .val (.int (Int32.ofNat pos))] [(.ref a1), (.int (Int32.ofNat pos))])) rfl rfl (hb hby d3_9)
      refine own_by (fun t k => stf3_14 t k) ?_
      show own_Go _ _ _ _ (Tf3_14.setTop (mkF m 12 #[.val (.ref a1), .val (.long xx), .second, .val (.int p3), .val (.int (Int32.ofNat pos))] [(.int (Int32.ofNat fi)), (.int (Int32.ofNat pos))]))
      by_cases hc12 : (Int32.ofNat fi) < (Int32.ofNat pos)
      · refine own_by (fun t k => XS.icmpNo Xf3_14.here hx rfl (hb hby d3_12) rfl (tlt hc12).2.2.2 k) ?_
        show own_Go _ _ _ _ (Tf3_14.setTop (mkF m 15 #[.val (.ref a1), .val (.long xx), .second, .val (.int p3), .val (.int (Int32.ofNat pos))] []))
        refine own_by (fun t k => XS.aloadN Xf3_14.here hx rfl (hb hby d3_15) rfl rfl k) ?_
        show own_Go _ _ _ _ (Tf3_14.setTop (mkF m 16 #[.val (.ref a1), .val (.long xx), .second, .val (.int p3), .val (.int (Int32.ofNat pos))] [(.ref a1)]))
        obtain ⟨Tf3_15, Xf3_15, ef3_15, stf3_15⟩ := getF Xf3_14 hx hZ hown (host := "") (Or.inl (hw _ (List.mem_of_getElem? (i := 10) rfl))) Via.refl ef3_14 F_indices_a1 (g := (mkF m 16 #[.val (.ref a1), .val (.long xx), .second, .val (.int p3), .val (.int (Int32.ofNat pos))] [(.ref a1)])) rfl rfl (hb hby d3_16)
        refine own_by (fun t k => stf3_15 t k) ?_
        show own_Go _ _ _ _ (Tf3_15.setTop (mkF m 19 #[.val (.ref a1), .val (.long xx), .second, .val (.int p3), .val (.int (Int32.ofNat pos))] [(.ref ia)]))
        refine own_by (fun t k => XS.iload Xf3_15.here hx rfl (hb hby d3_19) rfl k) ?_
        show own_Go _ _ _ _ (Tf3_15.setTop (mkF m 21 #[.val (.ref a1), .val (.long xx), .second, .val (.int p3), .val (.int (Int32.ofNat pos))] [(.int (Int32.ofNat pos)), (.ref ia)]))
        refine own_by (fun t k => XS.iconst Xf3_15.here hx rfl (hb hby d3_21) k) ?_
        show own_Go _ _ _ _ (Tf3_15.setTop (mkF m 22 #[.val (.ref a1), .val (.long xx), .second, .val (.int p3), .val (.int (Int32.ofNat pos))] [(.int (1 : Int32)), (.int (Int32.ofNat pos)), (.ref ia)]))
        refine own_by (fun t k => XS.isub Xf3_15.here hx rfl (hb hby d3_22) rfl k) ?_
        have u1 := (own_nlt (a := fi) (b := pos) (by omega) (by omega)).mp hc12
        show own_Go _ _ _ _ (Tf3_15.setTop (mkF m 23 #[.val (.ref a1), .val (.long xx), .second, .val (.int p3), .val (.int (Int32.ofNat pos))] [(.int ((Int32.ofNat pos) - (1 : Int32))), (.ref ia)]))
        rw [show ((Int32.ofNat pos) - (1 : Int32)) = (Int32.ofNat (pos - 1)) from own_sub1 (by omega) (by omega)]
        show own_Go _ _ _ _ (Tf3_15.setTop (mkF m 23 #[.val (.ref a1), .val (.long xx), .second, .val (.int p3), .val (.int (Int32.ofNat pos))] [(.int (Int32.ofNat (pos - 1))), (.ref ia)]))
        obtain ⟨clr3_16, Arr3_16, hir3_16, har3_16⟩ := V_ia.at (j := (Int32.ofNat (pos - 1))) (own_in4 (by omega))
        replace har3_16 := har3_16.trans (congrArg some (own_at (fun k => .long (II k)) (by omega)))
        refine own_by (fun t k => Xf3_15.laload hx (j := (Int32.ofNat (pos - 1))) (v := (.long (II (pos - 1)))) (by rw [ef3_15]; exact Arr3_16.1) (State.isArrayOf_alike hZ.alike Arr3_16.2.1) Arr3_16.2.2 hir3_16 har3_16 (g := (mkF m 23 #[.val (.ref a1), .val (.long xx), .second, .val (.int p3), .val (.int (Int32.ofNat pos))] [(.int (Int32.ofNat (pos - 1))), (.ref ia)])) rfl rfl (hb hby d3_23) _ k) ?_
        show own_Go _ _ _ _ (Tf3_15.setTop (mkF m 24 #[.val (.ref a1), .val (.long xx), .second, .val (.int p3), .val (.int (Int32.ofNat pos))] [(.long (II (pos - 1)))]))
        refine own_by (fun t k => XS.lloadN Xf3_15.here hx rfl (hb hby d3_24) rfl k) ?_
        show own_Go _ _ _ _ (Tf3_15.setTop (mkF m 25 #[.val (.ref a1), .val (.long xx), .second, .val (.int p3), .val (.int (Int32.ofNat pos))] [(.long xx), (.long (II (pos - 1)))]))
        refine own_by (fun t k => XS.lcmp Xf3_15.here hx rfl (hb hby d3_25) rfl k) ?_
        show own_Go _ _ _ _ (Tf3_15.setTop (mkF m 26 #[.val (.ref a1), .val (.long xx), .second, .val (.int p3), .val (.int (Int32.ofNat pos))] [(.int (lcmpW (II (pos - 1)) xx))]))
        by_cases hc26 : xx < (II (pos - 1))
        · refine own_by (fun t k => XS.ifNo Xf3_15.here hx rfl (hb hby d3_26) rfl ((if0 _ _).trans (tlt ((lw_gt _ _).mpr hc26)).2.2.2) k) ?_
          show own_Go _ _ _ _ (Tf3_15.setTop (mkF m 29 #[.val (.ref a1), .val (.long xx), .second, .val (.int p3), .val (.int (Int32.ofNat pos))] []))
          refine own_by (fun t k => XS.iinc Xf3_15.here hx rfl (hb hby d3_29) rfl (l' := #[.val (.ref a1), .val (.long xx), .second, .val (.int p3), .val (.int ((Int32.ofNat pos) + (-1 : Int32)))]) rfl k) ?_
          show own_Go _ _ _ _ (Tf3_15.setTop (mkF m 32 #[.val (.ref a1), .val (.long xx), .second, .val (.int p3), .val (.int ((Int32.ofNat pos) + (-1 : Int32)))] []))
          refine own_by (fun t k => XS.goto Xf3_15.here hx rfl (pc0 := 32) (pc' := 6) rfl (hb hby d3_32) (by decide) (by decide) k) ?_
          show own_Go _ _ _ _ (Tf3_15.setTop (mkF m 6 #[.val (.ref a1), .val (.long xx), .second, .val (.int p3), .val (.int ((Int32.ofNat pos) + (-1 : Int32)))] []))
          rw [show ((Int32.ofNat pos) + (-1 : Int32)) = Int32.ofNat (pos - 1) from own_dec (by omega) (by omega)]
          exact ih (pos - 1) (by omega) _ Xf3_15 ef3_15 (by omega) (by omega) (fun k a b => (Classical.em (k = pos - 1)).elim (fun q => by rw [q]; rw [Int64.lt_iff_toInt_lt] at hc26; exact hc26) (fun q => hp3 k (by omega) b))
        · refine own_by (fun t k => XS.ifYes Xf3_15.here hx rfl (pc0 := 26) (pc' := 35) rfl (hb hby d3_26) rfl ((if0 _ _).trans (flt (fun q => hc26 ((lw_gt _ _).mp q))).2.2.2) (by decide) (by decide) k) ?_
          show own_Go _ _ _ _ (Tf3_15.setTop (mkF m 35 #[.val (.ref a1), .val (.long xx), .second, .val (.int p3), .val (.int (Int32.ofNat pos))] []))
          exact J35 _ Xf3_15 ef3_15 pos hp1 hp2 hp3 (Or.inr hc26)
      · refine own_by (fun t k => XS.icmpYes Xf3_14.here hx rfl (pc0 := 12) (pc' := 35) rfl (hb hby d3_12) rfl (flt hc12).2.2.2 (by decide) (by decide) k) ?_
        show own_Go _ _ _ _ (Tf3_14.setTop (mkF m 35 #[.val (.ref a1), .val (.long xx), .second, .val (.int p3), .val (.int (Int32.ofNat pos))] []))
        exact J35 _ Xf3_14 ef3_14 pos hp1 hp2 hp3 (Or.inl (by have q : ¬ fi < pos := fun q => hc12 ((own_nlt (by omega) (by omega)).mpr q); omega))
  show own_Go _ _ _ _ (s₁.setTop (mkF m 0 #[.val (.ref a1), .val (.long xx), .second, .val (.int p3), .unset] []))
  refine own_by (fun t k => XS.aloadN X0.here hx rfl (hb hby d3_0) rfl rfl k) ?_
  show own_Go _ _ _ _ (s₁.setTop (mkF m 1 #[.val (.ref a1), .val (.long xx), .second, .val (.int p3), .unset] [(.ref a1)]))
  obtain ⟨Tf3_17, Xf3_17, ef3_17, stf3_17⟩ := getF X0 hx hZ hown (host := "") (Or.inl (hw _ (List.mem_of_getElem? (i := 20) rfl))) Via.refl e0 F_end_a1 (g := (mkF m 1 #[.val (.ref a1), .val (.long xx), .second, .val (.int p3), .unset] [(.ref a1)])) rfl rfl (hb hby d3_1)
  refine own_by (fun t k => stf3_17 t k) ?_
  show own_Go _ _ _ _ (Tf3_17.setTop (mkF m 4 #[.val (.ref a1), .val (.long xx), .second, .val (.int p3), .unset] [(.int (Int32.ofNat en))]))
  refine own_by (fun t k => XS.istore Xf3_17.here hx rfl (hb hby d3_4) rfl (l' := #[.val (.ref a1), .val (.long xx), .second, .val (.int p3), .val (.int (Int32.ofNat en))]) rfl k) ?_
  show own_Go _ _ _ _ (Tf3_17.setTop (mkF m 6 #[.val (.ref a1), .val (.long xx), .second, .val (.int p3), .val (.int (Int32.ofNat en))] []))
  exact LOOP en _ Xf3_17 ef3_17 hfe (Nat.le_refl _) (fun k a b => absurd b (by omega))
theorem d5_0 : decode prog_16_method_6_code 0 = .ok (.aload_n 0, 1) := by decide +kernel
theorem d5_1 : decode prog_16_method_6_code 1 = .ok (.getfield 21, 3) := by decide +kernel
theorem d5_4 : decode prog_16_method_6_code 4 = .ok (.aload_n 0, 1) := by decide +kernel
theorem d5_5 : decode prog_16_method_6_code 5 = .ok (.getfield 17, 3) := by decide +kernel
theorem d5_8 : decode prog_16_method_6_code 8 = .ok (.if_icmp .ge 49, 3) := by decide +kernel
theorem d5_11 : decode prog_16_method_6_code 11 = .ok (.aload_n 0, 1) := by decide +kernel
theorem d5_12 : decode prog_16_method_6_code 12 = .ok (.getfield 9, 3) := by decide +kernel
theorem d5_15 : decode prog_16_method_6_code 15 = .ok (.aload_n 0, 1) := by decide +kernel
theorem d5_16 : decode prog_16_method_6_code 16 = .ok (.getfield 21, 3) := by decide +kernel
theorem d5_19 : decode prog_16_method_6_code 19 = .ok (.laload, 1) := by decide +kernel
theorem d5_20 : decode prog_16_method_6_code 20 = .ok (.lload_n 1, 1) := by decide +kernel
theorem d5_21 : decode prog_16_method_6_code 21 = .ok (.lcmp, 1) := by decide +kernel
theorem d5_22 : decode prog_16_method_6_code 22 = .ok (.ifCond .ge 35, 3) := by decide +kernel
theorem d5_25 : decode prog_16_method_6_code 25 = .ok (.aload_n 0, 1) := by decide +kernel
theorem d5_26 : decode prog_16_method_6_code 26 = .ok (.dup, 1) := by decide +kernel
theorem d5_27 : decode prog_16_method_6_code 27 = .ok (.getfield 24, 3) := by decide +kernel
theorem d5_30 : decode prog_16_method_6_code 30 = .ok (.aload_n 0, 1) := by decide +kernel
theorem d5_31 : decode prog_16_method_6_code 31 = .ok (.getfield 13, 3) := by decide +kernel
theorem d5_34 : decode prog_16_method_6_code 34 = .ok (.aload_n 0, 1) := by decide +kernel
theorem d5_35 : decode prog_16_method_6_code 35 = .ok (.getfield 21, 3) := by decide +kernel
theorem d5_38 : decode prog_16_method_6_code 38 = .ok (.iaload, 1) := by decide +kernel
theorem d5_39 : decode prog_16_method_6_code 39 = .ok (.i2l, 1) := by decide +kernel
theorem d5_40 : decode prog_16_method_6_code 40 = .ok (.lsub, 1) := by decide +kernel
theorem d5_41 : decode prog_16_method_6_code 41 = .ok (.putfield 24, 3) := by decide +kernel
theorem d5_44 : decode prog_16_method_6_code 44 = .ok (.aload_n 0, 1) := by decide +kernel
theorem d5_45 : decode prog_16_method_6_code 45 = .ok (.dup, 1) := by decide +kernel
theorem d5_46 : decode prog_16_method_6_code 46 = .ok (.getfield 21, 3) := by decide +kernel
theorem d5_49 : decode prog_16_method_6_code 49 = .ok (.iconst 1, 1) := by decide +kernel
theorem d5_50 : decode prog_16_method_6_code 50 = .ok (.iadd, 1) := by decide +kernel
theorem d5_51 : decode prog_16_method_6_code 51 = .ok (.putfield 21, 3) := by decide +kernel
theorem d5_54 : decode prog_16_method_6_code 54 = .ok (.goto (-54), 3) := by decide +kernel
theorem d5_57 : decode prog_16_method_6_code 57 = .ok (.return_, 1) := by decide +kernel
theorem pn_5 : plainName "com/example/water_clock/waterclock/SubWindowCounts" = true := by first | (simp [plainName, overriddenIn]; done) | decide +kernel
theorem ef_5 (m : MethodId) (a1 : Addr) (dd : Int64) : entryFrame m #[(.ref a1), (.long dd)] 3 = mkF m 0 #[.val (.ref a1), .val (.long dd), .second] [] := by first | (simp [entryFrame, mkF, argsToLocals, Value.category]; done) | rfl
def Q5 (Z : State) (a1 : Addr) (dd : Int64) (ia : Addr) (ca : Addr) (fi : Nat) (en : Nat) (tt : Int64) (II : Nat → Int64) (CC : Nat → Int32) (h0 : Heap) (n0 : Nat) (v : Option Value) (h : Heap) (L : List Loc) : Prop := v = none ∧ Fr n0 L ∧ Keep h0 h [a1] ∧ ∃ (f1 : Nat) (t1 : Int64), fi ≤ f1 ∧ f1 ≤ en ∧ (∀ k, fi ≤ k → k < f1 → (II k).toInt < dd.toInt) ∧ (f1 = en ∨ ¬ (II f1).toInt < dd.toInt) ∧ own_S Z h n0 a1 ia ca f1 en t1 II CC
abbrev P5 (Z : State) (a1 : Addr) (dd : Int64) (ia : Addr) (ca : Addr) (fi : Nat) (en : Nat) (tt : Int64) (II : Nat → Int64) (CC : Nat → Int32) (h0 : Heap) (n0 : Nat) (s : State) : Outcome → State → Prop := fun o U' => ∃ v L, o = .returned v ∧ Q5 Z a1 dd ia ca fi en tt II CC h0 n0 v U'.heap L ∧ FrameEnd s o U' L ({ frames := 0, cells := 0, slots := 0, locals := 0 } : Room).cells ({ frames := 0, cells := 0, slots := 0, locals := 0 } : Room).slots
set_option maxRecDepth 65536 in
set_option maxHeartbeats 40000000 in
theorem rm5 (l : Launch) (Z : State) (a0 : Array Value) (hw : ∀ d ∈ tables_1, d.before a0 Z = true) (ws : List Jvm.Cond) (a1 : Addr) (dd : Int64) (ia : Addr) (ca : Addr) (fi : Nat) (en : Nat) (tt : Int64) (II : Nat → Int64) (CC : Nat → Int32) (h0 : Heap) (n0 : Nat) (Z0 : n0 ≤ h0.size) (S0 : own_S Z h0 n0 a1 ia ca fi en tt II CC) (hfe : fi ≤ en) (he3 : en ≤ 3) :
    MetFree l (⟨"com/example/water_clock/waterclock/SubWindowCounts", "dropBelow", "(J)V"⟩ : MethodName) (head1 (Jvm.Cond.code (⟨"com/example/water_clock/waterclock/SubWindowCounts", "dropBelow", "(J)V"⟩ : MethodName) prog_16_method_6_code 3 none :: ws) ({ frames := 0, cells := 0, slots := 0, locals := 0 } : Room)) (fun a U => a = #[(.ref a1), (.long dd)] ∧ Z.Warmed39 U.vm ∧ U.heap = h0) (fun _ _ _ _ _ => True) (fun _ U o U' => ∃ v L, o = .returned v ∧ Q5 Z a1 dd ia ca fi en tt II CC h0 n0 v U'.heap L ∧ FrameEnd U o U' L ({ frames := 0, cells := 0, slots := 0, locals := 0 } : Room).cells ({ frames := 0, cells := 0, slots := 0, locals := 0 } : Room).slots) := by
  refine MetFree.of_bodySF (plainFor_of_name pn_5) hisR ?_
  intro p e s m args below meth c s₁ Bd hml0 hP hK
  obtain ⟨rfl, hZ, hh⟩ := hP
  have hx := Bd.exec
  have hby := Bd.bytes
  have hml : c.maxLocals = 3 := hml0
  have hown : s.vm.findClass "com/example/water_clock/waterclock/SubWindowCounts" = some m.cls := findClass_of_methodNamed Bd.named
  have hnm := (name_of_methodNamed Bd.named Bd.method).1
  have X0 : Stand p l e ({ frames := 0, cells := 0, slots := 0, locals := 0 } : Room) s m #[(.ref a1), (.long dd)] below meth c s₁ [] 0 0 := Stand.of_body Bd
  have e0 : s₁.heap = h0 := by rw [← hh, Bd.state]; rfl
  have N0 := Fr.nil n0
  show own_Go p.tables e below (P5 Z a1 dd ia ca fi en tt II CC h0 n0 s) (s₁.setTop (entryFrame m #[(.ref a1), (.long dd)] 3))
  refine own_by (T' := s₁.setTop (mkF m 0 #[.val (.ref a1), .val (.long dd), .second] [])) (fun t k => castTop (ef_5 m a1 dd) k) ?_
  obtain ⟨E_a1, F_indices_a1, F_counts_a1, F_first_a1, F_end_a1, F_total_a1, V_ia, V_ca, g_a1, g_ia, g_ca, ne_a1_ia, ne_a1_ca, ne_ia_ca⟩ := S0
  have KK := Keep.refl h0 [a1]
  show own_Go _ _ _ _ (s₁.setTop (mkF m 0 #[.val (.ref a1), .val (.long dd), .second] []))
  have LOOP : ∀ (r f1 : Nat) (T1 : State) (h1 : Heap) (lo1 : List Loc) (X1 : Stand p l e ({ frames := 0, cells := 0, slots := 0, locals := 0 } : Room) s m #[(.ref a1), (.long dd)] below meth c T1 lo1 0 0) (q1 : T1.heap = h1) (N1 : Fr n0 lo1) (Zs1 : n0 ≤ h1.size) (KK : Keep h0 h1 [a1]) (t1 : Int64), f1 + r = en → fi ≤ f1 → (∀ k, fi ≤ k → k < f1 → (II k).toInt < dd.toInt) → own_S Z h1 n0 a1 ia ca f1 en t1 II CC → own_Go p.tables e below (P5 Z a1 dd ia ca fi en tt II CC h0 n0 s) (T1.setTop (mkF m 0 #[.val (.ref a1), .val (.long dd), .second] [])) := by
    intro r
    induction r using Nat.strongRecOn with
    | ind r ih =>
      intro f1 T1 h1 lo1 X1 q1 N1 Zs1 KK t1 hr hp1 hp3 ⟨E_a1, F_indices_a1, F_counts_a1, F_first_a1, F_end_a1, F_total_a1, V_ia, V_ca, g_a1, g_ia, g_ca, ne_a1_ia, ne_a1_ca, ne_ia_ca⟩
      show own_Go _ _ _ _ (T1.setTop (mkF m 0 #[.val (.ref a1), .val (.long dd), .second] []))
      refine own_by (fun t k => XS.aloadN X1.here hx rfl (hb hby d5_0) rfl rfl k) ?_
      show own_Go _ _ _ _ (T1.setTop (mkF m 1 #[.val (.ref a1), .val (.long dd), .second] [(.ref a1)]))
      obtain ⟨Tf5_1, Xf5_1, ef5_1, stf5_1⟩ := getF X1 hx hZ hown (host := "") (Or.inl (hw _ (List.mem_of_getElem? (i := 22) rfl))) Via.refl q1 F_first_a1 (g := (mkF m 1 #[.val (.ref a1), .val (.long dd), .second] [(.ref a1)])) rfl rfl (hb hby d5_1)
      refine own_by (fun t k => stf5_1 t k) ?_
      show own_Go _ _ _ _ (Tf5_1.setTop (mkF m 4 #[.val (.ref a1), .val (.long dd), .second] [(.int (Int32.ofNat f1))]))
      refine own_by (fun t k => XS.aloadN Xf5_1.here hx rfl (hb hby d5_4) rfl rfl k) ?_
      show own_Go _ _ _ _ (Tf5_1.setTop (mkF m 5 #[.val (.ref a1), .val (.long dd), .second] [(.ref a1), (.int (Int32.ofNat f1))]))
      obtain ⟨Tf5_2, Xf5_2, ef5_2, stf5_2⟩ := getF Xf5_1 hx hZ hown (host := "") (Or.inl (hw _ (List.mem_of_getElem? (i := 20) rfl))) Via.refl ef5_1 F_end_a1 (g := (mkF m 5 #[.val (.ref a1), .val (.long dd), .second] [(.ref a1), (.int (Int32.ofNat f1))])) rfl rfl (hb hby d5_5)
      refine own_by (fun t k => stf5_2 t k) ?_
      show own_Go _ _ _ _ (Tf5_2.setTop (mkF m 8 #[.val (.ref a1), .val (.long dd), .second] [(.int (Int32.ofNat en)), (.int (Int32.ofNat f1))]))
      by_cases hc8 : (Int32.ofNat f1) < (Int32.ofNat en)
      · refine own_by (fun t k => XS.icmpNo Xf5_2.here hx rfl (hb hby d5_8) rfl (tlt hc8).2.1 k) ?_
        have u1 := (own_nlt (a := f1) (b := en) (by omega) (by omega)).mp hc8
        show own_Go _ _ _ _ (Tf5_2.setTop (mkF m 11 #[.val (.ref a1), .val (.long dd), .second] []))
        refine own_by (fun t k => XS.aloadN Xf5_2.here hx rfl (hb hby d5_11) rfl rfl k) ?_
        show own_Go _ _ _ _ (Tf5_2.setTop (mkF m 12 #[.val (.ref a1), .val (.long dd), .second] [(.ref a1)]))
        obtain ⟨Tf5_3, Xf5_3, ef5_3, stf5_3⟩ := getF Xf5_2 hx hZ hown (host := "") (Or.inl (hw _ (List.mem_of_getElem? (i := 10) rfl))) Via.refl ef5_2 F_indices_a1 (g := (mkF m 12 #[.val (.ref a1), .val (.long dd), .second] [(.ref a1)])) rfl rfl (hb hby d5_12)
        refine own_by (fun t k => stf5_3 t k) ?_
        show own_Go _ _ _ _ (Tf5_3.setTop (mkF m 15 #[.val (.ref a1), .val (.long dd), .second] [(.ref ia)]))
        refine own_by (fun t k => XS.aloadN Xf5_3.here hx rfl (hb hby d5_15) rfl rfl k) ?_
        show own_Go _ _ _ _ (Tf5_3.setTop (mkF m 16 #[.val (.ref a1), .val (.long dd), .second] [(.ref a1), (.ref ia)]))
        obtain ⟨Tf5_4, Xf5_4, ef5_4, stf5_4⟩ := getF Xf5_3 hx hZ hown (host := "") (Or.inl (hw _ (List.mem_of_getElem? (i := 22) rfl))) Via.refl ef5_3 F_first_a1 (g := (mkF m 16 #[.val (.ref a1), .val (.long dd), .second] [(.ref a1), (.ref ia)])) rfl rfl (hb hby d5_16)
        refine own_by (fun t k => stf5_4 t k) ?_
        show own_Go _ _ _ _ (Tf5_4.setTop (mkF m 19 #[.val (.ref a1), .val (.long dd), .second] [(.int (Int32.ofNat f1)), (.ref ia)]))
        obtain ⟨clr5_5, Arr5_5, hir5_5, har5_5⟩ := V_ia.at (j := (Int32.ofNat f1)) (own_in4 (by omega))
        replace har5_5 := har5_5.trans (congrArg some (own_at (fun k => .long (II k)) (by omega)))
        refine own_by (fun t k => Xf5_4.laload hx (j := (Int32.ofNat f1)) (v := (.long (II f1))) (by rw [ef5_4]; exact Arr5_5.1) (State.isArrayOf_alike hZ.alike Arr5_5.2.1) Arr5_5.2.2 hir5_5 har5_5 (g := (mkF m 19 #[.val (.ref a1), .val (.long dd), .second] [(.int (Int32.ofNat f1)), (.ref ia)])) rfl rfl (hb hby d5_19) _ k) ?_
        show own_Go _ _ _ _ (Tf5_4.setTop (mkF m 20 #[.val (.ref a1), .val (.long dd), .second] [(.long (II f1))]))
        refine own_by (fun t k => XS.lloadN Xf5_4.here hx rfl (hb hby d5_20) rfl k) ?_
        show own_Go _ _ _ _ (Tf5_4.setTop (mkF m 21 #[.val (.ref a1), .val (.long dd), .second] [(.long dd), (.long (II f1))]))
        refine own_by (fun t k => XS.lcmp Xf5_4.here hx rfl (hb hby d5_21) rfl k) ?_
        show own_Go _ _ _ _ (Tf5_4.setTop (mkF m 22 #[.val (.ref a1), .val (.long dd), .second] [(.int (lcmpW (II f1) dd))]))
        by_cases hc22 : (II f1) < dd
        · refine own_by (fun t k => XS.ifNo Xf5_4.here hx rfl (hb hby d5_22) rfl ((if0 _ _).trans (tlt ((lw_lt _ _).mpr hc22)).2.1) k) ?_
          show own_Go _ _ _ _ (Tf5_4.setTop (mkF m 25 #[.val (.ref a1), .val (.long dd), .second] []))
          refine own_by (fun t k => XS.aloadN Xf5_4.here hx rfl (hb hby d5_25) rfl rfl k) ?_
          show own_Go _ _ _ _ (Tf5_4.setTop (mkF m 26 #[.val (.ref a1), .val (.long dd), .second] [(.ref a1)]))
          refine own_by (fun t k => XS.dup Xf5_4.here hx rfl (hb hby d5_26) rfl rfl k) ?_
          show own_Go _ _ _ _ (Tf5_4.setTop (mkF m 27 #[.val (.ref a1), .val (.long dd), .second] [(.ref a1), (.ref a1)]))
          obtain ⟨Tf5_6, Xf5_6, ef5_6, stf5_6⟩ := getF Xf5_4 hx hZ hown (host := "") (Or.inl (hw _ (List.mem_of_getElem? (i := 32) rfl))) Via.refl ef5_4 F_total_a1 (g := (mkF m 27 #[.val (.ref a1), .val (.long dd), .second] [(.ref a1), (.ref a1)])) rfl rfl (hb hby d5_27)
          refine own_by (fun t k => stf5_6 t k) ?_
          show own_Go _ _ _ _ (Tf5_6.setTop (mkF m 30 #[.val (.ref a1), .val (.long dd), .second] [(.long t1), (.ref a1)]))
          refine own_by (fun t k => XS.aloadN Xf5_6.here hx rfl (hb hby d5_30) rfl rfl k) ?_
          show own_Go _ _ _ _ (Tf5_6.setTop (mkF m 31 #[.val (.ref a1), .val (.long dd), .second] [(.ref a1), (.long t1), (.ref a1)]))
          obtain ⟨Tf5_7, Xf5_7, ef5_7, stf5_7⟩ := getF Xf5_6 hx hZ hown (host := "") (Or.inl (hw _ (List.mem_of_getElem? (i := 13) rfl))) Via.refl ef5_6 F_counts_a1 (g := (mkF m 31 #[.val (.ref a1), .val (.long dd), .second] [(.ref a1), (.long t1), (.ref a1)])) rfl rfl (hb hby d5_31)
          refine own_by (fun t k => stf5_7 t k) ?_
          show own_Go _ _ _ _ (Tf5_7.setTop (mkF m 34 #[.val (.ref a1), .val (.long dd), .second] [(.ref ca), (.long t1), (.ref a1)]))
          refine own_by (fun t k => XS.aloadN Xf5_7.here hx rfl (hb hby d5_34) rfl rfl k) ?_
          show own_Go _ _ _ _ (Tf5_7.setTop (mkF m 35 #[.val (.ref a1), .val (.long dd), .second] [(.ref a1), (.ref ca), (.long t1), (.ref a1)]))
          obtain ⟨Tf5_8, Xf5_8, ef5_8, stf5_8⟩ := getF Xf5_7 hx hZ hown (host := "") (Or.inl (hw _ (List.mem_of_getElem? (i := 22) rfl))) Via.refl ef5_7 F_first_a1 (g := (mkF m 35 #[.val (.ref a1), .val (.long dd), .second] [(.ref a1), (.ref ca), (.long t1), (.ref a1)])) rfl rfl (hb hby d5_35)
          refine own_by (fun t k => stf5_8 t k) ?_
          show own_Go _ _ _ _ (Tf5_8.setTop (mkF m 38 #[.val (.ref a1), .val (.long dd), .second] [(.int (Int32.ofNat f1)), (.ref ca), (.long t1), (.ref a1)]))
          obtain ⟨clr5_9, Arr5_9, hir5_9, har5_9⟩ := V_ca.at (j := (Int32.ofNat f1)) (own_in4 (by omega))
          replace har5_9 := har5_9.trans (congrArg some (own_at (fun k => .int (CC k)) (by omega)))
          refine own_by (fun t k => Xf5_8.iaload hx (j := (Int32.ofNat f1)) (v := (.int (CC f1))) (by rw [ef5_8]; exact Arr5_9.1) (State.isArrayOf_alike hZ.alike Arr5_9.2.1) Arr5_9.2.2 hir5_9 har5_9 (g := (mkF m 38 #[.val (.ref a1), .val (.long dd), .second] [(.int (Int32.ofNat f1)), (.ref ca), (.long t1), (.ref a1)])) rfl rfl (hb hby d5_38) _ k) ?_
          show own_Go _ _ _ _ (Tf5_8.setTop (mkF m 39 #[.val (.ref a1), .val (.long dd), .second] [(.int (CC f1)), (.long t1), (.ref a1)]))
          refine own_by (fun t k => XS.i2l Xf5_8.here hx rfl (hb hby d5_39) rfl k) ?_
          show own_Go _ _ _ _ (Tf5_8.setTop (mkF m 40 #[.val (.ref a1), .val (.long dd), .second] [(.long ((CC f1).toInt64)), (.long t1), (.ref a1)]))
          refine own_by (fun t k => XS.lsub Xf5_8.here hx rfl (hb hby d5_40) rfl k) ?_
          show own_Go _ _ _ _ (Tf5_8.setTop (mkF m 41 #[.val (.ref a1), .val (.long dd), .second] [(.long (t1 - ((CC f1).toInt64))), (.ref a1)]))
          obtain ⟨Tp5_10, hp5_10, Xp5_10, ep5_10, Wp5_10, stp5_10⟩ := putF Xf5_8 hx hZ hown (host := "") (Or.inl (hw _ (List.mem_of_getElem? (i := 32) rfl))) Via.refl ef5_8 F_total_a1 E_a1 (Or.inl (hw _ (List.mem_of_getElem? (i := 33) rfl))) (hw _ (List.mem_of_getElem? (i := 2) rfl)) (ty := .long) (by decide) rfl rfl (g := (mkF m 41 #[.val (.ref a1), .val (.long dd), .second] [(.long (t1 - ((CC f1).toInt64))), (.ref a1)])) rfl rfl (hb hby d5_41)
          replace F_total_a1 := F_total_a1.same Wp5_10
          replace E_a1 := E_a1.wr Wp5_10
          replace F_indices_a1 := F_indices_a1.other Wp5_10 (Or.inr (slot_ne (Or.inl (hw _ (List.mem_of_getElem? (i := 11) rfl))) (Or.inl (hw _ (List.mem_of_getElem? (i := 33) rfl))) (by decide) (t := (.array .long)) (t' := .long) (by decide) (by decide)))
          replace F_counts_a1 := F_counts_a1.other Wp5_10 (Or.inr (slot_ne (Or.inl (hw _ (List.mem_of_getElem? (i := 14) rfl))) (Or.inl (hw _ (List.mem_of_getElem? (i := 33) rfl))) (by decide) (t := (.array .int)) (t' := .long) (by decide) (by decide)))
          replace F_first_a1 := F_first_a1.other Wp5_10 (Or.inr (slot_ne (Or.inl (hw _ (List.mem_of_getElem? (i := 23) rfl))) (Or.inl (hw _ (List.mem_of_getElem? (i := 33) rfl))) (by decide) (t := .int) (t' := .long) (by decide) (by decide)))
          replace F_end_a1 := F_end_a1.other Wp5_10 (Or.inr (slot_ne (Or.inl (hw _ (List.mem_of_getElem? (i := 21) rfl))) (Or.inl (hw _ (List.mem_of_getElem? (i := 33) rfl))) (by decide) (t := .int) (t' := .long) (by decide) (by decide)))
          replace V_ia := V_ia.other Wp5_10 (Ne.symm ne_a1_ia)
          replace V_ca := V_ca.other Wp5_10 (Ne.symm ne_a1_ca)
          replace KK := KK.wr Wp5_10 (Or.inl (List.mem_of_getElem? (i := 0) rfl))
          have Np5_10 := Fr.snoc Xp5_10 N1 g_a1
          have Zs_p5_10 : n0 ≤ hp5_10.size := by rw [Wp5_10.size]; exact Zs1
          refine own_by (fun t k => stp5_10 t k) ?_
          show own_Go _ _ _ _ (Tp5_10.setTop (mkF m 44 #[.val (.ref a1), .val (.long dd), .second] []))
          refine own_by (fun t k => XS.aloadN Xp5_10.here hx rfl (hb hby d5_44) rfl rfl k) ?_
          show own_Go _ _ _ _ (Tp5_10.setTop (mkF m 45 #[.val (.ref a1), .val (.long dd), .second] [(.ref a1)]))
          refine own_by (fun t k => XS.dup Xp5_10.here hx rfl (hb hby d5_45) rfl rfl k) ?_
          show own_Go _ _ _ _ (Tp5_10.setTop (mkF m 46 #[.val (.ref a1), .val (.long dd), .second] [(.ref a1), (.ref a1)]))
          obtain ⟨Tf5_11, Xf5_11, ef5_11, stf5_11⟩ := getF Xp5_10 hx hZ hown (host := "") (Or.inl (hw _ (List.mem_of_getElem? (i := 22) rfl))) Via.refl ep5_10 F_first_a1 (g := (mkF m 46 #[.val (.ref a1), .val (.long dd), .second] [(.ref a1), (.ref a1)])) rfl rfl (hb hby d5_46)
          refine own_by (fun t k => stf5_11 t k) ?_
          show own_Go _ _ _ _ (Tf5_11.setTop (mkF m 49 #[.val (.ref a1), .val (.long dd), .second] [(.int (Int32.ofNat f1)), (.ref a1)]))
          refine own_by (fun t k => XS.iconst Xf5_11.here hx rfl (hb hby d5_49) k) ?_
          show own_Go _ _ _ _ (Tf5_11.setTop (mkF m 50 #[.val (.ref a1), .val (.long dd), .second] [(.int (1 : Int32)), (.int (Int32.ofNat f1)), (.ref a1)]))
          refine own_by (fun t k => XS.iadd Xf5_11.here hx rfl (hb hby d5_50) rfl k) ?_
          show own_Go _ _ _ _ (Tf5_11.setTop (mkF m 51 #[.val (.ref a1), .val (.long dd), .second] [(.int ((Int32.ofNat f1) + (1 : Int32))), (.ref a1)]))
          rw [show ((Int32.ofNat f1) + (1 : Int32)) = (Int32.ofNat (f1 + 1)) from own_add1 (by omega)]
          show own_Go _ _ _ _ (Tf5_11.setTop (mkF m 51 #[.val (.ref a1), .val (.long dd), .second] [(.int (Int32.ofNat (f1 + 1))), (.ref a1)]))
          obtain ⟨Tp5_12, hp5_12, Xp5_12, ep5_12, Wp5_12, stp5_12⟩ := putF Xf5_11 hx hZ hown (host := "") (Or.inl (hw _ (List.mem_of_getElem? (i := 22) rfl))) Via.refl ef5_11 F_first_a1 E_a1 (Or.inl (hw _ (List.mem_of_getElem? (i := 23) rfl))) (hw _ (List.mem_of_getElem? (i := 2) rfl)) (ty := .int) (by decide) rfl rfl (g := (mkF m 51 #[.val (.ref a1), .val (.long dd), .second] [(.int (Int32.ofNat (f1 + 1))), (.ref a1)])) rfl rfl (hb hby d5_51)
          replace F_first_a1 := F_first_a1.same Wp5_12
          replace E_a1 := E_a1.wr Wp5_12
          replace F_indices_a1 := F_indices_a1.other Wp5_12 (Or.inr (slot_ne (Or.inl (hw _ (List.mem_of_getElem? (i := 11) rfl))) (Or.inl (hw _ (List.mem_of_getElem? (i := 23) rfl))) (by decide) (t := (.array .long)) (t' := .int) (by decide) (by decide)))
          replace F_counts_a1 := F_counts_a1.other Wp5_12 (Or.inr (slot_ne (Or.inl (hw _ (List.mem_of_getElem? (i := 14) rfl))) (Or.inl (hw _ (List.mem_of_getElem? (i := 23) rfl))) (by decide) (t := (.array .int)) (t' := .int) (by decide) (by decide)))
          replace F_end_a1 := F_end_a1.other Wp5_12 (Or.inr (slot_ne (Or.inl (hw _ (List.mem_of_getElem? (i := 21) rfl))) (Or.inl (hw _ (List.mem_of_getElem? (i := 23) rfl))) (by decide) (t := .int) (t' := .int) (by decide) (by decide)))
          replace V_ia := V_ia.other Wp5_12 (Ne.symm ne_a1_ia)
          replace V_ca := V_ca.other Wp5_12 (Ne.symm ne_a1_ca)
          replace F_total_a1 := F_total_a1.other Wp5_12 (Or.inr (slot_ne (Or.inl (hw _ (List.mem_of_getElem? (i := 33) rfl))) (Or.inl (hw _ (List.mem_of_getElem? (i := 23) rfl))) (by decide) (t := .long) (t' := .int) (by decide) (by decide)))
          replace KK := KK.wr Wp5_12 (Or.inl (List.mem_of_getElem? (i := 0) rfl))
          have Np5_12 := Fr.snoc Xp5_12 Np5_10 g_a1
          have Zs_p5_12 : n0 ≤ hp5_12.size := by rw [Wp5_12.size]; exact Zs_p5_10
          refine own_by (fun t k => stp5_12 t k) ?_
          show own_Go _ _ _ _ (Tp5_12.setTop (mkF m 54 #[.val (.ref a1), .val (.long dd), .second] []))
          refine own_by (fun t k => XS.goto Xp5_12.here hx rfl (pc0 := 54) (pc' := 0) rfl (hb hby d5_54) (by decide) (by decide) k) ?_
          show own_Go _ _ _ _ (Tp5_12.setTop (mkF m 0 #[.val (.ref a1), .val (.long dd), .second] []))
          exact ih (r - 1) (by omega) (f1 + 1) _ _ _ Xp5_12 ep5_12 Np5_12 Zs_p5_12 KK _ (by omega) (by omega) (fun k a b => (Classical.em (k = f1)).elim (fun q => by rw [q]; rw [Int64.lt_iff_toInt_lt] at hc22; exact hc22) (fun q => hp3 k a (by omega))) ⟨E_a1, F_indices_a1, F_counts_a1, F_first_a1, F_end_a1, F_total_a1, V_ia, V_ca, g_a1, g_ia, g_ca, ne_a1_ia, ne_a1_ca, ne_ia_ca⟩
        · refine own_by (fun t k => XS.ifYes Xf5_4.here hx rfl (pc0 := 22) (pc' := 57) rfl (hb hby d5_22) rfl ((if0 _ _).trans (flt (fun q => hc22 ((lw_lt _ _).mp q))).2.1) (by decide) (by decide) k) ?_
          show own_Go _ _ _ _ (Tf5_4.setTop (mkF m 57 #[.val (.ref a1), .val (.long dd), .second] []))
          obtain ⟨fs, hr, hrun, hended, hW, hsame⟩ := Xf5_4.leave (v := none) (fun _ => rfl)
          refine ⟨_, _, Xf5_4.returnOut hx Bd.returns (hb hby d5_57) hr, hrun, hended, _, _, rfl, ?_, ⟨_, rfl⟩, hW, hsame.mono (by decide) (by decide)⟩
          show Q5 Z a1 dd ia ca fi en tt II CC h0 n0 _ Tf5_4.heap _
          rw [ef5_4]
          exact ⟨rfl, N1, KK, f1, t1, hp1, by omega, hp3, (Or.inr (by rw [Int64.lt_iff_toInt_lt] at hc22; exact hc22)), E_a1, F_indices_a1, F_counts_a1, F_first_a1, F_end_a1, F_total_a1, V_ia, V_ca, g_a1, g_ia, g_ca, ne_a1_ia, ne_a1_ca, ne_ia_ca⟩
      · refine own_by (fun t k => XS.icmpYes Xf5_2.here hx rfl (pc0 := 8) (pc' := 57) rfl (hb hby d5_8) rfl (flt hc8).2.1 (by decide) (by decide) k) ?_
        show own_Go _ _ _ _ (Tf5_2.setTop (mkF m 57 #[.val (.ref a1), .val (.long dd), .second] []))
        obtain ⟨fs, hr, hrun, hended, hW, hsame⟩ := Xf5_2.leave (v := none) (fun _ => rfl)
        refine ⟨_, _, Xf5_2.returnOut hx Bd.returns (hb hby d5_57) hr, hrun, hended, _, _, rfl, ?_, ⟨_, rfl⟩, hW, hsame.mono (by decide) (by decide)⟩
        show Q5 Z a1 dd ia ca fi en tt II CC h0 n0 _ Tf5_2.heap _
        rw [ef5_2]
        exact ⟨rfl, N1, KK, f1, t1, hp1, by omega, hp3, (Or.inl (by have q : ¬ f1 < en := fun q => hc8 ((own_nlt (by omega) (by omega)).mpr q); omega)), E_a1, F_indices_a1, F_counts_a1, F_first_a1, F_end_a1, F_total_a1, V_ia, V_ca, g_a1, g_ia, g_ca, ne_a1_ia, ne_a1_ca, ne_ia_ca⟩
  show own_Go _ _ _ _ (s₁.setTop (mkF m 0 #[.val (.ref a1), .val (.long dd), .second] []))
  exact LOOP (en - fi) fi _ _ _ X0 e0 N0 Z0 KK _ (by omega) (Nat.le_refl _) (fun k a b => absurd b (by omega)) ⟨E_a1, F_indices_a1, F_counts_a1, F_first_a1, F_end_a1, F_total_a1, V_ia, V_ca, g_a1, g_ia, g_ca, ne_a1_ia, ne_a1_ca, ne_ia_ca⟩
theorem d8_0 : decode method_2_code 0 = .ok (.aload_n 0, 1) := by decide +kernel
theorem d8_1 : decode method_2_code 1 = .ok (.iload_n 1, 1) := by decide +kernel
theorem d8_2 : decode method_2_code 2 = .ok (.laload, 1) := by decide +kernel
theorem d8_3 : decode method_2_code 3 = .ok (.aload_n 0, 1) := by decide +kernel
theorem d8_4 : decode method_2_code 4 = .ok (.iload_n 2, 1) := by decide +kernel
theorem d8_5 : decode method_2_code 5 = .ok (.laload, 1) := by decide +kernel
theorem d8_6 : decode method_2_code 6 = .ok (.lcmp, 1) := by decide +kernel
theorem d8_7 : decode method_2_code 7 = .ok (.ifCond .le 17, 3) := by decide +kernel
theorem d8_10 : decode method_2_code 10 = .ok (.aload_n 0, 1) := by decide +kernel
theorem d8_11 : decode method_2_code 11 = .ok (.iload_n 1, 1) := by decide +kernel
theorem d8_12 : decode method_2_code 12 = .ok (.laload, 1) := by decide +kernel
theorem d8_13 : decode method_2_code 13 = .ok (.lstore_n 3, 1) := by decide +kernel
theorem d8_14 : decode method_2_code 14 = .ok (.aload_n 0, 1) := by decide +kernel
theorem d8_15 : decode method_2_code 15 = .ok (.iload_n 1, 1) := by decide +kernel
theorem d8_16 : decode method_2_code 16 = .ok (.aload_n 0, 1) := by decide +kernel
theorem d8_17 : decode method_2_code 17 = .ok (.iload_n 2, 1) := by decide +kernel
theorem d8_18 : decode method_2_code 18 = .ok (.laload, 1) := by decide +kernel
theorem d8_19 : decode method_2_code 19 = .ok (.lastore, 1) := by decide +kernel
theorem d8_20 : decode method_2_code 20 = .ok (.aload_n 0, 1) := by decide +kernel
theorem d8_21 : decode method_2_code 21 = .ok (.iload_n 2, 1) := by decide +kernel
theorem d8_22 : decode method_2_code 22 = .ok (.lload_n 3, 1) := by decide +kernel
theorem d8_23 : decode method_2_code 23 = .ok (.lastore, 1) := by decide +kernel
theorem d8_24 : decode method_2_code 24 = .ok (.return_, 1) := by decide +kernel
theorem pn_8 : plainName "com/example/water_clock/waterclock/SubWindowCountsIndexPinLaw" = true := by first | (simp [plainName, overriddenIn]; done) | decide +kernel
theorem ef_8 (m : MethodId) (vv : Addr) (p2 : Int32) (p3 : Int32) : entryFrame m #[(.ref vv), (.int p2), (.int p3)] 5 = mkF m 0 #[.val (.ref vv), .val (.int p2), .val (.int p3), .unset, .unset] [] := by first | (simp [entryFrame, mkF, argsToLocals, Value.category]; done) | rfl
def Q8 (Z : State) (vv : Addr) (p2 : Int32) (p3 : Int32) (gg : Nat → Int64) (h0 : Heap) (n0 : Nat) (v : Option Value) (h : Heap) (L : List Loc) : Prop := v = none ∧ Fr n0 L ∧ Keep h0 h [vv] ∧ own_Ar Z h vv .long 3 (fun k => .long (own_cs gg p2.toNatClampNeg p3.toNatClampNeg k))
abbrev P8 (Z : State) (vv : Addr) (p2 : Int32) (p3 : Int32) (gg : Nat → Int64) (h0 : Heap) (n0 : Nat) (s : State) : Outcome → State → Prop := fun o U' => ∃ v L, o = .returned v ∧ Q8 Z vv p2 p3 gg h0 n0 v U'.heap L ∧ FrameEnd s o U' L ({ frames := 0, cells := 0, slots := 0, locals := 0 } : Room).cells ({ frames := 0, cells := 0, slots := 0, locals := 0 } : Room).slots
set_option maxRecDepth 65536 in
set_option maxHeartbeats 40000000 in
theorem rm8 (l : Launch) (Z : State) (a0 : Array Value) (hw : ∀ d ∈ tables_1, d.before a0 Z = true) (ws : List Jvm.Cond) (vv : Addr) (p2 : Int32) (p3 : Int32) (gg : Nat → Int64) (h0 : Heap) (n0 : Nat) (Z0 : n0 ≤ h0.size) (V_vv : own_Ar Z h0 vv .long 3 (fun k => .long (gg k))) (g_vv : n0 ≤ vv) (hi2 : ¬ p2 < 0 ∧ p2 < 3) (hi3 : ¬ p3 < 0 ∧ p3 < 3) :
    MetFree l (⟨"com/example/water_clock/waterclock/SubWindowCountsIndexPinLaw", "cs", "([JII)V"⟩ : MethodName) (head1 (Jvm.Cond.code (⟨"com/example/water_clock/waterclock/SubWindowCountsIndexPinLaw", "cs", "([JII)V"⟩ : MethodName) method_2_code 5 none :: ws) ({ frames := 0, cells := 0, slots := 0, locals := 0 } : Room)) (fun a U => a = #[(.ref vv), (.int p2), (.int p3)] ∧ Z.Warmed39 U.vm ∧ U.heap = h0) (fun _ _ _ _ _ => True) (fun _ U o U' => ∃ v L, o = .returned v ∧ Q8 Z vv p2 p3 gg h0 n0 v U'.heap L ∧ FrameEnd U o U' L ({ frames := 0, cells := 0, slots := 0, locals := 0 } : Room).cells ({ frames := 0, cells := 0, slots := 0, locals := 0 } : Room).slots) := by
  refine MetFree.of_bodySF (plainFor_of_name pn_8) hisR ?_
  intro p e s m args below meth c s₁ Bd hml0 hP hK
  obtain ⟨rfl, hZ, hh⟩ := hP
  have hx := Bd.exec
  have hby := Bd.bytes
  have hml : c.maxLocals = 5 := hml0
  have hown : s.vm.findClass "com/example/water_clock/waterclock/SubWindowCountsIndexPinLaw" = some m.cls := findClass_of_methodNamed Bd.named
  have hnm := (name_of_methodNamed Bd.named Bd.method).1
  have X0 : Stand p l e ({ frames := 0, cells := 0, slots := 0, locals := 0 } : Room) s m #[(.ref vv), (.int p2), (.int p3)] below meth c s₁ [] 0 0 := Stand.of_body Bd
  have e0 : s₁.heap = h0 := by rw [← hh, Bd.state]; rfl
  have N0 := Fr.nil n0
  show own_Go p.tables e below (P8 Z vv p2 p3 gg h0 n0 s) (s₁.setTop (entryFrame m #[(.ref vv), (.int p2), (.int p3)] 5))
  refine own_by (T' := s₁.setTop (mkF m 0 #[.val (.ref vv), .val (.int p2), .val (.int p3), .unset, .unset] [])) (fun t k => castTop (ef_8 m vv p2 p3) k) ?_
  have KK := Keep.refl h0 [vv]
  show own_Go _ _ _ _ (s₁.setTop (mkF m 0 #[.val (.ref vv), .val (.int p2), .val (.int p3), .unset, .unset] []))
  refine own_by (fun t k => XS.aloadN X0.here hx rfl (hb hby d8_0) rfl rfl k) ?_
  show own_Go _ _ _ _ (s₁.setTop (mkF m 1 #[.val (.ref vv), .val (.int p2), .val (.int p3), .unset, .unset] [(.ref vv)]))
  refine own_by (fun t k => XS.iloadN X0.here hx rfl (hb hby d8_1) rfl k) ?_
  show own_Go _ _ _ _ (s₁.setTop (mkF m 2 #[.val (.ref vv), .val (.int p2), .val (.int p3), .unset, .unset] [(.int p2), (.ref vv)]))
  obtain ⟨clr8_1, Arr8_1, hir8_1, har8_1⟩ := V_vv.at (j := p2) hi2
  replace har8_1 := har8_1.trans (congrArg some rfl)
  refine own_by (fun t k => X0.laload hx (j := p2) (v := (.long (gg p2.toNatClampNeg))) (by rw [e0]; exact Arr8_1.1) (State.isArrayOf_alike hZ.alike Arr8_1.2.1) Arr8_1.2.2 hir8_1 har8_1 (g := (mkF m 2 #[.val (.ref vv), .val (.int p2), .val (.int p3), .unset, .unset] [(.int p2), (.ref vv)])) rfl rfl (hb hby d8_2) _ k) ?_
  show own_Go _ _ _ _ (s₁.setTop (mkF m 3 #[.val (.ref vv), .val (.int p2), .val (.int p3), .unset, .unset] [(.long (gg p2.toNatClampNeg))]))
  refine own_by (fun t k => XS.aloadN X0.here hx rfl (hb hby d8_3) rfl rfl k) ?_
  show own_Go _ _ _ _ (s₁.setTop (mkF m 4 #[.val (.ref vv), .val (.int p2), .val (.int p3), .unset, .unset] [(.ref vv), (.long (gg p2.toNatClampNeg))]))
  refine own_by (fun t k => XS.iloadN X0.here hx rfl (hb hby d8_4) rfl k) ?_
  show own_Go _ _ _ _ (s₁.setTop (mkF m 5 #[.val (.ref vv), .val (.int p2), .val (.int p3), .unset, .unset] [(.int p3), (.ref vv), (.long (gg p2.toNatClampNeg))]))
  obtain ⟨clr8_2, Arr8_2, hir8_2, har8_2⟩ := V_vv.at (j := p3) hi3
  replace har8_2 := har8_2.trans (congrArg some rfl)
  refine own_by (fun t k => X0.laload hx (j := p3) (v := (.long (gg p3.toNatClampNeg))) (by rw [e0]; exact Arr8_2.1) (State.isArrayOf_alike hZ.alike Arr8_2.2.1) Arr8_2.2.2 hir8_2 har8_2 (g := (mkF m 5 #[.val (.ref vv), .val (.int p2), .val (.int p3), .unset, .unset] [(.int p3), (.ref vv), (.long (gg p2.toNatClampNeg))])) rfl rfl (hb hby d8_5) _ k) ?_
  show own_Go _ _ _ _ (s₁.setTop (mkF m 6 #[.val (.ref vv), .val (.int p2), .val (.int p3), .unset, .unset] [(.long (gg p3.toNatClampNeg)), (.long (gg p2.toNatClampNeg))]))
  refine own_by (fun t k => XS.lcmp X0.here hx rfl (hb hby d8_6) rfl k) ?_
  show own_Go _ _ _ _ (s₁.setTop (mkF m 7 #[.val (.ref vv), .val (.int p2), .val (.int p3), .unset, .unset] [(.int (lcmpW (gg p2.toNatClampNeg) (gg p3.toNatClampNeg)))]))
  by_cases hc7 : (gg p3.toNatClampNeg) < (gg p2.toNatClampNeg)
  · refine own_by (fun t k => XS.ifNo X0.here hx rfl (hb hby d8_7) rfl ((if0 _ _).trans (tlt ((lw_gt _ _).mpr hc7)).2.2.2) k) ?_
    show own_Go _ _ _ _ (s₁.setTop (mkF m 10 #[.val (.ref vv), .val (.int p2), .val (.int p3), .unset, .unset] []))
    refine own_by (fun t k => XS.aloadN X0.here hx rfl (hb hby d8_10) rfl rfl k) ?_
    show own_Go _ _ _ _ (s₁.setTop (mkF m 11 #[.val (.ref vv), .val (.int p2), .val (.int p3), .unset, .unset] [(.ref vv)]))
    refine own_by (fun t k => XS.iloadN X0.here hx rfl (hb hby d8_11) rfl k) ?_
    show own_Go _ _ _ _ (s₁.setTop (mkF m 12 #[.val (.ref vv), .val (.int p2), .val (.int p3), .unset, .unset] [(.int p2), (.ref vv)]))
    obtain ⟨clr8_3, Arr8_3, hir8_3, har8_3⟩ := V_vv.at (j := p2) hi2
    replace har8_3 := har8_3.trans (congrArg some rfl)
    refine own_by (fun t k => X0.laload hx (j := p2) (v := (.long (gg p2.toNatClampNeg))) (by rw [e0]; exact Arr8_3.1) (State.isArrayOf_alike hZ.alike Arr8_3.2.1) Arr8_3.2.2 hir8_3 har8_3 (g := (mkF m 12 #[.val (.ref vv), .val (.int p2), .val (.int p3), .unset, .unset] [(.int p2), (.ref vv)])) rfl rfl (hb hby d8_12) _ k) ?_
    show own_Go _ _ _ _ (s₁.setTop (mkF m 13 #[.val (.ref vv), .val (.int p2), .val (.int p3), .unset, .unset] [(.long (gg p2.toNatClampNeg))]))
    refine own_by (fun t k => XS.lstoreN X0.here hx rfl (hb hby d8_13) rfl (l' := #[.val (.ref vv), .val (.int p2), .val (.int p3), .val (.long (gg p2.toNatClampNeg)), .second]) rfl k) ?_
    show own_Go _ _ _ _ (s₁.setTop (mkF m 14 #[.val (.ref vv), .val (.int p2), .val (.int p3), .val (.long (gg p2.toNatClampNeg)), .second] []))
    refine own_by (fun t k => XS.aloadN X0.here hx rfl (hb hby d8_14) rfl rfl k) ?_
    show own_Go _ _ _ _ (s₁.setTop (mkF m 15 #[.val (.ref vv), .val (.int p2), .val (.int p3), .val (.long (gg p2.toNatClampNeg)), .second] [(.ref vv)]))
    refine own_by (fun t k => XS.iloadN X0.here hx rfl (hb hby d8_15) rfl k) ?_
    show own_Go _ _ _ _ (s₁.setTop (mkF m 16 #[.val (.ref vv), .val (.int p2), .val (.int p3), .val (.long (gg p2.toNatClampNeg)), .second] [(.int p2), (.ref vv)]))
    refine own_by (fun t k => XS.aloadN X0.here hx rfl (hb hby d8_16) rfl rfl k) ?_
    show own_Go _ _ _ _ (s₁.setTop (mkF m 17 #[.val (.ref vv), .val (.int p2), .val (.int p3), .val (.long (gg p2.toNatClampNeg)), .second] [(.ref vv), (.int p2), (.ref vv)]))
    refine own_by (fun t k => XS.iloadN X0.here hx rfl (hb hby d8_17) rfl k) ?_
    show own_Go _ _ _ _ (s₁.setTop (mkF m 18 #[.val (.ref vv), .val (.int p2), .val (.int p3), .val (.long (gg p2.toNatClampNeg)), .second] [(.int p3), (.ref vv), (.int p2), (.ref vv)]))
    obtain ⟨clr8_4, Arr8_4, hir8_4, har8_4⟩ := V_vv.at (j := p3) hi3
    replace har8_4 := har8_4.trans (congrArg some rfl)
    refine own_by (fun t k => X0.laload hx (j := p3) (v := (.long (gg p3.toNatClampNeg))) (by rw [e0]; exact Arr8_4.1) (State.isArrayOf_alike hZ.alike Arr8_4.2.1) Arr8_4.2.2 hir8_4 har8_4 (g := (mkF m 18 #[.val (.ref vv), .val (.int p2), .val (.int p3), .val (.long (gg p2.toNatClampNeg)), .second] [(.int p3), (.ref vv), (.int p2), (.ref vv)])) rfl rfl (hb hby d8_18) _ k) ?_
    show own_Go _ _ _ _ (s₁.setTop (mkF m 19 #[.val (.ref vv), .val (.int p2), .val (.int p3), .val (.long (gg p2.toNatClampNeg)), .second] [(.long (gg p3.toNatClampNeg)), (.int p2), (.ref vv)]))
    obtain ⟨Tw8_5, hw8_5, Xw8_5, ew8_5, Ww8_5, Vw8_5, stw8_5⟩ := own_stJ X0 hx hZ e0 V_vv (j := p2) hi2 (g := (mkF m 19 #[.val (.ref vv), .val (.int p2), .val (.int p3), .val (.long (gg p2.toNatClampNeg)), .second] [(.long (gg p3.toNatClampNeg)), (.int p2), (.ref vv)])) rfl rfl (hb hby d8_19)
    replace KK := KK.wr Ww8_5 (Or.inl (List.mem_of_getElem? (i := 0) rfl))
    replace V_vv := Vw8_5
    have Nw8_5 := Fr.snoc Xw8_5 N0 g_vv
    have Zs_w8_5 : n0 ≤ hw8_5.size := by rw [Ww8_5.size]; exact Z0
    refine own_by (fun t k => stw8_5 t k) ?_
    replace V_vv := V_vv.weak (f' := fun k => .long (if k = p2.toNatClampNeg then gg p3.toNatClampNeg else gg k)) (fun k _ => by split <;> rfl)
    show own_Go _ _ _ _ (Tw8_5.setTop (mkF m 20 #[.val (.ref vv), .val (.int p2), .val (.int p3), .val (.long (gg p2.toNatClampNeg)), .second] []))
    refine own_by (fun t k => XS.aloadN Xw8_5.here hx rfl (hb hby d8_20) rfl rfl k) ?_
    show own_Go _ _ _ _ (Tw8_5.setTop (mkF m 21 #[.val (.ref vv), .val (.int p2), .val (.int p3), .val (.long (gg p2.toNatClampNeg)), .second] [(.ref vv)]))
    refine own_by (fun t k => XS.iloadN Xw8_5.here hx rfl (hb hby d8_21) rfl k) ?_
    show own_Go _ _ _ _ (Tw8_5.setTop (mkF m 22 #[.val (.ref vv), .val (.int p2), .val (.int p3), .val (.long (gg p2.toNatClampNeg)), .second] [(.int p3), (.ref vv)]))
    refine own_by (fun t k => XS.lloadN Xw8_5.here hx rfl (hb hby d8_22) rfl k) ?_
    show own_Go _ _ _ _ (Tw8_5.setTop (mkF m 23 #[.val (.ref vv), .val (.int p2), .val (.int p3), .val (.long (gg p2.toNatClampNeg)), .second] [(.long (gg p2.toNatClampNeg)), (.int p3), (.ref vv)]))
    obtain ⟨Tw8_6, hw8_6, Xw8_6, ew8_6, Ww8_6, Vw8_6, stw8_6⟩ := own_stJ Xw8_5 hx hZ ew8_5 V_vv (j := p3) hi3 (g := (mkF m 23 #[.val (.ref vv), .val (.int p2), .val (.int p3), .val (.long (gg p2.toNatClampNeg)), .second] [(.long (gg p2.toNatClampNeg)), (.int p3), (.ref vv)])) rfl rfl (hb hby d8_23)
    replace KK := KK.wr Ww8_6 (Or.inl (List.mem_of_getElem? (i := 0) rfl))
    replace V_vv := Vw8_6
    have Nw8_6 := Fr.snoc Xw8_6 Nw8_5 g_vv
    have Zs_w8_6 : n0 ≤ hw8_6.size := by rw [Ww8_6.size]; exact Zs_w8_5
    refine own_by (fun t k => stw8_6 t k) ?_
    replace V_vv := V_vv.weak (f' := fun k => .long (if k = p3.toNatClampNeg then gg p2.toNatClampNeg else if k = p2.toNatClampNeg then gg p3.toNatClampNeg else gg k)) (fun k _ => by split <;> rfl)
    show own_Go _ _ _ _ (Tw8_6.setTop (mkF m 24 #[.val (.ref vv), .val (.int p2), .val (.int p3), .val (.long (gg p2.toNatClampNeg)), .second] []))
    obtain ⟨fs, hr, hrun, hended, hW, hsame⟩ := Xw8_6.leave (v := none) (fun _ => rfl)
    refine ⟨_, _, Xw8_6.returnOut hx Bd.returns (hb hby d8_24) hr, hrun, hended, _, _, rfl, ?_, ⟨_, rfl⟩, hW, hsame.mono (by decide) (by decide)⟩
    show Q8 Z vv p2 p3 gg h0 n0 _ Tw8_6.heap _
    rw [ew8_6]
    exact ⟨rfl, Nw8_6, KK, V_vv.weak fun k _ => congrArg Value.long (if_pos hc7).symm⟩
  · refine own_by (fun t k => XS.ifYes X0.here hx rfl (pc0 := 7) (pc' := 24) rfl (hb hby d8_7) rfl ((if0 _ _).trans (flt (fun q => hc7 ((lw_gt _ _).mp q))).2.2.2) (by decide) (by decide) k) ?_
    show own_Go _ _ _ _ (s₁.setTop (mkF m 24 #[.val (.ref vv), .val (.int p2), .val (.int p3), .unset, .unset] []))
    obtain ⟨fs, hr, hrun, hended, hW, hsame⟩ := X0.leave (v := none) (fun _ => rfl)
    refine ⟨_, _, X0.returnOut hx Bd.returns (hb hby d8_24) hr, hrun, hended, _, _, rfl, ?_, ⟨_, rfl⟩, hW, hsame.mono (by decide) (by decide)⟩
    show Q8 Z vv p2 p3 gg h0 n0 _ s₁.heap _
    rw [e0]
    exact ⟨rfl, N0, KK, V_vv.weak fun k _ => congrArg Value.long (if_neg hc7).symm⟩
theorem pd_0_0 : parseMethodDescriptor "()V" = some ⟨[], none⟩ := by decide +kernel
theorem pd_0_1 : parseMethodDescriptor "(JI)V" = some ⟨[.long, .int], none⟩ := by decide +kernel
theorem pd_0_2 : parseMethodDescriptor "(J)V" = some ⟨[.long], none⟩ := by decide +kernel
theorem pd_0_3 : parseMethodDescriptor "()I" = some ⟨[], some .int⟩ := by decide +kernel
theorem pd_0_4 : parseMethodDescriptor "(I)J" = some ⟨[.int], some .long⟩ := by decide +kernel
theorem pd_0_5 : parseMethodDescriptor "([JII)V" = some ⟨[(.array .long), .int, .int], none⟩ := by decide +kernel
theorem pn_0 : plainName "com/example/water_clock/waterclock/SubWindowCountsIndexPinLaw" = true := by first | (simp [plainName, overriddenIn]; done) | decide +kernel
theorem ef_0 (m : MethodId) (aa : Int64) (b0 : Int64) (c0 : Int64) (d0 : Int64) (ff : Int32) : entryFrame m #[(.long aa), (.long b0), (.long c0), (.long d0), (.int ff)] maxLocals = mkF m 0 #[.val (.long aa), .second, .val (.long b0), .second, .val (.long c0), .second, .val (.long d0), .second, .val (.int ff), .unset, .unset, .unset, .unset, .unset, .unset, .unset, .unset, .unset, .unset, .unset, .unset, .unset, .unset, .unset] [] := by first | (simp [entryFrame, mkF, argsToLocals, Value.category, maxLocals]; done) | rfl
def Q0 (Z : State) (aa : Int64) (b0 : Int64) (c0 : Int64) (d0 : Int64) (ff : Int32) (h0 : Heap) (n0 : Nat) (v : Option Value) (h : Heap) (L : List Loc) : Prop := v = some (.int (1 : Int32)) ∧ Fr n0 L
abbrev P0 (Z : State) (aa : Int64) (b0 : Int64) (c0 : Int64) (d0 : Int64) (ff : Int32) (h0 : Heap) (n0 : Nat) (s : State) : Outcome → State → Prop := fun o U' => ∃ v L, o = .returned v ∧ Q0 Z aa b0 c0 d0 ff h0 n0 v U'.heap L ∧ FrameEnd s o U' L room_1.cells room_1.slots
set_option maxRecDepth 65536 in
set_option maxHeartbeats 40000000 in
theorem rm0 (l : Launch) (Z : State) (a0 : Array Value) (hw : ∀ d ∈ tables_1, d.before a0 Z = true) (ws : List Jvm.Cond) (aa : Int64) (b0 : Int64) (c0 : Int64) (d0 : Int64) (ff : Int32) (h0 : Heap) (n0 : Nat) (Z0 : n0 ≤ h0.size) :
    MetFree l x (head1 (Jvm.Cond.code x code maxLocals ret :: ws) room_1) (fun a U => a = #[(.long aa), (.long b0), (.long c0), (.long d0), (.int ff)] ∧ Z.Warmed39 U.vm ∧ U.heap = h0) (fun _ _ _ _ _ => True) (fun _ U o U' => ∃ v L, o = .returned v ∧ Q0 Z aa b0 c0 d0 ff h0 n0 v U'.heap L ∧ FrameEnd U o U' L room_1.cells room_1.slots) := by
  refine MetFree.of_bodySF (plainFor_of_name pn_0) hisR ?_
  intro p e s m args below meth c s₁ Bd hml0 hP hK
  obtain ⟨rfl, hZ, hh⟩ := hP
  have hx := Bd.exec
  have hby := Bd.bytes
  have hml : c.maxLocals = 24 := hml0
  have hown : s.vm.findClass "com/example/water_clock/waterclock/SubWindowCountsIndexPinLaw" = some m.cls := findClass_of_methodNamed Bd.named
  have hnm := (name_of_methodNamed Bd.named Bd.method).1
  have X0 : Stand p l e room_1 s m #[(.long aa), (.long b0), (.long c0), (.long d0), (.int ff)] below meth c s₁ [] 0 0 := Stand.of_body Bd
  have e0 : s₁.heap = h0 := by rw [← hh, Bd.state]; rfl
  have N0 := Fr.nil n0
  show own_Go p.tables e below (P0 Z aa b0 c0 d0 ff h0 n0 s) (s₁.setTop (entryFrame m #[(.long aa), (.long b0), (.long c0), (.long d0), (.int ff)] maxLocals))
  refine own_by (T' := s₁.setTop (mkF m 0 #[.val (.long aa), .second, .val (.long b0), .second, .val (.long c0), .second, .val (.long d0), .second, .val (.int ff), .unset, .unset, .unset, .unset, .unset, .unset, .unset, .unset, .unset, .unset, .unset, .unset, .unset, .unset, .unset] [])) (fun t k => castTop (ef_0 m aa b0 c0 d0 ff) k) ?_
  show own_Go _ _ _ _ (s₁.setTop (mkF m 0 #[.val (.long aa), .second, .val (.long b0), .second, .val (.long c0), .second, .val (.long d0), .second, .val (.int ff), .unset, .unset, .unset, .unset, .unset, .unset, .unset, .unset, .unset, .unset, .unset, .unset, .unset, .unset, .unset] []))
  refine own_by (fun t k => XS.lloadN X0.here hx rfl (hb hby at_0) rfl k) ?_
  show own_Go _ _ _ _ (s₁.setTop (mkF m 1 #[.val (.long aa), .second, .val (.long b0), .second, .val (.long c0), .second, .val (.long d0), .second, .val (.int ff), .unset, .unset, .unset, .unset, .unset, .unset, .unset, .unset, .unset, .unset, .unset, .unset, .unset, .unset, .unset] [(.long aa)]))
  refine own_by (fun t k => XS.lstore X0.here hx rfl (hb hby at_1) rfl (l' := #[.val (.long aa), .second, .val (.long b0), .second, .val (.long c0), .second, .val (.long d0), .second, .val (.int ff), .val (.long aa), .second, .unset, .unset, .unset, .unset, .unset, .unset, .unset, .unset, .unset, .unset, .unset, .unset, .unset]) rfl k) ?_
  show own_Go _ _ _ _ (s₁.setTop (mkF m 3 #[.val (.long aa), .second, .val (.long b0), .second, .val (.long c0), .second, .val (.long d0), .second, .val (.int ff), .val (.long aa), .second, .unset, .unset, .unset, .unset, .unset, .unset, .unset, .unset, .unset, .unset, .unset, .unset, .unset] []))
  have J16 : ∀ bb : Int64, True → own_Go p.tables e below (P0 Z aa b0 c0 d0 ff h0 n0 s) (s₁.setTop (mkF m 16 #[.val (.long aa), .second, .val (.long b0), .second, .val (.long c0), .second, .val (.long d0), .second, .val (.int ff), .val (.long aa), .second, .unset, .unset, .unset, .unset, .unset, .unset, .unset, .unset, .unset, .unset, .unset, .unset, .unset] [(.long bb)])) := by
    intro bb _
    show own_Go _ _ _ _ (s₁.setTop (mkF m 16 #[.val (.long aa), .second, .val (.long b0), .second, .val (.long c0), .second, .val (.long d0), .second, .val (.int ff), .val (.long aa), .second, .unset, .unset, .unset, .unset, .unset, .unset, .unset, .unset, .unset, .unset, .unset, .unset, .unset] [(.long bb)]))
    refine own_by (fun t k => XS.lstore X0.here hx rfl (hb hby at_16) rfl (l' := #[.val (.long aa), .second, .val (.long b0), .second, .val (.long c0), .second, .val (.long d0), .second, .val (.int ff), .val (.long aa), .second, .val (.long bb), .second, .unset, .unset, .unset, .unset, .unset, .unset, .unset, .unset, .unset, .unset, .unset]) rfl k) ?_
    show own_Go _ _ _ _ (s₁.setTop (mkF m 18 #[.val (.long aa), .second, .val (.long b0), .second, .val (.long c0), .second, .val (.long d0), .second, .val (.int ff), .val (.long aa), .second, .val (.long bb), .second, .unset, .unset, .unset, .unset, .unset, .unset, .unset, .unset, .unset, .unset, .unset] []))
    have J44 : ∀ cc : Int64, True → own_Go p.tables e below (P0 Z aa b0 c0 d0 ff h0 n0 s) (s₁.setTop (mkF m 44 #[.val (.long aa), .second, .val (.long b0), .second, .val (.long c0), .second, .val (.long d0), .second, .val (.int ff), .val (.long aa), .second, .val (.long bb), .second, .unset, .unset, .unset, .unset, .unset, .unset, .unset, .unset, .unset, .unset, .unset] [(.long cc)])) := by
      intro cc _
      show own_Go _ _ _ _ (s₁.setTop (mkF m 44 #[.val (.long aa), .second, .val (.long b0), .second, .val (.long c0), .second, .val (.long d0), .second, .val (.int ff), .val (.long aa), .second, .val (.long bb), .second, .unset, .unset, .unset, .unset, .unset, .unset, .unset, .unset, .unset, .unset, .unset] [(.long cc)]))
      refine own_by (fun t k => XS.lstore X0.here hx rfl (hb hby at_44) rfl (l' := #[.val (.long aa), .second, .val (.long b0), .second, .val (.long c0), .second, .val (.long d0), .second, .val (.int ff), .val (.long aa), .second, .val (.long bb), .second, .val (.long cc), .second, .unset, .unset, .unset, .unset, .unset, .unset, .unset, .unset, .unset]) rfl k) ?_
      show own_Go _ _ _ _ (s₁.setTop (mkF m 46 #[.val (.long aa), .second, .val (.long b0), .second, .val (.long c0), .second, .val (.long d0), .second, .val (.int ff), .val (.long aa), .second, .val (.long bb), .second, .val (.long cc), .second, .unset, .unset, .unset, .unset, .unset, .unset, .unset, .unset, .unset] []))
      have J74 : ∀ dd : Int64, True → own_Go p.tables e below (P0 Z aa b0 c0 d0 ff h0 n0 s) (s₁.setTop (mkF m 74 #[.val (.long aa), .second, .val (.long b0), .second, .val (.long c0), .second, .val (.long d0), .second, .val (.int ff), .val (.long aa), .second, .val (.long bb), .second, .val (.long cc), .second, .unset, .unset, .unset, .unset, .unset, .unset, .unset, .unset, .unset] [(.long dd)])) := by
        intro dd _
        show own_Go _ _ _ _ (s₁.setTop (mkF m 74 #[.val (.long aa), .second, .val (.long b0), .second, .val (.long c0), .second, .val (.long d0), .second, .val (.int ff), .val (.long aa), .second, .val (.long bb), .second, .val (.long cc), .second, .unset, .unset, .unset, .unset, .unset, .unset, .unset, .unset, .unset] [(.long dd)]))
        refine own_by (fun t k => XS.lstore X0.here hx rfl (hb hby at_74) rfl (l' := #[.val (.long aa), .second, .val (.long b0), .second, .val (.long c0), .second, .val (.long d0), .second, .val (.int ff), .val (.long aa), .second, .val (.long bb), .second, .val (.long cc), .second, .val (.long dd), .second, .unset, .unset, .unset, .unset, .unset, .unset, .unset]) rfl k) ?_
        show own_Go _ _ _ _ (s₁.setTop (mkF m 76 #[.val (.long aa), .second, .val (.long b0), .second, .val (.long c0), .second, .val (.long d0), .second, .val (.int ff), .val (.long aa), .second, .val (.long bb), .second, .val (.long cc), .second, .val (.long dd), .second, .unset, .unset, .unset, .unset, .unset, .unset, .unset] []))
        refine own_by (fun t k => XS.iconst X0.here hx rfl (hb hby at_76) k) ?_
        show own_Go _ _ _ _ (s₁.setTop (mkF m 77 #[.val (.long aa), .second, .val (.long b0), .second, .val (.long c0), .second, .val (.long d0), .second, .val (.int ff), .val (.long aa), .second, .val (.long bb), .second, .val (.long cc), .second, .val (.long dd), .second, .unset, .unset, .unset, .unset, .unset, .unset, .unset] [(.int (3 : Int32))]))
        obtain ⟨Ta0_1, ha0_1, ka0_1, Xa0_1, ea0_1, Ea0_1, Aa0_1, sta0_1⟩ := newP X0 hx hZ (hw _ (List.mem_of_getElem? (i := 0) rfl)) e0 (g := (mkF m 77 #[.val (.long aa), .second, .val (.long b0), .second, .val (.long c0), .second, .val (.long d0), .second, .val (.int ff), .val (.long aa), .second, .val (.long bb), .second, .val (.long cc), .second, .val (.long dd), .second, .unset, .unset, .unset, .unset, .unset, .unset, .unset] [(.int (3 : Int32))])) rfl (hb hby at_77) rfl (by decide) (cap := 3) (by decide) (by decide) (by decide) (by decide)
        obtain ⟨vv, q_vv⟩ : ∃ z, z = h0.size := ⟨_, rfl⟩
        rw [← q_vv] at Aa0_1 sta0_1
        have g_vv : n0 ≤ vv := Nat.le_trans Z0 (Nat.le_of_eq q_vv.symm)
        have Zs_a0_1 : n0 ≤ ha0_1.size := Nat.le_trans Z0 Ea0_1.1
        have V_vv := own_new Aa0_1 (by decide)
        refine own_by (fun t k => sta0_1 t k) ?_
        replace V_vv : own_Ar Z ha0_1 vv .long 3 (fun k => .long ((fun _ => (0 : Int64)) k)) := V_vv
        show own_Go _ _ _ _ (Ta0_1.setTop (mkF m 79 #[.val (.long aa), .second, .val (.long b0), .second, .val (.long c0), .second, .val (.long d0), .second, .val (.int ff), .val (.long aa), .second, .val (.long bb), .second, .val (.long cc), .second, .val (.long dd), .second, .unset, .unset, .unset, .unset, .unset, .unset, .unset] [(.ref vv)]))
        have J244 : ∀ (T1 : State) (h1 : Heap) (lo1 : List Loc) (X1 : Stand p l e room_1 s m #[(.long aa), (.long b0), (.long c0), (.long d0), (.int ff)] below meth c T1 lo1 1 3) (q1 : T1.heap = h1) (N1 : Fr n0 lo1) (Zs1 : n0 ≤ h1.size) (mm : Nat) (gg : Nat → Int64) (i19 i20 i21 : Int32), 1 ≤ mm → mm ≤ 3 → own_Inc gg 0 mm → (∀ yy, own_Mem gg 0 mm yy ↔ ((yy = aa ∧ ¬ aa < dd) ∨ (yy = bb ∧ ¬ bb < dd)) ∨ yy = cc) → own_Ar Z h1 vv .long 3 (fun k => .long (gg k)) → own_Go p.tables e below (P0 Z aa b0 c0 d0 ff h0 n0 s) (T1.setTop (mkF m 244 #[.val (.long aa), .second, .val (.long b0), .second, .val (.long c0), .second, .val (.long d0), .second, .val (.int ff), .val (.long aa), .second, .val (.long bb), .second, .val (.long cc), .second, .val (.long dd), .second, .val (.ref vv), .val (.int (Int32.ofNat mm)), .val (.int i19), .val (.int i20), .val (.int i21), .unset, .unset] [])) := by
          intro T1 h1 lo1 X1 q1 N1 Zs1 mm gg i19 i20 i21 hm1 hm3 hgi hgm V_vv
          show own_Go _ _ _ _ (T1.setTop (mkF m 244 #[.val (.long aa), .second, .val (.long b0), .second, .val (.long c0), .second, .val (.long d0), .second, .val (.int ff), .val (.long aa), .second, .val (.long bb), .second, .val (.long cc), .second, .val (.long dd), .second, .val (.ref vv), .val (.int (Int32.ofNat mm)), .val (.int i19), .val (.int i20), .val (.int i21), .unset, .unset] []))
          obtain ⟨To0_2, ho0_2, Xo0_2, eo0_2, Eo0_2, Ao0_2, Do0_2, -, sto0_2⟩ := newO X1 hx hZ hown (hw _ (List.mem_of_getElem? (i := 1) rfl)) (hw _ (List.mem_of_getElem? (i := 2) rfl)) (hw _ (List.mem_of_getElem? (i := 3) rfl)) q1 (g := (mkF m 244 #[.val (.long aa), .second, .val (.long b0), .second, .val (.long c0), .second, .val (.long d0), .second, .val (.int ff), .val (.long aa), .second, .val (.long bb), .second, .val (.long cc), .second, .val (.long dd), .second, .val (.ref vv), .val (.int (Int32.ofNat mm)), .val (.int i19), .val (.int i20), .val (.int i21), .unset, .unset] [])) rfl (hb hby at_244) (by decide) (by decide)
          obtain ⟨so, q_so⟩ : ∃ z, z = h1.size := ⟨_, rfl⟩
          rw [← q_so] at Ao0_2 Do0_2 sto0_2
          have g_so : n0 ≤ so := Nat.le_trans Zs1 (Nat.le_of_eq q_so.symm)
          have Zs_o0_2 : n0 ≤ ho0_2.size := Nat.le_trans Zs1 Eo0_2.1
          have ne_vv_so : vv ≠ so := Nat.ne_of_lt (Nat.lt_of_lt_of_le V_vv.lt (Nat.le_of_eq q_so.symm))
          replace V_vv := V_vv.ext Eo0_2
          have E_so := Ao0_2
          have F_indices_so : Fld Z ho0_2 so "com/example/water_clock/waterclock/SubWindowCounts" "indices" "[J" .null := Do0_2 (Or.inl (hw _ (List.mem_of_getElem? (i := 11) rfl))) (ty := (.array .long)) (by decide)
          have F_counts_so : Fld Z ho0_2 so "com/example/water_clock/waterclock/SubWindowCounts" "counts" "[I" .null := Do0_2 (Or.inl (hw _ (List.mem_of_getElem? (i := 14) rfl))) (ty := (.array .int)) (by decide)
          have F_end_so : Fld Z ho0_2 so "com/example/water_clock/waterclock/SubWindowCounts" "end" "I" (.int (0 : Int32)) := Do0_2 (Or.inl (hw _ (List.mem_of_getElem? (i := 21) rfl))) (ty := .int) (by decide)
          have F_first_so : Fld Z ho0_2 so "com/example/water_clock/waterclock/SubWindowCounts" "first" "I" (.int (0 : Int32)) := Do0_2 (Or.inl (hw _ (List.mem_of_getElem? (i := 23) rfl))) (ty := .int) (by decide)
          have F_total_so : Fld Z ho0_2 so "com/example/water_clock/waterclock/SubWindowCounts" "total" "J" (.long (0 : Int64)) := Do0_2 (Or.inl (hw _ (List.mem_of_getElem? (i := 33) rfl))) (ty := .long) (by decide)
          refine own_by (fun t k => sto0_2 t k) ?_
          show own_Go _ _ _ _ (To0_2.setTop (mkF m 247 #[.val (.long aa), .second, .val (.long b0), .second, .val (.long c0), .second, .val (.long d0), .second, .val (.int ff), .val (.long aa), .second, .val (.long bb), .second, .val (.long cc), .second, .val (.long dd), .second, .val (.ref vv), .val (.int (Int32.ofNat mm)), .val (.int i19), .val (.int i20), .val (.int i21), .unset, .unset] [(.ref so)]))
          refine own_by (fun t k => XS.dup Xo0_2.here hx rfl (hb hby at_247) rfl rfl k) ?_
          show own_Go _ _ _ _ (To0_2.setTop (mkF m 248 #[.val (.long aa), .second, .val (.long b0), .second, .val (.long c0), .second, .val (.long d0), .second, .val (.int ff), .val (.long aa), .second, .val (.long bb), .second, .val (.long cc), .second, .val (.long dd), .second, .val (.ref vv), .val (.int (Int32.ofNat mm)), .val (.int i19), .val (.int i20), .val (.int i21), .unset, .unset] [(.ref so), (.ref so)]))
          obtain ⟨_, _, ⟨Tc0_3, Lc0_3, kc0_3, nc0_3⟩, -, Xc0_3, ⟨Lcc0_3, hQc0_3, lc0_3, yc0_3, zc0_3⟩, stc0_3⟩ := Xo0_2.specialBack hx (y := (⟨"com/example/water_clock/waterclock/SubWindowCounts", "<init>", "()V"⟩ : MethodName)) rfl hown (mvT hZ (hw _ (List.mem_of_getElem? (i := 4) rfl))) (mvT hZ (hw _ (List.mem_of_getElem? (i := 5) rfl))) (mvT hZ (hw _ (List.mem_of_getElem? (i := 6) rfl))) (by decide) (backOf (W := 1) (rm1 l Z a0 hw [] so  ho0_2 n0 Zs_o0_2 E_so F_indices_so F_counts_so F_first_so F_end_so F_total_so g_so) hZ (hw _ (List.mem_of_getElem? (i := 6) rfl)) (hw _ (List.mem_of_getElem? (i := 3) rfl)) (by decide) (by decide)) (g := (mkF m 248 #[.val (.long aa), .second, .val (.long b0), .second, .val (.long c0), .second, .val (.long d0), .second, .val (.int ff), .val (.long aa), .second, .val (.long bb), .second, .val (.long cc), .second, .val (.long dd), .second, .val (.ref vv), .val (.int (Int32.ofNat mm)), .val (.int i19), .val (.int i20), .val (.int i21), .unset, .unset] [(.ref so), (.ref so)])) rfl (by rw [hml]; rfl) (Steps.refl _) (a := so) (argsL := []) (rest := [(.ref so)]) (lenOf pd_0_0 rfl) rfl (by show 2 * 0 + _ ≤ _; exact Nat.le_of_eq rfl) (hb hby at_248) (fun _ _ => ⟨rfl, eo0_2, (by decide : 2 + 2 ≤ _), (by decide : 8 + 8 ≤ _)⟩)
          dsimp only [Pt.U, Pt.locs, Pt.cells, Pt.slots] at Xc0_3 lc0_3 yc0_3 zc0_3 stc0_3 hQc0_3
          subst lc0_3 yc0_3 zc0_3
          obtain ⟨ia, ca, rfl, Nc0_3q, Kc0_3, zia, zca, SA⟩ := hQc0_3
          have Nc0_3 := Fr.app N1 Nc0_3q
          have ne_vv_ia : vv ≠ ia := Nat.ne_of_lt (Nat.lt_of_lt_of_le V_vv.lt zia)
          have ne_vv_ca : vv ≠ ca := Nat.ne_of_lt (Nat.lt_of_lt_of_le V_vv.lt zca)
          replace V_vv := V_vv.keep Kc0_3 (ninS ne_vv_so nin0)
          have Zs_c0_3 : n0 ≤ Tc0_3.heap.size := Nat.le_trans Zs_o0_2 Kc0_3.1
          refine own_by (fun t k => stc0_3.trans k) ?_
          show own_Go _ _ _ _ (Tc0_3.setTop (mkF m 251 #[.val (.long aa), .second, .val (.long b0), .second, .val (.long c0), .second, .val (.long d0), .second, .val (.int ff), .val (.long aa), .second, .val (.long bb), .second, .val (.long cc), .second, .val (.long dd), .second, .val (.ref vv), .val (.int (Int32.ofNat mm)), .val (.int i19), .val (.int i20), .val (.int i21), .unset, .unset] [(.ref so)]))
          refine own_by (fun t k => XS.astore Xc0_3.here hx rfl (hb hby at_251) rfl rfl (l' := #[.val (.long aa), .second, .val (.long b0), .second, .val (.long c0), .second, .val (.long d0), .second, .val (.int ff), .val (.long aa), .second, .val (.long bb), .second, .val (.long cc), .second, .val (.long dd), .second, .val (.ref vv), .val (.int (Int32.ofNat mm)), .val (.int i19), .val (.int i20), .val (.int i21), .val (.ref so), .unset]) rfl k) ?_
          show own_Go _ _ _ _ (Tc0_3.setTop (mkF m 253 #[.val (.long aa), .second, .val (.long b0), .second, .val (.long c0), .second, .val (.long d0), .second, .val (.int ff), .val (.long aa), .second, .val (.long bb), .second, .val (.long cc), .second, .val (.long dd), .second, .val (.ref vv), .val (.int (Int32.ofNat mm)), .val (.int i19), .val (.int i20), .val (.int i21), .val (.ref so), .unset] []))
          refine own_by (fun t k => XS.aload Xc0_3.here hx rfl (hb hby at_253) rfl rfl k) ?_
          show own_Go _ _ _ _ (Tc0_3.setTop (mkF m 255 #[.val (.long aa), .second, .val (.long b0), .second, .val (.long c0), .second, .val (.long d0), .second, .val (.int ff), .val (.long aa), .second, .val (.long bb), .second, .val (.long cc), .second, .val (.long dd), .second, .val (.ref vv), .val (.int (Int32.ofNat mm)), .val (.int i19), .val (.int i20), .val (.int i21), .val (.ref so), .unset] [(.ref so)]))
          refine own_by (fun t k => XS.lload Xc0_3.here hx rfl (hb hby at_255) rfl k) ?_
          show own_Go _ _ _ _ (Tc0_3.setTop (mkF m 257 #[.val (.long aa), .second, .val (.long b0), .second, .val (.long c0), .second, .val (.long d0), .second, .val (.int ff), .val (.long aa), .second, .val (.long bb), .second, .val (.long cc), .second, .val (.long dd), .second, .val (.ref vv), .val (.int (Int32.ofNat mm)), .val (.int i19), .val (.int i20), .val (.int i21), .val (.ref so), .unset] [(.long aa), (.ref so)]))
          refine own_by (fun t k => XS.iconst Xc0_3.here hx rfl (hb hby at_257) k) ?_
          have E_so := SA.1
          show own_Go _ _ _ _ (Tc0_3.setTop (mkF m 258 #[.val (.long aa), .second, .val (.long b0), .second, .val (.long c0), .second, .val (.long d0), .second, .val (.int ff), .val (.long aa), .second, .val (.long bb), .second, .val (.long cc), .second, .val (.long dd), .second, .val (.ref vv), .val (.int (Int32.ofNat mm)), .val (.int i19), .val (.int i20), .val (.int i21), .val (.ref so), .unset] [(.int (1 : Int32)), (.long aa), (.ref so)]))
          obtain ⟨cqc0_4, kqc0_4, qc0_4a, qc0_4b, qc0_4c⟩ := isOf hZ rfl E_so
          obtain ⟨_, _, ⟨Tc0_4, Lc0_4, kc0_4, nc0_4⟩, -, Xc0_4, ⟨Lcc0_4, hQc0_4, lc0_4, yc0_4, zc0_4⟩, stc0_4⟩ := Xc0_3.virtualBack hx (y := (⟨"com/example/water_clock/waterclock/SubWindowCounts", "add", "(JI)V"⟩ : MethodName)) (z := (⟨"com/example/water_clock/waterclock/SubWindowCounts", "add", "(JI)V"⟩ : MethodName)) hown (mvT hZ (hw _ (List.mem_of_getElem? (i := 15) rfl))) (mvT hZ (hw _ (List.mem_of_getElem? (i := 16) rfl))) (notFace_of_selects (args := #[]) (mvT hZ (hw _ (List.mem_of_getElem? (i := 18) rfl)))) (mvT hZ (hw _ (List.mem_of_getElem? (i := 18) rfl))) (mvT hZ (hw _ (List.mem_of_getElem? (i := 17) rfl))) (by decide) (backOf (W := 0) (rm3 l Z a0 hw [] so aa (1 : Int32) ia ca 0 0 0 (fun _ => 0) (fun _ => 0) Tc0_3.heap n0 Zs_c0_3 SA (Nat.le_refl _) (by omega) (fun j k _ _ q => absurd q (Nat.not_lt_zero _))) hZ (hw _ (List.mem_of_getElem? (i := 19) rfl)) (hw _ (List.mem_of_getElem? (i := 3) rfl)) (by decide) (by decide)) qc0_4a qc0_4c (g := (mkF m 258 #[.val (.long aa), .second, .val (.long b0), .second, .val (.long c0), .second, .val (.long d0), .second, .val (.int ff), .val (.long aa), .second, .val (.long bb), .second, .val (.long cc), .second, .val (.long dd), .second, .val (.ref vv), .val (.int (Int32.ofNat mm)), .val (.int i19), .val (.int i20), .val (.int i21), .val (.ref so), .unset] [(.int (1 : Int32)), (.long aa), (.ref so)])) rfl (by rw [hml]; rfl) (Steps.refl _) (argsL := [(.long aa), (.int (1 : Int32))]) (rest := []) (lenOf pd_0_1 rfl) rfl (by show 2 * 0 + _ ≤ _; exact Nat.le_of_eq rfl) (hb hby at_258) (fun _ _ => ⟨rfl, rfl, (by decide : 4 + 0 ≤ _), (by decide : 16 + 0 ≤ _)⟩)
          dsimp only [Pt.U, Pt.locs, Pt.cells, Pt.slots] at Xc0_4 lc0_4 yc0_4 zc0_4 stc0_4 hQc0_4
          subst lc0_4 yc0_4 zc0_4
          obtain ⟨rfl, Nc0_4q, Kc0_4, e1, t1, I1, C1, a1, a2, a3, a4, SB⟩ := hQc0_4
          have Nc0_4 := Fr.app Nc0_3 Nc0_4q
          replace V_vv := V_vv.keep Kc0_4 (ninS ne_vv_so (ninS ne_vv_ia (ninS ne_vv_ca nin0)))
          have Zs_c0_4 : n0 ≤ Tc0_4.heap.size := Nat.le_trans Zs_c0_3 Kc0_4.1
          refine own_by (fun t k => stc0_4.trans k) ?_
          show own_Go _ _ _ _ (Tc0_4.setTop (mkF m 261 #[.val (.long aa), .second, .val (.long b0), .second, .val (.long c0), .second, .val (.long d0), .second, .val (.int ff), .val (.long aa), .second, .val (.long bb), .second, .val (.long cc), .second, .val (.long dd), .second, .val (.ref vv), .val (.int (Int32.ofNat mm)), .val (.int i19), .val (.int i20), .val (.int i21), .val (.ref so), .unset] []))
          refine own_by (fun t k => XS.aload Xc0_4.here hx rfl (hb hby at_261) rfl rfl k) ?_
          show own_Go _ _ _ _ (Tc0_4.setTop (mkF m 263 #[.val (.long aa), .second, .val (.long b0), .second, .val (.long c0), .second, .val (.long d0), .second, .val (.int ff), .val (.long aa), .second, .val (.long bb), .second, .val (.long cc), .second, .val (.long dd), .second, .val (.ref vv), .val (.int (Int32.ofNat mm)), .val (.int i19), .val (.int i20), .val (.int i21), .val (.ref so), .unset] [(.ref so)]))
          refine own_by (fun t k => XS.lload Xc0_4.here hx rfl (hb hby at_263) rfl k) ?_
          show own_Go _ _ _ _ (Tc0_4.setTop (mkF m 265 #[.val (.long aa), .second, .val (.long b0), .second, .val (.long c0), .second, .val (.long d0), .second, .val (.int ff), .val (.long aa), .second, .val (.long bb), .second, .val (.long cc), .second, .val (.long dd), .second, .val (.ref vv), .val (.int (Int32.ofNat mm)), .val (.int i19), .val (.int i20), .val (.int i21), .val (.ref so), .unset] [(.long bb), (.ref so)]))
          refine own_by (fun t k => XS.iconst Xc0_4.here hx rfl (hb hby at_265) k) ?_
          have E_so := SB.1
          show own_Go _ _ _ _ (Tc0_4.setTop (mkF m 266 #[.val (.long aa), .second, .val (.long b0), .second, .val (.long c0), .second, .val (.long d0), .second, .val (.int ff), .val (.long aa), .second, .val (.long bb), .second, .val (.long cc), .second, .val (.long dd), .second, .val (.ref vv), .val (.int (Int32.ofNat mm)), .val (.int i19), .val (.int i20), .val (.int i21), .val (.ref so), .unset] [(.int (1 : Int32)), (.long bb), (.ref so)]))
          obtain ⟨cqc0_5, kqc0_5, qc0_5a, qc0_5b, qc0_5c⟩ := isOf hZ rfl E_so
          obtain ⟨_, _, ⟨Tc0_5, Lc0_5, kc0_5, nc0_5⟩, -, Xc0_5, ⟨Lcc0_5, hQc0_5, lc0_5, yc0_5, zc0_5⟩, stc0_5⟩ := Xc0_4.virtualBack hx (y := (⟨"com/example/water_clock/waterclock/SubWindowCounts", "add", "(JI)V"⟩ : MethodName)) (z := (⟨"com/example/water_clock/waterclock/SubWindowCounts", "add", "(JI)V"⟩ : MethodName)) hown (mvT hZ (hw _ (List.mem_of_getElem? (i := 15) rfl))) (mvT hZ (hw _ (List.mem_of_getElem? (i := 16) rfl))) (notFace_of_selects (args := #[]) (mvT hZ (hw _ (List.mem_of_getElem? (i := 18) rfl)))) (mvT hZ (hw _ (List.mem_of_getElem? (i := 18) rfl))) (mvT hZ (hw _ (List.mem_of_getElem? (i := 17) rfl))) (by decide) (backOf (W := 0) (rm3 l Z a0 hw [] so bb (1 : Int32) ia ca 0 e1 t1 I1 C1 Tc0_4.heap n0 Zs_c0_4 SB a1 (by omega) a3) hZ (hw _ (List.mem_of_getElem? (i := 19) rfl)) (hw _ (List.mem_of_getElem? (i := 3) rfl)) (by decide) (by decide)) qc0_5a qc0_5c (g := (mkF m 266 #[.val (.long aa), .second, .val (.long b0), .second, .val (.long c0), .second, .val (.long d0), .second, .val (.int ff), .val (.long aa), .second, .val (.long bb), .second, .val (.long cc), .second, .val (.long dd), .second, .val (.ref vv), .val (.int (Int32.ofNat mm)), .val (.int i19), .val (.int i20), .val (.int i21), .val (.ref so), .unset] [(.int (1 : Int32)), (.long bb), (.ref so)])) rfl (by rw [hml]; rfl) (Steps.refl _) (argsL := [(.long bb), (.int (1 : Int32))]) (rest := []) (lenOf pd_0_1 rfl) rfl (by show 2 * 0 + _ ≤ _; exact Nat.le_of_eq rfl) (hb hby at_266) (fun _ _ => ⟨rfl, rfl, (by decide : 4 + 0 ≤ _), (by decide : 16 + 0 ≤ _)⟩)
          dsimp only [Pt.U, Pt.locs, Pt.cells, Pt.slots] at Xc0_5 lc0_5 yc0_5 zc0_5 stc0_5 hQc0_5
          subst lc0_5 yc0_5 zc0_5
          obtain ⟨rfl, Nc0_5q, Kc0_5, e2, t2, I2, C2, b1, b2, b3, b4, SC⟩ := hQc0_5
          have Nc0_5 := Fr.app Nc0_4 Nc0_5q
          replace V_vv := V_vv.keep Kc0_5 (ninS ne_vv_so (ninS ne_vv_ia (ninS ne_vv_ca nin0)))
          have Zs_c0_5 : n0 ≤ Tc0_5.heap.size := Nat.le_trans Zs_c0_4 Kc0_5.1
          refine own_by (fun t k => stc0_5.trans k) ?_
          show own_Go _ _ _ _ (Tc0_5.setTop (mkF m 269 #[.val (.long aa), .second, .val (.long b0), .second, .val (.long c0), .second, .val (.long d0), .second, .val (.int ff), .val (.long aa), .second, .val (.long bb), .second, .val (.long cc), .second, .val (.long dd), .second, .val (.ref vv), .val (.int (Int32.ofNat mm)), .val (.int i19), .val (.int i20), .val (.int i21), .val (.ref so), .unset] []))
          refine own_by (fun t k => XS.aload Xc0_5.here hx rfl (hb hby at_269) rfl rfl k) ?_
          show own_Go _ _ _ _ (Tc0_5.setTop (mkF m 271 #[.val (.long aa), .second, .val (.long b0), .second, .val (.long c0), .second, .val (.long d0), .second, .val (.int ff), .val (.long aa), .second, .val (.long bb), .second, .val (.long cc), .second, .val (.long dd), .second, .val (.ref vv), .val (.int (Int32.ofNat mm)), .val (.int i19), .val (.int i20), .val (.int i21), .val (.ref so), .unset] [(.ref so)]))
          refine own_by (fun t k => XS.lload Xc0_5.here hx rfl (hb hby at_271) rfl k) ?_
          have E_so := SC.1
          show own_Go _ _ _ _ (Tc0_5.setTop (mkF m 273 #[.val (.long aa), .second, .val (.long b0), .second, .val (.long c0), .second, .val (.long d0), .second, .val (.int ff), .val (.long aa), .second, .val (.long bb), .second, .val (.long cc), .second, .val (.long dd), .second, .val (.ref vv), .val (.int (Int32.ofNat mm)), .val (.int i19), .val (.int i20), .val (.int i21), .val (.ref so), .unset] [(.long dd), (.ref so)]))
          obtain ⟨cqc0_6, kqc0_6, qc0_6a, qc0_6b, qc0_6c⟩ := isOf hZ rfl E_so
          obtain ⟨_, _, ⟨Tc0_6, Lc0_6, kc0_6, nc0_6⟩, -, Xc0_6, ⟨Lcc0_6, hQc0_6, lc0_6, yc0_6, zc0_6⟩, stc0_6⟩ := Xc0_5.virtualBack hx (y := (⟨"com/example/water_clock/waterclock/SubWindowCounts", "dropBelow", "(J)V"⟩ : MethodName)) (z := (⟨"com/example/water_clock/waterclock/SubWindowCounts", "dropBelow", "(J)V"⟩ : MethodName)) hown (mvT hZ (hw _ (List.mem_of_getElem? (i := 34) rfl))) (mvT hZ (hw _ (List.mem_of_getElem? (i := 35) rfl))) (notFace_of_selects (args := #[]) (mvT hZ (hw _ (List.mem_of_getElem? (i := 37) rfl)))) (mvT hZ (hw _ (List.mem_of_getElem? (i := 37) rfl))) (mvT hZ (hw _ (List.mem_of_getElem? (i := 36) rfl))) (by decide) (backOf (W := 0) (rm5 l Z a0 hw [] so dd ia ca 0 e2 t2 I2 C2 Tc0_5.heap n0 Zs_c0_5 SC (by omega) (by omega)) hZ (hw _ (List.mem_of_getElem? (i := 38) rfl)) (hw _ (List.mem_of_getElem? (i := 3) rfl)) (by decide) (by decide)) qc0_6a qc0_6c (g := (mkF m 273 #[.val (.long aa), .second, .val (.long b0), .second, .val (.long c0), .second, .val (.long d0), .second, .val (.int ff), .val (.long aa), .second, .val (.long bb), .second, .val (.long cc), .second, .val (.long dd), .second, .val (.ref vv), .val (.int (Int32.ofNat mm)), .val (.int i19), .val (.int i20), .val (.int i21), .val (.ref so), .unset] [(.long dd), (.ref so)])) rfl (by rw [hml]; rfl) (Steps.refl _) (argsL := [(.long dd)]) (rest := []) (lenOf pd_0_2 rfl) rfl (by show 2 * 0 + _ ≤ _; exact Nat.le_of_eq rfl) (hb hby at_273) (fun _ _ => ⟨rfl, rfl, (by decide : 4 + 0 ≤ _), (by decide : 16 + 0 ≤ _)⟩)
          dsimp only [Pt.U, Pt.locs, Pt.cells, Pt.slots] at Xc0_6 lc0_6 yc0_6 zc0_6 stc0_6 hQc0_6
          subst lc0_6 yc0_6 zc0_6
          obtain ⟨rfl, Nc0_6q, Kc0_6, f3, t3, d1, d2, d3, d4, SD⟩ := hQc0_6
          have Nc0_6 := Fr.app Nc0_5 Nc0_6q
          replace V_vv := V_vv.keep Kc0_6 (ninS ne_vv_so nin0)
          have Zs_c0_6 : n0 ≤ Tc0_6.heap.size := Nat.le_trans Zs_c0_5 Kc0_6.1
          refine own_by (fun t k => stc0_6.trans k) ?_
          show own_Go _ _ _ _ (Tc0_6.setTop (mkF m 276 #[.val (.long aa), .second, .val (.long b0), .second, .val (.long c0), .second, .val (.long d0), .second, .val (.int ff), .val (.long aa), .second, .val (.long bb), .second, .val (.long cc), .second, .val (.long dd), .second, .val (.ref vv), .val (.int (Int32.ofNat mm)), .val (.int i19), .val (.int i20), .val (.int i21), .val (.ref so), .unset] []))
          refine own_by (fun t k => XS.aload Xc0_6.here hx rfl (hb hby at_276) rfl rfl k) ?_
          show own_Go _ _ _ _ (Tc0_6.setTop (mkF m 278 #[.val (.long aa), .second, .val (.long b0), .second, .val (.long c0), .second, .val (.long d0), .second, .val (.int ff), .val (.long aa), .second, .val (.long bb), .second, .val (.long cc), .second, .val (.long dd), .second, .val (.ref vv), .val (.int (Int32.ofNat mm)), .val (.int i19), .val (.int i20), .val (.int i21), .val (.ref so), .unset] [(.ref so)]))
          refine own_by (fun t k => XS.lload Xc0_6.here hx rfl (hb hby at_278) rfl k) ?_
          show own_Go _ _ _ _ (Tc0_6.setTop (mkF m 280 #[.val (.long aa), .second, .val (.long b0), .second, .val (.long c0), .second, .val (.long d0), .second, .val (.int ff), .val (.long aa), .second, .val (.long bb), .second, .val (.long cc), .second, .val (.long dd), .second, .val (.ref vv), .val (.int (Int32.ofNat mm)), .val (.int i19), .val (.int i20), .val (.int i21), .val (.ref so), .unset] [(.long cc), (.ref so)]))
          refine own_by (fun t k => XS.iconst Xc0_6.here hx rfl (hb hby at_280) k) ?_
          have E_so := SD.1
          show own_Go _ _ _ _ (Tc0_6.setTop (mkF m 281 #[.val (.long aa), .second, .val (.long b0), .second, .val (.long c0), .second, .val (.long d0), .second, .val (.int ff), .val (.long aa), .second, .val (.long bb), .second, .val (.long cc), .second, .val (.long dd), .second, .val (.ref vv), .val (.int (Int32.ofNat mm)), .val (.int i19), .val (.int i20), .val (.int i21), .val (.ref so), .unset] [(.int (1 : Int32)), (.long cc), (.ref so)]))
          obtain ⟨cqc0_7, kqc0_7, qc0_7a, qc0_7b, qc0_7c⟩ := isOf hZ rfl E_so
          obtain ⟨_, _, ⟨Tc0_7, Lc0_7, kc0_7, nc0_7⟩, -, Xc0_7, ⟨Lcc0_7, hQc0_7, lc0_7, yc0_7, zc0_7⟩, stc0_7⟩ := Xc0_6.virtualBack hx (y := (⟨"com/example/water_clock/waterclock/SubWindowCounts", "add", "(JI)V"⟩ : MethodName)) (z := (⟨"com/example/water_clock/waterclock/SubWindowCounts", "add", "(JI)V"⟩ : MethodName)) hown (mvT hZ (hw _ (List.mem_of_getElem? (i := 15) rfl))) (mvT hZ (hw _ (List.mem_of_getElem? (i := 16) rfl))) (notFace_of_selects (args := #[]) (mvT hZ (hw _ (List.mem_of_getElem? (i := 18) rfl)))) (mvT hZ (hw _ (List.mem_of_getElem? (i := 18) rfl))) (mvT hZ (hw _ (List.mem_of_getElem? (i := 17) rfl))) (by decide) (backOf (W := 0) (rm3 l Z a0 hw [] so cc (1 : Int32) ia ca f3 e2 t3 I2 C2 Tc0_6.heap n0 Zs_c0_6 SD d2 (by omega) (fun j k x y z => b3 j k (Nat.zero_le _) y z)) hZ (hw _ (List.mem_of_getElem? (i := 19) rfl)) (hw _ (List.mem_of_getElem? (i := 3) rfl)) (by decide) (by decide)) qc0_7a qc0_7c (g := (mkF m 281 #[.val (.long aa), .second, .val (.long b0), .second, .val (.long c0), .second, .val (.long d0), .second, .val (.int ff), .val (.long aa), .second, .val (.long bb), .second, .val (.long cc), .second, .val (.long dd), .second, .val (.ref vv), .val (.int (Int32.ofNat mm)), .val (.int i19), .val (.int i20), .val (.int i21), .val (.ref so), .unset] [(.int (1 : Int32)), (.long cc), (.ref so)])) rfl (by rw [hml]; rfl) (Steps.refl _) (argsL := [(.long cc), (.int (1 : Int32))]) (rest := []) (lenOf pd_0_1 rfl) rfl (by show 2 * 0 + _ ≤ _; exact Nat.le_of_eq rfl) (hb hby at_281) (fun _ _ => ⟨rfl, rfl, (by decide : 4 + 0 ≤ _), (by decide : 16 + 0 ≤ _)⟩)
          dsimp only [Pt.U, Pt.locs, Pt.cells, Pt.slots] at Xc0_7 lc0_7 yc0_7 zc0_7 stc0_7 hQc0_7
          subst lc0_7 yc0_7 zc0_7
          obtain ⟨rfl, Nc0_7q, Kc0_7, e4, t4, I4, C4, c1, c2, c3, c4, SE⟩ := hQc0_7
          have Nc0_7 := Fr.app Nc0_6 Nc0_7q
          replace V_vv := V_vv.keep Kc0_7 (ninS ne_vv_so (ninS ne_vv_ia (ninS ne_vv_ca nin0)))
          have Zs_c0_7 : n0 ≤ Tc0_7.heap.size := Nat.le_trans Zs_c0_6 Kc0_7.1
          refine own_by (fun t k => stc0_7.trans k) ?_
          show own_Go _ _ _ _ (Tc0_7.setTop (mkF m 284 #[.val (.long aa), .second, .val (.long b0), .second, .val (.long c0), .second, .val (.long d0), .second, .val (.int ff), .val (.long aa), .second, .val (.long bb), .second, .val (.long cc), .second, .val (.long dd), .second, .val (.ref vv), .val (.int (Int32.ofNat mm)), .val (.int i19), .val (.int i20), .val (.int i21), .val (.ref so), .unset] []))
          refine own_by (fun t k => XS.aload Xc0_7.here hx rfl (hb hby at_284) rfl rfl k) ?_
          obtain ⟨hen, huq⟩ := own_fin aa bb cc dd I1 I2 I4 gg e1 e2 f3 e4 mm a4 b4 (own_drop_mem I2 0 e2 f3 dd b3 (by omega) d2 d3 d4) c4 hgm c3 hgi c1
          obtain ⟨E_so, F_indices_so, F_counts_so, F_first_so, F_end_so, F_total_so, V_ia, -⟩ := SE
          show own_Go _ _ _ _ (Tc0_7.setTop (mkF m 286 #[.val (.long aa), .second, .val (.long b0), .second, .val (.long c0), .second, .val (.long d0), .second, .val (.int ff), .val (.long aa), .second, .val (.long bb), .second, .val (.long cc), .second, .val (.long dd), .second, .val (.ref vv), .val (.int (Int32.ofNat mm)), .val (.int i19), .val (.int i20), .val (.int i21), .val (.ref so), .unset] [(.ref so)]))
          obtain ⟨cqc0_8, kqc0_8, qc0_8a, qc0_8b, qc0_8c⟩ := isOf hZ rfl E_so
          obtain ⟨_, _, ⟨Tc0_8, Lc0_8, kc0_8, nc0_8⟩, -, Xc0_8, ⟨Lcc0_8, hQc0_8, lc0_8, yc0_8, zc0_8⟩, stc0_8⟩ := Xc0_7.virtualBack hx (y := (⟨"com/example/water_clock/waterclock/SubWindowCounts", "size", "()I"⟩ : MethodName)) (z := (⟨"com/example/water_clock/waterclock/SubWindowCounts", "size", "()I"⟩ : MethodName)) hown (mvT hZ (hw _ (List.mem_of_getElem? (i := 39) rfl))) (mvT hZ (hw _ (List.mem_of_getElem? (i := 40) rfl))) (notFace_of_selects (args := #[]) (mvT hZ (hw _ (List.mem_of_getElem? (i := 42) rfl)))) (mvT hZ (hw _ (List.mem_of_getElem? (i := 42) rfl))) (mvT hZ (hw _ (List.mem_of_getElem? (i := 41) rfl))) (by decide) (backOf (W := 0) (rm6 l Z a0 hw [] so f3 e4 Tc0_7.heap n0 Zs_c0_7 F_end_so F_first_so c1 (by omega)) hZ (hw _ (List.mem_of_getElem? (i := 43) rfl)) (hw _ (List.mem_of_getElem? (i := 3) rfl)) (by decide) (by decide)) qc0_8a qc0_8c (g := (mkF m 286 #[.val (.long aa), .second, .val (.long b0), .second, .val (.long c0), .second, .val (.long d0), .second, .val (.int ff), .val (.long aa), .second, .val (.long bb), .second, .val (.long cc), .second, .val (.long dd), .second, .val (.ref vv), .val (.int (Int32.ofNat mm)), .val (.int i19), .val (.int i20), .val (.int i21), .val (.ref so), .unset] [(.ref so)])) rfl (by rw [hml]; rfl) (Steps.refl _) (argsL := []) (rest := []) (lenOf pd_0_3 rfl) rfl (by show 2 * 0 + _ ≤ _; exact Nat.le_of_eq rfl) (hb hby at_286) (fun _ _ => ⟨rfl, rfl, (by decide : 4 + 0 ≤ _), (by decide : 16 + 0 ≤ _)⟩)
          dsimp only [Pt.U, Pt.locs, Pt.cells, Pt.slots] at Xc0_8 lc0_8 yc0_8 zc0_8 stc0_8 hQc0_8
          subst lc0_8 yc0_8 zc0_8
          obtain ⟨rfl, Nc0_8q, ehc0_8⟩ := hQc0_8
          have Nc0_8 := Fr.app Nc0_7 Nc0_8q
          refine own_by (fun t k => stc0_8.trans k) ?_
          show own_Go _ _ _ _ (Tc0_8.setTop (mkF m 289 #[.val (.long aa), .second, .val (.long b0), .second, .val (.long c0), .second, .val (.long d0), .second, .val (.int ff), .val (.long aa), .second, .val (.long bb), .second, .val (.long cc), .second, .val (.long dd), .second, .val (.ref vv), .val (.int (Int32.ofNat mm)), .val (.int i19), .val (.int i20), .val (.int i21), .val (.ref so), .unset] [(.int (Int32.ofNat (e4 - f3)))]))
          rw [show (Int32.ofNat (e4 - f3)) = (Int32.ofNat mm) from by rw [hen, Nat.add_sub_cancel_left]]
          show own_Go _ _ _ _ (Tc0_8.setTop (mkF m 289 #[.val (.long aa), .second, .val (.long b0), .second, .val (.long c0), .second, .val (.long d0), .second, .val (.int ff), .val (.long aa), .second, .val (.long bb), .second, .val (.long cc), .second, .val (.long dd), .second, .val (.ref vv), .val (.int (Int32.ofNat mm)), .val (.int i19), .val (.int i20), .val (.int i21), .val (.ref so), .unset] [(.int (Int32.ofNat mm))]))
          refine own_by (fun t k => XS.iload Xc0_8.here hx rfl (hb hby at_289) rfl k) ?_
          show own_Go _ _ _ _ (Tc0_8.setTop (mkF m 291 #[.val (.long aa), .second, .val (.long b0), .second, .val (.long c0), .second, .val (.long d0), .second, .val (.int ff), .val (.long aa), .second, .val (.long bb), .second, .val (.long cc), .second, .val (.long dd), .second, .val (.ref vv), .val (.int (Int32.ofNat mm)), .val (.int i19), .val (.int i20), .val (.int i21), .val (.ref so), .unset] [(.int (Int32.ofNat mm)), (.int (Int32.ofNat mm))]))
          refine own_by (fun t k => XS.icmpYes Xc0_8.here hx rfl (pc0 := 291) (pc' := 296) rfl (hb hby at_291) rfl (teq (rfl : (Int32.ofNat mm) = (Int32.ofNat mm))).1 (by decide) (by decide) k) ?_
          show own_Go _ _ _ _ (Tc0_8.setTop (mkF m 296 #[.val (.long aa), .second, .val (.long b0), .second, .val (.long c0), .second, .val (.long d0), .second, .val (.int ff), .val (.long aa), .second, .val (.long bb), .second, .val (.long cc), .second, .val (.long dd), .second, .val (.ref vv), .val (.int (Int32.ofNat mm)), .val (.int i19), .val (.int i20), .val (.int i21), .val (.ref so), .unset] []))
          rcases (show mm = 1 ∨ mm = 2 ∨ mm = 3 by omega) with rfl | rfl | rfl
          · show own_Go _ _ _ _ (Tc0_8.setTop (mkF m 296 #[.val (.long aa), .second, .val (.long b0), .second, .val (.long c0), .second, .val (.long d0), .second, .val (.int ff), .val (.long aa), .second, .val (.long bb), .second, .val (.long cc), .second, .val (.long dd), .second, .val (.ref vv), .val (.int (1 : Int32)), .val (.int i19), .val (.int i20), .val (.int i21), .val (.ref so), .unset] []))
            show own_Go _ _ _ _ (Tc0_8.setTop (mkF m 296 #[.val (.long aa), .second, .val (.long b0), .second, .val (.long c0), .second, .val (.long d0), .second, .val (.int ff), .val (.long aa), .second, .val (.long bb), .second, .val (.long cc), .second, .val (.long dd), .second, .val (.ref vv), .val (.int (1 : Int32)), .val (.int i19), .val (.int i20), .val (.int i21), .val (.ref so), .unset] []))
            refine own_by (fun t k => XS.aload Xc0_8.here hx rfl (hb hby at_296) rfl rfl k) ?_
            show own_Go _ _ _ _ (Tc0_8.setTop (mkF m 298 #[.val (.long aa), .second, .val (.long b0), .second, .val (.long c0), .second, .val (.long d0), .second, .val (.int ff), .val (.long aa), .second, .val (.long bb), .second, .val (.long cc), .second, .val (.long dd), .second, .val (.ref vv), .val (.int (1 : Int32)), .val (.int i19), .val (.int i20), .val (.int i21), .val (.ref so), .unset] [(.ref so)]))
            refine own_by (fun t k => XS.iconst Xc0_8.here hx rfl (hb hby at_298) k) ?_
            show own_Go _ _ _ _ (Tc0_8.setTop (mkF m 299 #[.val (.long aa), .second, .val (.long b0), .second, .val (.long c0), .second, .val (.long d0), .second, .val (.int ff), .val (.long aa), .second, .val (.long bb), .second, .val (.long cc), .second, .val (.long dd), .second, .val (.ref vv), .val (.int (1 : Int32)), .val (.int i19), .val (.int i20), .val (.int i21), .val (.ref so), .unset] [(.int (0 : Int32)), (.ref so)]))
            obtain ⟨cqc0_9, kqc0_9, qc0_9a, qc0_9b, qc0_9c⟩ := isOf hZ ehc0_8 E_so
            obtain ⟨_, _, ⟨Tc0_9, Lc0_9, kc0_9, nc0_9⟩, -, Xc0_9, ⟨Lcc0_9, hQc0_9, lc0_9, yc0_9, zc0_9⟩, stc0_9⟩ := Xc0_8.virtualBack hx (y := (⟨"com/example/water_clock/waterclock/SubWindowCounts", "index", "(I)J"⟩ : MethodName)) (z := (⟨"com/example/water_clock/waterclock/SubWindowCounts", "index", "(I)J"⟩ : MethodName)) hown (mvT hZ (hw _ (List.mem_of_getElem? (i := 44) rfl))) (mvT hZ (hw _ (List.mem_of_getElem? (i := 45) rfl))) (notFace_of_selects (args := #[]) (mvT hZ (hw _ (List.mem_of_getElem? (i := 47) rfl)))) (mvT hZ (hw _ (List.mem_of_getElem? (i := 47) rfl))) (mvT hZ (hw _ (List.mem_of_getElem? (i := 46) rfl))) (by decide) (backOf (W := 0) (rm7 l Z a0 hw [] so (0 : Int32) ia f3 0 I4 Tc0_7.heap n0 Zs_c0_7 F_indices_so F_first_so V_ia rfl (by omega)) hZ (hw _ (List.mem_of_getElem? (i := 48) rfl)) (hw _ (List.mem_of_getElem? (i := 3) rfl)) (by decide) (by decide)) qc0_9a qc0_9c (g := (mkF m 299 #[.val (.long aa), .second, .val (.long b0), .second, .val (.long c0), .second, .val (.long d0), .second, .val (.int ff), .val (.long aa), .second, .val (.long bb), .second, .val (.long cc), .second, .val (.long dd), .second, .val (.ref vv), .val (.int (1 : Int32)), .val (.int i19), .val (.int i20), .val (.int i21), .val (.ref so), .unset] [(.int (0 : Int32)), (.ref so)])) rfl (by rw [hml]; rfl) (Steps.refl _) (argsL := [(.int (0 : Int32))]) (rest := []) (lenOf pd_0_4 rfl) rfl (by show 2 * 0 + _ ≤ _; exact Nat.le_of_eq rfl) (hb hby at_299) (fun _ _ => ⟨rfl, ehc0_8, (by decide : 4 + 0 ≤ _), (by decide : 16 + 0 ≤ _)⟩)
            dsimp only [Pt.U, Pt.locs, Pt.cells, Pt.slots] at Xc0_9 lc0_9 yc0_9 zc0_9 stc0_9 hQc0_9
            subst lc0_9 yc0_9 zc0_9
            obtain ⟨rfl, Nc0_9q, ehc0_9⟩ := hQc0_9
            have Nc0_9 := Fr.app Nc0_8 Nc0_9q
            refine own_by (fun t k => stc0_9.trans k) ?_
            show own_Go _ _ _ _ (Tc0_9.setTop (mkF m 302 #[.val (.long aa), .second, .val (.long b0), .second, .val (.long c0), .second, .val (.long d0), .second, .val (.int ff), .val (.long aa), .second, .val (.long bb), .second, .val (.long cc), .second, .val (.long dd), .second, .val (.ref vv), .val (.int (1 : Int32)), .val (.int i19), .val (.int i20), .val (.int i21), .val (.ref so), .unset] [(.long (I4 (f3 + 0)))]))
            refine own_by (fun t k => XS.aload Xc0_9.here hx rfl (hb hby at_302) rfl rfl k) ?_
            show own_Go _ _ _ _ (Tc0_9.setTop (mkF m 304 #[.val (.long aa), .second, .val (.long b0), .second, .val (.long c0), .second, .val (.long d0), .second, .val (.int ff), .val (.long aa), .second, .val (.long bb), .second, .val (.long cc), .second, .val (.long dd), .second, .val (.ref vv), .val (.int (1 : Int32)), .val (.int i19), .val (.int i20), .val (.int i21), .val (.ref so), .unset] [(.ref vv), (.long (I4 (f3 + 0)))]))
            refine own_by (fun t k => XS.iconst Xc0_9.here hx rfl (hb hby at_304) k) ?_
            show own_Go _ _ _ _ (Tc0_9.setTop (mkF m 305 #[.val (.long aa), .second, .val (.long b0), .second, .val (.long c0), .second, .val (.long d0), .second, .val (.int ff), .val (.long aa), .second, .val (.long bb), .second, .val (.long cc), .second, .val (.long dd), .second, .val (.ref vv), .val (.int (1 : Int32)), .val (.int i19), .val (.int i20), .val (.int i21), .val (.ref so), .unset] [(.int (0 : Int32)), (.ref vv), (.long (I4 (f3 + 0)))]))
            obtain ⟨clr0_10, Arr0_10, hir0_10, har0_10⟩ := V_vv.at (j := (0 : Int32)) ⟨by decide, by decide⟩
            replace har0_10 := har0_10.trans (congrArg some rfl)
            refine own_by (fun t k => Xc0_9.laload hx (j := (0 : Int32)) (v := (.long (gg 0))) (by rw [ehc0_9]; exact Arr0_10.1) (State.isArrayOf_alike hZ.alike Arr0_10.2.1) Arr0_10.2.2 hir0_10 har0_10 (g := (mkF m 305 #[.val (.long aa), .second, .val (.long b0), .second, .val (.long c0), .second, .val (.long d0), .second, .val (.int ff), .val (.long aa), .second, .val (.long bb), .second, .val (.long cc), .second, .val (.long dd), .second, .val (.ref vv), .val (.int (1 : Int32)), .val (.int i19), .val (.int i20), .val (.int i21), .val (.ref so), .unset] [(.int (0 : Int32)), (.ref vv), (.long (I4 (f3 + 0)))])) rfl rfl (hb hby at_305) _ k) ?_
            show own_Go _ _ _ _ (Tc0_9.setTop (mkF m 306 #[.val (.long aa), .second, .val (.long b0), .second, .val (.long c0), .second, .val (.long d0), .second, .val (.int ff), .val (.long aa), .second, .val (.long bb), .second, .val (.long cc), .second, .val (.long dd), .second, .val (.ref vv), .val (.int (1 : Int32)), .val (.int i19), .val (.int i20), .val (.int i21), .val (.ref so), .unset] [(.long (gg 0)), (.long (I4 (f3 + 0)))]))
            refine own_by (fun t k => XS.lcmp Xc0_9.here hx rfl (hb hby at_306) rfl k) ?_
            show own_Go _ _ _ _ (Tc0_9.setTop (mkF m 307 #[.val (.long aa), .second, .val (.long b0), .second, .val (.long c0), .second, .val (.long d0), .second, .val (.int ff), .val (.long aa), .second, .val (.long bb), .second, .val (.long cc), .second, .val (.long dd), .second, .val (.ref vv), .val (.int (1 : Int32)), .val (.int i19), .val (.int i20), .val (.int i21), .val (.ref so), .unset] [(.int (lcmpW (I4 (f3 + 0)) (gg 0)))]))
            refine own_by (fun t k => XS.ifNo Xc0_9.here hx rfl (hb hby at_307) rfl ((if0 _ _).trans (teq ((lw_eq _ _).mpr (huq 0 (by omega) : (I4 (f3 + 0)) = (gg 0)))).2) k) ?_
            show own_Go _ _ _ _ (Tc0_9.setTop (mkF m 310 #[.val (.long aa), .second, .val (.long b0), .second, .val (.long c0), .second, .val (.long d0), .second, .val (.int ff), .val (.long aa), .second, .val (.long bb), .second, .val (.long cc), .second, .val (.long dd), .second, .val (.ref vv), .val (.int (1 : Int32)), .val (.int i19), .val (.int i20), .val (.int i21), .val (.ref so), .unset] []))
            refine own_by (fun t k => XS.iconst Xc0_9.here hx rfl (hb hby at_310) k) ?_
            show own_Go _ _ _ _ (Tc0_9.setTop (mkF m 311 #[.val (.long aa), .second, .val (.long b0), .second, .val (.long c0), .second, .val (.long d0), .second, .val (.int ff), .val (.long aa), .second, .val (.long bb), .second, .val (.long cc), .second, .val (.long dd), .second, .val (.ref vv), .val (.int (1 : Int32)), .val (.int i19), .val (.int i20), .val (.int i21), .val (.ref so), .unset] [(.int (1 : Int32))]))
            refine own_by (fun t k => XS.goto Xc0_9.here hx rfl (pc0 := 311) (pc' := 315) rfl (hb hby at_311) (by decide) (by decide) k) ?_
            show own_Go _ _ _ _ (Tc0_9.setTop (mkF m 315 #[.val (.long aa), .second, .val (.long b0), .second, .val (.long c0), .second, .val (.long d0), .second, .val (.int ff), .val (.long aa), .second, .val (.long bb), .second, .val (.long cc), .second, .val (.long dd), .second, .val (.ref vv), .val (.int (1 : Int32)), .val (.int i19), .val (.int i20), .val (.int i21), .val (.ref so), .unset] [(.int (1 : Int32))]))
            refine own_by (fun t k => XS.istore Xc0_9.here hx rfl (hb hby at_315) rfl (l' := #[.val (.long aa), .second, .val (.long b0), .second, .val (.long c0), .second, .val (.long d0), .second, .val (.int ff), .val (.long aa), .second, .val (.long bb), .second, .val (.long cc), .second, .val (.long dd), .second, .val (.ref vv), .val (.int (1 : Int32)), .val (.int i19), .val (.int i20), .val (.int i21), .val (.ref so), .val (.int (1 : Int32))]) rfl k) ?_
            show own_Go _ _ _ _ (Tc0_9.setTop (mkF m 317 #[.val (.long aa), .second, .val (.long b0), .second, .val (.long c0), .second, .val (.long d0), .second, .val (.int ff), .val (.long aa), .second, .val (.long bb), .second, .val (.long cc), .second, .val (.long dd), .second, .val (.ref vv), .val (.int (1 : Int32)), .val (.int i19), .val (.int i20), .val (.int i21), .val (.ref so), .val (.int (1 : Int32))] []))
            refine own_by (fun t k => XS.iload Xc0_9.here hx rfl (hb hby at_317) rfl k) ?_
            show own_Go _ _ _ _ (Tc0_9.setTop (mkF m 319 #[.val (.long aa), .second, .val (.long b0), .second, .val (.long c0), .second, .val (.long d0), .second, .val (.int ff), .val (.long aa), .second, .val (.long bb), .second, .val (.long cc), .second, .val (.long dd), .second, .val (.ref vv), .val (.int (1 : Int32)), .val (.int i19), .val (.int i20), .val (.int i21), .val (.ref so), .val (.int (1 : Int32))] [(.int (1 : Int32))]))
            refine own_by (fun t k => XS.iconst Xc0_9.here hx rfl (hb hby at_319) k) ?_
            show own_Go _ _ _ _ (Tc0_9.setTop (mkF m 320 #[.val (.long aa), .second, .val (.long b0), .second, .val (.long c0), .second, .val (.long d0), .second, .val (.int ff), .val (.long aa), .second, .val (.long bb), .second, .val (.long cc), .second, .val (.long dd), .second, .val (.ref vv), .val (.int (1 : Int32)), .val (.int i19), .val (.int i20), .val (.int i21), .val (.ref so), .val (.int (1 : Int32))] [(.int (2 : Int32)), (.int (1 : Int32))]))
            refine own_by (fun t k => XS.icmpYes Xc0_9.here hx rfl (pc0 := 320) (pc' := 349) rfl (hb hby at_320) rfl (tlt (by decide : (1 : Int32) < (2 : Int32))).1 (by decide) (by decide) k) ?_
            show own_Go _ _ _ _ (Tc0_9.setTop (mkF m 349 #[.val (.long aa), .second, .val (.long b0), .second, .val (.long c0), .second, .val (.long d0), .second, .val (.int ff), .val (.long aa), .second, .val (.long bb), .second, .val (.long cc), .second, .val (.long dd), .second, .val (.ref vv), .val (.int (1 : Int32)), .val (.int i19), .val (.int i20), .val (.int i21), .val (.ref so), .val (.int (1 : Int32))] []))
            refine own_by (fun t k => XS.iload Xc0_9.here hx rfl (hb hby at_349) rfl k) ?_
            show own_Go _ _ _ _ (Tc0_9.setTop (mkF m 351 #[.val (.long aa), .second, .val (.long b0), .second, .val (.long c0), .second, .val (.long d0), .second, .val (.int ff), .val (.long aa), .second, .val (.long bb), .second, .val (.long cc), .second, .val (.long dd), .second, .val (.ref vv), .val (.int (1 : Int32)), .val (.int i19), .val (.int i20), .val (.int i21), .val (.ref so), .val (.int (1 : Int32))] [(.int (1 : Int32))]))
            refine own_by (fun t k => XS.iconst Xc0_9.here hx rfl (hb hby at_351) k) ?_
            show own_Go _ _ _ _ (Tc0_9.setTop (mkF m 352 #[.val (.long aa), .second, .val (.long b0), .second, .val (.long c0), .second, .val (.long d0), .second, .val (.int ff), .val (.long aa), .second, .val (.long bb), .second, .val (.long cc), .second, .val (.long dd), .second, .val (.ref vv), .val (.int (1 : Int32)), .val (.int i19), .val (.int i20), .val (.int i21), .val (.ref so), .val (.int (1 : Int32))] [(.int (3 : Int32)), (.int (1 : Int32))]))
            refine own_by (fun t k => XS.icmpYes Xc0_9.here hx rfl (pc0 := 352) (pc' := 381) rfl (hb hby at_352) rfl (tlt (by decide : (1 : Int32) < (3 : Int32))).1 (by decide) (by decide) k) ?_
            show own_Go _ _ _ _ (Tc0_9.setTop (mkF m 381 #[.val (.long aa), .second, .val (.long b0), .second, .val (.long c0), .second, .val (.long d0), .second, .val (.int ff), .val (.long aa), .second, .val (.long bb), .second, .val (.long cc), .second, .val (.long dd), .second, .val (.ref vv), .val (.int (1 : Int32)), .val (.int i19), .val (.int i20), .val (.int i21), .val (.ref so), .val (.int (1 : Int32))] []))
            refine own_by (fun t k => XS.iload Xc0_9.here hx rfl (hb hby at_381) rfl k) ?_
            show own_Go _ _ _ _ (Tc0_9.setTop (mkF m 383 #[.val (.long aa), .second, .val (.long b0), .second, .val (.long c0), .second, .val (.long d0), .second, .val (.int ff), .val (.long aa), .second, .val (.long bb), .second, .val (.long cc), .second, .val (.long dd), .second, .val (.ref vv), .val (.int (1 : Int32)), .val (.int i19), .val (.int i20), .val (.int i21), .val (.ref so), .val (.int (1 : Int32))] [(.int (1 : Int32))]))
            obtain ⟨fs, hr, hrun, hended, hW, hsame⟩ := Xc0_9.leave (v := some (.int (1 : Int32))) (fun h => by rw [Bd.returns] at h; cases h)
            refine ⟨_, _, retN Xc0_9 hx (t := .boolean) Bd.returns (by simp) (hb hby at_383) hr, hrun, hended, _, _, rfl, ?_, ⟨_, rfl⟩, hW, hsame.mono (by decide) (by decide)⟩
            show Q0 Z aa b0 c0 d0 ff h0 n0 _ Tc0_9.heap _
            rw [ehc0_9]
            exact ⟨rfl, Nc0_9⟩
          · show own_Go _ _ _ _ (Tc0_8.setTop (mkF m 296 #[.val (.long aa), .second, .val (.long b0), .second, .val (.long c0), .second, .val (.long d0), .second, .val (.int ff), .val (.long aa), .second, .val (.long bb), .second, .val (.long cc), .second, .val (.long dd), .second, .val (.ref vv), .val (.int (2 : Int32)), .val (.int i19), .val (.int i20), .val (.int i21), .val (.ref so), .unset] []))
            show own_Go _ _ _ _ (Tc0_8.setTop (mkF m 296 #[.val (.long aa), .second, .val (.long b0), .second, .val (.long c0), .second, .val (.long d0), .second, .val (.int ff), .val (.long aa), .second, .val (.long bb), .second, .val (.long cc), .second, .val (.long dd), .second, .val (.ref vv), .val (.int (2 : Int32)), .val (.int i19), .val (.int i20), .val (.int i21), .val (.ref so), .unset] []))
            refine own_by (fun t k => XS.aload Xc0_8.here hx rfl (hb hby at_296) rfl rfl k) ?_
            show own_Go _ _ _ _ (Tc0_8.setTop (mkF m 298 #[.val (.long aa), .second, .val (.long b0), .second, .val (.long c0), .second, .val (.long d0), .second, .val (.int ff), .val (.long aa), .second, .val (.long bb), .second, .val (.long cc), .second, .val (.long dd), .second, .val (.ref vv), .val (.int (2 : Int32)), .val (.int i19), .val (.int i20), .val (.int i21), .val (.ref so), .unset] [(.ref so)]))
            refine own_by (fun t k => XS.iconst Xc0_8.here hx rfl (hb hby at_298) k) ?_
            show own_Go _ _ _ _ (Tc0_8.setTop (mkF m 299 #[.val (.long aa), .second, .val (.long b0), .second, .val (.long c0), .second, .val (.long d0), .second, .val (.int ff), .val (.long aa), .second, .val (.long bb), .second, .val (.long cc), .second, .val (.long dd), .second, .val (.ref vv), .val (.int (2 : Int32)), .val (.int i19), .val (.int i20), .val (.int i21), .val (.ref so), .unset] [(.int (0 : Int32)), (.ref so)]))
            obtain ⟨cqc0_11, kqc0_11, qc0_11a, qc0_11b, qc0_11c⟩ := isOf hZ ehc0_8 E_so
            obtain ⟨_, _, ⟨Tc0_11, Lc0_11, kc0_11, nc0_11⟩, -, Xc0_11, ⟨Lcc0_11, hQc0_11, lc0_11, yc0_11, zc0_11⟩, stc0_11⟩ := Xc0_8.virtualBack hx (y := (⟨"com/example/water_clock/waterclock/SubWindowCounts", "index", "(I)J"⟩ : MethodName)) (z := (⟨"com/example/water_clock/waterclock/SubWindowCounts", "index", "(I)J"⟩ : MethodName)) hown (mvT hZ (hw _ (List.mem_of_getElem? (i := 44) rfl))) (mvT hZ (hw _ (List.mem_of_getElem? (i := 45) rfl))) (notFace_of_selects (args := #[]) (mvT hZ (hw _ (List.mem_of_getElem? (i := 47) rfl)))) (mvT hZ (hw _ (List.mem_of_getElem? (i := 47) rfl))) (mvT hZ (hw _ (List.mem_of_getElem? (i := 46) rfl))) (by decide) (backOf (W := 0) (rm7 l Z a0 hw [] so (0 : Int32) ia f3 0 I4 Tc0_7.heap n0 Zs_c0_7 F_indices_so F_first_so V_ia rfl (by omega)) hZ (hw _ (List.mem_of_getElem? (i := 48) rfl)) (hw _ (List.mem_of_getElem? (i := 3) rfl)) (by decide) (by decide)) qc0_11a qc0_11c (g := (mkF m 299 #[.val (.long aa), .second, .val (.long b0), .second, .val (.long c0), .second, .val (.long d0), .second, .val (.int ff), .val (.long aa), .second, .val (.long bb), .second, .val (.long cc), .second, .val (.long dd), .second, .val (.ref vv), .val (.int (2 : Int32)), .val (.int i19), .val (.int i20), .val (.int i21), .val (.ref so), .unset] [(.int (0 : Int32)), (.ref so)])) rfl (by rw [hml]; rfl) (Steps.refl _) (argsL := [(.int (0 : Int32))]) (rest := []) (lenOf pd_0_4 rfl) rfl (by show 2 * 0 + _ ≤ _; exact Nat.le_of_eq rfl) (hb hby at_299) (fun _ _ => ⟨rfl, ehc0_8, (by decide : 4 + 0 ≤ _), (by decide : 16 + 0 ≤ _)⟩)
            dsimp only [Pt.U, Pt.locs, Pt.cells, Pt.slots] at Xc0_11 lc0_11 yc0_11 zc0_11 stc0_11 hQc0_11
            subst lc0_11 yc0_11 zc0_11
            obtain ⟨rfl, Nc0_11q, ehc0_11⟩ := hQc0_11
            have Nc0_11 := Fr.app Nc0_8 Nc0_11q
            refine own_by (fun t k => stc0_11.trans k) ?_
            show own_Go _ _ _ _ (Tc0_11.setTop (mkF m 302 #[.val (.long aa), .second, .val (.long b0), .second, .val (.long c0), .second, .val (.long d0), .second, .val (.int ff), .val (.long aa), .second, .val (.long bb), .second, .val (.long cc), .second, .val (.long dd), .second, .val (.ref vv), .val (.int (2 : Int32)), .val (.int i19), .val (.int i20), .val (.int i21), .val (.ref so), .unset] [(.long (I4 (f3 + 0)))]))
            refine own_by (fun t k => XS.aload Xc0_11.here hx rfl (hb hby at_302) rfl rfl k) ?_
            show own_Go _ _ _ _ (Tc0_11.setTop (mkF m 304 #[.val (.long aa), .second, .val (.long b0), .second, .val (.long c0), .second, .val (.long d0), .second, .val (.int ff), .val (.long aa), .second, .val (.long bb), .second, .val (.long cc), .second, .val (.long dd), .second, .val (.ref vv), .val (.int (2 : Int32)), .val (.int i19), .val (.int i20), .val (.int i21), .val (.ref so), .unset] [(.ref vv), (.long (I4 (f3 + 0)))]))
            refine own_by (fun t k => XS.iconst Xc0_11.here hx rfl (hb hby at_304) k) ?_
            show own_Go _ _ _ _ (Tc0_11.setTop (mkF m 305 #[.val (.long aa), .second, .val (.long b0), .second, .val (.long c0), .second, .val (.long d0), .second, .val (.int ff), .val (.long aa), .second, .val (.long bb), .second, .val (.long cc), .second, .val (.long dd), .second, .val (.ref vv), .val (.int (2 : Int32)), .val (.int i19), .val (.int i20), .val (.int i21), .val (.ref so), .unset] [(.int (0 : Int32)), (.ref vv), (.long (I4 (f3 + 0)))]))
            obtain ⟨clr0_12, Arr0_12, hir0_12, har0_12⟩ := V_vv.at (j := (0 : Int32)) ⟨by decide, by decide⟩
            replace har0_12 := har0_12.trans (congrArg some rfl)
            refine own_by (fun t k => Xc0_11.laload hx (j := (0 : Int32)) (v := (.long (gg 0))) (by rw [ehc0_11]; exact Arr0_12.1) (State.isArrayOf_alike hZ.alike Arr0_12.2.1) Arr0_12.2.2 hir0_12 har0_12 (g := (mkF m 305 #[.val (.long aa), .second, .val (.long b0), .second, .val (.long c0), .second, .val (.long d0), .second, .val (.int ff), .val (.long aa), .second, .val (.long bb), .second, .val (.long cc), .second, .val (.long dd), .second, .val (.ref vv), .val (.int (2 : Int32)), .val (.int i19), .val (.int i20), .val (.int i21), .val (.ref so), .unset] [(.int (0 : Int32)), (.ref vv), (.long (I4 (f3 + 0)))])) rfl rfl (hb hby at_305) _ k) ?_
            show own_Go _ _ _ _ (Tc0_11.setTop (mkF m 306 #[.val (.long aa), .second, .val (.long b0), .second, .val (.long c0), .second, .val (.long d0), .second, .val (.int ff), .val (.long aa), .second, .val (.long bb), .second, .val (.long cc), .second, .val (.long dd), .second, .val (.ref vv), .val (.int (2 : Int32)), .val (.int i19), .val (.int i20), .val (.int i21), .val (.ref so), .unset] [(.long (gg 0)), (.long (I4 (f3 + 0)))]))
            refine own_by (fun t k => XS.lcmp Xc0_11.here hx rfl (hb hby at_306) rfl k) ?_
            show own_Go _ _ _ _ (Tc0_11.setTop (mkF m 307 #[.val (.long aa), .second, .val (.long b0), .second, .val (.long c0), .second, .val (.long d0), .second, .val (.int ff), .val (.long aa), .second, .val (.long bb), .second, .val (.long cc), .second, .val (.long dd), .second, .val (.ref vv), .val (.int (2 : Int32)), .val (.int i19), .val (.int i20), .val (.int i21), .val (.ref so), .unset] [(.int (lcmpW (I4 (f3 + 0)) (gg 0)))]))
            refine own_by (fun t k => XS.ifNo Xc0_11.here hx rfl (hb hby at_307) rfl ((if0 _ _).trans (teq ((lw_eq _ _).mpr (huq 0 (by omega) : (I4 (f3 + 0)) = (gg 0)))).2) k) ?_
            show own_Go _ _ _ _ (Tc0_11.setTop (mkF m 310 #[.val (.long aa), .second, .val (.long b0), .second, .val (.long c0), .second, .val (.long d0), .second, .val (.int ff), .val (.long aa), .second, .val (.long bb), .second, .val (.long cc), .second, .val (.long dd), .second, .val (.ref vv), .val (.int (2 : Int32)), .val (.int i19), .val (.int i20), .val (.int i21), .val (.ref so), .unset] []))
            refine own_by (fun t k => XS.iconst Xc0_11.here hx rfl (hb hby at_310) k) ?_
            show own_Go _ _ _ _ (Tc0_11.setTop (mkF m 311 #[.val (.long aa), .second, .val (.long b0), .second, .val (.long c0), .second, .val (.long d0), .second, .val (.int ff), .val (.long aa), .second, .val (.long bb), .second, .val (.long cc), .second, .val (.long dd), .second, .val (.ref vv), .val (.int (2 : Int32)), .val (.int i19), .val (.int i20), .val (.int i21), .val (.ref so), .unset] [(.int (1 : Int32))]))
            refine own_by (fun t k => XS.goto Xc0_11.here hx rfl (pc0 := 311) (pc' := 315) rfl (hb hby at_311) (by decide) (by decide) k) ?_
            show own_Go _ _ _ _ (Tc0_11.setTop (mkF m 315 #[.val (.long aa), .second, .val (.long b0), .second, .val (.long c0), .second, .val (.long d0), .second, .val (.int ff), .val (.long aa), .second, .val (.long bb), .second, .val (.long cc), .second, .val (.long dd), .second, .val (.ref vv), .val (.int (2 : Int32)), .val (.int i19), .val (.int i20), .val (.int i21), .val (.ref so), .unset] [(.int (1 : Int32))]))
            refine own_by (fun t k => XS.istore Xc0_11.here hx rfl (hb hby at_315) rfl (l' := #[.val (.long aa), .second, .val (.long b0), .second, .val (.long c0), .second, .val (.long d0), .second, .val (.int ff), .val (.long aa), .second, .val (.long bb), .second, .val (.long cc), .second, .val (.long dd), .second, .val (.ref vv), .val (.int (2 : Int32)), .val (.int i19), .val (.int i20), .val (.int i21), .val (.ref so), .val (.int (1 : Int32))]) rfl k) ?_
            show own_Go _ _ _ _ (Tc0_11.setTop (mkF m 317 #[.val (.long aa), .second, .val (.long b0), .second, .val (.long c0), .second, .val (.long d0), .second, .val (.int ff), .val (.long aa), .second, .val (.long bb), .second, .val (.long cc), .second, .val (.long dd), .second, .val (.ref vv), .val (.int (2 : Int32)), .val (.int i19), .val (.int i20), .val (.int i21), .val (.ref so), .val (.int (1 : Int32))] []))
            refine own_by (fun t k => XS.iload Xc0_11.here hx rfl (hb hby at_317) rfl k) ?_
            show own_Go _ _ _ _ (Tc0_11.setTop (mkF m 319 #[.val (.long aa), .second, .val (.long b0), .second, .val (.long c0), .second, .val (.long d0), .second, .val (.int ff), .val (.long aa), .second, .val (.long bb), .second, .val (.long cc), .second, .val (.long dd), .second, .val (.ref vv), .val (.int (2 : Int32)), .val (.int i19), .val (.int i20), .val (.int i21), .val (.ref so), .val (.int (1 : Int32))] [(.int (2 : Int32))]))
            refine own_by (fun t k => XS.iconst Xc0_11.here hx rfl (hb hby at_319) k) ?_
            show own_Go _ _ _ _ (Tc0_11.setTop (mkF m 320 #[.val (.long aa), .second, .val (.long b0), .second, .val (.long c0), .second, .val (.long d0), .second, .val (.int ff), .val (.long aa), .second, .val (.long bb), .second, .val (.long cc), .second, .val (.long dd), .second, .val (.ref vv), .val (.int (2 : Int32)), .val (.int i19), .val (.int i20), .val (.int i21), .val (.ref so), .val (.int (1 : Int32))] [(.int (2 : Int32)), (.int (2 : Int32))]))
            refine own_by (fun t k => XS.icmpNo Xc0_11.here hx rfl (hb hby at_320) rfl (flt (by decide : ¬ ((2 : Int32) < (2 : Int32)))).1 k) ?_
            show own_Go _ _ _ _ (Tc0_11.setTop (mkF m 323 #[.val (.long aa), .second, .val (.long b0), .second, .val (.long c0), .second, .val (.long d0), .second, .val (.int ff), .val (.long aa), .second, .val (.long bb), .second, .val (.long cc), .second, .val (.long dd), .second, .val (.ref vv), .val (.int (2 : Int32)), .val (.int i19), .val (.int i20), .val (.int i21), .val (.ref so), .val (.int (1 : Int32))] []))
            refine own_by (fun t k => XS.iload Xc0_11.here hx rfl (hb hby at_323) rfl k) ?_
            show own_Go _ _ _ _ (Tc0_11.setTop (mkF m 325 #[.val (.long aa), .second, .val (.long b0), .second, .val (.long c0), .second, .val (.long d0), .second, .val (.int ff), .val (.long aa), .second, .val (.long bb), .second, .val (.long cc), .second, .val (.long dd), .second, .val (.ref vv), .val (.int (2 : Int32)), .val (.int i19), .val (.int i20), .val (.int i21), .val (.ref so), .val (.int (1 : Int32))] [(.int (1 : Int32))]))
            refine own_by (fun t k => XS.ifNo Xc0_11.here hx rfl (hb hby at_325) rfl ((if0 _ _).trans (feq (by decide : ¬ ((1 : Int32) = (0 : Int32)))).1) k) ?_
            show own_Go _ _ _ _ (Tc0_11.setTop (mkF m 328 #[.val (.long aa), .second, .val (.long b0), .second, .val (.long c0), .second, .val (.long d0), .second, .val (.int ff), .val (.long aa), .second, .val (.long bb), .second, .val (.long cc), .second, .val (.long dd), .second, .val (.ref vv), .val (.int (2 : Int32)), .val (.int i19), .val (.int i20), .val (.int i21), .val (.ref so), .val (.int (1 : Int32))] []))
            refine own_by (fun t k => XS.aload Xc0_11.here hx rfl (hb hby at_328) rfl rfl k) ?_
            show own_Go _ _ _ _ (Tc0_11.setTop (mkF m 330 #[.val (.long aa), .second, .val (.long b0), .second, .val (.long c0), .second, .val (.long d0), .second, .val (.int ff), .val (.long aa), .second, .val (.long bb), .second, .val (.long cc), .second, .val (.long dd), .second, .val (.ref vv), .val (.int (2 : Int32)), .val (.int i19), .val (.int i20), .val (.int i21), .val (.ref so), .val (.int (1 : Int32))] [(.ref so)]))
            refine own_by (fun t k => XS.iconst Xc0_11.here hx rfl (hb hby at_330) k) ?_
            show own_Go _ _ _ _ (Tc0_11.setTop (mkF m 331 #[.val (.long aa), .second, .val (.long b0), .second, .val (.long c0), .second, .val (.long d0), .second, .val (.int ff), .val (.long aa), .second, .val (.long bb), .second, .val (.long cc), .second, .val (.long dd), .second, .val (.ref vv), .val (.int (2 : Int32)), .val (.int i19), .val (.int i20), .val (.int i21), .val (.ref so), .val (.int (1 : Int32))] [(.int (1 : Int32)), (.ref so)]))
            obtain ⟨cqc0_13, kqc0_13, qc0_13a, qc0_13b, qc0_13c⟩ := isOf hZ ehc0_11 E_so
            obtain ⟨_, _, ⟨Tc0_13, Lc0_13, kc0_13, nc0_13⟩, -, Xc0_13, ⟨Lcc0_13, hQc0_13, lc0_13, yc0_13, zc0_13⟩, stc0_13⟩ := Xc0_11.virtualBack hx (y := (⟨"com/example/water_clock/waterclock/SubWindowCounts", "index", "(I)J"⟩ : MethodName)) (z := (⟨"com/example/water_clock/waterclock/SubWindowCounts", "index", "(I)J"⟩ : MethodName)) hown (mvT hZ (hw _ (List.mem_of_getElem? (i := 44) rfl))) (mvT hZ (hw _ (List.mem_of_getElem? (i := 45) rfl))) (notFace_of_selects (args := #[]) (mvT hZ (hw _ (List.mem_of_getElem? (i := 47) rfl)))) (mvT hZ (hw _ (List.mem_of_getElem? (i := 47) rfl))) (mvT hZ (hw _ (List.mem_of_getElem? (i := 46) rfl))) (by decide) (backOf (W := 0) (rm7 l Z a0 hw [] so (1 : Int32) ia f3 1 I4 Tc0_7.heap n0 Zs_c0_7 F_indices_so F_first_so V_ia rfl (by omega)) hZ (hw _ (List.mem_of_getElem? (i := 48) rfl)) (hw _ (List.mem_of_getElem? (i := 3) rfl)) (by decide) (by decide)) qc0_13a qc0_13c (g := (mkF m 331 #[.val (.long aa), .second, .val (.long b0), .second, .val (.long c0), .second, .val (.long d0), .second, .val (.int ff), .val (.long aa), .second, .val (.long bb), .second, .val (.long cc), .second, .val (.long dd), .second, .val (.ref vv), .val (.int (2 : Int32)), .val (.int i19), .val (.int i20), .val (.int i21), .val (.ref so), .val (.int (1 : Int32))] [(.int (1 : Int32)), (.ref so)])) rfl (by rw [hml]; rfl) (Steps.refl _) (argsL := [(.int (1 : Int32))]) (rest := []) (lenOf pd_0_4 rfl) rfl (by show 2 * 0 + _ ≤ _; exact Nat.le_of_eq rfl) (hb hby at_331) (fun _ _ => ⟨rfl, ehc0_11, (by decide : 4 + 0 ≤ _), (by decide : 16 + 0 ≤ _)⟩)
            dsimp only [Pt.U, Pt.locs, Pt.cells, Pt.slots] at Xc0_13 lc0_13 yc0_13 zc0_13 stc0_13 hQc0_13
            subst lc0_13 yc0_13 zc0_13
            obtain ⟨rfl, Nc0_13q, ehc0_13⟩ := hQc0_13
            have Nc0_13 := Fr.app Nc0_11 Nc0_13q
            refine own_by (fun t k => stc0_13.trans k) ?_
            show own_Go _ _ _ _ (Tc0_13.setTop (mkF m 334 #[.val (.long aa), .second, .val (.long b0), .second, .val (.long c0), .second, .val (.long d0), .second, .val (.int ff), .val (.long aa), .second, .val (.long bb), .second, .val (.long cc), .second, .val (.long dd), .second, .val (.ref vv), .val (.int (2 : Int32)), .val (.int i19), .val (.int i20), .val (.int i21), .val (.ref so), .val (.int (1 : Int32))] [(.long (I4 (f3 + 1)))]))
            refine own_by (fun t k => XS.aload Xc0_13.here hx rfl (hb hby at_334) rfl rfl k) ?_
            show own_Go _ _ _ _ (Tc0_13.setTop (mkF m 336 #[.val (.long aa), .second, .val (.long b0), .second, .val (.long c0), .second, .val (.long d0), .second, .val (.int ff), .val (.long aa), .second, .val (.long bb), .second, .val (.long cc), .second, .val (.long dd), .second, .val (.ref vv), .val (.int (2 : Int32)), .val (.int i19), .val (.int i20), .val (.int i21), .val (.ref so), .val (.int (1 : Int32))] [(.ref vv), (.long (I4 (f3 + 1)))]))
            refine own_by (fun t k => XS.iconst Xc0_13.here hx rfl (hb hby at_336) k) ?_
            show own_Go _ _ _ _ (Tc0_13.setTop (mkF m 337 #[.val (.long aa), .second, .val (.long b0), .second, .val (.long c0), .second, .val (.long d0), .second, .val (.int ff), .val (.long aa), .second, .val (.long bb), .second, .val (.long cc), .second, .val (.long dd), .second, .val (.ref vv), .val (.int (2 : Int32)), .val (.int i19), .val (.int i20), .val (.int i21), .val (.ref so), .val (.int (1 : Int32))] [(.int (1 : Int32)), (.ref vv), (.long (I4 (f3 + 1)))]))
            obtain ⟨clr0_14, Arr0_14, hir0_14, har0_14⟩ := V_vv.at (j := (1 : Int32)) ⟨by decide, by decide⟩
            replace har0_14 := har0_14.trans (congrArg some rfl)
            refine own_by (fun t k => Xc0_13.laload hx (j := (1 : Int32)) (v := (.long (gg 1))) (by rw [ehc0_13]; exact Arr0_14.1) (State.isArrayOf_alike hZ.alike Arr0_14.2.1) Arr0_14.2.2 hir0_14 har0_14 (g := (mkF m 337 #[.val (.long aa), .second, .val (.long b0), .second, .val (.long c0), .second, .val (.long d0), .second, .val (.int ff), .val (.long aa), .second, .val (.long bb), .second, .val (.long cc), .second, .val (.long dd), .second, .val (.ref vv), .val (.int (2 : Int32)), .val (.int i19), .val (.int i20), .val (.int i21), .val (.ref so), .val (.int (1 : Int32))] [(.int (1 : Int32)), (.ref vv), (.long (I4 (f3 + 1)))])) rfl rfl (hb hby at_337) _ k) ?_
            show own_Go _ _ _ _ (Tc0_13.setTop (mkF m 338 #[.val (.long aa), .second, .val (.long b0), .second, .val (.long c0), .second, .val (.long d0), .second, .val (.int ff), .val (.long aa), .second, .val (.long bb), .second, .val (.long cc), .second, .val (.long dd), .second, .val (.ref vv), .val (.int (2 : Int32)), .val (.int i19), .val (.int i20), .val (.int i21), .val (.ref so), .val (.int (1 : Int32))] [(.long (gg 1)), (.long (I4 (f3 + 1)))]))
            refine own_by (fun t k => XS.lcmp Xc0_13.here hx rfl (hb hby at_338) rfl k) ?_
            show own_Go _ _ _ _ (Tc0_13.setTop (mkF m 339 #[.val (.long aa), .second, .val (.long b0), .second, .val (.long c0), .second, .val (.long d0), .second, .val (.int ff), .val (.long aa), .second, .val (.long bb), .second, .val (.long cc), .second, .val (.long dd), .second, .val (.ref vv), .val (.int (2 : Int32)), .val (.int i19), .val (.int i20), .val (.int i21), .val (.ref so), .val (.int (1 : Int32))] [(.int (lcmpW (I4 (f3 + 1)) (gg 1)))]))
            refine own_by (fun t k => XS.ifNo Xc0_13.here hx rfl (hb hby at_339) rfl ((if0 _ _).trans (teq ((lw_eq _ _).mpr (huq 1 (by omega) : (I4 (f3 + 1)) = (gg 1)))).2) k) ?_
            show own_Go _ _ _ _ (Tc0_13.setTop (mkF m 342 #[.val (.long aa), .second, .val (.long b0), .second, .val (.long c0), .second, .val (.long d0), .second, .val (.int ff), .val (.long aa), .second, .val (.long bb), .second, .val (.long cc), .second, .val (.long dd), .second, .val (.ref vv), .val (.int (2 : Int32)), .val (.int i19), .val (.int i20), .val (.int i21), .val (.ref so), .val (.int (1 : Int32))] []))
            refine own_by (fun t k => XS.iconst Xc0_13.here hx rfl (hb hby at_342) k) ?_
            show own_Go _ _ _ _ (Tc0_13.setTop (mkF m 343 #[.val (.long aa), .second, .val (.long b0), .second, .val (.long c0), .second, .val (.long d0), .second, .val (.int ff), .val (.long aa), .second, .val (.long bb), .second, .val (.long cc), .second, .val (.long dd), .second, .val (.ref vv), .val (.int (2 : Int32)), .val (.int i19), .val (.int i20), .val (.int i21), .val (.ref so), .val (.int (1 : Int32))] [(.int (1 : Int32))]))
            refine own_by (fun t k => XS.goto Xc0_13.here hx rfl (pc0 := 343) (pc' := 347) rfl (hb hby at_343) (by decide) (by decide) k) ?_
            show own_Go _ _ _ _ (Tc0_13.setTop (mkF m 347 #[.val (.long aa), .second, .val (.long b0), .second, .val (.long c0), .second, .val (.long d0), .second, .val (.int ff), .val (.long aa), .second, .val (.long bb), .second, .val (.long cc), .second, .val (.long dd), .second, .val (.ref vv), .val (.int (2 : Int32)), .val (.int i19), .val (.int i20), .val (.int i21), .val (.ref so), .val (.int (1 : Int32))] [(.int (1 : Int32))]))
            refine own_by (fun t k => XS.istore Xc0_13.here hx rfl (hb hby at_347) rfl (l' := #[.val (.long aa), .second, .val (.long b0), .second, .val (.long c0), .second, .val (.long d0), .second, .val (.int ff), .val (.long aa), .second, .val (.long bb), .second, .val (.long cc), .second, .val (.long dd), .second, .val (.ref vv), .val (.int (2 : Int32)), .val (.int i19), .val (.int i20), .val (.int i21), .val (.ref so), .val (.int (1 : Int32))]) rfl k) ?_
            show own_Go _ _ _ _ (Tc0_13.setTop (mkF m 349 #[.val (.long aa), .second, .val (.long b0), .second, .val (.long c0), .second, .val (.long d0), .second, .val (.int ff), .val (.long aa), .second, .val (.long bb), .second, .val (.long cc), .second, .val (.long dd), .second, .val (.ref vv), .val (.int (2 : Int32)), .val (.int i19), .val (.int i20), .val (.int i21), .val (.ref so), .val (.int (1 : Int32))] []))
            refine own_by (fun t k => XS.iload Xc0_13.here hx rfl (hb hby at_349) rfl k) ?_
            show own_Go _ _ _ _ (Tc0_13.setTop (mkF m 351 #[.val (.long aa), .second, .val (.long b0), .second, .val (.long c0), .second, .val (.long d0), .second, .val (.int ff), .val (.long aa), .second, .val (.long bb), .second, .val (.long cc), .second, .val (.long dd), .second, .val (.ref vv), .val (.int (2 : Int32)), .val (.int i19), .val (.int i20), .val (.int i21), .val (.ref so), .val (.int (1 : Int32))] [(.int (2 : Int32))]))
            refine own_by (fun t k => XS.iconst Xc0_13.here hx rfl (hb hby at_351) k) ?_
            show own_Go _ _ _ _ (Tc0_13.setTop (mkF m 352 #[.val (.long aa), .second, .val (.long b0), .second, .val (.long c0), .second, .val (.long d0), .second, .val (.int ff), .val (.long aa), .second, .val (.long bb), .second, .val (.long cc), .second, .val (.long dd), .second, .val (.ref vv), .val (.int (2 : Int32)), .val (.int i19), .val (.int i20), .val (.int i21), .val (.ref so), .val (.int (1 : Int32))] [(.int (3 : Int32)), (.int (2 : Int32))]))
            refine own_by (fun t k => XS.icmpYes Xc0_13.here hx rfl (pc0 := 352) (pc' := 381) rfl (hb hby at_352) rfl (tlt (by decide : (2 : Int32) < (3 : Int32))).1 (by decide) (by decide) k) ?_
            show own_Go _ _ _ _ (Tc0_13.setTop (mkF m 381 #[.val (.long aa), .second, .val (.long b0), .second, .val (.long c0), .second, .val (.long d0), .second, .val (.int ff), .val (.long aa), .second, .val (.long bb), .second, .val (.long cc), .second, .val (.long dd), .second, .val (.ref vv), .val (.int (2 : Int32)), .val (.int i19), .val (.int i20), .val (.int i21), .val (.ref so), .val (.int (1 : Int32))] []))
            refine own_by (fun t k => XS.iload Xc0_13.here hx rfl (hb hby at_381) rfl k) ?_
            show own_Go _ _ _ _ (Tc0_13.setTop (mkF m 383 #[.val (.long aa), .second, .val (.long b0), .second, .val (.long c0), .second, .val (.long d0), .second, .val (.int ff), .val (.long aa), .second, .val (.long bb), .second, .val (.long cc), .second, .val (.long dd), .second, .val (.ref vv), .val (.int (2 : Int32)), .val (.int i19), .val (.int i20), .val (.int i21), .val (.ref so), .val (.int (1 : Int32))] [(.int (1 : Int32))]))
            obtain ⟨fs, hr, hrun, hended, hW, hsame⟩ := Xc0_13.leave (v := some (.int (1 : Int32))) (fun h => by rw [Bd.returns] at h; cases h)
            refine ⟨_, _, retN Xc0_13 hx (t := .boolean) Bd.returns (by simp) (hb hby at_383) hr, hrun, hended, _, _, rfl, ?_, ⟨_, rfl⟩, hW, hsame.mono (by decide) (by decide)⟩
            show Q0 Z aa b0 c0 d0 ff h0 n0 _ Tc0_13.heap _
            rw [ehc0_13]
            exact ⟨rfl, Nc0_13⟩
          · show own_Go _ _ _ _ (Tc0_8.setTop (mkF m 296 #[.val (.long aa), .second, .val (.long b0), .second, .val (.long c0), .second, .val (.long d0), .second, .val (.int ff), .val (.long aa), .second, .val (.long bb), .second, .val (.long cc), .second, .val (.long dd), .second, .val (.ref vv), .val (.int (3 : Int32)), .val (.int i19), .val (.int i20), .val (.int i21), .val (.ref so), .unset] []))
            show own_Go _ _ _ _ (Tc0_8.setTop (mkF m 296 #[.val (.long aa), .second, .val (.long b0), .second, .val (.long c0), .second, .val (.long d0), .second, .val (.int ff), .val (.long aa), .second, .val (.long bb), .second, .val (.long cc), .second, .val (.long dd), .second, .val (.ref vv), .val (.int (3 : Int32)), .val (.int i19), .val (.int i20), .val (.int i21), .val (.ref so), .unset] []))
            refine own_by (fun t k => XS.aload Xc0_8.here hx rfl (hb hby at_296) rfl rfl k) ?_
            show own_Go _ _ _ _ (Tc0_8.setTop (mkF m 298 #[.val (.long aa), .second, .val (.long b0), .second, .val (.long c0), .second, .val (.long d0), .second, .val (.int ff), .val (.long aa), .second, .val (.long bb), .second, .val (.long cc), .second, .val (.long dd), .second, .val (.ref vv), .val (.int (3 : Int32)), .val (.int i19), .val (.int i20), .val (.int i21), .val (.ref so), .unset] [(.ref so)]))
            refine own_by (fun t k => XS.iconst Xc0_8.here hx rfl (hb hby at_298) k) ?_
            show own_Go _ _ _ _ (Tc0_8.setTop (mkF m 299 #[.val (.long aa), .second, .val (.long b0), .second, .val (.long c0), .second, .val (.long d0), .second, .val (.int ff), .val (.long aa), .second, .val (.long bb), .second, .val (.long cc), .second, .val (.long dd), .second, .val (.ref vv), .val (.int (3 : Int32)), .val (.int i19), .val (.int i20), .val (.int i21), .val (.ref so), .unset] [(.int (0 : Int32)), (.ref so)]))
            obtain ⟨cqc0_15, kqc0_15, qc0_15a, qc0_15b, qc0_15c⟩ := isOf hZ ehc0_8 E_so
            obtain ⟨_, _, ⟨Tc0_15, Lc0_15, kc0_15, nc0_15⟩, -, Xc0_15, ⟨Lcc0_15, hQc0_15, lc0_15, yc0_15, zc0_15⟩, stc0_15⟩ := Xc0_8.virtualBack hx (y := (⟨"com/example/water_clock/waterclock/SubWindowCounts", "index", "(I)J"⟩ : MethodName)) (z := (⟨"com/example/water_clock/waterclock/SubWindowCounts", "index", "(I)J"⟩ : MethodName)) hown (mvT hZ (hw _ (List.mem_of_getElem? (i := 44) rfl))) (mvT hZ (hw _ (List.mem_of_getElem? (i := 45) rfl))) (notFace_of_selects (args := #[]) (mvT hZ (hw _ (List.mem_of_getElem? (i := 47) rfl)))) (mvT hZ (hw _ (List.mem_of_getElem? (i := 47) rfl))) (mvT hZ (hw _ (List.mem_of_getElem? (i := 46) rfl))) (by decide) (backOf (W := 0) (rm7 l Z a0 hw [] so (0 : Int32) ia f3 0 I4 Tc0_7.heap n0 Zs_c0_7 F_indices_so F_first_so V_ia rfl (by omega)) hZ (hw _ (List.mem_of_getElem? (i := 48) rfl)) (hw _ (List.mem_of_getElem? (i := 3) rfl)) (by decide) (by decide)) qc0_15a qc0_15c (g := (mkF m 299 #[.val (.long aa), .second, .val (.long b0), .second, .val (.long c0), .second, .val (.long d0), .second, .val (.int ff), .val (.long aa), .second, .val (.long bb), .second, .val (.long cc), .second, .val (.long dd), .second, .val (.ref vv), .val (.int (3 : Int32)), .val (.int i19), .val (.int i20), .val (.int i21), .val (.ref so), .unset] [(.int (0 : Int32)), (.ref so)])) rfl (by rw [hml]; rfl) (Steps.refl _) (argsL := [(.int (0 : Int32))]) (rest := []) (lenOf pd_0_4 rfl) rfl (by show 2 * 0 + _ ≤ _; exact Nat.le_of_eq rfl) (hb hby at_299) (fun _ _ => ⟨rfl, ehc0_8, (by decide : 4 + 0 ≤ _), (by decide : 16 + 0 ≤ _)⟩)
            dsimp only [Pt.U, Pt.locs, Pt.cells, Pt.slots] at Xc0_15 lc0_15 yc0_15 zc0_15 stc0_15 hQc0_15
            subst lc0_15 yc0_15 zc0_15
            obtain ⟨rfl, Nc0_15q, ehc0_15⟩ := hQc0_15
            have Nc0_15 := Fr.app Nc0_8 Nc0_15q
            refine own_by (fun t k => stc0_15.trans k) ?_
            show own_Go _ _ _ _ (Tc0_15.setTop (mkF m 302 #[.val (.long aa), .second, .val (.long b0), .second, .val (.long c0), .second, .val (.long d0), .second, .val (.int ff), .val (.long aa), .second, .val (.long bb), .second, .val (.long cc), .second, .val (.long dd), .second, .val (.ref vv), .val (.int (3 : Int32)), .val (.int i19), .val (.int i20), .val (.int i21), .val (.ref so), .unset] [(.long (I4 (f3 + 0)))]))
            refine own_by (fun t k => XS.aload Xc0_15.here hx rfl (hb hby at_302) rfl rfl k) ?_
            show own_Go _ _ _ _ (Tc0_15.setTop (mkF m 304 #[.val (.long aa), .second, .val (.long b0), .second, .val (.long c0), .second, .val (.long d0), .second, .val (.int ff), .val (.long aa), .second, .val (.long bb), .second, .val (.long cc), .second, .val (.long dd), .second, .val (.ref vv), .val (.int (3 : Int32)), .val (.int i19), .val (.int i20), .val (.int i21), .val (.ref so), .unset] [(.ref vv), (.long (I4 (f3 + 0)))]))
            refine own_by (fun t k => XS.iconst Xc0_15.here hx rfl (hb hby at_304) k) ?_
            show own_Go _ _ _ _ (Tc0_15.setTop (mkF m 305 #[.val (.long aa), .second, .val (.long b0), .second, .val (.long c0), .second, .val (.long d0), .second, .val (.int ff), .val (.long aa), .second, .val (.long bb), .second, .val (.long cc), .second, .val (.long dd), .second, .val (.ref vv), .val (.int (3 : Int32)), .val (.int i19), .val (.int i20), .val (.int i21), .val (.ref so), .unset] [(.int (0 : Int32)), (.ref vv), (.long (I4 (f3 + 0)))]))
            obtain ⟨clr0_16, Arr0_16, hir0_16, har0_16⟩ := V_vv.at (j := (0 : Int32)) ⟨by decide, by decide⟩
            replace har0_16 := har0_16.trans (congrArg some rfl)
            refine own_by (fun t k => Xc0_15.laload hx (j := (0 : Int32)) (v := (.long (gg 0))) (by rw [ehc0_15]; exact Arr0_16.1) (State.isArrayOf_alike hZ.alike Arr0_16.2.1) Arr0_16.2.2 hir0_16 har0_16 (g := (mkF m 305 #[.val (.long aa), .second, .val (.long b0), .second, .val (.long c0), .second, .val (.long d0), .second, .val (.int ff), .val (.long aa), .second, .val (.long bb), .second, .val (.long cc), .second, .val (.long dd), .second, .val (.ref vv), .val (.int (3 : Int32)), .val (.int i19), .val (.int i20), .val (.int i21), .val (.ref so), .unset] [(.int (0 : Int32)), (.ref vv), (.long (I4 (f3 + 0)))])) rfl rfl (hb hby at_305) _ k) ?_
            show own_Go _ _ _ _ (Tc0_15.setTop (mkF m 306 #[.val (.long aa), .second, .val (.long b0), .second, .val (.long c0), .second, .val (.long d0), .second, .val (.int ff), .val (.long aa), .second, .val (.long bb), .second, .val (.long cc), .second, .val (.long dd), .second, .val (.ref vv), .val (.int (3 : Int32)), .val (.int i19), .val (.int i20), .val (.int i21), .val (.ref so), .unset] [(.long (gg 0)), (.long (I4 (f3 + 0)))]))
            refine own_by (fun t k => XS.lcmp Xc0_15.here hx rfl (hb hby at_306) rfl k) ?_
            show own_Go _ _ _ _ (Tc0_15.setTop (mkF m 307 #[.val (.long aa), .second, .val (.long b0), .second, .val (.long c0), .second, .val (.long d0), .second, .val (.int ff), .val (.long aa), .second, .val (.long bb), .second, .val (.long cc), .second, .val (.long dd), .second, .val (.ref vv), .val (.int (3 : Int32)), .val (.int i19), .val (.int i20), .val (.int i21), .val (.ref so), .unset] [(.int (lcmpW (I4 (f3 + 0)) (gg 0)))]))
            refine own_by (fun t k => XS.ifNo Xc0_15.here hx rfl (hb hby at_307) rfl ((if0 _ _).trans (teq ((lw_eq _ _).mpr (huq 0 (by omega) : (I4 (f3 + 0)) = (gg 0)))).2) k) ?_
            show own_Go _ _ _ _ (Tc0_15.setTop (mkF m 310 #[.val (.long aa), .second, .val (.long b0), .second, .val (.long c0), .second, .val (.long d0), .second, .val (.int ff), .val (.long aa), .second, .val (.long bb), .second, .val (.long cc), .second, .val (.long dd), .second, .val (.ref vv), .val (.int (3 : Int32)), .val (.int i19), .val (.int i20), .val (.int i21), .val (.ref so), .unset] []))
            refine own_by (fun t k => XS.iconst Xc0_15.here hx rfl (hb hby at_310) k) ?_
            show own_Go _ _ _ _ (Tc0_15.setTop (mkF m 311 #[.val (.long aa), .second, .val (.long b0), .second, .val (.long c0), .second, .val (.long d0), .second, .val (.int ff), .val (.long aa), .second, .val (.long bb), .second, .val (.long cc), .second, .val (.long dd), .second, .val (.ref vv), .val (.int (3 : Int32)), .val (.int i19), .val (.int i20), .val (.int i21), .val (.ref so), .unset] [(.int (1 : Int32))]))
            refine own_by (fun t k => XS.goto Xc0_15.here hx rfl (pc0 := 311) (pc' := 315) rfl (hb hby at_311) (by decide) (by decide) k) ?_
            show own_Go _ _ _ _ (Tc0_15.setTop (mkF m 315 #[.val (.long aa), .second, .val (.long b0), .second, .val (.long c0), .second, .val (.long d0), .second, .val (.int ff), .val (.long aa), .second, .val (.long bb), .second, .val (.long cc), .second, .val (.long dd), .second, .val (.ref vv), .val (.int (3 : Int32)), .val (.int i19), .val (.int i20), .val (.int i21), .val (.ref so), .unset] [(.int (1 : Int32))]))
            refine own_by (fun t k => XS.istore Xc0_15.here hx rfl (hb hby at_315) rfl (l' := #[.val (.long aa), .second, .val (.long b0), .second, .val (.long c0), .second, .val (.long d0), .second, .val (.int ff), .val (.long aa), .second, .val (.long bb), .second, .val (.long cc), .second, .val (.long dd), .second, .val (.ref vv), .val (.int (3 : Int32)), .val (.int i19), .val (.int i20), .val (.int i21), .val (.ref so), .val (.int (1 : Int32))]) rfl k) ?_
            show own_Go _ _ _ _ (Tc0_15.setTop (mkF m 317 #[.val (.long aa), .second, .val (.long b0), .second, .val (.long c0), .second, .val (.long d0), .second, .val (.int ff), .val (.long aa), .second, .val (.long bb), .second, .val (.long cc), .second, .val (.long dd), .second, .val (.ref vv), .val (.int (3 : Int32)), .val (.int i19), .val (.int i20), .val (.int i21), .val (.ref so), .val (.int (1 : Int32))] []))
            refine own_by (fun t k => XS.iload Xc0_15.here hx rfl (hb hby at_317) rfl k) ?_
            show own_Go _ _ _ _ (Tc0_15.setTop (mkF m 319 #[.val (.long aa), .second, .val (.long b0), .second, .val (.long c0), .second, .val (.long d0), .second, .val (.int ff), .val (.long aa), .second, .val (.long bb), .second, .val (.long cc), .second, .val (.long dd), .second, .val (.ref vv), .val (.int (3 : Int32)), .val (.int i19), .val (.int i20), .val (.int i21), .val (.ref so), .val (.int (1 : Int32))] [(.int (3 : Int32))]))
            refine own_by (fun t k => XS.iconst Xc0_15.here hx rfl (hb hby at_319) k) ?_
            show own_Go _ _ _ _ (Tc0_15.setTop (mkF m 320 #[.val (.long aa), .second, .val (.long b0), .second, .val (.long c0), .second, .val (.long d0), .second, .val (.int ff), .val (.long aa), .second, .val (.long bb), .second, .val (.long cc), .second, .val (.long dd), .second, .val (.ref vv), .val (.int (3 : Int32)), .val (.int i19), .val (.int i20), .val (.int i21), .val (.ref so), .val (.int (1 : Int32))] [(.int (2 : Int32)), (.int (3 : Int32))]))
            refine own_by (fun t k => XS.icmpNo Xc0_15.here hx rfl (hb hby at_320) rfl (flt (by decide : ¬ ((3 : Int32) < (2 : Int32)))).1 k) ?_
            show own_Go _ _ _ _ (Tc0_15.setTop (mkF m 323 #[.val (.long aa), .second, .val (.long b0), .second, .val (.long c0), .second, .val (.long d0), .second, .val (.int ff), .val (.long aa), .second, .val (.long bb), .second, .val (.long cc), .second, .val (.long dd), .second, .val (.ref vv), .val (.int (3 : Int32)), .val (.int i19), .val (.int i20), .val (.int i21), .val (.ref so), .val (.int (1 : Int32))] []))
            refine own_by (fun t k => XS.iload Xc0_15.here hx rfl (hb hby at_323) rfl k) ?_
            show own_Go _ _ _ _ (Tc0_15.setTop (mkF m 325 #[.val (.long aa), .second, .val (.long b0), .second, .val (.long c0), .second, .val (.long d0), .second, .val (.int ff), .val (.long aa), .second, .val (.long bb), .second, .val (.long cc), .second, .val (.long dd), .second, .val (.ref vv), .val (.int (3 : Int32)), .val (.int i19), .val (.int i20), .val (.int i21), .val (.ref so), .val (.int (1 : Int32))] [(.int (1 : Int32))]))
            refine own_by (fun t k => XS.ifNo Xc0_15.here hx rfl (hb hby at_325) rfl ((if0 _ _).trans (feq (by decide : ¬ ((1 : Int32) = (0 : Int32)))).1) k) ?_
            show own_Go _ _ _ _ (Tc0_15.setTop (mkF m 328 #[.val (.long aa), .second, .val (.long b0), .second, .val (.long c0), .second, .val (.long d0), .second, .val (.int ff), .val (.long aa), .second, .val (.long bb), .second, .val (.long cc), .second, .val (.long dd), .second, .val (.ref vv), .val (.int (3 : Int32)), .val (.int i19), .val (.int i20), .val (.int i21), .val (.ref so), .val (.int (1 : Int32))] []))
            refine own_by (fun t k => XS.aload Xc0_15.here hx rfl (hb hby at_328) rfl rfl k) ?_
            show own_Go _ _ _ _ (Tc0_15.setTop (mkF m 330 #[.val (.long aa), .second, .val (.long b0), .second, .val (.long c0), .second, .val (.long d0), .second, .val (.int ff), .val (.long aa), .second, .val (.long bb), .second, .val (.long cc), .second, .val (.long dd), .second, .val (.ref vv), .val (.int (3 : Int32)), .val (.int i19), .val (.int i20), .val (.int i21), .val (.ref so), .val (.int (1 : Int32))] [(.ref so)]))
            refine own_by (fun t k => XS.iconst Xc0_15.here hx rfl (hb hby at_330) k) ?_
            show own_Go _ _ _ _ (Tc0_15.setTop (mkF m 331 #[.val (.long aa), .second, .val (.long b0), .second, .val (.long c0), .second, .val (.long d0), .second, .val (.int ff), .val (.long aa), .second, .val (.long bb), .second, .val (.long cc), .second, .val (.long dd), .second, .val (.ref vv), .val (.int (3 : Int32)), .val (.int i19), .val (.int i20), .val (.int i21), .val (.ref so), .val (.int (1 : Int32))] [(.int (1 : Int32)), (.ref so)]))
            obtain ⟨cqc0_17, kqc0_17, qc0_17a, qc0_17b, qc0_17c⟩ := isOf hZ ehc0_15 E_so
            obtain ⟨_, _, ⟨Tc0_17, Lc0_17, kc0_17, nc0_17⟩, -, Xc0_17, ⟨Lcc0_17, hQc0_17, lc0_17, yc0_17, zc0_17⟩, stc0_17⟩ := Xc0_15.virtualBack hx (y := (⟨"com/example/water_clock/waterclock/SubWindowCounts", "index", "(I)J"⟩ : MethodName)) (z := (⟨"com/example/water_clock/waterclock/SubWindowCounts", "index", "(I)J"⟩ : MethodName)) hown (mvT hZ (hw _ (List.mem_of_getElem? (i := 44) rfl))) (mvT hZ (hw _ (List.mem_of_getElem? (i := 45) rfl))) (notFace_of_selects (args := #[]) (mvT hZ (hw _ (List.mem_of_getElem? (i := 47) rfl)))) (mvT hZ (hw _ (List.mem_of_getElem? (i := 47) rfl))) (mvT hZ (hw _ (List.mem_of_getElem? (i := 46) rfl))) (by decide) (backOf (W := 0) (rm7 l Z a0 hw [] so (1 : Int32) ia f3 1 I4 Tc0_7.heap n0 Zs_c0_7 F_indices_so F_first_so V_ia rfl (by omega)) hZ (hw _ (List.mem_of_getElem? (i := 48) rfl)) (hw _ (List.mem_of_getElem? (i := 3) rfl)) (by decide) (by decide)) qc0_17a qc0_17c (g := (mkF m 331 #[.val (.long aa), .second, .val (.long b0), .second, .val (.long c0), .second, .val (.long d0), .second, .val (.int ff), .val (.long aa), .second, .val (.long bb), .second, .val (.long cc), .second, .val (.long dd), .second, .val (.ref vv), .val (.int (3 : Int32)), .val (.int i19), .val (.int i20), .val (.int i21), .val (.ref so), .val (.int (1 : Int32))] [(.int (1 : Int32)), (.ref so)])) rfl (by rw [hml]; rfl) (Steps.refl _) (argsL := [(.int (1 : Int32))]) (rest := []) (lenOf pd_0_4 rfl) rfl (by show 2 * 0 + _ ≤ _; exact Nat.le_of_eq rfl) (hb hby at_331) (fun _ _ => ⟨rfl, ehc0_15, (by decide : 4 + 0 ≤ _), (by decide : 16 + 0 ≤ _)⟩)
            dsimp only [Pt.U, Pt.locs, Pt.cells, Pt.slots] at Xc0_17 lc0_17 yc0_17 zc0_17 stc0_17 hQc0_17
            subst lc0_17 yc0_17 zc0_17
            obtain ⟨rfl, Nc0_17q, ehc0_17⟩ := hQc0_17
            have Nc0_17 := Fr.app Nc0_15 Nc0_17q
            refine own_by (fun t k => stc0_17.trans k) ?_
            show own_Go _ _ _ _ (Tc0_17.setTop (mkF m 334 #[.val (.long aa), .second, .val (.long b0), .second, .val (.long c0), .second, .val (.long d0), .second, .val (.int ff), .val (.long aa), .second, .val (.long bb), .second, .val (.long cc), .second, .val (.long dd), .second, .val (.ref vv), .val (.int (3 : Int32)), .val (.int i19), .val (.int i20), .val (.int i21), .val (.ref so), .val (.int (1 : Int32))] [(.long (I4 (f3 + 1)))]))
            refine own_by (fun t k => XS.aload Xc0_17.here hx rfl (hb hby at_334) rfl rfl k) ?_
            show own_Go _ _ _ _ (Tc0_17.setTop (mkF m 336 #[.val (.long aa), .second, .val (.long b0), .second, .val (.long c0), .second, .val (.long d0), .second, .val (.int ff), .val (.long aa), .second, .val (.long bb), .second, .val (.long cc), .second, .val (.long dd), .second, .val (.ref vv), .val (.int (3 : Int32)), .val (.int i19), .val (.int i20), .val (.int i21), .val (.ref so), .val (.int (1 : Int32))] [(.ref vv), (.long (I4 (f3 + 1)))]))
            refine own_by (fun t k => XS.iconst Xc0_17.here hx rfl (hb hby at_336) k) ?_
            show own_Go _ _ _ _ (Tc0_17.setTop (mkF m 337 #[.val (.long aa), .second, .val (.long b0), .second, .val (.long c0), .second, .val (.long d0), .second, .val (.int ff), .val (.long aa), .second, .val (.long bb), .second, .val (.long cc), .second, .val (.long dd), .second, .val (.ref vv), .val (.int (3 : Int32)), .val (.int i19), .val (.int i20), .val (.int i21), .val (.ref so), .val (.int (1 : Int32))] [(.int (1 : Int32)), (.ref vv), (.long (I4 (f3 + 1)))]))
            obtain ⟨clr0_18, Arr0_18, hir0_18, har0_18⟩ := V_vv.at (j := (1 : Int32)) ⟨by decide, by decide⟩
            replace har0_18 := har0_18.trans (congrArg some rfl)
            refine own_by (fun t k => Xc0_17.laload hx (j := (1 : Int32)) (v := (.long (gg 1))) (by rw [ehc0_17]; exact Arr0_18.1) (State.isArrayOf_alike hZ.alike Arr0_18.2.1) Arr0_18.2.2 hir0_18 har0_18 (g := (mkF m 337 #[.val (.long aa), .second, .val (.long b0), .second, .val (.long c0), .second, .val (.long d0), .second, .val (.int ff), .val (.long aa), .second, .val (.long bb), .second, .val (.long cc), .second, .val (.long dd), .second, .val (.ref vv), .val (.int (3 : Int32)), .val (.int i19), .val (.int i20), .val (.int i21), .val (.ref so), .val (.int (1 : Int32))] [(.int (1 : Int32)), (.ref vv), (.long (I4 (f3 + 1)))])) rfl rfl (hb hby at_337) _ k) ?_
            show own_Go _ _ _ _ (Tc0_17.setTop (mkF m 338 #[.val (.long aa), .second, .val (.long b0), .second, .val (.long c0), .second, .val (.long d0), .second, .val (.int ff), .val (.long aa), .second, .val (.long bb), .second, .val (.long cc), .second, .val (.long dd), .second, .val (.ref vv), .val (.int (3 : Int32)), .val (.int i19), .val (.int i20), .val (.int i21), .val (.ref so), .val (.int (1 : Int32))] [(.long (gg 1)), (.long (I4 (f3 + 1)))]))
            refine own_by (fun t k => XS.lcmp Xc0_17.here hx rfl (hb hby at_338) rfl k) ?_
            show own_Go _ _ _ _ (Tc0_17.setTop (mkF m 339 #[.val (.long aa), .second, .val (.long b0), .second, .val (.long c0), .second, .val (.long d0), .second, .val (.int ff), .val (.long aa), .second, .val (.long bb), .second, .val (.long cc), .second, .val (.long dd), .second, .val (.ref vv), .val (.int (3 : Int32)), .val (.int i19), .val (.int i20), .val (.int i21), .val (.ref so), .val (.int (1 : Int32))] [(.int (lcmpW (I4 (f3 + 1)) (gg 1)))]))
            refine own_by (fun t k => XS.ifNo Xc0_17.here hx rfl (hb hby at_339) rfl ((if0 _ _).trans (teq ((lw_eq _ _).mpr (huq 1 (by omega) : (I4 (f3 + 1)) = (gg 1)))).2) k) ?_
            show own_Go _ _ _ _ (Tc0_17.setTop (mkF m 342 #[.val (.long aa), .second, .val (.long b0), .second, .val (.long c0), .second, .val (.long d0), .second, .val (.int ff), .val (.long aa), .second, .val (.long bb), .second, .val (.long cc), .second, .val (.long dd), .second, .val (.ref vv), .val (.int (3 : Int32)), .val (.int i19), .val (.int i20), .val (.int i21), .val (.ref so), .val (.int (1 : Int32))] []))
            refine own_by (fun t k => XS.iconst Xc0_17.here hx rfl (hb hby at_342) k) ?_
            show own_Go _ _ _ _ (Tc0_17.setTop (mkF m 343 #[.val (.long aa), .second, .val (.long b0), .second, .val (.long c0), .second, .val (.long d0), .second, .val (.int ff), .val (.long aa), .second, .val (.long bb), .second, .val (.long cc), .second, .val (.long dd), .second, .val (.ref vv), .val (.int (3 : Int32)), .val (.int i19), .val (.int i20), .val (.int i21), .val (.ref so), .val (.int (1 : Int32))] [(.int (1 : Int32))]))
            refine own_by (fun t k => XS.goto Xc0_17.here hx rfl (pc0 := 343) (pc' := 347) rfl (hb hby at_343) (by decide) (by decide) k) ?_
            show own_Go _ _ _ _ (Tc0_17.setTop (mkF m 347 #[.val (.long aa), .second, .val (.long b0), .second, .val (.long c0), .second, .val (.long d0), .second, .val (.int ff), .val (.long aa), .second, .val (.long bb), .second, .val (.long cc), .second, .val (.long dd), .second, .val (.ref vv), .val (.int (3 : Int32)), .val (.int i19), .val (.int i20), .val (.int i21), .val (.ref so), .val (.int (1 : Int32))] [(.int (1 : Int32))]))
            refine own_by (fun t k => XS.istore Xc0_17.here hx rfl (hb hby at_347) rfl (l' := #[.val (.long aa), .second, .val (.long b0), .second, .val (.long c0), .second, .val (.long d0), .second, .val (.int ff), .val (.long aa), .second, .val (.long bb), .second, .val (.long cc), .second, .val (.long dd), .second, .val (.ref vv), .val (.int (3 : Int32)), .val (.int i19), .val (.int i20), .val (.int i21), .val (.ref so), .val (.int (1 : Int32))]) rfl k) ?_
            show own_Go _ _ _ _ (Tc0_17.setTop (mkF m 349 #[.val (.long aa), .second, .val (.long b0), .second, .val (.long c0), .second, .val (.long d0), .second, .val (.int ff), .val (.long aa), .second, .val (.long bb), .second, .val (.long cc), .second, .val (.long dd), .second, .val (.ref vv), .val (.int (3 : Int32)), .val (.int i19), .val (.int i20), .val (.int i21), .val (.ref so), .val (.int (1 : Int32))] []))
            refine own_by (fun t k => XS.iload Xc0_17.here hx rfl (hb hby at_349) rfl k) ?_
            show own_Go _ _ _ _ (Tc0_17.setTop (mkF m 351 #[.val (.long aa), .second, .val (.long b0), .second, .val (.long c0), .second, .val (.long d0), .second, .val (.int ff), .val (.long aa), .second, .val (.long bb), .second, .val (.long cc), .second, .val (.long dd), .second, .val (.ref vv), .val (.int (3 : Int32)), .val (.int i19), .val (.int i20), .val (.int i21), .val (.ref so), .val (.int (1 : Int32))] [(.int (3 : Int32))]))
            refine own_by (fun t k => XS.iconst Xc0_17.here hx rfl (hb hby at_351) k) ?_
            show own_Go _ _ _ _ (Tc0_17.setTop (mkF m 352 #[.val (.long aa), .second, .val (.long b0), .second, .val (.long c0), .second, .val (.long d0), .second, .val (.int ff), .val (.long aa), .second, .val (.long bb), .second, .val (.long cc), .second, .val (.long dd), .second, .val (.ref vv), .val (.int (3 : Int32)), .val (.int i19), .val (.int i20), .val (.int i21), .val (.ref so), .val (.int (1 : Int32))] [(.int (3 : Int32)), (.int (3 : Int32))]))
            refine own_by (fun t k => XS.icmpNo Xc0_17.here hx rfl (hb hby at_352) rfl (flt (by decide : ¬ ((3 : Int32) < (3 : Int32)))).1 k) ?_
            show own_Go _ _ _ _ (Tc0_17.setTop (mkF m 355 #[.val (.long aa), .second, .val (.long b0), .second, .val (.long c0), .second, .val (.long d0), .second, .val (.int ff), .val (.long aa), .second, .val (.long bb), .second, .val (.long cc), .second, .val (.long dd), .second, .val (.ref vv), .val (.int (3 : Int32)), .val (.int i19), .val (.int i20), .val (.int i21), .val (.ref so), .val (.int (1 : Int32))] []))
            refine own_by (fun t k => XS.iload Xc0_17.here hx rfl (hb hby at_355) rfl k) ?_
            show own_Go _ _ _ _ (Tc0_17.setTop (mkF m 357 #[.val (.long aa), .second, .val (.long b0), .second, .val (.long c0), .second, .val (.long d0), .second, .val (.int ff), .val (.long aa), .second, .val (.long bb), .second, .val (.long cc), .second, .val (.long dd), .second, .val (.ref vv), .val (.int (3 : Int32)), .val (.int i19), .val (.int i20), .val (.int i21), .val (.ref so), .val (.int (1 : Int32))] [(.int (1 : Int32))]))
            refine own_by (fun t k => XS.ifNo Xc0_17.here hx rfl (hb hby at_357) rfl ((if0 _ _).trans (feq (by decide : ¬ ((1 : Int32) = (0 : Int32)))).1) k) ?_
            show own_Go _ _ _ _ (Tc0_17.setTop (mkF m 360 #[.val (.long aa), .second, .val (.long b0), .second, .val (.long c0), .second, .val (.long d0), .second, .val (.int ff), .val (.long aa), .second, .val (.long bb), .second, .val (.long cc), .second, .val (.long dd), .second, .val (.ref vv), .val (.int (3 : Int32)), .val (.int i19), .val (.int i20), .val (.int i21), .val (.ref so), .val (.int (1 : Int32))] []))
            refine own_by (fun t k => XS.aload Xc0_17.here hx rfl (hb hby at_360) rfl rfl k) ?_
            show own_Go _ _ _ _ (Tc0_17.setTop (mkF m 362 #[.val (.long aa), .second, .val (.long b0), .second, .val (.long c0), .second, .val (.long d0), .second, .val (.int ff), .val (.long aa), .second, .val (.long bb), .second, .val (.long cc), .second, .val (.long dd), .second, .val (.ref vv), .val (.int (3 : Int32)), .val (.int i19), .val (.int i20), .val (.int i21), .val (.ref so), .val (.int (1 : Int32))] [(.ref so)]))
            refine own_by (fun t k => XS.iconst Xc0_17.here hx rfl (hb hby at_362) k) ?_
            show own_Go _ _ _ _ (Tc0_17.setTop (mkF m 363 #[.val (.long aa), .second, .val (.long b0), .second, .val (.long c0), .second, .val (.long d0), .second, .val (.int ff), .val (.long aa), .second, .val (.long bb), .second, .val (.long cc), .second, .val (.long dd), .second, .val (.ref vv), .val (.int (3 : Int32)), .val (.int i19), .val (.int i20), .val (.int i21), .val (.ref so), .val (.int (1 : Int32))] [(.int (2 : Int32)), (.ref so)]))
            obtain ⟨cqc0_19, kqc0_19, qc0_19a, qc0_19b, qc0_19c⟩ := isOf hZ ehc0_17 E_so
            obtain ⟨_, _, ⟨Tc0_19, Lc0_19, kc0_19, nc0_19⟩, -, Xc0_19, ⟨Lcc0_19, hQc0_19, lc0_19, yc0_19, zc0_19⟩, stc0_19⟩ := Xc0_17.virtualBack hx (y := (⟨"com/example/water_clock/waterclock/SubWindowCounts", "index", "(I)J"⟩ : MethodName)) (z := (⟨"com/example/water_clock/waterclock/SubWindowCounts", "index", "(I)J"⟩ : MethodName)) hown (mvT hZ (hw _ (List.mem_of_getElem? (i := 44) rfl))) (mvT hZ (hw _ (List.mem_of_getElem? (i := 45) rfl))) (notFace_of_selects (args := #[]) (mvT hZ (hw _ (List.mem_of_getElem? (i := 47) rfl)))) (mvT hZ (hw _ (List.mem_of_getElem? (i := 47) rfl))) (mvT hZ (hw _ (List.mem_of_getElem? (i := 46) rfl))) (by decide) (backOf (W := 0) (rm7 l Z a0 hw [] so (2 : Int32) ia f3 2 I4 Tc0_7.heap n0 Zs_c0_7 F_indices_so F_first_so V_ia rfl (by omega)) hZ (hw _ (List.mem_of_getElem? (i := 48) rfl)) (hw _ (List.mem_of_getElem? (i := 3) rfl)) (by decide) (by decide)) qc0_19a qc0_19c (g := (mkF m 363 #[.val (.long aa), .second, .val (.long b0), .second, .val (.long c0), .second, .val (.long d0), .second, .val (.int ff), .val (.long aa), .second, .val (.long bb), .second, .val (.long cc), .second, .val (.long dd), .second, .val (.ref vv), .val (.int (3 : Int32)), .val (.int i19), .val (.int i20), .val (.int i21), .val (.ref so), .val (.int (1 : Int32))] [(.int (2 : Int32)), (.ref so)])) rfl (by rw [hml]; rfl) (Steps.refl _) (argsL := [(.int (2 : Int32))]) (rest := []) (lenOf pd_0_4 rfl) rfl (by show 2 * 0 + _ ≤ _; exact Nat.le_of_eq rfl) (hb hby at_363) (fun _ _ => ⟨rfl, ehc0_17, (by decide : 4 + 0 ≤ _), (by decide : 16 + 0 ≤ _)⟩)
            dsimp only [Pt.U, Pt.locs, Pt.cells, Pt.slots] at Xc0_19 lc0_19 yc0_19 zc0_19 stc0_19 hQc0_19
            subst lc0_19 yc0_19 zc0_19
            obtain ⟨rfl, Nc0_19q, ehc0_19⟩ := hQc0_19
            have Nc0_19 := Fr.app Nc0_17 Nc0_19q
            refine own_by (fun t k => stc0_19.trans k) ?_
            show own_Go _ _ _ _ (Tc0_19.setTop (mkF m 366 #[.val (.long aa), .second, .val (.long b0), .second, .val (.long c0), .second, .val (.long d0), .second, .val (.int ff), .val (.long aa), .second, .val (.long bb), .second, .val (.long cc), .second, .val (.long dd), .second, .val (.ref vv), .val (.int (3 : Int32)), .val (.int i19), .val (.int i20), .val (.int i21), .val (.ref so), .val (.int (1 : Int32))] [(.long (I4 (f3 + 2)))]))
            refine own_by (fun t k => XS.aload Xc0_19.here hx rfl (hb hby at_366) rfl rfl k) ?_
            show own_Go _ _ _ _ (Tc0_19.setTop (mkF m 368 #[.val (.long aa), .second, .val (.long b0), .second, .val (.long c0), .second, .val (.long d0), .second, .val (.int ff), .val (.long aa), .second, .val (.long bb), .second, .val (.long cc), .second, .val (.long dd), .second, .val (.ref vv), .val (.int (3 : Int32)), .val (.int i19), .val (.int i20), .val (.int i21), .val (.ref so), .val (.int (1 : Int32))] [(.ref vv), (.long (I4 (f3 + 2)))]))
            refine own_by (fun t k => XS.iconst Xc0_19.here hx rfl (hb hby at_368) k) ?_
            show own_Go _ _ _ _ (Tc0_19.setTop (mkF m 369 #[.val (.long aa), .second, .val (.long b0), .second, .val (.long c0), .second, .val (.long d0), .second, .val (.int ff), .val (.long aa), .second, .val (.long bb), .second, .val (.long cc), .second, .val (.long dd), .second, .val (.ref vv), .val (.int (3 : Int32)), .val (.int i19), .val (.int i20), .val (.int i21), .val (.ref so), .val (.int (1 : Int32))] [(.int (2 : Int32)), (.ref vv), (.long (I4 (f3 + 2)))]))
            obtain ⟨clr0_20, Arr0_20, hir0_20, har0_20⟩ := V_vv.at (j := (2 : Int32)) ⟨by decide, by decide⟩
            replace har0_20 := har0_20.trans (congrArg some rfl)
            refine own_by (fun t k => Xc0_19.laload hx (j := (2 : Int32)) (v := (.long (gg 2))) (by rw [ehc0_19]; exact Arr0_20.1) (State.isArrayOf_alike hZ.alike Arr0_20.2.1) Arr0_20.2.2 hir0_20 har0_20 (g := (mkF m 369 #[.val (.long aa), .second, .val (.long b0), .second, .val (.long c0), .second, .val (.long d0), .second, .val (.int ff), .val (.long aa), .second, .val (.long bb), .second, .val (.long cc), .second, .val (.long dd), .second, .val (.ref vv), .val (.int (3 : Int32)), .val (.int i19), .val (.int i20), .val (.int i21), .val (.ref so), .val (.int (1 : Int32))] [(.int (2 : Int32)), (.ref vv), (.long (I4 (f3 + 2)))])) rfl rfl (hb hby at_369) _ k) ?_
            show own_Go _ _ _ _ (Tc0_19.setTop (mkF m 370 #[.val (.long aa), .second, .val (.long b0), .second, .val (.long c0), .second, .val (.long d0), .second, .val (.int ff), .val (.long aa), .second, .val (.long bb), .second, .val (.long cc), .second, .val (.long dd), .second, .val (.ref vv), .val (.int (3 : Int32)), .val (.int i19), .val (.int i20), .val (.int i21), .val (.ref so), .val (.int (1 : Int32))] [(.long (gg 2)), (.long (I4 (f3 + 2)))]))
            refine own_by (fun t k => XS.lcmp Xc0_19.here hx rfl (hb hby at_370) rfl k) ?_
            show own_Go _ _ _ _ (Tc0_19.setTop (mkF m 371 #[.val (.long aa), .second, .val (.long b0), .second, .val (.long c0), .second, .val (.long d0), .second, .val (.int ff), .val (.long aa), .second, .val (.long bb), .second, .val (.long cc), .second, .val (.long dd), .second, .val (.ref vv), .val (.int (3 : Int32)), .val (.int i19), .val (.int i20), .val (.int i21), .val (.ref so), .val (.int (1 : Int32))] [(.int (lcmpW (I4 (f3 + 2)) (gg 2)))]))
            refine own_by (fun t k => XS.ifNo Xc0_19.here hx rfl (hb hby at_371) rfl ((if0 _ _).trans (teq ((lw_eq _ _).mpr (huq 2 (by omega) : (I4 (f3 + 2)) = (gg 2)))).2) k) ?_
            show own_Go _ _ _ _ (Tc0_19.setTop (mkF m 374 #[.val (.long aa), .second, .val (.long b0), .second, .val (.long c0), .second, .val (.long d0), .second, .val (.int ff), .val (.long aa), .second, .val (.long bb), .second, .val (.long cc), .second, .val (.long dd), .second, .val (.ref vv), .val (.int (3 : Int32)), .val (.int i19), .val (.int i20), .val (.int i21), .val (.ref so), .val (.int (1 : Int32))] []))
            refine own_by (fun t k => XS.iconst Xc0_19.here hx rfl (hb hby at_374) k) ?_
            show own_Go _ _ _ _ (Tc0_19.setTop (mkF m 375 #[.val (.long aa), .second, .val (.long b0), .second, .val (.long c0), .second, .val (.long d0), .second, .val (.int ff), .val (.long aa), .second, .val (.long bb), .second, .val (.long cc), .second, .val (.long dd), .second, .val (.ref vv), .val (.int (3 : Int32)), .val (.int i19), .val (.int i20), .val (.int i21), .val (.ref so), .val (.int (1 : Int32))] [(.int (1 : Int32))]))
            refine own_by (fun t k => XS.goto Xc0_19.here hx rfl (pc0 := 375) (pc' := 379) rfl (hb hby at_375) (by decide) (by decide) k) ?_
            show own_Go _ _ _ _ (Tc0_19.setTop (mkF m 379 #[.val (.long aa), .second, .val (.long b0), .second, .val (.long c0), .second, .val (.long d0), .second, .val (.int ff), .val (.long aa), .second, .val (.long bb), .second, .val (.long cc), .second, .val (.long dd), .second, .val (.ref vv), .val (.int (3 : Int32)), .val (.int i19), .val (.int i20), .val (.int i21), .val (.ref so), .val (.int (1 : Int32))] [(.int (1 : Int32))]))
            refine own_by (fun t k => XS.istore Xc0_19.here hx rfl (hb hby at_379) rfl (l' := #[.val (.long aa), .second, .val (.long b0), .second, .val (.long c0), .second, .val (.long d0), .second, .val (.int ff), .val (.long aa), .second, .val (.long bb), .second, .val (.long cc), .second, .val (.long dd), .second, .val (.ref vv), .val (.int (3 : Int32)), .val (.int i19), .val (.int i20), .val (.int i21), .val (.ref so), .val (.int (1 : Int32))]) rfl k) ?_
            show own_Go _ _ _ _ (Tc0_19.setTop (mkF m 381 #[.val (.long aa), .second, .val (.long b0), .second, .val (.long c0), .second, .val (.long d0), .second, .val (.int ff), .val (.long aa), .second, .val (.long bb), .second, .val (.long cc), .second, .val (.long dd), .second, .val (.ref vv), .val (.int (3 : Int32)), .val (.int i19), .val (.int i20), .val (.int i21), .val (.ref so), .val (.int (1 : Int32))] []))
            refine own_by (fun t k => XS.iload Xc0_19.here hx rfl (hb hby at_381) rfl k) ?_
            show own_Go _ _ _ _ (Tc0_19.setTop (mkF m 383 #[.val (.long aa), .second, .val (.long b0), .second, .val (.long c0), .second, .val (.long d0), .second, .val (.int ff), .val (.long aa), .second, .val (.long bb), .second, .val (.long cc), .second, .val (.long dd), .second, .val (.ref vv), .val (.int (3 : Int32)), .val (.int i19), .val (.int i20), .val (.int i21), .val (.ref so), .val (.int (1 : Int32))] [(.int (1 : Int32))]))
            obtain ⟨fs, hr, hrun, hended, hW, hsame⟩ := Xc0_19.leave (v := some (.int (1 : Int32))) (fun h => by rw [Bd.returns] at h; cases h)
            refine ⟨_, _, retN Xc0_19 hx (t := .boolean) Bd.returns (by simp) (hb hby at_383) hr, hrun, hended, _, _, rfl, ?_, ⟨_, rfl⟩, hW, hsame.mono (by decide) (by decide)⟩
            show Q0 Z aa b0 c0 d0 ff h0 n0 _ Tc0_19.heap _
            rw [ehc0_19]
            exact ⟨rfl, Nc0_19⟩
        have J211 : ∀ (T1 : State) (h1 : Heap) (lo1 : List Loc) (X1 : Stand p l e room_1 s m #[(.long aa), (.long b0), (.long c0), (.long d0), (.int ff)] below meth c T1 lo1 1 3) (q1 : T1.heap = h1) (N1 : Fr n0 lo1) (Zs1 : n0 ≤ h1.size) (mm : Nat) (gg : Nat → Int64) (i19 i20 i21 : Int32), 1 ≤ mm → mm ≤ 3 → (own_Dis gg mm ∧ ∀ yy, own_Mem gg 0 mm yy ↔ ((yy = aa ∧ ¬ aa < dd) ∨ (yy = bb ∧ ¬ bb < dd)) ∨ yy = cc) → own_Ar Z h1 vv .long 3 (fun k => .long (gg k)) → own_Go p.tables e below (P0 Z aa b0 c0 d0 ff h0 n0 s) (T1.setTop (mkF m 211 #[.val (.long aa), .second, .val (.long b0), .second, .val (.long c0), .second, .val (.long d0), .second, .val (.int ff), .val (.long aa), .second, .val (.long bb), .second, .val (.long cc), .second, .val (.long dd), .second, .val (.ref vv), .val (.int (Int32.ofNat mm)), .val (.int i19), .val (.int i20), .val (.int i21), .unset, .unset] [])) := by
          intro T1 h1 lo1 X1 q1 N1 Zs1 mm gg i19 i20 i21 hm1 hm3 hD V_vv
          rcases (show mm = 1 ∨ mm = 2 ∨ mm = 3 by omega) with rfl | rfl | rfl
          · show own_Go _ _ _ _ (T1.setTop (mkF m 211 #[.val (.long aa), .second, .val (.long b0), .second, .val (.long c0), .second, .val (.long d0), .second, .val (.int ff), .val (.long aa), .second, .val (.long bb), .second, .val (.long cc), .second, .val (.long dd), .second, .val (.ref vv), .val (.int (1 : Int32)), .val (.int i19), .val (.int i20), .val (.int i21), .unset, .unset] []))
            show own_Go _ _ _ _ (T1.setTop (mkF m 211 #[.val (.long aa), .second, .val (.long b0), .second, .val (.long c0), .second, .val (.long d0), .second, .val (.int ff), .val (.long aa), .second, .val (.long bb), .second, .val (.long cc), .second, .val (.long dd), .second, .val (.ref vv), .val (.int (1 : Int32)), .val (.int i19), .val (.int i20), .val (.int i21), .unset, .unset] []))
            refine own_by (fun t k => XS.iload X1.here hx rfl (hb hby at_211) rfl k) ?_
            show own_Go _ _ _ _ (T1.setTop (mkF m 213 #[.val (.long aa), .second, .val (.long b0), .second, .val (.long c0), .second, .val (.long d0), .second, .val (.int ff), .val (.long aa), .second, .val (.long bb), .second, .val (.long cc), .second, .val (.long dd), .second, .val (.ref vv), .val (.int (1 : Int32)), .val (.int i19), .val (.int i20), .val (.int i21), .unset, .unset] [(.int (1 : Int32))]))
            refine own_by (fun t k => XS.iconst X1.here hx rfl (hb hby at_213) k) ?_
            show own_Go _ _ _ _ (T1.setTop (mkF m 214 #[.val (.long aa), .second, .val (.long b0), .second, .val (.long c0), .second, .val (.long d0), .second, .val (.int ff), .val (.long aa), .second, .val (.long bb), .second, .val (.long cc), .second, .val (.long dd), .second, .val (.ref vv), .val (.int (1 : Int32)), .val (.int i19), .val (.int i20), .val (.int i21), .unset, .unset] [(.int (2 : Int32)), (.int (1 : Int32))]))
            refine own_by (fun t k => XS.icmpYes X1.here hx rfl (pc0 := 214) (pc' := 224) rfl (hb hby at_214) rfl (tlt (by decide : (1 : Int32) < (2 : Int32))).1 (by decide) (by decide) k) ?_
            show own_Go _ _ _ _ (T1.setTop (mkF m 224 #[.val (.long aa), .second, .val (.long b0), .second, .val (.long c0), .second, .val (.long d0), .second, .val (.int ff), .val (.long aa), .second, .val (.long bb), .second, .val (.long cc), .second, .val (.long dd), .second, .val (.ref vv), .val (.int (1 : Int32)), .val (.int i19), .val (.int i20), .val (.int i21), .unset, .unset] []))
            refine own_by (fun t k => XS.iload X1.here hx rfl (hb hby at_224) rfl k) ?_
            show own_Go _ _ _ _ (T1.setTop (mkF m 226 #[.val (.long aa), .second, .val (.long b0), .second, .val (.long c0), .second, .val (.long d0), .second, .val (.int ff), .val (.long aa), .second, .val (.long bb), .second, .val (.long cc), .second, .val (.long dd), .second, .val (.ref vv), .val (.int (1 : Int32)), .val (.int i19), .val (.int i20), .val (.int i21), .unset, .unset] [(.int (1 : Int32))]))
            refine own_by (fun t k => XS.iconst X1.here hx rfl (hb hby at_226) k) ?_
            show own_Go _ _ _ _ (T1.setTop (mkF m 227 #[.val (.long aa), .second, .val (.long b0), .second, .val (.long c0), .second, .val (.long d0), .second, .val (.int ff), .val (.long aa), .second, .val (.long bb), .second, .val (.long cc), .second, .val (.long dd), .second, .val (.ref vv), .val (.int (1 : Int32)), .val (.int i19), .val (.int i20), .val (.int i21), .unset, .unset] [(.int (3 : Int32)), (.int (1 : Int32))]))
            refine own_by (fun t k => XS.icmpYes X1.here hx rfl (pc0 := 227) (pc' := 244) rfl (hb hby at_227) rfl (feq (by decide : ¬ ((1 : Int32) = (3 : Int32)))).2 (by decide) (by decide) k) ?_
            show own_Go _ _ _ _ (T1.setTop (mkF m 244 #[.val (.long aa), .second, .val (.long b0), .second, .val (.long c0), .second, .val (.long d0), .second, .val (.int ff), .val (.long aa), .second, .val (.long bb), .second, .val (.long cc), .second, .val (.long dd), .second, .val (.ref vv), .val (.int (1 : Int32)), .val (.int i19), .val (.int i20), .val (.int i21), .unset, .unset] []))
            exact J244 _ _ _ X1 q1 N1 Zs1 1 _ _ _ _ (by omega) (by omega) (fun j k _ b c => by omega) hD.2 V_vv
          · show own_Go _ _ _ _ (T1.setTop (mkF m 211 #[.val (.long aa), .second, .val (.long b0), .second, .val (.long c0), .second, .val (.long d0), .second, .val (.int ff), .val (.long aa), .second, .val (.long bb), .second, .val (.long cc), .second, .val (.long dd), .second, .val (.ref vv), .val (.int (2 : Int32)), .val (.int i19), .val (.int i20), .val (.int i21), .unset, .unset] []))
            show own_Go _ _ _ _ (T1.setTop (mkF m 211 #[.val (.long aa), .second, .val (.long b0), .second, .val (.long c0), .second, .val (.long d0), .second, .val (.int ff), .val (.long aa), .second, .val (.long bb), .second, .val (.long cc), .second, .val (.long dd), .second, .val (.ref vv), .val (.int (2 : Int32)), .val (.int i19), .val (.int i20), .val (.int i21), .unset, .unset] []))
            refine own_by (fun t k => XS.iload X1.here hx rfl (hb hby at_211) rfl k) ?_
            show own_Go _ _ _ _ (T1.setTop (mkF m 213 #[.val (.long aa), .second, .val (.long b0), .second, .val (.long c0), .second, .val (.long d0), .second, .val (.int ff), .val (.long aa), .second, .val (.long bb), .second, .val (.long cc), .second, .val (.long dd), .second, .val (.ref vv), .val (.int (2 : Int32)), .val (.int i19), .val (.int i20), .val (.int i21), .unset, .unset] [(.int (2 : Int32))]))
            refine own_by (fun t k => XS.iconst X1.here hx rfl (hb hby at_213) k) ?_
            show own_Go _ _ _ _ (T1.setTop (mkF m 214 #[.val (.long aa), .second, .val (.long b0), .second, .val (.long c0), .second, .val (.long d0), .second, .val (.int ff), .val (.long aa), .second, .val (.long bb), .second, .val (.long cc), .second, .val (.long dd), .second, .val (.ref vv), .val (.int (2 : Int32)), .val (.int i19), .val (.int i20), .val (.int i21), .unset, .unset] [(.int (2 : Int32)), (.int (2 : Int32))]))
            refine own_by (fun t k => XS.icmpNo X1.here hx rfl (hb hby at_214) rfl (flt (by decide : ¬ ((2 : Int32) < (2 : Int32)))).1 k) ?_
            show own_Go _ _ _ _ (T1.setTop (mkF m 217 #[.val (.long aa), .second, .val (.long b0), .second, .val (.long c0), .second, .val (.long d0), .second, .val (.int ff), .val (.long aa), .second, .val (.long bb), .second, .val (.long cc), .second, .val (.long dd), .second, .val (.ref vv), .val (.int (2 : Int32)), .val (.int i19), .val (.int i20), .val (.int i21), .unset, .unset] []))
            refine own_by (fun t k => XS.aload X1.here hx rfl (hb hby at_217) rfl rfl k) ?_
            show own_Go _ _ _ _ (T1.setTop (mkF m 219 #[.val (.long aa), .second, .val (.long b0), .second, .val (.long c0), .second, .val (.long d0), .second, .val (.int ff), .val (.long aa), .second, .val (.long bb), .second, .val (.long cc), .second, .val (.long dd), .second, .val (.ref vv), .val (.int (2 : Int32)), .val (.int i19), .val (.int i20), .val (.int i21), .unset, .unset] [(.ref vv)]))
            refine own_by (fun t k => XS.iconst X1.here hx rfl (hb hby at_219) k) ?_
            show own_Go _ _ _ _ (T1.setTop (mkF m 220 #[.val (.long aa), .second, .val (.long b0), .second, .val (.long c0), .second, .val (.long d0), .second, .val (.int ff), .val (.long aa), .second, .val (.long bb), .second, .val (.long cc), .second, .val (.long dd), .second, .val (.ref vv), .val (.int (2 : Int32)), .val (.int i19), .val (.int i20), .val (.int i21), .unset, .unset] [(.int (0 : Int32)), (.ref vv)]))
            refine own_by (fun t k => XS.iconst X1.here hx rfl (hb hby at_220) k) ?_
            show own_Go _ _ _ _ (T1.setTop (mkF m 221 #[.val (.long aa), .second, .val (.long b0), .second, .val (.long c0), .second, .val (.long d0), .second, .val (.int ff), .val (.long aa), .second, .val (.long bb), .second, .val (.long cc), .second, .val (.long dd), .second, .val (.ref vv), .val (.int (2 : Int32)), .val (.int i19), .val (.int i20), .val (.int i21), .unset, .unset] [(.int (1 : Int32)), (.int (0 : Int32)), (.ref vv)]))
            obtain ⟨_, _, ⟨Tc0_21, Lc0_21, kc0_21, nc0_21⟩, -, Xc0_21, ⟨Lcc0_21, hQc0_21, lc0_21, yc0_21, zc0_21⟩, stc0_21⟩ := Jvm.LawKit.callS X1 hx (y := (⟨"com/example/water_clock/waterclock/SubWindowCountsIndexPinLaw", "cs", "([JII)V"⟩ : MethodName)) hown (mvT hZ (hw _ (List.mem_of_getElem? (i := 49) rfl))) (mvT hZ (hw _ (List.mem_of_getElem? (i := 50) rfl))) (mvT hZ (hw _ (List.mem_of_getElem? (i := 51) rfl))) (mvT hZ (hw _ (List.mem_of_getElem? (i := 52) rfl))) (by decide) (backOf (W := 0) (rm8 l Z a0 hw [] vv (0 : Int32) (1 : Int32) gg h1 n0 Zs1 V_vv g_vv ⟨by decide, by decide⟩ ⟨by decide, by decide⟩) hZ (hw _ (List.mem_of_getElem? (i := 52) rfl)) (hw _ (List.mem_of_getElem? (i := 51) rfl)) (by decide) (by decide)) (g := (mkF m 221 #[.val (.long aa), .second, .val (.long b0), .second, .val (.long c0), .second, .val (.long d0), .second, .val (.int ff), .val (.long aa), .second, .val (.long bb), .second, .val (.long cc), .second, .val (.long dd), .second, .val (.ref vv), .val (.int (2 : Int32)), .val (.int i19), .val (.int i20), .val (.int i21), .unset, .unset] [(.int (1 : Int32)), (.int (0 : Int32)), (.ref vv)])) rfl (by rw [hml]; rfl) (argsL := [(.ref vv), (.int (0 : Int32)), (.int (1 : Int32))]) (rest := []) (lenOf pd_0_5 rfl) rfl (by show 2 * 0 + _ ≤ _; exact Nat.le_of_eq rfl) (hb hby at_221) (fun _ _ => ⟨rfl, q1, (by decide : 1 + 0 ≤ _), (by decide : 3 + 0 ≤ _)⟩)
            dsimp only [Pt.U, Pt.locs, Pt.cells, Pt.slots] at Xc0_21 lc0_21 yc0_21 zc0_21 stc0_21 hQc0_21
            subst lc0_21 yc0_21 zc0_21
            obtain ⟨rfl, Nc0_21q, Kc0_21, Vc0_21⟩ := hQc0_21
            have Nc0_21 := Fr.app N1 Nc0_21q
            have Zs_c0_21 : n0 ≤ Tc0_21.heap.size := Nat.le_trans Zs1 Kc0_21.1
            replace V_vv := Vc0_21
            refine own_by (fun t k => stc0_21 t k) ?_
            replace V_vv : own_Ar Z Tc0_21.heap vv .long 3 (fun k => .long (own_cs gg 0 1 k)) := V_vv
            show own_Go _ _ _ _ (Tc0_21.setTop (mkF m 224 #[.val (.long aa), .second, .val (.long b0), .second, .val (.long c0), .second, .val (.long d0), .second, .val (.int ff), .val (.long aa), .second, .val (.long bb), .second, .val (.long cc), .second, .val (.long dd), .second, .val (.ref vv), .val (.int (2 : Int32)), .val (.int i19), .val (.int i20), .val (.int i21), .unset, .unset] []))
            refine own_by (fun t k => XS.iload Xc0_21.here hx rfl (hb hby at_224) rfl k) ?_
            show own_Go _ _ _ _ (Tc0_21.setTop (mkF m 226 #[.val (.long aa), .second, .val (.long b0), .second, .val (.long c0), .second, .val (.long d0), .second, .val (.int ff), .val (.long aa), .second, .val (.long bb), .second, .val (.long cc), .second, .val (.long dd), .second, .val (.ref vv), .val (.int (2 : Int32)), .val (.int i19), .val (.int i20), .val (.int i21), .unset, .unset] [(.int (2 : Int32))]))
            refine own_by (fun t k => XS.iconst Xc0_21.here hx rfl (hb hby at_226) k) ?_
            show own_Go _ _ _ _ (Tc0_21.setTop (mkF m 227 #[.val (.long aa), .second, .val (.long b0), .second, .val (.long c0), .second, .val (.long d0), .second, .val (.int ff), .val (.long aa), .second, .val (.long bb), .second, .val (.long cc), .second, .val (.long dd), .second, .val (.ref vv), .val (.int (2 : Int32)), .val (.int i19), .val (.int i20), .val (.int i21), .unset, .unset] [(.int (3 : Int32)), (.int (2 : Int32))]))
            refine own_by (fun t k => XS.icmpYes Xc0_21.here hx rfl (pc0 := 227) (pc' := 244) rfl (hb hby at_227) rfl (feq (by decide : ¬ ((2 : Int32) = (3 : Int32)))).2 (by decide) (by decide) k) ?_
            show own_Go _ _ _ _ (Tc0_21.setTop (mkF m 244 #[.val (.long aa), .second, .val (.long b0), .second, .val (.long c0), .second, .val (.long d0), .second, .val (.int ff), .val (.long aa), .second, .val (.long bb), .second, .val (.long cc), .second, .val (.long dd), .second, .val (.ref vv), .val (.int (2 : Int32)), .val (.int i19), .val (.int i20), .val (.int i21), .unset, .unset] []))
            exact J244 _ _ _ Xc0_21 rfl Nc0_21 Zs_c0_21 2 _ _ _ _ (by omega) (by omega) (own_sort2 gg hD.1).1 (fun yy => ((own_sort2 gg hD.1).2 yy).trans (hD.2 yy)) V_vv
          · show own_Go _ _ _ _ (T1.setTop (mkF m 211 #[.val (.long aa), .second, .val (.long b0), .second, .val (.long c0), .second, .val (.long d0), .second, .val (.int ff), .val (.long aa), .second, .val (.long bb), .second, .val (.long cc), .second, .val (.long dd), .second, .val (.ref vv), .val (.int (3 : Int32)), .val (.int i19), .val (.int i20), .val (.int i21), .unset, .unset] []))
            show own_Go _ _ _ _ (T1.setTop (mkF m 211 #[.val (.long aa), .second, .val (.long b0), .second, .val (.long c0), .second, .val (.long d0), .second, .val (.int ff), .val (.long aa), .second, .val (.long bb), .second, .val (.long cc), .second, .val (.long dd), .second, .val (.ref vv), .val (.int (3 : Int32)), .val (.int i19), .val (.int i20), .val (.int i21), .unset, .unset] []))
            refine own_by (fun t k => XS.iload X1.here hx rfl (hb hby at_211) rfl k) ?_
            show own_Go _ _ _ _ (T1.setTop (mkF m 213 #[.val (.long aa), .second, .val (.long b0), .second, .val (.long c0), .second, .val (.long d0), .second, .val (.int ff), .val (.long aa), .second, .val (.long bb), .second, .val (.long cc), .second, .val (.long dd), .second, .val (.ref vv), .val (.int (3 : Int32)), .val (.int i19), .val (.int i20), .val (.int i21), .unset, .unset] [(.int (3 : Int32))]))
            refine own_by (fun t k => XS.iconst X1.here hx rfl (hb hby at_213) k) ?_
            show own_Go _ _ _ _ (T1.setTop (mkF m 214 #[.val (.long aa), .second, .val (.long b0), .second, .val (.long c0), .second, .val (.long d0), .second, .val (.int ff), .val (.long aa), .second, .val (.long bb), .second, .val (.long cc), .second, .val (.long dd), .second, .val (.ref vv), .val (.int (3 : Int32)), .val (.int i19), .val (.int i20), .val (.int i21), .unset, .unset] [(.int (2 : Int32)), (.int (3 : Int32))]))
            refine own_by (fun t k => XS.icmpNo X1.here hx rfl (hb hby at_214) rfl (flt (by decide : ¬ ((3 : Int32) < (2 : Int32)))).1 k) ?_
            show own_Go _ _ _ _ (T1.setTop (mkF m 217 #[.val (.long aa), .second, .val (.long b0), .second, .val (.long c0), .second, .val (.long d0), .second, .val (.int ff), .val (.long aa), .second, .val (.long bb), .second, .val (.long cc), .second, .val (.long dd), .second, .val (.ref vv), .val (.int (3 : Int32)), .val (.int i19), .val (.int i20), .val (.int i21), .unset, .unset] []))
            refine own_by (fun t k => XS.aload X1.here hx rfl (hb hby at_217) rfl rfl k) ?_
            show own_Go _ _ _ _ (T1.setTop (mkF m 219 #[.val (.long aa), .second, .val (.long b0), .second, .val (.long c0), .second, .val (.long d0), .second, .val (.int ff), .val (.long aa), .second, .val (.long bb), .second, .val (.long cc), .second, .val (.long dd), .second, .val (.ref vv), .val (.int (3 : Int32)), .val (.int i19), .val (.int i20), .val (.int i21), .unset, .unset] [(.ref vv)]))
            refine own_by (fun t k => XS.iconst X1.here hx rfl (hb hby at_219) k) ?_
            show own_Go _ _ _ _ (T1.setTop (mkF m 220 #[.val (.long aa), .second, .val (.long b0), .second, .val (.long c0), .second, .val (.long d0), .second, .val (.int ff), .val (.long aa), .second, .val (.long bb), .second, .val (.long cc), .second, .val (.long dd), .second, .val (.ref vv), .val (.int (3 : Int32)), .val (.int i19), .val (.int i20), .val (.int i21), .unset, .unset] [(.int (0 : Int32)), (.ref vv)]))
            refine own_by (fun t k => XS.iconst X1.here hx rfl (hb hby at_220) k) ?_
            show own_Go _ _ _ _ (T1.setTop (mkF m 221 #[.val (.long aa), .second, .val (.long b0), .second, .val (.long c0), .second, .val (.long d0), .second, .val (.int ff), .val (.long aa), .second, .val (.long bb), .second, .val (.long cc), .second, .val (.long dd), .second, .val (.ref vv), .val (.int (3 : Int32)), .val (.int i19), .val (.int i20), .val (.int i21), .unset, .unset] [(.int (1 : Int32)), (.int (0 : Int32)), (.ref vv)]))
            obtain ⟨_, _, ⟨Tc0_22, Lc0_22, kc0_22, nc0_22⟩, -, Xc0_22, ⟨Lcc0_22, hQc0_22, lc0_22, yc0_22, zc0_22⟩, stc0_22⟩ := Jvm.LawKit.callS X1 hx (y := (⟨"com/example/water_clock/waterclock/SubWindowCountsIndexPinLaw", "cs", "([JII)V"⟩ : MethodName)) hown (mvT hZ (hw _ (List.mem_of_getElem? (i := 49) rfl))) (mvT hZ (hw _ (List.mem_of_getElem? (i := 50) rfl))) (mvT hZ (hw _ (List.mem_of_getElem? (i := 51) rfl))) (mvT hZ (hw _ (List.mem_of_getElem? (i := 52) rfl))) (by decide) (backOf (W := 0) (rm8 l Z a0 hw [] vv (0 : Int32) (1 : Int32) gg h1 n0 Zs1 V_vv g_vv ⟨by decide, by decide⟩ ⟨by decide, by decide⟩) hZ (hw _ (List.mem_of_getElem? (i := 52) rfl)) (hw _ (List.mem_of_getElem? (i := 51) rfl)) (by decide) (by decide)) (g := (mkF m 221 #[.val (.long aa), .second, .val (.long b0), .second, .val (.long c0), .second, .val (.long d0), .second, .val (.int ff), .val (.long aa), .second, .val (.long bb), .second, .val (.long cc), .second, .val (.long dd), .second, .val (.ref vv), .val (.int (3 : Int32)), .val (.int i19), .val (.int i20), .val (.int i21), .unset, .unset] [(.int (1 : Int32)), (.int (0 : Int32)), (.ref vv)])) rfl (by rw [hml]; rfl) (argsL := [(.ref vv), (.int (0 : Int32)), (.int (1 : Int32))]) (rest := []) (lenOf pd_0_5 rfl) rfl (by show 2 * 0 + _ ≤ _; exact Nat.le_of_eq rfl) (hb hby at_221) (fun _ _ => ⟨rfl, q1, (by decide : 1 + 0 ≤ _), (by decide : 3 + 0 ≤ _)⟩)
            dsimp only [Pt.U, Pt.locs, Pt.cells, Pt.slots] at Xc0_22 lc0_22 yc0_22 zc0_22 stc0_22 hQc0_22
            subst lc0_22 yc0_22 zc0_22
            obtain ⟨rfl, Nc0_22q, Kc0_22, Vc0_22⟩ := hQc0_22
            have Nc0_22 := Fr.app N1 Nc0_22q
            have Zs_c0_22 : n0 ≤ Tc0_22.heap.size := Nat.le_trans Zs1 Kc0_22.1
            replace V_vv := Vc0_22
            refine own_by (fun t k => stc0_22 t k) ?_
            replace V_vv : own_Ar Z Tc0_22.heap vv .long 3 (fun k => .long (own_cs gg 0 1 k)) := V_vv
            show own_Go _ _ _ _ (Tc0_22.setTop (mkF m 224 #[.val (.long aa), .second, .val (.long b0), .second, .val (.long c0), .second, .val (.long d0), .second, .val (.int ff), .val (.long aa), .second, .val (.long bb), .second, .val (.long cc), .second, .val (.long dd), .second, .val (.ref vv), .val (.int (3 : Int32)), .val (.int i19), .val (.int i20), .val (.int i21), .unset, .unset] []))
            refine own_by (fun t k => XS.iload Xc0_22.here hx rfl (hb hby at_224) rfl k) ?_
            show own_Go _ _ _ _ (Tc0_22.setTop (mkF m 226 #[.val (.long aa), .second, .val (.long b0), .second, .val (.long c0), .second, .val (.long d0), .second, .val (.int ff), .val (.long aa), .second, .val (.long bb), .second, .val (.long cc), .second, .val (.long dd), .second, .val (.ref vv), .val (.int (3 : Int32)), .val (.int i19), .val (.int i20), .val (.int i21), .unset, .unset] [(.int (3 : Int32))]))
            refine own_by (fun t k => XS.iconst Xc0_22.here hx rfl (hb hby at_226) k) ?_
            show own_Go _ _ _ _ (Tc0_22.setTop (mkF m 227 #[.val (.long aa), .second, .val (.long b0), .second, .val (.long c0), .second, .val (.long d0), .second, .val (.int ff), .val (.long aa), .second, .val (.long bb), .second, .val (.long cc), .second, .val (.long dd), .second, .val (.ref vv), .val (.int (3 : Int32)), .val (.int i19), .val (.int i20), .val (.int i21), .unset, .unset] [(.int (3 : Int32)), (.int (3 : Int32))]))
            refine own_by (fun t k => XS.icmpNo Xc0_22.here hx rfl (hb hby at_227) rfl (teq (by decide : (3 : Int32) = (3 : Int32))).2 k) ?_
            show own_Go _ _ _ _ (Tc0_22.setTop (mkF m 230 #[.val (.long aa), .second, .val (.long b0), .second, .val (.long c0), .second, .val (.long d0), .second, .val (.int ff), .val (.long aa), .second, .val (.long bb), .second, .val (.long cc), .second, .val (.long dd), .second, .val (.ref vv), .val (.int (3 : Int32)), .val (.int i19), .val (.int i20), .val (.int i21), .unset, .unset] []))
            refine own_by (fun t k => XS.aload Xc0_22.here hx rfl (hb hby at_230) rfl rfl k) ?_
            show own_Go _ _ _ _ (Tc0_22.setTop (mkF m 232 #[.val (.long aa), .second, .val (.long b0), .second, .val (.long c0), .second, .val (.long d0), .second, .val (.int ff), .val (.long aa), .second, .val (.long bb), .second, .val (.long cc), .second, .val (.long dd), .second, .val (.ref vv), .val (.int (3 : Int32)), .val (.int i19), .val (.int i20), .val (.int i21), .unset, .unset] [(.ref vv)]))
            refine own_by (fun t k => XS.iconst Xc0_22.here hx rfl (hb hby at_232) k) ?_
            show own_Go _ _ _ _ (Tc0_22.setTop (mkF m 233 #[.val (.long aa), .second, .val (.long b0), .second, .val (.long c0), .second, .val (.long d0), .second, .val (.int ff), .val (.long aa), .second, .val (.long bb), .second, .val (.long cc), .second, .val (.long dd), .second, .val (.ref vv), .val (.int (3 : Int32)), .val (.int i19), .val (.int i20), .val (.int i21), .unset, .unset] [(.int (1 : Int32)), (.ref vv)]))
            refine own_by (fun t k => XS.iconst Xc0_22.here hx rfl (hb hby at_233) k) ?_
            show own_Go _ _ _ _ (Tc0_22.setTop (mkF m 234 #[.val (.long aa), .second, .val (.long b0), .second, .val (.long c0), .second, .val (.long d0), .second, .val (.int ff), .val (.long aa), .second, .val (.long bb), .second, .val (.long cc), .second, .val (.long dd), .second, .val (.ref vv), .val (.int (3 : Int32)), .val (.int i19), .val (.int i20), .val (.int i21), .unset, .unset] [(.int (2 : Int32)), (.int (1 : Int32)), (.ref vv)]))
            obtain ⟨_, _, ⟨Tc0_23, Lc0_23, kc0_23, nc0_23⟩, -, Xc0_23, ⟨Lcc0_23, hQc0_23, lc0_23, yc0_23, zc0_23⟩, stc0_23⟩ := Jvm.LawKit.callS Xc0_22 hx (y := (⟨"com/example/water_clock/waterclock/SubWindowCountsIndexPinLaw", "cs", "([JII)V"⟩ : MethodName)) hown (mvT hZ (hw _ (List.mem_of_getElem? (i := 49) rfl))) (mvT hZ (hw _ (List.mem_of_getElem? (i := 50) rfl))) (mvT hZ (hw _ (List.mem_of_getElem? (i := 51) rfl))) (mvT hZ (hw _ (List.mem_of_getElem? (i := 52) rfl))) (by decide) (backOf (W := 0) (rm8 l Z a0 hw [] vv (1 : Int32) (2 : Int32) (own_cs gg 0 1) Tc0_22.heap n0 Zs_c0_22 V_vv g_vv ⟨by decide, by decide⟩ ⟨by decide, by decide⟩) hZ (hw _ (List.mem_of_getElem? (i := 52) rfl)) (hw _ (List.mem_of_getElem? (i := 51) rfl)) (by decide) (by decide)) (g := (mkF m 234 #[.val (.long aa), .second, .val (.long b0), .second, .val (.long c0), .second, .val (.long d0), .second, .val (.int ff), .val (.long aa), .second, .val (.long bb), .second, .val (.long cc), .second, .val (.long dd), .second, .val (.ref vv), .val (.int (3 : Int32)), .val (.int i19), .val (.int i20), .val (.int i21), .unset, .unset] [(.int (2 : Int32)), (.int (1 : Int32)), (.ref vv)])) rfl (by rw [hml]; rfl) (argsL := [(.ref vv), (.int (1 : Int32)), (.int (2 : Int32))]) (rest := []) (lenOf pd_0_5 rfl) rfl (by show 2 * 0 + _ ≤ _; exact Nat.le_of_eq rfl) (hb hby at_234) (fun _ _ => ⟨rfl, rfl, (by decide : 1 + 0 ≤ _), (by decide : 3 + 0 ≤ _)⟩)
            dsimp only [Pt.U, Pt.locs, Pt.cells, Pt.slots] at Xc0_23 lc0_23 yc0_23 zc0_23 stc0_23 hQc0_23
            subst lc0_23 yc0_23 zc0_23
            obtain ⟨rfl, Nc0_23q, Kc0_23, Vc0_23⟩ := hQc0_23
            have Nc0_23 := Fr.app Nc0_22 Nc0_23q
            have Zs_c0_23 : n0 ≤ Tc0_23.heap.size := Nat.le_trans Zs_c0_22 Kc0_23.1
            replace V_vv := Vc0_23
            refine own_by (fun t k => stc0_23 t k) ?_
            replace V_vv : own_Ar Z Tc0_23.heap vv .long 3 (fun k => .long (own_cs (own_cs gg 0 1) 1 2 k)) := V_vv
            show own_Go _ _ _ _ (Tc0_23.setTop (mkF m 237 #[.val (.long aa), .second, .val (.long b0), .second, .val (.long c0), .second, .val (.long d0), .second, .val (.int ff), .val (.long aa), .second, .val (.long bb), .second, .val (.long cc), .second, .val (.long dd), .second, .val (.ref vv), .val (.int (3 : Int32)), .val (.int i19), .val (.int i20), .val (.int i21), .unset, .unset] []))
            refine own_by (fun t k => XS.aload Xc0_23.here hx rfl (hb hby at_237) rfl rfl k) ?_
            show own_Go _ _ _ _ (Tc0_23.setTop (mkF m 239 #[.val (.long aa), .second, .val (.long b0), .second, .val (.long c0), .second, .val (.long d0), .second, .val (.int ff), .val (.long aa), .second, .val (.long bb), .second, .val (.long cc), .second, .val (.long dd), .second, .val (.ref vv), .val (.int (3 : Int32)), .val (.int i19), .val (.int i20), .val (.int i21), .unset, .unset] [(.ref vv)]))
            refine own_by (fun t k => XS.iconst Xc0_23.here hx rfl (hb hby at_239) k) ?_
            show own_Go _ _ _ _ (Tc0_23.setTop (mkF m 240 #[.val (.long aa), .second, .val (.long b0), .second, .val (.long c0), .second, .val (.long d0), .second, .val (.int ff), .val (.long aa), .second, .val (.long bb), .second, .val (.long cc), .second, .val (.long dd), .second, .val (.ref vv), .val (.int (3 : Int32)), .val (.int i19), .val (.int i20), .val (.int i21), .unset, .unset] [(.int (0 : Int32)), (.ref vv)]))
            refine own_by (fun t k => XS.iconst Xc0_23.here hx rfl (hb hby at_240) k) ?_
            show own_Go _ _ _ _ (Tc0_23.setTop (mkF m 241 #[.val (.long aa), .second, .val (.long b0), .second, .val (.long c0), .second, .val (.long d0), .second, .val (.int ff), .val (.long aa), .second, .val (.long bb), .second, .val (.long cc), .second, .val (.long dd), .second, .val (.ref vv), .val (.int (3 : Int32)), .val (.int i19), .val (.int i20), .val (.int i21), .unset, .unset] [(.int (1 : Int32)), (.int (0 : Int32)), (.ref vv)]))
            obtain ⟨_, _, ⟨Tc0_24, Lc0_24, kc0_24, nc0_24⟩, -, Xc0_24, ⟨Lcc0_24, hQc0_24, lc0_24, yc0_24, zc0_24⟩, stc0_24⟩ := Jvm.LawKit.callS Xc0_23 hx (y := (⟨"com/example/water_clock/waterclock/SubWindowCountsIndexPinLaw", "cs", "([JII)V"⟩ : MethodName)) hown (mvT hZ (hw _ (List.mem_of_getElem? (i := 49) rfl))) (mvT hZ (hw _ (List.mem_of_getElem? (i := 50) rfl))) (mvT hZ (hw _ (List.mem_of_getElem? (i := 51) rfl))) (mvT hZ (hw _ (List.mem_of_getElem? (i := 52) rfl))) (by decide) (backOf (W := 0) (rm8 l Z a0 hw [] vv (0 : Int32) (1 : Int32) (own_cs (own_cs gg 0 1) 1 2) Tc0_23.heap n0 Zs_c0_23 V_vv g_vv ⟨by decide, by decide⟩ ⟨by decide, by decide⟩) hZ (hw _ (List.mem_of_getElem? (i := 52) rfl)) (hw _ (List.mem_of_getElem? (i := 51) rfl)) (by decide) (by decide)) (g := (mkF m 241 #[.val (.long aa), .second, .val (.long b0), .second, .val (.long c0), .second, .val (.long d0), .second, .val (.int ff), .val (.long aa), .second, .val (.long bb), .second, .val (.long cc), .second, .val (.long dd), .second, .val (.ref vv), .val (.int (3 : Int32)), .val (.int i19), .val (.int i20), .val (.int i21), .unset, .unset] [(.int (1 : Int32)), (.int (0 : Int32)), (.ref vv)])) rfl (by rw [hml]; rfl) (argsL := [(.ref vv), (.int (0 : Int32)), (.int (1 : Int32))]) (rest := []) (lenOf pd_0_5 rfl) rfl (by show 2 * 0 + _ ≤ _; exact Nat.le_of_eq rfl) (hb hby at_241) (fun _ _ => ⟨rfl, rfl, (by decide : 1 + 0 ≤ _), (by decide : 3 + 0 ≤ _)⟩)
            dsimp only [Pt.U, Pt.locs, Pt.cells, Pt.slots] at Xc0_24 lc0_24 yc0_24 zc0_24 stc0_24 hQc0_24
            subst lc0_24 yc0_24 zc0_24
            obtain ⟨rfl, Nc0_24q, Kc0_24, Vc0_24⟩ := hQc0_24
            have Nc0_24 := Fr.app Nc0_23 Nc0_24q
            have Zs_c0_24 : n0 ≤ Tc0_24.heap.size := Nat.le_trans Zs_c0_23 Kc0_24.1
            replace V_vv := Vc0_24
            refine own_by (fun t k => stc0_24 t k) ?_
            replace V_vv : own_Ar Z Tc0_24.heap vv .long 3 (fun k => .long (own_cs (own_cs (own_cs gg 0 1) 1 2) 0 1 k)) := V_vv
            show own_Go _ _ _ _ (Tc0_24.setTop (mkF m 244 #[.val (.long aa), .second, .val (.long b0), .second, .val (.long c0), .second, .val (.long d0), .second, .val (.int ff), .val (.long aa), .second, .val (.long bb), .second, .val (.long cc), .second, .val (.long dd), .second, .val (.ref vv), .val (.int (3 : Int32)), .val (.int i19), .val (.int i20), .val (.int i21), .unset, .unset] []))
            exact J244 _ _ _ Xc0_24 rfl Nc0_24 Zs_c0_24 3 _ _ _ _ (by omega) (by omega) (own_sort3 gg hD.1).1 (fun yy => ((own_sort3 gg hD.1).2 yy).trans (hD.2 yy)) V_vv
        have J157 : ∀ (T1 : State) (h1 : Heap) (lo1 : List Loc) (X1 : Stand p l e room_1 s m #[(.long aa), (.long b0), (.long c0), (.long d0), (.int ff)] below meth c T1 lo1 1 3) (q1 : T1.heap = h1) (N1 : Fr n0 lo1) (Zs1 : n0 ≤ h1.size) (mm : Nat) (gg : Nat → Int64) (i19 i20 : Int32), mm ≤ 2 → (own_Dis gg mm ∧ ∀ yy, own_Mem gg 0 mm yy ↔ (yy = aa ∧ ¬ aa < dd) ∨ (yy = bb ∧ ¬ bb < dd)) → own_Ar Z h1 vv .long 3 (fun k => .long (gg k)) → own_Go p.tables e below (P0 Z aa b0 c0 d0 ff h0 n0 s) (T1.setTop (mkF m 157 #[.val (.long aa), .second, .val (.long b0), .second, .val (.long c0), .second, .val (.long d0), .second, .val (.int ff), .val (.long aa), .second, .val (.long bb), .second, .val (.long cc), .second, .val (.long dd), .second, .val (.ref vv), .val (.int (Int32.ofNat mm)), .val (.int i19), .val (.int i20), .unset, .unset, .unset] [])) := by
          intro T1 h1 lo1 X1 q1 N1 Zs1 mm gg i19 i20 hm2 hD V_vv
          rcases (show mm = 0 ∨ mm = 1 ∨ mm = 2 by omega) with rfl | rfl | rfl
          · show own_Go _ _ _ _ (T1.setTop (mkF m 157 #[.val (.long aa), .second, .val (.long b0), .second, .val (.long c0), .second, .val (.long d0), .second, .val (.int ff), .val (.long aa), .second, .val (.long bb), .second, .val (.long cc), .second, .val (.long dd), .second, .val (.ref vv), .val (.int (0 : Int32)), .val (.int i19), .val (.int i20), .unset, .unset, .unset] []))
            show own_Go _ _ _ _ (T1.setTop (mkF m 157 #[.val (.long aa), .second, .val (.long b0), .second, .val (.long c0), .second, .val (.long d0), .second, .val (.int ff), .val (.long aa), .second, .val (.long bb), .second, .val (.long cc), .second, .val (.long dd), .second, .val (.ref vv), .val (.int (0 : Int32)), .val (.int i19), .val (.int i20), .unset, .unset, .unset] []))
            refine own_by (fun t k => XS.iload X1.here hx rfl (hb hby at_157) rfl k) ?_
            show own_Go _ _ _ _ (T1.setTop (mkF m 159 #[.val (.long aa), .second, .val (.long b0), .second, .val (.long c0), .second, .val (.long d0), .second, .val (.int ff), .val (.long aa), .second, .val (.long bb), .second, .val (.long cc), .second, .val (.long dd), .second, .val (.ref vv), .val (.int (0 : Int32)), .val (.int i19), .val (.int i20), .unset, .unset, .unset] [(.int (0 : Int32))]))
            refine own_by (fun t k => XS.iconst X1.here hx rfl (hb hby at_159) k) ?_
            show own_Go _ _ _ _ (T1.setTop (mkF m 160 #[.val (.long aa), .second, .val (.long b0), .second, .val (.long c0), .second, .val (.long d0), .second, .val (.int ff), .val (.long aa), .second, .val (.long bb), .second, .val (.long cc), .second, .val (.long dd), .second, .val (.ref vv), .val (.int (0 : Int32)), .val (.int i19), .val (.int i20), .unset, .unset, .unset] [(.int (1 : Int32)), (.int (0 : Int32))]))
            refine own_by (fun t k => XS.icmpYes X1.here hx rfl (pc0 := 160) (pc' := 173) rfl (hb hby at_160) rfl (tlt (by decide : (0 : Int32) < (1 : Int32))).1 (by decide) (by decide) k) ?_
            show own_Go _ _ _ _ (T1.setTop (mkF m 173 #[.val (.long aa), .second, .val (.long b0), .second, .val (.long c0), .second, .val (.long d0), .second, .val (.int ff), .val (.long aa), .second, .val (.long bb), .second, .val (.long cc), .second, .val (.long dd), .second, .val (.ref vv), .val (.int (0 : Int32)), .val (.int i19), .val (.int i20), .unset, .unset, .unset] []))
            refine own_by (fun t k => XS.iload X1.here hx rfl (hb hby at_173) rfl k) ?_
            show own_Go _ _ _ _ (T1.setTop (mkF m 175 #[.val (.long aa), .second, .val (.long b0), .second, .val (.long c0), .second, .val (.long d0), .second, .val (.int ff), .val (.long aa), .second, .val (.long bb), .second, .val (.long cc), .second, .val (.long dd), .second, .val (.ref vv), .val (.int (0 : Int32)), .val (.int i19), .val (.int i20), .unset, .unset, .unset] [(.int (0 : Int32))]))
            refine own_by (fun t k => XS.iconst X1.here hx rfl (hb hby at_175) k) ?_
            show own_Go _ _ _ _ (T1.setTop (mkF m 176 #[.val (.long aa), .second, .val (.long b0), .second, .val (.long c0), .second, .val (.long d0), .second, .val (.int ff), .val (.long aa), .second, .val (.long bb), .second, .val (.long cc), .second, .val (.long dd), .second, .val (.ref vv), .val (.int (0 : Int32)), .val (.int i19), .val (.int i20), .unset, .unset, .unset] [(.int (2 : Int32)), (.int (0 : Int32))]))
            refine own_by (fun t k => XS.icmpYes X1.here hx rfl (pc0 := 176) (pc' := 193) rfl (hb hby at_176) rfl (tlt (by decide : (0 : Int32) < (2 : Int32))).1 (by decide) (by decide) k) ?_
            show own_Go _ _ _ _ (T1.setTop (mkF m 193 #[.val (.long aa), .second, .val (.long b0), .second, .val (.long c0), .second, .val (.long d0), .second, .val (.int ff), .val (.long aa), .second, .val (.long bb), .second, .val (.long cc), .second, .val (.long dd), .second, .val (.ref vv), .val (.int (0 : Int32)), .val (.int i19), .val (.int i20), .unset, .unset, .unset] []))
            refine own_by (fun t k => XS.iconst X1.here hx rfl (hb hby at_193) k) ?_
            show own_Go _ _ _ _ (T1.setTop (mkF m 194 #[.val (.long aa), .second, .val (.long b0), .second, .val (.long c0), .second, .val (.long d0), .second, .val (.int ff), .val (.long aa), .second, .val (.long bb), .second, .val (.long cc), .second, .val (.long dd), .second, .val (.ref vv), .val (.int (0 : Int32)), .val (.int i19), .val (.int i20), .unset, .unset, .unset] [(.int (0 : Int32))]))
            refine own_by (fun t k => XS.istore X1.here hx rfl (hb hby at_194) rfl (l' := #[.val (.long aa), .second, .val (.long b0), .second, .val (.long c0), .second, .val (.long d0), .second, .val (.int ff), .val (.long aa), .second, .val (.long bb), .second, .val (.long cc), .second, .val (.long dd), .second, .val (.ref vv), .val (.int (0 : Int32)), .val (.int i19), .val (.int i20), .val (.int (0 : Int32)), .unset, .unset]) rfl k) ?_
            show own_Go _ _ _ _ (T1.setTop (mkF m 196 #[.val (.long aa), .second, .val (.long b0), .second, .val (.long c0), .second, .val (.long d0), .second, .val (.int ff), .val (.long aa), .second, .val (.long bb), .second, .val (.long cc), .second, .val (.long dd), .second, .val (.ref vv), .val (.int (0 : Int32)), .val (.int i19), .val (.int i20), .val (.int (0 : Int32)), .unset, .unset] []))
            refine own_by (fun t k => XS.iload X1.here hx rfl (hb hby at_196) rfl k) ?_
            show own_Go _ _ _ _ (T1.setTop (mkF m 198 #[.val (.long aa), .second, .val (.long b0), .second, .val (.long c0), .second, .val (.long d0), .second, .val (.int ff), .val (.long aa), .second, .val (.long bb), .second, .val (.long cc), .second, .val (.long dd), .second, .val (.ref vv), .val (.int (0 : Int32)), .val (.int i19), .val (.int i20), .val (.int (0 : Int32)), .unset, .unset] [(.int (0 : Int32))]))
            refine own_by (fun t k => XS.ifNo X1.here hx rfl (hb hby at_198) rfl ((if0 _ _).trans (teq (by decide : (0 : Int32) = (0 : Int32))).2) k) ?_
            show own_Go _ _ _ _ (T1.setTop (mkF m 201 #[.val (.long aa), .second, .val (.long b0), .second, .val (.long c0), .second, .val (.long d0), .second, .val (.int ff), .val (.long aa), .second, .val (.long bb), .second, .val (.long cc), .second, .val (.long dd), .second, .val (.ref vv), .val (.int (0 : Int32)), .val (.int i19), .val (.int i20), .val (.int (0 : Int32)), .unset, .unset] []))
            refine own_by (fun t k => XS.aload X1.here hx rfl (hb hby at_201) rfl rfl k) ?_
            show own_Go _ _ _ _ (T1.setTop (mkF m 203 #[.val (.long aa), .second, .val (.long b0), .second, .val (.long c0), .second, .val (.long d0), .second, .val (.int ff), .val (.long aa), .second, .val (.long bb), .second, .val (.long cc), .second, .val (.long dd), .second, .val (.ref vv), .val (.int (0 : Int32)), .val (.int i19), .val (.int i20), .val (.int (0 : Int32)), .unset, .unset] [(.ref vv)]))
            refine own_by (fun t k => XS.iload X1.here hx rfl (hb hby at_203) rfl k) ?_
            show own_Go _ _ _ _ (T1.setTop (mkF m 205 #[.val (.long aa), .second, .val (.long b0), .second, .val (.long c0), .second, .val (.long d0), .second, .val (.int ff), .val (.long aa), .second, .val (.long bb), .second, .val (.long cc), .second, .val (.long dd), .second, .val (.ref vv), .val (.int (0 : Int32)), .val (.int i19), .val (.int i20), .val (.int (0 : Int32)), .unset, .unset] [(.int (0 : Int32)), (.ref vv)]))
            refine own_by (fun t k => XS.lload X1.here hx rfl (hb hby at_205) rfl k) ?_
            show own_Go _ _ _ _ (T1.setTop (mkF m 207 #[.val (.long aa), .second, .val (.long b0), .second, .val (.long c0), .second, .val (.long d0), .second, .val (.int ff), .val (.long aa), .second, .val (.long bb), .second, .val (.long cc), .second, .val (.long dd), .second, .val (.ref vv), .val (.int (0 : Int32)), .val (.int i19), .val (.int i20), .val (.int (0 : Int32)), .unset, .unset] [(.long cc), (.int (0 : Int32)), (.ref vv)]))
            obtain ⟨Tw0_25, hw0_25, Xw0_25, ew0_25, Ww0_25, Vw0_25, stw0_25⟩ := own_stJ X1 hx hZ q1 V_vv (j := (0 : Int32)) ⟨by decide, by decide⟩ (g := (mkF m 207 #[.val (.long aa), .second, .val (.long b0), .second, .val (.long c0), .second, .val (.long d0), .second, .val (.int ff), .val (.long aa), .second, .val (.long bb), .second, .val (.long cc), .second, .val (.long dd), .second, .val (.ref vv), .val (.int (0 : Int32)), .val (.int i19), .val (.int i20), .val (.int (0 : Int32)), .unset, .unset] [(.long cc), (.int (0 : Int32)), (.ref vv)])) rfl rfl (hb hby at_207)
            replace V_vv := Vw0_25
            have Nw0_25 := Fr.snoc Xw0_25 N1 g_vv
            have Zs_w0_25 : n0 ≤ hw0_25.size := by rw [Ww0_25.size]; exact Zs1
            refine own_by (fun t k => stw0_25 t k) ?_
            replace V_vv := V_vv.weak (f' := fun k => .long ((fun k => if k = 0 then cc else gg k) k)) (fun k _ => by show (if k = 0 then _ else _) = Value.long (if k = 0 then _ else _); split <;> rfl)
            show own_Go _ _ _ _ (Tw0_25.setTop (mkF m 208 #[.val (.long aa), .second, .val (.long b0), .second, .val (.long c0), .second, .val (.long d0), .second, .val (.int ff), .val (.long aa), .second, .val (.long bb), .second, .val (.long cc), .second, .val (.long dd), .second, .val (.ref vv), .val (.int (0 : Int32)), .val (.int i19), .val (.int i20), .val (.int (0 : Int32)), .unset, .unset] []))
            refine own_by (fun t k => XS.iinc Xw0_25.here hx rfl (hb hby at_208) rfl (l' := #[.val (.long aa), .second, .val (.long b0), .second, .val (.long c0), .second, .val (.long d0), .second, .val (.int ff), .val (.long aa), .second, .val (.long bb), .second, .val (.long cc), .second, .val (.long dd), .second, .val (.ref vv), .val (.int (1 : Int32)), .val (.int i19), .val (.int i20), .val (.int (0 : Int32)), .unset, .unset]) rfl k) ?_
            show own_Go _ _ _ _ (Tw0_25.setTop (mkF m 211 #[.val (.long aa), .second, .val (.long b0), .second, .val (.long c0), .second, .val (.long d0), .second, .val (.int ff), .val (.long aa), .second, .val (.long bb), .second, .val (.long cc), .second, .val (.long dd), .second, .val (.ref vv), .val (.int (1 : Int32)), .val (.int i19), .val (.int i20), .val (.int (0 : Int32)), .unset, .unset] []))
            exact J211 _ _ _ Xw0_25 ew0_25 Nw0_25 Zs_w0_25 1 (fun k => if k = 0 then cc else gg k) _ _ _ (by omega) (by omega) (own_k1 gg (fun k => if k = 0 then cc else gg k) 0 cc (fun yy => (yy = aa ∧ ¬ aa < dd) ∨ (yy = bb ∧ ¬ bb < dd)) hD.1 hD.2 (fun k hk => absurd hk (Nat.not_lt_zero _)) (fun k hk => if_neg (by omega)) (if_pos rfl)) V_vv
          · show own_Go _ _ _ _ (T1.setTop (mkF m 157 #[.val (.long aa), .second, .val (.long b0), .second, .val (.long c0), .second, .val (.long d0), .second, .val (.int ff), .val (.long aa), .second, .val (.long bb), .second, .val (.long cc), .second, .val (.long dd), .second, .val (.ref vv), .val (.int (1 : Int32)), .val (.int i19), .val (.int i20), .unset, .unset, .unset] []))
            show own_Go _ _ _ _ (T1.setTop (mkF m 157 #[.val (.long aa), .second, .val (.long b0), .second, .val (.long c0), .second, .val (.long d0), .second, .val (.int ff), .val (.long aa), .second, .val (.long bb), .second, .val (.long cc), .second, .val (.long dd), .second, .val (.ref vv), .val (.int (1 : Int32)), .val (.int i19), .val (.int i20), .unset, .unset, .unset] []))
            refine own_by (fun t k => XS.iload X1.here hx rfl (hb hby at_157) rfl k) ?_
            show own_Go _ _ _ _ (T1.setTop (mkF m 159 #[.val (.long aa), .second, .val (.long b0), .second, .val (.long c0), .second, .val (.long d0), .second, .val (.int ff), .val (.long aa), .second, .val (.long bb), .second, .val (.long cc), .second, .val (.long dd), .second, .val (.ref vv), .val (.int (1 : Int32)), .val (.int i19), .val (.int i20), .unset, .unset, .unset] [(.int (1 : Int32))]))
            refine own_by (fun t k => XS.iconst X1.here hx rfl (hb hby at_159) k) ?_
            show own_Go _ _ _ _ (T1.setTop (mkF m 160 #[.val (.long aa), .second, .val (.long b0), .second, .val (.long c0), .second, .val (.long d0), .second, .val (.int ff), .val (.long aa), .second, .val (.long bb), .second, .val (.long cc), .second, .val (.long dd), .second, .val (.ref vv), .val (.int (1 : Int32)), .val (.int i19), .val (.int i20), .unset, .unset, .unset] [(.int (1 : Int32)), (.int (1 : Int32))]))
            refine own_by (fun t k => XS.icmpNo X1.here hx rfl (hb hby at_160) rfl (flt (by decide : ¬ ((1 : Int32) < (1 : Int32)))).1 k) ?_
            show own_Go _ _ _ _ (T1.setTop (mkF m 163 #[.val (.long aa), .second, .val (.long b0), .second, .val (.long c0), .second, .val (.long d0), .second, .val (.int ff), .val (.long aa), .second, .val (.long bb), .second, .val (.long cc), .second, .val (.long dd), .second, .val (.ref vv), .val (.int (1 : Int32)), .val (.int i19), .val (.int i20), .unset, .unset, .unset] []))
            refine own_by (fun t k => XS.aload X1.here hx rfl (hb hby at_163) rfl rfl k) ?_
            show own_Go _ _ _ _ (T1.setTop (mkF m 165 #[.val (.long aa), .second, .val (.long b0), .second, .val (.long c0), .second, .val (.long d0), .second, .val (.int ff), .val (.long aa), .second, .val (.long bb), .second, .val (.long cc), .second, .val (.long dd), .second, .val (.ref vv), .val (.int (1 : Int32)), .val (.int i19), .val (.int i20), .unset, .unset, .unset] [(.ref vv)]))
            refine own_by (fun t k => XS.iconst X1.here hx rfl (hb hby at_165) k) ?_
            show own_Go _ _ _ _ (T1.setTop (mkF m 166 #[.val (.long aa), .second, .val (.long b0), .second, .val (.long c0), .second, .val (.long d0), .second, .val (.int ff), .val (.long aa), .second, .val (.long bb), .second, .val (.long cc), .second, .val (.long dd), .second, .val (.ref vv), .val (.int (1 : Int32)), .val (.int i19), .val (.int i20), .unset, .unset, .unset] [(.int (0 : Int32)), (.ref vv)]))
            obtain ⟨clr0_26, Arr0_26, hir0_26, har0_26⟩ := V_vv.at (j := (0 : Int32)) ⟨by decide, by decide⟩
            replace har0_26 := har0_26.trans (congrArg some rfl)
            refine own_by (fun t k => X1.laload hx (j := (0 : Int32)) (v := (.long (gg 0))) (by rw [q1]; exact Arr0_26.1) (State.isArrayOf_alike hZ.alike Arr0_26.2.1) Arr0_26.2.2 hir0_26 har0_26 (g := (mkF m 166 #[.val (.long aa), .second, .val (.long b0), .second, .val (.long c0), .second, .val (.long d0), .second, .val (.int ff), .val (.long aa), .second, .val (.long bb), .second, .val (.long cc), .second, .val (.long dd), .second, .val (.ref vv), .val (.int (1 : Int32)), .val (.int i19), .val (.int i20), .unset, .unset, .unset] [(.int (0 : Int32)), (.ref vv)])) rfl rfl (hb hby at_166) _ k) ?_
            show own_Go _ _ _ _ (T1.setTop (mkF m 167 #[.val (.long aa), .second, .val (.long b0), .second, .val (.long c0), .second, .val (.long d0), .second, .val (.int ff), .val (.long aa), .second, .val (.long bb), .second, .val (.long cc), .second, .val (.long dd), .second, .val (.ref vv), .val (.int (1 : Int32)), .val (.int i19), .val (.int i20), .unset, .unset, .unset] [(.long (gg 0))]))
            refine own_by (fun t k => XS.lload X1.here hx rfl (hb hby at_167) rfl k) ?_
            show own_Go _ _ _ _ (T1.setTop (mkF m 169 #[.val (.long aa), .second, .val (.long b0), .second, .val (.long c0), .second, .val (.long d0), .second, .val (.int ff), .val (.long aa), .second, .val (.long bb), .second, .val (.long cc), .second, .val (.long dd), .second, .val (.ref vv), .val (.int (1 : Int32)), .val (.int i19), .val (.int i20), .unset, .unset, .unset] [(.long cc), (.long (gg 0))]))
            refine own_by (fun t k => XS.lcmp X1.here hx rfl (hb hby at_169) rfl k) ?_
            show own_Go _ _ _ _ (T1.setTop (mkF m 170 #[.val (.long aa), .second, .val (.long b0), .second, .val (.long c0), .second, .val (.long d0), .second, .val (.int ff), .val (.long aa), .second, .val (.long bb), .second, .val (.long cc), .second, .val (.long dd), .second, .val (.ref vv), .val (.int (1 : Int32)), .val (.int i19), .val (.int i20), .unset, .unset, .unset] [(.int (lcmpW (gg 0) cc))]))
            by_cases hc170 : (gg 0) = cc
            · refine own_by (fun t k => XS.ifYes X1.here hx rfl (pc0 := 170) (pc' := 189) rfl (hb hby at_170) rfl ((if0 _ _).trans (teq ((lw_eq _ _).mpr hc170)).1) (by decide) (by decide) k) ?_
              show own_Go _ _ _ _ (T1.setTop (mkF m 189 #[.val (.long aa), .second, .val (.long b0), .second, .val (.long c0), .second, .val (.long d0), .second, .val (.int ff), .val (.long aa), .second, .val (.long bb), .second, .val (.long cc), .second, .val (.long dd), .second, .val (.ref vv), .val (.int (1 : Int32)), .val (.int i19), .val (.int i20), .unset, .unset, .unset] []))
              refine own_by (fun t k => XS.iconst X1.here hx rfl (hb hby at_189) k) ?_
              show own_Go _ _ _ _ (T1.setTop (mkF m 190 #[.val (.long aa), .second, .val (.long b0), .second, .val (.long c0), .second, .val (.long d0), .second, .val (.int ff), .val (.long aa), .second, .val (.long bb), .second, .val (.long cc), .second, .val (.long dd), .second, .val (.ref vv), .val (.int (1 : Int32)), .val (.int i19), .val (.int i20), .unset, .unset, .unset] [(.int (1 : Int32))]))
              refine own_by (fun t k => XS.goto X1.here hx rfl (pc0 := 190) (pc' := 194) rfl (hb hby at_190) (by decide) (by decide) k) ?_
              show own_Go _ _ _ _ (T1.setTop (mkF m 194 #[.val (.long aa), .second, .val (.long b0), .second, .val (.long c0), .second, .val (.long d0), .second, .val (.int ff), .val (.long aa), .second, .val (.long bb), .second, .val (.long cc), .second, .val (.long dd), .second, .val (.ref vv), .val (.int (1 : Int32)), .val (.int i19), .val (.int i20), .unset, .unset, .unset] [(.int (1 : Int32))]))
              refine own_by (fun t k => XS.istore X1.here hx rfl (hb hby at_194) rfl (l' := #[.val (.long aa), .second, .val (.long b0), .second, .val (.long c0), .second, .val (.long d0), .second, .val (.int ff), .val (.long aa), .second, .val (.long bb), .second, .val (.long cc), .second, .val (.long dd), .second, .val (.ref vv), .val (.int (1 : Int32)), .val (.int i19), .val (.int i20), .val (.int (1 : Int32)), .unset, .unset]) rfl k) ?_
              show own_Go _ _ _ _ (T1.setTop (mkF m 196 #[.val (.long aa), .second, .val (.long b0), .second, .val (.long c0), .second, .val (.long d0), .second, .val (.int ff), .val (.long aa), .second, .val (.long bb), .second, .val (.long cc), .second, .val (.long dd), .second, .val (.ref vv), .val (.int (1 : Int32)), .val (.int i19), .val (.int i20), .val (.int (1 : Int32)), .unset, .unset] []))
              refine own_by (fun t k => XS.iload X1.here hx rfl (hb hby at_196) rfl k) ?_
              show own_Go _ _ _ _ (T1.setTop (mkF m 198 #[.val (.long aa), .second, .val (.long b0), .second, .val (.long c0), .second, .val (.long d0), .second, .val (.int ff), .val (.long aa), .second, .val (.long bb), .second, .val (.long cc), .second, .val (.long dd), .second, .val (.ref vv), .val (.int (1 : Int32)), .val (.int i19), .val (.int i20), .val (.int (1 : Int32)), .unset, .unset] [(.int (1 : Int32))]))
              refine own_by (fun t k => XS.ifYes X1.here hx rfl (pc0 := 198) (pc' := 211) rfl (hb hby at_198) rfl ((if0 _ _).trans (feq (by decide : ¬ ((1 : Int32) = (0 : Int32)))).2) (by decide) (by decide) k) ?_
              show own_Go _ _ _ _ (T1.setTop (mkF m 211 #[.val (.long aa), .second, .val (.long b0), .second, .val (.long c0), .second, .val (.long d0), .second, .val (.int ff), .val (.long aa), .second, .val (.long bb), .second, .val (.long cc), .second, .val (.long dd), .second, .val (.ref vv), .val (.int (1 : Int32)), .val (.int i19), .val (.int i20), .val (.int (1 : Int32)), .unset, .unset] []))
              exact J211 _ _ _ X1 q1 N1 Zs1 1 gg _ _ _ (by omega) (by omega) (own_k0 gg 1 cc (fun yy => (yy = aa ∧ ¬ aa < dd) ∨ (yy = bb ∧ ¬ bb < dd)) hD.1 hD.2 0 (by omega) hc170) V_vv
            · refine own_by (fun t k => XS.ifNo X1.here hx rfl (hb hby at_170) rfl ((if0 _ _).trans (feq (fun q => hc170 ((lw_eq _ _).mp q))).1) k) ?_
              show own_Go _ _ _ _ (T1.setTop (mkF m 173 #[.val (.long aa), .second, .val (.long b0), .second, .val (.long c0), .second, .val (.long d0), .second, .val (.int ff), .val (.long aa), .second, .val (.long bb), .second, .val (.long cc), .second, .val (.long dd), .second, .val (.ref vv), .val (.int (1 : Int32)), .val (.int i19), .val (.int i20), .unset, .unset, .unset] []))
              refine own_by (fun t k => XS.iload X1.here hx rfl (hb hby at_173) rfl k) ?_
              show own_Go _ _ _ _ (T1.setTop (mkF m 175 #[.val (.long aa), .second, .val (.long b0), .second, .val (.long c0), .second, .val (.long d0), .second, .val (.int ff), .val (.long aa), .second, .val (.long bb), .second, .val (.long cc), .second, .val (.long dd), .second, .val (.ref vv), .val (.int (1 : Int32)), .val (.int i19), .val (.int i20), .unset, .unset, .unset] [(.int (1 : Int32))]))
              refine own_by (fun t k => XS.iconst X1.here hx rfl (hb hby at_175) k) ?_
              show own_Go _ _ _ _ (T1.setTop (mkF m 176 #[.val (.long aa), .second, .val (.long b0), .second, .val (.long c0), .second, .val (.long d0), .second, .val (.int ff), .val (.long aa), .second, .val (.long bb), .second, .val (.long cc), .second, .val (.long dd), .second, .val (.ref vv), .val (.int (1 : Int32)), .val (.int i19), .val (.int i20), .unset, .unset, .unset] [(.int (2 : Int32)), (.int (1 : Int32))]))
              refine own_by (fun t k => XS.icmpYes X1.here hx rfl (pc0 := 176) (pc' := 193) rfl (hb hby at_176) rfl (tlt (by decide : (1 : Int32) < (2 : Int32))).1 (by decide) (by decide) k) ?_
              show own_Go _ _ _ _ (T1.setTop (mkF m 193 #[.val (.long aa), .second, .val (.long b0), .second, .val (.long c0), .second, .val (.long d0), .second, .val (.int ff), .val (.long aa), .second, .val (.long bb), .second, .val (.long cc), .second, .val (.long dd), .second, .val (.ref vv), .val (.int (1 : Int32)), .val (.int i19), .val (.int i20), .unset, .unset, .unset] []))
              refine own_by (fun t k => XS.iconst X1.here hx rfl (hb hby at_193) k) ?_
              show own_Go _ _ _ _ (T1.setTop (mkF m 194 #[.val (.long aa), .second, .val (.long b0), .second, .val (.long c0), .second, .val (.long d0), .second, .val (.int ff), .val (.long aa), .second, .val (.long bb), .second, .val (.long cc), .second, .val (.long dd), .second, .val (.ref vv), .val (.int (1 : Int32)), .val (.int i19), .val (.int i20), .unset, .unset, .unset] [(.int (0 : Int32))]))
              refine own_by (fun t k => XS.istore X1.here hx rfl (hb hby at_194) rfl (l' := #[.val (.long aa), .second, .val (.long b0), .second, .val (.long c0), .second, .val (.long d0), .second, .val (.int ff), .val (.long aa), .second, .val (.long bb), .second, .val (.long cc), .second, .val (.long dd), .second, .val (.ref vv), .val (.int (1 : Int32)), .val (.int i19), .val (.int i20), .val (.int (0 : Int32)), .unset, .unset]) rfl k) ?_
              show own_Go _ _ _ _ (T1.setTop (mkF m 196 #[.val (.long aa), .second, .val (.long b0), .second, .val (.long c0), .second, .val (.long d0), .second, .val (.int ff), .val (.long aa), .second, .val (.long bb), .second, .val (.long cc), .second, .val (.long dd), .second, .val (.ref vv), .val (.int (1 : Int32)), .val (.int i19), .val (.int i20), .val (.int (0 : Int32)), .unset, .unset] []))
              refine own_by (fun t k => XS.iload X1.here hx rfl (hb hby at_196) rfl k) ?_
              show own_Go _ _ _ _ (T1.setTop (mkF m 198 #[.val (.long aa), .second, .val (.long b0), .second, .val (.long c0), .second, .val (.long d0), .second, .val (.int ff), .val (.long aa), .second, .val (.long bb), .second, .val (.long cc), .second, .val (.long dd), .second, .val (.ref vv), .val (.int (1 : Int32)), .val (.int i19), .val (.int i20), .val (.int (0 : Int32)), .unset, .unset] [(.int (0 : Int32))]))
              refine own_by (fun t k => XS.ifNo X1.here hx rfl (hb hby at_198) rfl ((if0 _ _).trans (teq (by decide : (0 : Int32) = (0 : Int32))).2) k) ?_
              show own_Go _ _ _ _ (T1.setTop (mkF m 201 #[.val (.long aa), .second, .val (.long b0), .second, .val (.long c0), .second, .val (.long d0), .second, .val (.int ff), .val (.long aa), .second, .val (.long bb), .second, .val (.long cc), .second, .val (.long dd), .second, .val (.ref vv), .val (.int (1 : Int32)), .val (.int i19), .val (.int i20), .val (.int (0 : Int32)), .unset, .unset] []))
              refine own_by (fun t k => XS.aload X1.here hx rfl (hb hby at_201) rfl rfl k) ?_
              show own_Go _ _ _ _ (T1.setTop (mkF m 203 #[.val (.long aa), .second, .val (.long b0), .second, .val (.long c0), .second, .val (.long d0), .second, .val (.int ff), .val (.long aa), .second, .val (.long bb), .second, .val (.long cc), .second, .val (.long dd), .second, .val (.ref vv), .val (.int (1 : Int32)), .val (.int i19), .val (.int i20), .val (.int (0 : Int32)), .unset, .unset] [(.ref vv)]))
              refine own_by (fun t k => XS.iload X1.here hx rfl (hb hby at_203) rfl k) ?_
              show own_Go _ _ _ _ (T1.setTop (mkF m 205 #[.val (.long aa), .second, .val (.long b0), .second, .val (.long c0), .second, .val (.long d0), .second, .val (.int ff), .val (.long aa), .second, .val (.long bb), .second, .val (.long cc), .second, .val (.long dd), .second, .val (.ref vv), .val (.int (1 : Int32)), .val (.int i19), .val (.int i20), .val (.int (0 : Int32)), .unset, .unset] [(.int (1 : Int32)), (.ref vv)]))
              refine own_by (fun t k => XS.lload X1.here hx rfl (hb hby at_205) rfl k) ?_
              show own_Go _ _ _ _ (T1.setTop (mkF m 207 #[.val (.long aa), .second, .val (.long b0), .second, .val (.long c0), .second, .val (.long d0), .second, .val (.int ff), .val (.long aa), .second, .val (.long bb), .second, .val (.long cc), .second, .val (.long dd), .second, .val (.ref vv), .val (.int (1 : Int32)), .val (.int i19), .val (.int i20), .val (.int (0 : Int32)), .unset, .unset] [(.long cc), (.int (1 : Int32)), (.ref vv)]))
              obtain ⟨Tw0_27, hw0_27, Xw0_27, ew0_27, Ww0_27, Vw0_27, stw0_27⟩ := own_stJ X1 hx hZ q1 V_vv (j := (1 : Int32)) ⟨by decide, by decide⟩ (g := (mkF m 207 #[.val (.long aa), .second, .val (.long b0), .second, .val (.long c0), .second, .val (.long d0), .second, .val (.int ff), .val (.long aa), .second, .val (.long bb), .second, .val (.long cc), .second, .val (.long dd), .second, .val (.ref vv), .val (.int (1 : Int32)), .val (.int i19), .val (.int i20), .val (.int (0 : Int32)), .unset, .unset] [(.long cc), (.int (1 : Int32)), (.ref vv)])) rfl rfl (hb hby at_207)
              replace V_vv := Vw0_27
              have Nw0_27 := Fr.snoc Xw0_27 N1 g_vv
              have Zs_w0_27 : n0 ≤ hw0_27.size := by rw [Ww0_27.size]; exact Zs1
              refine own_by (fun t k => stw0_27 t k) ?_
              replace V_vv := V_vv.weak (f' := fun k => .long ((fun k => if k = 1 then cc else gg k) k)) (fun k _ => by show (if k = 1 then _ else _) = Value.long (if k = 1 then _ else _); split <;> rfl)
              show own_Go _ _ _ _ (Tw0_27.setTop (mkF m 208 #[.val (.long aa), .second, .val (.long b0), .second, .val (.long c0), .second, .val (.long d0), .second, .val (.int ff), .val (.long aa), .second, .val (.long bb), .second, .val (.long cc), .second, .val (.long dd), .second, .val (.ref vv), .val (.int (1 : Int32)), .val (.int i19), .val (.int i20), .val (.int (0 : Int32)), .unset, .unset] []))
              refine own_by (fun t k => XS.iinc Xw0_27.here hx rfl (hb hby at_208) rfl (l' := #[.val (.long aa), .second, .val (.long b0), .second, .val (.long c0), .second, .val (.long d0), .second, .val (.int ff), .val (.long aa), .second, .val (.long bb), .second, .val (.long cc), .second, .val (.long dd), .second, .val (.ref vv), .val (.int (2 : Int32)), .val (.int i19), .val (.int i20), .val (.int (0 : Int32)), .unset, .unset]) rfl k) ?_
              show own_Go _ _ _ _ (Tw0_27.setTop (mkF m 211 #[.val (.long aa), .second, .val (.long b0), .second, .val (.long c0), .second, .val (.long d0), .second, .val (.int ff), .val (.long aa), .second, .val (.long bb), .second, .val (.long cc), .second, .val (.long dd), .second, .val (.ref vv), .val (.int (2 : Int32)), .val (.int i19), .val (.int i20), .val (.int (0 : Int32)), .unset, .unset] []))
              exact J211 _ _ _ Xw0_27 ew0_27 Nw0_27 Zs_w0_27 2 (fun k => if k = 1 then cc else gg k) _ _ _ (by omega) (by omega) (own_k1 gg (fun k => if k = 1 then cc else gg k) 1 cc (fun yy => (yy = aa ∧ ¬ aa < dd) ∨ (yy = bb ∧ ¬ bb < dd)) hD.1 hD.2 (fun k hk => by rw [show k = 0 by omega]; exact hc170) (fun k hk => if_neg (by omega)) (if_pos rfl)) V_vv
          · show own_Go _ _ _ _ (T1.setTop (mkF m 157 #[.val (.long aa), .second, .val (.long b0), .second, .val (.long c0), .second, .val (.long d0), .second, .val (.int ff), .val (.long aa), .second, .val (.long bb), .second, .val (.long cc), .second, .val (.long dd), .second, .val (.ref vv), .val (.int (2 : Int32)), .val (.int i19), .val (.int i20), .unset, .unset, .unset] []))
            show own_Go _ _ _ _ (T1.setTop (mkF m 157 #[.val (.long aa), .second, .val (.long b0), .second, .val (.long c0), .second, .val (.long d0), .second, .val (.int ff), .val (.long aa), .second, .val (.long bb), .second, .val (.long cc), .second, .val (.long dd), .second, .val (.ref vv), .val (.int (2 : Int32)), .val (.int i19), .val (.int i20), .unset, .unset, .unset] []))
            refine own_by (fun t k => XS.iload X1.here hx rfl (hb hby at_157) rfl k) ?_
            show own_Go _ _ _ _ (T1.setTop (mkF m 159 #[.val (.long aa), .second, .val (.long b0), .second, .val (.long c0), .second, .val (.long d0), .second, .val (.int ff), .val (.long aa), .second, .val (.long bb), .second, .val (.long cc), .second, .val (.long dd), .second, .val (.ref vv), .val (.int (2 : Int32)), .val (.int i19), .val (.int i20), .unset, .unset, .unset] [(.int (2 : Int32))]))
            refine own_by (fun t k => XS.iconst X1.here hx rfl (hb hby at_159) k) ?_
            show own_Go _ _ _ _ (T1.setTop (mkF m 160 #[.val (.long aa), .second, .val (.long b0), .second, .val (.long c0), .second, .val (.long d0), .second, .val (.int ff), .val (.long aa), .second, .val (.long bb), .second, .val (.long cc), .second, .val (.long dd), .second, .val (.ref vv), .val (.int (2 : Int32)), .val (.int i19), .val (.int i20), .unset, .unset, .unset] [(.int (1 : Int32)), (.int (2 : Int32))]))
            refine own_by (fun t k => XS.icmpNo X1.here hx rfl (hb hby at_160) rfl (flt (by decide : ¬ ((2 : Int32) < (1 : Int32)))).1 k) ?_
            show own_Go _ _ _ _ (T1.setTop (mkF m 163 #[.val (.long aa), .second, .val (.long b0), .second, .val (.long c0), .second, .val (.long d0), .second, .val (.int ff), .val (.long aa), .second, .val (.long bb), .second, .val (.long cc), .second, .val (.long dd), .second, .val (.ref vv), .val (.int (2 : Int32)), .val (.int i19), .val (.int i20), .unset, .unset, .unset] []))
            refine own_by (fun t k => XS.aload X1.here hx rfl (hb hby at_163) rfl rfl k) ?_
            show own_Go _ _ _ _ (T1.setTop (mkF m 165 #[.val (.long aa), .second, .val (.long b0), .second, .val (.long c0), .second, .val (.long d0), .second, .val (.int ff), .val (.long aa), .second, .val (.long bb), .second, .val (.long cc), .second, .val (.long dd), .second, .val (.ref vv), .val (.int (2 : Int32)), .val (.int i19), .val (.int i20), .unset, .unset, .unset] [(.ref vv)]))
            refine own_by (fun t k => XS.iconst X1.here hx rfl (hb hby at_165) k) ?_
            show own_Go _ _ _ _ (T1.setTop (mkF m 166 #[.val (.long aa), .second, .val (.long b0), .second, .val (.long c0), .second, .val (.long d0), .second, .val (.int ff), .val (.long aa), .second, .val (.long bb), .second, .val (.long cc), .second, .val (.long dd), .second, .val (.ref vv), .val (.int (2 : Int32)), .val (.int i19), .val (.int i20), .unset, .unset, .unset] [(.int (0 : Int32)), (.ref vv)]))
            obtain ⟨clr0_28, Arr0_28, hir0_28, har0_28⟩ := V_vv.at (j := (0 : Int32)) ⟨by decide, by decide⟩
            replace har0_28 := har0_28.trans (congrArg some rfl)
            refine own_by (fun t k => X1.laload hx (j := (0 : Int32)) (v := (.long (gg 0))) (by rw [q1]; exact Arr0_28.1) (State.isArrayOf_alike hZ.alike Arr0_28.2.1) Arr0_28.2.2 hir0_28 har0_28 (g := (mkF m 166 #[.val (.long aa), .second, .val (.long b0), .second, .val (.long c0), .second, .val (.long d0), .second, .val (.int ff), .val (.long aa), .second, .val (.long bb), .second, .val (.long cc), .second, .val (.long dd), .second, .val (.ref vv), .val (.int (2 : Int32)), .val (.int i19), .val (.int i20), .unset, .unset, .unset] [(.int (0 : Int32)), (.ref vv)])) rfl rfl (hb hby at_166) _ k) ?_
            show own_Go _ _ _ _ (T1.setTop (mkF m 167 #[.val (.long aa), .second, .val (.long b0), .second, .val (.long c0), .second, .val (.long d0), .second, .val (.int ff), .val (.long aa), .second, .val (.long bb), .second, .val (.long cc), .second, .val (.long dd), .second, .val (.ref vv), .val (.int (2 : Int32)), .val (.int i19), .val (.int i20), .unset, .unset, .unset] [(.long (gg 0))]))
            refine own_by (fun t k => XS.lload X1.here hx rfl (hb hby at_167) rfl k) ?_
            show own_Go _ _ _ _ (T1.setTop (mkF m 169 #[.val (.long aa), .second, .val (.long b0), .second, .val (.long c0), .second, .val (.long d0), .second, .val (.int ff), .val (.long aa), .second, .val (.long bb), .second, .val (.long cc), .second, .val (.long dd), .second, .val (.ref vv), .val (.int (2 : Int32)), .val (.int i19), .val (.int i20), .unset, .unset, .unset] [(.long cc), (.long (gg 0))]))
            refine own_by (fun t k => XS.lcmp X1.here hx rfl (hb hby at_169) rfl k) ?_
            show own_Go _ _ _ _ (T1.setTop (mkF m 170 #[.val (.long aa), .second, .val (.long b0), .second, .val (.long c0), .second, .val (.long d0), .second, .val (.int ff), .val (.long aa), .second, .val (.long bb), .second, .val (.long cc), .second, .val (.long dd), .second, .val (.ref vv), .val (.int (2 : Int32)), .val (.int i19), .val (.int i20), .unset, .unset, .unset] [(.int (lcmpW (gg 0) cc))]))
            by_cases hc170 : (gg 0) = cc
            · refine own_by (fun t k => XS.ifYes X1.here hx rfl (pc0 := 170) (pc' := 189) rfl (hb hby at_170) rfl ((if0 _ _).trans (teq ((lw_eq _ _).mpr hc170)).1) (by decide) (by decide) k) ?_
              show own_Go _ _ _ _ (T1.setTop (mkF m 189 #[.val (.long aa), .second, .val (.long b0), .second, .val (.long c0), .second, .val (.long d0), .second, .val (.int ff), .val (.long aa), .second, .val (.long bb), .second, .val (.long cc), .second, .val (.long dd), .second, .val (.ref vv), .val (.int (2 : Int32)), .val (.int i19), .val (.int i20), .unset, .unset, .unset] []))
              refine own_by (fun t k => XS.iconst X1.here hx rfl (hb hby at_189) k) ?_
              show own_Go _ _ _ _ (T1.setTop (mkF m 190 #[.val (.long aa), .second, .val (.long b0), .second, .val (.long c0), .second, .val (.long d0), .second, .val (.int ff), .val (.long aa), .second, .val (.long bb), .second, .val (.long cc), .second, .val (.long dd), .second, .val (.ref vv), .val (.int (2 : Int32)), .val (.int i19), .val (.int i20), .unset, .unset, .unset] [(.int (1 : Int32))]))
              refine own_by (fun t k => XS.goto X1.here hx rfl (pc0 := 190) (pc' := 194) rfl (hb hby at_190) (by decide) (by decide) k) ?_
              show own_Go _ _ _ _ (T1.setTop (mkF m 194 #[.val (.long aa), .second, .val (.long b0), .second, .val (.long c0), .second, .val (.long d0), .second, .val (.int ff), .val (.long aa), .second, .val (.long bb), .second, .val (.long cc), .second, .val (.long dd), .second, .val (.ref vv), .val (.int (2 : Int32)), .val (.int i19), .val (.int i20), .unset, .unset, .unset] [(.int (1 : Int32))]))
              refine own_by (fun t k => XS.istore X1.here hx rfl (hb hby at_194) rfl (l' := #[.val (.long aa), .second, .val (.long b0), .second, .val (.long c0), .second, .val (.long d0), .second, .val (.int ff), .val (.long aa), .second, .val (.long bb), .second, .val (.long cc), .second, .val (.long dd), .second, .val (.ref vv), .val (.int (2 : Int32)), .val (.int i19), .val (.int i20), .val (.int (1 : Int32)), .unset, .unset]) rfl k) ?_
              show own_Go _ _ _ _ (T1.setTop (mkF m 196 #[.val (.long aa), .second, .val (.long b0), .second, .val (.long c0), .second, .val (.long d0), .second, .val (.int ff), .val (.long aa), .second, .val (.long bb), .second, .val (.long cc), .second, .val (.long dd), .second, .val (.ref vv), .val (.int (2 : Int32)), .val (.int i19), .val (.int i20), .val (.int (1 : Int32)), .unset, .unset] []))
              refine own_by (fun t k => XS.iload X1.here hx rfl (hb hby at_196) rfl k) ?_
              show own_Go _ _ _ _ (T1.setTop (mkF m 198 #[.val (.long aa), .second, .val (.long b0), .second, .val (.long c0), .second, .val (.long d0), .second, .val (.int ff), .val (.long aa), .second, .val (.long bb), .second, .val (.long cc), .second, .val (.long dd), .second, .val (.ref vv), .val (.int (2 : Int32)), .val (.int i19), .val (.int i20), .val (.int (1 : Int32)), .unset, .unset] [(.int (1 : Int32))]))
              refine own_by (fun t k => XS.ifYes X1.here hx rfl (pc0 := 198) (pc' := 211) rfl (hb hby at_198) rfl ((if0 _ _).trans (feq (by decide : ¬ ((1 : Int32) = (0 : Int32)))).2) (by decide) (by decide) k) ?_
              show own_Go _ _ _ _ (T1.setTop (mkF m 211 #[.val (.long aa), .second, .val (.long b0), .second, .val (.long c0), .second, .val (.long d0), .second, .val (.int ff), .val (.long aa), .second, .val (.long bb), .second, .val (.long cc), .second, .val (.long dd), .second, .val (.ref vv), .val (.int (2 : Int32)), .val (.int i19), .val (.int i20), .val (.int (1 : Int32)), .unset, .unset] []))
              exact J211 _ _ _ X1 q1 N1 Zs1 2 gg _ _ _ (by omega) (by omega) (own_k0 gg 2 cc (fun yy => (yy = aa ∧ ¬ aa < dd) ∨ (yy = bb ∧ ¬ bb < dd)) hD.1 hD.2 0 (by omega) hc170) V_vv
            · refine own_by (fun t k => XS.ifNo X1.here hx rfl (hb hby at_170) rfl ((if0 _ _).trans (feq (fun q => hc170 ((lw_eq _ _).mp q))).1) k) ?_
              show own_Go _ _ _ _ (T1.setTop (mkF m 173 #[.val (.long aa), .second, .val (.long b0), .second, .val (.long c0), .second, .val (.long d0), .second, .val (.int ff), .val (.long aa), .second, .val (.long bb), .second, .val (.long cc), .second, .val (.long dd), .second, .val (.ref vv), .val (.int (2 : Int32)), .val (.int i19), .val (.int i20), .unset, .unset, .unset] []))
              refine own_by (fun t k => XS.iload X1.here hx rfl (hb hby at_173) rfl k) ?_
              show own_Go _ _ _ _ (T1.setTop (mkF m 175 #[.val (.long aa), .second, .val (.long b0), .second, .val (.long c0), .second, .val (.long d0), .second, .val (.int ff), .val (.long aa), .second, .val (.long bb), .second, .val (.long cc), .second, .val (.long dd), .second, .val (.ref vv), .val (.int (2 : Int32)), .val (.int i19), .val (.int i20), .unset, .unset, .unset] [(.int (2 : Int32))]))
              refine own_by (fun t k => XS.iconst X1.here hx rfl (hb hby at_175) k) ?_
              show own_Go _ _ _ _ (T1.setTop (mkF m 176 #[.val (.long aa), .second, .val (.long b0), .second, .val (.long c0), .second, .val (.long d0), .second, .val (.int ff), .val (.long aa), .second, .val (.long bb), .second, .val (.long cc), .second, .val (.long dd), .second, .val (.ref vv), .val (.int (2 : Int32)), .val (.int i19), .val (.int i20), .unset, .unset, .unset] [(.int (2 : Int32)), (.int (2 : Int32))]))
              refine own_by (fun t k => XS.icmpNo X1.here hx rfl (hb hby at_176) rfl (flt (by decide : ¬ ((2 : Int32) < (2 : Int32)))).1 k) ?_
              show own_Go _ _ _ _ (T1.setTop (mkF m 179 #[.val (.long aa), .second, .val (.long b0), .second, .val (.long c0), .second, .val (.long d0), .second, .val (.int ff), .val (.long aa), .second, .val (.long bb), .second, .val (.long cc), .second, .val (.long dd), .second, .val (.ref vv), .val (.int (2 : Int32)), .val (.int i19), .val (.int i20), .unset, .unset, .unset] []))
              refine own_by (fun t k => XS.aload X1.here hx rfl (hb hby at_179) rfl rfl k) ?_
              show own_Go _ _ _ _ (T1.setTop (mkF m 181 #[.val (.long aa), .second, .val (.long b0), .second, .val (.long c0), .second, .val (.long d0), .second, .val (.int ff), .val (.long aa), .second, .val (.long bb), .second, .val (.long cc), .second, .val (.long dd), .second, .val (.ref vv), .val (.int (2 : Int32)), .val (.int i19), .val (.int i20), .unset, .unset, .unset] [(.ref vv)]))
              refine own_by (fun t k => XS.iconst X1.here hx rfl (hb hby at_181) k) ?_
              show own_Go _ _ _ _ (T1.setTop (mkF m 182 #[.val (.long aa), .second, .val (.long b0), .second, .val (.long c0), .second, .val (.long d0), .second, .val (.int ff), .val (.long aa), .second, .val (.long bb), .second, .val (.long cc), .second, .val (.long dd), .second, .val (.ref vv), .val (.int (2 : Int32)), .val (.int i19), .val (.int i20), .unset, .unset, .unset] [(.int (1 : Int32)), (.ref vv)]))
              obtain ⟨clr0_29, Arr0_29, hir0_29, har0_29⟩ := V_vv.at (j := (1 : Int32)) ⟨by decide, by decide⟩
              replace har0_29 := har0_29.trans (congrArg some rfl)
              refine own_by (fun t k => X1.laload hx (j := (1 : Int32)) (v := (.long (gg 1))) (by rw [q1]; exact Arr0_29.1) (State.isArrayOf_alike hZ.alike Arr0_29.2.1) Arr0_29.2.2 hir0_29 har0_29 (g := (mkF m 182 #[.val (.long aa), .second, .val (.long b0), .second, .val (.long c0), .second, .val (.long d0), .second, .val (.int ff), .val (.long aa), .second, .val (.long bb), .second, .val (.long cc), .second, .val (.long dd), .second, .val (.ref vv), .val (.int (2 : Int32)), .val (.int i19), .val (.int i20), .unset, .unset, .unset] [(.int (1 : Int32)), (.ref vv)])) rfl rfl (hb hby at_182) _ k) ?_
              show own_Go _ _ _ _ (T1.setTop (mkF m 183 #[.val (.long aa), .second, .val (.long b0), .second, .val (.long c0), .second, .val (.long d0), .second, .val (.int ff), .val (.long aa), .second, .val (.long bb), .second, .val (.long cc), .second, .val (.long dd), .second, .val (.ref vv), .val (.int (2 : Int32)), .val (.int i19), .val (.int i20), .unset, .unset, .unset] [(.long (gg 1))]))
              refine own_by (fun t k => XS.lload X1.here hx rfl (hb hby at_183) rfl k) ?_
              show own_Go _ _ _ _ (T1.setTop (mkF m 185 #[.val (.long aa), .second, .val (.long b0), .second, .val (.long c0), .second, .val (.long d0), .second, .val (.int ff), .val (.long aa), .second, .val (.long bb), .second, .val (.long cc), .second, .val (.long dd), .second, .val (.ref vv), .val (.int (2 : Int32)), .val (.int i19), .val (.int i20), .unset, .unset, .unset] [(.long cc), (.long (gg 1))]))
              refine own_by (fun t k => XS.lcmp X1.here hx rfl (hb hby at_185) rfl k) ?_
              show own_Go _ _ _ _ (T1.setTop (mkF m 186 #[.val (.long aa), .second, .val (.long b0), .second, .val (.long c0), .second, .val (.long d0), .second, .val (.int ff), .val (.long aa), .second, .val (.long bb), .second, .val (.long cc), .second, .val (.long dd), .second, .val (.ref vv), .val (.int (2 : Int32)), .val (.int i19), .val (.int i20), .unset, .unset, .unset] [(.int (lcmpW (gg 1) cc))]))
              by_cases hc186 : (gg 1) = cc
              · refine own_by (fun t k => XS.ifNo X1.here hx rfl (hb hby at_186) rfl ((if0 _ _).trans (teq ((lw_eq _ _).mpr hc186)).2) k) ?_
                show own_Go _ _ _ _ (T1.setTop (mkF m 189 #[.val (.long aa), .second, .val (.long b0), .second, .val (.long c0), .second, .val (.long d0), .second, .val (.int ff), .val (.long aa), .second, .val (.long bb), .second, .val (.long cc), .second, .val (.long dd), .second, .val (.ref vv), .val (.int (2 : Int32)), .val (.int i19), .val (.int i20), .unset, .unset, .unset] []))
                refine own_by (fun t k => XS.iconst X1.here hx rfl (hb hby at_189) k) ?_
                show own_Go _ _ _ _ (T1.setTop (mkF m 190 #[.val (.long aa), .second, .val (.long b0), .second, .val (.long c0), .second, .val (.long d0), .second, .val (.int ff), .val (.long aa), .second, .val (.long bb), .second, .val (.long cc), .second, .val (.long dd), .second, .val (.ref vv), .val (.int (2 : Int32)), .val (.int i19), .val (.int i20), .unset, .unset, .unset] [(.int (1 : Int32))]))
                refine own_by (fun t k => XS.goto X1.here hx rfl (pc0 := 190) (pc' := 194) rfl (hb hby at_190) (by decide) (by decide) k) ?_
                show own_Go _ _ _ _ (T1.setTop (mkF m 194 #[.val (.long aa), .second, .val (.long b0), .second, .val (.long c0), .second, .val (.long d0), .second, .val (.int ff), .val (.long aa), .second, .val (.long bb), .second, .val (.long cc), .second, .val (.long dd), .second, .val (.ref vv), .val (.int (2 : Int32)), .val (.int i19), .val (.int i20), .unset, .unset, .unset] [(.int (1 : Int32))]))
                refine own_by (fun t k => XS.istore X1.here hx rfl (hb hby at_194) rfl (l' := #[.val (.long aa), .second, .val (.long b0), .second, .val (.long c0), .second, .val (.long d0), .second, .val (.int ff), .val (.long aa), .second, .val (.long bb), .second, .val (.long cc), .second, .val (.long dd), .second, .val (.ref vv), .val (.int (2 : Int32)), .val (.int i19), .val (.int i20), .val (.int (1 : Int32)), .unset, .unset]) rfl k) ?_
                show own_Go _ _ _ _ (T1.setTop (mkF m 196 #[.val (.long aa), .second, .val (.long b0), .second, .val (.long c0), .second, .val (.long d0), .second, .val (.int ff), .val (.long aa), .second, .val (.long bb), .second, .val (.long cc), .second, .val (.long dd), .second, .val (.ref vv), .val (.int (2 : Int32)), .val (.int i19), .val (.int i20), .val (.int (1 : Int32)), .unset, .unset] []))
                refine own_by (fun t k => XS.iload X1.here hx rfl (hb hby at_196) rfl k) ?_
                show own_Go _ _ _ _ (T1.setTop (mkF m 198 #[.val (.long aa), .second, .val (.long b0), .second, .val (.long c0), .second, .val (.long d0), .second, .val (.int ff), .val (.long aa), .second, .val (.long bb), .second, .val (.long cc), .second, .val (.long dd), .second, .val (.ref vv), .val (.int (2 : Int32)), .val (.int i19), .val (.int i20), .val (.int (1 : Int32)), .unset, .unset] [(.int (1 : Int32))]))
                refine own_by (fun t k => XS.ifYes X1.here hx rfl (pc0 := 198) (pc' := 211) rfl (hb hby at_198) rfl ((if0 _ _).trans (feq (by decide : ¬ ((1 : Int32) = (0 : Int32)))).2) (by decide) (by decide) k) ?_
                show own_Go _ _ _ _ (T1.setTop (mkF m 211 #[.val (.long aa), .second, .val (.long b0), .second, .val (.long c0), .second, .val (.long d0), .second, .val (.int ff), .val (.long aa), .second, .val (.long bb), .second, .val (.long cc), .second, .val (.long dd), .second, .val (.ref vv), .val (.int (2 : Int32)), .val (.int i19), .val (.int i20), .val (.int (1 : Int32)), .unset, .unset] []))
                exact J211 _ _ _ X1 q1 N1 Zs1 2 gg _ _ _ (by omega) (by omega) (own_k0 gg 2 cc (fun yy => (yy = aa ∧ ¬ aa < dd) ∨ (yy = bb ∧ ¬ bb < dd)) hD.1 hD.2 1 (by omega) hc186) V_vv
              · refine own_by (fun t k => XS.ifYes X1.here hx rfl (pc0 := 186) (pc' := 193) rfl (hb hby at_186) rfl ((if0 _ _).trans (feq (fun q => hc186 ((lw_eq _ _).mp q))).2) (by decide) (by decide) k) ?_
                show own_Go _ _ _ _ (T1.setTop (mkF m 193 #[.val (.long aa), .second, .val (.long b0), .second, .val (.long c0), .second, .val (.long d0), .second, .val (.int ff), .val (.long aa), .second, .val (.long bb), .second, .val (.long cc), .second, .val (.long dd), .second, .val (.ref vv), .val (.int (2 : Int32)), .val (.int i19), .val (.int i20), .unset, .unset, .unset] []))
                refine own_by (fun t k => XS.iconst X1.here hx rfl (hb hby at_193) k) ?_
                show own_Go _ _ _ _ (T1.setTop (mkF m 194 #[.val (.long aa), .second, .val (.long b0), .second, .val (.long c0), .second, .val (.long d0), .second, .val (.int ff), .val (.long aa), .second, .val (.long bb), .second, .val (.long cc), .second, .val (.long dd), .second, .val (.ref vv), .val (.int (2 : Int32)), .val (.int i19), .val (.int i20), .unset, .unset, .unset] [(.int (0 : Int32))]))
                refine own_by (fun t k => XS.istore X1.here hx rfl (hb hby at_194) rfl (l' := #[.val (.long aa), .second, .val (.long b0), .second, .val (.long c0), .second, .val (.long d0), .second, .val (.int ff), .val (.long aa), .second, .val (.long bb), .second, .val (.long cc), .second, .val (.long dd), .second, .val (.ref vv), .val (.int (2 : Int32)), .val (.int i19), .val (.int i20), .val (.int (0 : Int32)), .unset, .unset]) rfl k) ?_
                show own_Go _ _ _ _ (T1.setTop (mkF m 196 #[.val (.long aa), .second, .val (.long b0), .second, .val (.long c0), .second, .val (.long d0), .second, .val (.int ff), .val (.long aa), .second, .val (.long bb), .second, .val (.long cc), .second, .val (.long dd), .second, .val (.ref vv), .val (.int (2 : Int32)), .val (.int i19), .val (.int i20), .val (.int (0 : Int32)), .unset, .unset] []))
                refine own_by (fun t k => XS.iload X1.here hx rfl (hb hby at_196) rfl k) ?_
                show own_Go _ _ _ _ (T1.setTop (mkF m 198 #[.val (.long aa), .second, .val (.long b0), .second, .val (.long c0), .second, .val (.long d0), .second, .val (.int ff), .val (.long aa), .second, .val (.long bb), .second, .val (.long cc), .second, .val (.long dd), .second, .val (.ref vv), .val (.int (2 : Int32)), .val (.int i19), .val (.int i20), .val (.int (0 : Int32)), .unset, .unset] [(.int (0 : Int32))]))
                refine own_by (fun t k => XS.ifNo X1.here hx rfl (hb hby at_198) rfl ((if0 _ _).trans (teq (by decide : (0 : Int32) = (0 : Int32))).2) k) ?_
                show own_Go _ _ _ _ (T1.setTop (mkF m 201 #[.val (.long aa), .second, .val (.long b0), .second, .val (.long c0), .second, .val (.long d0), .second, .val (.int ff), .val (.long aa), .second, .val (.long bb), .second, .val (.long cc), .second, .val (.long dd), .second, .val (.ref vv), .val (.int (2 : Int32)), .val (.int i19), .val (.int i20), .val (.int (0 : Int32)), .unset, .unset] []))
                refine own_by (fun t k => XS.aload X1.here hx rfl (hb hby at_201) rfl rfl k) ?_
                show own_Go _ _ _ _ (T1.setTop (mkF m 203 #[.val (.long aa), .second, .val (.long b0), .second, .val (.long c0), .second, .val (.long d0), .second, .val (.int ff), .val (.long aa), .second, .val (.long bb), .second, .val (.long cc), .second, .val (.long dd), .second, .val (.ref vv), .val (.int (2 : Int32)), .val (.int i19), .val (.int i20), .val (.int (0 : Int32)), .unset, .unset] [(.ref vv)]))
                refine own_by (fun t k => XS.iload X1.here hx rfl (hb hby at_203) rfl k) ?_
                show own_Go _ _ _ _ (T1.setTop (mkF m 205 #[.val (.long aa), .second, .val (.long b0), .second, .val (.long c0), .second, .val (.long d0), .second, .val (.int ff), .val (.long aa), .second, .val (.long bb), .second, .val (.long cc), .second, .val (.long dd), .second, .val (.ref vv), .val (.int (2 : Int32)), .val (.int i19), .val (.int i20), .val (.int (0 : Int32)), .unset, .unset] [(.int (2 : Int32)), (.ref vv)]))
                refine own_by (fun t k => XS.lload X1.here hx rfl (hb hby at_205) rfl k) ?_
                show own_Go _ _ _ _ (T1.setTop (mkF m 207 #[.val (.long aa), .second, .val (.long b0), .second, .val (.long c0), .second, .val (.long d0), .second, .val (.int ff), .val (.long aa), .second, .val (.long bb), .second, .val (.long cc), .second, .val (.long dd), .second, .val (.ref vv), .val (.int (2 : Int32)), .val (.int i19), .val (.int i20), .val (.int (0 : Int32)), .unset, .unset] [(.long cc), (.int (2 : Int32)), (.ref vv)]))
                obtain ⟨Tw0_30, hw0_30, Xw0_30, ew0_30, Ww0_30, Vw0_30, stw0_30⟩ := own_stJ X1 hx hZ q1 V_vv (j := (2 : Int32)) ⟨by decide, by decide⟩ (g := (mkF m 207 #[.val (.long aa), .second, .val (.long b0), .second, .val (.long c0), .second, .val (.long d0), .second, .val (.int ff), .val (.long aa), .second, .val (.long bb), .second, .val (.long cc), .second, .val (.long dd), .second, .val (.ref vv), .val (.int (2 : Int32)), .val (.int i19), .val (.int i20), .val (.int (0 : Int32)), .unset, .unset] [(.long cc), (.int (2 : Int32)), (.ref vv)])) rfl rfl (hb hby at_207)
                replace V_vv := Vw0_30
                have Nw0_30 := Fr.snoc Xw0_30 N1 g_vv
                have Zs_w0_30 : n0 ≤ hw0_30.size := by rw [Ww0_30.size]; exact Zs1
                refine own_by (fun t k => stw0_30 t k) ?_
                replace V_vv := V_vv.weak (f' := fun k => .long ((fun k => if k = 2 then cc else gg k) k)) (fun k _ => by show (if k = 2 then _ else _) = Value.long (if k = 2 then _ else _); split <;> rfl)
                show own_Go _ _ _ _ (Tw0_30.setTop (mkF m 208 #[.val (.long aa), .second, .val (.long b0), .second, .val (.long c0), .second, .val (.long d0), .second, .val (.int ff), .val (.long aa), .second, .val (.long bb), .second, .val (.long cc), .second, .val (.long dd), .second, .val (.ref vv), .val (.int (2 : Int32)), .val (.int i19), .val (.int i20), .val (.int (0 : Int32)), .unset, .unset] []))
                refine own_by (fun t k => XS.iinc Xw0_30.here hx rfl (hb hby at_208) rfl (l' := #[.val (.long aa), .second, .val (.long b0), .second, .val (.long c0), .second, .val (.long d0), .second, .val (.int ff), .val (.long aa), .second, .val (.long bb), .second, .val (.long cc), .second, .val (.long dd), .second, .val (.ref vv), .val (.int (3 : Int32)), .val (.int i19), .val (.int i20), .val (.int (0 : Int32)), .unset, .unset]) rfl k) ?_
                show own_Go _ _ _ _ (Tw0_30.setTop (mkF m 211 #[.val (.long aa), .second, .val (.long b0), .second, .val (.long c0), .second, .val (.long d0), .second, .val (.int ff), .val (.long aa), .second, .val (.long bb), .second, .val (.long cc), .second, .val (.long dd), .second, .val (.ref vv), .val (.int (3 : Int32)), .val (.int i19), .val (.int i20), .val (.int (0 : Int32)), .unset, .unset] []))
                exact J211 _ _ _ Xw0_30 ew0_30 Nw0_30 Zs_w0_30 3 (fun k => if k = 2 then cc else gg k) _ _ _ (by omega) (by omega) (own_k1 gg (fun k => if k = 2 then cc else gg k) 2 cc (fun yy => (yy = aa ∧ ¬ aa < dd) ∨ (yy = bb ∧ ¬ bb < dd)) hD.1 hD.2 (fun k hk => by rcases (show k = 0 ∨ k = 1 by omega) with rfl | rfl <;> assumption) (fun k hk => if_neg (by omega)) (if_pos rfl)) V_vv
        show own_Go _ _ _ _ (Ta0_1.setTop (mkF m 79 #[.val (.long aa), .second, .val (.long b0), .second, .val (.long c0), .second, .val (.long d0), .second, .val (.int ff), .val (.long aa), .second, .val (.long bb), .second, .val (.long cc), .second, .val (.long dd), .second, .unset, .unset, .unset, .unset, .unset, .unset, .unset] [(.ref vv)]))
        refine own_by (fun t k => XS.astore Xa0_1.here hx rfl (hb hby at_79) rfl rfl (l' := #[.val (.long aa), .second, .val (.long b0), .second, .val (.long c0), .second, .val (.long d0), .second, .val (.int ff), .val (.long aa), .second, .val (.long bb), .second, .val (.long cc), .second, .val (.long dd), .second, .val (.ref vv), .unset, .unset, .unset, .unset, .unset, .unset]) rfl k) ?_
        show own_Go _ _ _ _ (Ta0_1.setTop (mkF m 81 #[.val (.long aa), .second, .val (.long b0), .second, .val (.long c0), .second, .val (.long d0), .second, .val (.int ff), .val (.long aa), .second, .val (.long bb), .second, .val (.long cc), .second, .val (.long dd), .second, .val (.ref vv), .unset, .unset, .unset, .unset, .unset, .unset] []))
        refine own_by (fun t k => XS.iconst Xa0_1.here hx rfl (hb hby at_81) k) ?_
        show own_Go _ _ _ _ (Ta0_1.setTop (mkF m 82 #[.val (.long aa), .second, .val (.long b0), .second, .val (.long c0), .second, .val (.long d0), .second, .val (.int ff), .val (.long aa), .second, .val (.long bb), .second, .val (.long cc), .second, .val (.long dd), .second, .val (.ref vv), .unset, .unset, .unset, .unset, .unset, .unset] [(.int (0 : Int32))]))
        refine own_by (fun t k => XS.istore Xa0_1.here hx rfl (hb hby at_82) rfl (l' := #[.val (.long aa), .second, .val (.long b0), .second, .val (.long c0), .second, .val (.long d0), .second, .val (.int ff), .val (.long aa), .second, .val (.long bb), .second, .val (.long cc), .second, .val (.long dd), .second, .val (.ref vv), .val (.int (0 : Int32)), .unset, .unset, .unset, .unset, .unset]) rfl k) ?_
        show own_Go _ _ _ _ (Ta0_1.setTop (mkF m 84 #[.val (.long aa), .second, .val (.long b0), .second, .val (.long c0), .second, .val (.long d0), .second, .val (.int ff), .val (.long aa), .second, .val (.long bb), .second, .val (.long cc), .second, .val (.long dd), .second, .val (.ref vv), .val (.int (0 : Int32)), .unset, .unset, .unset, .unset, .unset] []))
        refine own_by (fun t k => XS.lload Xa0_1.here hx rfl (hb hby at_84) rfl k) ?_
        show own_Go _ _ _ _ (Ta0_1.setTop (mkF m 86 #[.val (.long aa), .second, .val (.long b0), .second, .val (.long c0), .second, .val (.long d0), .second, .val (.int ff), .val (.long aa), .second, .val (.long bb), .second, .val (.long cc), .second, .val (.long dd), .second, .val (.ref vv), .val (.int (0 : Int32)), .unset, .unset, .unset, .unset, .unset] [(.long aa)]))
        refine own_by (fun t k => XS.lload Xa0_1.here hx rfl (hb hby at_86) rfl k) ?_
        show own_Go _ _ _ _ (Ta0_1.setTop (mkF m 88 #[.val (.long aa), .second, .val (.long b0), .second, .val (.long c0), .second, .val (.long d0), .second, .val (.int ff), .val (.long aa), .second, .val (.long bb), .second, .val (.long cc), .second, .val (.long dd), .second, .val (.ref vv), .val (.int (0 : Int32)), .unset, .unset, .unset, .unset, .unset] [(.long dd), (.long aa)]))
        refine own_by (fun t k => XS.lcmp Xa0_1.here hx rfl (hb hby at_88) rfl k) ?_
        show own_Go _ _ _ _ (Ta0_1.setTop (mkF m 89 #[.val (.long aa), .second, .val (.long b0), .second, .val (.long c0), .second, .val (.long d0), .second, .val (.int ff), .val (.long aa), .second, .val (.long bb), .second, .val (.long cc), .second, .val (.long dd), .second, .val (.ref vv), .val (.int (0 : Int32)), .unset, .unset, .unset, .unset, .unset] [(.int (lcmpW aa dd))]))
        by_cases hc89 : aa < dd
        · refine own_by (fun t k => XS.ifYes Xa0_1.here hx rfl (pc0 := 89) (pc' := 96) rfl (hb hby at_89) rfl ((if0 _ _).trans (tlt ((lw_lt _ _).mpr hc89)).1) (by decide) (by decide) k) ?_
          show own_Go _ _ _ _ (Ta0_1.setTop (mkF m 96 #[.val (.long aa), .second, .val (.long b0), .second, .val (.long c0), .second, .val (.long d0), .second, .val (.int ff), .val (.long aa), .second, .val (.long bb), .second, .val (.long cc), .second, .val (.long dd), .second, .val (.ref vv), .val (.int (0 : Int32)), .unset, .unset, .unset, .unset, .unset] []))
          refine own_by (fun t k => XS.iconst Xa0_1.here hx rfl (hb hby at_96) k) ?_
          show own_Go _ _ _ _ (Ta0_1.setTop (mkF m 97 #[.val (.long aa), .second, .val (.long b0), .second, .val (.long c0), .second, .val (.long d0), .second, .val (.int ff), .val (.long aa), .second, .val (.long bb), .second, .val (.long cc), .second, .val (.long dd), .second, .val (.ref vv), .val (.int (0 : Int32)), .unset, .unset, .unset, .unset, .unset] [(.int (0 : Int32))]))
          refine own_by (fun t k => XS.istore Xa0_1.here hx rfl (hb hby at_97) rfl (l' := #[.val (.long aa), .second, .val (.long b0), .second, .val (.long c0), .second, .val (.long d0), .second, .val (.int ff), .val (.long aa), .second, .val (.long bb), .second, .val (.long cc), .second, .val (.long dd), .second, .val (.ref vv), .val (.int (0 : Int32)), .val (.int (0 : Int32)), .unset, .unset, .unset, .unset]) rfl k) ?_
          show own_Go _ _ _ _ (Ta0_1.setTop (mkF m 99 #[.val (.long aa), .second, .val (.long b0), .second, .val (.long c0), .second, .val (.long d0), .second, .val (.int ff), .val (.long aa), .second, .val (.long bb), .second, .val (.long cc), .second, .val (.long dd), .second, .val (.ref vv), .val (.int (0 : Int32)), .val (.int (0 : Int32)), .unset, .unset, .unset, .unset] []))
          refine own_by (fun t k => XS.lload Xa0_1.here hx rfl (hb hby at_99) rfl k) ?_
          show own_Go _ _ _ _ (Ta0_1.setTop (mkF m 101 #[.val (.long aa), .second, .val (.long b0), .second, .val (.long c0), .second, .val (.long d0), .second, .val (.int ff), .val (.long aa), .second, .val (.long bb), .second, .val (.long cc), .second, .val (.long dd), .second, .val (.ref vv), .val (.int (0 : Int32)), .val (.int (0 : Int32)), .unset, .unset, .unset, .unset] [(.long bb)]))
          refine own_by (fun t k => XS.lload Xa0_1.here hx rfl (hb hby at_101) rfl k) ?_
          show own_Go _ _ _ _ (Ta0_1.setTop (mkF m 103 #[.val (.long aa), .second, .val (.long b0), .second, .val (.long c0), .second, .val (.long d0), .second, .val (.int ff), .val (.long aa), .second, .val (.long bb), .second, .val (.long cc), .second, .val (.long dd), .second, .val (.ref vv), .val (.int (0 : Int32)), .val (.int (0 : Int32)), .unset, .unset, .unset, .unset] [(.long dd), (.long bb)]))
          refine own_by (fun t k => XS.lcmp Xa0_1.here hx rfl (hb hby at_103) rfl k) ?_
          show own_Go _ _ _ _ (Ta0_1.setTop (mkF m 104 #[.val (.long aa), .second, .val (.long b0), .second, .val (.long c0), .second, .val (.long d0), .second, .val (.int ff), .val (.long aa), .second, .val (.long bb), .second, .val (.long cc), .second, .val (.long dd), .second, .val (.ref vv), .val (.int (0 : Int32)), .val (.int (0 : Int32)), .unset, .unset, .unset, .unset] [(.int (lcmpW bb dd))]))
          by_cases hc104 : bb < dd
          · refine own_by (fun t k => XS.ifYes Xa0_1.here hx rfl (pc0 := 104) (pc' := 111) rfl (hb hby at_104) rfl ((if0 _ _).trans (tlt ((lw_lt _ _).mpr hc104)).1) (by decide) (by decide) k) ?_
            show own_Go _ _ _ _ (Ta0_1.setTop (mkF m 111 #[.val (.long aa), .second, .val (.long b0), .second, .val (.long c0), .second, .val (.long d0), .second, .val (.int ff), .val (.long aa), .second, .val (.long bb), .second, .val (.long cc), .second, .val (.long dd), .second, .val (.ref vv), .val (.int (0 : Int32)), .val (.int (0 : Int32)), .unset, .unset, .unset, .unset] []))
            refine own_by (fun t k => XS.iconst Xa0_1.here hx rfl (hb hby at_111) k) ?_
            show own_Go _ _ _ _ (Ta0_1.setTop (mkF m 112 #[.val (.long aa), .second, .val (.long b0), .second, .val (.long c0), .second, .val (.long d0), .second, .val (.int ff), .val (.long aa), .second, .val (.long bb), .second, .val (.long cc), .second, .val (.long dd), .second, .val (.ref vv), .val (.int (0 : Int32)), .val (.int (0 : Int32)), .unset, .unset, .unset, .unset] [(.int (0 : Int32))]))
            refine own_by (fun t k => XS.istore Xa0_1.here hx rfl (hb hby at_112) rfl (l' := #[.val (.long aa), .second, .val (.long b0), .second, .val (.long c0), .second, .val (.long d0), .second, .val (.int ff), .val (.long aa), .second, .val (.long bb), .second, .val (.long cc), .second, .val (.long dd), .second, .val (.ref vv), .val (.int (0 : Int32)), .val (.int (0 : Int32)), .val (.int (0 : Int32)), .unset, .unset, .unset]) rfl k) ?_
            show own_Go _ _ _ _ (Ta0_1.setTop (mkF m 114 #[.val (.long aa), .second, .val (.long b0), .second, .val (.long c0), .second, .val (.long d0), .second, .val (.int ff), .val (.long aa), .second, .val (.long bb), .second, .val (.long cc), .second, .val (.long dd), .second, .val (.ref vv), .val (.int (0 : Int32)), .val (.int (0 : Int32)), .val (.int (0 : Int32)), .unset, .unset, .unset] []))
            refine own_by (fun t k => XS.iload Xa0_1.here hx rfl (hb hby at_114) rfl k) ?_
            show own_Go _ _ _ _ (Ta0_1.setTop (mkF m 116 #[.val (.long aa), .second, .val (.long b0), .second, .val (.long c0), .second, .val (.long d0), .second, .val (.int ff), .val (.long aa), .second, .val (.long bb), .second, .val (.long cc), .second, .val (.long dd), .second, .val (.ref vv), .val (.int (0 : Int32)), .val (.int (0 : Int32)), .val (.int (0 : Int32)), .unset, .unset, .unset] [(.int (0 : Int32))]))
            refine own_by (fun t k => XS.ifYes Xa0_1.here hx rfl (pc0 := 116) (pc' := 129) rfl (hb hby at_116) rfl ((if0 _ _).trans (teq (by decide : (0 : Int32) = (0 : Int32))).1) (by decide) (by decide) k) ?_
            show own_Go _ _ _ _ (Ta0_1.setTop (mkF m 129 #[.val (.long aa), .second, .val (.long b0), .second, .val (.long c0), .second, .val (.long d0), .second, .val (.int ff), .val (.long aa), .second, .val (.long bb), .second, .val (.long cc), .second, .val (.long dd), .second, .val (.ref vv), .val (.int (0 : Int32)), .val (.int (0 : Int32)), .val (.int (0 : Int32)), .unset, .unset, .unset] []))
            refine own_by (fun t k => XS.iload Xa0_1.here hx rfl (hb hby at_129) rfl k) ?_
            show own_Go _ _ _ _ (Ta0_1.setTop (mkF m 131 #[.val (.long aa), .second, .val (.long b0), .second, .val (.long c0), .second, .val (.long d0), .second, .val (.int ff), .val (.long aa), .second, .val (.long bb), .second, .val (.long cc), .second, .val (.long dd), .second, .val (.ref vv), .val (.int (0 : Int32)), .val (.int (0 : Int32)), .val (.int (0 : Int32)), .unset, .unset, .unset] [(.int (0 : Int32))]))
            refine own_by (fun t k => XS.ifYes Xa0_1.here hx rfl (pc0 := 131) (pc' := 157) rfl (hb hby at_131) rfl ((if0 _ _).trans (teq (by decide : (0 : Int32) = (0 : Int32))).1) (by decide) (by decide) k) ?_
            show own_Go _ _ _ _ (Ta0_1.setTop (mkF m 157 #[.val (.long aa), .second, .val (.long b0), .second, .val (.long c0), .second, .val (.long d0), .second, .val (.int ff), .val (.long aa), .second, .val (.long bb), .second, .val (.long cc), .second, .val (.long dd), .second, .val (.ref vv), .val (.int (0 : Int32)), .val (.int (0 : Int32)), .val (.int (0 : Int32)), .unset, .unset, .unset] []))
            exact J157 _ _ _ Xa0_1 ea0_1 N0 Zs_a0_1 0 (fun _ => (0 : Int64)) _ _ (by omega) (own_r0 _ hc89 hc104) V_vv
          · refine own_by (fun t k => XS.ifNo Xa0_1.here hx rfl (hb hby at_104) rfl ((if0 _ _).trans (flt (fun q => hc104 ((lw_lt _ _).mp q))).1) k) ?_
            show own_Go _ _ _ _ (Ta0_1.setTop (mkF m 107 #[.val (.long aa), .second, .val (.long b0), .second, .val (.long c0), .second, .val (.long d0), .second, .val (.int ff), .val (.long aa), .second, .val (.long bb), .second, .val (.long cc), .second, .val (.long dd), .second, .val (.ref vv), .val (.int (0 : Int32)), .val (.int (0 : Int32)), .unset, .unset, .unset, .unset] []))
            refine own_by (fun t k => XS.iconst Xa0_1.here hx rfl (hb hby at_107) k) ?_
            show own_Go _ _ _ _ (Ta0_1.setTop (mkF m 108 #[.val (.long aa), .second, .val (.long b0), .second, .val (.long c0), .second, .val (.long d0), .second, .val (.int ff), .val (.long aa), .second, .val (.long bb), .second, .val (.long cc), .second, .val (.long dd), .second, .val (.ref vv), .val (.int (0 : Int32)), .val (.int (0 : Int32)), .unset, .unset, .unset, .unset] [(.int (1 : Int32))]))
            refine own_by (fun t k => XS.goto Xa0_1.here hx rfl (pc0 := 108) (pc' := 112) rfl (hb hby at_108) (by decide) (by decide) k) ?_
            show own_Go _ _ _ _ (Ta0_1.setTop (mkF m 112 #[.val (.long aa), .second, .val (.long b0), .second, .val (.long c0), .second, .val (.long d0), .second, .val (.int ff), .val (.long aa), .second, .val (.long bb), .second, .val (.long cc), .second, .val (.long dd), .second, .val (.ref vv), .val (.int (0 : Int32)), .val (.int (0 : Int32)), .unset, .unset, .unset, .unset] [(.int (1 : Int32))]))
            refine own_by (fun t k => XS.istore Xa0_1.here hx rfl (hb hby at_112) rfl (l' := #[.val (.long aa), .second, .val (.long b0), .second, .val (.long c0), .second, .val (.long d0), .second, .val (.int ff), .val (.long aa), .second, .val (.long bb), .second, .val (.long cc), .second, .val (.long dd), .second, .val (.ref vv), .val (.int (0 : Int32)), .val (.int (0 : Int32)), .val (.int (1 : Int32)), .unset, .unset, .unset]) rfl k) ?_
            show own_Go _ _ _ _ (Ta0_1.setTop (mkF m 114 #[.val (.long aa), .second, .val (.long b0), .second, .val (.long c0), .second, .val (.long d0), .second, .val (.int ff), .val (.long aa), .second, .val (.long bb), .second, .val (.long cc), .second, .val (.long dd), .second, .val (.ref vv), .val (.int (0 : Int32)), .val (.int (0 : Int32)), .val (.int (1 : Int32)), .unset, .unset, .unset] []))
            refine own_by (fun t k => XS.iload Xa0_1.here hx rfl (hb hby at_114) rfl k) ?_
            show own_Go _ _ _ _ (Ta0_1.setTop (mkF m 116 #[.val (.long aa), .second, .val (.long b0), .second, .val (.long c0), .second, .val (.long d0), .second, .val (.int ff), .val (.long aa), .second, .val (.long bb), .second, .val (.long cc), .second, .val (.long dd), .second, .val (.ref vv), .val (.int (0 : Int32)), .val (.int (0 : Int32)), .val (.int (1 : Int32)), .unset, .unset, .unset] [(.int (0 : Int32))]))
            refine own_by (fun t k => XS.ifYes Xa0_1.here hx rfl (pc0 := 116) (pc' := 129) rfl (hb hby at_116) rfl ((if0 _ _).trans (teq (by decide : (0 : Int32) = (0 : Int32))).1) (by decide) (by decide) k) ?_
            show own_Go _ _ _ _ (Ta0_1.setTop (mkF m 129 #[.val (.long aa), .second, .val (.long b0), .second, .val (.long c0), .second, .val (.long d0), .second, .val (.int ff), .val (.long aa), .second, .val (.long bb), .second, .val (.long cc), .second, .val (.long dd), .second, .val (.ref vv), .val (.int (0 : Int32)), .val (.int (0 : Int32)), .val (.int (1 : Int32)), .unset, .unset, .unset] []))
            refine own_by (fun t k => XS.iload Xa0_1.here hx rfl (hb hby at_129) rfl k) ?_
            show own_Go _ _ _ _ (Ta0_1.setTop (mkF m 131 #[.val (.long aa), .second, .val (.long b0), .second, .val (.long c0), .second, .val (.long d0), .second, .val (.int ff), .val (.long aa), .second, .val (.long bb), .second, .val (.long cc), .second, .val (.long dd), .second, .val (.ref vv), .val (.int (0 : Int32)), .val (.int (0 : Int32)), .val (.int (1 : Int32)), .unset, .unset, .unset] [(.int (1 : Int32))]))
            refine own_by (fun t k => XS.ifNo Xa0_1.here hx rfl (hb hby at_131) rfl ((if0 _ _).trans (feq (by decide : ¬ ((1 : Int32) = (0 : Int32)))).1) k) ?_
            show own_Go _ _ _ _ (Ta0_1.setTop (mkF m 134 #[.val (.long aa), .second, .val (.long b0), .second, .val (.long c0), .second, .val (.long d0), .second, .val (.int ff), .val (.long aa), .second, .val (.long bb), .second, .val (.long cc), .second, .val (.long dd), .second, .val (.ref vv), .val (.int (0 : Int32)), .val (.int (0 : Int32)), .val (.int (1 : Int32)), .unset, .unset, .unset] []))
            refine own_by (fun t k => XS.iload Xa0_1.here hx rfl (hb hby at_134) rfl k) ?_
            show own_Go _ _ _ _ (Ta0_1.setTop (mkF m 136 #[.val (.long aa), .second, .val (.long b0), .second, .val (.long c0), .second, .val (.long d0), .second, .val (.int ff), .val (.long aa), .second, .val (.long bb), .second, .val (.long cc), .second, .val (.long dd), .second, .val (.ref vv), .val (.int (0 : Int32)), .val (.int (0 : Int32)), .val (.int (1 : Int32)), .unset, .unset, .unset] [(.int (0 : Int32))]))
            refine own_by (fun t k => XS.ifYes Xa0_1.here hx rfl (pc0 := 136) (pc' := 147) rfl (hb hby at_136) rfl ((if0 _ _).trans (teq (by decide : (0 : Int32) = (0 : Int32))).1) (by decide) (by decide) k) ?_
            show own_Go _ _ _ _ (Ta0_1.setTop (mkF m 147 #[.val (.long aa), .second, .val (.long b0), .second, .val (.long c0), .second, .val (.long d0), .second, .val (.int ff), .val (.long aa), .second, .val (.long bb), .second, .val (.long cc), .second, .val (.long dd), .second, .val (.ref vv), .val (.int (0 : Int32)), .val (.int (0 : Int32)), .val (.int (1 : Int32)), .unset, .unset, .unset] []))
            refine own_by (fun t k => XS.aload Xa0_1.here hx rfl (hb hby at_147) rfl rfl k) ?_
            show own_Go _ _ _ _ (Ta0_1.setTop (mkF m 149 #[.val (.long aa), .second, .val (.long b0), .second, .val (.long c0), .second, .val (.long d0), .second, .val (.int ff), .val (.long aa), .second, .val (.long bb), .second, .val (.long cc), .second, .val (.long dd), .second, .val (.ref vv), .val (.int (0 : Int32)), .val (.int (0 : Int32)), .val (.int (1 : Int32)), .unset, .unset, .unset] [(.ref vv)]))
            refine own_by (fun t k => XS.iload Xa0_1.here hx rfl (hb hby at_149) rfl k) ?_
            show own_Go _ _ _ _ (Ta0_1.setTop (mkF m 151 #[.val (.long aa), .second, .val (.long b0), .second, .val (.long c0), .second, .val (.long d0), .second, .val (.int ff), .val (.long aa), .second, .val (.long bb), .second, .val (.long cc), .second, .val (.long dd), .second, .val (.ref vv), .val (.int (0 : Int32)), .val (.int (0 : Int32)), .val (.int (1 : Int32)), .unset, .unset, .unset] [(.int (0 : Int32)), (.ref vv)]))
            refine own_by (fun t k => XS.lload Xa0_1.here hx rfl (hb hby at_151) rfl k) ?_
            show own_Go _ _ _ _ (Ta0_1.setTop (mkF m 153 #[.val (.long aa), .second, .val (.long b0), .second, .val (.long c0), .second, .val (.long d0), .second, .val (.int ff), .val (.long aa), .second, .val (.long bb), .second, .val (.long cc), .second, .val (.long dd), .second, .val (.ref vv), .val (.int (0 : Int32)), .val (.int (0 : Int32)), .val (.int (1 : Int32)), .unset, .unset, .unset] [(.long bb), (.int (0 : Int32)), (.ref vv)]))
            obtain ⟨Tw0_31, hw0_31, Xw0_31, ew0_31, Ww0_31, Vw0_31, stw0_31⟩ := own_stJ Xa0_1 hx hZ ea0_1 V_vv (j := (0 : Int32)) ⟨by decide, by decide⟩ (g := (mkF m 153 #[.val (.long aa), .second, .val (.long b0), .second, .val (.long c0), .second, .val (.long d0), .second, .val (.int ff), .val (.long aa), .second, .val (.long bb), .second, .val (.long cc), .second, .val (.long dd), .second, .val (.ref vv), .val (.int (0 : Int32)), .val (.int (0 : Int32)), .val (.int (1 : Int32)), .unset, .unset, .unset] [(.long bb), (.int (0 : Int32)), (.ref vv)])) rfl rfl (hb hby at_153)
            replace V_vv := Vw0_31
            have Nw0_31 := Fr.snoc Xw0_31 N0 g_vv
            have Zs_w0_31 : n0 ≤ hw0_31.size := by rw [Ww0_31.size]; exact Zs_a0_1
            refine own_by (fun t k => stw0_31 t k) ?_
            replace V_vv := V_vv.weak (f' := fun k => .long ((fun k => if k = 0 then bb else (fun _ => (0 : Int64)) k) k)) (fun k _ => by show (if k = 0 then _ else _) = Value.long (if k = 0 then _ else _); split <;> rfl)
            show own_Go _ _ _ _ (Tw0_31.setTop (mkF m 154 #[.val (.long aa), .second, .val (.long b0), .second, .val (.long c0), .second, .val (.long d0), .second, .val (.int ff), .val (.long aa), .second, .val (.long bb), .second, .val (.long cc), .second, .val (.long dd), .second, .val (.ref vv), .val (.int (0 : Int32)), .val (.int (0 : Int32)), .val (.int (1 : Int32)), .unset, .unset, .unset] []))
            refine own_by (fun t k => XS.iinc Xw0_31.here hx rfl (hb hby at_154) rfl (l' := #[.val (.long aa), .second, .val (.long b0), .second, .val (.long c0), .second, .val (.long d0), .second, .val (.int ff), .val (.long aa), .second, .val (.long bb), .second, .val (.long cc), .second, .val (.long dd), .second, .val (.ref vv), .val (.int (1 : Int32)), .val (.int (0 : Int32)), .val (.int (1 : Int32)), .unset, .unset, .unset]) rfl k) ?_
            show own_Go _ _ _ _ (Tw0_31.setTop (mkF m 157 #[.val (.long aa), .second, .val (.long b0), .second, .val (.long c0), .second, .val (.long d0), .second, .val (.int ff), .val (.long aa), .second, .val (.long bb), .second, .val (.long cc), .second, .val (.long dd), .second, .val (.ref vv), .val (.int (1 : Int32)), .val (.int (0 : Int32)), .val (.int (1 : Int32)), .unset, .unset, .unset] []))
            exact J157 _ _ _ Xw0_31 ew0_31 Nw0_31 Zs_w0_31 1 (fun k => if k = 0 then bb else 0) _ _ (by omega) (own_r2 _ rfl hc89 hc104) V_vv
        · refine own_by (fun t k => XS.ifNo Xa0_1.here hx rfl (hb hby at_89) rfl ((if0 _ _).trans (flt (fun q => hc89 ((lw_lt _ _).mp q))).1) k) ?_
          show own_Go _ _ _ _ (Ta0_1.setTop (mkF m 92 #[.val (.long aa), .second, .val (.long b0), .second, .val (.long c0), .second, .val (.long d0), .second, .val (.int ff), .val (.long aa), .second, .val (.long bb), .second, .val (.long cc), .second, .val (.long dd), .second, .val (.ref vv), .val (.int (0 : Int32)), .unset, .unset, .unset, .unset, .unset] []))
          refine own_by (fun t k => XS.iconst Xa0_1.here hx rfl (hb hby at_92) k) ?_
          show own_Go _ _ _ _ (Ta0_1.setTop (mkF m 93 #[.val (.long aa), .second, .val (.long b0), .second, .val (.long c0), .second, .val (.long d0), .second, .val (.int ff), .val (.long aa), .second, .val (.long bb), .second, .val (.long cc), .second, .val (.long dd), .second, .val (.ref vv), .val (.int (0 : Int32)), .unset, .unset, .unset, .unset, .unset] [(.int (1 : Int32))]))
          refine own_by (fun t k => XS.goto Xa0_1.here hx rfl (pc0 := 93) (pc' := 97) rfl (hb hby at_93) (by decide) (by decide) k) ?_
          show own_Go _ _ _ _ (Ta0_1.setTop (mkF m 97 #[.val (.long aa), .second, .val (.long b0), .second, .val (.long c0), .second, .val (.long d0), .second, .val (.int ff), .val (.long aa), .second, .val (.long bb), .second, .val (.long cc), .second, .val (.long dd), .second, .val (.ref vv), .val (.int (0 : Int32)), .unset, .unset, .unset, .unset, .unset] [(.int (1 : Int32))]))
          refine own_by (fun t k => XS.istore Xa0_1.here hx rfl (hb hby at_97) rfl (l' := #[.val (.long aa), .second, .val (.long b0), .second, .val (.long c0), .second, .val (.long d0), .second, .val (.int ff), .val (.long aa), .second, .val (.long bb), .second, .val (.long cc), .second, .val (.long dd), .second, .val (.ref vv), .val (.int (0 : Int32)), .val (.int (1 : Int32)), .unset, .unset, .unset, .unset]) rfl k) ?_
          show own_Go _ _ _ _ (Ta0_1.setTop (mkF m 99 #[.val (.long aa), .second, .val (.long b0), .second, .val (.long c0), .second, .val (.long d0), .second, .val (.int ff), .val (.long aa), .second, .val (.long bb), .second, .val (.long cc), .second, .val (.long dd), .second, .val (.ref vv), .val (.int (0 : Int32)), .val (.int (1 : Int32)), .unset, .unset, .unset, .unset] []))
          refine own_by (fun t k => XS.lload Xa0_1.here hx rfl (hb hby at_99) rfl k) ?_
          show own_Go _ _ _ _ (Ta0_1.setTop (mkF m 101 #[.val (.long aa), .second, .val (.long b0), .second, .val (.long c0), .second, .val (.long d0), .second, .val (.int ff), .val (.long aa), .second, .val (.long bb), .second, .val (.long cc), .second, .val (.long dd), .second, .val (.ref vv), .val (.int (0 : Int32)), .val (.int (1 : Int32)), .unset, .unset, .unset, .unset] [(.long bb)]))
          refine own_by (fun t k => XS.lload Xa0_1.here hx rfl (hb hby at_101) rfl k) ?_
          show own_Go _ _ _ _ (Ta0_1.setTop (mkF m 103 #[.val (.long aa), .second, .val (.long b0), .second, .val (.long c0), .second, .val (.long d0), .second, .val (.int ff), .val (.long aa), .second, .val (.long bb), .second, .val (.long cc), .second, .val (.long dd), .second, .val (.ref vv), .val (.int (0 : Int32)), .val (.int (1 : Int32)), .unset, .unset, .unset, .unset] [(.long dd), (.long bb)]))
          refine own_by (fun t k => XS.lcmp Xa0_1.here hx rfl (hb hby at_103) rfl k) ?_
          show own_Go _ _ _ _ (Ta0_1.setTop (mkF m 104 #[.val (.long aa), .second, .val (.long b0), .second, .val (.long c0), .second, .val (.long d0), .second, .val (.int ff), .val (.long aa), .second, .val (.long bb), .second, .val (.long cc), .second, .val (.long dd), .second, .val (.ref vv), .val (.int (0 : Int32)), .val (.int (1 : Int32)), .unset, .unset, .unset, .unset] [(.int (lcmpW bb dd))]))
          by_cases hc104 : bb < dd
          · refine own_by (fun t k => XS.ifYes Xa0_1.here hx rfl (pc0 := 104) (pc' := 111) rfl (hb hby at_104) rfl ((if0 _ _).trans (tlt ((lw_lt _ _).mpr hc104)).1) (by decide) (by decide) k) ?_
            show own_Go _ _ _ _ (Ta0_1.setTop (mkF m 111 #[.val (.long aa), .second, .val (.long b0), .second, .val (.long c0), .second, .val (.long d0), .second, .val (.int ff), .val (.long aa), .second, .val (.long bb), .second, .val (.long cc), .second, .val (.long dd), .second, .val (.ref vv), .val (.int (0 : Int32)), .val (.int (1 : Int32)), .unset, .unset, .unset, .unset] []))
            refine own_by (fun t k => XS.iconst Xa0_1.here hx rfl (hb hby at_111) k) ?_
            show own_Go _ _ _ _ (Ta0_1.setTop (mkF m 112 #[.val (.long aa), .second, .val (.long b0), .second, .val (.long c0), .second, .val (.long d0), .second, .val (.int ff), .val (.long aa), .second, .val (.long bb), .second, .val (.long cc), .second, .val (.long dd), .second, .val (.ref vv), .val (.int (0 : Int32)), .val (.int (1 : Int32)), .unset, .unset, .unset, .unset] [(.int (0 : Int32))]))
            refine own_by (fun t k => XS.istore Xa0_1.here hx rfl (hb hby at_112) rfl (l' := #[.val (.long aa), .second, .val (.long b0), .second, .val (.long c0), .second, .val (.long d0), .second, .val (.int ff), .val (.long aa), .second, .val (.long bb), .second, .val (.long cc), .second, .val (.long dd), .second, .val (.ref vv), .val (.int (0 : Int32)), .val (.int (1 : Int32)), .val (.int (0 : Int32)), .unset, .unset, .unset]) rfl k) ?_
            show own_Go _ _ _ _ (Ta0_1.setTop (mkF m 114 #[.val (.long aa), .second, .val (.long b0), .second, .val (.long c0), .second, .val (.long d0), .second, .val (.int ff), .val (.long aa), .second, .val (.long bb), .second, .val (.long cc), .second, .val (.long dd), .second, .val (.ref vv), .val (.int (0 : Int32)), .val (.int (1 : Int32)), .val (.int (0 : Int32)), .unset, .unset, .unset] []))
            refine own_by (fun t k => XS.iload Xa0_1.here hx rfl (hb hby at_114) rfl k) ?_
            show own_Go _ _ _ _ (Ta0_1.setTop (mkF m 116 #[.val (.long aa), .second, .val (.long b0), .second, .val (.long c0), .second, .val (.long d0), .second, .val (.int ff), .val (.long aa), .second, .val (.long bb), .second, .val (.long cc), .second, .val (.long dd), .second, .val (.ref vv), .val (.int (0 : Int32)), .val (.int (1 : Int32)), .val (.int (0 : Int32)), .unset, .unset, .unset] [(.int (1 : Int32))]))
            refine own_by (fun t k => XS.ifNo Xa0_1.here hx rfl (hb hby at_116) rfl ((if0 _ _).trans (feq (by decide : ¬ ((1 : Int32) = (0 : Int32)))).1) k) ?_
            show own_Go _ _ _ _ (Ta0_1.setTop (mkF m 119 #[.val (.long aa), .second, .val (.long b0), .second, .val (.long c0), .second, .val (.long d0), .second, .val (.int ff), .val (.long aa), .second, .val (.long bb), .second, .val (.long cc), .second, .val (.long dd), .second, .val (.ref vv), .val (.int (0 : Int32)), .val (.int (1 : Int32)), .val (.int (0 : Int32)), .unset, .unset, .unset] []))
            refine own_by (fun t k => XS.aload Xa0_1.here hx rfl (hb hby at_119) rfl rfl k) ?_
            show own_Go _ _ _ _ (Ta0_1.setTop (mkF m 121 #[.val (.long aa), .second, .val (.long b0), .second, .val (.long c0), .second, .val (.long d0), .second, .val (.int ff), .val (.long aa), .second, .val (.long bb), .second, .val (.long cc), .second, .val (.long dd), .second, .val (.ref vv), .val (.int (0 : Int32)), .val (.int (1 : Int32)), .val (.int (0 : Int32)), .unset, .unset, .unset] [(.ref vv)]))
            refine own_by (fun t k => XS.iload Xa0_1.here hx rfl (hb hby at_121) rfl k) ?_
            show own_Go _ _ _ _ (Ta0_1.setTop (mkF m 123 #[.val (.long aa), .second, .val (.long b0), .second, .val (.long c0), .second, .val (.long d0), .second, .val (.int ff), .val (.long aa), .second, .val (.long bb), .second, .val (.long cc), .second, .val (.long dd), .second, .val (.ref vv), .val (.int (0 : Int32)), .val (.int (1 : Int32)), .val (.int (0 : Int32)), .unset, .unset, .unset] [(.int (0 : Int32)), (.ref vv)]))
            refine own_by (fun t k => XS.lload Xa0_1.here hx rfl (hb hby at_123) rfl k) ?_
            show own_Go _ _ _ _ (Ta0_1.setTop (mkF m 125 #[.val (.long aa), .second, .val (.long b0), .second, .val (.long c0), .second, .val (.long d0), .second, .val (.int ff), .val (.long aa), .second, .val (.long bb), .second, .val (.long cc), .second, .val (.long dd), .second, .val (.ref vv), .val (.int (0 : Int32)), .val (.int (1 : Int32)), .val (.int (0 : Int32)), .unset, .unset, .unset] [(.long aa), (.int (0 : Int32)), (.ref vv)]))
            obtain ⟨Tw0_32, hw0_32, Xw0_32, ew0_32, Ww0_32, Vw0_32, stw0_32⟩ := own_stJ Xa0_1 hx hZ ea0_1 V_vv (j := (0 : Int32)) ⟨by decide, by decide⟩ (g := (mkF m 125 #[.val (.long aa), .second, .val (.long b0), .second, .val (.long c0), .second, .val (.long d0), .second, .val (.int ff), .val (.long aa), .second, .val (.long bb), .second, .val (.long cc), .second, .val (.long dd), .second, .val (.ref vv), .val (.int (0 : Int32)), .val (.int (1 : Int32)), .val (.int (0 : Int32)), .unset, .unset, .unset] [(.long aa), (.int (0 : Int32)), (.ref vv)])) rfl rfl (hb hby at_125)
            replace V_vv := Vw0_32
            have Nw0_32 := Fr.snoc Xw0_32 N0 g_vv
            have Zs_w0_32 : n0 ≤ hw0_32.size := by rw [Ww0_32.size]; exact Zs_a0_1
            refine own_by (fun t k => stw0_32 t k) ?_
            replace V_vv := V_vv.weak (f' := fun k => .long ((fun k => if k = 0 then aa else (fun _ => (0 : Int64)) k) k)) (fun k _ => by show (if k = 0 then _ else _) = Value.long (if k = 0 then _ else _); split <;> rfl)
            show own_Go _ _ _ _ (Tw0_32.setTop (mkF m 126 #[.val (.long aa), .second, .val (.long b0), .second, .val (.long c0), .second, .val (.long d0), .second, .val (.int ff), .val (.long aa), .second, .val (.long bb), .second, .val (.long cc), .second, .val (.long dd), .second, .val (.ref vv), .val (.int (0 : Int32)), .val (.int (1 : Int32)), .val (.int (0 : Int32)), .unset, .unset, .unset] []))
            refine own_by (fun t k => XS.iinc Xw0_32.here hx rfl (hb hby at_126) rfl (l' := #[.val (.long aa), .second, .val (.long b0), .second, .val (.long c0), .second, .val (.long d0), .second, .val (.int ff), .val (.long aa), .second, .val (.long bb), .second, .val (.long cc), .second, .val (.long dd), .second, .val (.ref vv), .val (.int (1 : Int32)), .val (.int (1 : Int32)), .val (.int (0 : Int32)), .unset, .unset, .unset]) rfl k) ?_
            show own_Go _ _ _ _ (Tw0_32.setTop (mkF m 129 #[.val (.long aa), .second, .val (.long b0), .second, .val (.long c0), .second, .val (.long d0), .second, .val (.int ff), .val (.long aa), .second, .val (.long bb), .second, .val (.long cc), .second, .val (.long dd), .second, .val (.ref vv), .val (.int (1 : Int32)), .val (.int (1 : Int32)), .val (.int (0 : Int32)), .unset, .unset, .unset] []))
            refine own_by (fun t k => XS.iload Xw0_32.here hx rfl (hb hby at_129) rfl k) ?_
            show own_Go _ _ _ _ (Tw0_32.setTop (mkF m 131 #[.val (.long aa), .second, .val (.long b0), .second, .val (.long c0), .second, .val (.long d0), .second, .val (.int ff), .val (.long aa), .second, .val (.long bb), .second, .val (.long cc), .second, .val (.long dd), .second, .val (.ref vv), .val (.int (1 : Int32)), .val (.int (1 : Int32)), .val (.int (0 : Int32)), .unset, .unset, .unset] [(.int (0 : Int32))]))
            refine own_by (fun t k => XS.ifYes Xw0_32.here hx rfl (pc0 := 131) (pc' := 157) rfl (hb hby at_131) rfl ((if0 _ _).trans (teq (by decide : (0 : Int32) = (0 : Int32))).1) (by decide) (by decide) k) ?_
            show own_Go _ _ _ _ (Tw0_32.setTop (mkF m 157 #[.val (.long aa), .second, .val (.long b0), .second, .val (.long c0), .second, .val (.long d0), .second, .val (.int ff), .val (.long aa), .second, .val (.long bb), .second, .val (.long cc), .second, .val (.long dd), .second, .val (.ref vv), .val (.int (1 : Int32)), .val (.int (1 : Int32)), .val (.int (0 : Int32)), .unset, .unset, .unset] []))
            exact J157 _ _ _ Xw0_32 ew0_32 Nw0_32 Zs_w0_32 1 (fun k => if k = 0 then aa else 0) _ _ (by omega) (own_r1 _ rfl hc89 (Or.inl hc104)) V_vv
          · refine own_by (fun t k => XS.ifNo Xa0_1.here hx rfl (hb hby at_104) rfl ((if0 _ _).trans (flt (fun q => hc104 ((lw_lt _ _).mp q))).1) k) ?_
            show own_Go _ _ _ _ (Ta0_1.setTop (mkF m 107 #[.val (.long aa), .second, .val (.long b0), .second, .val (.long c0), .second, .val (.long d0), .second, .val (.int ff), .val (.long aa), .second, .val (.long bb), .second, .val (.long cc), .second, .val (.long dd), .second, .val (.ref vv), .val (.int (0 : Int32)), .val (.int (1 : Int32)), .unset, .unset, .unset, .unset] []))
            refine own_by (fun t k => XS.iconst Xa0_1.here hx rfl (hb hby at_107) k) ?_
            show own_Go _ _ _ _ (Ta0_1.setTop (mkF m 108 #[.val (.long aa), .second, .val (.long b0), .second, .val (.long c0), .second, .val (.long d0), .second, .val (.int ff), .val (.long aa), .second, .val (.long bb), .second, .val (.long cc), .second, .val (.long dd), .second, .val (.ref vv), .val (.int (0 : Int32)), .val (.int (1 : Int32)), .unset, .unset, .unset, .unset] [(.int (1 : Int32))]))
            refine own_by (fun t k => XS.goto Xa0_1.here hx rfl (pc0 := 108) (pc' := 112) rfl (hb hby at_108) (by decide) (by decide) k) ?_
            show own_Go _ _ _ _ (Ta0_1.setTop (mkF m 112 #[.val (.long aa), .second, .val (.long b0), .second, .val (.long c0), .second, .val (.long d0), .second, .val (.int ff), .val (.long aa), .second, .val (.long bb), .second, .val (.long cc), .second, .val (.long dd), .second, .val (.ref vv), .val (.int (0 : Int32)), .val (.int (1 : Int32)), .unset, .unset, .unset, .unset] [(.int (1 : Int32))]))
            refine own_by (fun t k => XS.istore Xa0_1.here hx rfl (hb hby at_112) rfl (l' := #[.val (.long aa), .second, .val (.long b0), .second, .val (.long c0), .second, .val (.long d0), .second, .val (.int ff), .val (.long aa), .second, .val (.long bb), .second, .val (.long cc), .second, .val (.long dd), .second, .val (.ref vv), .val (.int (0 : Int32)), .val (.int (1 : Int32)), .val (.int (1 : Int32)), .unset, .unset, .unset]) rfl k) ?_
            show own_Go _ _ _ _ (Ta0_1.setTop (mkF m 114 #[.val (.long aa), .second, .val (.long b0), .second, .val (.long c0), .second, .val (.long d0), .second, .val (.int ff), .val (.long aa), .second, .val (.long bb), .second, .val (.long cc), .second, .val (.long dd), .second, .val (.ref vv), .val (.int (0 : Int32)), .val (.int (1 : Int32)), .val (.int (1 : Int32)), .unset, .unset, .unset] []))
            refine own_by (fun t k => XS.iload Xa0_1.here hx rfl (hb hby at_114) rfl k) ?_
            show own_Go _ _ _ _ (Ta0_1.setTop (mkF m 116 #[.val (.long aa), .second, .val (.long b0), .second, .val (.long c0), .second, .val (.long d0), .second, .val (.int ff), .val (.long aa), .second, .val (.long bb), .second, .val (.long cc), .second, .val (.long dd), .second, .val (.ref vv), .val (.int (0 : Int32)), .val (.int (1 : Int32)), .val (.int (1 : Int32)), .unset, .unset, .unset] [(.int (1 : Int32))]))
            refine own_by (fun t k => XS.ifNo Xa0_1.here hx rfl (hb hby at_116) rfl ((if0 _ _).trans (feq (by decide : ¬ ((1 : Int32) = (0 : Int32)))).1) k) ?_
            show own_Go _ _ _ _ (Ta0_1.setTop (mkF m 119 #[.val (.long aa), .second, .val (.long b0), .second, .val (.long c0), .second, .val (.long d0), .second, .val (.int ff), .val (.long aa), .second, .val (.long bb), .second, .val (.long cc), .second, .val (.long dd), .second, .val (.ref vv), .val (.int (0 : Int32)), .val (.int (1 : Int32)), .val (.int (1 : Int32)), .unset, .unset, .unset] []))
            refine own_by (fun t k => XS.aload Xa0_1.here hx rfl (hb hby at_119) rfl rfl k) ?_
            show own_Go _ _ _ _ (Ta0_1.setTop (mkF m 121 #[.val (.long aa), .second, .val (.long b0), .second, .val (.long c0), .second, .val (.long d0), .second, .val (.int ff), .val (.long aa), .second, .val (.long bb), .second, .val (.long cc), .second, .val (.long dd), .second, .val (.ref vv), .val (.int (0 : Int32)), .val (.int (1 : Int32)), .val (.int (1 : Int32)), .unset, .unset, .unset] [(.ref vv)]))
            refine own_by (fun t k => XS.iload Xa0_1.here hx rfl (hb hby at_121) rfl k) ?_
            show own_Go _ _ _ _ (Ta0_1.setTop (mkF m 123 #[.val (.long aa), .second, .val (.long b0), .second, .val (.long c0), .second, .val (.long d0), .second, .val (.int ff), .val (.long aa), .second, .val (.long bb), .second, .val (.long cc), .second, .val (.long dd), .second, .val (.ref vv), .val (.int (0 : Int32)), .val (.int (1 : Int32)), .val (.int (1 : Int32)), .unset, .unset, .unset] [(.int (0 : Int32)), (.ref vv)]))
            refine own_by (fun t k => XS.lload Xa0_1.here hx rfl (hb hby at_123) rfl k) ?_
            show own_Go _ _ _ _ (Ta0_1.setTop (mkF m 125 #[.val (.long aa), .second, .val (.long b0), .second, .val (.long c0), .second, .val (.long d0), .second, .val (.int ff), .val (.long aa), .second, .val (.long bb), .second, .val (.long cc), .second, .val (.long dd), .second, .val (.ref vv), .val (.int (0 : Int32)), .val (.int (1 : Int32)), .val (.int (1 : Int32)), .unset, .unset, .unset] [(.long aa), (.int (0 : Int32)), (.ref vv)]))
            obtain ⟨Tw0_33, hw0_33, Xw0_33, ew0_33, Ww0_33, Vw0_33, stw0_33⟩ := own_stJ Xa0_1 hx hZ ea0_1 V_vv (j := (0 : Int32)) ⟨by decide, by decide⟩ (g := (mkF m 125 #[.val (.long aa), .second, .val (.long b0), .second, .val (.long c0), .second, .val (.long d0), .second, .val (.int ff), .val (.long aa), .second, .val (.long bb), .second, .val (.long cc), .second, .val (.long dd), .second, .val (.ref vv), .val (.int (0 : Int32)), .val (.int (1 : Int32)), .val (.int (1 : Int32)), .unset, .unset, .unset] [(.long aa), (.int (0 : Int32)), (.ref vv)])) rfl rfl (hb hby at_125)
            replace V_vv := Vw0_33
            have Nw0_33 := Fr.snoc Xw0_33 N0 g_vv
            have Zs_w0_33 : n0 ≤ hw0_33.size := by rw [Ww0_33.size]; exact Zs_a0_1
            refine own_by (fun t k => stw0_33 t k) ?_
            replace V_vv := V_vv.weak (f' := fun k => .long ((fun k => if k = 0 then aa else (fun _ => (0 : Int64)) k) k)) (fun k _ => by show (if k = 0 then _ else _) = Value.long (if k = 0 then _ else _); split <;> rfl)
            show own_Go _ _ _ _ (Tw0_33.setTop (mkF m 126 #[.val (.long aa), .second, .val (.long b0), .second, .val (.long c0), .second, .val (.long d0), .second, .val (.int ff), .val (.long aa), .second, .val (.long bb), .second, .val (.long cc), .second, .val (.long dd), .second, .val (.ref vv), .val (.int (0 : Int32)), .val (.int (1 : Int32)), .val (.int (1 : Int32)), .unset, .unset, .unset] []))
            refine own_by (fun t k => XS.iinc Xw0_33.here hx rfl (hb hby at_126) rfl (l' := #[.val (.long aa), .second, .val (.long b0), .second, .val (.long c0), .second, .val (.long d0), .second, .val (.int ff), .val (.long aa), .second, .val (.long bb), .second, .val (.long cc), .second, .val (.long dd), .second, .val (.ref vv), .val (.int (1 : Int32)), .val (.int (1 : Int32)), .val (.int (1 : Int32)), .unset, .unset, .unset]) rfl k) ?_
            show own_Go _ _ _ _ (Tw0_33.setTop (mkF m 129 #[.val (.long aa), .second, .val (.long b0), .second, .val (.long c0), .second, .val (.long d0), .second, .val (.int ff), .val (.long aa), .second, .val (.long bb), .second, .val (.long cc), .second, .val (.long dd), .second, .val (.ref vv), .val (.int (1 : Int32)), .val (.int (1 : Int32)), .val (.int (1 : Int32)), .unset, .unset, .unset] []))
            refine own_by (fun t k => XS.iload Xw0_33.here hx rfl (hb hby at_129) rfl k) ?_
            show own_Go _ _ _ _ (Tw0_33.setTop (mkF m 131 #[.val (.long aa), .second, .val (.long b0), .second, .val (.long c0), .second, .val (.long d0), .second, .val (.int ff), .val (.long aa), .second, .val (.long bb), .second, .val (.long cc), .second, .val (.long dd), .second, .val (.ref vv), .val (.int (1 : Int32)), .val (.int (1 : Int32)), .val (.int (1 : Int32)), .unset, .unset, .unset] [(.int (1 : Int32))]))
            refine own_by (fun t k => XS.ifNo Xw0_33.here hx rfl (hb hby at_131) rfl ((if0 _ _).trans (feq (by decide : ¬ ((1 : Int32) = (0 : Int32)))).1) k) ?_
            show own_Go _ _ _ _ (Tw0_33.setTop (mkF m 134 #[.val (.long aa), .second, .val (.long b0), .second, .val (.long c0), .second, .val (.long d0), .second, .val (.int ff), .val (.long aa), .second, .val (.long bb), .second, .val (.long cc), .second, .val (.long dd), .second, .val (.ref vv), .val (.int (1 : Int32)), .val (.int (1 : Int32)), .val (.int (1 : Int32)), .unset, .unset, .unset] []))
            refine own_by (fun t k => XS.iload Xw0_33.here hx rfl (hb hby at_134) rfl k) ?_
            show own_Go _ _ _ _ (Tw0_33.setTop (mkF m 136 #[.val (.long aa), .second, .val (.long b0), .second, .val (.long c0), .second, .val (.long d0), .second, .val (.int ff), .val (.long aa), .second, .val (.long bb), .second, .val (.long cc), .second, .val (.long dd), .second, .val (.ref vv), .val (.int (1 : Int32)), .val (.int (1 : Int32)), .val (.int (1 : Int32)), .unset, .unset, .unset] [(.int (1 : Int32))]))
            refine own_by (fun t k => XS.ifNo Xw0_33.here hx rfl (hb hby at_136) rfl ((if0 _ _).trans (feq (by decide : ¬ ((1 : Int32) = (0 : Int32)))).1) k) ?_
            show own_Go _ _ _ _ (Tw0_33.setTop (mkF m 139 #[.val (.long aa), .second, .val (.long b0), .second, .val (.long c0), .second, .val (.long d0), .second, .val (.int ff), .val (.long aa), .second, .val (.long bb), .second, .val (.long cc), .second, .val (.long dd), .second, .val (.ref vv), .val (.int (1 : Int32)), .val (.int (1 : Int32)), .val (.int (1 : Int32)), .unset, .unset, .unset] []))
            refine own_by (fun t k => XS.lload Xw0_33.here hx rfl (hb hby at_139) rfl k) ?_
            show own_Go _ _ _ _ (Tw0_33.setTop (mkF m 141 #[.val (.long aa), .second, .val (.long b0), .second, .val (.long c0), .second, .val (.long d0), .second, .val (.int ff), .val (.long aa), .second, .val (.long bb), .second, .val (.long cc), .second, .val (.long dd), .second, .val (.ref vv), .val (.int (1 : Int32)), .val (.int (1 : Int32)), .val (.int (1 : Int32)), .unset, .unset, .unset] [(.long aa)]))
            refine own_by (fun t k => XS.lload Xw0_33.here hx rfl (hb hby at_141) rfl k) ?_
            show own_Go _ _ _ _ (Tw0_33.setTop (mkF m 143 #[.val (.long aa), .second, .val (.long b0), .second, .val (.long c0), .second, .val (.long d0), .second, .val (.int ff), .val (.long aa), .second, .val (.long bb), .second, .val (.long cc), .second, .val (.long dd), .second, .val (.ref vv), .val (.int (1 : Int32)), .val (.int (1 : Int32)), .val (.int (1 : Int32)), .unset, .unset, .unset] [(.long bb), (.long aa)]))
            refine own_by (fun t k => XS.lcmp Xw0_33.here hx rfl (hb hby at_143) rfl k) ?_
            show own_Go _ _ _ _ (Tw0_33.setTop (mkF m 144 #[.val (.long aa), .second, .val (.long b0), .second, .val (.long c0), .second, .val (.long d0), .second, .val (.int ff), .val (.long aa), .second, .val (.long bb), .second, .val (.long cc), .second, .val (.long dd), .second, .val (.ref vv), .val (.int (1 : Int32)), .val (.int (1 : Int32)), .val (.int (1 : Int32)), .unset, .unset, .unset] [(.int (lcmpW aa bb))]))
            by_cases hc144 : aa = bb
            · refine own_by (fun t k => XS.ifYes Xw0_33.here hx rfl (pc0 := 144) (pc' := 157) rfl (hb hby at_144) rfl ((if0 _ _).trans (teq ((lw_eq _ _).mpr hc144)).1) (by decide) (by decide) k) ?_
              show own_Go _ _ _ _ (Tw0_33.setTop (mkF m 157 #[.val (.long aa), .second, .val (.long b0), .second, .val (.long c0), .second, .val (.long d0), .second, .val (.int ff), .val (.long aa), .second, .val (.long bb), .second, .val (.long cc), .second, .val (.long dd), .second, .val (.ref vv), .val (.int (1 : Int32)), .val (.int (1 : Int32)), .val (.int (1 : Int32)), .unset, .unset, .unset] []))
              exact J157 _ _ _ Xw0_33 ew0_33 Nw0_33 Zs_w0_33 1 (fun k => if k = 0 then aa else 0) _ _ (by omega) (own_r1 _ rfl hc89 (Or.inr hc144)) V_vv
            · refine own_by (fun t k => XS.ifNo Xw0_33.here hx rfl (hb hby at_144) rfl ((if0 _ _).trans (feq (fun q => hc144 ((lw_eq _ _).mp q))).1) k) ?_
              show own_Go _ _ _ _ (Tw0_33.setTop (mkF m 147 #[.val (.long aa), .second, .val (.long b0), .second, .val (.long c0), .second, .val (.long d0), .second, .val (.int ff), .val (.long aa), .second, .val (.long bb), .second, .val (.long cc), .second, .val (.long dd), .second, .val (.ref vv), .val (.int (1 : Int32)), .val (.int (1 : Int32)), .val (.int (1 : Int32)), .unset, .unset, .unset] []))
              refine own_by (fun t k => XS.aload Xw0_33.here hx rfl (hb hby at_147) rfl rfl k) ?_
              show own_Go _ _ _ _ (Tw0_33.setTop (mkF m 149 #[.val (.long aa), .second, .val (.long b0), .second, .val (.long c0), .second, .val (.long d0), .second, .val (.int ff), .val (.long aa), .second, .val (.long bb), .second, .val (.long cc), .second, .val (.long dd), .second, .val (.ref vv), .val (.int (1 : Int32)), .val (.int (1 : Int32)), .val (.int (1 : Int32)), .unset, .unset, .unset] [(.ref vv)]))
              refine own_by (fun t k => XS.iload Xw0_33.here hx rfl (hb hby at_149) rfl k) ?_
              show own_Go _ _ _ _ (Tw0_33.setTop (mkF m 151 #[.val (.long aa), .second, .val (.long b0), .second, .val (.long c0), .second, .val (.long d0), .second, .val (.int ff), .val (.long aa), .second, .val (.long bb), .second, .val (.long cc), .second, .val (.long dd), .second, .val (.ref vv), .val (.int (1 : Int32)), .val (.int (1 : Int32)), .val (.int (1 : Int32)), .unset, .unset, .unset] [(.int (1 : Int32)), (.ref vv)]))
              refine own_by (fun t k => XS.lload Xw0_33.here hx rfl (hb hby at_151) rfl k) ?_
              show own_Go _ _ _ _ (Tw0_33.setTop (mkF m 153 #[.val (.long aa), .second, .val (.long b0), .second, .val (.long c0), .second, .val (.long d0), .second, .val (.int ff), .val (.long aa), .second, .val (.long bb), .second, .val (.long cc), .second, .val (.long dd), .second, .val (.ref vv), .val (.int (1 : Int32)), .val (.int (1 : Int32)), .val (.int (1 : Int32)), .unset, .unset, .unset] [(.long bb), (.int (1 : Int32)), (.ref vv)]))
              obtain ⟨Tw0_34, hw0_34, Xw0_34, ew0_34, Ww0_34, Vw0_34, stw0_34⟩ := own_stJ Xw0_33 hx hZ ew0_33 V_vv (j := (1 : Int32)) ⟨by decide, by decide⟩ (g := (mkF m 153 #[.val (.long aa), .second, .val (.long b0), .second, .val (.long c0), .second, .val (.long d0), .second, .val (.int ff), .val (.long aa), .second, .val (.long bb), .second, .val (.long cc), .second, .val (.long dd), .second, .val (.ref vv), .val (.int (1 : Int32)), .val (.int (1 : Int32)), .val (.int (1 : Int32)), .unset, .unset, .unset] [(.long bb), (.int (1 : Int32)), (.ref vv)])) rfl rfl (hb hby at_153)
              replace V_vv := Vw0_34
              have Nw0_34 := Fr.snoc Xw0_34 Nw0_33 g_vv
              have Zs_w0_34 : n0 ≤ hw0_34.size := by rw [Ww0_34.size]; exact Zs_w0_33
              refine own_by (fun t k => stw0_34 t k) ?_
              replace V_vv := V_vv.weak (f' := fun k => .long ((fun k => if k = 1 then bb else (fun k => if k = 0 then aa else 0) k) k)) (fun k _ => by show (if k = 1 then _ else _) = Value.long (if k = 1 then _ else _); split <;> rfl)
              show own_Go _ _ _ _ (Tw0_34.setTop (mkF m 154 #[.val (.long aa), .second, .val (.long b0), .second, .val (.long c0), .second, .val (.long d0), .second, .val (.int ff), .val (.long aa), .second, .val (.long bb), .second, .val (.long cc), .second, .val (.long dd), .second, .val (.ref vv), .val (.int (1 : Int32)), .val (.int (1 : Int32)), .val (.int (1 : Int32)), .unset, .unset, .unset] []))
              refine own_by (fun t k => XS.iinc Xw0_34.here hx rfl (hb hby at_154) rfl (l' := #[.val (.long aa), .second, .val (.long b0), .second, .val (.long c0), .second, .val (.long d0), .second, .val (.int ff), .val (.long aa), .second, .val (.long bb), .second, .val (.long cc), .second, .val (.long dd), .second, .val (.ref vv), .val (.int (2 : Int32)), .val (.int (1 : Int32)), .val (.int (1 : Int32)), .unset, .unset, .unset]) rfl k) ?_
              show own_Go _ _ _ _ (Tw0_34.setTop (mkF m 157 #[.val (.long aa), .second, .val (.long b0), .second, .val (.long c0), .second, .val (.long d0), .second, .val (.int ff), .val (.long aa), .second, .val (.long bb), .second, .val (.long cc), .second, .val (.long dd), .second, .val (.ref vv), .val (.int (2 : Int32)), .val (.int (1 : Int32)), .val (.int (1 : Int32)), .unset, .unset, .unset] []))
              exact J157 _ _ _ Xw0_34 ew0_34 Nw0_34 Zs_w0_34 2 (fun k => if k = 1 then bb else if k = 0 then aa else 0) _ _ (by omega) (own_r3 _ rfl rfl hc89 hc104 hc144) V_vv
      show own_Go _ _ _ _ (s₁.setTop (mkF m 46 #[.val (.long aa), .second, .val (.long b0), .second, .val (.long c0), .second, .val (.long d0), .second, .val (.int ff), .val (.long aa), .second, .val (.long bb), .second, .val (.long cc), .second, .unset, .unset, .unset, .unset, .unset, .unset, .unset, .unset, .unset] []))
      refine own_by (fun t k => XS.iload X0.here hx rfl (hb hby at_46) rfl k) ?_
      show own_Go _ _ _ _ (s₁.setTop (mkF m 48 #[.val (.long aa), .second, .val (.long b0), .second, .val (.long c0), .second, .val (.long d0), .second, .val (.int ff), .val (.long aa), .second, .val (.long bb), .second, .val (.long cc), .second, .unset, .unset, .unset, .unset, .unset, .unset, .unset, .unset, .unset] [(.int ff)]))
      refine own_by (fun t k => XS.bipush X0.here hx rfl (hb hby at_48) k) ?_
      show own_Go _ _ _ _ (s₁.setTop (mkF m 50 #[.val (.long aa), .second, .val (.long b0), .second, .val (.long c0), .second, .val (.long d0), .second, .val (.int ff), .val (.long aa), .second, .val (.long bb), .second, .val (.long cc), .second, .unset, .unset, .unset, .unset, .unset, .unset, .unset, .unset, .unset] [(.int (8 : Int32)), (.int ff)]))
      refine own_by (fun t k => XS.iand X0.here hx rfl (hb hby at_50) rfl k) ?_
      show own_Go _ _ _ _ (s₁.setTop (mkF m 51 #[.val (.long aa), .second, .val (.long b0), .second, .val (.long c0), .second, .val (.long d0), .second, .val (.int ff), .val (.long aa), .second, .val (.long bb), .second, .val (.long cc), .second, .unset, .unset, .unset, .unset, .unset, .unset, .unset, .unset, .unset] [(.int (ff &&& (8 : Int32)))]))
      by_cases hc51 : (ff &&& (8 : Int32)) = (0 : Int32)
      · refine own_by (fun t k => XS.ifYes X0.here hx rfl (pc0 := 51) (pc' := 59) rfl (hb hby at_51) rfl ((if0 _ _).trans (teq hc51).1) (by decide) (by decide) k) ?_
        show own_Go _ _ _ _ (s₁.setTop (mkF m 59 #[.val (.long aa), .second, .val (.long b0), .second, .val (.long c0), .second, .val (.long d0), .second, .val (.int ff), .val (.long aa), .second, .val (.long bb), .second, .val (.long cc), .second, .unset, .unset, .unset, .unset, .unset, .unset, .unset, .unset, .unset] []))
        refine own_by (fun t k => XS.iload X0.here hx rfl (hb hby at_59) rfl k) ?_
        show own_Go _ _ _ _ (s₁.setTop (mkF m 61 #[.val (.long aa), .second, .val (.long b0), .second, .val (.long c0), .second, .val (.long d0), .second, .val (.int ff), .val (.long aa), .second, .val (.long bb), .second, .val (.long cc), .second, .unset, .unset, .unset, .unset, .unset, .unset, .unset, .unset, .unset] [(.int ff)]))
        refine own_by (fun t k => XS.bipush X0.here hx rfl (hb hby at_61) k) ?_
        show own_Go _ _ _ _ (s₁.setTop (mkF m 63 #[.val (.long aa), .second, .val (.long b0), .second, .val (.long c0), .second, .val (.long d0), .second, .val (.int ff), .val (.long aa), .second, .val (.long bb), .second, .val (.long cc), .second, .unset, .unset, .unset, .unset, .unset, .unset, .unset, .unset, .unset] [(.int (16 : Int32)), (.int ff)]))
        refine own_by (fun t k => XS.iand X0.here hx rfl (hb hby at_63) rfl k) ?_
        show own_Go _ _ _ _ (s₁.setTop (mkF m 64 #[.val (.long aa), .second, .val (.long b0), .second, .val (.long c0), .second, .val (.long d0), .second, .val (.int ff), .val (.long aa), .second, .val (.long bb), .second, .val (.long cc), .second, .unset, .unset, .unset, .unset, .unset, .unset, .unset, .unset, .unset] [(.int (ff &&& (16 : Int32)))]))
        by_cases hc64 : (ff &&& (16 : Int32)) = (0 : Int32)
        · refine own_by (fun t k => XS.ifYes X0.here hx rfl (pc0 := 64) (pc' := 72) rfl (hb hby at_64) rfl ((if0 _ _).trans (teq hc64).1) (by decide) (by decide) k) ?_
          show own_Go _ _ _ _ (s₁.setTop (mkF m 72 #[.val (.long aa), .second, .val (.long b0), .second, .val (.long c0), .second, .val (.long d0), .second, .val (.int ff), .val (.long aa), .second, .val (.long bb), .second, .val (.long cc), .second, .unset, .unset, .unset, .unset, .unset, .unset, .unset, .unset, .unset] []))
          refine own_by (fun t k => XS.lload X0.here hx rfl (hb hby at_72) rfl k) ?_
          show own_Go _ _ _ _ (s₁.setTop (mkF m 74 #[.val (.long aa), .second, .val (.long b0), .second, .val (.long c0), .second, .val (.long d0), .second, .val (.int ff), .val (.long aa), .second, .val (.long bb), .second, .val (.long cc), .second, .unset, .unset, .unset, .unset, .unset, .unset, .unset, .unset, .unset] [(.long d0)]))
          exact J74 _ trivial
        · refine own_by (fun t k => XS.ifNo X0.here hx rfl (hb hby at_64) rfl ((if0 _ _).trans (feq hc64).1) k) ?_
          show own_Go _ _ _ _ (s₁.setTop (mkF m 67 #[.val (.long aa), .second, .val (.long b0), .second, .val (.long c0), .second, .val (.long d0), .second, .val (.int ff), .val (.long aa), .second, .val (.long bb), .second, .val (.long cc), .second, .unset, .unset, .unset, .unset, .unset, .unset, .unset, .unset, .unset] []))
          refine own_by (fun t k => XS.lload X0.here hx rfl (hb hby at_67) rfl k) ?_
          show own_Go _ _ _ _ (s₁.setTop (mkF m 69 #[.val (.long aa), .second, .val (.long b0), .second, .val (.long c0), .second, .val (.long d0), .second, .val (.int ff), .val (.long aa), .second, .val (.long bb), .second, .val (.long cc), .second, .unset, .unset, .unset, .unset, .unset, .unset, .unset, .unset, .unset] [(.long bb)]))
          refine own_by (fun t k => XS.goto X0.here hx rfl (pc0 := 69) (pc' := 74) rfl (hb hby at_69) (by decide) (by decide) k) ?_
          show own_Go _ _ _ _ (s₁.setTop (mkF m 74 #[.val (.long aa), .second, .val (.long b0), .second, .val (.long c0), .second, .val (.long d0), .second, .val (.int ff), .val (.long aa), .second, .val (.long bb), .second, .val (.long cc), .second, .unset, .unset, .unset, .unset, .unset, .unset, .unset, .unset, .unset] [(.long bb)]))
          exact J74 _ trivial
      · refine own_by (fun t k => XS.ifNo X0.here hx rfl (hb hby at_51) rfl ((if0 _ _).trans (feq hc51).1) k) ?_
        show own_Go _ _ _ _ (s₁.setTop (mkF m 54 #[.val (.long aa), .second, .val (.long b0), .second, .val (.long c0), .second, .val (.long d0), .second, .val (.int ff), .val (.long aa), .second, .val (.long bb), .second, .val (.long cc), .second, .unset, .unset, .unset, .unset, .unset, .unset, .unset, .unset, .unset] []))
        refine own_by (fun t k => XS.lload X0.here hx rfl (hb hby at_54) rfl k) ?_
        show own_Go _ _ _ _ (s₁.setTop (mkF m 56 #[.val (.long aa), .second, .val (.long b0), .second, .val (.long c0), .second, .val (.long d0), .second, .val (.int ff), .val (.long aa), .second, .val (.long bb), .second, .val (.long cc), .second, .unset, .unset, .unset, .unset, .unset, .unset, .unset, .unset, .unset] [(.long aa)]))
        refine own_by (fun t k => XS.goto X0.here hx rfl (pc0 := 56) (pc' := 74) rfl (hb hby at_56) (by decide) (by decide) k) ?_
        show own_Go _ _ _ _ (s₁.setTop (mkF m 74 #[.val (.long aa), .second, .val (.long b0), .second, .val (.long c0), .second, .val (.long d0), .second, .val (.int ff), .val (.long aa), .second, .val (.long bb), .second, .val (.long cc), .second, .unset, .unset, .unset, .unset, .unset, .unset, .unset, .unset, .unset] [(.long aa)]))
        exact J74 _ trivial
    show own_Go _ _ _ _ (s₁.setTop (mkF m 18 #[.val (.long aa), .second, .val (.long b0), .second, .val (.long c0), .second, .val (.long d0), .second, .val (.int ff), .val (.long aa), .second, .val (.long bb), .second, .unset, .unset, .unset, .unset, .unset, .unset, .unset, .unset, .unset, .unset, .unset] []))
    refine own_by (fun t k => XS.iload X0.here hx rfl (hb hby at_18) rfl k) ?_
    show own_Go _ _ _ _ (s₁.setTop (mkF m 20 #[.val (.long aa), .second, .val (.long b0), .second, .val (.long c0), .second, .val (.long d0), .second, .val (.int ff), .val (.long aa), .second, .val (.long bb), .second, .unset, .unset, .unset, .unset, .unset, .unset, .unset, .unset, .unset, .unset, .unset] [(.int ff)]))
    refine own_by (fun t k => XS.iconst X0.here hx rfl (hb hby at_20) k) ?_
    show own_Go _ _ _ _ (s₁.setTop (mkF m 21 #[.val (.long aa), .second, .val (.long b0), .second, .val (.long c0), .second, .val (.long d0), .second, .val (.int ff), .val (.long aa), .second, .val (.long bb), .second, .unset, .unset, .unset, .unset, .unset, .unset, .unset, .unset, .unset, .unset, .unset] [(.int (2 : Int32)), (.int ff)]))
    refine own_by (fun t k => XS.iand X0.here hx rfl (hb hby at_21) rfl k) ?_
    show own_Go _ _ _ _ (s₁.setTop (mkF m 22 #[.val (.long aa), .second, .val (.long b0), .second, .val (.long c0), .second, .val (.long d0), .second, .val (.int ff), .val (.long aa), .second, .val (.long bb), .second, .unset, .unset, .unset, .unset, .unset, .unset, .unset, .unset, .unset, .unset, .unset] [(.int (ff &&& (2 : Int32)))]))
    by_cases hc22 : (ff &&& (2 : Int32)) = (0 : Int32)
    · refine own_by (fun t k => XS.ifYes X0.here hx rfl (pc0 := 22) (pc' := 30) rfl (hb hby at_22) rfl ((if0 _ _).trans (teq hc22).1) (by decide) (by decide) k) ?_
      show own_Go _ _ _ _ (s₁.setTop (mkF m 30 #[.val (.long aa), .second, .val (.long b0), .second, .val (.long c0), .second, .val (.long d0), .second, .val (.int ff), .val (.long aa), .second, .val (.long bb), .second, .unset, .unset, .unset, .unset, .unset, .unset, .unset, .unset, .unset, .unset, .unset] []))
      refine own_by (fun t k => XS.iload X0.here hx rfl (hb hby at_30) rfl k) ?_
      show own_Go _ _ _ _ (s₁.setTop (mkF m 32 #[.val (.long aa), .second, .val (.long b0), .second, .val (.long c0), .second, .val (.long d0), .second, .val (.int ff), .val (.long aa), .second, .val (.long bb), .second, .unset, .unset, .unset, .unset, .unset, .unset, .unset, .unset, .unset, .unset, .unset] [(.int ff)]))
      refine own_by (fun t k => XS.iconst X0.here hx rfl (hb hby at_32) k) ?_
      show own_Go _ _ _ _ (s₁.setTop (mkF m 33 #[.val (.long aa), .second, .val (.long b0), .second, .val (.long c0), .second, .val (.long d0), .second, .val (.int ff), .val (.long aa), .second, .val (.long bb), .second, .unset, .unset, .unset, .unset, .unset, .unset, .unset, .unset, .unset, .unset, .unset] [(.int (4 : Int32)), (.int ff)]))
      refine own_by (fun t k => XS.iand X0.here hx rfl (hb hby at_33) rfl k) ?_
      show own_Go _ _ _ _ (s₁.setTop (mkF m 34 #[.val (.long aa), .second, .val (.long b0), .second, .val (.long c0), .second, .val (.long d0), .second, .val (.int ff), .val (.long aa), .second, .val (.long bb), .second, .unset, .unset, .unset, .unset, .unset, .unset, .unset, .unset, .unset, .unset, .unset] [(.int (ff &&& (4 : Int32)))]))
      by_cases hc34 : (ff &&& (4 : Int32)) = (0 : Int32)
      · refine own_by (fun t k => XS.ifYes X0.here hx rfl (pc0 := 34) (pc' := 42) rfl (hb hby at_34) rfl ((if0 _ _).trans (teq hc34).1) (by decide) (by decide) k) ?_
        show own_Go _ _ _ _ (s₁.setTop (mkF m 42 #[.val (.long aa), .second, .val (.long b0), .second, .val (.long c0), .second, .val (.long d0), .second, .val (.int ff), .val (.long aa), .second, .val (.long bb), .second, .unset, .unset, .unset, .unset, .unset, .unset, .unset, .unset, .unset, .unset, .unset] []))
        refine own_by (fun t k => XS.lload X0.here hx rfl (hb hby at_42) rfl k) ?_
        show own_Go _ _ _ _ (s₁.setTop (mkF m 44 #[.val (.long aa), .second, .val (.long b0), .second, .val (.long c0), .second, .val (.long d0), .second, .val (.int ff), .val (.long aa), .second, .val (.long bb), .second, .unset, .unset, .unset, .unset, .unset, .unset, .unset, .unset, .unset, .unset, .unset] [(.long c0)]))
        exact J44 _ trivial
      · refine own_by (fun t k => XS.ifNo X0.here hx rfl (hb hby at_34) rfl ((if0 _ _).trans (feq hc34).1) k) ?_
        show own_Go _ _ _ _ (s₁.setTop (mkF m 37 #[.val (.long aa), .second, .val (.long b0), .second, .val (.long c0), .second, .val (.long d0), .second, .val (.int ff), .val (.long aa), .second, .val (.long bb), .second, .unset, .unset, .unset, .unset, .unset, .unset, .unset, .unset, .unset, .unset, .unset] []))
        refine own_by (fun t k => XS.lload X0.here hx rfl (hb hby at_37) rfl k) ?_
        show own_Go _ _ _ _ (s₁.setTop (mkF m 39 #[.val (.long aa), .second, .val (.long b0), .second, .val (.long c0), .second, .val (.long d0), .second, .val (.int ff), .val (.long aa), .second, .val (.long bb), .second, .unset, .unset, .unset, .unset, .unset, .unset, .unset, .unset, .unset, .unset, .unset] [(.long bb)]))
        refine own_by (fun t k => XS.goto X0.here hx rfl (pc0 := 39) (pc' := 44) rfl (hb hby at_39) (by decide) (by decide) k) ?_
        show own_Go _ _ _ _ (s₁.setTop (mkF m 44 #[.val (.long aa), .second, .val (.long b0), .second, .val (.long c0), .second, .val (.long d0), .second, .val (.int ff), .val (.long aa), .second, .val (.long bb), .second, .unset, .unset, .unset, .unset, .unset, .unset, .unset, .unset, .unset, .unset, .unset] [(.long bb)]))
        exact J44 _ trivial
    · refine own_by (fun t k => XS.ifNo X0.here hx rfl (hb hby at_22) rfl ((if0 _ _).trans (feq hc22).1) k) ?_
      show own_Go _ _ _ _ (s₁.setTop (mkF m 25 #[.val (.long aa), .second, .val (.long b0), .second, .val (.long c0), .second, .val (.long d0), .second, .val (.int ff), .val (.long aa), .second, .val (.long bb), .second, .unset, .unset, .unset, .unset, .unset, .unset, .unset, .unset, .unset, .unset, .unset] []))
      refine own_by (fun t k => XS.lload X0.here hx rfl (hb hby at_25) rfl k) ?_
      show own_Go _ _ _ _ (s₁.setTop (mkF m 27 #[.val (.long aa), .second, .val (.long b0), .second, .val (.long c0), .second, .val (.long d0), .second, .val (.int ff), .val (.long aa), .second, .val (.long bb), .second, .unset, .unset, .unset, .unset, .unset, .unset, .unset, .unset, .unset, .unset, .unset] [(.long aa)]))
      refine own_by (fun t k => XS.goto X0.here hx rfl (pc0 := 27) (pc' := 44) rfl (hb hby at_27) (by decide) (by decide) k) ?_
      show own_Go _ _ _ _ (s₁.setTop (mkF m 44 #[.val (.long aa), .second, .val (.long b0), .second, .val (.long c0), .second, .val (.long d0), .second, .val (.int ff), .val (.long aa), .second, .val (.long bb), .second, .unset, .unset, .unset, .unset, .unset, .unset, .unset, .unset, .unset, .unset, .unset] [(.long aa)]))
      exact J44 _ trivial
  show own_Go _ _ _ _ (s₁.setTop (mkF m 3 #[.val (.long aa), .second, .val (.long b0), .second, .val (.long c0), .second, .val (.long d0), .second, .val (.int ff), .val (.long aa), .second, .unset, .unset, .unset, .unset, .unset, .unset, .unset, .unset, .unset, .unset, .unset, .unset, .unset] []))
  refine own_by (fun t k => XS.iload X0.here hx rfl (hb hby at_3) rfl k) ?_
  show own_Go _ _ _ _ (s₁.setTop (mkF m 5 #[.val (.long aa), .second, .val (.long b0), .second, .val (.long c0), .second, .val (.long d0), .second, .val (.int ff), .val (.long aa), .second, .unset, .unset, .unset, .unset, .unset, .unset, .unset, .unset, .unset, .unset, .unset, .unset, .unset] [(.int ff)]))
  refine own_by (fun t k => XS.iconst X0.here hx rfl (hb hby at_5) k) ?_
  show own_Go _ _ _ _ (s₁.setTop (mkF m 6 #[.val (.long aa), .second, .val (.long b0), .second, .val (.long c0), .second, .val (.long d0), .second, .val (.int ff), .val (.long aa), .second, .unset, .unset, .unset, .unset, .unset, .unset, .unset, .unset, .unset, .unset, .unset, .unset, .unset] [(.int (1 : Int32)), (.int ff)]))
  refine own_by (fun t k => XS.iand X0.here hx rfl (hb hby at_6) rfl k) ?_
  show own_Go _ _ _ _ (s₁.setTop (mkF m 7 #[.val (.long aa), .second, .val (.long b0), .second, .val (.long c0), .second, .val (.long d0), .second, .val (.int ff), .val (.long aa), .second, .unset, .unset, .unset, .unset, .unset, .unset, .unset, .unset, .unset, .unset, .unset, .unset, .unset] [(.int (ff &&& (1 : Int32)))]))
  by_cases hc7 : (ff &&& (1 : Int32)) = (0 : Int32)
  · refine own_by (fun t k => XS.ifYes X0.here hx rfl (pc0 := 7) (pc' := 15) rfl (hb hby at_7) rfl ((if0 _ _).trans (teq hc7).1) (by decide) (by decide) k) ?_
    show own_Go _ _ _ _ (s₁.setTop (mkF m 15 #[.val (.long aa), .second, .val (.long b0), .second, .val (.long c0), .second, .val (.long d0), .second, .val (.int ff), .val (.long aa), .second, .unset, .unset, .unset, .unset, .unset, .unset, .unset, .unset, .unset, .unset, .unset, .unset, .unset] []))
    refine own_by (fun t k => XS.lloadN X0.here hx rfl (hb hby at_15) rfl k) ?_
    show own_Go _ _ _ _ (s₁.setTop (mkF m 16 #[.val (.long aa), .second, .val (.long b0), .second, .val (.long c0), .second, .val (.long d0), .second, .val (.int ff), .val (.long aa), .second, .unset, .unset, .unset, .unset, .unset, .unset, .unset, .unset, .unset, .unset, .unset, .unset, .unset] [(.long b0)]))
    exact J16 _ trivial
  · refine own_by (fun t k => XS.ifNo X0.here hx rfl (hb hby at_7) rfl ((if0 _ _).trans (feq hc7).1) k) ?_
    show own_Go _ _ _ _ (s₁.setTop (mkF m 10 #[.val (.long aa), .second, .val (.long b0), .second, .val (.long c0), .second, .val (.long d0), .second, .val (.int ff), .val (.long aa), .second, .unset, .unset, .unset, .unset, .unset, .unset, .unset, .unset, .unset, .unset, .unset, .unset, .unset] []))
    refine own_by (fun t k => XS.lload X0.here hx rfl (hb hby at_10) rfl k) ?_
    show own_Go _ _ _ _ (s₁.setTop (mkF m 12 #[.val (.long aa), .second, .val (.long b0), .second, .val (.long c0), .second, .val (.long d0), .second, .val (.int ff), .val (.long aa), .second, .unset, .unset, .unset, .unset, .unset, .unset, .unset, .unset, .unset, .unset, .unset, .unset, .unset] [(.long aa)]))
    refine own_by (fun t k => XS.goto X0.here hx rfl (pc0 := 12) (pc' := 16) rfl (hb hby at_12) (by decide) (by decide) k) ?_
    show own_Go _ _ _ _ (s₁.setTop (mkF m 16 #[.val (.long aa), .second, .val (.long b0), .second, .val (.long c0), .second, .val (.long d0), .second, .val (.int ff), .val (.long aa), .second, .unset, .unset, .unset, .unset, .unset, .unset, .unset, .unset, .unset, .unset, .unset, .unset, .unset] [(.long aa)]))
    exact J16 _ trivial
set_option maxRecDepth 65536 in
set_option maxHeartbeats 40000000 in
theorem comes_1 {Post : Tables → Env → Array Value → State → Outcome → State → Prop} (hpost : ∀ tb e args s v u, (limb_1_1.after args s (.returned v) u = true ∧ limb_1_2.after args s (.returned v) u = true ∧ True) → FrameEnd s (.returned v) u (Jvm.fieldLocs frame_1_writes args s ++ Jvm.arrayLocs frame_1_arrays args s ++ Jvm.staticLocs frame_1_statics s) 16 128 → Post tb e args s (.returned v) u) :
    ArmFor flags0 classFile x code maxLocals ret World_1 tables_1 room_1 Calls_1 rest_1 Pre_1 Post := by
  intro l hfl _ _ p e ha hc hk s m args below hf hA hF happ hP
  obtain ⟨hcalls, hrest, hpre⟩ := hP
  obtain ⟨-, -, -, hnamed, -, -, -, hat⟩ := (Spec.applies_iff hf).mp happ
  obtain ⟨hg, hn⟩ := and_e (Cond.before_iff.mp (show (Jvm.Cond.and given_1 narrow_1).before args s = true from hpre))
  obtain ⟨gc, gr0⟩ := and_e hg
  obtain ⟨ga0, gr1⟩ := and_e gr0
  obtain ⟨ga1, gr2⟩ := and_e gr1
  obtain ⟨ga2, gr3⟩ := and_e gr2
  obtain ⟨ga3, gr4⟩ := and_e gr3
  obtain ⟨w0, w1, w2, w3, w4, rfl⟩ : ∃ w0 w1 w2 w3 w4 : Value, args = #[w0, w1, w2, w3, w4] := by
    have hs : args.size = 5 := by simpa [Cond.value, given_1] using gc
    obtain ⟨L⟩ := args
    match L, hs with
    | [w0, w1, w2, w3, w4], _ => exact ⟨w0, w1, w2, w3, w4, rfl⟩
  have hw := fun d (hd : d ∈ tables_1) => atoms_spec (ws := Jvm.Cond.code x code maxLocals ret :: tables_1) hat d (List.mem_cons_of_mem _ hd)
  obtain ⟨i0, ei0⟩ := isL_v ga0
  obtain rfl : w0 = (.long i0) := Option.some.inj ei0
  obtain ⟨i1, ei1⟩ := isL_v ga1
  obtain rfl : w1 = (.long i1) := Option.some.inj ei1
  obtain ⟨i2, ei2⟩ := isL_v ga2
  obtain rfl : w2 = (.long i2) := Option.some.inj ei2
  obtain ⟨i3, ei3⟩ := isL_v ga3
  obtain rfl : w3 = (.long i3) := Option.some.inj ei3
  obtain ⟨i4, ei4⟩ := is_v gr4
  obtain rfl : w4 = (.int i4) := Option.some.inj ei4
  obtain ⟨n, o, h1, h2, h3, _, L, rfl, ⟨rfl, N⟩, hq⟩ := rm0 l s _ hw tables_1 i0 i1 i2 i3 i4 s.heap s.heap.size (Nat.le_refl _) p e ha hc hk s m _ below hf ((Spec.applies_iff_loose hf).mp happ).1 ⟨rfl, State.Warmed39.refl s, rfl⟩ trivial
  refine ⟨n, _, h1, h2, h3, hpost _ _ _ _ _ _ ⟨Cond.after_iff.mpr rfl, Cond.after_iff.mpr (eq_i res_at (Term.int_eval (1)) rfl), trivial⟩ ⟨hq.1, hq.2.1, (hq.2.2.sift fun y hy => Or.inr (N y hy)).mono (by decide) (by decide)⟩⟩
theorem main_1_1 : Claimed_1_1 := comes_1 fun _ _ _ _ _ _ h hF => ⟨h.1, hF⟩
theorem main_1_2 : Claimed_1_2 := comes_1 fun _ _ _ _ _ _ h hF => ⟨h.2.1, hF⟩
end Jvm.Pilot.@@N@@
namespace Jvm.Pilot.@@N@@
open Jvm Jvm.ClassFile Sem Op Lib Jvm.Free Jvm.Stand Jvm.Pilot.@@N@@.Jvm.D
/-! MADE BY PROGRAM (witnessworld.py) out of the Statement's table words and the real class files: 12 classes; the members and pool entries that the words name. The judged class is class 1, her method 2. -/
namespace start1
open Jvm.ClassFile
def u (s : String) : CpInfo := .utf8 (stringToUtf16 s)
/-- a pool by its gaps: so many unusable entries, then the entry; so many at the end -/
def gap : Nat → List CpInfo → List CpInfo
  | 0, r => r
  | n + 1, r => .unusable :: gap n r
def poolList (es : List (Nat × CpInfo)) (last : Nat) : List CpInfo := es.foldr (fun e r => gap e.1 (e.2 :: r)) (gap last [])
def pool (es : List (Nat × CpInfo)) (last : Nat) : Array CpInfo := ⟨poolList es last⟩
def fileOf (pool : Array CpInfo) (this : Nat) (attrs : Array Attribute := #[]) (ms : Array MethodInfo := #[]) (fl : Nat := 33) (sup : Nat := 0) (ifs : Array Nat := #[]) (fds : Array FieldInfo := #[]) : ClassFile where
  minorVersion := 0
  majorVersion := 65
  constantPool := pool
  accessFlags := fl
  thisClass := this
  superClass := sup
  interfaces := ifs
  fields := fds
  methods := ms
  attributes := attrs
def plain (name : String) (sup : Option ClassId) : Class where
  name := name
  kind := .ordinary
  loader := none
  accessFlags := 33
  super := sup
  interfaces := #[]
  cf := none
  fields := #[]
  methods := #[]
  instanceTypes := #[]
  staticTypes := #[]
  resolved := #[]
  callSites := []
  init := .initialized
  statics := none
  mirror := none

def pool0 : Array CpInfo := pool [(5, u "<init>"), (0, u "()V"), (1, .class_ 10), (1, u "java/lang/Object")] 113

def k0c0 : Code := { maxStack := 0, maxLocals := 1, code := object_method_1_code, exceptionTable := #[], attributes := #[] }
def k0m0 : Method := { name := "<init>", desc := "()V", sig := { parameters := [], returnType := none }, accessFlags := 1, code := some k0c0 }
/-- java/lang/Object -/
def k0 : Class := { plain "java/lang/Object" none with
  accessFlags := 33
  interfaces := #[]
  cf := some (fileOf pool0 8 #[] #[{ accessFlags := 1, nameIndex := 5, descriptorIndex := 6, attributes := #[] }] 33 0 #[] #[])
  fields := #[]
  methods := #[k0m0]
  instanceTypes := #[]
  staticTypes := #[]
  resolved := Array.replicate 124 none
  statics := none }

def pool1 : Array CpInfo := pool [(2, .class_ 4), (0, .nameAndType 5 6), (0, u "java/lang/Object"), (0, u "<init>"), (0, u "()V"), (0, .methodref 8 9), (0, .class_ 10), (0, .nameAndType 11 12), (0, u "com/example/water_clock/waterclock/SubWindowCountsIndexPinLaw"), (0, u "cs"), (0, u "([JII)V"), (0, .class_ 14), (0, u "com/example/water_clock/waterclock/SubWindowCounts"), (0, .methodref 13 3), (0, .methodref 13 17), (0, .nameAndType 18 19), (0, u "add"), (0, u "(JI)V"), (0, .methodref 13 21), (0, .nameAndType 22 23), (0, u "dropBelow"), (0, u "(J)V"), (0, .methodref 13 25), (0, .nameAndType 26 27), (0, u "size"), (0, u "()I"), (0, .methodref 13 29), (0, .nameAndType 30 31), (0, u "index"), (0, u "(I)J"), (3, u "law"), (0, u "(JJJJI)Z")] 4

def k1m0 : Method := { name := "<init>", desc := "()V", sig := { parameters := [], returnType := none }, accessFlags := 1, code := none }
def k1c1 : Code := { maxStack := 4, maxLocals := 5, code := method_2_code, exceptionTable := #[], attributes := #[] }
def k1m1 : Method := { name := "cs", desc := "([JII)V", sig := { parameters := [(.array .long), .int, .int], returnType := none }, accessFlags := 10, code := some k1c1 }
def k1c2 : Code := { maxStack := 4, maxLocals := 24, code := code, exceptionTable := #[], attributes := #[] }
def k1m2 : Method := { name := "law", desc := "(JJJJI)Z", sig := { parameters := [.long, .long, .long, .long, .int], returnType := some .boolean }, accessFlags := 9, code := some k1c2 }
/-- com/example/water_clock/waterclock/SubWindowCountsIndexPinLaw -/
def k1 : Class := { plain "com/example/water_clock/waterclock/SubWindowCountsIndexPinLaw" (some 0) with
  accessFlags := 49
  interfaces := #[]
  cf := some (fileOf pool1 8 #[] #[{ accessFlags := 1, nameIndex := 5, descriptorIndex := 6, attributes := #[] }, { accessFlags := 10, nameIndex := 11, descriptorIndex := 12, attributes := #[] }, { accessFlags := 9, nameIndex := 35, descriptorIndex := 36, attributes := #[] }] 49 2 #[] #[])
  fields := #[]
  methods := #[k1m0, k1m1, k1m2]
  instanceTypes := #[]
  staticTypes := #[]
  resolved := Array.replicate 41 none
  statics := none }

def pool2 : Array CpInfo := pool [(1, .methodref 2 3), (0, .class_ 4), (0, .nameAndType 5 6), (0, u "java/lang/Object"), (0, u "<init>"), (0, u "()V"), (0, .class_ 8), (0, u "com/example/water_clock/waterclock/SubWindowCounts"), (0, .fieldref 7 10), (0, .nameAndType 11 12), (0, u "indices"), (0, u "[J"), (0, .fieldref 7 14), (0, .nameAndType 15 16), (0, u "counts"), (0, u "[I"), (0, .fieldref 7 18), (0, .nameAndType 19 20), (0, u "end"), (0, u "I"), (0, .fieldref 7 22), (0, .nameAndType 23 20), (0, u "first"), (0, .fieldref 7 25), (0, .nameAndType 26 27), (0, u "total"), (0, u "J"), (0, .methodref 7 29), (0, .nameAndType 30 31), (0, u "openGap"), (0, u "(I)I"), (0, .methodref 7 33), (0, .nameAndType 34 35), (0, u "size"), (0, u "()I"), (9, .methodref 46 47), (0, .class_ 48), (0, .nameAndType 49 50), (0, u "java/lang/System"), (0, u "arraycopy"), (0, u "(Ljava/lang/Object;ILjava/lang/Object;II)V"), (0, u "INITIAL_CAPACITY"), (4, u "index"), (0, u "(I)J"), (2, u "dropBelow"), (0, u "(J)V"), (1, u "add"), (0, u "(JI)V")] 2

def k2c0 : Code := { maxStack := 2, maxLocals := 1, code := prog_16_method_1_code, exceptionTable := #[], attributes := #[] }
def k2m0 : Method := { name := "<init>", desc := "()V", sig := { parameters := [], returnType := none }, accessFlags := 0, code := some k2c0 }
def k2c1 : Code := { maxStack := 2, maxLocals := 1, code := prog_16_method_2_code, exceptionTable := #[], attributes := #[] }
def k2m1 : Method := { name := "size", desc := "()I", sig := { parameters := [], returnType := some .int }, accessFlags := 0, code := some k2c1 }
def k2c2 : Code := { maxStack := 3, maxLocals := 2, code := prog_16_method_3_code, exceptionTable := #[], attributes := #[] }
def k2m2 : Method := { name := "index", desc := "(I)J", sig := { parameters := [.int], returnType := some .long }, accessFlags := 0, code := some k2c2 }
def k2c3 : Code := { maxStack := 5, maxLocals := 3, code := prog_16_method_6_code, exceptionTable := #[], attributes := #[] }
def k2m3 : Method := { name := "dropBelow", desc := "(J)V", sig := { parameters := [.long], returnType := none }, accessFlags := 0, code := some k2c3 }
def k2c4 : Code := { maxStack := 5, maxLocals := 5, code := prog_16_method_7_code, exceptionTable := #[], attributes := #[] }
def k2m4 : Method := { name := "add", desc := "(JI)V", sig := { parameters := [.long, .int], returnType := none }, accessFlags := 0, code := some k2c4 }
def k2c5 : Code := { maxStack := 6, maxLocals := 5, code := prog_16_method_8_code, exceptionTable := #[], attributes := #[] }
def k2m5 : Method := { name := "openGap", desc := "(I)I", sig := { parameters := [.int], returnType := some .int }, accessFlags := 2, code := some k2c5 }
/-- com/example/water_clock/waterclock/SubWindowCounts -/
def k2 : Class := { plain "com/example/water_clock/waterclock/SubWindowCounts" (some 0) with
  accessFlags := 32
  interfaces := #[]
  cf := some (fileOf pool2 7 #[] #[{ accessFlags := 0, nameIndex := 5, descriptorIndex := 6, attributes := #[] }, { accessFlags := 0, nameIndex := 34, descriptorIndex := 35, attributes := #[] }, { accessFlags := 0, nameIndex := 56, descriptorIndex := 57, attributes := #[] }, { accessFlags := 0, nameIndex := 60, descriptorIndex := 61, attributes := #[] }, { accessFlags := 0, nameIndex := 63, descriptorIndex := 64, attributes := #[] }, { accessFlags := 2, nameIndex := 30, descriptorIndex := 31, attributes := #[] }] 32 2 #[] #[{ accessFlags := 26, nameIndex := 51, descriptorIndex := 20, attributes := #[] }, { accessFlags := 2, nameIndex := 11, descriptorIndex := 12, attributes := #[] }, { accessFlags := 2, nameIndex := 15, descriptorIndex := 16, attributes := #[] }, { accessFlags := 2, nameIndex := 23, descriptorIndex := 20, attributes := #[] }, { accessFlags := 2, nameIndex := 19, descriptorIndex := 20, attributes := #[] }, { accessFlags := 2, nameIndex := 26, descriptorIndex := 27, attributes := #[] }])
  fields := #[{ name := "INITIAL_CAPACITY", type := .int, accessFlags := 26, slot := 0, constantValue := 0 }, { name := "indices", type := (.array .long), accessFlags := 2, slot := 0, constantValue := 0 }, { name := "counts", type := (.array .int), accessFlags := 2, slot := 1, constantValue := 0 }, { name := "first", type := .int, accessFlags := 2, slot := 2, constantValue := 0 }, { name := "end", type := .int, accessFlags := 2, slot := 3, constantValue := 0 }, { name := "total", type := .long, accessFlags := 2, slot := 4, constantValue := 0 }]
  methods := #[k2m0, k2m1, k2m2, k2m3, k2m4, k2m5]
  instanceTypes := #[(.array .long), (.array .int), .int, .int, .long]
  staticTypes := #[.int]
  resolved := Array.replicate 67 none
  statics := none }

def pool3 : Array CpInfo := pool [(2, .class_ 4), (1, u "java/lang/Object"), (0, u "<init>"), (0, u "()V"), (1, .class_ 10), (1, u "java/lang/System"), (0, u "allowSecurityManager"), (0, u "I"), (16, u "cons"), (0, u "Ljava/io/Console;"), (77, .class_ 110), (1, u "java/lang/System$CallersHolder"), (43, u "initialErrStream"), (0, u "Ljava/io/PrintStream;"), (19, u "security"), (0, u "Ljava/lang/SecurityManager;"), (31, .class_ 209), (0, u "java/lang/System$1"), (7, u "props"), (0, u "Ljava/util/Properties;"), (2, u "lineSeparator"), (0, u "Ljava/lang/String;"), (96, .class_ 321), (1, u "java/lang/System$LoggerFinder"), (5, .class_ 328), (0, u "java/lang/System$Logger"), (67, u "err"), (2, u "out"), (91, u "notSupportedJnuEncoding"), (15, u "in"), (17, u "initialIn"), (0, u "Ljava/io/InputStream;"), (35, u "bootLayer"), (0, u "Ljava/lang/ModuleLayer;"), (99, .class_ 664), (0, u "java/lang/System$2"), (9, u "NEVER"), (2, u "MAYBE"), (49, u "arraycopy"), (0, u "(Ljava/lang/Object;ILjava/lang/Object;II)V"), (72, .class_ 802), (0, u "java/lang/System$Logger$Level")] 31

def k3m0 : Method := { name := "<init>", desc := "()V", sig := { parameters := [], returnType := none }, accessFlags := 2, code := none }
def k3m1 : Method := { name := "arraycopy", desc := "(Ljava/lang/Object;ILjava/lang/Object;II)V", sig := { parameters := [(.object "java/lang/Object"), .int, (.object "java/lang/Object"), .int, .int], returnType := none }, accessFlags := 265, code := none }
/-- java/lang/System -/
def k3 : Class := { plain "java/lang/System" (some 0) with
  accessFlags := 49
  interfaces := #[]
  cf := some (fileOf pool3 8 #[.nestMembers #[319, 327, 801, 108, 663, 208]] #[{ accessFlags := 2, nameIndex := 5, descriptorIndex := 6, attributes := #[] }, { accessFlags := 265, nameIndex := 727, descriptorIndex := 728, attributes := #[] }] 49 2 #[] #[{ accessFlags := 25, nameIndex := 507, descriptorIndex := 526, attributes := #[] }, { accessFlags := 25, nameIndex := 399, descriptorIndex := 155, attributes := #[] }, { accessFlags := 25, nameIndex := 396, descriptorIndex := 155, attributes := #[] }, { accessFlags := 10, nameIndex := 525, descriptorIndex := 526, attributes := #[] }, { accessFlags := 26, nameIndex := 674, descriptorIndex := 12, attributes := #[] }, { accessFlags := 26, nameIndex := 677, descriptorIndex := 12, attributes := #[] }, { accessFlags := 10, nameIndex := 11, descriptorIndex := 12, attributes := #[] }, { accessFlags := 74, nameIndex := 175, descriptorIndex := 176, attributes := #[] }, { accessFlags := 10, nameIndex := 491, descriptorIndex := 222, attributes := #[] }, { accessFlags := 74, nameIndex := 29, descriptorIndex := 30, attributes := #[] }, { accessFlags := 74, nameIndex := 154, descriptorIndex := 155, attributes := #[] }, { accessFlags := 10, nameIndex := 217, descriptorIndex := 218, attributes := #[] }, { accessFlags := 10, nameIndex := 221, descriptorIndex := 222, attributes := #[] }, { accessFlags := 8, nameIndex := 562, descriptorIndex := 563, attributes := #[] }])
  fields := #[{ name := "in", type := (.object "java/io/InputStream"), accessFlags := 25, slot := 0, constantValue := 0 }, { name := "out", type := (.object "java/io/PrintStream"), accessFlags := 25, slot := 1, constantValue := 0 }, { name := "err", type := (.object "java/io/PrintStream"), accessFlags := 25, slot := 2, constantValue := 0 }, { name := "initialIn", type := (.object "java/io/InputStream"), accessFlags := 10, slot := 3, constantValue := 0 }, { name := "NEVER", type := .int, accessFlags := 26, slot := 4, constantValue := 0 }, { name := "MAYBE", type := .int, accessFlags := 26, slot := 5, constantValue := 0 }, { name := "allowSecurityManager", type := .int, accessFlags := 10, slot := 6, constantValue := 0 }, { name := "security", type := (.object "java/lang/SecurityManager"), accessFlags := 74, slot := 7, constantValue := 0 }, { name := "notSupportedJnuEncoding", type := (.object "java/lang/String"), accessFlags := 10, slot := 8, constantValue := 0 }, { name := "cons", type := (.object "java/io/Console"), accessFlags := 74, slot := 9, constantValue := 0 }, { name := "initialErrStream", type := (.object "java/io/PrintStream"), accessFlags := 74, slot := 10, constantValue := 0 }, { name := "props", type := (.object "java/util/Properties"), accessFlags := 10, slot := 11, constantValue := 0 }, { name := "lineSeparator", type := (.object "java/lang/String"), accessFlags := 10, slot := 12, constantValue := 0 }, { name := "bootLayer", type := (.object "java/lang/ModuleLayer"), accessFlags := 8, slot := 13, constantValue := 0 }]
  methods := #[k3m0, k3m1]
  instanceTypes := #[]
  staticTypes := #[(.object "java/io/InputStream"), (.object "java/io/PrintStream"), (.object "java/io/PrintStream"), (.object "java/io/InputStream"), .int, .int, .int, (.object "java/lang/SecurityManager"), (.object "java/lang/String"), (.object "java/io/Console"), (.object "java/io/PrintStream"), (.object "java/util/Properties"), (.object "java/lang/String"), (.object "java/lang/ModuleLayer")]
  resolved := Array.replicate 834 none
  statics := none }

def pool4 : Array CpInfo := pool [(1, u "java/lang/Cloneable"), (0, .class_ 1), (0, u "java/lang/Object"), (0, .class_ 3)] 3

/-- java/lang/Cloneable -/
def k4 : Class := { plain "java/lang/Cloneable" (some 0) with
  accessFlags := 1537
  interfaces := #[]
  cf := some (fileOf pool4 2 #[] #[] 1537 4 #[] #[])
  fields := #[]
  methods := #[]
  instanceTypes := #[]
  staticTypes := #[]
  resolved := Array.replicate 8 none
  statics := none }

def pool5 : Array CpInfo := pool [(1, u "java/io/Serializable"), (0, .class_ 1), (0, u "java/lang/Object"), (0, .class_ 3)] 3

/-- java/io/Serializable -/
def k5 : Class := { plain "java/io/Serializable" (some 0) with
  accessFlags := 1537
  interfaces := #[]
  cf := some (fileOf pool5 2 #[] #[] 1537 4 #[] #[])
  fields := #[]
  methods := #[]
  instanceTypes := #[]
  staticTypes := #[]
  resolved := Array.replicate 8 none
  statics := none }

/-- the primitive byte -/
def k6 : Class := { plain "byte" none with kind := .primitive 'B', accessFlags := 0x411 }
/-- [B -/
def k7 : Class := { plain "[B" (some 0) with kind := .array 6 .byte, interfaces := #[4, 5], accessFlags := 1041 }

/-- the primitive int -/
def k8 : Class := { plain "int" none with kind := .primitive 'I', accessFlags := 0x411 }
/-- [I -/
def k9 : Class := { plain "[I" (some 0) with kind := .array 8 .int, interfaces := #[4, 5], accessFlags := 1041 }

/-- the primitive long -/
def k10 : Class := { plain "long" none with kind := .primitive 'J', accessFlags := 0x411 }
/-- [J -/
def k11 : Class := { plain "[J" (some 0) with kind := .array 10 .long, interfaces := #[4, 5], accessFlags := 1041 }

def heap : Heap := #[]
def classes : Array Class := #[k0, k1, k2, k3, k4, k5, k6, k7, k8, k9, k10, k11]
def interned : List (Array UInt16 × Addr) := []
def slotsUsed : Nat := 0
def theMethod : MethodId := ⟨1, 2⟩
def args0 : Array Value := #[.long 5, .long 7, .long 3, .long 4, .int 0]
def aboutOver (below : List Frame) : State where
  vm := { classes := classes, interned := interned.toArray }
  heap := heap
  slotsUsed := slotsUsed
  threads := #[{ frames := .invoking theMethod args0 :: below }]
def below0 : List Frame := [.native { method := ⟨0, 0⟩, args := #[] }]
def about1 : State := aboutOver below0
def p0 : Program := .bare "" "" ""
def e0 : Env := launch0.env 0 0 0
theorem w_frames : about1.frames = Frame.invoking theMethod args0 :: below0 := rfl
set_option maxRecDepth 65536 in
theorem w_args : argsFit about1.vm theMethod args0 = true := by decide +kernel
set_option maxRecDepth 65536 in
theorem w_heap : heapFits about1 = true := by decide +kernel
set_option maxRecDepth 65536 in
theorem w_runnable : about1.curStatus? = some .runnable := by decide +kernel
set_option maxRecDepth 65536 in
theorem w_alone : about1.alone = true := by decide +kernel
set_option maxRecDepth 65536 in
theorem w_named : about1.methodNamed? x = some theMethod := by decide +kernel
set_option maxRecDepth 65536 in
theorem w_hears : about1.hears theMethod below0 = true := by decide +kernel
set_option maxRecDepth 65536 in
theorem w_ripe : about1.ripe theMethod args0 below0 = true := by decide +kernel
theorem w_running : about1.status = .running := rfl
set_option maxRecDepth 65536 in
theorem w_room : about1.hasRoom e0.platform room_1 = true :=
  launch0.hasRoom_least _ room_1 (by decide +kernel) (by decide +kernel) (by decide +kernel) (by decide +kernel) (by decide +kernel) (by decide +kernel)
theorem allAtoms_all (ts : List Jvm.Cond) (a : Array Jvm.Value) (st : Jvm.State) : (allAtoms ts).before a st = ts.all (fun c => c.before a st) := by
  induction ts with
  | nil => rfl
  | cons c t ih =>
    show (Jvm.Cond.and c (allAtoms t)).before a st = _
    rw [Jvm.Cond.before_and, ih, List.all_cons]
def words1 : List Jvm.Cond := Jvm.Cond.code x code maxLocals ret :: tables_1
/-- a 'code' word, met by the world's own term for the bytes: nothing is compared byte by byte -/
theorem code_word {y : MethodName} {bytes : ByteArray} {mx : Nat} {rt : Option FieldType} {a : Array Value} {s : State} {m : MethodId} {meth : Method} {c : Code} (h1 : s.methodNamed? y = some m) (h2 : s.vm.method? m = some meth) (h3 : meth.code = some c) (h4 : c.code = bytes)
    (h5 : (c.maxLocals == mx && c.exceptionTable.isEmpty && decide (c.maxStack ≤ mostOperands) && decide (meth.sig.returnType = rt) && !meth.locks && decide (parseMethodDescriptor y.desc = some meth.sig)) = true) : (Jvm.Cond.code y bytes mx rt).before a s = true := by
  simp only [Bool.and_eq_true, beq_iff_eq, Bool.not_eq_true', decide_eq_true_eq] at h5
  obtain ⟨⟨⟨⟨⟨g1, g2⟩, g3⟩, g4⟩, g5⟩, g6⟩ := h5
  simp [Cond.before, Cond.holds, Cond.value, h1, h2, h3, h4, g1, g2, g3, g4, g5, g6]
def isCode : Jvm.Cond → Bool
  | .code _ _ _ _ => true
  | _ => false
theorem all_split {L : List Jvm.Cond} {P : Jvm.Cond → Bool} (h1 : L.all (fun c => isCode c || P c) = true) (h2 : ∀ c ∈ L.filter isCode, P c = true) : L.all P = true := by
  refine List.all_eq_true.mpr fun c hc => ?_
  have h := List.all_eq_true.mp h1 c hc
  rcases Bool.eq_false_or_eq_true (isCode c) with hi | hi
  · exact h2 c (List.mem_filter.mpr ⟨hc, hi⟩)
  · simpa [hi] using h
set_option maxRecDepth 65536 in
theorem w_c0 : (Jvm.Cond.code x code maxLocals ret).before args0 about1 = true := code_word (m := ⟨1, 2⟩) (meth := k1m2) (c := k1c2) (by decide +kernel) rfl rfl rfl (by decide +kernel)
set_option maxRecDepth 65536 in
theorem w_c1 : (Jvm.Cond.code ({ cls := "com/example/water_clock/waterclock/SubWindowCounts", name := "<init>", desc := "()V" } : Jvm.MethodName) prog_16_method_1_code (1 : Nat) (Option.none : Option Jvm.ClassFile.FieldType)).before args0 about1 = true := code_word (m := ⟨2, 0⟩) (meth := k2m0) (c := k2c0) (by decide +kernel) rfl rfl rfl (by decide +kernel)
set_option maxRecDepth 65536 in
theorem w_c2 : (Jvm.Cond.code ({ cls := "java/lang/Object", name := "<init>", desc := "()V" } : Jvm.MethodName) object_method_1_code (1 : Nat) (Option.none : Option Jvm.ClassFile.FieldType)).before args0 about1 = true := code_word (m := ⟨0, 0⟩) (meth := k0m0) (c := k0c0) (by decide +kernel) rfl rfl rfl (by decide +kernel)
set_option maxRecDepth 65536 in
theorem w_c3 : (Jvm.Cond.code ({ cls := "com/example/water_clock/waterclock/SubWindowCounts", name := "add", desc := "(JI)V" } : Jvm.MethodName) prog_16_method_7_code (5 : Nat) (Option.none : Option Jvm.ClassFile.FieldType)).before args0 about1 = true := code_word (m := ⟨2, 4⟩) (meth := k2m4) (c := k2c4) (by decide +kernel) rfl rfl rfl (by decide +kernel)
set_option maxRecDepth 65536 in
theorem w_c4 : (Jvm.Cond.code ({ cls := "com/example/water_clock/waterclock/SubWindowCounts", name := "openGap", desc := "(I)I" } : Jvm.MethodName) prog_16_method_8_code (5 : Nat) (Option.some Jvm.ClassFile.FieldType.int)).before args0 about1 = true := code_word (m := ⟨2, 5⟩) (meth := k2m5) (c := k2c5) (by decide +kernel) rfl rfl rfl (by decide +kernel)
set_option maxRecDepth 65536 in
theorem w_c5 : (Jvm.Cond.code ({ cls := "com/example/water_clock/waterclock/SubWindowCounts", name := "dropBelow", desc := "(J)V" } : Jvm.MethodName) prog_16_method_6_code (3 : Nat) (Option.none : Option Jvm.ClassFile.FieldType)).before args0 about1 = true := code_word (m := ⟨2, 3⟩) (meth := k2m3) (c := k2c3) (by decide +kernel) rfl rfl rfl (by decide +kernel)
set_option maxRecDepth 65536 in
theorem w_c6 : (Jvm.Cond.code ({ cls := "com/example/water_clock/waterclock/SubWindowCounts", name := "size", desc := "()I" } : Jvm.MethodName) prog_16_method_2_code (1 : Nat) (Option.some Jvm.ClassFile.FieldType.int)).before args0 about1 = true := code_word (m := ⟨2, 1⟩) (meth := k2m1) (c := k2c1) (by decide +kernel) rfl rfl rfl (by decide +kernel)
set_option maxRecDepth 65536 in
theorem w_c7 : (Jvm.Cond.code ({ cls := "com/example/water_clock/waterclock/SubWindowCounts", name := "index", desc := "(I)J" } : Jvm.MethodName) prog_16_method_3_code (2 : Nat) (Option.some Jvm.ClassFile.FieldType.long)).before args0 about1 = true := code_word (m := ⟨2, 2⟩) (meth := k2m2) (c := k2c2) (by decide +kernel) rfl rfl rfl (by decide +kernel)
set_option maxRecDepth 65536 in
theorem w_c8 : (Jvm.Cond.code ({ cls := "com/example/water_clock/waterclock/SubWindowCountsIndexPinLaw", name := "cs", desc := "([JII)V" } : Jvm.MethodName) method_2_code (5 : Nat) (Option.none : Option Jvm.ClassFile.FieldType)).before args0 about1 = true := code_word (m := ⟨1, 1⟩) (meth := k1m1) (c := k1c1) (by decide +kernel) rfl rfl rfl (by decide +kernel)
def codes1 : List Jvm.Cond := [Jvm.Cond.code x code maxLocals ret, Jvm.Cond.code ({ cls := "com/example/water_clock/waterclock/SubWindowCounts", name := "<init>", desc := "()V" } : Jvm.MethodName) prog_16_method_1_code (1 : Nat) (Option.none : Option Jvm.ClassFile.FieldType), Jvm.Cond.code ({ cls := "java/lang/Object", name := "<init>", desc := "()V" } : Jvm.MethodName) object_method_1_code (1 : Nat) (Option.none : Option Jvm.ClassFile.FieldType), Jvm.Cond.code ({ cls := "com/example/water_clock/waterclock/SubWindowCounts", name := "add", desc := "(JI)V" } : Jvm.MethodName) prog_16_method_7_code (5 : Nat) (Option.none : Option Jvm.ClassFile.FieldType), Jvm.Cond.code ({ cls := "com/example/water_clock/waterclock/SubWindowCounts", name := "openGap", desc := "(I)I" } : Jvm.MethodName) prog_16_method_8_code (5 : Nat) (Option.some Jvm.ClassFile.FieldType.int), Jvm.Cond.code ({ cls := "com/example/water_clock/waterclock/SubWindowCounts", name := "dropBelow", desc := "(J)V" } : Jvm.MethodName) prog_16_method_6_code (3 : Nat) (Option.none : Option Jvm.ClassFile.FieldType), Jvm.Cond.code ({ cls := "com/example/water_clock/waterclock/SubWindowCounts", name := "size", desc := "()I" } : Jvm.MethodName) prog_16_method_2_code (1 : Nat) (Option.some Jvm.ClassFile.FieldType.int), Jvm.Cond.code ({ cls := "com/example/water_clock/waterclock/SubWindowCounts", name := "index", desc := "(I)J" } : Jvm.MethodName) prog_16_method_3_code (2 : Nat) (Option.some Jvm.ClassFile.FieldType.long), Jvm.Cond.code ({ cls := "com/example/water_clock/waterclock/SubWindowCountsIndexPinLaw", name := "cs", desc := "([JII)V" } : Jvm.MethodName) method_2_code (5 : Nat) (Option.none : Option Jvm.ClassFile.FieldType)]
set_option maxRecDepth 65536 in
theorem codes_eq : words1.filter isCode = codes1 := rfl
theorem w_codes : ∀ c ∈ words1.filter isCode, c.before args0 about1 = true := by
  rw [codes_eq]
  intro c hc
  simp only [codes1, List.mem_cons, List.not_mem_nil, or_false] at hc
  rcases hc with rfl | rfl | rfl | rfl | rfl | rfl | rfl | rfl | rfl
  · exact w_c0
  · exact w_c1
  · exact w_c2
  · exact w_c3
  · exact w_c4
  · exact w_c5
  · exact w_c6
  · exact w_c7
  · exact w_c8
set_option maxRecDepth 65536 in
theorem w_t1 : (words1.take 24).all (fun c => isCode c || c.before args0 about1) = true := by decide +kernel
set_option maxRecDepth 65536 in
theorem w_t2 : ((words1.drop 24).take 24).all (fun c => isCode c || c.before args0 about1) = true := by decide +kernel
set_option maxRecDepth 65536 in
theorem w_t3 : ((words1.drop 24).drop 24).all (fun c => isCode c || c.before args0 about1) = true := by decide +kernel
theorem w_tables : (allAtoms (Jvm.Cond.code x code maxLocals ret :: tables_1)).before args0 about1 = true := by
  rw [allAtoms_all]
  show words1.all (fun c => c.before args0 about1) = true
  refine all_split ?_ w_codes
  rw [← List.take_append_drop 24 words1, List.all_append, w_t1, ← List.take_append_drop 24 (words1.drop 24), List.all_append, w_t2, w_t3]
  rfl
set_option maxRecDepth 65536 in
theorem w_case : (Jvm.Cond.and given_1 narrow_1).before args0 about1 = true := by decide +kernel
theorem w_applies : (headSpec (Jvm.Cond.code x code maxLocals ret :: tables_1) room_1).applies x e0.platform about1 = true :=
  (Spec.applies_iff w_frames).mpr ⟨w_running, w_runnable, w_alone, w_named, w_hears, w_ripe, w_room, w_tables⟩
theorem atStart : AtStart classFile x code maxLocals ret World_1 tables_1 room_1 Calls_1 rest_1 Pre_1 launch0 p0 e0 about1 theMethod args0 below0 :=
  ⟨lists_1, trivial, launch0.admits_env _ _ _, launch0.least_env, fairChoices_fair.cas, fairChoices_fair.clock, w_frames, w_args, w_heap, w_applies, trivial, trivial, w_case⟩
end start1
theorem witness_1 : WitnessClaimed_1 := ⟨start1.p0, start1.e0, start1.about1, start1.theMethod, start1.args0, start1.below0, start1.atStart⟩
end Jvm.Pilot.@@N@@
