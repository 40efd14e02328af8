import PyProof.Rows.All
import Wide.All
import OpenK.AllK
import Wide.FinOn
import PySem.Challenge.RW_iu0021_01
set_option Elab.async false
set_option linter.unusedVariables false
set_option compiler.extract_closed false
set_option genInjectivity false
set_option genSizeOf false
section
namespace Mine
abbrev Cs := List Nat
noncomputable def lcp : Cs → Cs → Nat
  | a :: as, b :: bs => if a = b then lcp as bs + 1 else 0
  | _, _ => 0
noncomputable def ltb : Cs → Cs → Bool
  | _, [] => false
  | [], _ :: _ => true
  | a :: as, b :: bs => decide (a < b) || (decide (a = b) && ltb as bs)

theorem lcp_nil_right (a : Cs) : lcp a [] = 0 := by cases a <;> rfl
theorem lcp_le_left : ∀ a b : Cs, lcp a b ≤ a.length
  | [], b => by simp [lcp]
  | a :: as, [] => by simp [lcp]
  | a :: as, b :: bs => by
    unfold lcp
    split
    · have := lcp_le_left as bs; simp; omega
    · simp
theorem lcp_le_right : ∀ a b : Cs, lcp a b ≤ b.length
  | [], b => by simp [lcp]
  | a :: as, [] => by simp [lcp]
  | a :: as, b :: bs => by
    unfold lcp
    split
    · have := lcp_le_right as bs; simp; omega
    · simp
/-- a key lies within r exactly when their common head is the key -/
theorem prefix_iff_lcp : ∀ k r : Cs, k <+: r ↔ k.length ≤ lcp k r
  | [], r => by simp
  | a :: as, [] => by simp [lcp]
  | a :: as, b :: bs => by
    rw [List.cons_prefix_cons]
    unfold lcp
    split
    · rename_i h
      rw [prefix_iff_lcp as bs]
      simp [h]
    · rename_i h
      simp [h]
theorem ltb_irrefl : ∀ a : Cs, ltb a a = false
  | [] => rfl
  | a :: as => by simp [ltb, ltb_irrefl as]
theorem ltb_trans : ∀ a b c : Cs, ltb a b = true → ltb b c = true → ltb a c = true
  | a, b, [] => by cases b <;> simp [ltb]
  | a, [], c :: cs => by cases a <;> simp [ltb]
  | [], b :: bs, c :: cs => by simp [ltb]
  | a :: as, b :: bs, c :: cs => by
    simp only [ltb, Bool.or_eq_true, Bool.and_eq_true, decide_eq_true_eq]
    rintro (h | ⟨h, h'⟩) (g | ⟨g, g'⟩)
    · left; omega
    · left; omega
    · left; omega
    · right; exact ⟨by omega, ltb_trans as bs cs h' g'⟩
/-- not b < a, b < c -/
theorem le_lt_trans : ∀ a b c : Cs, ltb b a = false → ltb b c = true → ltb a c = true
  | a, b, [] => by cases b <;> simp [ltb]
  | [], b, c :: cs => by cases b <;> simp [ltb]
  | a :: as, [], c :: cs => by simp [ltb]
  | a :: as, b :: bs, c :: cs => by
    simp only [ltb, Bool.or_eq_true, Bool.and_eq_true, decide_eq_true_eq, Bool.or_eq_false_iff, Bool.and_eq_false_imp, decide_eq_false_iff_not]
    rintro ⟨h, h'⟩ (g | ⟨g, g'⟩)
    · left; omega
    · by_cases e : b = a
      · right; exact ⟨by omega, le_lt_trans as bs cs (h' e) g'⟩
      · left; omega
theorem lt_le_trans : ∀ a b c : Cs, ltb a b = true → ltb c b = false → ltb a c = true
  | a, [], c => by cases a <;> simp [ltb]
  | a, b :: bs, [] => by simp [ltb]
  | [], b :: bs, c :: cs => by simp [ltb]
  | a :: as, b :: bs, c :: cs => by
    simp only [ltb, Bool.or_eq_true, Bool.and_eq_true, decide_eq_true_eq, Bool.or_eq_false_iff, Bool.and_eq_false_imp, decide_eq_false_iff_not]
    rintro (g | ⟨g, g'⟩) ⟨h, h'⟩
    · left; omega
    · by_cases e : c = b
      · right; exact ⟨by omega, lt_le_trans as bs cs g' (h' e)⟩
      · left; omega
theorem prefix_not_lt : ∀ k r : Cs, k <+: r → ltb r k = false
  | [], r => by cases r <;> simp [ltb]
  | a :: as, [] => by simp
  | a :: as, b :: bs => by
    rw [List.cons_prefix_cons]
    rintro ⟨rfl, h⟩
    simp [ltb, prefix_not_lt as bs h]
/-- k heads r, k ≤ m ≤ r: k heads m -/
theorem prefix_between : ∀ k m r : Cs, k <+: r → ltb m k = false → ltb r m = false → k <+: m
  | [], m, r => by simp
  | a :: as, m, [] => by simp
  | a :: as, [], c :: cs => by simp [ltb]
  | a :: as, b :: bs, c :: cs => by
    rw [List.cons_prefix_cons, List.cons_prefix_cons]
    simp only [ltb, Bool.or_eq_false_iff, Bool.and_eq_false_imp, decide_eq_false_iff_not, decide_eq_true_eq]
    rintro ⟨rfl, h⟩ ⟨h1, h2⟩ ⟨h3, h4⟩
    have e : a = b := by omega
    subst e
    exact ⟨rfl, prefix_between as bs cs h (h2 rfl) (h4 rfl)⟩
/-- a ≤ b ≤ c: what a and c share with r, b shares -/
theorem lcp_between : ∀ a b c r : Cs, ltb b a = false → ltb c b = false → min (lcp a r) (lcp c r) ≤ lcp b r
  | [], b, c, r => by simp [lcp]
  | a :: as, b, [], r => by simp [lcp]
  | a :: as, b, c :: cs, [] => by simp [lcp]
  | a :: as, [], c :: cs, r :: rs => by simp [ltb]
  | a :: as, b :: bs, c :: cs, r :: rs => by
    simp only [ltb, Bool.or_eq_false_iff, Bool.and_eq_false_imp, decide_eq_false_iff_not, decide_eq_true_eq]
    rintro ⟨h1, h2⟩ ⟨h3, h4⟩
    unfold lcp
    by_cases e1 : a = r
    · by_cases e2 : c = r
      · have e3 : b = r := by omega
        rw [if_pos e1, if_pos e2, if_pos e3]
        have := lcp_between as bs cs rs (h2 (by omega)) (h4 (by omega))
        omega
      · rw [if_neg e2]; omega
    · rw [if_neg e1]; omega
/-- how a comparison at the first place that parts tells the order -/
theorem ltb_of_lcp : ∀ r k : Cs, ltb r k = true ↔ (lcp k r < k.length ∧ (r.length = lcp k r ∨ r.getD (lcp k r) 0 < k.getD (lcp k r) 0))
  | r, [] => by cases r <;> simp [ltb, lcp]
  | [], b :: bs => by simp [ltb, lcp]
  | a :: as, b :: bs => by
    unfold lcp
    by_cases e : b = a
    · rw [if_pos e]
      simp only [ltb, e, Nat.lt_irrefl, decide_false, Bool.false_or, decide_true, Bool.true_and, List.length_cons, Nat.add_lt_add_iff_right, List.getD_cons_succ, Nat.add_right_cancel_iff]
      exact ltb_of_lcp as bs
    · rw [if_neg e]
      have e' : ¬ a = b := fun h => e h.symm
      simp [ltb, e']
theorem lcp_lt_ne : ∀ k r : Cs, lcp k r < k.length → lcp k r < r.length → k.getD (lcp k r) 0 ≠ r.getD (lcp k r) 0
  | [], r => by simp [lcp]
  | a :: as, [] => by simp [lcp]
  | a :: as, b :: bs => by
    unfold lcp
    by_cases e : a = b
    · rw [if_pos e]
      simp only [List.length_cons, Nat.add_lt_add_iff_right, List.getD_cons_succ]
      exact lcp_lt_ne as bs
    · rw [if_neg e]
      intro _ _
      simpa using e
/-- one more sign is common -/
theorem lcp_ge_iff : ∀ (k r : Cs) (n : Nat), n ≤ lcp k r ↔ (n ≤ k.length ∧ n ≤ r.length ∧ ∀ i, i < n → k.getD i 0 = r.getD i 0)
  | [], r, n => by
    refine ⟨fun h => ?_, fun h => by simpa [lcp] using h.1⟩
    have e : n = 0 := by simpa [lcp] using h
    subst e
    simp
  | a :: as, [], n => by
    refine ⟨fun h => ?_, fun h => by simpa [lcp] using h.2.1⟩
    have e : n = 0 := by simpa [lcp] using h
    subst e
    simp
  | a :: as, b :: bs, 0 => by simp
  | a :: as, b :: bs, n + 1 => by
    unfold lcp
    by_cases e : a = b
    · rw [if_pos e]
      rw [Nat.add_le_add_iff_right, lcp_ge_iff as bs n]
      simp only [List.length_cons, Nat.add_le_add_iff_right]
      refine ⟨fun ⟨h1, h2, h3⟩ => ⟨h1, h2, fun i hi => ?_⟩, fun ⟨h1, h2, h3⟩ => ⟨h1, h2, fun i hi => ?_⟩⟩
      · cases i with
        | zero => simpa using e
        | succ i => simpa using h3 i (by omega)
      · simpa using h3 (i + 1) (by omega)
    · rw [if_neg e]
      simp only [Nat.le_zero, Nat.add_eq_zero_iff, Nat.one_ne_zero, and_false, false_iff]
      rintro ⟨_, _, h⟩
      exact e (by simpa using h 0 (by omega))

/-! the law's cut: the longest of at most six -/
noncomputable def cutFrom (keys : List Cs) (r : Cs) : Nat → Cs
  | 0 => r
  | n + 1 => if keys.contains (r.take (n + 1)) then r.drop (n + 1) else cutFrom keys r n
noncomputable def cut (keys : List Cs) (r : Cs) : Cs := cutFrom keys r (min 6 r.length)
noncomputable def NoKey (keys : List Cs) (r : Cs) : Prop := ∀ q ∈ keys, ¬ q <+: r
noncomputable def IsBest (keys : List Cs) (r k : Cs) : Prop := k ∈ keys ∧ k <+: r ∧ ∀ q ∈ keys, q <+: r → q.length ≤ k.length
noncomputable def Sized (keys : List Cs) : Prop := ∀ q ∈ keys, 1 ≤ q.length ∧ q.length ≤ 6

theorem cutFrom_none {keys : List Cs} {r : Cs} (h : NoKey keys r) : ∀ n, cutFrom keys r n = r
  | 0 => rfl
  | n + 1 => by
    unfold cutFrom
    have : keys.contains (r.take (n + 1)) = false := by
      rw [Bool.eq_false_iff]
      intro hc
      exact h _ (List.contains_iff_mem.mp hc) (List.take_prefix _ _)
    rw [this]
    simp [cutFrom_none h n]
theorem cut_none {keys : List Cs} {r : Cs} (h : NoKey keys r) : cut keys r = r := cutFrom_none h _
theorem cutFrom_best {keys : List Cs} {r k : Cs} (h : IsBest keys r k) : ∀ n, k.length ≤ n → n ≤ r.length → 1 ≤ k.length → cutFrom keys r n = r.drop k.length
  | 0, h1, _, h3 => by omega
  | n + 1, h1, h2, h3 => by
    unfold cutFrom
    by_cases e : keys.contains (r.take (n + 1)) = true
    · rw [if_pos e]
      have := h.2.2 _ (List.contains_iff_mem.mp e) (List.take_prefix _ _)
      rw [List.length_take] at this
      have : k.length = n + 1 := by omega
      rw [this]
    · rw [if_neg e]
      have hk : k.length ≠ n + 1 := by
        intro hk
        refine e (List.contains_iff_mem.mpr ?_)
        rw [← hk, ← List.prefix_iff_eq_take.mp h.2.1]
        exact h.1
      exact cutFrom_best h n (by omega) (by omega) h3
theorem cut_best {keys : List Cs} {r k : Cs} (hs : Sized keys) (h : IsBest keys r k) : cut keys r = r.drop k.length :=
  cutFrom_best h _ (by have := (hs k h.1).2; have := h.2.1.length_le; omega) (by omega) (hs k h.1).1
/-- among the keys that head r there is a longest, or none -/
theorem best_or_none : ∀ (keys : List Cs) (r : Cs), NoKey keys r ∨ ∃ k, IsBest keys r k
  | [], r => .inl (by intro q hq; cases hq)
  | a :: ks, r => by
    by_cases e : a <+: r
    · right
      rcases best_or_none ks r with h | ⟨k, h1, h2, h3⟩
      · refine ⟨a, List.mem_cons_self, e, fun q hq hp => ?_⟩
        rcases List.mem_cons.mp hq with rfl | hq
        · exact Nat.le_refl _
        · exact absurd hp (h q hq)
      · by_cases hl : a.length ≤ k.length
        · refine ⟨k, List.mem_cons_of_mem _ h1, h2, fun q hq hp => ?_⟩
          rcases List.mem_cons.mp hq with rfl | hq
          · exact hl
          · exact h3 q hq hp
        · refine ⟨a, List.mem_cons_self, e, fun q hq hp => ?_⟩
          rcases List.mem_cons.mp hq with rfl | hq
          · exact Nat.le_refl _
          · have := h3 q hq hp; omega
    · rcases best_or_none ks r with h | ⟨k, h1, h2, h3⟩
      · left
        intro q hq
        rcases List.mem_cons.mp hq with rfl | hq
        · exact e
        · exact h q hq
      · right
        refine ⟨k, List.mem_cons_of_mem _ h1, h2, fun q hq hp => ?_⟩
        rcases List.mem_cons.mp hq with rfl | hq
        · exact absurd hp e
        · exact h3 q hq hp
theorem cut_ne_iff {keys : List Cs} (hs : Sized keys) (r : Cs) : cut keys r = r ↔ NoKey keys r := by
  refine ⟨fun h => ?_, cut_none⟩
  rcases best_or_none keys r with hn | ⟨k, hk⟩
  · exact hn
  · rw [cut_best hs hk] at h
    have := congrArg List.length h
    rw [List.length_drop] at this
    have h1 := (hs k hk.1).1
    have h2 := hk.2.1.length_le
    omega
theorem cut_length_lt {keys : List Cs} (hs : Sized keys) {r : Cs} (h : cut keys r ≠ r) : (cut keys r).length < r.length := by
  rcases best_or_none keys r with hn | ⟨k, hk⟩
  · exact absurd (cut_none hn) h
  · rw [cut_best hs hk, List.length_drop]
    have h1 := (hs k hk.1).1
    have h2 := hk.2.1.length_le
    omega
theorem cut_length_le {keys : List Cs} (hs : Sized keys) (r : Cs) : (cut keys r).length ≤ r.length := by
  by_cases h : cut keys r = r
  · rw [h]; exact Nat.le_refl _
  · exact Nat.le_of_lt (cut_length_lt hs h)
/-! the law's turns -/
noncomputable def turns (keys : List Cs) : Nat → Cs → Cs
  | 0, r => r
  | n + 1, r => turns keys n (cut keys r)
noncomputable def rest (ends last : List Cs) (r : Cs) : Cs :=
  let x := turns ends r.length r
  if cut last x ≠ x then x.drop 1 else x
theorem turns_fix {keys : List Cs} {r : Cs} (h : cut keys r = r) : ∀ n, turns keys n r = r
  | 0 => rfl
  | n + 1 => by rw [turns, h, turns_fix h n]
theorem turns_more {keys : List Cs} (hs : Sized keys) : ∀ (n m : Nat) (r : Cs), r.length ≤ n → r.length ≤ m → turns keys n r = turns keys m r
  | 0, m, r, h, _ => by
    have : r = [] := List.length_eq_zero_iff.mp (by omega)
    subst this
    rw [turns_fix (by rfl), turns_fix (by rfl)]
  | n + 1, 0, r, _, h => by
    have : r = [] := List.length_eq_zero_iff.mp (by omega)
    subst this
    rw [turns_fix (by rfl), turns_fix (by rfl)]
  | n + 1, m + 1, r, h1, h2 => by
    by_cases e : cut keys r = r
    · rw [turns_fix e, turns_fix e]
    · have := cut_length_lt hs e
      exact turns_more hs n m _ (by omega) (by omega)
theorem turns_last {keys : List Cs} (hs : Sized keys) : ∀ (n : Nat) (r : Cs), r.length ≤ n → NoKey keys (turns keys n r)
  | 0, r, h => by
    have : r = [] := List.length_eq_zero_iff.mp (by omega)
    subst this
    exact (cut_ne_iff hs _).mp rfl
  | n + 1, r, h => by
    by_cases e : cut keys r = r
    · rw [turns_fix e]; exact (cut_ne_iff hs _).mp e
    · have := cut_length_lt hs e
      exact turns_last hs n _ (by omega)
theorem rest_step {ends last : List Cs} (hs : Sized ends) (r : Cs) : rest ends last (cut ends r) = rest ends last r := by
  have e : turns ends (cut ends r).length (cut ends r) = turns ends r.length r := by
    have hl := cut_length_le hs r
    rw [turns_more hs (cut ends r).length r.length _ (Nat.le_refl _) hl]
    by_cases e : cut ends r = r
    · rw [e]
    · show turns ends (r.length + 1) r = _
      exact turns_more hs _ _ _ (by omega) (by omega)
  unfold rest
  rw [e]
theorem rest_end {ends last : List Cs} {r : Cs} (h : NoKey ends r) : rest ends last r = if cut last r ≠ r then r.drop 1 else r := by
  unfold rest
  rw [turns_fix (cut_none h)]
end Mine

end
section
namespace Mine
abbrev Tab := List (Cs × Int × Int)
noncomputable def keyAt (T : Tab) (i : Nat) : Cs := (T.getD i ([], 0, 0)).1
noncomputable def subAt (T : Tab) (i : Nat) : Int := (T.getD i ([], 0, 0)).2.1
noncomputable def resAt (T : Tab) (i : Nat) : Int := (T.getD i ([], 0, 0)).2.2
noncomputable def keysOf (T : Tab) : List Cs := T.map (·.1)
theorem mem_keysOf {T : Tab} {k : Cs} : k ∈ keysOf T ↔ ∃ i, i < T.length ∧ keyAt T i = k := by
  unfold keysOf keyAt
  rw [List.mem_map]
  constructor
  · rintro ⟨x, hx, rfl⟩
    obtain ⟨i, hi, rfl⟩ := List.mem_iff_getElem.mp hx
    exact ⟨i, hi, by simp [List.getD_eq_getElem?_getD, hi]⟩
  · rintro ⟨i, hi, rfl⟩
    exact ⟨T[i], List.getElem_mem hi, by simp [List.getD_eq_getElem?_getD, hi]⟩
/-- the table is sorted, its links lead to the longest shorter key -/
noncomputable def goodTab (T : Tab) : Bool :=
  decide (0 < T.length) &&
  ((List.range T.length).all fun i => (List.range T.length).all fun j => !decide (i < j) || ltb (keyAt T i) (keyAt T j)) &&
  ((List.range T.length).all fun i => decide (1 ≤ (keyAt T i).length) && decide ((keyAt T i).length ≤ 6) &&
    (if subAt T i < 0 then (List.range T.length).all fun q => decide (q = i) || !(keyAt T q).isPrefixOf (keyAt T i)
     else decide ((subAt T i).toNat < i) && (keyAt T (subAt T i).toNat).isPrefixOf (keyAt T i) &&
       (List.range T.length).all fun q => decide (q = i) || !(keyAt T q).isPrefixOf (keyAt T i) || (keyAt T q).isPrefixOf (keyAt T (subAt T i).toNat)))
structure Good (T : Tab) : Prop where
  pos : 0 < T.length
  sorted : ∀ i j, i < j → j < T.length → ltb (keyAt T i) (keyAt T j) = true
  size : ∀ i, i < T.length → 1 ≤ (keyAt T i).length ∧ (keyAt T i).length ≤ 6
  ends : ∀ i, i < T.length → subAt T i < 0 → ∀ q, q < T.length → q ≠ i → ¬ keyAt T q <+: keyAt T i
  link : ∀ i, i < T.length → 0 ≤ subAt T i → (subAt T i).toNat < i ∧ keyAt T (subAt T i).toNat <+: keyAt T i ∧
    ∀ q, q < T.length → q ≠ i → keyAt T q <+: keyAt T i → keyAt T q <+: keyAt T (subAt T i).toNat
theorem goodTab_good {T : Tab} (h : goodTab T = true) : Good T := by
  unfold goodTab at h
  simp only [Bool.and_eq_true, decide_eq_true_eq, List.all_eq_true, List.mem_range, Bool.or_eq_true, Bool.not_eq_true', decide_eq_false_iff_not] at h
  obtain ⟨⟨h0, h1⟩, h2⟩ := h
  refine ⟨h0, fun i j hij hj => ?_, fun i hi => (h2 i hi).1, fun i hi hs q hq hne => ?_, fun i hi hs => ?_⟩
  · rcases h1 i (by omega) j hj with h | h
    · exact absurd hij h
    · exact h
  · have := (h2 i hi).2
    rw [if_pos hs] at this
    have := List.all_eq_true.mp this q (List.mem_range.mpr hq)
    simp only [Bool.or_eq_true, decide_eq_true_eq, Bool.not_eq_true'] at this
    rcases this with h | h
    · exact absurd h hne
    · rw [← List.isPrefixOf_iff_prefix, h]; simp
  · have := (h2 i hi).2
    rw [if_neg (by omega)] at this
    simp only [Bool.and_eq_true, decide_eq_true_eq, List.all_eq_true, List.mem_range, Bool.or_eq_true, Bool.not_eq_true'] at this
    obtain ⟨⟨g1, g2⟩, g3⟩ := this
    refine ⟨g1, List.isPrefixOf_iff_prefix.mp g2, fun q hq hne hp => ?_⟩
    rcases g3 q hq with (h | h) | h
    · exact absurd h hne
    · rw [← List.isPrefixOf_iff_prefix, h] at hp; cases hp
    · exact List.isPrefixOf_iff_prefix.mp h

section
variable {T : Tab} {r : Cs}
theorem Good.sized (G : Good T) : Sized (keysOf T) := by
  intro q hq
  obtain ⟨i, hi, rfl⟩ := mem_keysOf.mp hq
  exact G.size i hi
theorem Good.le (G : Good T) {i j : Nat} (h : i ≤ j) (hj : j < T.length) : ltb (keyAt T j) (keyAt T i) = false := by
  rcases Nat.lt_or_eq_of_le h with h | h
  · rw [Bool.eq_false_iff]
    intro e
    have := ltb_trans _ _ _ (G.sorted i j h hj) e
    rw [ltb_irrefl] at this; cases this
  · rw [h]; exact ltb_irrefl _
/-- what holds between the turns of the search -/
structure Seek (T : Tab) (r : Cs) (i j ci cj : Nat) (seen : Bool) : Prop where
  lt : i < j
  le : j ≤ T.length
  hj : (j < T.length ∧ ltb r (keyAt T j) = true ∧ cj = lcp (keyAt T j) r) ∨ (j = T.length ∧ cj = 0)
  hi : (ltb r (keyAt T i) = false ∧ ci = lcp (keyAt T i) r) ∨ (i = 0 ∧ ci = 0)
  first : seen = true → i = 0 ∧ j = 1
theorem Seek.start (G : Good T) : Seek T r 0 T.length 0 0 false :=
  ⟨G.pos, Nat.le_refl _, .inr ⟨rfl, rfl⟩, .inr ⟨rfl, rfl⟩, nofun⟩
theorem ltb_asymm_le {a b : Cs} (h : ltb a b = true) : ltb b a = false := by
  rw [Bool.eq_false_iff]
  intro e
  have := ltb_trans _ _ _ h e
  rw [ltb_irrefl] at this; cases this
theorem Seek.common {i j ci cj : Nat} {seen : Bool} (G : Good T) (I : Seek T r i j ci cj seen) {k : Nat} (h1 : i ≤ k) (h2 : k < j) : min ci cj ≤ lcp (keyAt T k) r := by
  have hk : k < T.length := Nat.lt_of_lt_of_le h2 I.le
  rcases I.hi with ⟨a1, a2⟩ | ⟨_, a2⟩
  · rcases I.hj with ⟨b0, b1, b2⟩ | ⟨_, b2⟩
    · rw [a2, b2]
      exact lcp_between _ _ _ _ (G.le h1 hk) (G.le (Nat.le_of_lt h2) b0)
    · omega
  · omega
/-- the search's end -/
noncomputable def Found (T : Tab) (r : Cs) (i ci : Nat) : Prop :=
  (i < T.length ∧ ltb r (keyAt T i) = false ∧ ci = lcp (keyAt T i) r ∧ (i + 1 = T.length ∨ ltb r (keyAt T (i + 1)) = true)) ∨ (i = 0 ∧ ci = 0 ∧ ltb r (keyAt T 0) = true)
theorem Seek.low {i j ci cj : Nat} {seen : Bool} (I : Seek T r i j ci cj seen) {k : Nat} (h1 : i ≤ k) (h2 : k < j) (hlt : ltb r (keyAt T k) = true) :
    (1 < k - i ∨ (i = 0 ∧ k = 1 ∧ seen = false) → Seek T r i k ci (lcp (keyAt T k) r) (if 1 < k - i then seen else true)) ∧ (k - i ≤ 1 ∧ (0 < i ∨ k = i ∨ seen = true) → k = i + (j - i) / 2 → Found T r i ci) := by
  refine ⟨fun h => ⟨by omega, Nat.le_trans (Nat.le_of_lt h2) I.le, .inl ⟨Nat.lt_of_lt_of_le h2 I.le, hlt, rfl⟩, I.hi, fun hs => ?_⟩, fun ⟨h3, h4⟩ hk => ?_⟩
  · by_cases e : 1 < k - i
    · rw [if_pos e] at hs
      have := I.first hs
      omega
    · omega
  · have hcase : (k = i ∧ i = 0) ∨ (k = i ∧ 0 < i) ∨ (k = i + 1 ∧ 0 < i) ∨ (k = i + 1 ∧ i = 0 ∧ seen = true) := by
      by_cases e0 : i = 0
      · by_cases e1 : k = i
        · exact .inl ⟨e1, e0⟩
        · exact .inr (.inr (.inr ⟨by omega, e0, by
            rcases h4 with h | h | h
            · omega
            · omega
            · exact h⟩))
      · by_cases e1 : k = i
        · exact .inr (.inl ⟨e1, by omega⟩)
        · exact .inr (.inr (.inl ⟨by omega, by omega⟩))
    have hl := I.le
    rcases hcase with ⟨e1, e2⟩ | ⟨e1, e2⟩ | ⟨e1, e2⟩ | ⟨e1, e2, e3⟩
    · subst e1
      rcases I.hi with ⟨a1, _⟩ | ⟨_, a2⟩
      · rw [a1] at hlt; cases hlt
      · exact .inr ⟨e2, a2, by rw [e2] at hlt; exact hlt⟩
    · subst e1
      rcases I.hi with ⟨a1, _⟩ | ⟨a1, _⟩
      · rw [a1] at hlt; cases hlt
      · omega
    · rcases I.hi with ⟨a1, a2⟩ | ⟨a1, _⟩
      · refine .inl ⟨by omega, a1, a2, .inr ?_⟩
        rw [← e1]; exact hlt
      · omega
    · have := I.first e3
      omega
theorem Seek.high {i j ci cj : Nat} {seen : Bool} (I : Seek T r i j ci cj seen) {k : Nat} (h1 : i ≤ k) (h2 : k < j) (hlt : ltb r (keyAt T k) = false) :
    (1 < j - k ∨ (k = 0 ∧ j = 1 ∧ seen = false) → Seek T r k j (lcp (keyAt T k) r) cj (if 1 < j - k then seen else true)) ∧ (j - k ≤ 1 → Found T r k (lcp (keyAt T k) r)) := by
  have hl := I.le
  refine ⟨fun h => ⟨h2, I.le, I.hj, .inl ⟨hlt, rfl⟩, fun hs => ?_⟩, fun h3 => .inl ⟨Nat.lt_of_lt_of_le h2 I.le, hlt, rfl, ?_⟩⟩
  · by_cases e : 1 < j - k
    · rw [if_pos e] at hs
      have := I.first hs
      omega
    · omega
  · have e : j = k + 1 := by omega
    subst e
    rcases I.hj with ⟨_, b1, _⟩ | ⟨b1, _⟩
    · exact .inr b1
    · exact .inl b1

/-- the links' walk -/
structure Climb (T : Tab) (r : Cs) (ci i : Nat) : Prop where
  lt : i < T.length
  all : ∀ q, q < T.length → keyAt T q <+: r → keyAt T q <+: keyAt T i
  tells : ∀ q, q < T.length → keyAt T q <+: keyAt T i → (keyAt T q <+: r ↔ (keyAt T q).length ≤ ci)
theorem Found.climb (G : Good T) {i ci : Nat} (h : Found T r i ci) : Climb T r ci i := by
  rcases h with ⟨h0, h1, h2, h3⟩ | ⟨rfl, rfl, h⟩
  · refine ⟨h0, fun q hq hp => ?_, fun q hq hp => ?_⟩
    · have hle := prefix_not_lt _ _ hp
      have hqi : q ≤ i := by
        rcases h3 with h3 | h3
        · omega
        · rcases Nat.lt_or_ge i q with hlt | hge
          · have h4 : ltb r (keyAt T q) = true := by
              rcases Nat.lt_or_eq_of_le (Nat.succ_le_of_lt hlt) with h5 | h5
              · exact ltb_trans _ _ _ h3 (G.sorted _ _ h5 hq)
              · rw [← h5]; exact h3
            rw [h4] at hle; cases hle
          · exact hge
      exact prefix_between _ _ _ hp (G.le hqi h0) h1
    · rw [h2]
      refine ⟨fun hr => ?_, fun hl => ?_⟩
      · rw [lcp_ge_iff]
        refine ⟨hp.length_le, hr.length_le, fun n hn => ?_⟩
        obtain ⟨s, hs⟩ := hp
        obtain ⟨t, ht⟩ := hr
        rw [← hs, ← ht]
        simp [List.getD_eq_getElem?_getD, List.getElem?_append_left hn]
      · have h5 : (keyAt T i).take (keyAt T q).length = r.take (keyAt T q).length := by
          have := (lcp_ge_iff _ _ _).mp hl
          apply List.ext_getElem?
          intro n
          by_cases hn : n < (keyAt T q).length
          · rw [List.getElem?_take_of_lt hn, List.getElem?_take_of_lt hn]
            have h6 := this.2.2 n hn
            simp only [List.getD_eq_getElem?_getD] at h6
            have h7 : n < (keyAt T i).length := by omega
            have h8 : n < r.length := by omega
            simp only [List.getElem?_eq_getElem h7, List.getElem?_eq_getElem h8, Option.getD_some] at h6 ⊢
            rw [h6]
          · rw [List.getElem?_take_eq_none (by omega), List.getElem?_take_eq_none (by omega)]
        rw [List.prefix_iff_eq_take.mp hp, h5]
        exact List.take_prefix _ _
  · have hno : ∀ q, q < T.length → ¬ keyAt T q <+: r := by
      intro q hq hp
      have hle := prefix_not_lt _ _ hp
      have : ltb r (keyAt T q) = true := lt_le_trans _ _ _ h (G.le (Nat.zero_le q) hq)
      rw [this] at hle; cases hle
    refine ⟨G.pos, fun q hq hp => absurd hp (hno q hq), fun q hq _ => ⟨fun hp => absurd hp (hno q hq), fun hl => ?_⟩⟩
    have := (G.size q hq).1
    omega
theorem Climb.best {ci i : Nat} (C : Climb T r ci i) (h : (keyAt T i).length ≤ ci) : IsBest (keysOf T) r (keyAt T i) := by
  refine ⟨mem_keysOf.mpr ⟨i, C.lt, rfl⟩, (C.tells i C.lt (List.prefix_refl _)).mpr h, fun q hq hp => ?_⟩
  obtain ⟨n, hn, rfl⟩ := mem_keysOf.mp hq
  exact (C.all n hn hp).length_le
theorem Climb.none (G : Good T) {ci i : Nat} (C : Climb T r ci i) (h : ¬ (keyAt T i).length ≤ ci) (hs : subAt T i < 0) : NoKey (keysOf T) r := by
  intro q hq hp
  obtain ⟨n, hn, rfl⟩ := mem_keysOf.mp hq
  by_cases e : n = i
  · subst e
    exact h ((C.tells n C.lt (List.prefix_refl _)).mp hp)
  · exact G.ends i C.lt hs n hn e (C.all n hn hp)
theorem Climb.next (G : Good T) {ci i : Nat} (C : Climb T r ci i) (h : ¬ (keyAt T i).length ≤ ci) (hs : 0 ≤ subAt T i) : Climb T r ci (subAt T i).toNat ∧ (subAt T i).toNat < i := by
  obtain ⟨h1, h2, h3⟩ := G.link i C.lt hs
  refine ⟨⟨Nat.lt_trans h1 C.lt, fun q hq hp => ?_, fun q hq hp => C.tells q hq (hp.trans h2)⟩, h1⟩
  have hne : q ≠ i := by
    rintro rfl
    exact h ((C.tells q C.lt (List.prefix_refl _)).mp hp)
  exact h3 q hq hne (C.all q hq hp)
end
end Mine

end
section
namespace Mine
noncomputable def a0 : List (Cs × Int × Int) := [([2311, 2366, 2354], -1, 1),
  ([2312, 2366, 2354], -1, 1),
  ([2327, 2305, 2360], -1, 1),
  ([2327, 2306, 2360], -1, 1),
  ([2340, 2347, 2381, 2352, 2366, 2350], -1, 1),
  ([2340, 2352], -1, 1),
  ([2366, 2325], -1, 2),
  ([2366, 2350], -1, 1),
  ([2366, 2352, 2366, 2357, 2381, 2342], -1, 1),
  ([2367, 2325], -1, 2),
  ([2367, 2331, 2346], -1, 1),
  ([2368, 2325], -1, 2),
  ([2375, 2354], -1, 1),
  ([2376, 2325], -1, 2),
  ([2376, 2327, 2305, 2360], -1, 1),
  ([2376, 2350], -1, 1),
  ([2379, 2325], -1, 2)]
noncomputable def a1 : List (Cs × Int × Int) := [([2305], -1, 1),
  ([2306], -1, 1),
  ([2376], -1, 2)]
noncomputable def a2 : List (Cs × Int × Int) := [([2319, 2367, 2341], -1, 1),
  ([2331], -1, 1),
  ([2331, 2311], 1, 1),
  ([2331, 2319], 1, 1),
  ([2331, 2367], 1, 1),
  ([2331, 2375], 1, 1),
  ([2331, 2375, 2344], 5, 1),
  ([2331, 2375, 2344, 2369, 2361], 6, 1),
  ([2331, 2381, 2344, 2311], 1, 1),
  ([2331, 2381, 2344, 2367], 1, 1),
  ([2331, 2381, 2344, 2369, 2361], 1, 1),
  ([2366, 2325, 2319], -1, 1),
  ([2366, 2325, 2319, 2311], 11, 1),
  ([2366, 2325, 2319, 2367], 11, 1),
  ([2366, 2325, 2375], -1, 1),
  ([2366, 2325, 2375, 2344], 14, 1),
  ([2366, 2342], -1, 1),
  ([2366, 2342, 2311], 16, 1),
  ([2366, 2342, 2367], 16, 1),
  ([2367, 2326, 2375, 2342], -1, 1),
  ([2367, 2341, 2366, 2350], -1, 1),
  ([2368, 2325, 2319], -1, 1),
  ([2368, 2325, 2319, 2311], 21, 1),
  ([2368, 2325, 2319, 2367], 21, 1),
  ([2368, 2325, 2375], -1, 1),
  ([2368, 2326, 2375, 2342], -1, 1),
  ([2368, 2341], -1, 1),
  ([2368, 2342], -1, 1),
  ([2369, 2331], -1, 1),
  ([2369, 2331, 2319], 28, 1),
  ([2369, 2331, 2375], 28, 1),
  ([2369, 2331, 2375, 2344], 30, 1),
  ([2369, 2344], -1, 1),
  ([2369, 2352, 2361], -1, 1),
  ([2370, 2352, 2361], -1, 1),
  ([2375, 2331], -1, 1),
  ([2375, 2341], -1, 1),
  ([2375, 2344], -1, 1),
  ([2376, 2325, 2319], -1, 1),
  ([2376, 2325, 2375], -1, 1),
  ([2376, 2325, 2375, 2344], 39, 1),
  ([2376, 2342], -1, 1),
  ([2376, 2342, 2311], 41, 1),
  ([2376, 2342, 2367], 41, 1),
  ([2379, 2325, 2319], -1, 1),
  ([2379, 2325, 2319, 2311], 44, 1),
  ([2379, 2325, 2319, 2367], 44, 1),
  ([2379, 2325, 2375], -1, 1),
  ([2379, 2325, 2375, 2344], 47, 1),
  ([2379, 2342], -1, 1),
  ([2379, 2342, 2311], 49, 1),
  ([2379, 2342, 2367], 49, 1),
  ([2379, 2351], -1, 1),
  ([2379, 2351, 2311], 52, 1),
  ([2379, 2351, 2349], 52, 1),
  ([2379, 2351, 2367], 52, 1),
  ([2379, 2351, 2367, 2341], 55, 1),
  ([2379, 2351, 2367, 2342], 55, 1),
  ([2379, 2351, 2381, 2341], 52, 1),
  ([2380, 2331], -1, 1),
  ([2380, 2331, 2311], 59, 1),
  ([2380, 2331, 2319], 59, 1),
  ([2380, 2331, 2367], 59, 1),
  ([2380, 2331, 2375], 59, 1),
  ([2380, 2331, 2375, 2344], 63, 1),
  ([2380, 2351], -1, 1),
  ([2380, 2351, 2367, 2341], 65, 1),
  ([2380, 2351, 2381, 2331], 65, 1),
  ([2380, 2351, 2381, 2341], 65, 1),
  ([2381, 2344, 2331], -1, 1),
  ([2381, 2344, 2331, 2311], 69, 1),
  ([2381, 2344, 2331, 2319], 69, 1),
  ([2381, 2344, 2331, 2367], 69, 1),
  ([2381, 2344, 2331, 2375], 69, 1),
  ([2381, 2344, 2331, 2375, 2344], 73, 1),
  ([2381, 2344, 2366, 2354], -1, 1),
  ([2381, 2344, 2367, 2331], -1, 1),
  ([2381, 2344, 2367, 2341], -1, 1),
  ([2381, 2352, 2346], -1, 1),
  ([2381, 2360, 2311], -1, 1),
  ([2381, 2360, 2311, 2367, 2341], 79, 1),
  ([2381, 2360, 2331], -1, 1),
  ([2381, 2360, 2331, 2311], 81, 1),
  ([2381, 2360, 2331, 2319], 81, 1),
  ([2381, 2360, 2331, 2367], 81, 1),
  ([2381, 2360, 2331, 2375], 81, 1),
  ([2381, 2360, 2331, 2375, 2344], 85, 1),
  ([2381, 2360, 2367], -1, 1),
  ([2381, 2360, 2367, 2341], 87, 1),
  ([2381, 2360, 2375, 2331], -1, 1),
  ([2381, 2360, 2379, 2361], -1, 1)]
noncomputable def caseK : List Cs := [[2366, 2325], [2367, 2325], [2368, 2325], [2376, 2325], [2379, 2325], [2311, 2366, 2354], [2312, 2366, 2354], [2327, 2305, 2360], [2327, 2306, 2360], [2376, 2327, 2305, 2360], [2340, 2347, 2381, 2352, 2366, 2350], [2366, 2352, 2366, 2357, 2381, 2342], [2367, 2331, 2346], [2340, 2352], [2366, 2350], [2376, 2350], [2375, 2354]]
noncomputable def heldK : List Cs := [[2366, 2325, 2319], [2367, 2325, 2319], [2368, 2325, 2319], [2376, 2325, 2319], [2379, 2325, 2319], [2366, 2325, 2375], [2367, 2325, 2375], [2368, 2325, 2375], [2376, 2325, 2375], [2379, 2325, 2375]]
noncomputable def lastK : List Cs := [[2305, 2380, 2344], [2306, 2380, 2344], [2376, 2352, 2381, 2340]]
noncomputable def endsK : List Cs := [[2331], [2331, 2311], [2331, 2319], [2331, 2367], [2331, 2375], [2331, 2375, 2344], [2381, 2344, 2331], [2381, 2344, 2331, 2311], [2381, 2344, 2331, 2319], [2381, 2344, 2331, 2367], [2381, 2344, 2331, 2375], [2381, 2344, 2331, 2375, 2344], [2381, 2360, 2331], [2381, 2360, 2331, 2311], [2381, 2360, 2331, 2319], [2381, 2360, 2331, 2367], [2381, 2360, 2331, 2375], [2381, 2360, 2331, 2375, 2344], [2380, 2331], [2380, 2331, 2311], [2380, 2331, 2319], [2380, 2331, 2367], [2380, 2331, 2375], [2380, 2331, 2375, 2344], [2305, 2380, 2331], [2305, 2380, 2331, 2311], [2305, 2380, 2331, 2319], [2305, 2380, 2331, 2367], [2305, 2380, 2331, 2375], [2305, 2380, 2331, 2375, 2344], [2306, 2380, 2331], [2306, 2380, 2331, 2311], [2306, 2380, 2331, 2319], [2306, 2380, 2331, 2367], [2306, 2380, 2331, 2375], [2306, 2380, 2331, 2375, 2344], [2331, 2375, 2344, 2369, 2361], [2331, 2381, 2344, 2311], [2331, 2381, 2344, 2367], [2331, 2381, 2344, 2369, 2361], [2369, 2331], [2369, 2331, 2319], [2369, 2331, 2375], [2369, 2331, 2375, 2344], [2366, 2325, 2319], [2366, 2325, 2319, 2311], [2366, 2325, 2319, 2367], [2366, 2325, 2375], [2366, 2325, 2375, 2344], [2379, 2325, 2319], [2379, 2325, 2319, 2311], [2379, 2325, 2319, 2367], [2379, 2325, 2375], [2379, 2325, 2375, 2344], [2368, 2325, 2319], [2368, 2325, 2319, 2311], [2368, 2325, 2319, 2367], [2368, 2325, 2375], [2376, 2325, 2319], [2376, 2325, 2375], [2376, 2325, 2375, 2344], [2366, 2342], [2366, 2342, 2311], [2366, 2342, 2367], [2376, 2342], [2376, 2342, 2311], [2376, 2342, 2367], [2379, 2342], [2379, 2342, 2311], [2379, 2342, 2367], [2379, 2351], [2379, 2351, 2311], [2379, 2351, 2367], [2379, 2351, 2367, 2341], [2379, 2351, 2367, 2342], [2379, 2351, 2381, 2341], [2379, 2351, 2349], [2380, 2351], [2380, 2351, 2367, 2341], [2380, 2351, 2381, 2341], [2380, 2351, 2381, 2331], [2305, 2380, 2351], [2305, 2380, 2351, 2367, 2341], [2305, 2380, 2351, 2381, 2341], [2305, 2380, 2351, 2381, 2331], [2306, 2380, 2351], [2306, 2380, 2351, 2367, 2341], [2306, 2380, 2351, 2381, 2341], [2306, 2380, 2351, 2381, 2331], [2381, 2360, 2311], [2381, 2360, 2311, 2367, 2341], [2381, 2360, 2367], [2381, 2360, 2367, 2341], [2381, 2360, 2375, 2331], [2381, 2360, 2379, 2361], [2381, 2344, 2367, 2331], [2381, 2344, 2367, 2341], [2381, 2344, 2366, 2354], [2319, 2367, 2341], [2367, 2326, 2375, 2342], [2368, 2326, 2375, 2342], [2367, 2341, 2366, 2350], [2368, 2341], [2368, 2342], [2369, 2344], [2369, 2352, 2361], [2370, 2352, 2361], [2375, 2331], [2375, 2344], [2381, 2352, 2346], [2375, 2341], [2305, 2375, 2341], [2306, 2375, 2341]]

theorem good0 : Good a0 := goodTab_good (by decide +kernel)
theorem good1 : Good a1 := goodTab_good (by decide +kernel)
theorem good2 : Good a2 := goodTab_good (by decide +kernel)
noncomputable def k0 : List Cs := keysOf a0
noncomputable def k1 : List Cs := keysOf a1
noncomputable def k2 : List Cs := keysOf a2
theorem sized_case : Sized caseK := by unfold Sized; decide +kernel
theorem sized_held : Sized heldK := by unfold Sized; decide +kernel
theorem sized_last : Sized lastK := by unfold Sized; decide +kernel
theorem sized_ends : Sized endsK := by unfold Sized; decide +kernel
/-- the two signs that hold a case ending back: ए, े -/
noncomputable def holdC : List Nat := [2319, 2375]
/-- the case endings that are held back -/
noncomputable def softK : List Cs := (a0.filter fun x => x.2.2 == 2).map (·.1)
noncomputable def first (r : Cs) : Cs := if cut heldK r ≠ r then r else cut caseK r
/-- the first part, as the stemmer reckons it -/
noncomputable def soft (r : Cs) : Bool := match r.head? with
  | some c => holdC.contains c
  | none => false

theorem prefix_two {p q r : Cs} (hp : p <+: r) (hq : q <+: r) : p <+: q ∨ q <+: p := List.prefix_or_prefix_of_prefix hp hq
theorem best_same {keys keys' : List Cs} {r k : Cs} (h : ∀ q, q ∈ keys ↔ q ∈ keys') (b : IsBest keys r k) : IsBest keys' r k :=
  ⟨(h k).mp b.1, b.2.1, fun q hq => b.2.2 q ((h q).mpr hq)⟩
theorem nokey_same {keys keys' : List Cs} {r : Cs} (h : ∀ q, q ∈ keys ↔ q ∈ keys') (b : NoKey keys r) : NoKey keys' r := fun q hq => b q ((h q).mpr hq)
theorem mem_same {keys keys' : List Cs} (h : (keys.all fun q => keys'.contains q) = true) (h' : (keys'.all fun q => keys.contains q) = true) (q : Cs) : q ∈ keys ↔ q ∈ keys' := by
  simp only [List.all_eq_true, List.contains_iff_mem] at h h'
  exact ⟨h q, h' q⟩
theorem k0_case (q : Cs) : q ∈ k0 ↔ q ∈ caseK := mem_same (by decide +kernel) (by decide +kernel) q
theorem held_parts : (heldK.all fun h => softK.contains (h.take 2) && (h.length == 3) && holdC.contains (h.getD 2 0)) = true := by decide +kernel
theorem held_all : (softK.all fun k => holdC.all fun c => heldK.contains (k ++ [c])) = true := by decide +kernel
theorem soft_two : (softK.all fun k => k.length == 2) = true := by decide +kernel
/-- no other case ending lies behind a soft one -/
theorem soft_alone : (k0.all fun q => softK.all fun k => !(k.isPrefixOf q) || q == k) = true := by decide +kernel
theorem soft_mem {k : Cs} : k ∈ softK ↔ ∃ i, i < a0.length ∧ keyAt a0 i = k ∧ resAt a0 i = 2 := by
  unfold softK keyAt resAt
  simp only [List.mem_map, List.mem_filter, beq_iff_eq]
  constructor
  · rintro ⟨x, ⟨hx, he⟩, rfl⟩
    obtain ⟨i, hi, rfl⟩ := List.mem_iff_getElem.mp hx
    exact ⟨i, hi, by simp [List.getD_eq_getElem?_getD, hi], by simpa [List.getD_eq_getElem?_getD, hi] using he⟩
  · rintro ⟨i, hi, rfl, he⟩
    refine ⟨a0[i], ⟨List.getElem_mem hi, ?_⟩, ?_⟩
    · simpa [List.getD_eq_getElem?_getD, hi] using he
    · simp [List.getD_eq_getElem?_getD, hi]
theorem key0_inj : ((List.range a0.length).all fun i => (List.range a0.length).all fun j => decide (i = j) || !(keyAt a0 i == keyAt a0 j)) = true := by decide +kernel
theorem held_case {r : Cs} {h : Cs} (hm : h ∈ heldK) (hp : h <+: r) : ∃ k ∈ softK, k <+: r ∧ soft (r.drop 2) = true := by
  have := List.all_eq_true.mp held_parts h hm
  simp only [Bool.and_eq_true, List.contains_iff_mem, beq_iff_eq] at this
  obtain ⟨⟨h1, h2⟩, h3⟩ := this
  refine ⟨_, h1, (List.take_prefix _ _).trans hp, ?_⟩
  obtain ⟨t, rfl⟩ := hp
  match h, h2 with
  | [a, b, c], _ => simpa [soft] using h3
theorem first_none {r : Cs} (h : NoKey k0 r) : first r = r := by
  have hc : NoKey caseK r := nokey_same k0_case h
  unfold first
  split
  · rfl
  · exact cut_none hc
theorem first_hard {r k : Cs} (b : IsBest k0 r k) (hk : k ∉ softK) : first r = r.drop k.length := by
  have hb : IsBest caseK r k := best_same k0_case b
  have hn : NoKey heldK r := by
    intro q hq hp
    obtain ⟨s, hs, hsp, _⟩ := held_case hq hp
    rcases prefix_two hsp b.2.1 with h | h
    · have := List.all_eq_true.mp (List.all_eq_true.mp soft_alone k b.1) s hs
      simp only [Bool.or_eq_true, Bool.not_eq_true', beq_iff_eq] at this
      rcases this with h' | h'
      · rw [← List.isPrefixOf_iff_prefix, h'] at h; cases h
      · exact hk (h' ▸ hs)
    · have hs0 : s ∈ k0 := by
        obtain ⟨i, hi, rfl, _⟩ := soft_mem.mp hs
        exact mem_keysOf.mpr ⟨i, hi, rfl⟩
      have h1 := b.2.2 s hs0 hsp
      have h2 := h.length_le
      have h3 : k = s := h.eq_of_length (by omega)
      exact hk (h3 ▸ hs)
  unfold first
  rw [cut_none hn]
  simp only [ne_eq, not_true, if_false]
  exact cut_best sized_case hb
theorem first_soft {r k : Cs} (b : IsBest k0 r k) (hk : k ∈ softK) : first r = if soft (r.drop k.length) then r else r.drop k.length := by
  have hb : IsBest caseK r k := best_same k0_case b
  have h2 : k.length = 2 := by have := List.all_eq_true.mp soft_two k hk; simpa using this
  unfold first
  rw [h2]
  by_cases hs : soft (r.drop 2) = true
  · rw [if_pos hs]
    have hne : cut heldK r ≠ r := by
      intro e
      have hn := (cut_ne_iff sized_held r).mp e
      obtain ⟨t, rfl⟩ := b.2.1
      have e2 : (k ++ t).drop 2 = t := by rw [← h2]; simp
      rw [e2] at hs
      cases t with
      | nil => simp [soft] at hs
      | cons c t =>
        have hc : c ∈ holdC := by simpa [soft] using hs
        have := List.all_eq_true.mp (List.all_eq_true.mp held_all k hk) c hc
        refine hn _ (List.contains_iff_mem.mp this) ⟨t, by simp⟩
    rw [if_pos hne]
  · have hn : NoKey heldK r := by
      intro q hq hp
      obtain ⟨_, _, _, h⟩ := held_case hq hp
      exact hs h
    rw [if_neg hs, cut_none hn]
    simp only [ne_eq, not_true, if_false]
    rw [cut_best sized_case hb, h2]

/-! one round of the second and the third part -/
noncomputable def nasal : List Nat := [2305, 2306]
/-- यौ, छौ, नौ, थे from behind -/
noncomputable def stems4 : List Cs := [[2380, 2351], [2380, 2331], [2380, 2344], [2375, 2341]]
noncomputable def tra : Cs := [2352, 2381, 2340]
/-- the second part's work -/
noncomputable def cat2 : Cs → Cs
  | [] => []
  | c :: t => if nasal.contains c then (if stems4.any fun p => p.isPrefixOf t then t else c :: t)
    else if c = 2376 then (if tra.isPrefixOf t then t else c :: t) else c :: t
theorem k1_is : k1 = [[2305], [2306], [2376]] := by decide +kernel
/-- what of the long list ends in the mark c, the mark off -/
noncomputable def behind (c : Nat) : List Cs := endsK.filterMap fun q => match q with
  | a :: t => if a = c then some t else none
  | [] => none
theorem behind_mem {c : Nat} {t : Cs} : t ∈ behind c ↔ c :: t ∈ endsK := by
  unfold behind
  rw [List.mem_filterMap]
  constructor
  · rintro ⟨q, hq, e⟩
    match q, e with
    | a :: u, e =>
      dsimp only at e
      split at e
      · rename_i h; cases e; rw [← h]; exact hq
      · cases e
  · intro h
    exact ⟨_, h, by simp⟩
/-- the keys that may head a text that p heads -/
noncomputable def near (keys : List Cs) (p : Cs) : List Cs := keys.filter fun q => q.isPrefixOf p || p.isPrefixOf q
theorem near_same (p : Cs) (keys keys' : List Cs) (h : (near keys p).all (fun q => keys'.contains q) = true) (h' : (near keys' p).all (fun q => keys.contains q) = true) {t : Cs} (hp : p <+: t) (q : Cs) (hq : q <+: t) : q ∈ keys ↔ q ∈ keys' := by
  simp only [List.all_eq_true, List.contains_iff_mem] at h h'
  have hn : (q.isPrefixOf p || p.isPrefixOf q) = true := by
    rw [Bool.or_eq_true, List.isPrefixOf_iff_prefix, List.isPrefixOf_iff_prefix]
    exact prefix_two hq hp
  exact ⟨fun hm => h q (List.mem_filter.mpr ⟨hm, hn⟩), fun hm => h' q (List.mem_filter.mpr ⟨hm, hn⟩)⟩
theorem near_mark : (nasal.all fun c => stems4.all fun p => (near k2 p).all (fun q => (behind c).contains q) && (near (behind c) p).all (fun q => k2.contains q)) = true := by decide +kernel
theorem near_tra : ((near k2 tra).all (fun q => (behind 2376).contains q) && (near (behind 2376) tra).all (fun q => k2.contains q)) = true := by decide +kernel
theorem ends_k2 : (endsK.all fun q => k2.contains q || (match q with
  | c :: t => nasal.contains c && stems4.any fun p => p.isPrefixOf t
  | [] => false)) = true := by decide +kernel
theorem k2_ends : (k2.all fun q => endsK.contains q) = true := by decide +kernel
theorem nil_notin_ends : endsK.contains [] = false := by decide +kernel
/-- the two lists' keys that head r, the mark off or not -/
theorem cat2_round (r : Cs) : (NoKey k2 (cat2 r) → NoKey endsK r) ∧ (∀ k, IsBest k2 (cat2 r) k → cut endsK r = (cat2 r).drop k.length) := by
  have plain : cat2 r = r → (∀ q, q <+: r → (q ∈ k2 ↔ q ∈ endsK)) → (NoKey k2 (cat2 r) → NoKey endsK r) ∧ (∀ k, IsBest k2 (cat2 r) k → cut endsK r = (cat2 r).drop k.length) := by
    intro e h
    rw [e]
    refine ⟨fun hn q hq hp => hn q ((h q hp).mpr hq) hp, fun k b => ?_⟩
    exact cut_best sized_ends ⟨(h k b.2.1).mp b.1, b.2.1, fun q hq hp => b.2.2 q ((h q hp).mpr hq) hp⟩
  have marked : ∀ c t, r = c :: t → cat2 r = t → (∀ q, q <+: t → (q ∈ k2 ↔ q ∈ behind c)) → (NoKey k2 (cat2 r) → NoKey endsK r) ∧ (∀ k, IsBest k2 (cat2 r) k → cut endsK r = (cat2 r).drop k.length) := by
    rintro c t rfl e h
    rw [e]
    have un : ∀ q ∈ endsK, q <+: c :: t → ∃ u, q = c :: u ∧ u <+: t ∧ u ∈ k2 := by
      intro q hq hp
      match q with
      | [] => have := nil_notin_ends; rw [← Bool.not_eq_true, List.contains_iff_mem] at this; exact absurd hq this
      | a :: u =>
        rw [List.cons_prefix_cons] at hp
        obtain ⟨rfl, hp⟩ := hp
        exact ⟨u, rfl, hp, (h u hp).mpr (behind_mem.mpr hq)⟩
    refine ⟨fun hn q hq hp => ?_, fun k b => ?_⟩
    · obtain ⟨u, rfl, hu, hm⟩ := un q hq hp
      exact hn u hm hu
    · have hb : IsBest endsK (c :: t) (c :: k) := by
        refine ⟨behind_mem.mp ((h k b.2.1).mp b.1), List.cons_prefix_cons.mpr ⟨rfl, b.2.1⟩, fun q hq hp => ?_⟩
        obtain ⟨u, rfl, hu, hm⟩ := un q hq hp
        have := b.2.2 u hm hu
        simpa using this
      rw [cut_best sized_ends hb]
      simp
  have all2 : ∀ q, q ∈ k2 → q ∈ endsK := fun q hq => List.contains_iff_mem.mp (List.all_eq_true.mp k2_ends q hq)
  have back : ∀ q, q ∈ endsK → q ∈ k2 ∨ ∃ c t, q = c :: t ∧ nasal.contains c = true ∧ (stems4.any fun p => p.isPrefixOf t) = true := by
    intro q hq
    have := List.all_eq_true.mp ends_k2 q hq
    rw [Bool.or_eq_true] at this
    rcases this with h | h
    · exact .inl (List.contains_iff_mem.mp h)
    · match q, h with
      | c :: t, h => exact .inr ⟨c, t, rfl, (Bool.and_eq_true_iff.mp h).1, (Bool.and_eq_true_iff.mp h).2⟩
  match r with
  | [] =>
    refine plain rfl fun q hp => ⟨all2 q, fun hq => ?_⟩
    rcases back q hq with h | ⟨c, t, rfl, _, _⟩
    · exact h
    · simp at hp
  | c :: t =>
    by_cases hc : nasal.contains c = true
    · by_cases hs : (stems4.any fun p => p.isPrefixOf t) = true
      · refine marked c t rfl (by simp only [cat2, if_pos hc, if_pos hs]) ?_
        obtain ⟨p, hp, hpt⟩ := List.any_eq_true.mp hs
        have := List.all_eq_true.mp (List.all_eq_true.mp near_mark c (List.contains_iff_mem.mp hc)) p hp
        rw [Bool.and_eq_true] at this
        exact near_same p k2 (behind c) this.1 this.2 (List.isPrefixOf_iff_prefix.mp hpt)
      · refine plain (by simp only [cat2, if_pos hc, if_neg hs]) fun q hp => ⟨all2 q, fun hq => ?_⟩
        rcases back q hq with h | ⟨a, u, rfl, _, h2⟩
        · exact h
        · rw [List.cons_prefix_cons] at hp
          obtain ⟨_, hp⟩ := hp
          obtain ⟨p, hpm, hpu⟩ := List.any_eq_true.mp h2
          have hpu' : p <+: u := List.isPrefixOf_iff_prefix.mp hpu
          exact (hs (List.any_eq_true.mpr ⟨p, hpm, List.isPrefixOf_iff_prefix.mpr (hpu'.trans hp)⟩)).elim
    · have noM : ∀ q, q <+: c :: t → q ∈ endsK → q ∈ k2 := by
        intro q hp hq
        rcases back q hq with h | ⟨a, u, rfl, h1, _⟩
        · exact h
        · rw [List.cons_prefix_cons] at hp
          rw [hp.1] at h1
          exact absurd h1 hc
      by_cases h6 : c = 2376
      · by_cases hs : tra.isPrefixOf t = true
        · refine marked c t rfl (by simp only [cat2, if_neg hc, if_pos h6, if_pos hs]) ?_
          have := near_tra
          rw [Bool.and_eq_true] at this
          rw [h6]
          exact near_same tra k2 (behind 2376) this.1 this.2 (List.isPrefixOf_iff_prefix.mp hs)
        · exact plain (by simp only [cat2, if_neg hc, if_pos h6, if_neg hs]) fun q hp => ⟨all2 q, noM q hp⟩
      · exact plain (by simp only [cat2, if_neg hc, if_neg h6]) fun q hp => ⟨all2 q, noM q hp⟩
/-- the mark that is left at the end -/
theorem last_parts : (lastK.all fun q => match q with
  | c :: t => (nasal.contains c && t == [2380, 2344]) || (c == 2376 && t == tra)
  | [] => false) = true := by decide +kernel
theorem last_all : (nasal.all (fun c => lastK.contains [c, 2380, 2344]) && lastK.contains (2376 :: tra)) = true := by decide +kernel
/-- a mark behind the other three: the third part takes more -/
theorem three_k2 : (([[2380, 2351], [2380, 2331], [2375, 2341]] : List Cs).all fun p => k2.contains p) = true := by decide +kernel
theorem cat2_end {r : Cs} (h : NoKey k2 (cat2 r)) : (if cut lastK r ≠ r then r.drop 1 else r) = cat2 r := by
  have no : NoKey lastK r → (if cut lastK r ≠ r then r.drop 1 else r) = r := fun hn => by rw [cut_none hn]; simp
  have yes : (∃ q ∈ lastK, q <+: r) → (if cut lastK r ≠ r then r.drop 1 else r) = r.drop 1 := by
    rintro ⟨q, hq, hp⟩
    rw [if_pos]
    intro e
    exact (cut_ne_iff sized_last r).mp e q hq hp
  have lp : ∀ q ∈ lastK, ∃ c t, q = c :: t ∧ ((nasal.contains c = true ∧ t = [2380, 2344]) ∨ (c = 2376 ∧ t = tra)) := by
    intro q hq
    have := List.all_eq_true.mp last_parts q hq
    match q, this with
    | c :: t, h =>
      simp only [Bool.or_eq_true, Bool.and_eq_true, beq_iff_eq] at h
      exact ⟨c, t, rfl, h⟩
  have la := last_all
  simp only [Bool.and_eq_true, List.all_eq_true, List.contains_iff_mem] at la
  match r with
  | [] =>
    exact no fun q hq hp => by
      obtain ⟨c, t, rfl, _⟩ := lp q hq
      simp at hp
  | c :: t =>
    by_cases hc : nasal.contains c = true
    · have h6 : c ≠ 2376 := by rintro rfl; exact absurd hc (by decide)
      by_cases hs : (stems4.any fun p => p.isPrefixOf t) = true
      · have e : cat2 (c :: t) = t := by simp only [cat2, if_pos hc, if_pos hs]
        rw [e] at h ⊢
        obtain ⟨p, hp, hpt⟩ := List.any_eq_true.mp hs
        have hpt := List.isPrefixOf_iff_prefix.mp hpt
        have t3 := List.all_eq_true.mp three_k2
        have : p = [2380, 2344] := by
          simp only [stems4, List.mem_cons, List.not_mem_nil, or_false] at hp
          rcases hp with rfl | rfl | rfl | rfl
          · exact absurd hpt (h _ (List.contains_iff_mem.mp (t3 _ (by simp))))
          · exact absurd hpt (h _ (List.contains_iff_mem.mp (t3 _ (by simp))))
          · rfl
          · exact absurd hpt (h _ (List.contains_iff_mem.mp (t3 _ (by simp))))
        subst this
        rw [yes ⟨_, la.1 c (List.contains_iff_mem.mp hc), List.cons_prefix_cons.mpr ⟨rfl, hpt⟩⟩]
        rfl
      · have e : cat2 (c :: t) = c :: t := by simp only [cat2, if_pos hc, if_neg hs]
        rw [e]
        refine no fun q hq hp => ?_
        obtain ⟨a, u, rfl, h1 | h1⟩ := lp q hq
        · rw [List.cons_prefix_cons] at hp
          rw [h1.2] at hp
          exact hs (List.any_eq_true.mpr ⟨[2380, 2344], by decide, List.isPrefixOf_iff_prefix.mpr hp.2⟩)
        · rw [List.cons_prefix_cons] at hp
          exact h6 (hp.1.symm.trans h1.1)
    · by_cases h6 : c = 2376
      · by_cases hs : tra.isPrefixOf t = true
        · have e : cat2 (c :: t) = t := by simp only [cat2, if_neg hc, if_pos h6, if_pos hs]
          rw [e, yes ⟨_, la.2, List.cons_prefix_cons.mpr ⟨h6.symm, List.isPrefixOf_iff_prefix.mp hs⟩⟩]
          rfl
        · have e : cat2 (c :: t) = c :: t := by simp only [cat2, if_neg hc, if_pos h6, if_neg hs]
          rw [e]
          refine no fun q hq hp => ?_
          obtain ⟨a, u, rfl, h1 | h1⟩ := lp q hq
          · rw [List.cons_prefix_cons] at hp
            rw [hp.1] at h1
            exact hc h1.1
          · rw [List.cons_prefix_cons] at hp
            rw [h1.2] at hp
            exact hs (List.isPrefixOf_iff_prefix.mpr hp.2)
      · have e : cat2 (c :: t) = c :: t := by simp only [cat2, if_neg hc, if_neg h6]
        rw [e]
        refine no fun q hq hp => ?_
        obtain ⟨a, u, rfl, h1 | h1⟩ := lp q hq
        · rw [List.cons_prefix_cons] at hp
          rw [hp.1] at h1
          exact hc h1.1
        · rw [List.cons_prefix_cons] at hp
          exact h6 (hp.1.symm.trans h1.1)
/-! the whole -/
noncomputable def stem (r : Cs) : Cs := rest endsK lastK (first r)
theorem round_go {r k : Cs} (b : IsBest k2 (cat2 r) k) : rest endsK lastK ((cat2 r).drop k.length) = rest endsK lastK r := by
  rw [← (cat2_round r).2 k b, rest_step sized_ends]
theorem round_end {r : Cs} (h : NoKey k2 (cat2 r)) : rest endsK lastK r = cat2 r := by
  rw [rest_end ((cat2_round r).1 h), cat2_end h]
/-- the whole is settled: what is told is told again -/
theorem last_off : (lastK.all fun q => (near endsK q.tail).isEmpty && (near lastK q.tail).isEmpty) = true := by decide +kernel
theorem rest_rest (r : Cs) : rest endsK lastK (rest endsK lastK r) = rest endsK lastK r := by
  have hn : NoKey endsK (turns endsK r.length r) := turns_last sized_ends _ _ (Nat.le_refl _)
  have e : rest endsK lastK r = if cut lastK (turns endsK r.length r) ≠ turns endsK r.length r then (turns endsK r.length r).drop 1 else turns endsK r.length r := rfl
  rw [e]
  generalize turns endsK r.length r = x at hn
  by_cases h : cut lastK x ≠ x
  · rw [if_pos h]
    rcases best_or_none lastK x with hn' | ⟨k, hk, hp, _⟩
    · exact absurd (cut_none hn') h
    · have := List.all_eq_true.mp last_off k hk
      rw [Bool.and_eq_true, List.isEmpty_iff, List.isEmpty_iff] at this
      have hp1 : k.tail <+: x.drop 1 := by
        obtain ⟨t, rfl⟩ := hp
        cases k with
        | nil => simp
        | cons c k => exact ⟨t, by simp⟩
      have none_of : ∀ keys, near keys k.tail = [] → NoKey keys (x.drop 1) := by
        intro keys hk' q hq hqp
        have : q ∈ near keys k.tail := List.mem_filter.mpr ⟨hq, by
          rw [Bool.or_eq_true, List.isPrefixOf_iff_prefix, List.isPrefixOf_iff_prefix]
          exact prefix_two hqp hp1⟩
        rw [hk'] at this; cases this
      rw [rest_end (none_of _ this.1), cut_none (none_of _ this.2)]
      simp
  · rw [if_neg h, rest_end hn, if_neg h]
theorem stem_told {r : Cs} (h : first (stem r) = stem r) : stem (stem r) = stem r := by
  show rest endsK lastK (first (stem r)) = _
  rw [h]
  exact rest_rest _
end Mine

end
namespace Mine
open PySem PySem.W PyProof PyProof.Rows
section
open PySem PySem.W PyProof PyProof.Rows
set_option maxRecDepth 100000
set_option linter.unusedVariables false
abbrev PG : Program := PySem.Challenge.pw_iu0021_01
noncomputable def nth {α : Type} (d : α) : List α → Nat → α
  | [], _ => d
  | x :: _, 0 => x
  | _ :: l, n + 1 => nth d l n
noncomputable def noSt : Stmt := .Pass ⟨0, 0, 0, 0⟩
noncomputable def topSt (i : Nat) : Stmt := nth noSt PG.main.body i
noncomputable def clsB : Stmt → List Stmt
  | .ClassDef _ _ _ b .. => b
  | _ => []
noncomputable def memSt (i j : Nat) : Stmt := nth noSt (clsB (topSt i)) j
noncomputable def fArgs : Stmt → Arguments
  | .FunctionDef _ a .. => a
  | _ => ⟨[], [], none, [], [], none, []⟩
noncomputable def fBody : Stmt → List Stmt
  | .FunctionDef _ _ b .. => b
  | _ => []
noncomputable def noSc : Scope := ⟨.module, [], false, false, []⟩
noncomputable def fScope : Stmt → Scope
  | .FunctionDef _ _ _ _ _ _ s .. => s
  | .ClassDef _ _ _ _ _ _ s .. => s
  | _ => noSc
noncomputable def ar_0 : Arguments := fArgs (topSt 0)
noncomputable def bd_0 : List Stmt := fBody (topSt 0)
noncomputable def sc_0 : Scope := fScope (topSt 0)
noncomputable def ar_2_0 : Arguments := fArgs (memSt 2 0)
noncomputable def bd_2_0 : List Stmt := fBody (memSt 2 0)
noncomputable def sc_2_0 : Scope := fScope (memSt 2 0)
noncomputable def ar_2_1 : Arguments := fArgs (memSt 2 1)
noncomputable def bd_2_1 : List Stmt := fBody (memSt 2 1)
noncomputable def sc_2_1 : Scope := fScope (memSt 2 1)
noncomputable def ar_2_2 : Arguments := fArgs (memSt 2 2)
noncomputable def bd_2_2 : List Stmt := fBody (memSt 2 2)
noncomputable def sc_2_2 : Scope := fScope (memSt 2 2)
noncomputable def ar_2_3 : Arguments := fArgs (memSt 2 3)
noncomputable def bd_2_3 : List Stmt := fBody (memSt 2 3)
noncomputable def sc_2_3 : Scope := fScope (memSt 2 3)
noncomputable def ar_2_4 : Arguments := fArgs (memSt 2 4)
noncomputable def bd_2_4 : List Stmt := fBody (memSt 2 4)
noncomputable def sc_2_4 : Scope := fScope (memSt 2 4)
noncomputable def ar_2_5 : Arguments := fArgs (memSt 2 5)
noncomputable def bd_2_5 : List Stmt := fBody (memSt 2 5)
noncomputable def sc_2_5 : Scope := fScope (memSt 2 5)
noncomputable def ar_2_6 : Arguments := fArgs (memSt 2 6)
noncomputable def bd_2_6 : List Stmt := fBody (memSt 2 6)
noncomputable def sc_2_6 : Scope := fScope (memSt 2 6)
noncomputable def ar_2_7 : Arguments := fArgs (memSt 2 7)
noncomputable def bd_2_7 : List Stmt := fBody (memSt 2 7)
noncomputable def sc_2_7 : Scope := fScope (memSt 2 7)
noncomputable def ar_2_8 : Arguments := fArgs (memSt 2 8)
noncomputable def bd_2_8 : List Stmt := fBody (memSt 2 8)
noncomputable def sc_2_8 : Scope := fScope (memSt 2 8)
noncomputable def ar_2_9 : Arguments := fArgs (memSt 2 9)
noncomputable def bd_2_9 : List Stmt := fBody (memSt 2 9)
noncomputable def sc_2_9 : Scope := fScope (memSt 2 9)
noncomputable def ar_2_10 : Arguments := fArgs (memSt 2 10)
noncomputable def bd_2_10 : List Stmt := fBody (memSt 2 10)
noncomputable def sc_2_10 : Scope := fScope (memSt 2 10)
noncomputable def ar_2_11 : Arguments := fArgs (memSt 2 11)
noncomputable def bd_2_11 : List Stmt := fBody (memSt 2 11)
noncomputable def sc_2_11 : Scope := fScope (memSt 2 11)
noncomputable def ar_2_12 : Arguments := fArgs (memSt 2 12)
noncomputable def bd_2_12 : List Stmt := fBody (memSt 2 12)
noncomputable def sc_2_12 : Scope := fScope (memSt 2 12)
noncomputable def ar_2_13 : Arguments := fArgs (memSt 2 13)
noncomputable def bd_2_13 : List Stmt := fBody (memSt 2 13)
noncomputable def sc_2_13 : Scope := fScope (memSt 2 13)
noncomputable def ar_2_14 : Arguments := fArgs (memSt 2 14)
noncomputable def bd_2_14 : List Stmt := fBody (memSt 2 14)
noncomputable def sc_2_14 : Scope := fScope (memSt 2 14)
noncomputable def ar_2_15 : Arguments := fArgs (memSt 2 15)
noncomputable def bd_2_15 : List Stmt := fBody (memSt 2 15)
noncomputable def sc_2_15 : Scope := fScope (memSt 2 15)
noncomputable def ar_2_16 : Arguments := fArgs (memSt 2 16)
noncomputable def bd_2_16 : List Stmt := fBody (memSt 2 16)
noncomputable def sc_2_16 : Scope := fScope (memSt 2 16)
noncomputable def ar_2_17 : Arguments := fArgs (memSt 2 17)
noncomputable def bd_2_17 : List Stmt := fBody (memSt 2 17)
noncomputable def sc_2_17 : Scope := fScope (memSt 2 17)
noncomputable def ar_2_18 : Arguments := fArgs (memSt 2 18)
noncomputable def bd_2_18 : List Stmt := fBody (memSt 2 18)
noncomputable def sc_2_18 : Scope := fScope (memSt 2 18)
noncomputable def ar_2_19 : Arguments := fArgs (memSt 2 19)
noncomputable def bd_2_19 : List Stmt := fBody (memSt 2 19)
noncomputable def sc_2_19 : Scope := fScope (memSt 2 19)
noncomputable def ar_2_20 : Arguments := fArgs (memSt 2 20)
noncomputable def bd_2_20 : List Stmt := fBody (memSt 2 20)
noncomputable def sc_2_20 : Scope := fScope (memSt 2 20)
noncomputable def ar_2_21 : Arguments := fArgs (memSt 2 21)
noncomputable def bd_2_21 : List Stmt := fBody (memSt 2 21)
noncomputable def sc_2_21 : Scope := fScope (memSt 2 21)
noncomputable def ar_2_22 : Arguments := fArgs (memSt 2 22)
noncomputable def bd_2_22 : List Stmt := fBody (memSt 2 22)
noncomputable def sc_2_22 : Scope := fScope (memSt 2 22)
noncomputable def ar_2_23 : Arguments := fArgs (memSt 2 23)
noncomputable def bd_2_23 : List Stmt := fBody (memSt 2 23)
noncomputable def sc_2_23 : Scope := fScope (memSt 2 23)
noncomputable def ar_4_0 : Arguments := fArgs (memSt 4 0)
noncomputable def bd_4_0 : List Stmt := fBody (memSt 4 0)
noncomputable def sc_4_0 : Scope := fScope (memSt 4 0)
noncomputable def ar_6_0 : Arguments := fArgs (memSt 6 0)
noncomputable def bd_6_0 : List Stmt := fBody (memSt 6 0)
noncomputable def sc_6_0 : Scope := fScope (memSt 6 0)
noncomputable def ar_6_1 : Arguments := fArgs (memSt 6 1)
noncomputable def bd_6_1 : List Stmt := fBody (memSt 6 1)
noncomputable def sc_6_1 : Scope := fScope (memSt 6 1)
noncomputable def ar_6_2 : Arguments := fArgs (memSt 6 2)
noncomputable def bd_6_2 : List Stmt := fBody (memSt 6 2)
noncomputable def sc_6_2 : Scope := fScope (memSt 6 2)
noncomputable def ar_6_3 : Arguments := fArgs (memSt 6 3)
noncomputable def bd_6_3 : List Stmt := fBody (memSt 6 3)
noncomputable def sc_6_3 : Scope := fScope (memSt 6 3)
noncomputable def ar_14 : Arguments := fArgs (topSt 14)
noncomputable def bd_14 : List Stmt := fBody (topSt 14)
noncomputable def sc_14 : Scope := fScope (topSt 14)
noncomputable def ar_15 : Arguments := fArgs (topSt 15)
noncomputable def bd_15 : List Stmt := fBody (topSt 15)
noncomputable def sc_15 : Scope := fScope (topSt 15)
noncomputable def ar_16 : Arguments := fArgs (topSt 16)
noncomputable def bd_16 : List Stmt := fBody (topSt 16)
noncomputable def sc_16 : Scope := fScope (topSt 16)
noncomputable def ar_17 : Arguments := fArgs (topSt 17)
noncomputable def bd_17 : List Stmt := fBody (topSt 17)
noncomputable def sc_17 : Scope := fScope (topSt 17)
noncomputable def o_0 (P : Params) : Obj := boot_o_0 P
noncomputable def o_1 (P : Params) : Obj := boot_o_1 P
noncomputable def o_2 (P : Params) : Obj := ⟨.none, none, (.dict #[⟨PyData.keyHash P (Str.ofString "type.__subclasses__.Exception.0"), .str (Str.ofString "type.__subclasses__.Exception.0") 2034, (.int 608 0)⟩, ⟨PyData.keyHash P (Str.ofString "type.__subclasses__.Exception.n"), .str (Str.ofString "type.__subclasses__.Exception.n") 2035, (.int 1 0)⟩] 2), #[]⟩
noncomputable def o_3 (P : Params) : Obj := ⟨(.type "dict"), none, (.dict #[⟨PyData.keyHash P (Str.ofString "__name__"), .str (Str.ofString "__name__") 165, (.str (Str.ofString "law_iu0021_01") 2038)⟩, ⟨PyData.keyHash P (Str.ofString "__doc__"), .str (Str.ofString "__doc__") 166, .none⟩, ⟨PyData.keyHash P (Str.ofString "__package__"), .str (Str.ofString "__package__") 167, .none⟩, ⟨PyData.keyHash P (Str.ofString "__loader__"), .str (Str.ofString "__loader__") 168, (.builtin "__main__.__loader__#opaque")⟩, ⟨PyData.keyHash P (Str.ofString "__spec__"), .str (Str.ofString "__spec__") 169, .none⟩, ⟨PyData.keyHash P (Str.ofString "__annotations__"), .str (Str.ofString "__annotations__") 170, (.ref 6)⟩, ⟨PyData.keyHash P (Str.ofString "__builtins__"), .str (Str.ofString "__builtins__") 171, (.ref 4)⟩, ⟨PyData.keyHash P (Str.ofString "__file__"), .str (Str.ofString "__file__") 173, (.str (Str.ofString "/claim/cut.py") 172)⟩, ⟨PyData.keyHash P (Str.ofString "__cached__"), .str (Str.ofString "__cached__") 174, .none⟩, ⟨PyData.keyHash P (Str.ofString "_wall"), .str (Str.ofString "_wall") 193, (.ref 21)⟩, ⟨PyData.keyHash P (Str.ofString "BaseStemmer"), .str (Str.ofString "BaseStemmer") 423, (.ref 197)⟩, ⟨PyData.keyHash P (Str.ofString "Among"), .str (Str.ofString "Among") 458, (.ref 218)⟩, ⟨PyData.keyHash P (Str.ofString "NepaliStemmer"), .str (Str.ofString "NepaliStemmer") 2017, (.ref 596)⟩, ⟨PyData.keyHash P (Str.ofString "lab0"), .str (Str.ofString "lab0") 2037, (.ref 608)⟩, ⟨PyData.keyHash P (Str.ofString "_law_letters"), .str (Str.ofString "_law_letters") 2098, (.ref 612)⟩, ⟨PyData.keyHash P (Str.ofString "_law_case"), .str (Str.ofString "_law_case") 2116, (.ref 613)⟩, ⟨PyData.keyHash P (Str.ofString "_law_held"), .str (Str.ofString "_law_held") 2127, (.ref 614)⟩, ⟨PyData.keyHash P (Str.ofString "_law_last"), .str (Str.ofString "_law_last") 2131, (.ref 615)⟩, ⟨PyData.keyHash P (Str.ofString "_law_long"), .str (Str.ofString "_law_long") 2218, (.ref 652)⟩, ⟨PyData.keyHash P (Str.ofString "_law_cut"), .str (Str.ofString "_law_cut") 2227, (.ref 659)⟩, ⟨PyData.keyHash P (Str.ofString "_law_first"), .str (Str.ofString "_law_first") 2234, (.ref 666)⟩, ⟨PyData.keyHash P (Str.ofString "_law_rest"), .str (Str.ofString "_law_rest") 2243, (.ref 673)⟩, ⟨PyData.keyHash P (Str.ofString "law"), .str (Str.ofString "law") 2249, (.ref 678)⟩] 23), #[]⟩
noncomputable def o_4 (P : Params) : Obj := boot_o_4 P
noncomputable def o_5 (P : Params) : Obj := boot_o_5 P
noncomputable def o_6 (P : Params) : Obj := boot_o_6 P
noncomputable def o_7 (P : Params) : Obj := boot_o_7 P
noncomputable def o_8 (P : Params) : Obj := boot_o_8 P
noncomputable def o_9 (P : Params) : Obj := boot_o_9 P
noncomputable def o_10 (P : Params) : Obj := boot_o_10 P
noncomputable def o_11 (P : Params) : Obj := ⟨(.type "tuple"), none, (.seq #[] 0), #[]⟩
noncomputable def o_12 (P : Params) : Obj := ⟨.none, none, (.fields #[(.int 1 0), (.int 0 0), (.ref 20), (.int 5 0), (.int 0 0), (.ref 27), (.int 143 0), (.int 0 0), (.ref 207), (.int 150 0), (.int 0 0), (.ref 228), (.int 248 0), (.int 0 0), (.ref 604), (.int 256 0), (.int 0 0), (.ref 658), (.int 261 0), (.int 0 0), (.ref 665), (.int 265 0), (.int 0 0), (.ref 672), (.int 271 0), (.int 0 0), (.ref 677)]), #[]⟩
noncomputable def o_13 (P : Params) : Obj := ⟨(.type "code"), none, (.fields #[(.str (Str.ofString "<module>") 182), (.str (Str.ofString "<module>") 183), (.str (Str.ofString "/claim/cut.py") 184), (.int 1 0), (.int 0 0), (.int 0 0), (.int 0 0), (.int 0 0), (.ref 11), (.bool false), (.int 181 0), (.ref 12), .none, .none, .none, .none, (.int 185 0), (.int 1 0), (.str (Str.ofString "/claim/cut.py") 186)]), #[]⟩
noncomputable def o_14 (P : Params) : Obj := ⟨(.type "frame"), none, .plain, #[(some (.ref 13)), (some (.ref 3)), (some (.ref 3)), none, (some (.str (Str.ofString "__main__") 164)), none, (some (.ref 0))]⟩
noncomputable def o_15 (P : Params) : Obj := ⟨(.type "tuple"), none, (.seq #[] 0), #[]⟩
noncomputable def o_16 (P : Params) : Obj := ⟨.none, none, (.fields #[]), #[]⟩
noncomputable def o_17 (P : Params) : Obj := ⟨(.type "tuple"), none, (.seq #[(.str (Str.ofString "k") 190)] 0), #[]⟩
noncomputable def o_18 (P : Params) : Obj := ⟨(.type "tuple"), none, (.seq #[] 0), #[]⟩
noncomputable def o_19 (P : Params) : Obj := ⟨.none, none, (.func ⟨(Str.ofString "_wall"), (Str.ofString "_wall"), ar_0, .stmts bd_0, sc_0, 0, [], .none, .none, .none, .none, none, .none, .none, 0⟩), #[]⟩
noncomputable def o_20 (P : Params) : Obj := ⟨(.type "code"), none, (.fields #[(.str (Str.ofString "_wall") 187), (.str (Str.ofString "_wall") 188), (.str (Str.ofString "/claim/cut.py") 189), (.int 1 0), (.int 1 0), (.int 0 0), (.int 0 0), (.int 3 0), (.ref 15), (.bool true), (.int 181 0), (.ref 16), .none, (.ref 17), (.ref 18), (.ref 19), (.int 191 0), (.int 1 0), (.str (Str.ofString "/claim/cut.py") 192)]), #[]⟩
noncomputable def o_21 (P : Params) : Obj := ⟨(.type "function"), none, (.func ⟨(Str.ofString "_wall"), (Str.ofString "_wall"), ar_0, .stmts bd_0, sc_0, 3, [], .none, .none, .none, (.str (Str.ofString "__main__") 164), none, (.ref 20), .none, 0⟩), #[]⟩
noncomputable def o_22 (P : Params) : Obj := ⟨(.type "tuple"), none, (.seq #[] 0), #[]⟩
noncomputable def o_23 (P : Params) : Obj := ⟨(.type "builtin_function_or_method"), none, (.fields #[(.builtin "type.__prepare__"), (.type "type")]), #[]⟩
noncomputable def o_24 (P : Params) : Obj := ⟨(.type "dict"), none, (.dict #[⟨PyData.keyHash P (Str.ofString "__module__"), .str (Str.ofString "__module__") 203, (.str (Str.ofString "snowballstemmer.basestemmer") 194)⟩, ⟨PyData.keyHash P (Str.ofString "__qualname__"), .str (Str.ofString "__qualname__") 205, (.str (Str.ofString "BaseStemmer") 204)⟩, ⟨PyData.keyHash P (Str.ofString "__firstlineno__"), .str (Str.ofString "__firstlineno__") 207, (.int 5 206)⟩, ⟨PyData.keyHash P (Str.ofString "__init__"), .str (Str.ofString "__init__") 214, (.ref 35)⟩, ⟨PyData.keyHash P (Str.ofString "set_current"), .str (Str.ofString "set_current") 222, (.ref 42)⟩, ⟨PyData.keyHash P (Str.ofString "get_current"), .str (Str.ofString "get_current") 229, (.ref 49)⟩, ⟨PyData.keyHash P (Str.ofString "copy_from"), .str (Str.ofString "copy_from") 237, (.ref 56)⟩, ⟨PyData.keyHash P (Str.ofString "in_grouping"), .str (Str.ofString "in_grouping") 245, (.ref 63)⟩, ⟨PyData.keyHash P (Str.ofString "go_in_grouping"), .str (Str.ofString "go_in_grouping") 253, (.ref 70)⟩, ⟨PyData.keyHash P (Str.ofString "in_grouping_b"), .str (Str.ofString "in_grouping_b") 261, (.ref 77)⟩, ⟨PyData.keyHash P (Str.ofString "go_in_grouping_b"), .str (Str.ofString "go_in_grouping_b") 269, (.ref 84)⟩, ⟨PyData.keyHash P (Str.ofString "out_grouping"), .str (Str.ofString "out_grouping") 277, (.ref 91)⟩, ⟨PyData.keyHash P (Str.ofString "go_out_grouping"), .str (Str.ofString "go_out_grouping") 285, (.ref 98)⟩, ⟨PyData.keyHash P (Str.ofString "out_grouping_b"), .str (Str.ofString "out_grouping_b") 293, (.ref 105)⟩, ⟨PyData.keyHash P (Str.ofString "go_out_grouping_b"), .str (Str.ofString "go_out_grouping_b") 301, (.ref 112)⟩, ⟨PyData.keyHash P (Str.ofString "eq_s"), .str (Str.ofString "eq_s") 309, (.ref 119)⟩, ⟨PyData.keyHash P (Str.ofString "eq_s_b"), .str (Str.ofString "eq_s_b") 317, (.ref 126)⟩, ⟨PyData.keyHash P (Str.ofString "find_among"), .str (Str.ofString "find_among") 325, (.ref 133)⟩, ⟨PyData.keyHash P (Str.ofString "find_among_b"), .str (Str.ofString "find_among_b") 345, (.ref 140)⟩, ⟨PyData.keyHash P (Str.ofString "replace_s"), .str (Str.ofString "replace_s") 356, (.ref 147)⟩, ⟨PyData.keyHash P (Str.ofString "slice_from"), .str (Str.ofString "slice_from") 364, (.ref 154)⟩, ⟨PyData.keyHash P (Str.ofString "slice_del"), .str (Str.ofString "slice_del") 371, (.ref 161)⟩, ⟨PyData.keyHash P (Str.ofString "insert"), .str (Str.ofString "insert") 381, (.ref 168)⟩, ⟨PyData.keyHash P (Str.ofString "slice_to"), .str (Str.ofString "slice_to") 388, (.ref 175)⟩, ⟨PyData.keyHash P (Str.ofString "assign_to"), .str (Str.ofString "assign_to") 395, (.ref 182)⟩, ⟨PyData.keyHash P (Str.ofString "stemWord"), .str (Str.ofString "stemWord") 403, (.ref 189)⟩, ⟨PyData.keyHash P (Str.ofString "stemWords"), .str (Str.ofString "stemWords") 409, (.ref 194)⟩, ⟨PyData.keyHash P (Str.ofString "__static_attributes__"), .str (Str.ofString "__static_attributes__") 416, (.ref 195)⟩] 28), #[]⟩
noncomputable def o_25 (P : Params) : Obj := ⟨(.type "tuple"), none, (.seq #[] 0), #[]⟩
noncomputable def o_26 (P : Params) : Obj := ⟨.none, none, (.fields #[(.int 7 0), (.int 4 0), (.ref 34), (.int 10 0), (.int 4 0), (.ref 41), (.int 18 0), (.int 4 0), (.ref 48), (.int 21 0), (.int 4 0), (.ref 55), (.int 24 0), (.int 4 0), (.ref 62), (.int 27 0), (.int 4 0), (.ref 69), (.int 30 0), (.int 4 0), (.ref 76), (.int 33 0), (.int 4 0), (.ref 83), (.int 36 0), (.int 4 0), (.ref 90), (.int 39 0), (.int 4 0), (.ref 97), (.int 42 0), (.int 4 0), (.ref 104), (.int 45 0), (.int 4 0), (.ref 111), (.int 48 0), (.int 4 0), (.ref 118), (.int 51 0), (.int 4 0), (.ref 125), (.int 57 0), (.int 4 0), (.ref 132), (.int 60 0), (.int 4 0), (.ref 139), (.int 105 0), (.int 4 0), (.ref 146), (.int 115 0), (.int 4 0), (.ref 153), (.int 123 0), (.int 4 0), (.ref 160), (.int 126 0), (.int 4 0), (.ref 167), (.int 129 0), (.int 4 0), (.ref 174), (.int 132 0), (.int 4 0), (.ref 181), (.int 135 0), (.int 4 0), (.ref 188), (.int 140 0), (.int 4 0), (.ref 193)]), #[]⟩
noncomputable def o_27 (P : Params) : Obj := ⟨(.type "code"), none, (.fields #[(.str (Str.ofString "BaseStemmer") 198), (.str (Str.ofString "BaseStemmer") 199), (.str (Str.ofString "/claim/cut.py") 200), (.int 5 0), (.int 0 0), (.int 0 0), (.int 0 0), (.int 0 0), (.ref 25), (.bool false), (.int 181 0), (.ref 26), .none, .none, .none, .none, (.int 201 0), (.int 5 0), (.str (Str.ofString "/claim/cut.py") 202)]), #[]⟩
noncomputable def o_28 (P : Params) : Obj := ⟨(.type "frame"), none, .plain, #[(some (.ref 27)), (some (.ref 3)), (some (.ref 24)), none, (some (.str (Str.ofString "snowballstemmer.basestemmer") 194)), none, (some (.ref 0))]⟩
noncomputable def o_29 (P : Params) : Obj := ⟨(.type "tuple"), none, (.seq #[] 0), #[]⟩
noncomputable def o_30 (P : Params) : Obj := ⟨.none, none, (.fields #[]), #[]⟩
noncomputable def o_31 (P : Params) : Obj := ⟨(.type "tuple"), none, (.seq #[(.str (Str.ofString "self") 211)] 0), #[]⟩
noncomputable def o_32 (P : Params) : Obj := ⟨(.type "tuple"), none, (.seq #[] 0), #[]⟩
noncomputable def o_33 (P : Params) : Obj := ⟨.none, none, (.func ⟨(Str.ofString "__init__"), (Str.ofString "BaseStemmer.__init__"), ar_2_0, .stmts bd_2_0, sc_2_0, 0, [], .none, .none, .none, .none, none, .none, .none, 0⟩), #[]⟩
noncomputable def o_34 (P : Params) : Obj := ⟨(.type "code"), none, (.fields #[(.str (Str.ofString "__init__") 208), (.str (Str.ofString "BaseStemmer.__init__") 209), (.str (Str.ofString "/claim/cut.py") 210), (.int 7 0), (.int 1 0), (.int 0 0), (.int 0 0), (.int 3 0), (.ref 29), (.bool true), (.int 181 0), (.ref 30), .none, (.ref 31), (.ref 32), (.ref 33), (.int 212 0), (.int 7 0), (.str (Str.ofString "/claim/cut.py") 213)]), #[]⟩
noncomputable def o_35 (P : Params) : Obj := ⟨(.type "function"), none, (.func ⟨(Str.ofString "__init__"), (Str.ofString "BaseStemmer.__init__"), ar_2_0, .stmts bd_2_0, sc_2_0, 3, [], .none, .none, .none, (.str (Str.ofString "snowballstemmer.basestemmer") 194), none, (.ref 34), .none, 0⟩), #[]⟩
noncomputable def o_36 (P : Params) : Obj := ⟨(.type "tuple"), none, (.seq #[] 0), #[]⟩
noncomputable def o_37 (P : Params) : Obj := ⟨.none, none, (.fields #[]), #[]⟩
noncomputable def o_38 (P : Params) : Obj := ⟨(.type "tuple"), none, (.seq #[(.str (Str.ofString "self") 218), (.str (Str.ofString "value") 219)] 0), #[]⟩
noncomputable def o_39 (P : Params) : Obj := ⟨(.type "tuple"), none, (.seq #[] 0), #[]⟩
noncomputable def o_40 (P : Params) : Obj := ⟨.none, none, (.func ⟨(Str.ofString "set_current"), (Str.ofString "BaseStemmer.set_current"), ar_2_1, .stmts bd_2_1, sc_2_1, 0, [], .none, .none, .none, .none, none, .none, .none, 0⟩), #[]⟩
noncomputable def o_41 (P : Params) : Obj := ⟨(.type "code"), none, (.fields #[(.str (Str.ofString "set_current") 215), (.str (Str.ofString "BaseStemmer.set_current") 216), (.str (Str.ofString "/claim/cut.py") 217), (.int 10 0), (.int 2 0), (.int 0 0), (.int 0 0), (.int 3 0), (.ref 36), (.bool true), (.int 181 0), (.ref 37), .none, (.ref 38), (.ref 39), (.ref 40), (.int 220 0), (.int 10 0), (.str (Str.ofString "/claim/cut.py") 221)]), #[]⟩
noncomputable def o_42 (P : Params) : Obj := ⟨(.type "function"), none, (.func ⟨(Str.ofString "set_current"), (Str.ofString "BaseStemmer.set_current"), ar_2_1, .stmts bd_2_1, sc_2_1, 3, [], .none, .none, .none, (.str (Str.ofString "snowballstemmer.basestemmer") 194), none, (.ref 41), .none, 0⟩), #[]⟩
noncomputable def o_43 (P : Params) : Obj := ⟨(.type "tuple"), none, (.seq #[] 0), #[]⟩
noncomputable def o_44 (P : Params) : Obj := ⟨.none, none, (.fields #[]), #[]⟩
noncomputable def o_45 (P : Params) : Obj := ⟨(.type "tuple"), none, (.seq #[(.str (Str.ofString "self") 226)] 0), #[]⟩
noncomputable def o_46 (P : Params) : Obj := ⟨(.type "tuple"), none, (.seq #[] 0), #[]⟩
noncomputable def o_47 (P : Params) : Obj := ⟨.none, none, (.func ⟨(Str.ofString "get_current"), (Str.ofString "BaseStemmer.get_current"), ar_2_2, .stmts bd_2_2, sc_2_2, 0, [], .none, .none, .none, .none, none, .none, .none, 0⟩), #[]⟩
noncomputable def o_48 (P : Params) : Obj := ⟨(.type "code"), none, (.fields #[(.str (Str.ofString "get_current") 223), (.str (Str.ofString "BaseStemmer.get_current") 224), (.str (Str.ofString "/claim/cut.py") 225), (.int 18 0), (.int 1 0), (.int 0 0), (.int 0 0), (.int 3 0), (.ref 43), (.bool true), (.int 181 0), (.ref 44), .none, (.ref 45), (.ref 46), (.ref 47), (.int 227 0), (.int 18 0), (.str (Str.ofString "/claim/cut.py") 228)]), #[]⟩
noncomputable def o_49 (P : Params) : Obj := ⟨(.type "function"), none, (.func ⟨(Str.ofString "get_current"), (Str.ofString "BaseStemmer.get_current"), ar_2_2, .stmts bd_2_2, sc_2_2, 3, [], .none, .none, .none, (.str (Str.ofString "snowballstemmer.basestemmer") 194), none, (.ref 48), .none, 0⟩), #[]⟩
noncomputable def o_50 (P : Params) : Obj := ⟨(.type "tuple"), none, (.seq #[] 0), #[]⟩
noncomputable def o_51 (P : Params) : Obj := ⟨.none, none, (.fields #[]), #[]⟩
noncomputable def o_52 (P : Params) : Obj := ⟨(.type "tuple"), none, (.seq #[(.str (Str.ofString "self") 233), (.str (Str.ofString "other") 234)] 0), #[]⟩
noncomputable def o_53 (P : Params) : Obj := ⟨(.type "tuple"), none, (.seq #[] 0), #[]⟩
noncomputable def o_54 (P : Params) : Obj := ⟨.none, none, (.func ⟨(Str.ofString "copy_from"), (Str.ofString "BaseStemmer.copy_from"), ar_2_3, .stmts bd_2_3, sc_2_3, 0, [], .none, .none, .none, .none, none, .none, .none, 0⟩), #[]⟩
noncomputable def o_55 (P : Params) : Obj := ⟨(.type "code"), none, (.fields #[(.str (Str.ofString "copy_from") 230), (.str (Str.ofString "BaseStemmer.copy_from") 231), (.str (Str.ofString "/claim/cut.py") 232), (.int 21 0), (.int 2 0), (.int 0 0), (.int 0 0), (.int 3 0), (.ref 50), (.bool true), (.int 181 0), (.ref 51), .none, (.ref 52), (.ref 53), (.ref 54), (.int 235 0), (.int 21 0), (.str (Str.ofString "/claim/cut.py") 236)]), #[]⟩
noncomputable def o_56 (P : Params) : Obj := ⟨(.type "function"), none, (.func ⟨(Str.ofString "copy_from"), (Str.ofString "BaseStemmer.copy_from"), ar_2_3, .stmts bd_2_3, sc_2_3, 3, [], .none, .none, .none, (.str (Str.ofString "snowballstemmer.basestemmer") 194), none, (.ref 55), .none, 0⟩), #[]⟩
noncomputable def o_57 (P : Params) : Obj := ⟨(.type "tuple"), none, (.seq #[] 0), #[]⟩
noncomputable def o_58 (P : Params) : Obj := ⟨.none, none, (.fields #[]), #[]⟩
noncomputable def o_59 (P : Params) : Obj := ⟨(.type "tuple"), none, (.seq #[(.str (Str.ofString "self") 241), (.str (Str.ofString "s") 242)] 0), #[]⟩
noncomputable def o_60 (P : Params) : Obj := ⟨(.type "tuple"), none, (.seq #[] 0), #[]⟩
noncomputable def o_61 (P : Params) : Obj := ⟨.none, none, (.func ⟨(Str.ofString "in_grouping"), (Str.ofString "BaseStemmer.in_grouping"), ar_2_4, .stmts bd_2_4, sc_2_4, 0, [], .none, .none, .none, .none, none, .none, .none, 0⟩), #[]⟩
noncomputable def o_62 (P : Params) : Obj := ⟨(.type "code"), none, (.fields #[(.str (Str.ofString "in_grouping") 238), (.str (Str.ofString "BaseStemmer.in_grouping") 239), (.str (Str.ofString "/claim/cut.py") 240), (.int 24 0), (.int 2 0), (.int 0 0), (.int 0 0), (.int 3 0), (.ref 57), (.bool true), (.int 181 0), (.ref 58), .none, (.ref 59), (.ref 60), (.ref 61), (.int 243 0), (.int 24 0), (.str (Str.ofString "/claim/cut.py") 244)]), #[]⟩
noncomputable def o_63 (P : Params) : Obj := ⟨(.type "function"), none, (.func ⟨(Str.ofString "in_grouping"), (Str.ofString "BaseStemmer.in_grouping"), ar_2_4, .stmts bd_2_4, sc_2_4, 3, [], .none, .none, .none, (.str (Str.ofString "snowballstemmer.basestemmer") 194), none, (.ref 62), .none, 0⟩), #[]⟩
noncomputable def o_64 (P : Params) : Obj := ⟨(.type "tuple"), none, (.seq #[] 0), #[]⟩
noncomputable def o_65 (P : Params) : Obj := ⟨.none, none, (.fields #[]), #[]⟩
noncomputable def o_66 (P : Params) : Obj := ⟨(.type "tuple"), none, (.seq #[(.str (Str.ofString "self") 249), (.str (Str.ofString "s") 250)] 0), #[]⟩
noncomputable def o_67 (P : Params) : Obj := ⟨(.type "tuple"), none, (.seq #[] 0), #[]⟩
noncomputable def o_68 (P : Params) : Obj := ⟨.none, none, (.func ⟨(Str.ofString "go_in_grouping"), (Str.ofString "BaseStemmer.go_in_grouping"), ar_2_5, .stmts bd_2_5, sc_2_5, 0, [], .none, .none, .none, .none, none, .none, .none, 0⟩), #[]⟩
noncomputable def o_69 (P : Params) : Obj := ⟨(.type "code"), none, (.fields #[(.str (Str.ofString "go_in_grouping") 246), (.str (Str.ofString "BaseStemmer.go_in_grouping") 247), (.str (Str.ofString "/claim/cut.py") 248), (.int 27 0), (.int 2 0), (.int 0 0), (.int 0 0), (.int 3 0), (.ref 64), (.bool true), (.int 181 0), (.ref 65), .none, (.ref 66), (.ref 67), (.ref 68), (.int 251 0), (.int 27 0), (.str (Str.ofString "/claim/cut.py") 252)]), #[]⟩
noncomputable def o_70 (P : Params) : Obj := ⟨(.type "function"), none, (.func ⟨(Str.ofString "go_in_grouping"), (Str.ofString "BaseStemmer.go_in_grouping"), ar_2_5, .stmts bd_2_5, sc_2_5, 3, [], .none, .none, .none, (.str (Str.ofString "snowballstemmer.basestemmer") 194), none, (.ref 69), .none, 0⟩), #[]⟩
noncomputable def o_71 (P : Params) : Obj := ⟨(.type "tuple"), none, (.seq #[] 0), #[]⟩
noncomputable def o_72 (P : Params) : Obj := ⟨.none, none, (.fields #[]), #[]⟩
noncomputable def o_73 (P : Params) : Obj := ⟨(.type "tuple"), none, (.seq #[(.str (Str.ofString "self") 257), (.str (Str.ofString "s") 258)] 0), #[]⟩
noncomputable def o_74 (P : Params) : Obj := ⟨(.type "tuple"), none, (.seq #[] 0), #[]⟩
noncomputable def o_75 (P : Params) : Obj := ⟨.none, none, (.func ⟨(Str.ofString "in_grouping_b"), (Str.ofString "BaseStemmer.in_grouping_b"), ar_2_6, .stmts bd_2_6, sc_2_6, 0, [], .none, .none, .none, .none, none, .none, .none, 0⟩), #[]⟩
noncomputable def o_76 (P : Params) : Obj := ⟨(.type "code"), none, (.fields #[(.str (Str.ofString "in_grouping_b") 254), (.str (Str.ofString "BaseStemmer.in_grouping_b") 255), (.str (Str.ofString "/claim/cut.py") 256), (.int 30 0), (.int 2 0), (.int 0 0), (.int 0 0), (.int 3 0), (.ref 71), (.bool true), (.int 181 0), (.ref 72), .none, (.ref 73), (.ref 74), (.ref 75), (.int 259 0), (.int 30 0), (.str (Str.ofString "/claim/cut.py") 260)]), #[]⟩
noncomputable def o_77 (P : Params) : Obj := ⟨(.type "function"), none, (.func ⟨(Str.ofString "in_grouping_b"), (Str.ofString "BaseStemmer.in_grouping_b"), ar_2_6, .stmts bd_2_6, sc_2_6, 3, [], .none, .none, .none, (.str (Str.ofString "snowballstemmer.basestemmer") 194), none, (.ref 76), .none, 0⟩), #[]⟩
noncomputable def o_78 (P : Params) : Obj := ⟨(.type "tuple"), none, (.seq #[] 0), #[]⟩
noncomputable def o_79 (P : Params) : Obj := ⟨.none, none, (.fields #[]), #[]⟩
noncomputable def o_80 (P : Params) : Obj := ⟨(.type "tuple"), none, (.seq #[(.str (Str.ofString "self") 265), (.str (Str.ofString "s") 266)] 0), #[]⟩
noncomputable def o_81 (P : Params) : Obj := ⟨(.type "tuple"), none, (.seq #[] 0), #[]⟩
noncomputable def o_82 (P : Params) : Obj := ⟨.none, none, (.func ⟨(Str.ofString "go_in_grouping_b"), (Str.ofString "BaseStemmer.go_in_grouping_b"), ar_2_7, .stmts bd_2_7, sc_2_7, 0, [], .none, .none, .none, .none, none, .none, .none, 0⟩), #[]⟩
noncomputable def o_83 (P : Params) : Obj := ⟨(.type "code"), none, (.fields #[(.str (Str.ofString "go_in_grouping_b") 262), (.str (Str.ofString "BaseStemmer.go_in_grouping_b") 263), (.str (Str.ofString "/claim/cut.py") 264), (.int 33 0), (.int 2 0), (.int 0 0), (.int 0 0), (.int 3 0), (.ref 78), (.bool true), (.int 181 0), (.ref 79), .none, (.ref 80), (.ref 81), (.ref 82), (.int 267 0), (.int 33 0), (.str (Str.ofString "/claim/cut.py") 268)]), #[]⟩
noncomputable def o_84 (P : Params) : Obj := ⟨(.type "function"), none, (.func ⟨(Str.ofString "go_in_grouping_b"), (Str.ofString "BaseStemmer.go_in_grouping_b"), ar_2_7, .stmts bd_2_7, sc_2_7, 3, [], .none, .none, .none, (.str (Str.ofString "snowballstemmer.basestemmer") 194), none, (.ref 83), .none, 0⟩), #[]⟩
noncomputable def o_85 (P : Params) : Obj := ⟨(.type "tuple"), none, (.seq #[] 0), #[]⟩
noncomputable def o_86 (P : Params) : Obj := ⟨.none, none, (.fields #[]), #[]⟩
noncomputable def o_87 (P : Params) : Obj := ⟨(.type "tuple"), none, (.seq #[(.str (Str.ofString "self") 273), (.str (Str.ofString "s") 274)] 0), #[]⟩
noncomputable def o_88 (P : Params) : Obj := ⟨(.type "tuple"), none, (.seq #[] 0), #[]⟩
noncomputable def o_89 (P : Params) : Obj := ⟨.none, none, (.func ⟨(Str.ofString "out_grouping"), (Str.ofString "BaseStemmer.out_grouping"), ar_2_8, .stmts bd_2_8, sc_2_8, 0, [], .none, .none, .none, .none, none, .none, .none, 0⟩), #[]⟩
noncomputable def o_90 (P : Params) : Obj := ⟨(.type "code"), none, (.fields #[(.str (Str.ofString "out_grouping") 270), (.str (Str.ofString "BaseStemmer.out_grouping") 271), (.str (Str.ofString "/claim/cut.py") 272), (.int 36 0), (.int 2 0), (.int 0 0), (.int 0 0), (.int 3 0), (.ref 85), (.bool true), (.int 181 0), (.ref 86), .none, (.ref 87), (.ref 88), (.ref 89), (.int 275 0), (.int 36 0), (.str (Str.ofString "/claim/cut.py") 276)]), #[]⟩
noncomputable def o_91 (P : Params) : Obj := ⟨(.type "function"), none, (.func ⟨(Str.ofString "out_grouping"), (Str.ofString "BaseStemmer.out_grouping"), ar_2_8, .stmts bd_2_8, sc_2_8, 3, [], .none, .none, .none, (.str (Str.ofString "snowballstemmer.basestemmer") 194), none, (.ref 90), .none, 0⟩), #[]⟩
noncomputable def o_92 (P : Params) : Obj := ⟨(.type "tuple"), none, (.seq #[] 0), #[]⟩
noncomputable def o_93 (P : Params) : Obj := ⟨.none, none, (.fields #[]), #[]⟩
noncomputable def o_94 (P : Params) : Obj := ⟨(.type "tuple"), none, (.seq #[(.str (Str.ofString "self") 281), (.str (Str.ofString "s") 282)] 0), #[]⟩
noncomputable def o_95 (P : Params) : Obj := ⟨(.type "tuple"), none, (.seq #[] 0), #[]⟩
noncomputable def o_96 (P : Params) : Obj := ⟨.none, none, (.func ⟨(Str.ofString "go_out_grouping"), (Str.ofString "BaseStemmer.go_out_grouping"), ar_2_9, .stmts bd_2_9, sc_2_9, 0, [], .none, .none, .none, .none, none, .none, .none, 0⟩), #[]⟩
noncomputable def o_97 (P : Params) : Obj := ⟨(.type "code"), none, (.fields #[(.str (Str.ofString "go_out_grouping") 278), (.str (Str.ofString "BaseStemmer.go_out_grouping") 279), (.str (Str.ofString "/claim/cut.py") 280), (.int 39 0), (.int 2 0), (.int 0 0), (.int 0 0), (.int 3 0), (.ref 92), (.bool true), (.int 181 0), (.ref 93), .none, (.ref 94), (.ref 95), (.ref 96), (.int 283 0), (.int 39 0), (.str (Str.ofString "/claim/cut.py") 284)]), #[]⟩
noncomputable def o_98 (P : Params) : Obj := ⟨(.type "function"), none, (.func ⟨(Str.ofString "go_out_grouping"), (Str.ofString "BaseStemmer.go_out_grouping"), ar_2_9, .stmts bd_2_9, sc_2_9, 3, [], .none, .none, .none, (.str (Str.ofString "snowballstemmer.basestemmer") 194), none, (.ref 97), .none, 0⟩), #[]⟩
noncomputable def o_99 (P : Params) : Obj := ⟨(.type "tuple"), none, (.seq #[] 0), #[]⟩
noncomputable def o_100 (P : Params) : Obj := ⟨.none, none, (.fields #[]), #[]⟩
noncomputable def o_101 (P : Params) : Obj := ⟨(.type "tuple"), none, (.seq #[(.str (Str.ofString "self") 289), (.str (Str.ofString "s") 290)] 0), #[]⟩
noncomputable def o_102 (P : Params) : Obj := ⟨(.type "tuple"), none, (.seq #[] 0), #[]⟩
noncomputable def o_103 (P : Params) : Obj := ⟨.none, none, (.func ⟨(Str.ofString "out_grouping_b"), (Str.ofString "BaseStemmer.out_grouping_b"), ar_2_10, .stmts bd_2_10, sc_2_10, 0, [], .none, .none, .none, .none, none, .none, .none, 0⟩), #[]⟩
noncomputable def o_104 (P : Params) : Obj := ⟨(.type "code"), none, (.fields #[(.str (Str.ofString "out_grouping_b") 286), (.str (Str.ofString "BaseStemmer.out_grouping_b") 287), (.str (Str.ofString "/claim/cut.py") 288), (.int 42 0), (.int 2 0), (.int 0 0), (.int 0 0), (.int 3 0), (.ref 99), (.bool true), (.int 181 0), (.ref 100), .none, (.ref 101), (.ref 102), (.ref 103), (.int 291 0), (.int 42 0), (.str (Str.ofString "/claim/cut.py") 292)]), #[]⟩
noncomputable def o_105 (P : Params) : Obj := ⟨(.type "function"), none, (.func ⟨(Str.ofString "out_grouping_b"), (Str.ofString "BaseStemmer.out_grouping_b"), ar_2_10, .stmts bd_2_10, sc_2_10, 3, [], .none, .none, .none, (.str (Str.ofString "snowballstemmer.basestemmer") 194), none, (.ref 104), .none, 0⟩), #[]⟩
noncomputable def o_106 (P : Params) : Obj := ⟨(.type "tuple"), none, (.seq #[] 0), #[]⟩
noncomputable def o_107 (P : Params) : Obj := ⟨.none, none, (.fields #[]), #[]⟩
noncomputable def o_108 (P : Params) : Obj := ⟨(.type "tuple"), none, (.seq #[(.str (Str.ofString "self") 297), (.str (Str.ofString "s") 298)] 0), #[]⟩
noncomputable def o_109 (P : Params) : Obj := ⟨(.type "tuple"), none, (.seq #[] 0), #[]⟩
noncomputable def o_110 (P : Params) : Obj := ⟨.none, none, (.func ⟨(Str.ofString "go_out_grouping_b"), (Str.ofString "BaseStemmer.go_out_grouping_b"), ar_2_11, .stmts bd_2_11, sc_2_11, 0, [], .none, .none, .none, .none, none, .none, .none, 0⟩), #[]⟩
noncomputable def o_111 (P : Params) : Obj := ⟨(.type "code"), none, (.fields #[(.str (Str.ofString "go_out_grouping_b") 294), (.str (Str.ofString "BaseStemmer.go_out_grouping_b") 295), (.str (Str.ofString "/claim/cut.py") 296), (.int 45 0), (.int 2 0), (.int 0 0), (.int 0 0), (.int 3 0), (.ref 106), (.bool true), (.int 181 0), (.ref 107), .none, (.ref 108), (.ref 109), (.ref 110), (.int 299 0), (.int 45 0), (.str (Str.ofString "/claim/cut.py") 300)]), #[]⟩
noncomputable def o_112 (P : Params) : Obj := ⟨(.type "function"), none, (.func ⟨(Str.ofString "go_out_grouping_b"), (Str.ofString "BaseStemmer.go_out_grouping_b"), ar_2_11, .stmts bd_2_11, sc_2_11, 3, [], .none, .none, .none, (.str (Str.ofString "snowballstemmer.basestemmer") 194), none, (.ref 111), .none, 0⟩), #[]⟩
noncomputable def o_113 (P : Params) : Obj := ⟨(.type "tuple"), none, (.seq #[] 0), #[]⟩
noncomputable def o_114 (P : Params) : Obj := ⟨.none, none, (.fields #[]), #[]⟩
noncomputable def o_115 (P : Params) : Obj := ⟨(.type "tuple"), none, (.seq #[(.str (Str.ofString "self") 305), (.str (Str.ofString "s") 306)] 0), #[]⟩
noncomputable def o_116 (P : Params) : Obj := ⟨(.type "tuple"), none, (.seq #[] 0), #[]⟩
noncomputable def o_117 (P : Params) : Obj := ⟨.none, none, (.func ⟨(Str.ofString "eq_s"), (Str.ofString "BaseStemmer.eq_s"), ar_2_12, .stmts bd_2_12, sc_2_12, 0, [], .none, .none, .none, .none, none, .none, .none, 0⟩), #[]⟩
noncomputable def o_118 (P : Params) : Obj := ⟨(.type "code"), none, (.fields #[(.str (Str.ofString "eq_s") 302), (.str (Str.ofString "BaseStemmer.eq_s") 303), (.str (Str.ofString "/claim/cut.py") 304), (.int 48 0), (.int 2 0), (.int 0 0), (.int 0 0), (.int 3 0), (.ref 113), (.bool true), (.int 181 0), (.ref 114), .none, (.ref 115), (.ref 116), (.ref 117), (.int 307 0), (.int 48 0), (.str (Str.ofString "/claim/cut.py") 308)]), #[]⟩
noncomputable def o_119 (P : Params) : Obj := ⟨(.type "function"), none, (.func ⟨(Str.ofString "eq_s"), (Str.ofString "BaseStemmer.eq_s"), ar_2_12, .stmts bd_2_12, sc_2_12, 3, [], .none, .none, .none, (.str (Str.ofString "snowballstemmer.basestemmer") 194), none, (.ref 118), .none, 0⟩), #[]⟩
noncomputable def o_120 (P : Params) : Obj := ⟨(.type "tuple"), none, (.seq #[] 0), #[]⟩
noncomputable def o_121 (P : Params) : Obj := ⟨.none, none, (.fields #[]), #[]⟩
noncomputable def o_122 (P : Params) : Obj := ⟨(.type "tuple"), none, (.seq #[(.str (Str.ofString "self") 313), (.str (Str.ofString "s") 314)] 0), #[]⟩
noncomputable def o_123 (P : Params) : Obj := ⟨(.type "tuple"), none, (.seq #[] 0), #[]⟩
noncomputable def o_124 (P : Params) : Obj := ⟨.none, none, (.func ⟨(Str.ofString "eq_s_b"), (Str.ofString "BaseStemmer.eq_s_b"), ar_2_13, .stmts bd_2_13, sc_2_13, 0, [], .none, .none, .none, .none, none, .none, .none, 0⟩), #[]⟩
noncomputable def o_125 (P : Params) : Obj := ⟨(.type "code"), none, (.fields #[(.str (Str.ofString "eq_s_b") 310), (.str (Str.ofString "BaseStemmer.eq_s_b") 311), (.str (Str.ofString "/claim/cut.py") 312), (.int 51 0), (.int 2 0), (.int 0 0), (.int 0 0), (.int 3 0), (.ref 120), (.bool true), (.int 181 0), (.ref 121), .none, (.ref 122), (.ref 123), (.ref 124), (.int 315 0), (.int 51 0), (.str (Str.ofString "/claim/cut.py") 316)]), #[]⟩
noncomputable def o_126 (P : Params) : Obj := ⟨(.type "function"), none, (.func ⟨(Str.ofString "eq_s_b"), (Str.ofString "BaseStemmer.eq_s_b"), ar_2_13, .stmts bd_2_13, sc_2_13, 3, [], .none, .none, .none, (.str (Str.ofString "snowballstemmer.basestemmer") 194), none, (.ref 125), .none, 0⟩), #[]⟩
noncomputable def o_127 (P : Params) : Obj := ⟨(.type "tuple"), none, (.seq #[] 0), #[]⟩
noncomputable def o_128 (P : Params) : Obj := ⟨.none, none, (.fields #[]), #[]⟩
noncomputable def o_129 (P : Params) : Obj := ⟨(.type "tuple"), none, (.seq #[(.str (Str.ofString "self") 321), (.str (Str.ofString "v") 322)] 0), #[]⟩
noncomputable def o_130 (P : Params) : Obj := ⟨(.type "tuple"), none, (.seq #[] 0), #[]⟩
noncomputable def o_131 (P : Params) : Obj := ⟨.none, none, (.func ⟨(Str.ofString "find_among"), (Str.ofString "BaseStemmer.find_among"), ar_2_14, .stmts bd_2_14, sc_2_14, 0, [], .none, .none, .none, .none, none, .none, .none, 0⟩), #[]⟩
noncomputable def o_132 (P : Params) : Obj := ⟨(.type "code"), none, (.fields #[(.str (Str.ofString "find_among") 318), (.str (Str.ofString "BaseStemmer.find_among") 319), (.str (Str.ofString "/claim/cut.py") 320), (.int 57 0), (.int 2 0), (.int 0 0), (.int 0 0), (.int 3 0), (.ref 127), (.bool true), (.int 181 0), (.ref 128), .none, (.ref 129), (.ref 130), (.ref 131), (.int 323 0), (.int 57 0), (.str (Str.ofString "/claim/cut.py") 324)]), #[]⟩
noncomputable def o_133 (P : Params) : Obj := ⟨(.type "function"), none, (.func ⟨(Str.ofString "find_among"), (Str.ofString "BaseStemmer.find_among"), ar_2_14, .stmts bd_2_14, sc_2_14, 3, [], .none, .none, .none, (.str (Str.ofString "snowballstemmer.basestemmer") 194), none, (.ref 132), .none, 0⟩), #[]⟩
noncomputable def o_134 (P : Params) : Obj := ⟨(.type "tuple"), none, (.seq #[] 0), #[]⟩
noncomputable def o_135 (P : Params) : Obj := ⟨.none, none, (.fields #[]), #[]⟩
noncomputable def o_136 (P : Params) : Obj := ⟨(.type "tuple"), none, (.seq #[(.str (Str.ofString "self") 329), (.str (Str.ofString "v") 330), (.str (Str.ofString "i") 331), (.str (Str.ofString "j") 332), (.str (Str.ofString "c") 333), (.str (Str.ofString "lb") 334), (.str (Str.ofString "common_i") 335), (.str (Str.ofString "common_j") 336), (.str (Str.ofString "first_key_inspected") 337), (.str (Str.ofString "k") 338), (.str (Str.ofString "diff") 339), (.str (Str.ofString "common") 340), (.str (Str.ofString "w") 341), (.str (Str.ofString "i2") 342)] 0), #[]⟩
noncomputable def o_137 (P : Params) : Obj := ⟨(.type "tuple"), none, (.seq #[] 0), #[]⟩
noncomputable def o_138 (P : Params) : Obj := ⟨.none, none, (.func ⟨(Str.ofString "find_among_b"), (Str.ofString "BaseStemmer.find_among_b"), ar_2_15, .stmts bd_2_15, sc_2_15, 0, [], .none, .none, .none, .none, none, .none, .none, 0⟩), #[]⟩
noncomputable def o_139 (P : Params) : Obj := ⟨(.type "code"), none, (.fields #[(.str (Str.ofString "find_among_b") 326), (.str (Str.ofString "BaseStemmer.find_among_b") 327), (.str (Str.ofString "/claim/cut.py") 328), (.int 60 0), (.int 2 0), (.int 0 0), (.int 0 0), (.int 3 0), (.ref 134), (.bool true), (.int 181 0), (.ref 135), .none, (.ref 136), (.ref 137), (.ref 138), (.int 343 0), (.int 60 0), (.str (Str.ofString "/claim/cut.py") 344)]), #[]⟩
noncomputable def o_140 (P : Params) : Obj := ⟨(.type "function"), none, (.func ⟨(Str.ofString "find_among_b"), (Str.ofString "BaseStemmer.find_among_b"), ar_2_15, .stmts bd_2_15, sc_2_15, 3, [], .none, .none, .none, (.str (Str.ofString "snowballstemmer.basestemmer") 194), none, (.ref 139), .none, 0⟩), #[]⟩
noncomputable def o_141 (P : Params) : Obj := ⟨(.type "tuple"), none, (.seq #[] 0), #[]⟩
noncomputable def o_142 (P : Params) : Obj := ⟨.none, none, (.fields #[]), #[]⟩
noncomputable def o_143 (P : Params) : Obj := ⟨(.type "tuple"), none, (.seq #[(.str (Str.ofString "self") 349), (.str (Str.ofString "c_bra") 350), (.str (Str.ofString "c_ket") 351), (.str (Str.ofString "s") 352), (.str (Str.ofString "adjustment") 353)] 0), #[]⟩
noncomputable def o_144 (P : Params) : Obj := ⟨(.type "tuple"), none, (.seq #[] 0), #[]⟩
noncomputable def o_145 (P : Params) : Obj := ⟨.none, none, (.func ⟨(Str.ofString "replace_s"), (Str.ofString "BaseStemmer.replace_s"), ar_2_16, .stmts bd_2_16, sc_2_16, 0, [], .none, .none, .none, .none, none, .none, .none, 0⟩), #[]⟩
noncomputable def o_146 (P : Params) : Obj := ⟨(.type "code"), none, (.fields #[(.str (Str.ofString "replace_s") 346), (.str (Str.ofString "BaseStemmer.replace_s") 347), (.str (Str.ofString "/claim/cut.py") 348), (.int 105 0), (.int 4 0), (.int 0 0), (.int 0 0), (.int 3 0), (.ref 141), (.bool true), (.int 181 0), (.ref 142), .none, (.ref 143), (.ref 144), (.ref 145), (.int 354 0), (.int 105 0), (.str (Str.ofString "/claim/cut.py") 355)]), #[]⟩
noncomputable def o_147 (P : Params) : Obj := ⟨(.type "function"), none, (.func ⟨(Str.ofString "replace_s"), (Str.ofString "BaseStemmer.replace_s"), ar_2_16, .stmts bd_2_16, sc_2_16, 3, [], .none, .none, .none, (.str (Str.ofString "snowballstemmer.basestemmer") 194), none, (.ref 146), .none, 0⟩), #[]⟩
noncomputable def o_148 (P : Params) : Obj := ⟨(.type "tuple"), none, (.seq #[] 0), #[]⟩
noncomputable def o_149 (P : Params) : Obj := ⟨.none, none, (.fields #[]), #[]⟩
noncomputable def o_150 (P : Params) : Obj := ⟨(.type "tuple"), none, (.seq #[(.str (Str.ofString "self") 360), (.str (Str.ofString "s") 361)] 0), #[]⟩
noncomputable def o_151 (P : Params) : Obj := ⟨(.type "tuple"), none, (.seq #[] 0), #[]⟩
noncomputable def o_152 (P : Params) : Obj := ⟨.none, none, (.func ⟨(Str.ofString "slice_from"), (Str.ofString "BaseStemmer.slice_from"), ar_2_17, .stmts bd_2_17, sc_2_17, 0, [], .none, .none, .none, .none, none, .none, .none, 0⟩), #[]⟩
noncomputable def o_153 (P : Params) : Obj := ⟨(.type "code"), none, (.fields #[(.str (Str.ofString "slice_from") 357), (.str (Str.ofString "BaseStemmer.slice_from") 358), (.str (Str.ofString "/claim/cut.py") 359), (.int 115 0), (.int 2 0), (.int 0 0), (.int 0 0), (.int 3 0), (.ref 148), (.bool true), (.int 181 0), (.ref 149), .none, (.ref 150), (.ref 151), (.ref 152), (.int 362 0), (.int 115 0), (.str (Str.ofString "/claim/cut.py") 363)]), #[]⟩
noncomputable def o_154 (P : Params) : Obj := ⟨(.type "function"), none, (.func ⟨(Str.ofString "slice_from"), (Str.ofString "BaseStemmer.slice_from"), ar_2_17, .stmts bd_2_17, sc_2_17, 3, [], .none, .none, .none, (.str (Str.ofString "snowballstemmer.basestemmer") 194), none, (.ref 153), .none, 0⟩), #[]⟩
noncomputable def o_155 (P : Params) : Obj := ⟨(.type "tuple"), none, (.seq #[] 0), #[]⟩
noncomputable def o_156 (P : Params) : Obj := ⟨.none, none, (.fields #[]), #[]⟩
noncomputable def o_157 (P : Params) : Obj := ⟨(.type "tuple"), none, (.seq #[(.str (Str.ofString "self") 368)] 0), #[]⟩
noncomputable def o_158 (P : Params) : Obj := ⟨(.type "tuple"), none, (.seq #[] 0), #[]⟩
noncomputable def o_159 (P : Params) : Obj := ⟨.none, none, (.func ⟨(Str.ofString "slice_del"), (Str.ofString "BaseStemmer.slice_del"), ar_2_18, .stmts bd_2_18, sc_2_18, 0, [], .none, .none, .none, .none, none, .none, .none, 0⟩), #[]⟩
noncomputable def o_160 (P : Params) : Obj := ⟨(.type "code"), none, (.fields #[(.str (Str.ofString "slice_del") 365), (.str (Str.ofString "BaseStemmer.slice_del") 366), (.str (Str.ofString "/claim/cut.py") 367), (.int 123 0), (.int 1 0), (.int 0 0), (.int 0 0), (.int 3 0), (.ref 155), (.bool true), (.int 181 0), (.ref 156), .none, (.ref 157), (.ref 158), (.ref 159), (.int 369 0), (.int 123 0), (.str (Str.ofString "/claim/cut.py") 370)]), #[]⟩
noncomputable def o_161 (P : Params) : Obj := ⟨(.type "function"), none, (.func ⟨(Str.ofString "slice_del"), (Str.ofString "BaseStemmer.slice_del"), ar_2_18, .stmts bd_2_18, sc_2_18, 3, [], .none, .none, .none, (.str (Str.ofString "snowballstemmer.basestemmer") 194), none, (.ref 160), .none, 0⟩), #[]⟩
noncomputable def o_162 (P : Params) : Obj := ⟨(.type "tuple"), none, (.seq #[] 0), #[]⟩
noncomputable def o_163 (P : Params) : Obj := ⟨.none, none, (.fields #[]), #[]⟩
noncomputable def o_164 (P : Params) : Obj := ⟨(.type "tuple"), none, (.seq #[(.str (Str.ofString "self") 375), (.str (Str.ofString "c_bra") 376), (.str (Str.ofString "c_ket") 377), (.str (Str.ofString "s") 378)] 0), #[]⟩
noncomputable def o_165 (P : Params) : Obj := ⟨(.type "tuple"), none, (.seq #[] 0), #[]⟩
noncomputable def o_166 (P : Params) : Obj := ⟨.none, none, (.func ⟨(Str.ofString "insert"), (Str.ofString "BaseStemmer.insert"), ar_2_19, .stmts bd_2_19, sc_2_19, 0, [], .none, .none, .none, .none, none, .none, .none, 0⟩), #[]⟩
noncomputable def o_167 (P : Params) : Obj := ⟨(.type "code"), none, (.fields #[(.str (Str.ofString "insert") 372), (.str (Str.ofString "BaseStemmer.insert") 373), (.str (Str.ofString "/claim/cut.py") 374), (.int 126 0), (.int 4 0), (.int 0 0), (.int 0 0), (.int 3 0), (.ref 162), (.bool true), (.int 181 0), (.ref 163), .none, (.ref 164), (.ref 165), (.ref 166), (.int 379 0), (.int 126 0), (.str (Str.ofString "/claim/cut.py") 380)]), #[]⟩
noncomputable def o_168 (P : Params) : Obj := ⟨(.type "function"), none, (.func ⟨(Str.ofString "insert"), (Str.ofString "BaseStemmer.insert"), ar_2_19, .stmts bd_2_19, sc_2_19, 3, [], .none, .none, .none, (.str (Str.ofString "snowballstemmer.basestemmer") 194), none, (.ref 167), .none, 0⟩), #[]⟩
noncomputable def o_169 (P : Params) : Obj := ⟨(.type "tuple"), none, (.seq #[] 0), #[]⟩
noncomputable def o_170 (P : Params) : Obj := ⟨.none, none, (.fields #[]), #[]⟩
noncomputable def o_171 (P : Params) : Obj := ⟨(.type "tuple"), none, (.seq #[(.str (Str.ofString "self") 385)] 0), #[]⟩
noncomputable def o_172 (P : Params) : Obj := ⟨(.type "tuple"), none, (.seq #[] 0), #[]⟩
noncomputable def o_173 (P : Params) : Obj := ⟨.none, none, (.func ⟨(Str.ofString "slice_to"), (Str.ofString "BaseStemmer.slice_to"), ar_2_20, .stmts bd_2_20, sc_2_20, 0, [], .none, .none, .none, .none, none, .none, .none, 0⟩), #[]⟩
noncomputable def o_174 (P : Params) : Obj := ⟨(.type "code"), none, (.fields #[(.str (Str.ofString "slice_to") 382), (.str (Str.ofString "BaseStemmer.slice_to") 383), (.str (Str.ofString "/claim/cut.py") 384), (.int 129 0), (.int 1 0), (.int 0 0), (.int 0 0), (.int 3 0), (.ref 169), (.bool true), (.int 181 0), (.ref 170), .none, (.ref 171), (.ref 172), (.ref 173), (.int 386 0), (.int 129 0), (.str (Str.ofString "/claim/cut.py") 387)]), #[]⟩
noncomputable def o_175 (P : Params) : Obj := ⟨(.type "function"), none, (.func ⟨(Str.ofString "slice_to"), (Str.ofString "BaseStemmer.slice_to"), ar_2_20, .stmts bd_2_20, sc_2_20, 3, [], .none, .none, .none, (.str (Str.ofString "snowballstemmer.basestemmer") 194), none, (.ref 174), .none, 0⟩), #[]⟩
noncomputable def o_176 (P : Params) : Obj := ⟨(.type "tuple"), none, (.seq #[] 0), #[]⟩
noncomputable def o_177 (P : Params) : Obj := ⟨.none, none, (.fields #[]), #[]⟩
noncomputable def o_178 (P : Params) : Obj := ⟨(.type "tuple"), none, (.seq #[(.str (Str.ofString "self") 392)] 0), #[]⟩
noncomputable def o_179 (P : Params) : Obj := ⟨(.type "tuple"), none, (.seq #[] 0), #[]⟩
noncomputable def o_180 (P : Params) : Obj := ⟨.none, none, (.func ⟨(Str.ofString "assign_to"), (Str.ofString "BaseStemmer.assign_to"), ar_2_21, .stmts bd_2_21, sc_2_21, 0, [], .none, .none, .none, .none, none, .none, .none, 0⟩), #[]⟩
noncomputable def o_181 (P : Params) : Obj := ⟨(.type "code"), none, (.fields #[(.str (Str.ofString "assign_to") 389), (.str (Str.ofString "BaseStemmer.assign_to") 390), (.str (Str.ofString "/claim/cut.py") 391), (.int 132 0), (.int 1 0), (.int 0 0), (.int 0 0), (.int 3 0), (.ref 176), (.bool true), (.int 181 0), (.ref 177), .none, (.ref 178), (.ref 179), (.ref 180), (.int 393 0), (.int 132 0), (.str (Str.ofString "/claim/cut.py") 394)]), #[]⟩
noncomputable def o_182 (P : Params) : Obj := ⟨(.type "function"), none, (.func ⟨(Str.ofString "assign_to"), (Str.ofString "BaseStemmer.assign_to"), ar_2_21, .stmts bd_2_21, sc_2_21, 3, [], .none, .none, .none, (.str (Str.ofString "snowballstemmer.basestemmer") 194), none, (.ref 181), .none, 0⟩), #[]⟩
noncomputable def o_183 (P : Params) : Obj := ⟨(.type "tuple"), none, (.seq #[] 0), #[]⟩
noncomputable def o_184 (P : Params) : Obj := ⟨.none, none, (.fields #[]), #[]⟩
noncomputable def o_185 (P : Params) : Obj := ⟨(.type "tuple"), none, (.seq #[(.str (Str.ofString "self") 399), (.str (Str.ofString "word") 400)] 0), #[]⟩
noncomputable def o_186 (P : Params) : Obj := ⟨(.type "tuple"), none, (.seq #[] 0), #[]⟩
noncomputable def o_187 (P : Params) : Obj := ⟨.none, none, (.func ⟨(Str.ofString "stemWord"), (Str.ofString "BaseStemmer.stemWord"), ar_2_22, .stmts bd_2_22, sc_2_22, 0, [], .none, .none, .none, .none, none, .none, .none, 0⟩), #[]⟩
noncomputable def o_188 (P : Params) : Obj := ⟨(.type "code"), none, (.fields #[(.str (Str.ofString "stemWord") 396), (.str (Str.ofString "BaseStemmer.stemWord") 397), (.str (Str.ofString "/claim/cut.py") 398), (.int 135 0), (.int 2 0), (.int 0 0), (.int 0 0), (.int 3 0), (.ref 183), (.bool true), (.int 181 0), (.ref 184), .none, (.ref 185), (.ref 186), (.ref 187), (.int 401 0), (.int 135 0), (.str (Str.ofString "/claim/cut.py") 402)]), #[]⟩
noncomputable def o_189 (P : Params) : Obj := ⟨(.type "function"), none, (.func ⟨(Str.ofString "stemWord"), (Str.ofString "BaseStemmer.stemWord"), ar_2_22, .stmts bd_2_22, sc_2_22, 3, [], .none, .none, .none, (.str (Str.ofString "snowballstemmer.basestemmer") 194), none, (.ref 188), .none, 0⟩), #[]⟩
noncomputable def o_190 (P : Params) : Obj := ⟨(.type "tuple"), none, (.seq #[] 0), #[]⟩
noncomputable def o_191 (P : Params) : Obj := ⟨.none, none, (.fields #[]), #[]⟩
noncomputable def o_192 (P : Params) : Obj := ⟨.none, none, (.func ⟨(Str.ofString "stemWords"), (Str.ofString "BaseStemmer.stemWords"), ar_2_23, .stmts bd_2_23, sc_2_23, 0, [], .none, .none, .none, .none, none, .none, .none, 0⟩), #[]⟩
noncomputable def o_193 (P : Params) : Obj := ⟨(.type "code"), none, (.fields #[(.str (Str.ofString "stemWords") 404), (.str (Str.ofString "BaseStemmer.stemWords") 405), (.str (Str.ofString "/claim/cut.py") 406), (.int 140 0), (.int 2 0), (.int 0 0), (.int 0 0), (.int 3 0), (.ref 190), (.bool true), (.int 181 0), (.ref 191), .none, .none, .none, (.ref 192), (.int 407 0), (.int 140 0), (.str (Str.ofString "/claim/cut.py") 408)]), #[]⟩
noncomputable def o_194 (P : Params) : Obj := ⟨(.type "function"), none, (.func ⟨(Str.ofString "stemWords"), (Str.ofString "BaseStemmer.stemWords"), ar_2_23, .stmts bd_2_23, sc_2_23, 3, [], .none, .none, .none, (.str (Str.ofString "snowballstemmer.basestemmer") 194), none, (.ref 193), .none, 0⟩), #[]⟩
noncomputable def o_195 (P : Params) : Obj := ⟨(.type "tuple"), none, (.seq #[(.str (Str.ofString "bra") 410), (.str (Str.ofString "current") 411), (.str (Str.ofString "cursor") 412), (.str (Str.ofString "ket") 413), (.str (Str.ofString "limit") 414), (.str (Str.ofString "limit_backward") 415)] 0), #[]⟩
noncomputable def o_196 (P : Params) : Obj := ⟨(.type "dict"), none, (.dict #[⟨PyData.keyHash P (Str.ofString "__module__"), .str (Str.ofString "__module__") 203, (.str (Str.ofString "snowballstemmer.basestemmer") 194)⟩, ⟨PyData.keyHash P (Str.ofString "__firstlineno__"), .str (Str.ofString "__firstlineno__") 207, (.int 5 206)⟩, ⟨PyData.keyHash P (Str.ofString "__init__"), .str (Str.ofString "__init__") 214, (.ref 35)⟩, ⟨PyData.keyHash P (Str.ofString "set_current"), .str (Str.ofString "set_current") 222, (.ref 42)⟩, ⟨PyData.keyHash P (Str.ofString "get_current"), .str (Str.ofString "get_current") 229, (.ref 49)⟩, ⟨PyData.keyHash P (Str.ofString "copy_from"), .str (Str.ofString "copy_from") 237, (.ref 56)⟩, ⟨PyData.keyHash P (Str.ofString "in_grouping"), .str (Str.ofString "in_grouping") 245, (.ref 63)⟩, ⟨PyData.keyHash P (Str.ofString "go_in_grouping"), .str (Str.ofString "go_in_grouping") 253, (.ref 70)⟩, ⟨PyData.keyHash P (Str.ofString "in_grouping_b"), .str (Str.ofString "in_grouping_b") 261, (.ref 77)⟩, ⟨PyData.keyHash P (Str.ofString "go_in_grouping_b"), .str (Str.ofString "go_in_grouping_b") 269, (.ref 84)⟩, ⟨PyData.keyHash P (Str.ofString "out_grouping"), .str (Str.ofString "out_grouping") 277, (.ref 91)⟩, ⟨PyData.keyHash P (Str.ofString "go_out_grouping"), .str (Str.ofString "go_out_grouping") 285, (.ref 98)⟩, ⟨PyData.keyHash P (Str.ofString "out_grouping_b"), .str (Str.ofString "out_grouping_b") 293, (.ref 105)⟩, ⟨PyData.keyHash P (Str.ofString "go_out_grouping_b"), .str (Str.ofString "go_out_grouping_b") 301, (.ref 112)⟩, ⟨PyData.keyHash P (Str.ofString "eq_s"), .str (Str.ofString "eq_s") 309, (.ref 119)⟩, ⟨PyData.keyHash P (Str.ofString "eq_s_b"), .str (Str.ofString "eq_s_b") 317, (.ref 126)⟩, ⟨PyData.keyHash P (Str.ofString "find_among"), .str (Str.ofString "find_among") 325, (.ref 133)⟩, ⟨PyData.keyHash P (Str.ofString "find_among_b"), .str (Str.ofString "find_among_b") 345, (.ref 140)⟩, ⟨PyData.keyHash P (Str.ofString "replace_s"), .str (Str.ofString "replace_s") 356, (.ref 147)⟩, ⟨PyData.keyHash P (Str.ofString "slice_from"), .str (Str.ofString "slice_from") 364, (.ref 154)⟩, ⟨PyData.keyHash P (Str.ofString "slice_del"), .str (Str.ofString "slice_del") 371, (.ref 161)⟩, ⟨PyData.keyHash P (Str.ofString "insert"), .str (Str.ofString "insert") 381, (.ref 168)⟩, ⟨PyData.keyHash P (Str.ofString "slice_to"), .str (Str.ofString "slice_to") 388, (.ref 175)⟩, ⟨PyData.keyHash P (Str.ofString "assign_to"), .str (Str.ofString "assign_to") 395, (.ref 182)⟩, ⟨PyData.keyHash P (Str.ofString "stemWord"), .str (Str.ofString "stemWord") 403, (.ref 189)⟩, ⟨PyData.keyHash P (Str.ofString "stemWords"), .str (Str.ofString "stemWords") 409, (.ref 194)⟩, ⟨PyData.keyHash P (Str.ofString "__static_attributes__"), .str (Str.ofString "__static_attributes__") 416, (.ref 195)⟩, ⟨PyData.keyHash P (Str.ofString "__dict__"), .str (Str.ofString "__dict__") 418, (.ref 198)⟩, ⟨PyData.keyHash P (Str.ofString "__weakref__"), .str (Str.ofString "__weakref__") 420, (.ref 199)⟩, ⟨PyData.keyHash P (Str.ofString "__doc__"), .str (Str.ofString "__doc__") 421, .none⟩] 4), #[]⟩
noncomputable def o_197 (P : Params) : Obj := ⟨(.type "type"), none, (.cls ⟨(Str.ofString "BaseStemmer"), [(.type "object")], [(.ref 197), (.type "object")], 196, (Str.ofString "BaseStemmer"), true, [], [(.ref 596)], false, none, false⟩), #[none, none, (some (.str (Str.ofString "BaseStemmer") 196)), (some (.str (Str.ofString "BaseStemmer") 204)), (some (.builtin "object.__new__")), (some (.bool true))]⟩
noncomputable def o_198 (P : Params) : Obj := ⟨(.type "getset_descriptor"), none, (.fields #[(.str (Str.ofString "__dict__") 417), (.ref 197), (.builtin "function.__dict__"), (.builtin "function.__dict__#set")]), #[]⟩
noncomputable def o_199 (P : Params) : Obj := ⟨(.type "getset_descriptor"), none, (.fields #[(.str (Str.ofString "__weakref__") 419), (.ref 197), (.builtin "ExceptionGroup.__weakref__"), .none]), #[]⟩
noncomputable def o_200 (P : Params) : Obj := ⟨(.type "super"), none, (.fields #[(.ref 197), (.ref 197), (.ref 197)]), #[]⟩
noncomputable def o_201 (P : Params) : Obj := ⟨(.type "builtin_function_or_method"), none, (.fields #[(.builtin "object.__init_subclass__"), (.ref 197)]), #[]⟩
noncomputable def o_202 (P : Params) : Obj := ⟨(.type "tuple"), none, (.seq #[] 0), #[]⟩
noncomputable def o_203 (P : Params) : Obj := ⟨(.type "builtin_function_or_method"), none, (.fields #[(.builtin "type.__prepare__"), (.type "type")]), #[]⟩
noncomputable def o_204 (P : Params) : Obj := ⟨(.type "dict"), none, (.dict #[⟨PyData.keyHash P (Str.ofString "__module__"), .str (Str.ofString "__module__") 433, (.str (Str.ofString "snowballstemmer.among") 424)⟩, ⟨PyData.keyHash P (Str.ofString "__qualname__"), .str (Str.ofString "__qualname__") 435, (.str (Str.ofString "Among") 434)⟩, ⟨PyData.keyHash P (Str.ofString "__firstlineno__"), .str (Str.ofString "__firstlineno__") 437, (.int 143 436)⟩, ⟨PyData.keyHash P (Str.ofString "__init__"), .str (Str.ofString "__init__") 447, (.ref 215)⟩, ⟨PyData.keyHash P (Str.ofString "__static_attributes__"), .str (Str.ofString "__static_attributes__") 451, (.ref 216)⟩] 5), #[]⟩
noncomputable def o_205 (P : Params) : Obj := ⟨(.type "tuple"), none, (.seq #[] 0), #[]⟩
noncomputable def o_206 (P : Params) : Obj := ⟨.none, none, (.fields #[(.int 145 0), (.int 4 0), (.ref 214)]), #[]⟩
noncomputable def o_207 (P : Params) : Obj := ⟨(.type "code"), none, (.fields #[(.str (Str.ofString "Among") 428), (.str (Str.ofString "Among") 429), (.str (Str.ofString "/claim/cut.py") 430), (.int 143 0), (.int 0 0), (.int 0 0), (.int 0 0), (.int 0 0), (.ref 205), (.bool false), (.int 181 0), (.ref 206), .none, .none, .none, .none, (.int 431 0), (.int 143 0), (.str (Str.ofString "/claim/cut.py") 432)]), #[]⟩
noncomputable def o_208 (P : Params) : Obj := ⟨(.type "frame"), none, .plain, #[(some (.ref 207)), (some (.ref 3)), (some (.ref 204)), none, (some (.str (Str.ofString "snowballstemmer.among") 424)), none, (some (.ref 0))]⟩
noncomputable def o_209 (P : Params) : Obj := ⟨(.type "tuple"), none, (.seq #[] 0), #[]⟩
noncomputable def o_210 (P : Params) : Obj := ⟨.none, none, (.fields #[]), #[]⟩
noncomputable def o_211 (P : Params) : Obj := ⟨(.type "tuple"), none, (.seq #[(.str (Str.ofString "self") 441), (.str (Str.ofString "s") 442), (.str (Str.ofString "substring_i") 443), (.str (Str.ofString "result") 444)] 0), #[]⟩
noncomputable def o_212 (P : Params) : Obj := ⟨(.type "tuple"), none, (.seq #[] 0), #[]⟩
noncomputable def o_213 (P : Params) : Obj := ⟨.none, none, (.func ⟨(Str.ofString "__init__"), (Str.ofString "Among.__init__"), ar_4_0, .stmts bd_4_0, sc_4_0, 0, [], .none, .none, .none, .none, none, .none, .none, 0⟩), #[]⟩
noncomputable def o_214 (P : Params) : Obj := ⟨(.type "code"), none, (.fields #[(.str (Str.ofString "__init__") 438), (.str (Str.ofString "Among.__init__") 439), (.str (Str.ofString "/claim/cut.py") 440), (.int 145 0), (.int 4 0), (.int 0 0), (.int 0 0), (.int 3 0), (.ref 209), (.bool true), (.int 181 0), (.ref 210), .none, (.ref 211), (.ref 212), (.ref 213), (.int 445 0), (.int 145 0), (.str (Str.ofString "/claim/cut.py") 446)]), #[]⟩
noncomputable def o_215 (P : Params) : Obj := ⟨(.type "function"), none, (.func ⟨(Str.ofString "__init__"), (Str.ofString "Among.__init__"), ar_4_0, .stmts bd_4_0, sc_4_0, 3, [], .none, .none, .none, (.str (Str.ofString "snowballstemmer.among") 424), none, (.ref 214), .none, 0⟩), #[]⟩
noncomputable def o_216 (P : Params) : Obj := ⟨(.type "tuple"), none, (.seq #[(.str (Str.ofString "result") 448), (.str (Str.ofString "s") 449), (.str (Str.ofString "substring_i") 450)] 0), #[]⟩
noncomputable def o_217 (P : Params) : Obj := ⟨(.type "dict"), none, (.dict #[⟨PyData.keyHash P (Str.ofString "__module__"), .str (Str.ofString "__module__") 433, (.str (Str.ofString "snowballstemmer.among") 424)⟩, ⟨PyData.keyHash P (Str.ofString "__firstlineno__"), .str (Str.ofString "__firstlineno__") 437, (.int 143 436)⟩, ⟨PyData.keyHash P (Str.ofString "__init__"), .str (Str.ofString "__init__") 447, (.ref 215)⟩, ⟨PyData.keyHash P (Str.ofString "__static_attributes__"), .str (Str.ofString "__static_attributes__") 451, (.ref 216)⟩, ⟨PyData.keyHash P (Str.ofString "__dict__"), .str (Str.ofString "__dict__") 453, (.ref 219)⟩, ⟨PyData.keyHash P (Str.ofString "__weakref__"), .str (Str.ofString "__weakref__") 455, (.ref 220)⟩, ⟨PyData.keyHash P (Str.ofString "__doc__"), .str (Str.ofString "__doc__") 456, .none⟩] 4), #[]⟩
noncomputable def o_218 (P : Params) : Obj := ⟨(.type "type"), none, (.cls ⟨(Str.ofString "Among"), [(.type "object")], [(.ref 218), (.type "object")], 217, (Str.ofString "Among"), true, [], [], false, none, false⟩), #[none, none, (some (.str (Str.ofString "Among") 426)), (some (.str (Str.ofString "Among") 434)), (some (.builtin "object.__new__")), (some (.bool true))]⟩
noncomputable def o_219 (P : Params) : Obj := ⟨(.type "getset_descriptor"), none, (.fields #[(.str (Str.ofString "__dict__") 452), (.ref 218), (.builtin "function.__dict__"), (.builtin "function.__dict__#set")]), #[]⟩
noncomputable def o_220 (P : Params) : Obj := ⟨(.type "getset_descriptor"), none, (.fields #[(.str (Str.ofString "__weakref__") 454), (.ref 218), (.builtin "ExceptionGroup.__weakref__"), .none]), #[]⟩
noncomputable def o_221 (P : Params) : Obj := ⟨(.type "super"), none, (.fields #[(.ref 218), (.ref 218), (.ref 218)]), #[]⟩
noncomputable def o_222 (P : Params) : Obj := ⟨(.type "builtin_function_or_method"), none, (.fields #[(.builtin "object.__init_subclass__"), (.ref 218)]), #[]⟩
noncomputable def o_223 (P : Params) : Obj := ⟨(.type "tuple"), none, (.seq #[(.ref 197)] 0), #[]⟩
noncomputable def o_224 (P : Params) : Obj := ⟨(.type "builtin_function_or_method"), none, (.fields #[(.builtin "type.__prepare__"), (.type "type")]), #[]⟩
noncomputable def o_225 (P : Params) : Obj := ⟨(.type "dict"), none, (.dict #[⟨PyData.keyHash P (Str.ofString "__module__"), .str (Str.ofString "__module__") 468, (.str (Str.ofString "snowballstemmer.nepali_stemmer") 459)⟩, ⟨PyData.keyHash P (Str.ofString "__qualname__"), .str (Str.ofString "__qualname__") 470, (.str (Str.ofString "NepaliStemmer") 469)⟩, ⟨PyData.keyHash P (Str.ofString "__firstlineno__"), .str (Str.ofString "__firstlineno__") 472, (.int 150 471)⟩, ⟨PyData.keyHash P (Str.ofString "r_remove_category_1"), .str (Str.ofString "r_remove_category_1") 480, (.ref 236)⟩, ⟨PyData.keyHash P (Str.ofString "r_remove_category_2"), .str (Str.ofString "r_remove_category_2") 488, (.ref 243)⟩, ⟨PyData.keyHash P (Str.ofString "r_remove_category_3"), .str (Str.ofString "r_remove_category_3") 495, (.ref 250)⟩, ⟨PyData.keyHash P (Str.ofString "_stem"), .str (Str.ofString "_stem") 505, (.ref 257)⟩, ⟨PyData.keyHash P (Str.ofString "a_0"), .str (Str.ofString "a_0") 744, (.ref 309)⟩, ⟨PyData.keyHash P (Str.ofString "a_1"), .str (Str.ofString "a_1") 787, (.ref 319)⟩, ⟨PyData.keyHash P (Str.ofString "a_2"), .str (Str.ofString "a_2") 2009, (.ref 593)⟩, ⟨PyData.keyHash P (Str.ofString "__static_attributes__"), .str (Str.ofString "__static_attributes__") 2014, (.ref 594)⟩] 11), #[]⟩
noncomputable def o_226 (P : Params) : Obj := ⟨(.type "tuple"), none, (.seq #[] 0), #[]⟩
noncomputable def o_227 (P : Params) : Obj := ⟨.none, none, (.fields #[(.int 152 0), (.int 4 0), (.ref 235), (.int 180 0), (.int 4 0), (.ref 242), (.int 216 0), (.int 4 0), (.ref 249), (.int 224 0), (.int 4 0), (.ref 256)]), #[]⟩
noncomputable def o_228 (P : Params) : Obj := ⟨(.type "code"), none, (.fields #[(.str (Str.ofString "NepaliStemmer") 463), (.str (Str.ofString "NepaliStemmer") 464), (.str (Str.ofString "/claim/cut.py") 465), (.int 150 0), (.int 0 0), (.int 0 0), (.int 0 0), (.int 0 0), (.ref 226), (.bool false), (.int 181 0), (.ref 227), .none, .none, .none, .none, (.int 466 0), (.int 150 0), (.str (Str.ofString "/claim/cut.py") 467)]), #[]⟩
noncomputable def o_229 (P : Params) : Obj := ⟨(.type "frame"), none, .plain, #[(some (.ref 228)), (some (.ref 3)), (some (.ref 225)), none, (some (.str (Str.ofString "snowballstemmer.nepali_stemmer") 459)), none, (some (.ref 0))]⟩
noncomputable def o_230 (P : Params) : Obj := ⟨(.type "tuple"), none, (.seq #[] 0), #[]⟩
noncomputable def o_231 (P : Params) : Obj := ⟨.none, none, (.fields #[]), #[]⟩
noncomputable def o_232 (P : Params) : Obj := ⟨(.type "tuple"), none, (.seq #[(.str (Str.ofString "self") 476), (.str (Str.ofString "among_var") 477)] 0), #[]⟩
noncomputable def o_233 (P : Params) : Obj := ⟨(.type "tuple"), none, (.seq #[] 0), #[]⟩
noncomputable def o_234 (P : Params) : Obj := ⟨.none, none, (.func ⟨(Str.ofString "r_remove_category_1"), (Str.ofString "NepaliStemmer.r_remove_category_1"), ar_6_0, .stmts bd_6_0, sc_6_0, 0, [], .none, .none, .none, .none, none, .none, .none, 0⟩), #[]⟩
noncomputable def o_235 (P : Params) : Obj := ⟨(.type "code"), none, (.fields #[(.str (Str.ofString "r_remove_category_1") 473), (.str (Str.ofString "NepaliStemmer.r_remove_category_1") 474), (.str (Str.ofString "/claim/cut.py") 475), (.int 152 0), (.int 1 0), (.int 0 0), (.int 0 0), (.int 3 0), (.ref 230), (.bool true), (.int 181 0), (.ref 231), .none, (.ref 232), (.ref 233), (.ref 234), (.int 478 0), (.int 152 0), (.str (Str.ofString "/claim/cut.py") 479)]), #[]⟩
noncomputable def o_236 (P : Params) : Obj := ⟨(.type "function"), none, (.func ⟨(Str.ofString "r_remove_category_1"), (Str.ofString "NepaliStemmer.r_remove_category_1"), ar_6_0, .stmts bd_6_0, sc_6_0, 3, [], .none, .none, .none, (.str (Str.ofString "snowballstemmer.nepali_stemmer") 459), none, (.ref 235), .none, 0⟩), #[]⟩
noncomputable def o_237 (P : Params) : Obj := ⟨(.type "tuple"), none, (.seq #[] 0), #[]⟩
noncomputable def o_238 (P : Params) : Obj := ⟨.none, none, (.fields #[]), #[]⟩
noncomputable def o_239 (P : Params) : Obj := ⟨(.type "tuple"), none, (.seq #[(.str (Str.ofString "self") 484), (.str (Str.ofString "among_var") 485)] 0), #[]⟩
noncomputable def o_240 (P : Params) : Obj := ⟨(.type "tuple"), none, (.seq #[] 0), #[]⟩
noncomputable def o_241 (P : Params) : Obj := ⟨.none, none, (.func ⟨(Str.ofString "r_remove_category_2"), (Str.ofString "NepaliStemmer.r_remove_category_2"), ar_6_1, .stmts bd_6_1, sc_6_1, 0, [], .none, .none, .none, .none, none, .none, .none, 0⟩), #[]⟩
noncomputable def o_242 (P : Params) : Obj := ⟨(.type "code"), none, (.fields #[(.str (Str.ofString "r_remove_category_2") 481), (.str (Str.ofString "NepaliStemmer.r_remove_category_2") 482), (.str (Str.ofString "/claim/cut.py") 483), (.int 180 0), (.int 1 0), (.int 0 0), (.int 0 0), (.int 3 0), (.ref 237), (.bool true), (.int 181 0), (.ref 238), .none, (.ref 239), (.ref 240), (.ref 241), (.int 486 0), (.int 180 0), (.str (Str.ofString "/claim/cut.py") 487)]), #[]⟩
noncomputable def o_243 (P : Params) : Obj := ⟨(.type "function"), none, (.func ⟨(Str.ofString "r_remove_category_2"), (Str.ofString "NepaliStemmer.r_remove_category_2"), ar_6_1, .stmts bd_6_1, sc_6_1, 3, [], .none, .none, .none, (.str (Str.ofString "snowballstemmer.nepali_stemmer") 459), none, (.ref 242), .none, 0⟩), #[]⟩
noncomputable def o_244 (P : Params) : Obj := ⟨(.type "tuple"), none, (.seq #[] 0), #[]⟩
noncomputable def o_245 (P : Params) : Obj := ⟨.none, none, (.fields #[]), #[]⟩
noncomputable def o_246 (P : Params) : Obj := ⟨(.type "tuple"), none, (.seq #[(.str (Str.ofString "self") 492)] 0), #[]⟩
noncomputable def o_247 (P : Params) : Obj := ⟨(.type "tuple"), none, (.seq #[] 0), #[]⟩
noncomputable def o_248 (P : Params) : Obj := ⟨.none, none, (.func ⟨(Str.ofString "r_remove_category_3"), (Str.ofString "NepaliStemmer.r_remove_category_3"), ar_6_2, .stmts bd_6_2, sc_6_2, 0, [], .none, .none, .none, .none, none, .none, .none, 0⟩), #[]⟩
noncomputable def o_249 (P : Params) : Obj := ⟨(.type "code"), none, (.fields #[(.str (Str.ofString "r_remove_category_3") 489), (.str (Str.ofString "NepaliStemmer.r_remove_category_3") 490), (.str (Str.ofString "/claim/cut.py") 491), (.int 216 0), (.int 1 0), (.int 0 0), (.int 0 0), (.int 3 0), (.ref 244), (.bool true), (.int 181 0), (.ref 245), .none, (.ref 246), (.ref 247), (.ref 248), (.int 493 0), (.int 216 0), (.str (Str.ofString "/claim/cut.py") 494)]), #[]⟩
noncomputable def o_250 (P : Params) : Obj := ⟨(.type "function"), none, (.func ⟨(Str.ofString "r_remove_category_3"), (Str.ofString "NepaliStemmer.r_remove_category_3"), ar_6_2, .stmts bd_6_2, sc_6_2, 3, [], .none, .none, .none, (.str (Str.ofString "snowballstemmer.nepali_stemmer") 459), none, (.ref 249), .none, 0⟩), #[]⟩
noncomputable def o_251 (P : Params) : Obj := ⟨(.type "tuple"), none, (.seq #[] 0), #[]⟩
noncomputable def o_252 (P : Params) : Obj := ⟨.none, none, (.fields #[]), #[]⟩
noncomputable def o_253 (P : Params) : Obj := ⟨(.type "tuple"), none, (.seq #[(.str (Str.ofString "self") 499), (.str (Str.ofString "v_1") 500), (.str (Str.ofString "v_2") 501), (.str (Str.ofString "v_3") 502)] 0), #[]⟩
noncomputable def o_254 (P : Params) : Obj := ⟨(.type "tuple"), none, (.seq #[] 0), #[]⟩
noncomputable def o_255 (P : Params) : Obj := ⟨.none, none, (.func ⟨(Str.ofString "_stem"), (Str.ofString "NepaliStemmer._stem"), ar_6_3, .stmts bd_6_3, sc_6_3, 0, [], .none, .none, .none, .none, none, .none, .none, 0⟩), #[]⟩
noncomputable def o_256 (P : Params) : Obj := ⟨(.type "code"), none, (.fields #[(.str (Str.ofString "_stem") 496), (.str (Str.ofString "NepaliStemmer._stem") 497), (.str (Str.ofString "/claim/cut.py") 498), (.int 224 0), (.int 1 0), (.int 0 0), (.int 0 0), (.int 3 0), (.ref 251), (.bool true), (.int 181 0), (.ref 252), .none, (.ref 253), (.ref 254), (.ref 255), (.int 503 0), (.int 224 0), (.str (Str.ofString "/claim/cut.py") 504)]), #[]⟩
noncomputable def o_257 (P : Params) : Obj := ⟨(.type "function"), none, (.func ⟨(Str.ofString "_stem"), (Str.ofString "NepaliStemmer._stem"), ar_6_3, .stmts bd_6_3, sc_6_3, 3, [], .none, .none, .none, (.str (Str.ofString "snowballstemmer.nepali_stemmer") 459), none, (.ref 256), .none, 0⟩), #[]⟩
noncomputable def o_258 (P : Params) : Obj := ⟨(.type "dict"), none, (.dict #[⟨PyData.keyHash P (Str.ofString "s"), .str (Str.ofString "s") 515, (.str (Str.ofString "लाइ") 506)⟩, ⟨PyData.keyHash P (Str.ofString "substring_i"), .str (Str.ofString "substring_i") 517, (.int (-1) 508)⟩, ⟨PyData.keyHash P (Str.ofString "result"), .str (Str.ofString "result") 519, (.int 1 509)⟩] 3), #[]⟩
noncomputable def o_259 (P : Params) : Obj := ⟨(.ref 218), (some 258), .plain, #[]⟩
noncomputable def o_260 (P : Params) : Obj := ⟨(.type "frame"), none, (.dict #[⟨PyData.keyHash P (Str.ofString "self"), .str (Str.ofString "self") 510, (.ref 259)⟩, ⟨PyData.keyHash P (Str.ofString "s"), .str (Str.ofString "s") 511, (.str (Str.ofString "लाइ") 506)⟩, ⟨PyData.keyHash P (Str.ofString "substring_i"), .str (Str.ofString "substring_i") 512, (.int (-1) 508)⟩, ⟨PyData.keyHash P (Str.ofString "result"), .str (Str.ofString "result") 513, (.int 1 509)⟩] 4), #[]⟩
noncomputable def o_261 (P : Params) : Obj := ⟨(.type "dict"), none, (.dict #[⟨PyData.keyHash P (Str.ofString "s"), .str (Str.ofString "s") 529, (.str (Str.ofString "लाई") 520)⟩, ⟨PyData.keyHash P (Str.ofString "substring_i"), .str (Str.ofString "substring_i") 531, (.int (-1) 522)⟩, ⟨PyData.keyHash P (Str.ofString "result"), .str (Str.ofString "result") 533, (.int 1 523)⟩] 3), #[]⟩
noncomputable def o_262 (P : Params) : Obj := ⟨(.ref 218), (some 261), .plain, #[]⟩
noncomputable def o_263 (P : Params) : Obj := ⟨(.type "frame"), none, (.dict #[⟨PyData.keyHash P (Str.ofString "self"), .str (Str.ofString "self") 524, (.ref 262)⟩, ⟨PyData.keyHash P (Str.ofString "s"), .str (Str.ofString "s") 525, (.str (Str.ofString "लाई") 520)⟩, ⟨PyData.keyHash P (Str.ofString "substring_i"), .str (Str.ofString "substring_i") 526, (.int (-1) 522)⟩, ⟨PyData.keyHash P (Str.ofString "result"), .str (Str.ofString "result") 527, (.int 1 523)⟩] 4), #[]⟩
noncomputable def o_264 (P : Params) : Obj := ⟨(.type "dict"), none, (.dict #[⟨PyData.keyHash P (Str.ofString "s"), .str (Str.ofString "s") 543, (.str (Str.ofString "सँग") 534)⟩, ⟨PyData.keyHash P (Str.ofString "substring_i"), .str (Str.ofString "substring_i") 545, (.int (-1) 536)⟩, ⟨PyData.keyHash P (Str.ofString "result"), .str (Str.ofString "result") 547, (.int 1 537)⟩] 3), #[]⟩
noncomputable def o_265 (P : Params) : Obj := ⟨(.ref 218), (some 264), .plain, #[]⟩
noncomputable def o_266 (P : Params) : Obj := ⟨(.type "frame"), none, (.dict #[⟨PyData.keyHash P (Str.ofString "self"), .str (Str.ofString "self") 538, (.ref 265)⟩, ⟨PyData.keyHash P (Str.ofString "s"), .str (Str.ofString "s") 539, (.str (Str.ofString "सँग") 534)⟩, ⟨PyData.keyHash P (Str.ofString "substring_i"), .str (Str.ofString "substring_i") 540, (.int (-1) 536)⟩, ⟨PyData.keyHash P (Str.ofString "result"), .str (Str.ofString "result") 541, (.int 1 537)⟩] 4), #[]⟩
noncomputable def o_267 (P : Params) : Obj := ⟨(.type "dict"), none, (.dict #[⟨PyData.keyHash P (Str.ofString "s"), .str (Str.ofString "s") 557, (.str (Str.ofString "संग") 548)⟩, ⟨PyData.keyHash P (Str.ofString "substring_i"), .str (Str.ofString "substring_i") 559, (.int (-1) 550)⟩, ⟨PyData.keyHash P (Str.ofString "result"), .str (Str.ofString "result") 561, (.int 1 551)⟩] 3), #[]⟩
noncomputable def o_268 (P : Params) : Obj := ⟨(.ref 218), (some 267), .plain, #[]⟩
noncomputable def o_269 (P : Params) : Obj := ⟨(.type "frame"), none, (.dict #[⟨PyData.keyHash P (Str.ofString "self"), .str (Str.ofString "self") 552, (.ref 268)⟩, ⟨PyData.keyHash P (Str.ofString "s"), .str (Str.ofString "s") 553, (.str (Str.ofString "संग") 548)⟩, ⟨PyData.keyHash P (Str.ofString "substring_i"), .str (Str.ofString "substring_i") 554, (.int (-1) 550)⟩, ⟨PyData.keyHash P (Str.ofString "result"), .str (Str.ofString "result") 555, (.int 1 551)⟩] 4), #[]⟩
noncomputable def o_270 (P : Params) : Obj := ⟨(.type "dict"), none, (.dict #[⟨PyData.keyHash P (Str.ofString "s"), .str (Str.ofString "s") 571, (.str (Str.ofString "मार्फत") 562)⟩, ⟨PyData.keyHash P (Str.ofString "substring_i"), .str (Str.ofString "substring_i") 573, (.int (-1) 564)⟩, ⟨PyData.keyHash P (Str.ofString "result"), .str (Str.ofString "result") 575, (.int 1 565)⟩] 3), #[]⟩
noncomputable def o_271 (P : Params) : Obj := ⟨(.ref 218), (some 270), .plain, #[]⟩
noncomputable def o_272 (P : Params) : Obj := ⟨(.type "frame"), none, (.dict #[⟨PyData.keyHash P (Str.ofString "self"), .str (Str.ofString "self") 566, (.ref 271)⟩, ⟨PyData.keyHash P (Str.ofString "s"), .str (Str.ofString "s") 567, (.str (Str.ofString "मार्फत") 562)⟩, ⟨PyData.keyHash P (Str.ofString "substring_i"), .str (Str.ofString "substring_i") 568, (.int (-1) 564)⟩, ⟨PyData.keyHash P (Str.ofString "result"), .str (Str.ofString "result") 569, (.int 1 565)⟩] 4), #[]⟩
noncomputable def o_273 (P : Params) : Obj := ⟨(.type "dict"), none, (.dict #[⟨PyData.keyHash P (Str.ofString "s"), .str (Str.ofString "s") 585, (.str (Str.ofString "रत") 576)⟩, ⟨PyData.keyHash P (Str.ofString "substring_i"), .str (Str.ofString "substring_i") 587, (.int (-1) 578)⟩, ⟨PyData.keyHash P (Str.ofString "result"), .str (Str.ofString "result") 589, (.int 1 579)⟩] 3), #[]⟩
noncomputable def o_274 (P : Params) : Obj := ⟨(.ref 218), (some 273), .plain, #[]⟩
noncomputable def o_275 (P : Params) : Obj := ⟨(.type "frame"), none, (.dict #[⟨PyData.keyHash P (Str.ofString "self"), .str (Str.ofString "self") 580, (.ref 274)⟩, ⟨PyData.keyHash P (Str.ofString "s"), .str (Str.ofString "s") 581, (.str (Str.ofString "रत") 576)⟩, ⟨PyData.keyHash P (Str.ofString "substring_i"), .str (Str.ofString "substring_i") 582, (.int (-1) 578)⟩, ⟨PyData.keyHash P (Str.ofString "result"), .str (Str.ofString "result") 583, (.int 1 579)⟩] 4), #[]⟩
noncomputable def o_276 (P : Params) : Obj := ⟨(.type "dict"), none, (.dict #[⟨PyData.keyHash P (Str.ofString "s"), .str (Str.ofString "s") 599, (.str (Str.ofString "का") 590)⟩, ⟨PyData.keyHash P (Str.ofString "substring_i"), .str (Str.ofString "substring_i") 601, (.int (-1) 592)⟩, ⟨PyData.keyHash P (Str.ofString "result"), .str (Str.ofString "result") 603, (.int 2 593)⟩] 3), #[]⟩
noncomputable def o_277 (P : Params) : Obj := ⟨(.ref 218), (some 276), .plain, #[]⟩
noncomputable def o_278 (P : Params) : Obj := ⟨(.type "frame"), none, (.dict #[⟨PyData.keyHash P (Str.ofString "self"), .str (Str.ofString "self") 594, (.ref 277)⟩, ⟨PyData.keyHash P (Str.ofString "s"), .str (Str.ofString "s") 595, (.str (Str.ofString "का") 590)⟩, ⟨PyData.keyHash P (Str.ofString "substring_i"), .str (Str.ofString "substring_i") 596, (.int (-1) 592)⟩, ⟨PyData.keyHash P (Str.ofString "result"), .str (Str.ofString "result") 597, (.int 2 593)⟩] 4), #[]⟩
noncomputable def o_279 (P : Params) : Obj := ⟨(.type "dict"), none, (.dict #[⟨PyData.keyHash P (Str.ofString "s"), .str (Str.ofString "s") 613, (.str (Str.ofString "मा") 604)⟩, ⟨PyData.keyHash P (Str.ofString "substring_i"), .str (Str.ofString "substring_i") 615, (.int (-1) 606)⟩, ⟨PyData.keyHash P (Str.ofString "result"), .str (Str.ofString "result") 617, (.int 1 607)⟩] 3), #[]⟩
noncomputable def o_280 (P : Params) : Obj := ⟨(.ref 218), (some 279), .plain, #[]⟩
noncomputable def o_281 (P : Params) : Obj := ⟨(.type "frame"), none, (.dict #[⟨PyData.keyHash P (Str.ofString "self"), .str (Str.ofString "self") 608, (.ref 280)⟩, ⟨PyData.keyHash P (Str.ofString "s"), .str (Str.ofString "s") 609, (.str (Str.ofString "मा") 604)⟩, ⟨PyData.keyHash P (Str.ofString "substring_i"), .str (Str.ofString "substring_i") 610, (.int (-1) 606)⟩, ⟨PyData.keyHash P (Str.ofString "result"), .str (Str.ofString "result") 611, (.int 1 607)⟩] 4), #[]⟩
noncomputable def o_282 (P : Params) : Obj := ⟨(.type "dict"), none, (.dict #[⟨PyData.keyHash P (Str.ofString "s"), .str (Str.ofString "s") 627, (.str (Str.ofString "द्वारा") 618)⟩, ⟨PyData.keyHash P (Str.ofString "substring_i"), .str (Str.ofString "substring_i") 629, (.int (-1) 620)⟩, ⟨PyData.keyHash P (Str.ofString "result"), .str (Str.ofString "result") 631, (.int 1 621)⟩] 3), #[]⟩
noncomputable def o_283 (P : Params) : Obj := ⟨(.ref 218), (some 282), .plain, #[]⟩
noncomputable def o_284 (P : Params) : Obj := ⟨(.type "frame"), none, (.dict #[⟨PyData.keyHash P (Str.ofString "self"), .str (Str.ofString "self") 622, (.ref 283)⟩, ⟨PyData.keyHash P (Str.ofString "s"), .str (Str.ofString "s") 623, (.str (Str.ofString "द्वारा") 618)⟩, ⟨PyData.keyHash P (Str.ofString "substring_i"), .str (Str.ofString "substring_i") 624, (.int (-1) 620)⟩, ⟨PyData.keyHash P (Str.ofString "result"), .str (Str.ofString "result") 625, (.int 1 621)⟩] 4), #[]⟩
noncomputable def o_285 (P : Params) : Obj := ⟨(.type "dict"), none, (.dict #[⟨PyData.keyHash P (Str.ofString "s"), .str (Str.ofString "s") 641, (.str (Str.ofString "कि") 632)⟩, ⟨PyData.keyHash P (Str.ofString "substring_i"), .str (Str.ofString "substring_i") 643, (.int (-1) 634)⟩, ⟨PyData.keyHash P (Str.ofString "result"), .str (Str.ofString "result") 645, (.int 2 635)⟩] 3), #[]⟩
noncomputable def o_286 (P : Params) : Obj := ⟨(.ref 218), (some 285), .plain, #[]⟩
noncomputable def o_287 (P : Params) : Obj := ⟨(.type "frame"), none, (.dict #[⟨PyData.keyHash P (Str.ofString "self"), .str (Str.ofString "self") 636, (.ref 286)⟩, ⟨PyData.keyHash P (Str.ofString "s"), .str (Str.ofString "s") 637, (.str (Str.ofString "कि") 632)⟩, ⟨PyData.keyHash P (Str.ofString "substring_i"), .str (Str.ofString "substring_i") 638, (.int (-1) 634)⟩, ⟨PyData.keyHash P (Str.ofString "result"), .str (Str.ofString "result") 639, (.int 2 635)⟩] 4), #[]⟩
noncomputable def o_288 (P : Params) : Obj := ⟨(.type "dict"), none, (.dict #[⟨PyData.keyHash P (Str.ofString "s"), .str (Str.ofString "s") 655, (.str (Str.ofString "पछि") 646)⟩, ⟨PyData.keyHash P (Str.ofString "substring_i"), .str (Str.ofString "substring_i") 657, (.int (-1) 648)⟩, ⟨PyData.keyHash P (Str.ofString "result"), .str (Str.ofString "result") 659, (.int 1 649)⟩] 3), #[]⟩
noncomputable def o_289 (P : Params) : Obj := ⟨(.ref 218), (some 288), .plain, #[]⟩
noncomputable def o_290 (P : Params) : Obj := ⟨(.type "frame"), none, (.dict #[⟨PyData.keyHash P (Str.ofString "self"), .str (Str.ofString "self") 650, (.ref 289)⟩, ⟨PyData.keyHash P (Str.ofString "s"), .str (Str.ofString "s") 651, (.str (Str.ofString "पछि") 646)⟩, ⟨PyData.keyHash P (Str.ofString "substring_i"), .str (Str.ofString "substring_i") 652, (.int (-1) 648)⟩, ⟨PyData.keyHash P (Str.ofString "result"), .str (Str.ofString "result") 653, (.int 1 649)⟩] 4), #[]⟩
noncomputable def o_291 (P : Params) : Obj := ⟨(.type "dict"), none, (.dict #[⟨PyData.keyHash P (Str.ofString "s"), .str (Str.ofString "s") 669, (.str (Str.ofString "की") 660)⟩, ⟨PyData.keyHash P (Str.ofString "substring_i"), .str (Str.ofString "substring_i") 671, (.int (-1) 662)⟩, ⟨PyData.keyHash P (Str.ofString "result"), .str (Str.ofString "result") 673, (.int 2 663)⟩] 3), #[]⟩
noncomputable def o_292 (P : Params) : Obj := ⟨(.ref 218), (some 291), .plain, #[]⟩
noncomputable def o_293 (P : Params) : Obj := ⟨(.type "frame"), none, (.dict #[⟨PyData.keyHash P (Str.ofString "self"), .str (Str.ofString "self") 664, (.ref 292)⟩, ⟨PyData.keyHash P (Str.ofString "s"), .str (Str.ofString "s") 665, (.str (Str.ofString "की") 660)⟩, ⟨PyData.keyHash P (Str.ofString "substring_i"), .str (Str.ofString "substring_i") 666, (.int (-1) 662)⟩, ⟨PyData.keyHash P (Str.ofString "result"), .str (Str.ofString "result") 667, (.int 2 663)⟩] 4), #[]⟩
noncomputable def o_294 (P : Params) : Obj := ⟨(.type "dict"), none, (.dict #[⟨PyData.keyHash P (Str.ofString "s"), .str (Str.ofString "s") 683, (.str (Str.ofString "ले") 674)⟩, ⟨PyData.keyHash P (Str.ofString "substring_i"), .str (Str.ofString "substring_i") 685, (.int (-1) 676)⟩, ⟨PyData.keyHash P (Str.ofString "result"), .str (Str.ofString "result") 687, (.int 1 677)⟩] 3), #[]⟩
noncomputable def o_295 (P : Params) : Obj := ⟨(.ref 218), (some 294), .plain, #[]⟩
noncomputable def o_296 (P : Params) : Obj := ⟨(.type "frame"), none, (.dict #[⟨PyData.keyHash P (Str.ofString "self"), .str (Str.ofString "self") 678, (.ref 295)⟩, ⟨PyData.keyHash P (Str.ofString "s"), .str (Str.ofString "s") 679, (.str (Str.ofString "ले") 674)⟩, ⟨PyData.keyHash P (Str.ofString "substring_i"), .str (Str.ofString "substring_i") 680, (.int (-1) 676)⟩, ⟨PyData.keyHash P (Str.ofString "result"), .str (Str.ofString "result") 681, (.int 1 677)⟩] 4), #[]⟩
noncomputable def o_297 (P : Params) : Obj := ⟨(.type "dict"), none, (.dict #[⟨PyData.keyHash P (Str.ofString "s"), .str (Str.ofString "s") 697, (.str (Str.ofString "कै") 688)⟩, ⟨PyData.keyHash P (Str.ofString "substring_i"), .str (Str.ofString "substring_i") 699, (.int (-1) 690)⟩, ⟨PyData.keyHash P (Str.ofString "result"), .str (Str.ofString "result") 701, (.int 2 691)⟩] 3), #[]⟩
noncomputable def o_298 (P : Params) : Obj := ⟨(.ref 218), (some 297), .plain, #[]⟩
noncomputable def o_299 (P : Params) : Obj := ⟨(.type "frame"), none, (.dict #[⟨PyData.keyHash P (Str.ofString "self"), .str (Str.ofString "self") 692, (.ref 298)⟩, ⟨PyData.keyHash P (Str.ofString "s"), .str (Str.ofString "s") 693, (.str (Str.ofString "कै") 688)⟩, ⟨PyData.keyHash P (Str.ofString "substring_i"), .str (Str.ofString "substring_i") 694, (.int (-1) 690)⟩, ⟨PyData.keyHash P (Str.ofString "result"), .str (Str.ofString "result") 695, (.int 2 691)⟩] 4), #[]⟩
noncomputable def o_300 (P : Params) : Obj := ⟨(.type "dict"), none, (.dict #[⟨PyData.keyHash P (Str.ofString "s"), .str (Str.ofString "s") 711, (.str (Str.ofString "सँगै") 702)⟩, ⟨PyData.keyHash P (Str.ofString "substring_i"), .str (Str.ofString "substring_i") 713, (.int (-1) 704)⟩, ⟨PyData.keyHash P (Str.ofString "result"), .str (Str.ofString "result") 715, (.int 1 705)⟩] 3), #[]⟩
noncomputable def o_301 (P : Params) : Obj := ⟨(.ref 218), (some 300), .plain, #[]⟩
noncomputable def o_302 (P : Params) : Obj := ⟨(.type "frame"), none, (.dict #[⟨PyData.keyHash P (Str.ofString "self"), .str (Str.ofString "self") 706, (.ref 301)⟩, ⟨PyData.keyHash P (Str.ofString "s"), .str (Str.ofString "s") 707, (.str (Str.ofString "सँगै") 702)⟩, ⟨PyData.keyHash P (Str.ofString "substring_i"), .str (Str.ofString "substring_i") 708, (.int (-1) 704)⟩, ⟨PyData.keyHash P (Str.ofString "result"), .str (Str.ofString "result") 709, (.int 1 705)⟩] 4), #[]⟩
noncomputable def o_303 (P : Params) : Obj := ⟨(.type "dict"), none, (.dict #[⟨PyData.keyHash P (Str.ofString "s"), .str (Str.ofString "s") 725, (.str (Str.ofString "मै") 716)⟩, ⟨PyData.keyHash P (Str.ofString "substring_i"), .str (Str.ofString "substring_i") 727, (.int (-1) 718)⟩, ⟨PyData.keyHash P (Str.ofString "result"), .str (Str.ofString "result") 729, (.int 1 719)⟩] 3), #[]⟩
noncomputable def o_304 (P : Params) : Obj := ⟨(.ref 218), (some 303), .plain, #[]⟩
noncomputable def o_305 (P : Params) : Obj := ⟨(.type "frame"), none, (.dict #[⟨PyData.keyHash P (Str.ofString "self"), .str (Str.ofString "self") 720, (.ref 304)⟩, ⟨PyData.keyHash P (Str.ofString "s"), .str (Str.ofString "s") 721, (.str (Str.ofString "मै") 716)⟩, ⟨PyData.keyHash P (Str.ofString "substring_i"), .str (Str.ofString "substring_i") 722, (.int (-1) 718)⟩, ⟨PyData.keyHash P (Str.ofString "result"), .str (Str.ofString "result") 723, (.int 1 719)⟩] 4), #[]⟩
noncomputable def o_306 (P : Params) : Obj := ⟨(.type "dict"), none, (.dict #[⟨PyData.keyHash P (Str.ofString "s"), .str (Str.ofString "s") 739, (.str (Str.ofString "को") 730)⟩, ⟨PyData.keyHash P (Str.ofString "substring_i"), .str (Str.ofString "substring_i") 741, (.int (-1) 732)⟩, ⟨PyData.keyHash P (Str.ofString "result"), .str (Str.ofString "result") 743, (.int 2 733)⟩] 3), #[]⟩
noncomputable def o_307 (P : Params) : Obj := ⟨(.ref 218), (some 306), .plain, #[]⟩
noncomputable def o_308 (P : Params) : Obj := ⟨(.type "frame"), none, (.dict #[⟨PyData.keyHash P (Str.ofString "self"), .str (Str.ofString "self") 734, (.ref 307)⟩, ⟨PyData.keyHash P (Str.ofString "s"), .str (Str.ofString "s") 735, (.str (Str.ofString "को") 730)⟩, ⟨PyData.keyHash P (Str.ofString "substring_i"), .str (Str.ofString "substring_i") 736, (.int (-1) 732)⟩, ⟨PyData.keyHash P (Str.ofString "result"), .str (Str.ofString "result") 737, (.int 2 733)⟩] 4), #[]⟩
noncomputable def o_309 (P : Params) : Obj := ⟨(.type "list"), none, (.seq #[(.ref 259), (.ref 262), (.ref 265), (.ref 268), (.ref 271), (.ref 274), (.ref 277), (.ref 280), (.ref 283), (.ref 286), (.ref 289), (.ref 292), (.ref 295), (.ref 298), (.ref 301), (.ref 304), (.ref 307)] 0), #[]⟩
noncomputable def o_310 (P : Params) : Obj := ⟨(.type "dict"), none, (.dict #[⟨PyData.keyHash P (Str.ofString "s"), .str (Str.ofString "s") 754, (.str (Str.ofString "ँ") 745)⟩, ⟨PyData.keyHash P (Str.ofString "substring_i"), .str (Str.ofString "substring_i") 756, (.int (-1) 747)⟩, ⟨PyData.keyHash P (Str.ofString "result"), .str (Str.ofString "result") 758, (.int 1 748)⟩] 3), #[]⟩
noncomputable def o_311 (P : Params) : Obj := ⟨(.ref 218), (some 310), .plain, #[]⟩
noncomputable def o_312 (P : Params) : Obj := ⟨(.type "frame"), none, (.dict #[⟨PyData.keyHash P (Str.ofString "self"), .str (Str.ofString "self") 749, (.ref 311)⟩, ⟨PyData.keyHash P (Str.ofString "s"), .str (Str.ofString "s") 750, (.str (Str.ofString "ँ") 745)⟩, ⟨PyData.keyHash P (Str.ofString "substring_i"), .str (Str.ofString "substring_i") 751, (.int (-1) 747)⟩, ⟨PyData.keyHash P (Str.ofString "result"), .str (Str.ofString "result") 752, (.int 1 748)⟩] 4), #[]⟩
noncomputable def o_313 (P : Params) : Obj := ⟨(.type "dict"), none, (.dict #[⟨PyData.keyHash P (Str.ofString "s"), .str (Str.ofString "s") 768, (.str (Str.ofString "ं") 759)⟩, ⟨PyData.keyHash P (Str.ofString "substring_i"), .str (Str.ofString "substring_i") 770, (.int (-1) 761)⟩, ⟨PyData.keyHash P (Str.ofString "result"), .str (Str.ofString "result") 772, (.int 1 762)⟩] 3), #[]⟩
noncomputable def o_314 (P : Params) : Obj := ⟨(.ref 218), (some 313), .plain, #[]⟩
noncomputable def o_315 (P : Params) : Obj := ⟨(.type "frame"), none, (.dict #[⟨PyData.keyHash P (Str.ofString "self"), .str (Str.ofString "self") 763, (.ref 314)⟩, ⟨PyData.keyHash P (Str.ofString "s"), .str (Str.ofString "s") 764, (.str (Str.ofString "ं") 759)⟩, ⟨PyData.keyHash P (Str.ofString "substring_i"), .str (Str.ofString "substring_i") 765, (.int (-1) 761)⟩, ⟨PyData.keyHash P (Str.ofString "result"), .str (Str.ofString "result") 766, (.int 1 762)⟩] 4), #[]⟩
noncomputable def o_316 (P : Params) : Obj := ⟨(.type "dict"), none, (.dict #[⟨PyData.keyHash P (Str.ofString "s"), .str (Str.ofString "s") 782, (.str (Str.ofString "ै") 773)⟩, ⟨PyData.keyHash P (Str.ofString "substring_i"), .str (Str.ofString "substring_i") 784, (.int (-1) 775)⟩, ⟨PyData.keyHash P (Str.ofString "result"), .str (Str.ofString "result") 786, (.int 2 776)⟩] 3), #[]⟩
noncomputable def o_317 (P : Params) : Obj := ⟨(.ref 218), (some 316), .plain, #[]⟩
noncomputable def o_318 (P : Params) : Obj := ⟨(.type "frame"), none, (.dict #[⟨PyData.keyHash P (Str.ofString "self"), .str (Str.ofString "self") 777, (.ref 317)⟩, ⟨PyData.keyHash P (Str.ofString "s"), .str (Str.ofString "s") 778, (.str (Str.ofString "ै") 773)⟩, ⟨PyData.keyHash P (Str.ofString "substring_i"), .str (Str.ofString "substring_i") 779, (.int (-1) 775)⟩, ⟨PyData.keyHash P (Str.ofString "result"), .str (Str.ofString "result") 780, (.int 2 776)⟩] 4), #[]⟩
noncomputable def o_319 (P : Params) : Obj := ⟨(.type "list"), none, (.seq #[(.ref 311), (.ref 314), (.ref 317)] 0), #[]⟩
noncomputable def o_320 (P : Params) : Obj := ⟨(.type "dict"), none, (.dict #[⟨PyData.keyHash P (Str.ofString "s"), .str (Str.ofString "s") 797, (.str (Str.ofString "थिए") 788)⟩, ⟨PyData.keyHash P (Str.ofString "substring_i"), .str (Str.ofString "substring_i") 799, (.int (-1) 790)⟩, ⟨PyData.keyHash P (Str.ofString "result"), .str (Str.ofString "result") 801, (.int 1 791)⟩] 3), #[]⟩
noncomputable def o_321 (P : Params) : Obj := ⟨(.ref 218), (some 320), .plain, #[]⟩
noncomputable def o_322 (P : Params) : Obj := ⟨(.type "frame"), none, (.dict #[⟨PyData.keyHash P (Str.ofString "self"), .str (Str.ofString "self") 792, (.ref 321)⟩, ⟨PyData.keyHash P (Str.ofString "s"), .str (Str.ofString "s") 793, (.str (Str.ofString "थिए") 788)⟩, ⟨PyData.keyHash P (Str.ofString "substring_i"), .str (Str.ofString "substring_i") 794, (.int (-1) 790)⟩, ⟨PyData.keyHash P (Str.ofString "result"), .str (Str.ofString "result") 795, (.int 1 791)⟩] 4), #[]⟩
noncomputable def o_323 (P : Params) : Obj := ⟨(.type "dict"), none, (.dict #[⟨PyData.keyHash P (Str.ofString "s"), .str (Str.ofString "s") 811, (.str (Str.ofString "छ") 802)⟩, ⟨PyData.keyHash P (Str.ofString "substring_i"), .str (Str.ofString "substring_i") 813, (.int (-1) 804)⟩, ⟨PyData.keyHash P (Str.ofString "result"), .str (Str.ofString "result") 815, (.int 1 805)⟩] 3), #[]⟩
noncomputable def o_324 (P : Params) : Obj := ⟨(.ref 218), (some 323), .plain, #[]⟩
noncomputable def o_325 (P : Params) : Obj := ⟨(.type "frame"), none, (.dict #[⟨PyData.keyHash P (Str.ofString "self"), .str (Str.ofString "self") 806, (.ref 324)⟩, ⟨PyData.keyHash P (Str.ofString "s"), .str (Str.ofString "s") 807, (.str (Str.ofString "छ") 802)⟩, ⟨PyData.keyHash P (Str.ofString "substring_i"), .str (Str.ofString "substring_i") 808, (.int (-1) 804)⟩, ⟨PyData.keyHash P (Str.ofString "result"), .str (Str.ofString "result") 809, (.int 1 805)⟩] 4), #[]⟩
noncomputable def o_326 (P : Params) : Obj := ⟨(.type "dict"), none, (.dict #[⟨PyData.keyHash P (Str.ofString "s"), .str (Str.ofString "s") 824, (.str (Str.ofString "इछ") 816)⟩, ⟨PyData.keyHash P (Str.ofString "substring_i"), .str (Str.ofString "substring_i") 826, (.int 1 817)⟩, ⟨PyData.keyHash P (Str.ofString "result"), .str (Str.ofString "result") 828, (.int 1 818)⟩] 3), #[]⟩
noncomputable def o_327 (P : Params) : Obj := ⟨(.ref 218), (some 326), .plain, #[]⟩
noncomputable def o_328 (P : Params) : Obj := ⟨(.type "frame"), none, (.dict #[⟨PyData.keyHash P (Str.ofString "self"), .str (Str.ofString "self") 819, (.ref 327)⟩, ⟨PyData.keyHash P (Str.ofString "s"), .str (Str.ofString "s") 820, (.str (Str.ofString "इछ") 816)⟩, ⟨PyData.keyHash P (Str.ofString "substring_i"), .str (Str.ofString "substring_i") 821, (.int 1 817)⟩, ⟨PyData.keyHash P (Str.ofString "result"), .str (Str.ofString "result") 822, (.int 1 818)⟩] 4), #[]⟩
noncomputable def o_329 (P : Params) : Obj := ⟨(.type "dict"), none, (.dict #[⟨PyData.keyHash P (Str.ofString "s"), .str (Str.ofString "s") 837, (.str (Str.ofString "एछ") 829)⟩, ⟨PyData.keyHash P (Str.ofString "substring_i"), .str (Str.ofString "substring_i") 839, (.int 1 830)⟩, ⟨PyData.keyHash P (Str.ofString "result"), .str (Str.ofString "result") 841, (.int 1 831)⟩] 3), #[]⟩
noncomputable def o_330 (P : Params) : Obj := ⟨(.ref 218), (some 329), .plain, #[]⟩
noncomputable def o_331 (P : Params) : Obj := ⟨(.type "frame"), none, (.dict #[⟨PyData.keyHash P (Str.ofString "self"), .str (Str.ofString "self") 832, (.ref 330)⟩, ⟨PyData.keyHash P (Str.ofString "s"), .str (Str.ofString "s") 833, (.str (Str.ofString "एछ") 829)⟩, ⟨PyData.keyHash P (Str.ofString "substring_i"), .str (Str.ofString "substring_i") 834, (.int 1 830)⟩, ⟨PyData.keyHash P (Str.ofString "result"), .str (Str.ofString "result") 835, (.int 1 831)⟩] 4), #[]⟩
noncomputable def o_332 (P : Params) : Obj := ⟨(.type "dict"), none, (.dict #[⟨PyData.keyHash P (Str.ofString "s"), .str (Str.ofString "s") 850, (.str (Str.ofString "िछ") 842)⟩, ⟨PyData.keyHash P (Str.ofString "substring_i"), .str (Str.ofString "substring_i") 852, (.int 1 843)⟩, ⟨PyData.keyHash P (Str.ofString "result"), .str (Str.ofString "result") 854, (.int 1 844)⟩] 3), #[]⟩
noncomputable def o_333 (P : Params) : Obj := ⟨(.ref 218), (some 332), .plain, #[]⟩
noncomputable def o_334 (P : Params) : Obj := ⟨(.type "frame"), none, (.dict #[⟨PyData.keyHash P (Str.ofString "self"), .str (Str.ofString "self") 845, (.ref 333)⟩, ⟨PyData.keyHash P (Str.ofString "s"), .str (Str.ofString "s") 846, (.str (Str.ofString "िछ") 842)⟩, ⟨PyData.keyHash P (Str.ofString "substring_i"), .str (Str.ofString "substring_i") 847, (.int 1 843)⟩, ⟨PyData.keyHash P (Str.ofString "result"), .str (Str.ofString "result") 848, (.int 1 844)⟩] 4), #[]⟩
noncomputable def o_335 (P : Params) : Obj := ⟨(.type "dict"), none, (.dict #[⟨PyData.keyHash P (Str.ofString "s"), .str (Str.ofString "s") 863, (.str (Str.ofString "ेछ") 855)⟩, ⟨PyData.keyHash P (Str.ofString "substring_i"), .str (Str.ofString "substring_i") 865, (.int 1 856)⟩, ⟨PyData.keyHash P (Str.ofString "result"), .str (Str.ofString "result") 867, (.int 1 857)⟩] 3), #[]⟩
noncomputable def o_336 (P : Params) : Obj := ⟨(.ref 218), (some 335), .plain, #[]⟩
noncomputable def o_337 (P : Params) : Obj := ⟨(.type "frame"), none, (.dict #[⟨PyData.keyHash P (Str.ofString "self"), .str (Str.ofString "self") 858, (.ref 336)⟩, ⟨PyData.keyHash P (Str.ofString "s"), .str (Str.ofString "s") 859, (.str (Str.ofString "ेछ") 855)⟩, ⟨PyData.keyHash P (Str.ofString "substring_i"), .str (Str.ofString "substring_i") 860, (.int 1 856)⟩, ⟨PyData.keyHash P (Str.ofString "result"), .str (Str.ofString "result") 861, (.int 1 857)⟩] 4), #[]⟩
noncomputable def o_338 (P : Params) : Obj := ⟨(.type "dict"), none, (.dict #[⟨PyData.keyHash P (Str.ofString "s"), .str (Str.ofString "s") 876, (.str (Str.ofString "नेछ") 868)⟩, ⟨PyData.keyHash P (Str.ofString "substring_i"), .str (Str.ofString "substring_i") 878, (.int 5 869)⟩, ⟨PyData.keyHash P (Str.ofString "result"), .str (Str.ofString "result") 880, (.int 1 870)⟩] 3), #[]⟩
noncomputable def o_339 (P : Params) : Obj := ⟨(.ref 218), (some 338), .plain, #[]⟩
noncomputable def o_340 (P : Params) : Obj := ⟨(.type "frame"), none, (.dict #[⟨PyData.keyHash P (Str.ofString "self"), .str (Str.ofString "self") 871, (.ref 339)⟩, ⟨PyData.keyHash P (Str.ofString "s"), .str (Str.ofString "s") 872, (.str (Str.ofString "नेछ") 868)⟩, ⟨PyData.keyHash P (Str.ofString "substring_i"), .str (Str.ofString "substring_i") 873, (.int 5 869)⟩, ⟨PyData.keyHash P (Str.ofString "result"), .str (Str.ofString "result") 874, (.int 1 870)⟩] 4), #[]⟩
noncomputable def o_341 (P : Params) : Obj := ⟨(.type "dict"), none, (.dict #[⟨PyData.keyHash P (Str.ofString "s"), .str (Str.ofString "s") 889, (.str (Str.ofString "हुनेछ") 881)⟩, ⟨PyData.keyHash P (Str.ofString "substring_i"), .str (Str.ofString "substring_i") 891, (.int 6 882)⟩, ⟨PyData.keyHash P (Str.ofString "result"), .str (Str.ofString "result") 893, (.int 1 883)⟩] 3), #[]⟩
noncomputable def o_342 (P : Params) : Obj := ⟨(.ref 218), (some 341), .plain, #[]⟩
noncomputable def o_343 (P : Params) : Obj := ⟨(.type "frame"), none, (.dict #[⟨PyData.keyHash P (Str.ofString "self"), .str (Str.ofString "self") 884, (.ref 342)⟩, ⟨PyData.keyHash P (Str.ofString "s"), .str (Str.ofString "s") 885, (.str (Str.ofString "हुनेछ") 881)⟩, ⟨PyData.keyHash P (Str.ofString "substring_i"), .str (Str.ofString "substring_i") 886, (.int 6 882)⟩, ⟨PyData.keyHash P (Str.ofString "result"), .str (Str.ofString "result") 887, (.int 1 883)⟩] 4), #[]⟩
noncomputable def o_344 (P : Params) : Obj := ⟨(.type "dict"), none, (.dict #[⟨PyData.keyHash P (Str.ofString "s"), .str (Str.ofString "s") 902, (.str (Str.ofString "इन्छ") 894)⟩, ⟨PyData.keyHash P (Str.ofString "substring_i"), .str (Str.ofString "substring_i") 904, (.int 1 895)⟩, ⟨PyData.keyHash P (Str.ofString "result"), .str (Str.ofString "result") 906, (.int 1 896)⟩] 3), #[]⟩
noncomputable def o_345 (P : Params) : Obj := ⟨(.ref 218), (some 344), .plain, #[]⟩
noncomputable def o_346 (P : Params) : Obj := ⟨(.type "frame"), none, (.dict #[⟨PyData.keyHash P (Str.ofString "self"), .str (Str.ofString "self") 897, (.ref 345)⟩, ⟨PyData.keyHash P (Str.ofString "s"), .str (Str.ofString "s") 898, (.str (Str.ofString "इन्छ") 894)⟩, ⟨PyData.keyHash P (Str.ofString "substring_i"), .str (Str.ofString "substring_i") 899, (.int 1 895)⟩, ⟨PyData.keyHash P (Str.ofString "result"), .str (Str.ofString "result") 900, (.int 1 896)⟩] 4), #[]⟩
noncomputable def o_347 (P : Params) : Obj := ⟨(.type "dict"), none, (.dict #[⟨PyData.keyHash P (Str.ofString "s"), .str (Str.ofString "s") 915, (.str (Str.ofString "िन्छ") 907)⟩, ⟨PyData.keyHash P (Str.ofString "substring_i"), .str (Str.ofString "substring_i") 917, (.int 1 908)⟩, ⟨PyData.keyHash P (Str.ofString "result"), .str (Str.ofString "result") 919, (.int 1 909)⟩] 3), #[]⟩
noncomputable def o_348 (P : Params) : Obj := ⟨(.ref 218), (some 347), .plain, #[]⟩
noncomputable def o_349 (P : Params) : Obj := ⟨(.type "frame"), none, (.dict #[⟨PyData.keyHash P (Str.ofString "self"), .str (Str.ofString "self") 910, (.ref 348)⟩, ⟨PyData.keyHash P (Str.ofString "s"), .str (Str.ofString "s") 911, (.str (Str.ofString "िन्छ") 907)⟩, ⟨PyData.keyHash P (Str.ofString "substring_i"), .str (Str.ofString "substring_i") 912, (.int 1 908)⟩, ⟨PyData.keyHash P (Str.ofString "result"), .str (Str.ofString "result") 913, (.int 1 909)⟩] 4), #[]⟩
noncomputable def o_350 (P : Params) : Obj := ⟨(.type "dict"), none, (.dict #[⟨PyData.keyHash P (Str.ofString "s"), .str (Str.ofString "s") 928, (.str (Str.ofString "हुन्छ") 920)⟩, ⟨PyData.keyHash P (Str.ofString "substring_i"), .str (Str.ofString "substring_i") 930, (.int 1 921)⟩, ⟨PyData.keyHash P (Str.ofString "result"), .str (Str.ofString "result") 932, (.int 1 922)⟩] 3), #[]⟩
noncomputable def o_351 (P : Params) : Obj := ⟨(.ref 218), (some 350), .plain, #[]⟩
noncomputable def o_352 (P : Params) : Obj := ⟨(.type "frame"), none, (.dict #[⟨PyData.keyHash P (Str.ofString "self"), .str (Str.ofString "self") 923, (.ref 351)⟩, ⟨PyData.keyHash P (Str.ofString "s"), .str (Str.ofString "s") 924, (.str (Str.ofString "हुन्छ") 920)⟩, ⟨PyData.keyHash P (Str.ofString "substring_i"), .str (Str.ofString "substring_i") 925, (.int 1 921)⟩, ⟨PyData.keyHash P (Str.ofString "result"), .str (Str.ofString "result") 926, (.int 1 922)⟩] 4), #[]⟩
noncomputable def o_353 (P : Params) : Obj := ⟨(.type "dict"), none, (.dict #[⟨PyData.keyHash P (Str.ofString "s"), .str (Str.ofString "s") 942, (.str (Str.ofString "एका") 933)⟩, ⟨PyData.keyHash P (Str.ofString "substring_i"), .str (Str.ofString "substring_i") 944, (.int (-1) 935)⟩, ⟨PyData.keyHash P (Str.ofString "result"), .str (Str.ofString "result") 946, (.int 1 936)⟩] 3), #[]⟩
noncomputable def o_354 (P : Params) : Obj := ⟨(.ref 218), (some 353), .plain, #[]⟩
noncomputable def o_355 (P : Params) : Obj := ⟨(.type "frame"), none, (.dict #[⟨PyData.keyHash P (Str.ofString "self"), .str (Str.ofString "self") 937, (.ref 354)⟩, ⟨PyData.keyHash P (Str.ofString "s"), .str (Str.ofString "s") 938, (.str (Str.ofString "एका") 933)⟩, ⟨PyData.keyHash P (Str.ofString "substring_i"), .str (Str.ofString "substring_i") 939, (.int (-1) 935)⟩, ⟨PyData.keyHash P (Str.ofString "result"), .str (Str.ofString "result") 940, (.int 1 936)⟩] 4), #[]⟩
noncomputable def o_356 (P : Params) : Obj := ⟨(.type "dict"), none, (.dict #[⟨PyData.keyHash P (Str.ofString "s"), .str (Str.ofString "s") 955, (.str (Str.ofString "इएका") 947)⟩, ⟨PyData.keyHash P (Str.ofString "substring_i"), .str (Str.ofString "substring_i") 957, (.int 11 948)⟩, ⟨PyData.keyHash P (Str.ofString "result"), .str (Str.ofString "result") 959, (.int 1 949)⟩] 3), #[]⟩
noncomputable def o_357 (P : Params) : Obj := ⟨(.ref 218), (some 356), .plain, #[]⟩
noncomputable def o_358 (P : Params) : Obj := ⟨(.type "frame"), none, (.dict #[⟨PyData.keyHash P (Str.ofString "self"), .str (Str.ofString "self") 950, (.ref 357)⟩, ⟨PyData.keyHash P (Str.ofString "s"), .str (Str.ofString "s") 951, (.str (Str.ofString "इएका") 947)⟩, ⟨PyData.keyHash P (Str.ofString "substring_i"), .str (Str.ofString "substring_i") 952, (.int 11 948)⟩, ⟨PyData.keyHash P (Str.ofString "result"), .str (Str.ofString "result") 953, (.int 1 949)⟩] 4), #[]⟩
noncomputable def o_359 (P : Params) : Obj := ⟨(.type "dict"), none, (.dict #[⟨PyData.keyHash P (Str.ofString "s"), .str (Str.ofString "s") 968, (.str (Str.ofString "िएका") 960)⟩, ⟨PyData.keyHash P (Str.ofString "substring_i"), .str (Str.ofString "substring_i") 970, (.int 11 961)⟩, ⟨PyData.keyHash P (Str.ofString "result"), .str (Str.ofString "result") 972, (.int 1 962)⟩] 3), #[]⟩
noncomputable def o_360 (P : Params) : Obj := ⟨(.ref 218), (some 359), .plain, #[]⟩
noncomputable def o_361 (P : Params) : Obj := ⟨(.type "frame"), none, (.dict #[⟨PyData.keyHash P (Str.ofString "self"), .str (Str.ofString "self") 963, (.ref 360)⟩, ⟨PyData.keyHash P (Str.ofString "s"), .str (Str.ofString "s") 964, (.str (Str.ofString "िएका") 960)⟩, ⟨PyData.keyHash P (Str.ofString "substring_i"), .str (Str.ofString "substring_i") 965, (.int 11 961)⟩, ⟨PyData.keyHash P (Str.ofString "result"), .str (Str.ofString "result") 966, (.int 1 962)⟩] 4), #[]⟩
noncomputable def o_362 (P : Params) : Obj := ⟨(.type "dict"), none, (.dict #[⟨PyData.keyHash P (Str.ofString "s"), .str (Str.ofString "s") 982, (.str (Str.ofString "ेका") 973)⟩, ⟨PyData.keyHash P (Str.ofString "substring_i"), .str (Str.ofString "substring_i") 984, (.int (-1) 975)⟩, ⟨PyData.keyHash P (Str.ofString "result"), .str (Str.ofString "result") 986, (.int 1 976)⟩] 3), #[]⟩
noncomputable def o_363 (P : Params) : Obj := ⟨(.ref 218), (some 362), .plain, #[]⟩
noncomputable def o_364 (P : Params) : Obj := ⟨(.type "frame"), none, (.dict #[⟨PyData.keyHash P (Str.ofString "self"), .str (Str.ofString "self") 977, (.ref 363)⟩, ⟨PyData.keyHash P (Str.ofString "s"), .str (Str.ofString "s") 978, (.str (Str.ofString "ेका") 973)⟩, ⟨PyData.keyHash P (Str.ofString "substring_i"), .str (Str.ofString "substring_i") 979, (.int (-1) 975)⟩, ⟨PyData.keyHash P (Str.ofString "result"), .str (Str.ofString "result") 980, (.int 1 976)⟩] 4), #[]⟩
noncomputable def o_365 (P : Params) : Obj := ⟨(.type "dict"), none, (.dict #[⟨PyData.keyHash P (Str.ofString "s"), .str (Str.ofString "s") 995, (.str (Str.ofString "नेका") 987)⟩, ⟨PyData.keyHash P (Str.ofString "substring_i"), .str (Str.ofString "substring_i") 997, (.int 14 988)⟩, ⟨PyData.keyHash P (Str.ofString "result"), .str (Str.ofString "result") 999, (.int 1 989)⟩] 3), #[]⟩
noncomputable def o_366 (P : Params) : Obj := ⟨(.ref 218), (some 365), .plain, #[]⟩
noncomputable def o_367 (P : Params) : Obj := ⟨(.type "frame"), none, (.dict #[⟨PyData.keyHash P (Str.ofString "self"), .str (Str.ofString "self") 990, (.ref 366)⟩, ⟨PyData.keyHash P (Str.ofString "s"), .str (Str.ofString "s") 991, (.str (Str.ofString "नेका") 987)⟩, ⟨PyData.keyHash P (Str.ofString "substring_i"), .str (Str.ofString "substring_i") 992, (.int 14 988)⟩, ⟨PyData.keyHash P (Str.ofString "result"), .str (Str.ofString "result") 993, (.int 1 989)⟩] 4), #[]⟩
noncomputable def o_368 (P : Params) : Obj := ⟨(.type "dict"), none, (.dict #[⟨PyData.keyHash P (Str.ofString "s"), .str (Str.ofString "s") 1009, (.str (Str.ofString "दा") 1000)⟩, ⟨PyData.keyHash P (Str.ofString "substring_i"), .str (Str.ofString "substring_i") 1011, (.int (-1) 1002)⟩, ⟨PyData.keyHash P (Str.ofString "result"), .str (Str.ofString "result") 1013, (.int 1 1003)⟩] 3), #[]⟩
noncomputable def o_369 (P : Params) : Obj := ⟨(.ref 218), (some 368), .plain, #[]⟩
noncomputable def o_370 (P : Params) : Obj := ⟨(.type "frame"), none, (.dict #[⟨PyData.keyHash P (Str.ofString "self"), .str (Str.ofString "self") 1004, (.ref 369)⟩, ⟨PyData.keyHash P (Str.ofString "s"), .str (Str.ofString "s") 1005, (.str (Str.ofString "दा") 1000)⟩, ⟨PyData.keyHash P (Str.ofString "substring_i"), .str (Str.ofString "substring_i") 1006, (.int (-1) 1002)⟩, ⟨PyData.keyHash P (Str.ofString "result"), .str (Str.ofString "result") 1007, (.int 1 1003)⟩] 4), #[]⟩
noncomputable def o_371 (P : Params) : Obj := ⟨(.type "dict"), none, (.dict #[⟨PyData.keyHash P (Str.ofString "s"), .str (Str.ofString "s") 1022, (.str (Str.ofString "इदा") 1014)⟩, ⟨PyData.keyHash P (Str.ofString "substring_i"), .str (Str.ofString "substring_i") 1024, (.int 16 1015)⟩, ⟨PyData.keyHash P (Str.ofString "result"), .str (Str.ofString "result") 1026, (.int 1 1016)⟩] 3), #[]⟩
noncomputable def o_372 (P : Params) : Obj := ⟨(.ref 218), (some 371), .plain, #[]⟩
noncomputable def o_373 (P : Params) : Obj := ⟨(.type "frame"), none, (.dict #[⟨PyData.keyHash P (Str.ofString "self"), .str (Str.ofString "self") 1017, (.ref 372)⟩, ⟨PyData.keyHash P (Str.ofString "s"), .str (Str.ofString "s") 1018, (.str (Str.ofString "इदा") 1014)⟩, ⟨PyData.keyHash P (Str.ofString "substring_i"), .str (Str.ofString "substring_i") 1019, (.int 16 1015)⟩, ⟨PyData.keyHash P (Str.ofString "result"), .str (Str.ofString "result") 1020, (.int 1 1016)⟩] 4), #[]⟩
noncomputable def o_374 (P : Params) : Obj := ⟨(.type "dict"), none, (.dict #[⟨PyData.keyHash P (Str.ofString "s"), .str (Str.ofString "s") 1035, (.str (Str.ofString "िदा") 1027)⟩, ⟨PyData.keyHash P (Str.ofString "substring_i"), .str (Str.ofString "substring_i") 1037, (.int 16 1028)⟩, ⟨PyData.keyHash P (Str.ofString "result"), .str (Str.ofString "result") 1039, (.int 1 1029)⟩] 3), #[]⟩
noncomputable def o_375 (P : Params) : Obj := ⟨(.ref 218), (some 374), .plain, #[]⟩
noncomputable def o_376 (P : Params) : Obj := ⟨(.type "frame"), none, (.dict #[⟨PyData.keyHash P (Str.ofString "self"), .str (Str.ofString "self") 1030, (.ref 375)⟩, ⟨PyData.keyHash P (Str.ofString "s"), .str (Str.ofString "s") 1031, (.str (Str.ofString "िदा") 1027)⟩, ⟨PyData.keyHash P (Str.ofString "substring_i"), .str (Str.ofString "substring_i") 1032, (.int 16 1028)⟩, ⟨PyData.keyHash P (Str.ofString "result"), .str (Str.ofString "result") 1033, (.int 1 1029)⟩] 4), #[]⟩
noncomputable def o_377 (P : Params) : Obj := ⟨(.type "dict"), none, (.dict #[⟨PyData.keyHash P (Str.ofString "s"), .str (Str.ofString "s") 1049, (.str (Str.ofString "देखि") 1040)⟩, ⟨PyData.keyHash P (Str.ofString "substring_i"), .str (Str.ofString "substring_i") 1051, (.int (-1) 1042)⟩, ⟨PyData.keyHash P (Str.ofString "result"), .str (Str.ofString "result") 1053, (.int 1 1043)⟩] 3), #[]⟩
noncomputable def o_378 (P : Params) : Obj := ⟨(.ref 218), (some 377), .plain, #[]⟩
noncomputable def o_379 (P : Params) : Obj := ⟨(.type "frame"), none, (.dict #[⟨PyData.keyHash P (Str.ofString "self"), .str (Str.ofString "self") 1044, (.ref 378)⟩, ⟨PyData.keyHash P (Str.ofString "s"), .str (Str.ofString "s") 1045, (.str (Str.ofString "देखि") 1040)⟩, ⟨PyData.keyHash P (Str.ofString "substring_i"), .str (Str.ofString "substring_i") 1046, (.int (-1) 1042)⟩, ⟨PyData.keyHash P (Str.ofString "result"), .str (Str.ofString "result") 1047, (.int 1 1043)⟩] 4), #[]⟩
noncomputable def o_380 (P : Params) : Obj := ⟨(.type "dict"), none, (.dict #[⟨PyData.keyHash P (Str.ofString "s"), .str (Str.ofString "s") 1063, (.str (Str.ofString "माथि") 1054)⟩, ⟨PyData.keyHash P (Str.ofString "substring_i"), .str (Str.ofString "substring_i") 1065, (.int (-1) 1056)⟩, ⟨PyData.keyHash P (Str.ofString "result"), .str (Str.ofString "result") 1067, (.int 1 1057)⟩] 3), #[]⟩
noncomputable def o_381 (P : Params) : Obj := ⟨(.ref 218), (some 380), .plain, #[]⟩
noncomputable def o_382 (P : Params) : Obj := ⟨(.type "frame"), none, (.dict #[⟨PyData.keyHash P (Str.ofString "self"), .str (Str.ofString "self") 1058, (.ref 381)⟩, ⟨PyData.keyHash P (Str.ofString "s"), .str (Str.ofString "s") 1059, (.str (Str.ofString "माथि") 1054)⟩, ⟨PyData.keyHash P (Str.ofString "substring_i"), .str (Str.ofString "substring_i") 1060, (.int (-1) 1056)⟩, ⟨PyData.keyHash P (Str.ofString "result"), .str (Str.ofString "result") 1061, (.int 1 1057)⟩] 4), #[]⟩
noncomputable def o_383 (P : Params) : Obj := ⟨(.type "dict"), none, (.dict #[⟨PyData.keyHash P (Str.ofString "s"), .str (Str.ofString "s") 1077, (.str (Str.ofString "एकी") 1068)⟩, ⟨PyData.keyHash P (Str.ofString "substring_i"), .str (Str.ofString "substring_i") 1079, (.int (-1) 1070)⟩, ⟨PyData.keyHash P (Str.ofString "result"), .str (Str.ofString "result") 1081, (.int 1 1071)⟩] 3), #[]⟩
noncomputable def o_384 (P : Params) : Obj := ⟨(.ref 218), (some 383), .plain, #[]⟩
noncomputable def o_385 (P : Params) : Obj := ⟨(.type "frame"), none, (.dict #[⟨PyData.keyHash P (Str.ofString "self"), .str (Str.ofString "self") 1072, (.ref 384)⟩, ⟨PyData.keyHash P (Str.ofString "s"), .str (Str.ofString "s") 1073, (.str (Str.ofString "एकी") 1068)⟩, ⟨PyData.keyHash P (Str.ofString "substring_i"), .str (Str.ofString "substring_i") 1074, (.int (-1) 1070)⟩, ⟨PyData.keyHash P (Str.ofString "result"), .str (Str.ofString "result") 1075, (.int 1 1071)⟩] 4), #[]⟩
noncomputable def o_386 (P : Params) : Obj := ⟨(.type "dict"), none, (.dict #[⟨PyData.keyHash P (Str.ofString "s"), .str (Str.ofString "s") 1090, (.str (Str.ofString "इएकी") 1082)⟩, ⟨PyData.keyHash P (Str.ofString "substring_i"), .str (Str.ofString "substring_i") 1092, (.int 21 1083)⟩, ⟨PyData.keyHash P (Str.ofString "result"), .str (Str.ofString "result") 1094, (.int 1 1084)⟩] 3), #[]⟩
noncomputable def o_387 (P : Params) : Obj := ⟨(.ref 218), (some 386), .plain, #[]⟩
noncomputable def o_388 (P : Params) : Obj := ⟨(.type "frame"), none, (.dict #[⟨PyData.keyHash P (Str.ofString "self"), .str (Str.ofString "self") 1085, (.ref 387)⟩, ⟨PyData.keyHash P (Str.ofString "s"), .str (Str.ofString "s") 1086, (.str (Str.ofString "इएकी") 1082)⟩, ⟨PyData.keyHash P (Str.ofString "substring_i"), .str (Str.ofString "substring_i") 1087, (.int 21 1083)⟩, ⟨PyData.keyHash P (Str.ofString "result"), .str (Str.ofString "result") 1088, (.int 1 1084)⟩] 4), #[]⟩
noncomputable def o_389 (P : Params) : Obj := ⟨(.type "dict"), none, (.dict #[⟨PyData.keyHash P (Str.ofString "s"), .str (Str.ofString "s") 1103, (.str (Str.ofString "िएकी") 1095)⟩, ⟨PyData.keyHash P (Str.ofString "substring_i"), .str (Str.ofString "substring_i") 1105, (.int 21 1096)⟩, ⟨PyData.keyHash P (Str.ofString "result"), .str (Str.ofString "result") 1107, (.int 1 1097)⟩] 3), #[]⟩
noncomputable def o_390 (P : Params) : Obj := ⟨(.ref 218), (some 389), .plain, #[]⟩
noncomputable def o_391 (P : Params) : Obj := ⟨(.type "frame"), none, (.dict #[⟨PyData.keyHash P (Str.ofString "self"), .str (Str.ofString "self") 1098, (.ref 390)⟩, ⟨PyData.keyHash P (Str.ofString "s"), .str (Str.ofString "s") 1099, (.str (Str.ofString "िएकी") 1095)⟩, ⟨PyData.keyHash P (Str.ofString "substring_i"), .str (Str.ofString "substring_i") 1100, (.int 21 1096)⟩, ⟨PyData.keyHash P (Str.ofString "result"), .str (Str.ofString "result") 1101, (.int 1 1097)⟩] 4), #[]⟩
noncomputable def o_392 (P : Params) : Obj := ⟨(.type "dict"), none, (.dict #[⟨PyData.keyHash P (Str.ofString "s"), .str (Str.ofString "s") 1117, (.str (Str.ofString "ेकी") 1108)⟩, ⟨PyData.keyHash P (Str.ofString "substring_i"), .str (Str.ofString "substring_i") 1119, (.int (-1) 1110)⟩, ⟨PyData.keyHash P (Str.ofString "result"), .str (Str.ofString "result") 1121, (.int 1 1111)⟩] 3), #[]⟩
noncomputable def o_393 (P : Params) : Obj := ⟨(.ref 218), (some 392), .plain, #[]⟩
noncomputable def o_394 (P : Params) : Obj := ⟨(.type "frame"), none, (.dict #[⟨PyData.keyHash P (Str.ofString "self"), .str (Str.ofString "self") 1112, (.ref 393)⟩, ⟨PyData.keyHash P (Str.ofString "s"), .str (Str.ofString "s") 1113, (.str (Str.ofString "ेकी") 1108)⟩, ⟨PyData.keyHash P (Str.ofString "substring_i"), .str (Str.ofString "substring_i") 1114, (.int (-1) 1110)⟩, ⟨PyData.keyHash P (Str.ofString "result"), .str (Str.ofString "result") 1115, (.int 1 1111)⟩] 4), #[]⟩
noncomputable def o_395 (P : Params) : Obj := ⟨(.type "dict"), none, (.dict #[⟨PyData.keyHash P (Str.ofString "s"), .str (Str.ofString "s") 1131, (.str (Str.ofString "देखी") 1122)⟩, ⟨PyData.keyHash P (Str.ofString "substring_i"), .str (Str.ofString "substring_i") 1133, (.int (-1) 1124)⟩, ⟨PyData.keyHash P (Str.ofString "result"), .str (Str.ofString "result") 1135, (.int 1 1125)⟩] 3), #[]⟩
noncomputable def o_396 (P : Params) : Obj := ⟨(.ref 218), (some 395), .plain, #[]⟩
noncomputable def o_397 (P : Params) : Obj := ⟨(.type "frame"), none, (.dict #[⟨PyData.keyHash P (Str.ofString "self"), .str (Str.ofString "self") 1126, (.ref 396)⟩, ⟨PyData.keyHash P (Str.ofString "s"), .str (Str.ofString "s") 1127, (.str (Str.ofString "देखी") 1122)⟩, ⟨PyData.keyHash P (Str.ofString "substring_i"), .str (Str.ofString "substring_i") 1128, (.int (-1) 1124)⟩, ⟨PyData.keyHash P (Str.ofString "result"), .str (Str.ofString "result") 1129, (.int 1 1125)⟩] 4), #[]⟩
noncomputable def o_398 (P : Params) : Obj := ⟨(.type "dict"), none, (.dict #[⟨PyData.keyHash P (Str.ofString "s"), .str (Str.ofString "s") 1145, (.str (Str.ofString "थी") 1136)⟩, ⟨PyData.keyHash P (Str.ofString "substring_i"), .str (Str.ofString "substring_i") 1147, (.int (-1) 1138)⟩, ⟨PyData.keyHash P (Str.ofString "result"), .str (Str.ofString "result") 1149, (.int 1 1139)⟩] 3), #[]⟩
noncomputable def o_399 (P : Params) : Obj := ⟨(.ref 218), (some 398), .plain, #[]⟩
noncomputable def o_400 (P : Params) : Obj := ⟨(.type "frame"), none, (.dict #[⟨PyData.keyHash P (Str.ofString "self"), .str (Str.ofString "self") 1140, (.ref 399)⟩, ⟨PyData.keyHash P (Str.ofString "s"), .str (Str.ofString "s") 1141, (.str (Str.ofString "थी") 1136)⟩, ⟨PyData.keyHash P (Str.ofString "substring_i"), .str (Str.ofString "substring_i") 1142, (.int (-1) 1138)⟩, ⟨PyData.keyHash P (Str.ofString "result"), .str (Str.ofString "result") 1143, (.int 1 1139)⟩] 4), #[]⟩
noncomputable def o_401 (P : Params) : Obj := ⟨(.type "dict"), none, (.dict #[⟨PyData.keyHash P (Str.ofString "s"), .str (Str.ofString "s") 1159, (.str (Str.ofString "दी") 1150)⟩, ⟨PyData.keyHash P (Str.ofString "substring_i"), .str (Str.ofString "substring_i") 1161, (.int (-1) 1152)⟩, ⟨PyData.keyHash P (Str.ofString "result"), .str (Str.ofString "result") 1163, (.int 1 1153)⟩] 3), #[]⟩
noncomputable def o_402 (P : Params) : Obj := ⟨(.ref 218), (some 401), .plain, #[]⟩
noncomputable def o_403 (P : Params) : Obj := ⟨(.type "frame"), none, (.dict #[⟨PyData.keyHash P (Str.ofString "self"), .str (Str.ofString "self") 1154, (.ref 402)⟩, ⟨PyData.keyHash P (Str.ofString "s"), .str (Str.ofString "s") 1155, (.str (Str.ofString "दी") 1150)⟩, ⟨PyData.keyHash P (Str.ofString "substring_i"), .str (Str.ofString "substring_i") 1156, (.int (-1) 1152)⟩, ⟨PyData.keyHash P (Str.ofString "result"), .str (Str.ofString "result") 1157, (.int 1 1153)⟩] 4), #[]⟩
noncomputable def o_404 (P : Params) : Obj := ⟨(.type "dict"), none, (.dict #[⟨PyData.keyHash P (Str.ofString "s"), .str (Str.ofString "s") 1173, (.str (Str.ofString "छु") 1164)⟩, ⟨PyData.keyHash P (Str.ofString "substring_i"), .str (Str.ofString "substring_i") 1175, (.int (-1) 1166)⟩, ⟨PyData.keyHash P (Str.ofString "result"), .str (Str.ofString "result") 1177, (.int 1 1167)⟩] 3), #[]⟩
noncomputable def o_405 (P : Params) : Obj := ⟨(.ref 218), (some 404), .plain, #[]⟩
noncomputable def o_406 (P : Params) : Obj := ⟨(.type "frame"), none, (.dict #[⟨PyData.keyHash P (Str.ofString "self"), .str (Str.ofString "self") 1168, (.ref 405)⟩, ⟨PyData.keyHash P (Str.ofString "s"), .str (Str.ofString "s") 1169, (.str (Str.ofString "छु") 1164)⟩, ⟨PyData.keyHash P (Str.ofString "substring_i"), .str (Str.ofString "substring_i") 1170, (.int (-1) 1166)⟩, ⟨PyData.keyHash P (Str.ofString "result"), .str (Str.ofString "result") 1171, (.int 1 1167)⟩] 4), #[]⟩
noncomputable def o_407 (P : Params) : Obj := ⟨(.type "dict"), none, (.dict #[⟨PyData.keyHash P (Str.ofString "s"), .str (Str.ofString "s") 1186, (.str (Str.ofString "एछु") 1178)⟩, ⟨PyData.keyHash P (Str.ofString "substring_i"), .str (Str.ofString "substring_i") 1188, (.int 28 1179)⟩, ⟨PyData.keyHash P (Str.ofString "result"), .str (Str.ofString "result") 1190, (.int 1 1180)⟩] 3), #[]⟩
noncomputable def o_408 (P : Params) : Obj := ⟨(.ref 218), (some 407), .plain, #[]⟩
noncomputable def o_409 (P : Params) : Obj := ⟨(.type "frame"), none, (.dict #[⟨PyData.keyHash P (Str.ofString "self"), .str (Str.ofString "self") 1181, (.ref 408)⟩, ⟨PyData.keyHash P (Str.ofString "s"), .str (Str.ofString "s") 1182, (.str (Str.ofString "एछु") 1178)⟩, ⟨PyData.keyHash P (Str.ofString "substring_i"), .str (Str.ofString "substring_i") 1183, (.int 28 1179)⟩, ⟨PyData.keyHash P (Str.ofString "result"), .str (Str.ofString "result") 1184, (.int 1 1180)⟩] 4), #[]⟩
noncomputable def o_410 (P : Params) : Obj := ⟨(.type "dict"), none, (.dict #[⟨PyData.keyHash P (Str.ofString "s"), .str (Str.ofString "s") 1199, (.str (Str.ofString "ेछु") 1191)⟩, ⟨PyData.keyHash P (Str.ofString "substring_i"), .str (Str.ofString "substring_i") 1201, (.int 28 1192)⟩, ⟨PyData.keyHash P (Str.ofString "result"), .str (Str.ofString "result") 1203, (.int 1 1193)⟩] 3), #[]⟩
noncomputable def o_411 (P : Params) : Obj := ⟨(.ref 218), (some 410), .plain, #[]⟩
noncomputable def o_412 (P : Params) : Obj := ⟨(.type "frame"), none, (.dict #[⟨PyData.keyHash P (Str.ofString "self"), .str (Str.ofString "self") 1194, (.ref 411)⟩, ⟨PyData.keyHash P (Str.ofString "s"), .str (Str.ofString "s") 1195, (.str (Str.ofString "ेछु") 1191)⟩, ⟨PyData.keyHash P (Str.ofString "substring_i"), .str (Str.ofString "substring_i") 1196, (.int 28 1192)⟩, ⟨PyData.keyHash P (Str.ofString "result"), .str (Str.ofString "result") 1197, (.int 1 1193)⟩] 4), #[]⟩
noncomputable def o_413 (P : Params) : Obj := ⟨(.type "dict"), none, (.dict #[⟨PyData.keyHash P (Str.ofString "s"), .str (Str.ofString "s") 1212, (.str (Str.ofString "नेछु") 1204)⟩, ⟨PyData.keyHash P (Str.ofString "substring_i"), .str (Str.ofString "substring_i") 1214, (.int 30 1205)⟩, ⟨PyData.keyHash P (Str.ofString "result"), .str (Str.ofString "result") 1216, (.int 1 1206)⟩] 3), #[]⟩
noncomputable def o_414 (P : Params) : Obj := ⟨(.ref 218), (some 413), .plain, #[]⟩
noncomputable def o_415 (P : Params) : Obj := ⟨(.type "frame"), none, (.dict #[⟨PyData.keyHash P (Str.ofString "self"), .str (Str.ofString "self") 1207, (.ref 414)⟩, ⟨PyData.keyHash P (Str.ofString "s"), .str (Str.ofString "s") 1208, (.str (Str.ofString "नेछु") 1204)⟩, ⟨PyData.keyHash P (Str.ofString "substring_i"), .str (Str.ofString "substring_i") 1209, (.int 30 1205)⟩, ⟨PyData.keyHash P (Str.ofString "result"), .str (Str.ofString "result") 1210, (.int 1 1206)⟩] 4), #[]⟩
noncomputable def o_416 (P : Params) : Obj := ⟨(.type "dict"), none, (.dict #[⟨PyData.keyHash P (Str.ofString "s"), .str (Str.ofString "s") 1226, (.str (Str.ofString "नु") 1217)⟩, ⟨PyData.keyHash P (Str.ofString "substring_i"), .str (Str.ofString "substring_i") 1228, (.int (-1) 1219)⟩, ⟨PyData.keyHash P (Str.ofString "result"), .str (Str.ofString "result") 1230, (.int 1 1220)⟩] 3), #[]⟩
noncomputable def o_417 (P : Params) : Obj := ⟨(.ref 218), (some 416), .plain, #[]⟩
noncomputable def o_418 (P : Params) : Obj := ⟨(.type "frame"), none, (.dict #[⟨PyData.keyHash P (Str.ofString "self"), .str (Str.ofString "self") 1221, (.ref 417)⟩, ⟨PyData.keyHash P (Str.ofString "s"), .str (Str.ofString "s") 1222, (.str (Str.ofString "नु") 1217)⟩, ⟨PyData.keyHash P (Str.ofString "substring_i"), .str (Str.ofString "substring_i") 1223, (.int (-1) 1219)⟩, ⟨PyData.keyHash P (Str.ofString "result"), .str (Str.ofString "result") 1224, (.int 1 1220)⟩] 4), #[]⟩
noncomputable def o_419 (P : Params) : Obj := ⟨(.type "dict"), none, (.dict #[⟨PyData.keyHash P (Str.ofString "s"), .str (Str.ofString "s") 1240, (.str (Str.ofString "हरु") 1231)⟩, ⟨PyData.keyHash P (Str.ofString "substring_i"), .str (Str.ofString "substring_i") 1242, (.int (-1) 1233)⟩, ⟨PyData.keyHash P (Str.ofString "result"), .str (Str.ofString "result") 1244, (.int 1 1234)⟩] 3), #[]⟩
noncomputable def o_420 (P : Params) : Obj := ⟨(.ref 218), (some 419), .plain, #[]⟩
noncomputable def o_421 (P : Params) : Obj := ⟨(.type "frame"), none, (.dict #[⟨PyData.keyHash P (Str.ofString "self"), .str (Str.ofString "self") 1235, (.ref 420)⟩, ⟨PyData.keyHash P (Str.ofString "s"), .str (Str.ofString "s") 1236, (.str (Str.ofString "हरु") 1231)⟩, ⟨PyData.keyHash P (Str.ofString "substring_i"), .str (Str.ofString "substring_i") 1237, (.int (-1) 1233)⟩, ⟨PyData.keyHash P (Str.ofString "result"), .str (Str.ofString "result") 1238, (.int 1 1234)⟩] 4), #[]⟩
noncomputable def o_422 (P : Params) : Obj := ⟨(.type "dict"), none, (.dict #[⟨PyData.keyHash P (Str.ofString "s"), .str (Str.ofString "s") 1254, (.str (Str.ofString "हरू") 1245)⟩, ⟨PyData.keyHash P (Str.ofString "substring_i"), .str (Str.ofString "substring_i") 1256, (.int (-1) 1247)⟩, ⟨PyData.keyHash P (Str.ofString "result"), .str (Str.ofString "result") 1258, (.int 1 1248)⟩] 3), #[]⟩
noncomputable def o_423 (P : Params) : Obj := ⟨(.ref 218), (some 422), .plain, #[]⟩
noncomputable def o_424 (P : Params) : Obj := ⟨(.type "frame"), none, (.dict #[⟨PyData.keyHash P (Str.ofString "self"), .str (Str.ofString "self") 1249, (.ref 423)⟩, ⟨PyData.keyHash P (Str.ofString "s"), .str (Str.ofString "s") 1250, (.str (Str.ofString "हरू") 1245)⟩, ⟨PyData.keyHash P (Str.ofString "substring_i"), .str (Str.ofString "substring_i") 1251, (.int (-1) 1247)⟩, ⟨PyData.keyHash P (Str.ofString "result"), .str (Str.ofString "result") 1252, (.int 1 1248)⟩] 4), #[]⟩
noncomputable def o_425 (P : Params) : Obj := ⟨(.type "dict"), none, (.dict #[⟨PyData.keyHash P (Str.ofString "s"), .str (Str.ofString "s") 1268, (.str (Str.ofString "छे") 1259)⟩, ⟨PyData.keyHash P (Str.ofString "substring_i"), .str (Str.ofString "substring_i") 1270, (.int (-1) 1261)⟩, ⟨PyData.keyHash P (Str.ofString "result"), .str (Str.ofString "result") 1272, (.int 1 1262)⟩] 3), #[]⟩
noncomputable def o_426 (P : Params) : Obj := ⟨(.ref 218), (some 425), .plain, #[]⟩
noncomputable def o_427 (P : Params) : Obj := ⟨(.type "frame"), none, (.dict #[⟨PyData.keyHash P (Str.ofString "self"), .str (Str.ofString "self") 1263, (.ref 426)⟩, ⟨PyData.keyHash P (Str.ofString "s"), .str (Str.ofString "s") 1264, (.str (Str.ofString "छे") 1259)⟩, ⟨PyData.keyHash P (Str.ofString "substring_i"), .str (Str.ofString "substring_i") 1265, (.int (-1) 1261)⟩, ⟨PyData.keyHash P (Str.ofString "result"), .str (Str.ofString "result") 1266, (.int 1 1262)⟩] 4), #[]⟩
noncomputable def o_428 (P : Params) : Obj := ⟨(.type "dict"), none, (.dict #[⟨PyData.keyHash P (Str.ofString "s"), .str (Str.ofString "s") 1282, (.str (Str.ofString "थे") 1273)⟩, ⟨PyData.keyHash P (Str.ofString "substring_i"), .str (Str.ofString "substring_i") 1284, (.int (-1) 1275)⟩, ⟨PyData.keyHash P (Str.ofString "result"), .str (Str.ofString "result") 1286, (.int 1 1276)⟩] 3), #[]⟩
noncomputable def o_429 (P : Params) : Obj := ⟨(.ref 218), (some 428), .plain, #[]⟩
noncomputable def o_430 (P : Params) : Obj := ⟨(.type "frame"), none, (.dict #[⟨PyData.keyHash P (Str.ofString "self"), .str (Str.ofString "self") 1277, (.ref 429)⟩, ⟨PyData.keyHash P (Str.ofString "s"), .str (Str.ofString "s") 1278, (.str (Str.ofString "थे") 1273)⟩, ⟨PyData.keyHash P (Str.ofString "substring_i"), .str (Str.ofString "substring_i") 1279, (.int (-1) 1275)⟩, ⟨PyData.keyHash P (Str.ofString "result"), .str (Str.ofString "result") 1280, (.int 1 1276)⟩] 4), #[]⟩
noncomputable def o_431 (P : Params) : Obj := ⟨(.type "dict"), none, (.dict #[⟨PyData.keyHash P (Str.ofString "s"), .str (Str.ofString "s") 1296, (.str (Str.ofString "ने") 1287)⟩, ⟨PyData.keyHash P (Str.ofString "substring_i"), .str (Str.ofString "substring_i") 1298, (.int (-1) 1289)⟩, ⟨PyData.keyHash P (Str.ofString "result"), .str (Str.ofString "result") 1300, (.int 1 1290)⟩] 3), #[]⟩
noncomputable def o_432 (P : Params) : Obj := ⟨(.ref 218), (some 431), .plain, #[]⟩
noncomputable def o_433 (P : Params) : Obj := ⟨(.type "frame"), none, (.dict #[⟨PyData.keyHash P (Str.ofString "self"), .str (Str.ofString "self") 1291, (.ref 432)⟩, ⟨PyData.keyHash P (Str.ofString "s"), .str (Str.ofString "s") 1292, (.str (Str.ofString "ने") 1287)⟩, ⟨PyData.keyHash P (Str.ofString "substring_i"), .str (Str.ofString "substring_i") 1293, (.int (-1) 1289)⟩, ⟨PyData.keyHash P (Str.ofString "result"), .str (Str.ofString "result") 1294, (.int 1 1290)⟩] 4), #[]⟩
noncomputable def o_434 (P : Params) : Obj := ⟨(.type "dict"), none, (.dict #[⟨PyData.keyHash P (Str.ofString "s"), .str (Str.ofString "s") 1310, (.str (Str.ofString "एकै") 1301)⟩, ⟨PyData.keyHash P (Str.ofString "substring_i"), .str (Str.ofString "substring_i") 1312, (.int (-1) 1303)⟩, ⟨PyData.keyHash P (Str.ofString "result"), .str (Str.ofString "result") 1314, (.int 1 1304)⟩] 3), #[]⟩
noncomputable def o_435 (P : Params) : Obj := ⟨(.ref 218), (some 434), .plain, #[]⟩
noncomputable def o_436 (P : Params) : Obj := ⟨(.type "frame"), none, (.dict #[⟨PyData.keyHash P (Str.ofString "self"), .str (Str.ofString "self") 1305, (.ref 435)⟩, ⟨PyData.keyHash P (Str.ofString "s"), .str (Str.ofString "s") 1306, (.str (Str.ofString "एकै") 1301)⟩, ⟨PyData.keyHash P (Str.ofString "substring_i"), .str (Str.ofString "substring_i") 1307, (.int (-1) 1303)⟩, ⟨PyData.keyHash P (Str.ofString "result"), .str (Str.ofString "result") 1308, (.int 1 1304)⟩] 4), #[]⟩
noncomputable def o_437 (P : Params) : Obj := ⟨(.type "dict"), none, (.dict #[⟨PyData.keyHash P (Str.ofString "s"), .str (Str.ofString "s") 1324, (.str (Str.ofString "ेकै") 1315)⟩, ⟨PyData.keyHash P (Str.ofString "substring_i"), .str (Str.ofString "substring_i") 1326, (.int (-1) 1317)⟩, ⟨PyData.keyHash P (Str.ofString "result"), .str (Str.ofString "result") 1328, (.int 1 1318)⟩] 3), #[]⟩
noncomputable def o_438 (P : Params) : Obj := ⟨(.ref 218), (some 437), .plain, #[]⟩
noncomputable def o_439 (P : Params) : Obj := ⟨(.type "frame"), none, (.dict #[⟨PyData.keyHash P (Str.ofString "self"), .str (Str.ofString "self") 1319, (.ref 438)⟩, ⟨PyData.keyHash P (Str.ofString "s"), .str (Str.ofString "s") 1320, (.str (Str.ofString "ेकै") 1315)⟩, ⟨PyData.keyHash P (Str.ofString "substring_i"), .str (Str.ofString "substring_i") 1321, (.int (-1) 1317)⟩, ⟨PyData.keyHash P (Str.ofString "result"), .str (Str.ofString "result") 1322, (.int 1 1318)⟩] 4), #[]⟩
noncomputable def o_440 (P : Params) : Obj := ⟨(.type "dict"), none, (.dict #[⟨PyData.keyHash P (Str.ofString "s"), .str (Str.ofString "s") 1337, (.str (Str.ofString "नेकै") 1329)⟩, ⟨PyData.keyHash P (Str.ofString "substring_i"), .str (Str.ofString "substring_i") 1339, (.int 39 1330)⟩, ⟨PyData.keyHash P (Str.ofString "result"), .str (Str.ofString "result") 1341, (.int 1 1331)⟩] 3), #[]⟩
noncomputable def o_441 (P : Params) : Obj := ⟨(.ref 218), (some 440), .plain, #[]⟩
noncomputable def o_442 (P : Params) : Obj := ⟨(.type "frame"), none, (.dict #[⟨PyData.keyHash P (Str.ofString "self"), .str (Str.ofString "self") 1332, (.ref 441)⟩, ⟨PyData.keyHash P (Str.ofString "s"), .str (Str.ofString "s") 1333, (.str (Str.ofString "नेकै") 1329)⟩, ⟨PyData.keyHash P (Str.ofString "substring_i"), .str (Str.ofString "substring_i") 1334, (.int 39 1330)⟩, ⟨PyData.keyHash P (Str.ofString "result"), .str (Str.ofString "result") 1335, (.int 1 1331)⟩] 4), #[]⟩
noncomputable def o_443 (P : Params) : Obj := ⟨(.type "dict"), none, (.dict #[⟨PyData.keyHash P (Str.ofString "s"), .str (Str.ofString "s") 1351, (.str (Str.ofString "दै") 1342)⟩, ⟨PyData.keyHash P (Str.ofString "substring_i"), .str (Str.ofString "substring_i") 1353, (.int (-1) 1344)⟩, ⟨PyData.keyHash P (Str.ofString "result"), .str (Str.ofString "result") 1355, (.int 1 1345)⟩] 3), #[]⟩
noncomputable def o_444 (P : Params) : Obj := ⟨(.ref 218), (some 443), .plain, #[]⟩
noncomputable def o_445 (P : Params) : Obj := ⟨(.type "frame"), none, (.dict #[⟨PyData.keyHash P (Str.ofString "self"), .str (Str.ofString "self") 1346, (.ref 444)⟩, ⟨PyData.keyHash P (Str.ofString "s"), .str (Str.ofString "s") 1347, (.str (Str.ofString "दै") 1342)⟩, ⟨PyData.keyHash P (Str.ofString "substring_i"), .str (Str.ofString "substring_i") 1348, (.int (-1) 1344)⟩, ⟨PyData.keyHash P (Str.ofString "result"), .str (Str.ofString "result") 1349, (.int 1 1345)⟩] 4), #[]⟩
noncomputable def o_446 (P : Params) : Obj := ⟨(.type "dict"), none, (.dict #[⟨PyData.keyHash P (Str.ofString "s"), .str (Str.ofString "s") 1364, (.str (Str.ofString "इदै") 1356)⟩, ⟨PyData.keyHash P (Str.ofString "substring_i"), .str (Str.ofString "substring_i") 1366, (.int 41 1357)⟩, ⟨PyData.keyHash P (Str.ofString "result"), .str (Str.ofString "result") 1368, (.int 1 1358)⟩] 3), #[]⟩
noncomputable def o_447 (P : Params) : Obj := ⟨(.ref 218), (some 446), .plain, #[]⟩
noncomputable def o_448 (P : Params) : Obj := ⟨(.type "frame"), none, (.dict #[⟨PyData.keyHash P (Str.ofString "self"), .str (Str.ofString "self") 1359, (.ref 447)⟩, ⟨PyData.keyHash P (Str.ofString "s"), .str (Str.ofString "s") 1360, (.str (Str.ofString "इदै") 1356)⟩, ⟨PyData.keyHash P (Str.ofString "substring_i"), .str (Str.ofString "substring_i") 1361, (.int 41 1357)⟩, ⟨PyData.keyHash P (Str.ofString "result"), .str (Str.ofString "result") 1362, (.int 1 1358)⟩] 4), #[]⟩
noncomputable def o_449 (P : Params) : Obj := ⟨(.type "dict"), none, (.dict #[⟨PyData.keyHash P (Str.ofString "s"), .str (Str.ofString "s") 1377, (.str (Str.ofString "िदै") 1369)⟩, ⟨PyData.keyHash P (Str.ofString "substring_i"), .str (Str.ofString "substring_i") 1379, (.int 41 1370)⟩, ⟨PyData.keyHash P (Str.ofString "result"), .str (Str.ofString "result") 1381, (.int 1 1371)⟩] 3), #[]⟩
noncomputable def o_450 (P : Params) : Obj := ⟨(.ref 218), (some 449), .plain, #[]⟩
noncomputable def o_451 (P : Params) : Obj := ⟨(.type "frame"), none, (.dict #[⟨PyData.keyHash P (Str.ofString "self"), .str (Str.ofString "self") 1372, (.ref 450)⟩, ⟨PyData.keyHash P (Str.ofString "s"), .str (Str.ofString "s") 1373, (.str (Str.ofString "िदै") 1369)⟩, ⟨PyData.keyHash P (Str.ofString "substring_i"), .str (Str.ofString "substring_i") 1374, (.int 41 1370)⟩, ⟨PyData.keyHash P (Str.ofString "result"), .str (Str.ofString "result") 1375, (.int 1 1371)⟩] 4), #[]⟩
noncomputable def o_452 (P : Params) : Obj := ⟨(.type "dict"), none, (.dict #[⟨PyData.keyHash P (Str.ofString "s"), .str (Str.ofString "s") 1391, (.str (Str.ofString "एको") 1382)⟩, ⟨PyData.keyHash P (Str.ofString "substring_i"), .str (Str.ofString "substring_i") 1393, (.int (-1) 1384)⟩, ⟨PyData.keyHash P (Str.ofString "result"), .str (Str.ofString "result") 1395, (.int 1 1385)⟩] 3), #[]⟩
noncomputable def o_453 (P : Params) : Obj := ⟨(.ref 218), (some 452), .plain, #[]⟩
noncomputable def o_454 (P : Params) : Obj := ⟨(.type "frame"), none, (.dict #[⟨PyData.keyHash P (Str.ofString "self"), .str (Str.ofString "self") 1386, (.ref 453)⟩, ⟨PyData.keyHash P (Str.ofString "s"), .str (Str.ofString "s") 1387, (.str (Str.ofString "एको") 1382)⟩, ⟨PyData.keyHash P (Str.ofString "substring_i"), .str (Str.ofString "substring_i") 1388, (.int (-1) 1384)⟩, ⟨PyData.keyHash P (Str.ofString "result"), .str (Str.ofString "result") 1389, (.int 1 1385)⟩] 4), #[]⟩
noncomputable def o_455 (P : Params) : Obj := ⟨(.type "dict"), none, (.dict #[⟨PyData.keyHash P (Str.ofString "s"), .str (Str.ofString "s") 1404, (.str (Str.ofString "इएको") 1396)⟩, ⟨PyData.keyHash P (Str.ofString "substring_i"), .str (Str.ofString "substring_i") 1406, (.int 44 1397)⟩, ⟨PyData.keyHash P (Str.ofString "result"), .str (Str.ofString "result") 1408, (.int 1 1398)⟩] 3), #[]⟩
noncomputable def o_456 (P : Params) : Obj := ⟨(.ref 218), (some 455), .plain, #[]⟩
noncomputable def o_457 (P : Params) : Obj := ⟨(.type "frame"), none, (.dict #[⟨PyData.keyHash P (Str.ofString "self"), .str (Str.ofString "self") 1399, (.ref 456)⟩, ⟨PyData.keyHash P (Str.ofString "s"), .str (Str.ofString "s") 1400, (.str (Str.ofString "इएको") 1396)⟩, ⟨PyData.keyHash P (Str.ofString "substring_i"), .str (Str.ofString "substring_i") 1401, (.int 44 1397)⟩, ⟨PyData.keyHash P (Str.ofString "result"), .str (Str.ofString "result") 1402, (.int 1 1398)⟩] 4), #[]⟩
noncomputable def o_458 (P : Params) : Obj := ⟨(.type "dict"), none, (.dict #[⟨PyData.keyHash P (Str.ofString "s"), .str (Str.ofString "s") 1417, (.str (Str.ofString "िएको") 1409)⟩, ⟨PyData.keyHash P (Str.ofString "substring_i"), .str (Str.ofString "substring_i") 1419, (.int 44 1410)⟩, ⟨PyData.keyHash P (Str.ofString "result"), .str (Str.ofString "result") 1421, (.int 1 1411)⟩] 3), #[]⟩
noncomputable def o_459 (P : Params) : Obj := ⟨(.ref 218), (some 458), .plain, #[]⟩
noncomputable def o_460 (P : Params) : Obj := ⟨(.type "frame"), none, (.dict #[⟨PyData.keyHash P (Str.ofString "self"), .str (Str.ofString "self") 1412, (.ref 459)⟩, ⟨PyData.keyHash P (Str.ofString "s"), .str (Str.ofString "s") 1413, (.str (Str.ofString "िएको") 1409)⟩, ⟨PyData.keyHash P (Str.ofString "substring_i"), .str (Str.ofString "substring_i") 1414, (.int 44 1410)⟩, ⟨PyData.keyHash P (Str.ofString "result"), .str (Str.ofString "result") 1415, (.int 1 1411)⟩] 4), #[]⟩
noncomputable def o_461 (P : Params) : Obj := ⟨(.type "dict"), none, (.dict #[⟨PyData.keyHash P (Str.ofString "s"), .str (Str.ofString "s") 1431, (.str (Str.ofString "ेको") 1422)⟩, ⟨PyData.keyHash P (Str.ofString "substring_i"), .str (Str.ofString "substring_i") 1433, (.int (-1) 1424)⟩, ⟨PyData.keyHash P (Str.ofString "result"), .str (Str.ofString "result") 1435, (.int 1 1425)⟩] 3), #[]⟩
noncomputable def o_462 (P : Params) : Obj := ⟨(.ref 218), (some 461), .plain, #[]⟩
noncomputable def o_463 (P : Params) : Obj := ⟨(.type "frame"), none, (.dict #[⟨PyData.keyHash P (Str.ofString "self"), .str (Str.ofString "self") 1426, (.ref 462)⟩, ⟨PyData.keyHash P (Str.ofString "s"), .str (Str.ofString "s") 1427, (.str (Str.ofString "ेको") 1422)⟩, ⟨PyData.keyHash P (Str.ofString "substring_i"), .str (Str.ofString "substring_i") 1428, (.int (-1) 1424)⟩, ⟨PyData.keyHash P (Str.ofString "result"), .str (Str.ofString "result") 1429, (.int 1 1425)⟩] 4), #[]⟩
noncomputable def o_464 (P : Params) : Obj := ⟨(.type "dict"), none, (.dict #[⟨PyData.keyHash P (Str.ofString "s"), .str (Str.ofString "s") 1444, (.str (Str.ofString "नेको") 1436)⟩, ⟨PyData.keyHash P (Str.ofString "substring_i"), .str (Str.ofString "substring_i") 1446, (.int 47 1437)⟩, ⟨PyData.keyHash P (Str.ofString "result"), .str (Str.ofString "result") 1448, (.int 1 1438)⟩] 3), #[]⟩
noncomputable def o_465 (P : Params) : Obj := ⟨(.ref 218), (some 464), .plain, #[]⟩
noncomputable def o_466 (P : Params) : Obj := ⟨(.type "frame"), none, (.dict #[⟨PyData.keyHash P (Str.ofString "self"), .str (Str.ofString "self") 1439, (.ref 465)⟩, ⟨PyData.keyHash P (Str.ofString "s"), .str (Str.ofString "s") 1440, (.str (Str.ofString "नेको") 1436)⟩, ⟨PyData.keyHash P (Str.ofString "substring_i"), .str (Str.ofString "substring_i") 1441, (.int 47 1437)⟩, ⟨PyData.keyHash P (Str.ofString "result"), .str (Str.ofString "result") 1442, (.int 1 1438)⟩] 4), #[]⟩
noncomputable def o_467 (P : Params) : Obj := ⟨(.type "dict"), none, (.dict #[⟨PyData.keyHash P (Str.ofString "s"), .str (Str.ofString "s") 1458, (.str (Str.ofString "दो") 1449)⟩, ⟨PyData.keyHash P (Str.ofString "substring_i"), .str (Str.ofString "substring_i") 1460, (.int (-1) 1451)⟩, ⟨PyData.keyHash P (Str.ofString "result"), .str (Str.ofString "result") 1462, (.int 1 1452)⟩] 3), #[]⟩
noncomputable def o_468 (P : Params) : Obj := ⟨(.ref 218), (some 467), .plain, #[]⟩
noncomputable def o_469 (P : Params) : Obj := ⟨(.type "frame"), none, (.dict #[⟨PyData.keyHash P (Str.ofString "self"), .str (Str.ofString "self") 1453, (.ref 468)⟩, ⟨PyData.keyHash P (Str.ofString "s"), .str (Str.ofString "s") 1454, (.str (Str.ofString "दो") 1449)⟩, ⟨PyData.keyHash P (Str.ofString "substring_i"), .str (Str.ofString "substring_i") 1455, (.int (-1) 1451)⟩, ⟨PyData.keyHash P (Str.ofString "result"), .str (Str.ofString "result") 1456, (.int 1 1452)⟩] 4), #[]⟩
noncomputable def o_470 (P : Params) : Obj := ⟨(.type "dict"), none, (.dict #[⟨PyData.keyHash P (Str.ofString "s"), .str (Str.ofString "s") 1471, (.str (Str.ofString "इदो") 1463)⟩, ⟨PyData.keyHash P (Str.ofString "substring_i"), .str (Str.ofString "substring_i") 1473, (.int 49 1464)⟩, ⟨PyData.keyHash P (Str.ofString "result"), .str (Str.ofString "result") 1475, (.int 1 1465)⟩] 3), #[]⟩
noncomputable def o_471 (P : Params) : Obj := ⟨(.ref 218), (some 470), .plain, #[]⟩
noncomputable def o_472 (P : Params) : Obj := ⟨(.type "frame"), none, (.dict #[⟨PyData.keyHash P (Str.ofString "self"), .str (Str.ofString "self") 1466, (.ref 471)⟩, ⟨PyData.keyHash P (Str.ofString "s"), .str (Str.ofString "s") 1467, (.str (Str.ofString "इदो") 1463)⟩, ⟨PyData.keyHash P (Str.ofString "substring_i"), .str (Str.ofString "substring_i") 1468, (.int 49 1464)⟩, ⟨PyData.keyHash P (Str.ofString "result"), .str (Str.ofString "result") 1469, (.int 1 1465)⟩] 4), #[]⟩
noncomputable def o_473 (P : Params) : Obj := ⟨(.type "dict"), none, (.dict #[⟨PyData.keyHash P (Str.ofString "s"), .str (Str.ofString "s") 1484, (.str (Str.ofString "िदो") 1476)⟩, ⟨PyData.keyHash P (Str.ofString "substring_i"), .str (Str.ofString "substring_i") 1486, (.int 49 1477)⟩, ⟨PyData.keyHash P (Str.ofString "result"), .str (Str.ofString "result") 1488, (.int 1 1478)⟩] 3), #[]⟩
noncomputable def o_474 (P : Params) : Obj := ⟨(.ref 218), (some 473), .plain, #[]⟩
noncomputable def o_475 (P : Params) : Obj := ⟨(.type "frame"), none, (.dict #[⟨PyData.keyHash P (Str.ofString "self"), .str (Str.ofString "self") 1479, (.ref 474)⟩, ⟨PyData.keyHash P (Str.ofString "s"), .str (Str.ofString "s") 1480, (.str (Str.ofString "िदो") 1476)⟩, ⟨PyData.keyHash P (Str.ofString "substring_i"), .str (Str.ofString "substring_i") 1481, (.int 49 1477)⟩, ⟨PyData.keyHash P (Str.ofString "result"), .str (Str.ofString "result") 1482, (.int 1 1478)⟩] 4), #[]⟩
noncomputable def o_476 (P : Params) : Obj := ⟨(.type "dict"), none, (.dict #[⟨PyData.keyHash P (Str.ofString "s"), .str (Str.ofString "s") 1498, (.str (Str.ofString "यो") 1489)⟩, ⟨PyData.keyHash P (Str.ofString "substring_i"), .str (Str.ofString "substring_i") 1500, (.int (-1) 1491)⟩, ⟨PyData.keyHash P (Str.ofString "result"), .str (Str.ofString "result") 1502, (.int 1 1492)⟩] 3), #[]⟩
noncomputable def o_477 (P : Params) : Obj := ⟨(.ref 218), (some 476), .plain, #[]⟩
noncomputable def o_478 (P : Params) : Obj := ⟨(.type "frame"), none, (.dict #[⟨PyData.keyHash P (Str.ofString "self"), .str (Str.ofString "self") 1493, (.ref 477)⟩, ⟨PyData.keyHash P (Str.ofString "s"), .str (Str.ofString "s") 1494, (.str (Str.ofString "यो") 1489)⟩, ⟨PyData.keyHash P (Str.ofString "substring_i"), .str (Str.ofString "substring_i") 1495, (.int (-1) 1491)⟩, ⟨PyData.keyHash P (Str.ofString "result"), .str (Str.ofString "result") 1496, (.int 1 1492)⟩] 4), #[]⟩
noncomputable def o_479 (P : Params) : Obj := ⟨(.type "dict"), none, (.dict #[⟨PyData.keyHash P (Str.ofString "s"), .str (Str.ofString "s") 1511, (.str (Str.ofString "इयो") 1503)⟩, ⟨PyData.keyHash P (Str.ofString "substring_i"), .str (Str.ofString "substring_i") 1513, (.int 52 1504)⟩, ⟨PyData.keyHash P (Str.ofString "result"), .str (Str.ofString "result") 1515, (.int 1 1505)⟩] 3), #[]⟩
noncomputable def o_480 (P : Params) : Obj := ⟨(.ref 218), (some 479), .plain, #[]⟩
noncomputable def o_481 (P : Params) : Obj := ⟨(.type "frame"), none, (.dict #[⟨PyData.keyHash P (Str.ofString "self"), .str (Str.ofString "self") 1506, (.ref 480)⟩, ⟨PyData.keyHash P (Str.ofString "s"), .str (Str.ofString "s") 1507, (.str (Str.ofString "इयो") 1503)⟩, ⟨PyData.keyHash P (Str.ofString "substring_i"), .str (Str.ofString "substring_i") 1508, (.int 52 1504)⟩, ⟨PyData.keyHash P (Str.ofString "result"), .str (Str.ofString "result") 1509, (.int 1 1505)⟩] 4), #[]⟩
noncomputable def o_482 (P : Params) : Obj := ⟨(.type "dict"), none, (.dict #[⟨PyData.keyHash P (Str.ofString "s"), .str (Str.ofString "s") 1524, (.str (Str.ofString "भयो") 1516)⟩, ⟨PyData.keyHash P (Str.ofString "substring_i"), .str (Str.ofString "substring_i") 1526, (.int 52 1517)⟩, ⟨PyData.keyHash P (Str.ofString "result"), .str (Str.ofString "result") 1528, (.int 1 1518)⟩] 3), #[]⟩
noncomputable def o_483 (P : Params) : Obj := ⟨(.ref 218), (some 482), .plain, #[]⟩
noncomputable def o_484 (P : Params) : Obj := ⟨(.type "frame"), none, (.dict #[⟨PyData.keyHash P (Str.ofString "self"), .str (Str.ofString "self") 1519, (.ref 483)⟩, ⟨PyData.keyHash P (Str.ofString "s"), .str (Str.ofString "s") 1520, (.str (Str.ofString "भयो") 1516)⟩, ⟨PyData.keyHash P (Str.ofString "substring_i"), .str (Str.ofString "substring_i") 1521, (.int 52 1517)⟩, ⟨PyData.keyHash P (Str.ofString "result"), .str (Str.ofString "result") 1522, (.int 1 1518)⟩] 4), #[]⟩
noncomputable def o_485 (P : Params) : Obj := ⟨(.type "dict"), none, (.dict #[⟨PyData.keyHash P (Str.ofString "s"), .str (Str.ofString "s") 1537, (.str (Str.ofString "ियो") 1529)⟩, ⟨PyData.keyHash P (Str.ofString "substring_i"), .str (Str.ofString "substring_i") 1539, (.int 52 1530)⟩, ⟨PyData.keyHash P (Str.ofString "result"), .str (Str.ofString "result") 1541, (.int 1 1531)⟩] 3), #[]⟩
noncomputable def o_486 (P : Params) : Obj := ⟨(.ref 218), (some 485), .plain, #[]⟩
noncomputable def o_487 (P : Params) : Obj := ⟨(.type "frame"), none, (.dict #[⟨PyData.keyHash P (Str.ofString "self"), .str (Str.ofString "self") 1532, (.ref 486)⟩, ⟨PyData.keyHash P (Str.ofString "s"), .str (Str.ofString "s") 1533, (.str (Str.ofString "ियो") 1529)⟩, ⟨PyData.keyHash P (Str.ofString "substring_i"), .str (Str.ofString "substring_i") 1534, (.int 52 1530)⟩, ⟨PyData.keyHash P (Str.ofString "result"), .str (Str.ofString "result") 1535, (.int 1 1531)⟩] 4), #[]⟩
noncomputable def o_488 (P : Params) : Obj := ⟨(.type "dict"), none, (.dict #[⟨PyData.keyHash P (Str.ofString "s"), .str (Str.ofString "s") 1550, (.str (Str.ofString "थियो") 1542)⟩, ⟨PyData.keyHash P (Str.ofString "substring_i"), .str (Str.ofString "substring_i") 1552, (.int 55 1543)⟩, ⟨PyData.keyHash P (Str.ofString "result"), .str (Str.ofString "result") 1554, (.int 1 1544)⟩] 3), #[]⟩
noncomputable def o_489 (P : Params) : Obj := ⟨(.ref 218), (some 488), .plain, #[]⟩
noncomputable def o_490 (P : Params) : Obj := ⟨(.type "frame"), none, (.dict #[⟨PyData.keyHash P (Str.ofString "self"), .str (Str.ofString "self") 1545, (.ref 489)⟩, ⟨PyData.keyHash P (Str.ofString "s"), .str (Str.ofString "s") 1546, (.str (Str.ofString "थियो") 1542)⟩, ⟨PyData.keyHash P (Str.ofString "substring_i"), .str (Str.ofString "substring_i") 1547, (.int 55 1543)⟩, ⟨PyData.keyHash P (Str.ofString "result"), .str (Str.ofString "result") 1548, (.int 1 1544)⟩] 4), #[]⟩
noncomputable def o_491 (P : Params) : Obj := ⟨(.type "dict"), none, (.dict #[⟨PyData.keyHash P (Str.ofString "s"), .str (Str.ofString "s") 1563, (.str (Str.ofString "दियो") 1555)⟩, ⟨PyData.keyHash P (Str.ofString "substring_i"), .str (Str.ofString "substring_i") 1565, (.int 55 1556)⟩, ⟨PyData.keyHash P (Str.ofString "result"), .str (Str.ofString "result") 1567, (.int 1 1557)⟩] 3), #[]⟩
noncomputable def o_492 (P : Params) : Obj := ⟨(.ref 218), (some 491), .plain, #[]⟩
noncomputable def o_493 (P : Params) : Obj := ⟨(.type "frame"), none, (.dict #[⟨PyData.keyHash P (Str.ofString "self"), .str (Str.ofString "self") 1558, (.ref 492)⟩, ⟨PyData.keyHash P (Str.ofString "s"), .str (Str.ofString "s") 1559, (.str (Str.ofString "दियो") 1555)⟩, ⟨PyData.keyHash P (Str.ofString "substring_i"), .str (Str.ofString "substring_i") 1560, (.int 55 1556)⟩, ⟨PyData.keyHash P (Str.ofString "result"), .str (Str.ofString "result") 1561, (.int 1 1557)⟩] 4), #[]⟩
noncomputable def o_494 (P : Params) : Obj := ⟨(.type "dict"), none, (.dict #[⟨PyData.keyHash P (Str.ofString "s"), .str (Str.ofString "s") 1576, (.str (Str.ofString "थ्यो") 1568)⟩, ⟨PyData.keyHash P (Str.ofString "substring_i"), .str (Str.ofString "substring_i") 1578, (.int 52 1569)⟩, ⟨PyData.keyHash P (Str.ofString "result"), .str (Str.ofString "result") 1580, (.int 1 1570)⟩] 3), #[]⟩
noncomputable def o_495 (P : Params) : Obj := ⟨(.ref 218), (some 494), .plain, #[]⟩
noncomputable def o_496 (P : Params) : Obj := ⟨(.type "frame"), none, (.dict #[⟨PyData.keyHash P (Str.ofString "self"), .str (Str.ofString "self") 1571, (.ref 495)⟩, ⟨PyData.keyHash P (Str.ofString "s"), .str (Str.ofString "s") 1572, (.str (Str.ofString "थ्यो") 1568)⟩, ⟨PyData.keyHash P (Str.ofString "substring_i"), .str (Str.ofString "substring_i") 1573, (.int 52 1569)⟩, ⟨PyData.keyHash P (Str.ofString "result"), .str (Str.ofString "result") 1574, (.int 1 1570)⟩] 4), #[]⟩
noncomputable def o_497 (P : Params) : Obj := ⟨(.type "dict"), none, (.dict #[⟨PyData.keyHash P (Str.ofString "s"), .str (Str.ofString "s") 1590, (.str (Str.ofString "छौ") 1581)⟩, ⟨PyData.keyHash P (Str.ofString "substring_i"), .str (Str.ofString "substring_i") 1592, (.int (-1) 1583)⟩, ⟨PyData.keyHash P (Str.ofString "result"), .str (Str.ofString "result") 1594, (.int 1 1584)⟩] 3), #[]⟩
noncomputable def o_498 (P : Params) : Obj := ⟨(.ref 218), (some 497), .plain, #[]⟩
noncomputable def o_499 (P : Params) : Obj := ⟨(.type "frame"), none, (.dict #[⟨PyData.keyHash P (Str.ofString "self"), .str (Str.ofString "self") 1585, (.ref 498)⟩, ⟨PyData.keyHash P (Str.ofString "s"), .str (Str.ofString "s") 1586, (.str (Str.ofString "छौ") 1581)⟩, ⟨PyData.keyHash P (Str.ofString "substring_i"), .str (Str.ofString "substring_i") 1587, (.int (-1) 1583)⟩, ⟨PyData.keyHash P (Str.ofString "result"), .str (Str.ofString "result") 1588, (.int 1 1584)⟩] 4), #[]⟩
noncomputable def o_500 (P : Params) : Obj := ⟨(.type "dict"), none, (.dict #[⟨PyData.keyHash P (Str.ofString "s"), .str (Str.ofString "s") 1603, (.str (Str.ofString "इछौ") 1595)⟩, ⟨PyData.keyHash P (Str.ofString "substring_i"), .str (Str.ofString "substring_i") 1605, (.int 59 1596)⟩, ⟨PyData.keyHash P (Str.ofString "result"), .str (Str.ofString "result") 1607, (.int 1 1597)⟩] 3), #[]⟩
noncomputable def o_501 (P : Params) : Obj := ⟨(.ref 218), (some 500), .plain, #[]⟩
noncomputable def o_502 (P : Params) : Obj := ⟨(.type "frame"), none, (.dict #[⟨PyData.keyHash P (Str.ofString "self"), .str (Str.ofString "self") 1598, (.ref 501)⟩, ⟨PyData.keyHash P (Str.ofString "s"), .str (Str.ofString "s") 1599, (.str (Str.ofString "इछौ") 1595)⟩, ⟨PyData.keyHash P (Str.ofString "substring_i"), .str (Str.ofString "substring_i") 1600, (.int 59 1596)⟩, ⟨PyData.keyHash P (Str.ofString "result"), .str (Str.ofString "result") 1601, (.int 1 1597)⟩] 4), #[]⟩
noncomputable def o_503 (P : Params) : Obj := ⟨(.type "dict"), none, (.dict #[⟨PyData.keyHash P (Str.ofString "s"), .str (Str.ofString "s") 1616, (.str (Str.ofString "एछौ") 1608)⟩, ⟨PyData.keyHash P (Str.ofString "substring_i"), .str (Str.ofString "substring_i") 1618, (.int 59 1609)⟩, ⟨PyData.keyHash P (Str.ofString "result"), .str (Str.ofString "result") 1620, (.int 1 1610)⟩] 3), #[]⟩
noncomputable def o_504 (P : Params) : Obj := ⟨(.ref 218), (some 503), .plain, #[]⟩
noncomputable def o_505 (P : Params) : Obj := ⟨(.type "frame"), none, (.dict #[⟨PyData.keyHash P (Str.ofString "self"), .str (Str.ofString "self") 1611, (.ref 504)⟩, ⟨PyData.keyHash P (Str.ofString "s"), .str (Str.ofString "s") 1612, (.str (Str.ofString "एछौ") 1608)⟩, ⟨PyData.keyHash P (Str.ofString "substring_i"), .str (Str.ofString "substring_i") 1613, (.int 59 1609)⟩, ⟨PyData.keyHash P (Str.ofString "result"), .str (Str.ofString "result") 1614, (.int 1 1610)⟩] 4), #[]⟩
noncomputable def o_506 (P : Params) : Obj := ⟨(.type "dict"), none, (.dict #[⟨PyData.keyHash P (Str.ofString "s"), .str (Str.ofString "s") 1629, (.str (Str.ofString "िछौ") 1621)⟩, ⟨PyData.keyHash P (Str.ofString "substring_i"), .str (Str.ofString "substring_i") 1631, (.int 59 1622)⟩, ⟨PyData.keyHash P (Str.ofString "result"), .str (Str.ofString "result") 1633, (.int 1 1623)⟩] 3), #[]⟩
noncomputable def o_507 (P : Params) : Obj := ⟨(.ref 218), (some 506), .plain, #[]⟩
noncomputable def o_508 (P : Params) : Obj := ⟨(.type "frame"), none, (.dict #[⟨PyData.keyHash P (Str.ofString "self"), .str (Str.ofString "self") 1624, (.ref 507)⟩, ⟨PyData.keyHash P (Str.ofString "s"), .str (Str.ofString "s") 1625, (.str (Str.ofString "िछौ") 1621)⟩, ⟨PyData.keyHash P (Str.ofString "substring_i"), .str (Str.ofString "substring_i") 1626, (.int 59 1622)⟩, ⟨PyData.keyHash P (Str.ofString "result"), .str (Str.ofString "result") 1627, (.int 1 1623)⟩] 4), #[]⟩
noncomputable def o_509 (P : Params) : Obj := ⟨(.type "dict"), none, (.dict #[⟨PyData.keyHash P (Str.ofString "s"), .str (Str.ofString "s") 1642, (.str (Str.ofString "ेछौ") 1634)⟩, ⟨PyData.keyHash P (Str.ofString "substring_i"), .str (Str.ofString "substring_i") 1644, (.int 59 1635)⟩, ⟨PyData.keyHash P (Str.ofString "result"), .str (Str.ofString "result") 1646, (.int 1 1636)⟩] 3), #[]⟩
noncomputable def o_510 (P : Params) : Obj := ⟨(.ref 218), (some 509), .plain, #[]⟩
noncomputable def o_511 (P : Params) : Obj := ⟨(.type "frame"), none, (.dict #[⟨PyData.keyHash P (Str.ofString "self"), .str (Str.ofString "self") 1637, (.ref 510)⟩, ⟨PyData.keyHash P (Str.ofString "s"), .str (Str.ofString "s") 1638, (.str (Str.ofString "ेछौ") 1634)⟩, ⟨PyData.keyHash P (Str.ofString "substring_i"), .str (Str.ofString "substring_i") 1639, (.int 59 1635)⟩, ⟨PyData.keyHash P (Str.ofString "result"), .str (Str.ofString "result") 1640, (.int 1 1636)⟩] 4), #[]⟩
noncomputable def o_512 (P : Params) : Obj := ⟨(.type "dict"), none, (.dict #[⟨PyData.keyHash P (Str.ofString "s"), .str (Str.ofString "s") 1655, (.str (Str.ofString "नेछौ") 1647)⟩, ⟨PyData.keyHash P (Str.ofString "substring_i"), .str (Str.ofString "substring_i") 1657, (.int 63 1648)⟩, ⟨PyData.keyHash P (Str.ofString "result"), .str (Str.ofString "result") 1659, (.int 1 1649)⟩] 3), #[]⟩
noncomputable def o_513 (P : Params) : Obj := ⟨(.ref 218), (some 512), .plain, #[]⟩
noncomputable def o_514 (P : Params) : Obj := ⟨(.type "frame"), none, (.dict #[⟨PyData.keyHash P (Str.ofString "self"), .str (Str.ofString "self") 1650, (.ref 513)⟩, ⟨PyData.keyHash P (Str.ofString "s"), .str (Str.ofString "s") 1651, (.str (Str.ofString "नेछौ") 1647)⟩, ⟨PyData.keyHash P (Str.ofString "substring_i"), .str (Str.ofString "substring_i") 1652, (.int 63 1648)⟩, ⟨PyData.keyHash P (Str.ofString "result"), .str (Str.ofString "result") 1653, (.int 1 1649)⟩] 4), #[]⟩
noncomputable def o_515 (P : Params) : Obj := ⟨(.type "dict"), none, (.dict #[⟨PyData.keyHash P (Str.ofString "s"), .str (Str.ofString "s") 1669, (.str (Str.ofString "यौ") 1660)⟩, ⟨PyData.keyHash P (Str.ofString "substring_i"), .str (Str.ofString "substring_i") 1671, (.int (-1) 1662)⟩, ⟨PyData.keyHash P (Str.ofString "result"), .str (Str.ofString "result") 1673, (.int 1 1663)⟩] 3), #[]⟩
noncomputable def o_516 (P : Params) : Obj := ⟨(.ref 218), (some 515), .plain, #[]⟩
noncomputable def o_517 (P : Params) : Obj := ⟨(.type "frame"), none, (.dict #[⟨PyData.keyHash P (Str.ofString "self"), .str (Str.ofString "self") 1664, (.ref 516)⟩, ⟨PyData.keyHash P (Str.ofString "s"), .str (Str.ofString "s") 1665, (.str (Str.ofString "यौ") 1660)⟩, ⟨PyData.keyHash P (Str.ofString "substring_i"), .str (Str.ofString "substring_i") 1666, (.int (-1) 1662)⟩, ⟨PyData.keyHash P (Str.ofString "result"), .str (Str.ofString "result") 1667, (.int 1 1663)⟩] 4), #[]⟩
noncomputable def o_518 (P : Params) : Obj := ⟨(.type "dict"), none, (.dict #[⟨PyData.keyHash P (Str.ofString "s"), .str (Str.ofString "s") 1682, (.str (Str.ofString "थियौ") 1674)⟩, ⟨PyData.keyHash P (Str.ofString "substring_i"), .str (Str.ofString "substring_i") 1684, (.int 65 1675)⟩, ⟨PyData.keyHash P (Str.ofString "result"), .str (Str.ofString "result") 1686, (.int 1 1676)⟩] 3), #[]⟩
noncomputable def o_519 (P : Params) : Obj := ⟨(.ref 218), (some 518), .plain, #[]⟩
noncomputable def o_520 (P : Params) : Obj := ⟨(.type "frame"), none, (.dict #[⟨PyData.keyHash P (Str.ofString "self"), .str (Str.ofString "self") 1677, (.ref 519)⟩, ⟨PyData.keyHash P (Str.ofString "s"), .str (Str.ofString "s") 1678, (.str (Str.ofString "थियौ") 1674)⟩, ⟨PyData.keyHash P (Str.ofString "substring_i"), .str (Str.ofString "substring_i") 1679, (.int 65 1675)⟩, ⟨PyData.keyHash P (Str.ofString "result"), .str (Str.ofString "result") 1680, (.int 1 1676)⟩] 4), #[]⟩
noncomputable def o_521 (P : Params) : Obj := ⟨(.type "dict"), none, (.dict #[⟨PyData.keyHash P (Str.ofString "s"), .str (Str.ofString "s") 1695, (.str (Str.ofString "छ्यौ") 1687)⟩, ⟨PyData.keyHash P (Str.ofString "substring_i"), .str (Str.ofString "substring_i") 1697, (.int 65 1688)⟩, ⟨PyData.keyHash P (Str.ofString "result"), .str (Str.ofString "result") 1699, (.int 1 1689)⟩] 3), #[]⟩
noncomputable def o_522 (P : Params) : Obj := ⟨(.ref 218), (some 521), .plain, #[]⟩
noncomputable def o_523 (P : Params) : Obj := ⟨(.type "frame"), none, (.dict #[⟨PyData.keyHash P (Str.ofString "self"), .str (Str.ofString "self") 1690, (.ref 522)⟩, ⟨PyData.keyHash P (Str.ofString "s"), .str (Str.ofString "s") 1691, (.str (Str.ofString "छ्यौ") 1687)⟩, ⟨PyData.keyHash P (Str.ofString "substring_i"), .str (Str.ofString "substring_i") 1692, (.int 65 1688)⟩, ⟨PyData.keyHash P (Str.ofString "result"), .str (Str.ofString "result") 1693, (.int 1 1689)⟩] 4), #[]⟩
noncomputable def o_524 (P : Params) : Obj := ⟨(.type "dict"), none, (.dict #[⟨PyData.keyHash P (Str.ofString "s"), .str (Str.ofString "s") 1708, (.str (Str.ofString "थ्यौ") 1700)⟩, ⟨PyData.keyHash P (Str.ofString "substring_i"), .str (Str.ofString "substring_i") 1710, (.int 65 1701)⟩, ⟨PyData.keyHash P (Str.ofString "result"), .str (Str.ofString "result") 1712, (.int 1 1702)⟩] 3), #[]⟩
noncomputable def o_525 (P : Params) : Obj := ⟨(.ref 218), (some 524), .plain, #[]⟩
noncomputable def o_526 (P : Params) : Obj := ⟨(.type "frame"), none, (.dict #[⟨PyData.keyHash P (Str.ofString "self"), .str (Str.ofString "self") 1703, (.ref 525)⟩, ⟨PyData.keyHash P (Str.ofString "s"), .str (Str.ofString "s") 1704, (.str (Str.ofString "थ्यौ") 1700)⟩, ⟨PyData.keyHash P (Str.ofString "substring_i"), .str (Str.ofString "substring_i") 1705, (.int 65 1701)⟩, ⟨PyData.keyHash P (Str.ofString "result"), .str (Str.ofString "result") 1706, (.int 1 1702)⟩] 4), #[]⟩
noncomputable def o_527 (P : Params) : Obj := ⟨(.type "dict"), none, (.dict #[⟨PyData.keyHash P (Str.ofString "s"), .str (Str.ofString "s") 1722, (.str (Str.ofString "छन्") 1713)⟩, ⟨PyData.keyHash P (Str.ofString "substring_i"), .str (Str.ofString "substring_i") 1724, (.int (-1) 1715)⟩, ⟨PyData.keyHash P (Str.ofString "result"), .str (Str.ofString "result") 1726, (.int 1 1716)⟩] 3), #[]⟩
noncomputable def o_528 (P : Params) : Obj := ⟨(.ref 218), (some 527), .plain, #[]⟩
noncomputable def o_529 (P : Params) : Obj := ⟨(.type "frame"), none, (.dict #[⟨PyData.keyHash P (Str.ofString "self"), .str (Str.ofString "self") 1717, (.ref 528)⟩, ⟨PyData.keyHash P (Str.ofString "s"), .str (Str.ofString "s") 1718, (.str (Str.ofString "छन्") 1713)⟩, ⟨PyData.keyHash P (Str.ofString "substring_i"), .str (Str.ofString "substring_i") 1719, (.int (-1) 1715)⟩, ⟨PyData.keyHash P (Str.ofString "result"), .str (Str.ofString "result") 1720, (.int 1 1716)⟩] 4), #[]⟩
noncomputable def o_530 (P : Params) : Obj := ⟨(.type "dict"), none, (.dict #[⟨PyData.keyHash P (Str.ofString "s"), .str (Str.ofString "s") 1735, (.str (Str.ofString "इछन्") 1727)⟩, ⟨PyData.keyHash P (Str.ofString "substring_i"), .str (Str.ofString "substring_i") 1737, (.int 69 1728)⟩, ⟨PyData.keyHash P (Str.ofString "result"), .str (Str.ofString "result") 1739, (.int 1 1729)⟩] 3), #[]⟩
noncomputable def o_531 (P : Params) : Obj := ⟨(.ref 218), (some 530), .plain, #[]⟩
noncomputable def o_532 (P : Params) : Obj := ⟨(.type "frame"), none, (.dict #[⟨PyData.keyHash P (Str.ofString "self"), .str (Str.ofString "self") 1730, (.ref 531)⟩, ⟨PyData.keyHash P (Str.ofString "s"), .str (Str.ofString "s") 1731, (.str (Str.ofString "इछन्") 1727)⟩, ⟨PyData.keyHash P (Str.ofString "substring_i"), .str (Str.ofString "substring_i") 1732, (.int 69 1728)⟩, ⟨PyData.keyHash P (Str.ofString "result"), .str (Str.ofString "result") 1733, (.int 1 1729)⟩] 4), #[]⟩
noncomputable def o_533 (P : Params) : Obj := ⟨(.type "dict"), none, (.dict #[⟨PyData.keyHash P (Str.ofString "s"), .str (Str.ofString "s") 1748, (.str (Str.ofString "एछन्") 1740)⟩, ⟨PyData.keyHash P (Str.ofString "substring_i"), .str (Str.ofString "substring_i") 1750, (.int 69 1741)⟩, ⟨PyData.keyHash P (Str.ofString "result"), .str (Str.ofString "result") 1752, (.int 1 1742)⟩] 3), #[]⟩
noncomputable def o_534 (P : Params) : Obj := ⟨(.ref 218), (some 533), .plain, #[]⟩
noncomputable def o_535 (P : Params) : Obj := ⟨(.type "frame"), none, (.dict #[⟨PyData.keyHash P (Str.ofString "self"), .str (Str.ofString "self") 1743, (.ref 534)⟩, ⟨PyData.keyHash P (Str.ofString "s"), .str (Str.ofString "s") 1744, (.str (Str.ofString "एछन्") 1740)⟩, ⟨PyData.keyHash P (Str.ofString "substring_i"), .str (Str.ofString "substring_i") 1745, (.int 69 1741)⟩, ⟨PyData.keyHash P (Str.ofString "result"), .str (Str.ofString "result") 1746, (.int 1 1742)⟩] 4), #[]⟩
noncomputable def o_536 (P : Params) : Obj := ⟨(.type "dict"), none, (.dict #[⟨PyData.keyHash P (Str.ofString "s"), .str (Str.ofString "s") 1761, (.str (Str.ofString "िछन्") 1753)⟩, ⟨PyData.keyHash P (Str.ofString "substring_i"), .str (Str.ofString "substring_i") 1763, (.int 69 1754)⟩, ⟨PyData.keyHash P (Str.ofString "result"), .str (Str.ofString "result") 1765, (.int 1 1755)⟩] 3), #[]⟩
noncomputable def o_537 (P : Params) : Obj := ⟨(.ref 218), (some 536), .plain, #[]⟩
noncomputable def o_538 (P : Params) : Obj := ⟨(.type "frame"), none, (.dict #[⟨PyData.keyHash P (Str.ofString "self"), .str (Str.ofString "self") 1756, (.ref 537)⟩, ⟨PyData.keyHash P (Str.ofString "s"), .str (Str.ofString "s") 1757, (.str (Str.ofString "िछन्") 1753)⟩, ⟨PyData.keyHash P (Str.ofString "substring_i"), .str (Str.ofString "substring_i") 1758, (.int 69 1754)⟩, ⟨PyData.keyHash P (Str.ofString "result"), .str (Str.ofString "result") 1759, (.int 1 1755)⟩] 4), #[]⟩
noncomputable def o_539 (P : Params) : Obj := ⟨(.type "dict"), none, (.dict #[⟨PyData.keyHash P (Str.ofString "s"), .str (Str.ofString "s") 1774, (.str (Str.ofString "ेछन्") 1766)⟩, ⟨PyData.keyHash P (Str.ofString "substring_i"), .str (Str.ofString "substring_i") 1776, (.int 69 1767)⟩, ⟨PyData.keyHash P (Str.ofString "result"), .str (Str.ofString "result") 1778, (.int 1 1768)⟩] 3), #[]⟩
noncomputable def o_540 (P : Params) : Obj := ⟨(.ref 218), (some 539), .plain, #[]⟩
noncomputable def o_541 (P : Params) : Obj := ⟨(.type "frame"), none, (.dict #[⟨PyData.keyHash P (Str.ofString "self"), .str (Str.ofString "self") 1769, (.ref 540)⟩, ⟨PyData.keyHash P (Str.ofString "s"), .str (Str.ofString "s") 1770, (.str (Str.ofString "ेछन्") 1766)⟩, ⟨PyData.keyHash P (Str.ofString "substring_i"), .str (Str.ofString "substring_i") 1771, (.int 69 1767)⟩, ⟨PyData.keyHash P (Str.ofString "result"), .str (Str.ofString "result") 1772, (.int 1 1768)⟩] 4), #[]⟩
noncomputable def o_542 (P : Params) : Obj := ⟨(.type "dict"), none, (.dict #[⟨PyData.keyHash P (Str.ofString "s"), .str (Str.ofString "s") 1787, (.str (Str.ofString "नेछन्") 1779)⟩, ⟨PyData.keyHash P (Str.ofString "substring_i"), .str (Str.ofString "substring_i") 1789, (.int 73 1780)⟩, ⟨PyData.keyHash P (Str.ofString "result"), .str (Str.ofString "result") 1791, (.int 1 1781)⟩] 3), #[]⟩
noncomputable def o_543 (P : Params) : Obj := ⟨(.ref 218), (some 542), .plain, #[]⟩
noncomputable def o_544 (P : Params) : Obj := ⟨(.type "frame"), none, (.dict #[⟨PyData.keyHash P (Str.ofString "self"), .str (Str.ofString "self") 1782, (.ref 543)⟩, ⟨PyData.keyHash P (Str.ofString "s"), .str (Str.ofString "s") 1783, (.str (Str.ofString "नेछन्") 1779)⟩, ⟨PyData.keyHash P (Str.ofString "substring_i"), .str (Str.ofString "substring_i") 1784, (.int 73 1780)⟩, ⟨PyData.keyHash P (Str.ofString "result"), .str (Str.ofString "result") 1785, (.int 1 1781)⟩] 4), #[]⟩
noncomputable def o_545 (P : Params) : Obj := ⟨(.type "dict"), none, (.dict #[⟨PyData.keyHash P (Str.ofString "s"), .str (Str.ofString "s") 1801, (.str (Str.ofString "लान्") 1792)⟩, ⟨PyData.keyHash P (Str.ofString "substring_i"), .str (Str.ofString "substring_i") 1803, (.int (-1) 1794)⟩, ⟨PyData.keyHash P (Str.ofString "result"), .str (Str.ofString "result") 1805, (.int 1 1795)⟩] 3), #[]⟩
noncomputable def o_546 (P : Params) : Obj := ⟨(.ref 218), (some 545), .plain, #[]⟩
noncomputable def o_547 (P : Params) : Obj := ⟨(.type "frame"), none, (.dict #[⟨PyData.keyHash P (Str.ofString "self"), .str (Str.ofString "self") 1796, (.ref 546)⟩, ⟨PyData.keyHash P (Str.ofString "s"), .str (Str.ofString "s") 1797, (.str (Str.ofString "लान्") 1792)⟩, ⟨PyData.keyHash P (Str.ofString "substring_i"), .str (Str.ofString "substring_i") 1798, (.int (-1) 1794)⟩, ⟨PyData.keyHash P (Str.ofString "result"), .str (Str.ofString "result") 1799, (.int 1 1795)⟩] 4), #[]⟩
noncomputable def o_548 (P : Params) : Obj := ⟨(.type "dict"), none, (.dict #[⟨PyData.keyHash P (Str.ofString "s"), .str (Str.ofString "s") 1815, (.str (Str.ofString "छिन्") 1806)⟩, ⟨PyData.keyHash P (Str.ofString "substring_i"), .str (Str.ofString "substring_i") 1817, (.int (-1) 1808)⟩, ⟨PyData.keyHash P (Str.ofString "result"), .str (Str.ofString "result") 1819, (.int 1 1809)⟩] 3), #[]⟩
noncomputable def o_549 (P : Params) : Obj := ⟨(.ref 218), (some 548), .plain, #[]⟩
noncomputable def o_550 (P : Params) : Obj := ⟨(.type "frame"), none, (.dict #[⟨PyData.keyHash P (Str.ofString "self"), .str (Str.ofString "self") 1810, (.ref 549)⟩, ⟨PyData.keyHash P (Str.ofString "s"), .str (Str.ofString "s") 1811, (.str (Str.ofString "छिन्") 1806)⟩, ⟨PyData.keyHash P (Str.ofString "substring_i"), .str (Str.ofString "substring_i") 1812, (.int (-1) 1808)⟩, ⟨PyData.keyHash P (Str.ofString "result"), .str (Str.ofString "result") 1813, (.int 1 1809)⟩] 4), #[]⟩
noncomputable def o_551 (P : Params) : Obj := ⟨(.type "dict"), none, (.dict #[⟨PyData.keyHash P (Str.ofString "s"), .str (Str.ofString "s") 1829, (.str (Str.ofString "थिन्") 1820)⟩, ⟨PyData.keyHash P (Str.ofString "substring_i"), .str (Str.ofString "substring_i") 1831, (.int (-1) 1822)⟩, ⟨PyData.keyHash P (Str.ofString "result"), .str (Str.ofString "result") 1833, (.int 1 1823)⟩] 3), #[]⟩
noncomputable def o_552 (P : Params) : Obj := ⟨(.ref 218), (some 551), .plain, #[]⟩
noncomputable def o_553 (P : Params) : Obj := ⟨(.type "frame"), none, (.dict #[⟨PyData.keyHash P (Str.ofString "self"), .str (Str.ofString "self") 1824, (.ref 552)⟩, ⟨PyData.keyHash P (Str.ofString "s"), .str (Str.ofString "s") 1825, (.str (Str.ofString "थिन्") 1820)⟩, ⟨PyData.keyHash P (Str.ofString "substring_i"), .str (Str.ofString "substring_i") 1826, (.int (-1) 1822)⟩, ⟨PyData.keyHash P (Str.ofString "result"), .str (Str.ofString "result") 1827, (.int 1 1823)⟩] 4), #[]⟩
noncomputable def o_554 (P : Params) : Obj := ⟨(.type "dict"), none, (.dict #[⟨PyData.keyHash P (Str.ofString "s"), .str (Str.ofString "s") 1843, (.str (Str.ofString "पर्") 1834)⟩, ⟨PyData.keyHash P (Str.ofString "substring_i"), .str (Str.ofString "substring_i") 1845, (.int (-1) 1836)⟩, ⟨PyData.keyHash P (Str.ofString "result"), .str (Str.ofString "result") 1847, (.int 1 1837)⟩] 3), #[]⟩
noncomputable def o_555 (P : Params) : Obj := ⟨(.ref 218), (some 554), .plain, #[]⟩
noncomputable def o_556 (P : Params) : Obj := ⟨(.type "frame"), none, (.dict #[⟨PyData.keyHash P (Str.ofString "self"), .str (Str.ofString "self") 1838, (.ref 555)⟩, ⟨PyData.keyHash P (Str.ofString "s"), .str (Str.ofString "s") 1839, (.str (Str.ofString "पर्") 1834)⟩, ⟨PyData.keyHash P (Str.ofString "substring_i"), .str (Str.ofString "substring_i") 1840, (.int (-1) 1836)⟩, ⟨PyData.keyHash P (Str.ofString "result"), .str (Str.ofString "result") 1841, (.int 1 1837)⟩] 4), #[]⟩
noncomputable def o_557 (P : Params) : Obj := ⟨(.type "dict"), none, (.dict #[⟨PyData.keyHash P (Str.ofString "s"), .str (Str.ofString "s") 1857, (.str (Str.ofString "इस्") 1848)⟩, ⟨PyData.keyHash P (Str.ofString "substring_i"), .str (Str.ofString "substring_i") 1859, (.int (-1) 1850)⟩, ⟨PyData.keyHash P (Str.ofString "result"), .str (Str.ofString "result") 1861, (.int 1 1851)⟩] 3), #[]⟩
noncomputable def o_558 (P : Params) : Obj := ⟨(.ref 218), (some 557), .plain, #[]⟩
noncomputable def o_559 (P : Params) : Obj := ⟨(.type "frame"), none, (.dict #[⟨PyData.keyHash P (Str.ofString "self"), .str (Str.ofString "self") 1852, (.ref 558)⟩, ⟨PyData.keyHash P (Str.ofString "s"), .str (Str.ofString "s") 1853, (.str (Str.ofString "इस्") 1848)⟩, ⟨PyData.keyHash P (Str.ofString "substring_i"), .str (Str.ofString "substring_i") 1854, (.int (-1) 1850)⟩, ⟨PyData.keyHash P (Str.ofString "result"), .str (Str.ofString "result") 1855, (.int 1 1851)⟩] 4), #[]⟩
noncomputable def o_560 (P : Params) : Obj := ⟨(.type "dict"), none, (.dict #[⟨PyData.keyHash P (Str.ofString "s"), .str (Str.ofString "s") 1870, (.str (Str.ofString "थिइस्") 1862)⟩, ⟨PyData.keyHash P (Str.ofString "substring_i"), .str (Str.ofString "substring_i") 1872, (.int 79 1863)⟩, ⟨PyData.keyHash P (Str.ofString "result"), .str (Str.ofString "result") 1874, (.int 1 1864)⟩] 3), #[]⟩
noncomputable def o_561 (P : Params) : Obj := ⟨(.ref 218), (some 560), .plain, #[]⟩
noncomputable def o_562 (P : Params) : Obj := ⟨(.type "frame"), none, (.dict #[⟨PyData.keyHash P (Str.ofString "self"), .str (Str.ofString "self") 1865, (.ref 561)⟩, ⟨PyData.keyHash P (Str.ofString "s"), .str (Str.ofString "s") 1866, (.str (Str.ofString "थिइस्") 1862)⟩, ⟨PyData.keyHash P (Str.ofString "substring_i"), .str (Str.ofString "substring_i") 1867, (.int 79 1863)⟩, ⟨PyData.keyHash P (Str.ofString "result"), .str (Str.ofString "result") 1868, (.int 1 1864)⟩] 4), #[]⟩
noncomputable def o_563 (P : Params) : Obj := ⟨(.type "dict"), none, (.dict #[⟨PyData.keyHash P (Str.ofString "s"), .str (Str.ofString "s") 1884, (.str (Str.ofString "छस्") 1875)⟩, ⟨PyData.keyHash P (Str.ofString "substring_i"), .str (Str.ofString "substring_i") 1886, (.int (-1) 1877)⟩, ⟨PyData.keyHash P (Str.ofString "result"), .str (Str.ofString "result") 1888, (.int 1 1878)⟩] 3), #[]⟩
noncomputable def o_564 (P : Params) : Obj := ⟨(.ref 218), (some 563), .plain, #[]⟩
noncomputable def o_565 (P : Params) : Obj := ⟨(.type "frame"), none, (.dict #[⟨PyData.keyHash P (Str.ofString "self"), .str (Str.ofString "self") 1879, (.ref 564)⟩, ⟨PyData.keyHash P (Str.ofString "s"), .str (Str.ofString "s") 1880, (.str (Str.ofString "छस्") 1875)⟩, ⟨PyData.keyHash P (Str.ofString "substring_i"), .str (Str.ofString "substring_i") 1881, (.int (-1) 1877)⟩, ⟨PyData.keyHash P (Str.ofString "result"), .str (Str.ofString "result") 1882, (.int 1 1878)⟩] 4), #[]⟩
noncomputable def o_566 (P : Params) : Obj := ⟨(.type "dict"), none, (.dict #[⟨PyData.keyHash P (Str.ofString "s"), .str (Str.ofString "s") 1897, (.str (Str.ofString "इछस्") 1889)⟩, ⟨PyData.keyHash P (Str.ofString "substring_i"), .str (Str.ofString "substring_i") 1899, (.int 81 1890)⟩, ⟨PyData.keyHash P (Str.ofString "result"), .str (Str.ofString "result") 1901, (.int 1 1891)⟩] 3), #[]⟩
noncomputable def o_567 (P : Params) : Obj := ⟨(.ref 218), (some 566), .plain, #[]⟩
noncomputable def o_568 (P : Params) : Obj := ⟨(.type "frame"), none, (.dict #[⟨PyData.keyHash P (Str.ofString "self"), .str (Str.ofString "self") 1892, (.ref 567)⟩, ⟨PyData.keyHash P (Str.ofString "s"), .str (Str.ofString "s") 1893, (.str (Str.ofString "इछस्") 1889)⟩, ⟨PyData.keyHash P (Str.ofString "substring_i"), .str (Str.ofString "substring_i") 1894, (.int 81 1890)⟩, ⟨PyData.keyHash P (Str.ofString "result"), .str (Str.ofString "result") 1895, (.int 1 1891)⟩] 4), #[]⟩
noncomputable def o_569 (P : Params) : Obj := ⟨(.type "dict"), none, (.dict #[⟨PyData.keyHash P (Str.ofString "s"), .str (Str.ofString "s") 1910, (.str (Str.ofString "एछस्") 1902)⟩, ⟨PyData.keyHash P (Str.ofString "substring_i"), .str (Str.ofString "substring_i") 1912, (.int 81 1903)⟩, ⟨PyData.keyHash P (Str.ofString "result"), .str (Str.ofString "result") 1914, (.int 1 1904)⟩] 3), #[]⟩
noncomputable def o_570 (P : Params) : Obj := ⟨(.ref 218), (some 569), .plain, #[]⟩
noncomputable def o_571 (P : Params) : Obj := ⟨(.type "frame"), none, (.dict #[⟨PyData.keyHash P (Str.ofString "self"), .str (Str.ofString "self") 1905, (.ref 570)⟩, ⟨PyData.keyHash P (Str.ofString "s"), .str (Str.ofString "s") 1906, (.str (Str.ofString "एछस्") 1902)⟩, ⟨PyData.keyHash P (Str.ofString "substring_i"), .str (Str.ofString "substring_i") 1907, (.int 81 1903)⟩, ⟨PyData.keyHash P (Str.ofString "result"), .str (Str.ofString "result") 1908, (.int 1 1904)⟩] 4), #[]⟩
noncomputable def o_572 (P : Params) : Obj := ⟨(.type "dict"), none, (.dict #[⟨PyData.keyHash P (Str.ofString "s"), .str (Str.ofString "s") 1923, (.str (Str.ofString "िछस्") 1915)⟩, ⟨PyData.keyHash P (Str.ofString "substring_i"), .str (Str.ofString "substring_i") 1925, (.int 81 1916)⟩, ⟨PyData.keyHash P (Str.ofString "result"), .str (Str.ofString "result") 1927, (.int 1 1917)⟩] 3), #[]⟩
noncomputable def o_573 (P : Params) : Obj := ⟨(.ref 218), (some 572), .plain, #[]⟩
noncomputable def o_574 (P : Params) : Obj := ⟨(.type "frame"), none, (.dict #[⟨PyData.keyHash P (Str.ofString "self"), .str (Str.ofString "self") 1918, (.ref 573)⟩, ⟨PyData.keyHash P (Str.ofString "s"), .str (Str.ofString "s") 1919, (.str (Str.ofString "िछस्") 1915)⟩, ⟨PyData.keyHash P (Str.ofString "substring_i"), .str (Str.ofString "substring_i") 1920, (.int 81 1916)⟩, ⟨PyData.keyHash P (Str.ofString "result"), .str (Str.ofString "result") 1921, (.int 1 1917)⟩] 4), #[]⟩
noncomputable def o_575 (P : Params) : Obj := ⟨(.type "dict"), none, (.dict #[⟨PyData.keyHash P (Str.ofString "s"), .str (Str.ofString "s") 1936, (.str (Str.ofString "ेछस्") 1928)⟩, ⟨PyData.keyHash P (Str.ofString "substring_i"), .str (Str.ofString "substring_i") 1938, (.int 81 1929)⟩, ⟨PyData.keyHash P (Str.ofString "result"), .str (Str.ofString "result") 1940, (.int 1 1930)⟩] 3), #[]⟩
noncomputable def o_576 (P : Params) : Obj := ⟨(.ref 218), (some 575), .plain, #[]⟩
noncomputable def o_577 (P : Params) : Obj := ⟨(.type "frame"), none, (.dict #[⟨PyData.keyHash P (Str.ofString "self"), .str (Str.ofString "self") 1931, (.ref 576)⟩, ⟨PyData.keyHash P (Str.ofString "s"), .str (Str.ofString "s") 1932, (.str (Str.ofString "ेछस्") 1928)⟩, ⟨PyData.keyHash P (Str.ofString "substring_i"), .str (Str.ofString "substring_i") 1933, (.int 81 1929)⟩, ⟨PyData.keyHash P (Str.ofString "result"), .str (Str.ofString "result") 1934, (.int 1 1930)⟩] 4), #[]⟩
noncomputable def o_578 (P : Params) : Obj := ⟨(.type "dict"), none, (.dict #[⟨PyData.keyHash P (Str.ofString "s"), .str (Str.ofString "s") 1949, (.str (Str.ofString "नेछस्") 1941)⟩, ⟨PyData.keyHash P (Str.ofString "substring_i"), .str (Str.ofString "substring_i") 1951, (.int 85 1942)⟩, ⟨PyData.keyHash P (Str.ofString "result"), .str (Str.ofString "result") 1953, (.int 1 1943)⟩] 3), #[]⟩
noncomputable def o_579 (P : Params) : Obj := ⟨(.ref 218), (some 578), .plain, #[]⟩
noncomputable def o_580 (P : Params) : Obj := ⟨(.type "frame"), none, (.dict #[⟨PyData.keyHash P (Str.ofString "self"), .str (Str.ofString "self") 1944, (.ref 579)⟩, ⟨PyData.keyHash P (Str.ofString "s"), .str (Str.ofString "s") 1945, (.str (Str.ofString "नेछस्") 1941)⟩, ⟨PyData.keyHash P (Str.ofString "substring_i"), .str (Str.ofString "substring_i") 1946, (.int 85 1942)⟩, ⟨PyData.keyHash P (Str.ofString "result"), .str (Str.ofString "result") 1947, (.int 1 1943)⟩] 4), #[]⟩
noncomputable def o_581 (P : Params) : Obj := ⟨(.type "dict"), none, (.dict #[⟨PyData.keyHash P (Str.ofString "s"), .str (Str.ofString "s") 1963, (.str (Str.ofString "िस्") 1954)⟩, ⟨PyData.keyHash P (Str.ofString "substring_i"), .str (Str.ofString "substring_i") 1965, (.int (-1) 1956)⟩, ⟨PyData.keyHash P (Str.ofString "result"), .str (Str.ofString "result") 1967, (.int 1 1957)⟩] 3), #[]⟩
noncomputable def o_582 (P : Params) : Obj := ⟨(.ref 218), (some 581), .plain, #[]⟩
noncomputable def o_583 (P : Params) : Obj := ⟨(.type "frame"), none, (.dict #[⟨PyData.keyHash P (Str.ofString "self"), .str (Str.ofString "self") 1958, (.ref 582)⟩, ⟨PyData.keyHash P (Str.ofString "s"), .str (Str.ofString "s") 1959, (.str (Str.ofString "िस्") 1954)⟩, ⟨PyData.keyHash P (Str.ofString "substring_i"), .str (Str.ofString "substring_i") 1960, (.int (-1) 1956)⟩, ⟨PyData.keyHash P (Str.ofString "result"), .str (Str.ofString "result") 1961, (.int 1 1957)⟩] 4), #[]⟩
noncomputable def o_584 (P : Params) : Obj := ⟨(.type "dict"), none, (.dict #[⟨PyData.keyHash P (Str.ofString "s"), .str (Str.ofString "s") 1976, (.str (Str.ofString "थिस्") 1968)⟩, ⟨PyData.keyHash P (Str.ofString "substring_i"), .str (Str.ofString "substring_i") 1978, (.int 87 1969)⟩, ⟨PyData.keyHash P (Str.ofString "result"), .str (Str.ofString "result") 1980, (.int 1 1970)⟩] 3), #[]⟩
noncomputable def o_585 (P : Params) : Obj := ⟨(.ref 218), (some 584), .plain, #[]⟩
noncomputable def o_586 (P : Params) : Obj := ⟨(.type "frame"), none, (.dict #[⟨PyData.keyHash P (Str.ofString "self"), .str (Str.ofString "self") 1971, (.ref 585)⟩, ⟨PyData.keyHash P (Str.ofString "s"), .str (Str.ofString "s") 1972, (.str (Str.ofString "थिस्") 1968)⟩, ⟨PyData.keyHash P (Str.ofString "substring_i"), .str (Str.ofString "substring_i") 1973, (.int 87 1969)⟩, ⟨PyData.keyHash P (Str.ofString "result"), .str (Str.ofString "result") 1974, (.int 1 1970)⟩] 4), #[]⟩
noncomputable def o_587 (P : Params) : Obj := ⟨(.type "dict"), none, (.dict #[⟨PyData.keyHash P (Str.ofString "s"), .str (Str.ofString "s") 1990, (.str (Str.ofString "छेस्") 1981)⟩, ⟨PyData.keyHash P (Str.ofString "substring_i"), .str (Str.ofString "substring_i") 1992, (.int (-1) 1983)⟩, ⟨PyData.keyHash P (Str.ofString "result"), .str (Str.ofString "result") 1994, (.int 1 1984)⟩] 3), #[]⟩
noncomputable def o_588 (P : Params) : Obj := ⟨(.ref 218), (some 587), .plain, #[]⟩
noncomputable def o_589 (P : Params) : Obj := ⟨(.type "frame"), none, (.dict #[⟨PyData.keyHash P (Str.ofString "self"), .str (Str.ofString "self") 1985, (.ref 588)⟩, ⟨PyData.keyHash P (Str.ofString "s"), .str (Str.ofString "s") 1986, (.str (Str.ofString "छेस्") 1981)⟩, ⟨PyData.keyHash P (Str.ofString "substring_i"), .str (Str.ofString "substring_i") 1987, (.int (-1) 1983)⟩, ⟨PyData.keyHash P (Str.ofString "result"), .str (Str.ofString "result") 1988, (.int 1 1984)⟩] 4), #[]⟩
noncomputable def o_590 (P : Params) : Obj := ⟨(.type "dict"), none, (.dict #[⟨PyData.keyHash P (Str.ofString "s"), .str (Str.ofString "s") 2004, (.str (Str.ofString "होस्") 1995)⟩, ⟨PyData.keyHash P (Str.ofString "substring_i"), .str (Str.ofString "substring_i") 2006, (.int (-1) 1997)⟩, ⟨PyData.keyHash P (Str.ofString "result"), .str (Str.ofString "result") 2008, (.int 1 1998)⟩] 3), #[]⟩
noncomputable def o_591 (P : Params) : Obj := ⟨(.ref 218), (some 590), .plain, #[]⟩
noncomputable def o_592 (P : Params) : Obj := ⟨(.type "frame"), none, (.dict #[⟨PyData.keyHash P (Str.ofString "self"), .str (Str.ofString "self") 1999, (.ref 591)⟩, ⟨PyData.keyHash P (Str.ofString "s"), .str (Str.ofString "s") 2000, (.str (Str.ofString "होस्") 1995)⟩, ⟨PyData.keyHash P (Str.ofString "substring_i"), .str (Str.ofString "substring_i") 2001, (.int (-1) 1997)⟩, ⟨PyData.keyHash P (Str.ofString "result"), .str (Str.ofString "result") 2002, (.int 1 1998)⟩] 4), #[]⟩
noncomputable def o_593 (P : Params) : Obj := ⟨(.type "list"), none, (.seq #[(.ref 321), (.ref 324), (.ref 327), (.ref 330), (.ref 333), (.ref 336), (.ref 339), (.ref 342), (.ref 345), (.ref 348), (.ref 351), (.ref 354), (.ref 357), (.ref 360), (.ref 363), (.ref 366), (.ref 369), (.ref 372), (.ref 375), (.ref 378), (.ref 381), (.ref 384), (.ref 387), (.ref 390), (.ref 393), (.ref 396), (.ref 399), (.ref 402), (.ref 405), (.ref 408), (.ref 411), (.ref 414), (.ref 417), (.ref 420), (.ref 423), (.ref 426), (.ref 429), (.ref 432), (.ref 435), (.ref 438), (.ref 441), (.ref 444), (.ref 447), (.ref 450), (.ref 453), (.ref 456), (.ref 459), (.ref 462), (.ref 465), (.ref 468), (.ref 471), (.ref 474), (.ref 477), (.ref 480), (.ref 483), (.ref 486), (.ref 489), (.ref 492), (.ref 495), (.ref 498), (.ref 501), (.ref 504), (.ref 507), (.ref 510), (.ref 513), (.ref 516), (.ref 519), (.ref 522), (.ref 525), (.ref 528), (.ref 531), (.ref 534), (.ref 537), (.ref 540), (.ref 543), (.ref 546), (.ref 549), (.ref 552), (.ref 555), (.ref 558), (.ref 561), (.ref 564), (.ref 567), (.ref 570), (.ref 573), (.ref 576), (.ref 579), (.ref 582), (.ref 585), (.ref 588), (.ref 591)] 0), #[]⟩
noncomputable def o_594 (P : Params) : Obj := ⟨(.type "tuple"), none, (.seq #[(.str (Str.ofString "bra") 2010), (.str (Str.ofString "cursor") 2011), (.str (Str.ofString "ket") 2012), (.str (Str.ofString "limit_backward") 2013)] 0), #[]⟩
noncomputable def o_595 (P : Params) : Obj := ⟨(.type "dict"), none, (.dict #[⟨PyData.keyHash P (Str.ofString "__module__"), .str (Str.ofString "__module__") 468, (.str (Str.ofString "snowballstemmer.nepali_stemmer") 459)⟩, ⟨PyData.keyHash P (Str.ofString "__firstlineno__"), .str (Str.ofString "__firstlineno__") 472, (.int 150 471)⟩, ⟨PyData.keyHash P (Str.ofString "r_remove_category_1"), .str (Str.ofString "r_remove_category_1") 480, (.ref 236)⟩, ⟨PyData.keyHash P (Str.ofString "r_remove_category_2"), .str (Str.ofString "r_remove_category_2") 488, (.ref 243)⟩, ⟨PyData.keyHash P (Str.ofString "r_remove_category_3"), .str (Str.ofString "r_remove_category_3") 495, (.ref 250)⟩, ⟨PyData.keyHash P (Str.ofString "_stem"), .str (Str.ofString "_stem") 505, (.ref 257)⟩, ⟨PyData.keyHash P (Str.ofString "a_0"), .str (Str.ofString "a_0") 744, (.ref 309)⟩, ⟨PyData.keyHash P (Str.ofString "a_1"), .str (Str.ofString "a_1") 787, (.ref 319)⟩, ⟨PyData.keyHash P (Str.ofString "a_2"), .str (Str.ofString "a_2") 2009, (.ref 593)⟩, ⟨PyData.keyHash P (Str.ofString "__static_attributes__"), .str (Str.ofString "__static_attributes__") 2014, (.ref 594)⟩, ⟨PyData.keyHash P (Str.ofString "__doc__"), .str (Str.ofString "__doc__") 2015, .none⟩] 2), #[]⟩
noncomputable def o_596 (P : Params) : Obj := ⟨(.type "type"), none, (.cls ⟨(Str.ofString "NepaliStemmer"), [(.ref 197)], [(.ref 596), (.ref 197), (.type "object")], 595, (Str.ofString "NepaliStemmer"), true, [], [], false, none, false⟩), #[(some (.ref 223)), none, (some (.str (Str.ofString "NepaliStemmer") 461)), (some (.str (Str.ofString "NepaliStemmer") 469)), (some (.builtin "object.__new__")), (some (.bool true))]⟩
noncomputable def o_597 (P : Params) : Obj := ⟨(.type "super"), none, (.fields #[(.ref 596), (.ref 596), (.ref 596)]), #[]⟩
noncomputable def o_598 (P : Params) : Obj := ⟨(.type "builtin_function_or_method"), none, (.fields #[(.builtin "object.__init_subclass__"), (.ref 596)]), #[]⟩
noncomputable def o_599 (P : Params) : Obj := ⟨(.type "tuple"), none, (.seq #[(.type "Exception")] 0), #[]⟩
noncomputable def o_600 (P : Params) : Obj := ⟨(.type "builtin_function_or_method"), none, (.fields #[(.builtin "type.__prepare__"), (.type "type")]), #[]⟩
noncomputable def o_601 (P : Params) : Obj := ⟨(.type "dict"), none, (.dict #[⟨PyData.keyHash P (Str.ofString "__module__"), .str (Str.ofString "__module__") 2025, (.str (Str.ofString "snowballstemmer.nepali_stemmer") 459)⟩, ⟨PyData.keyHash P (Str.ofString "__qualname__"), .str (Str.ofString "__qualname__") 2027, (.str (Str.ofString "lab0") 2026)⟩, ⟨PyData.keyHash P (Str.ofString "__firstlineno__"), .str (Str.ofString "__firstlineno__") 2029, (.int 248 2028)⟩, ⟨PyData.keyHash P (Str.ofString "__static_attributes__"), .str (Str.ofString "__static_attributes__") 2030, (.ref 606)⟩] 4), #[]⟩
noncomputable def o_602 (P : Params) : Obj := ⟨(.type "tuple"), none, (.seq #[] 0), #[]⟩
noncomputable def o_603 (P : Params) : Obj := ⟨.none, none, (.fields #[]), #[]⟩
noncomputable def o_604 (P : Params) : Obj := ⟨(.type "code"), none, (.fields #[(.str (Str.ofString "lab0") 2020), (.str (Str.ofString "lab0") 2021), (.str (Str.ofString "/claim/cut.py") 2022), (.int 248 0), (.int 0 0), (.int 0 0), (.int 0 0), (.int 0 0), (.ref 602), (.bool false), (.int 181 0), (.ref 603), .none, .none, .none, .none, (.int 2023 0), (.int 248 0), (.str (Str.ofString "/claim/cut.py") 2024)]), #[]⟩
noncomputable def o_605 (P : Params) : Obj := ⟨(.type "frame"), none, .plain, #[(some (.ref 604)), (some (.ref 3)), (some (.ref 601)), none, (some (.str (Str.ofString "snowballstemmer.nepali_stemmer") 459)), none, (some (.ref 0))]⟩
noncomputable def o_606 (P : Params) : Obj := ⟨(.type "tuple"), none, (.seq #[] 0), #[]⟩
noncomputable def o_607 (P : Params) : Obj := ⟨(.type "dict"), none, (.dict #[⟨PyData.keyHash P (Str.ofString "__module__"), .str (Str.ofString "__module__") 2025, (.str (Str.ofString "snowballstemmer.nepali_stemmer") 459)⟩, ⟨PyData.keyHash P (Str.ofString "__firstlineno__"), .str (Str.ofString "__firstlineno__") 2029, (.int 248 2028)⟩, ⟨PyData.keyHash P (Str.ofString "__static_attributes__"), .str (Str.ofString "__static_attributes__") 2030, (.ref 606)⟩, ⟨PyData.keyHash P (Str.ofString "__weakref__"), .str (Str.ofString "__weakref__") 2032, (.ref 609)⟩, ⟨PyData.keyHash P (Str.ofString "__doc__"), .str (Str.ofString "__doc__") 2033, .none⟩] 3), #[]⟩
noncomputable def o_608 (P : Params) : Obj := ⟨(.type "type"), none, (.cls ⟨(Str.ofString "lab0"), [(.type "Exception")], [(.ref 608), (.type "Exception"), (.type "BaseException"), (.type "object")], 607, (Str.ofString "lab0"), true, [], [], false, none, false⟩), #[(some (.ref 599)), none, (some (.str (Str.ofString "lab0") 2018)), (some (.str (Str.ofString "lab0") 2026)), (some (.builtin "Exception.__new__")), (some (.bool true))]⟩
noncomputable def o_609 (P : Params) : Obj := ⟨(.type "getset_descriptor"), none, (.fields #[(.str (Str.ofString "__weakref__") 2031), (.ref 608), (.builtin "ExceptionGroup.__weakref__"), .none]), #[]⟩
noncomputable def o_610 (P : Params) : Obj := ⟨(.type "super"), none, (.fields #[(.ref 608), (.ref 608), (.ref 608)]), #[]⟩
noncomputable def o_611 (P : Params) : Obj := ⟨(.type "builtin_function_or_method"), none, (.fields #[(.builtin "object.__init_subclass__"), (.ref 608)]), #[]⟩
noncomputable def o_612 (P : Params) : Obj := ⟨(.type "list"), none, (.seq #[(.str (Str.ofString "ए") 2040), (.str (Str.ofString "े") 2041), (.str (Str.ofString "ँ") 2042), (.str (Str.ofString "ं") 2043), (.str (Str.ofString "ै") 2044), (.str (Str.ofString "इ") 2045), (.str (Str.ofString "ि") 2046), (.str (Str.ofString "न") 2047), (.str (Str.ofString "छ") 2048), (.str (Str.ofString "थ") 2049), (.str (Str.ofString "य") 2050), (.str (Str.ofString "ौ") 2051), (.str (Str.ofString "त") 2052), (.str (Str.ofString "्") 2053), (.str (Str.ofString "र") 2054), (.str (Str.ofString "द") 2055), (.str (Str.ofString "क") 2056), (.str (Str.ofString "ा") 2057), (.str (Str.ofString "ी") 2058), (.str (Str.ofString "ो") 2059), (.str (Str.ofString "ु") 2060), (.str (Str.ofString "ू") 2061), (.str (Str.ofString "ई") 2062), (.str (Str.ofString "ख") 2063), (.str (Str.ofString "ग") 2064), (.str (Str.ofString "प") 2065), (.str (Str.ofString "फ") 2066), (.str (Str.ofString "भ") 2067), (.str (Str.ofString "म") 2068), (.str (Str.ofString "ल") 2069), (.str (Str.ofString "व") 2070), (.str (Str.ofString "स") 2071), (.str (Str.ofString "ह") 2072), (.str (Str.ofString "अ") 2073), (.str (Str.ofString "आ") 2074), (.str (Str.ofString "उ") 2075), (.str (Str.ofString "ऊ") 2076), (.str (Str.ofString "ऋ") 2077), (.str (Str.ofString "ऐ") 2078), (.str (Str.ofString "ओ") 2079), (.str (Str.ofString "औ") 2080), (.str (Str.ofString "घ") 2081), (.str (Str.ofString "ङ") 2082), (.str (Str.ofString "च") 2083), (.str (Str.ofString "ज") 2084), (.str (Str.ofString "झ") 2085), (.str (Str.ofString "ञ") 2086), (.str (Str.ofString "ट") 2087), (.str (Str.ofString "ठ") 2088), (.str (Str.ofString "ड") 2089), (.str (Str.ofString "ढ") 2090), (.str (Str.ofString "ण") 2091), (.str (Str.ofString "ध") 2092), (.str (Str.ofString "ब") 2093), (.str (Str.ofString "श") 2094), (.str (Str.ofString "ष") 2095), (.str (Str.ofString "ृ") 2096), (.str (Str.ofString "ः") 2097)] 0), #[]⟩
noncomputable def o_613 (P : Params) : Obj := ⟨(.type "list"), none, (.seq #[(.str (Str.ofString "का") 2099), (.str (Str.ofString "कि") 2100), (.str (Str.ofString "की") 2101), (.str (Str.ofString "कै") 2102), (.str (Str.ofString "को") 2103), (.str (Str.ofString "लाइ") 2104), (.str (Str.ofString "लाई") 2105), (.str (Str.ofString "सँग") 2106), (.str (Str.ofString "संग") 2107), (.str (Str.ofString "सँगै") 2108), (.str (Str.ofString "मार्फत") 2109), (.str (Str.ofString "द्वारा") 2110), (.str (Str.ofString "पछि") 2111), (.str (Str.ofString "रत") 2112), (.str (Str.ofString "मा") 2113), (.str (Str.ofString "मै") 2114), (.str (Str.ofString "ले") 2115)] 0), #[]⟩
noncomputable def o_614 (P : Params) : Obj := ⟨(.type "list"), none, (.seq #[(.str (Str.ofString "एका") 2117), (.str (Str.ofString "एकि") 2118), (.str (Str.ofString "एकी") 2119), (.str (Str.ofString "एकै") 2120), (.str (Str.ofString "एको") 2121), (.str (Str.ofString "ेका") 2122), (.str (Str.ofString "ेकि") 2123), (.str (Str.ofString "ेकी") 2124), (.str (Str.ofString "ेकै") 2125), (.str (Str.ofString "ेको") 2126)] 0), #[]⟩
noncomputable def o_615 (P : Params) : Obj := ⟨(.type "list"), none, (.seq #[(.str (Str.ofString "नौँ") 2128), (.str (Str.ofString "नौं") 2129), (.str (Str.ofString "त्रै") 2130)] 0), #[]⟩
noncomputable def o_616 (P : Params) : Obj := ⟨(.type "list"), none, (.seq #[(.str (Str.ofString "") 2132), (.str (Str.ofString "इ") 2133), (.str (Str.ofString "ए") 2134), (.str (Str.ofString "ि") 2135), (.str (Str.ofString "े") 2136), (.str (Str.ofString "ने") 2137)] 0), #[]⟩
noncomputable def o_617 (P : Params) : Obj := ⟨(.type "list"), none, (.seq #[(.str (Str.ofString "छ") 2138), (.str (Str.ofString "छन्") 2139), (.str (Str.ofString "छस्") 2140), (.str (Str.ofString "छौ") 2141), (.str (Str.ofString "छौँ") 2142), (.str (Str.ofString "छौं") 2143)] 0), #[]⟩
noncomputable def o_618 (P : Params) : Obj := ⟨(.type "tuple"), none, (.seq #[(.ref 616), (.ref 617)] 0), #[]⟩
noncomputable def o_619 (P : Params) : Obj := ⟨(.type "list"), none, (.seq #[(.str (Str.ofString "हुने") 2144), (.str (Str.ofString "इन्") 2145), (.str (Str.ofString "िन्") 2146), (.str (Str.ofString "हुन्") 2147)] 0), #[]⟩
noncomputable def o_620 (P : Params) : Obj := ⟨(.type "list"), none, (.seq #[(.str (Str.ofString "छ") 2148)] 0), #[]⟩
noncomputable def o_621 (P : Params) : Obj := ⟨(.type "tuple"), none, (.seq #[(.ref 619), (.ref 620)] 0), #[]⟩
noncomputable def o_622 (P : Params) : Obj := ⟨(.type "list"), none, (.seq #[(.str (Str.ofString "") 2149), (.str (Str.ofString "ए") 2150), (.str (Str.ofString "े") 2151), (.str (Str.ofString "ने") 2152)] 0), #[]⟩
noncomputable def o_623 (P : Params) : Obj := ⟨(.type "list"), none, (.seq #[(.str (Str.ofString "छु") 2153)] 0), #[]⟩
noncomputable def o_624 (P : Params) : Obj := ⟨(.type "tuple"), none, (.seq #[(.ref 622), (.ref 623)] 0), #[]⟩
noncomputable def o_625 (P : Params) : Obj := ⟨(.type "list"), none, (.seq #[(.str (Str.ofString "ए") 2154), (.str (Str.ofString "इए") 2155), (.str (Str.ofString "िए") 2156), (.str (Str.ofString "े") 2157), (.str (Str.ofString "ने") 2158)] 0), #[]⟩
noncomputable def o_626 (P : Params) : Obj := ⟨(.type "list"), none, (.seq #[(.str (Str.ofString "का") 2159), (.str (Str.ofString "को") 2160)] 0), #[]⟩
noncomputable def o_627 (P : Params) : Obj := ⟨(.type "tuple"), none, (.seq #[(.ref 625), (.ref 626)] 0), #[]⟩
noncomputable def o_628 (P : Params) : Obj := ⟨(.type "list"), none, (.seq #[(.str (Str.ofString "ए") 2161), (.str (Str.ofString "इए") 2162), (.str (Str.ofString "िए") 2163), (.str (Str.ofString "े") 2164)] 0), #[]⟩
noncomputable def o_629 (P : Params) : Obj := ⟨(.type "list"), none, (.seq #[(.str (Str.ofString "की") 2165)] 0), #[]⟩
noncomputable def o_630 (P : Params) : Obj := ⟨(.type "tuple"), none, (.seq #[(.ref 628), (.ref 629)] 0), #[]⟩
noncomputable def o_631 (P : Params) : Obj := ⟨(.type "list"), none, (.seq #[(.str (Str.ofString "ए") 2166), (.str (Str.ofString "े") 2167), (.str (Str.ofString "ने") 2168)] 0), #[]⟩
noncomputable def o_632 (P : Params) : Obj := ⟨(.type "list"), none, (.seq #[(.str (Str.ofString "कै") 2169)] 0), #[]⟩
noncomputable def o_633 (P : Params) : Obj := ⟨(.type "tuple"), none, (.seq #[(.ref 631), (.ref 632)] 0), #[]⟩
noncomputable def o_634 (P : Params) : Obj := ⟨(.type "list"), none, (.seq #[(.str (Str.ofString "") 2170), (.str (Str.ofString "इ") 2171), (.str (Str.ofString "ि") 2172)] 0), #[]⟩
noncomputable def o_635 (P : Params) : Obj := ⟨(.type "list"), none, (.seq #[(.str (Str.ofString "दा") 2173), (.str (Str.ofString "दै") 2174), (.str (Str.ofString "दो") 2175)] 0), #[]⟩
noncomputable def o_636 (P : Params) : Obj := ⟨(.type "tuple"), none, (.seq #[(.ref 634), (.ref 635)] 0), #[]⟩
noncomputable def o_637 (P : Params) : Obj := ⟨(.type "list"), none, (.seq #[(.str (Str.ofString "") 2176), (.str (Str.ofString "इ") 2177), (.str (Str.ofString "ि") 2178), (.str (Str.ofString "थि") 2179), (.str (Str.ofString "दि") 2180), (.str (Str.ofString "थ्") 2181), (.str (Str.ofString "भ") 2182)] 0), #[]⟩
noncomputable def o_638 (P : Params) : Obj := ⟨(.type "list"), none, (.seq #[(.str (Str.ofString "यो") 2183)] 0), #[]⟩
noncomputable def o_639 (P : Params) : Obj := ⟨(.type "tuple"), none, (.seq #[(.ref 637), (.ref 638)] 0), #[]⟩
noncomputable def o_640 (P : Params) : Obj := ⟨(.type "list"), none, (.seq #[(.str (Str.ofString "") 2184), (.str (Str.ofString "थि") 2185), (.str (Str.ofString "थ्") 2186), (.str (Str.ofString "छ्") 2187)] 0), #[]⟩
noncomputable def o_641 (P : Params) : Obj := ⟨(.type "list"), none, (.seq #[(.str (Str.ofString "यौ") 2188), (.str (Str.ofString "यौँ") 2189), (.str (Str.ofString "यौं") 2190)] 0), #[]⟩
noncomputable def o_642 (P : Params) : Obj := ⟨(.type "tuple"), none, (.seq #[(.ref 640), (.ref 641)] 0), #[]⟩
noncomputable def o_643 (P : Params) : Obj := ⟨(.type "list"), none, (.seq #[(.str (Str.ofString "इ") 2191), (.str (Str.ofString "थिइ") 2192), (.str (Str.ofString "ि") 2193), (.str (Str.ofString "थि") 2194), (.str (Str.ofString "छे") 2195), (.str (Str.ofString "हो") 2196)] 0), #[]⟩
noncomputable def o_644 (P : Params) : Obj := ⟨(.type "list"), none, (.seq #[(.str (Str.ofString "स्") 2197)] 0), #[]⟩
noncomputable def o_645 (P : Params) : Obj := ⟨(.type "tuple"), none, (.seq #[(.ref 643), (.ref 644)] 0), #[]⟩
noncomputable def o_646 (P : Params) : Obj := ⟨(.type "list"), none, (.seq #[(.str (Str.ofString "छि") 2198), (.str (Str.ofString "थि") 2199), (.str (Str.ofString "ला") 2200)] 0), #[]⟩
noncomputable def o_647 (P : Params) : Obj := ⟨(.type "list"), none, (.seq #[(.str (Str.ofString "न्") 2201)] 0), #[]⟩
noncomputable def o_648 (P : Params) : Obj := ⟨(.type "tuple"), none, (.seq #[(.ref 646), (.ref 647)] 0), #[]⟩
noncomputable def o_649 (P : Params) : Obj := ⟨(.type "list"), none, (.seq #[(.str (Str.ofString "") 2202)] 0), #[]⟩
noncomputable def o_650 (P : Params) : Obj := ⟨(.type "list"), none, (.seq #[(.str (Str.ofString "थिए") 2203), (.str (Str.ofString "देखि") 2204), (.str (Str.ofString "देखी") 2205), (.str (Str.ofString "माथि") 2206), (.str (Str.ofString "थी") 2207), (.str (Str.ofString "दी") 2208), (.str (Str.ofString "नु") 2209), (.str (Str.ofString "हरु") 2210), (.str (Str.ofString "हरू") 2211), (.str (Str.ofString "छे") 2212), (.str (Str.ofString "ने") 2213), (.str (Str.ofString "पर्") 2214), (.str (Str.ofString "थे") 2215), (.str (Str.ofString "थेँ") 2216), (.str (Str.ofString "थें") 2217)] 0), #[]⟩
noncomputable def o_651 (P : Params) : Obj := ⟨(.type "tuple"), none, (.seq #[(.ref 649), (.ref 650)] 0), #[]⟩
noncomputable def o_652 (P : Params) : Obj := ⟨(.type "list"), none, (.seq #[(.ref 618), (.ref 621), (.ref 624), (.ref 627), (.ref 630), (.ref 633), (.ref 636), (.ref 639), (.ref 642), (.ref 645), (.ref 648), (.ref 651)] 0), #[]⟩
noncomputable def o_653 (P : Params) : Obj := ⟨(.type "tuple"), none, (.seq #[] 0), #[]⟩
noncomputable def o_654 (P : Params) : Obj := ⟨.none, none, (.fields #[]), #[]⟩
noncomputable def o_655 (P : Params) : Obj := ⟨(.type "tuple"), none, (.seq #[(.str (Str.ofString "word") 2222), (.str (Str.ofString "ends") 2223), (.str (Str.ofString "place") 2224)] 0), #[]⟩
noncomputable def o_656 (P : Params) : Obj := ⟨(.type "tuple"), none, (.seq #[] 0), #[]⟩
noncomputable def o_657 (P : Params) : Obj := ⟨.none, none, (.func ⟨(Str.ofString "_law_cut"), (Str.ofString "_law_cut"), ar_14, .stmts bd_14, sc_14, 0, [], .none, .none, .none, .none, none, .none, .none, 0⟩), #[]⟩
noncomputable def o_658 (P : Params) : Obj := ⟨(.type "code"), none, (.fields #[(.str (Str.ofString "_law_cut") 2219), (.str (Str.ofString "_law_cut") 2220), (.str (Str.ofString "/claim/cut.py") 2221), (.int 256 0), (.int 2 0), (.int 0 0), (.int 0 0), (.int 3 0), (.ref 653), (.bool true), (.int 181 0), (.ref 654), .none, (.ref 655), (.ref 656), (.ref 657), (.int 2225 0), (.int 256 0), (.str (Str.ofString "/claim/cut.py") 2226)]), #[]⟩
noncomputable def o_659 (P : Params) : Obj := ⟨(.type "function"), none, (.func ⟨(Str.ofString "_law_cut"), (Str.ofString "_law_cut"), ar_14, .stmts bd_14, sc_14, 3, [], .none, .none, .none, (.str (Str.ofString "law_iu0021_01") 2038), none, (.ref 658), .none, 0⟩), #[]⟩
noncomputable def o_660 (P : Params) : Obj := ⟨(.type "tuple"), none, (.seq #[] 0), #[]⟩
noncomputable def o_661 (P : Params) : Obj := ⟨.none, none, (.fields #[]), #[]⟩
noncomputable def o_662 (P : Params) : Obj := ⟨(.type "tuple"), none, (.seq #[(.str (Str.ofString "word") 2231)] 0), #[]⟩
noncomputable def o_663 (P : Params) : Obj := ⟨(.type "tuple"), none, (.seq #[] 0), #[]⟩
noncomputable def o_664 (P : Params) : Obj := ⟨.none, none, (.func ⟨(Str.ofString "_law_first"), (Str.ofString "_law_first"), ar_15, .stmts bd_15, sc_15, 0, [], .none, .none, .none, .none, none, .none, .none, 0⟩), #[]⟩
noncomputable def o_665 (P : Params) : Obj := ⟨(.type "code"), none, (.fields #[(.str (Str.ofString "_law_first") 2228), (.str (Str.ofString "_law_first") 2229), (.str (Str.ofString "/claim/cut.py") 2230), (.int 261 0), (.int 1 0), (.int 0 0), (.int 0 0), (.int 3 0), (.ref 660), (.bool true), (.int 181 0), (.ref 661), .none, (.ref 662), (.ref 663), (.ref 664), (.int 2232 0), (.int 261 0), (.str (Str.ofString "/claim/cut.py") 2233)]), #[]⟩
noncomputable def o_666 (P : Params) : Obj := ⟨(.type "function"), none, (.func ⟨(Str.ofString "_law_first"), (Str.ofString "_law_first"), ar_15, .stmts bd_15, sc_15, 3, [], .none, .none, .none, (.str (Str.ofString "law_iu0021_01") 2038), none, (.ref 665), .none, 0⟩), #[]⟩
noncomputable def o_667 (P : Params) : Obj := ⟨(.type "tuple"), none, (.seq #[] 0), #[]⟩
noncomputable def o_668 (P : Params) : Obj := ⟨.none, none, (.fields #[]), #[]⟩
noncomputable def o_669 (P : Params) : Obj := ⟨(.type "tuple"), none, (.seq #[(.str (Str.ofString "word") 2238), (.str (Str.ofString "ends") 2239), (.str (Str.ofString "turn") 2240)] 0), #[]⟩
noncomputable def o_670 (P : Params) : Obj := ⟨(.type "tuple"), none, (.seq #[] 0), #[]⟩
noncomputable def o_671 (P : Params) : Obj := ⟨.none, none, (.func ⟨(Str.ofString "_law_rest"), (Str.ofString "_law_rest"), ar_16, .stmts bd_16, sc_16, 0, [], .none, .none, .none, .none, none, .none, .none, 0⟩), #[]⟩
noncomputable def o_672 (P : Params) : Obj := ⟨(.type "code"), none, (.fields #[(.str (Str.ofString "_law_rest") 2235), (.str (Str.ofString "_law_rest") 2236), (.str (Str.ofString "/claim/cut.py") 2237), (.int 265 0), (.int 2 0), (.int 0 0), (.int 0 0), (.int 3 0), (.ref 667), (.bool true), (.int 181 0), (.ref 668), .none, (.ref 669), (.ref 670), (.ref 671), (.int 2241 0), (.int 265 0), (.str (Str.ofString "/claim/cut.py") 2242)]), #[]⟩
noncomputable def o_673 (P : Params) : Obj := ⟨(.type "function"), none, (.func ⟨(Str.ofString "_law_rest"), (Str.ofString "_law_rest"), ar_16, .stmts bd_16, sc_16, 3, [], .none, .none, .none, (.str (Str.ofString "law_iu0021_01") 2038), none, (.ref 672), .none, 0⟩), #[]⟩
noncomputable def o_674 (P : Params) : Obj := ⟨(.type "tuple"), none, (.seq #[] 0), #[]⟩
noncomputable def o_675 (P : Params) : Obj := ⟨.none, none, (.fields #[]), #[]⟩
noncomputable def o_676 (P : Params) : Obj := ⟨.none, none, (.func ⟨(Str.ofString "law"), (Str.ofString "law"), ar_17, .stmts bd_17, sc_17, 0, [], .none, .none, .none, .none, none, .none, .none, 0⟩), #[]⟩
noncomputable def o_677 (P : Params) : Obj := ⟨(.type "code"), none, (.fields #[(.str (Str.ofString "law") 2244), (.str (Str.ofString "law") 2245), (.str (Str.ofString "/claim/cut.py") 2246), (.int 271 0), (.int 1 0), (.int 0 0), (.int 0 0), (.int 3 0), (.ref 674), (.bool true), (.int 181 0), (.ref 675), .none, .none, .none, (.ref 676), (.int 2247 0), (.int 271 0), (.str (Str.ofString "/claim/cut.py") 2248)]), #[]⟩
noncomputable def o_678 (P : Params) : Obj := ⟨(.type "function"), none, (.func ⟨(Str.ofString "law"), (Str.ofString "law"), ar_17, .stmts bd_17, sc_17, 3, [], .none, .none, .none, (.str (Str.ofString "law_iu0021_01") 2038), none, (.ref 677), .none, 0⟩), #[]⟩
noncomputable def OL : List (List (Params → Obj)) := [[o_0, o_1, o_2, o_3, o_4, o_5, o_6, o_7, o_8, o_9, o_10, o_11, o_12, o_13, o_14, o_15, o_16, o_17, o_18, o_19, o_20, o_21, o_22, o_23, o_24, o_25, o_26, o_27, o_28, o_29, o_30, o_31],
  [o_32, o_33, o_34, o_35, o_36, o_37, o_38, o_39, o_40, o_41, o_42, o_43, o_44, o_45, o_46, o_47, o_48, o_49, o_50, o_51, o_52, o_53, o_54, o_55, o_56, o_57, o_58, o_59, o_60, o_61, o_62, o_63],
  [o_64, o_65, o_66, o_67, o_68, o_69, o_70, o_71, o_72, o_73, o_74, o_75, o_76, o_77, o_78, o_79, o_80, o_81, o_82, o_83, o_84, o_85, o_86, o_87, o_88, o_89, o_90, o_91, o_92, o_93, o_94, o_95],
  [o_96, o_97, o_98, o_99, o_100, o_101, o_102, o_103, o_104, o_105, o_106, o_107, o_108, o_109, o_110, o_111, o_112, o_113, o_114, o_115, o_116, o_117, o_118, o_119, o_120, o_121, o_122, o_123, o_124, o_125, o_126, o_127],
  [o_128, o_129, o_130, o_131, o_132, o_133, o_134, o_135, o_136, o_137, o_138, o_139, o_140, o_141, o_142, o_143, o_144, o_145, o_146, o_147, o_148, o_149, o_150, o_151, o_152, o_153, o_154, o_155, o_156, o_157, o_158, o_159],
  [o_160, o_161, o_162, o_163, o_164, o_165, o_166, o_167, o_168, o_169, o_170, o_171, o_172, o_173, o_174, o_175, o_176, o_177, o_178, o_179, o_180, o_181, o_182, o_183, o_184, o_185, o_186, o_187, o_188, o_189, o_190, o_191],
  [o_192, o_193, o_194, o_195, o_196, o_197, o_198, o_199, o_200, o_201, o_202, o_203, o_204, o_205, o_206, o_207, o_208, o_209, o_210, o_211, o_212, o_213, o_214, o_215, o_216, o_217, o_218, o_219, o_220, o_221, o_222, o_223],
  [o_224, o_225, o_226, o_227, o_228, o_229, o_230, o_231, o_232, o_233, o_234, o_235, o_236, o_237, o_238, o_239, o_240, o_241, o_242, o_243, o_244, o_245, o_246, o_247, o_248, o_249, o_250, o_251, o_252, o_253, o_254, o_255],
  [o_256, o_257, o_258, o_259, o_260, o_261, o_262, o_263, o_264, o_265, o_266, o_267, o_268, o_269, o_270, o_271, o_272, o_273, o_274, o_275, o_276, o_277, o_278, o_279, o_280, o_281, o_282, o_283, o_284, o_285, o_286, o_287],
  [o_288, o_289, o_290, o_291, o_292, o_293, o_294, o_295, o_296, o_297, o_298, o_299, o_300, o_301, o_302, o_303, o_304, o_305, o_306, o_307, o_308, o_309, o_310, o_311, o_312, o_313, o_314, o_315, o_316, o_317, o_318, o_319],
  [o_320, o_321, o_322, o_323, o_324, o_325, o_326, o_327, o_328, o_329, o_330, o_331, o_332, o_333, o_334, o_335, o_336, o_337, o_338, o_339, o_340, o_341, o_342, o_343, o_344, o_345, o_346, o_347, o_348, o_349, o_350, o_351],
  [o_352, o_353, o_354, o_355, o_356, o_357, o_358, o_359, o_360, o_361, o_362, o_363, o_364, o_365, o_366, o_367, o_368, o_369, o_370, o_371, o_372, o_373, o_374, o_375, o_376, o_377, o_378, o_379, o_380, o_381, o_382, o_383],
  [o_384, o_385, o_386, o_387, o_388, o_389, o_390, o_391, o_392, o_393, o_394, o_395, o_396, o_397, o_398, o_399, o_400, o_401, o_402, o_403, o_404, o_405, o_406, o_407, o_408, o_409, o_410, o_411, o_412, o_413, o_414, o_415],
  [o_416, o_417, o_418, o_419, o_420, o_421, o_422, o_423, o_424, o_425, o_426, o_427, o_428, o_429, o_430, o_431, o_432, o_433, o_434, o_435, o_436, o_437, o_438, o_439, o_440, o_441, o_442, o_443, o_444, o_445, o_446, o_447],
  [o_448, o_449, o_450, o_451, o_452, o_453, o_454, o_455, o_456, o_457, o_458, o_459, o_460, o_461, o_462, o_463, o_464, o_465, o_466, o_467, o_468, o_469, o_470, o_471, o_472, o_473, o_474, o_475, o_476, o_477, o_478, o_479],
  [o_480, o_481, o_482, o_483, o_484, o_485, o_486, o_487, o_488, o_489, o_490, o_491, o_492, o_493, o_494, o_495, o_496, o_497, o_498, o_499, o_500, o_501, o_502, o_503, o_504, o_505, o_506, o_507, o_508, o_509, o_510, o_511],
  [o_512, o_513, o_514, o_515, o_516, o_517, o_518, o_519, o_520, o_521, o_522, o_523, o_524, o_525, o_526, o_527, o_528, o_529, o_530, o_531, o_532, o_533, o_534, o_535, o_536, o_537, o_538, o_539, o_540, o_541, o_542, o_543],
  [o_544, o_545, o_546, o_547, o_548, o_549, o_550, o_551, o_552, o_553, o_554, o_555, o_556, o_557, o_558, o_559, o_560, o_561, o_562, o_563, o_564, o_565, o_566, o_567, o_568, o_569, o_570, o_571, o_572, o_573, o_574, o_575],
  [o_576, o_577, o_578, o_579, o_580, o_581, o_582, o_583, o_584, o_585, o_586, o_587, o_588, o_589, o_590, o_591, o_592, o_593, o_594, o_595, o_596, o_597, o_598, o_599, o_600, o_601, o_602, o_603, o_604, o_605, o_606, o_607],
  [o_608, o_609, o_610, o_611, o_612, o_613, o_614, o_615, o_616, o_617, o_618, o_619, o_620, o_621, o_622, o_623, o_624, o_625, o_626, o_627, o_628, o_629, o_630, o_631, o_632, o_633, o_634, o_635, o_636, o_637, o_638, o_639],
  [o_640, o_641, o_642, o_643, o_644, o_645, o_646, o_647, o_648, o_649, o_650, o_651, o_652, o_653, o_654, o_655, o_656, o_657, o_658, o_659, o_660, o_661, o_662, o_663, o_664, o_665, o_666, o_667, o_668, o_669, o_670, o_671],
  [o_672, o_673, o_674, o_675, o_676, o_677, o_678]]
noncomputable def O (P : Params) (b : Nat) : Obj := nth (fun _ => default) (nth [] OL (b / 32)) (b % 32) P
noncomputable def pick (d : Nat → Obj) (b : Nat) (l : List (Nat × Obj)) : Obj := @List.rec (Nat × Obj) (fun _ => Obj) (d b) (fun p _ ih => @Bool.rec (fun _ => Obj) ih p.2 (Nat.beq p.1 b)) l
noncomputable def mkT (o : Nat → Obj) (n : Nat) (k : Nat) : Nat → Nat → BT := @Nat.rec (fun _ => Nat → Nat → BT) (fun _ _ => .nil) (fun _ ih a b => @Bool.rec (fun _ => BT) .nil (.node (o b) (ih (Nat.mul 2 a) (Nat.add a b)) (ih (Nat.mul 2 a) (Nat.add (Nat.mul 2 a) b))) (Nat.blt b n)) k
noncomputable def stT (o : Nat → Obj) (n toks : Nat) (os : OsState) : SharedT := ⟨mkT o n 11 1 0, n, {}, #[], {}, toks, os⟩
noncomputable def v_2_pre (P : Params) : Obj := ⟨.none, none, (.dict #[] 0), #[]⟩
noncomputable def v_3_pre (P : Params) : Obj := ⟨(.type "dict"), none, (.dict #[⟨PyData.keyHash P (Str.ofString "__name__"), .str (Str.ofString "__name__") 165, (.str (Str.ofString "__main__") 164)⟩, ⟨PyData.keyHash P (Str.ofString "__doc__"), .str (Str.ofString "__doc__") 166, .none⟩, ⟨PyData.keyHash P (Str.ofString "__package__"), .str (Str.ofString "__package__") 167, .none⟩, ⟨PyData.keyHash P (Str.ofString "__loader__"), .str (Str.ofString "__loader__") 168, (.builtin "__main__.__loader__#opaque")⟩, ⟨PyData.keyHash P (Str.ofString "__spec__"), .str (Str.ofString "__spec__") 169, .none⟩, ⟨PyData.keyHash P (Str.ofString "__annotations__"), .str (Str.ofString "__annotations__") 170, (.ref 6)⟩, ⟨PyData.keyHash P (Str.ofString "__builtins__"), .str (Str.ofString "__builtins__") 171, (.ref 4)⟩, ⟨PyData.keyHash P (Str.ofString "__file__"), .str (Str.ofString "__file__") 173, (.str (Str.ofString "/claim/cut.py") 172)⟩, ⟨PyData.keyHash P (Str.ofString "__cached__"), .str (Str.ofString "__cached__") 174, .none⟩] 9), #[]⟩
noncomputable def v_12_pre (P : Params) : Obj := ⟨.none, none, (.fields #[]), #[]⟩
noncomputable def ob_pre (P : Params) (b : Nat) : Obj := pick (O P) b [(2, v_2_pre P), (3, v_3_pre P), (12, v_12_pre P)]
noncomputable def st_pre (P : Params) (os : OsState) : SharedT := stT (ob_pre P) 15 187 os
noncomputable def pos_pre : Pos := ⟨0, 0, 0, 0⟩
noncomputable def v_3_p5 (P : Params) : Obj := ⟨(.type "dict"), none, (.dict #[⟨PyData.keyHash P (Str.ofString "__name__"), .str (Str.ofString "__name__") 165, (.str (Str.ofString "snowballstemmer.nepali_stemmer") 459)⟩, ⟨PyData.keyHash P (Str.ofString "__doc__"), .str (Str.ofString "__doc__") 166, .none⟩, ⟨PyData.keyHash P (Str.ofString "__package__"), .str (Str.ofString "__package__") 167, .none⟩, ⟨PyData.keyHash P (Str.ofString "__loader__"), .str (Str.ofString "__loader__") 168, (.builtin "__main__.__loader__#opaque")⟩, ⟨PyData.keyHash P (Str.ofString "__spec__"), .str (Str.ofString "__spec__") 169, .none⟩, ⟨PyData.keyHash P (Str.ofString "__annotations__"), .str (Str.ofString "__annotations__") 170, (.ref 6)⟩, ⟨PyData.keyHash P (Str.ofString "__builtins__"), .str (Str.ofString "__builtins__") 171, (.ref 4)⟩, ⟨PyData.keyHash P (Str.ofString "__file__"), .str (Str.ofString "__file__") 173, (.str (Str.ofString "/claim/cut.py") 172)⟩, ⟨PyData.keyHash P (Str.ofString "__cached__"), .str (Str.ofString "__cached__") 174, .none⟩, ⟨PyData.keyHash P (Str.ofString "_wall"), .str (Str.ofString "_wall") 193, (.ref 21)⟩, ⟨PyData.keyHash P (Str.ofString "BaseStemmer"), .str (Str.ofString "BaseStemmer") 423, (.ref 197)⟩, ⟨PyData.keyHash P (Str.ofString "Among"), .str (Str.ofString "Among") 458, (.ref 218)⟩] 12), #[]⟩
noncomputable def v_12_p5 (P : Params) : Obj := ⟨.none, none, (.fields #[(.int 1 0), (.int 0 0), (.ref 20), (.int 5 0), (.int 0 0), (.ref 27), (.int 143 0), (.int 0 0), (.ref 207)]), #[]⟩
noncomputable def v_197_p5 (P : Params) : Obj := ⟨(.type "type"), none, (.cls ⟨(Str.ofString "BaseStemmer"), [(.type "object")], [(.ref 197), (.type "object")], 196, (Str.ofString "BaseStemmer"), true, [], [], false, none, false⟩), #[none, none, (some (.str (Str.ofString "BaseStemmer") 196)), (some (.str (Str.ofString "BaseStemmer") 204)), (some (.builtin "object.__new__")), (some (.bool true))]⟩
noncomputable def ob_p5 (P : Params) (b : Nat) : Obj := pick (O P) b [(2, v_2_pre P), (3, v_3_p5 P), (12, v_12_p5 P), (197, v_197_p5 P)]
noncomputable def st_p5 (P : Params) (os : OsState) : SharedT := stT (ob_p5 P) 223 461 os
noncomputable def pos_p5 : Pos := ⟨149, 0, 149, 8⟩
noncomputable def v_12_c0 (P : Params) : Obj := ⟨.none, none, (.fields #[(.int 1 0), (.int 0 0), (.ref 20), (.int 5 0), (.int 0 0), (.ref 27), (.int 143 0), (.int 0 0), (.ref 207), (.int 150 0), (.int 0 0), (.ref 228)]), #[]⟩
noncomputable def v_225_c0 (P : Params) : Obj := ⟨(.type "dict"), none, (.dict #[⟨PyData.keyHash P (Str.ofString "__module__"), .str (Str.ofString "__module__") 468, (.str (Str.ofString "snowballstemmer.nepali_stemmer") 459)⟩, ⟨PyData.keyHash P (Str.ofString "__qualname__"), .str (Str.ofString "__qualname__") 470, (.str (Str.ofString "NepaliStemmer") 469)⟩, ⟨PyData.keyHash P (Str.ofString "__firstlineno__"), .str (Str.ofString "__firstlineno__") 472, (.int 150 471)⟩] 3), #[]⟩
noncomputable def v_227_c0 (P : Params) : Obj := ⟨.none, none, (.fields #[]), #[]⟩
noncomputable def ob_c0 (P : Params) (b : Nat) : Obj := pick (O P) b [(2, v_2_pre P), (3, v_3_p5 P), (12, v_12_c0 P), (197, v_197_p5 P), (225, v_225_c0 P), (227, v_227_c0 P)]
noncomputable def st_c0 (P : Params) (os : OsState) : SharedT := stT (ob_c0 P) 230 473 os
noncomputable def pos_c0 : Pos := ⟨150, 0, 247, 2539⟩
noncomputable def v_225_c8 (P : Params) : Obj := ⟨(.type "dict"), none, (.dict #[⟨PyData.keyHash P (Str.ofString "__module__"), .str (Str.ofString "__module__") 468, (.str (Str.ofString "snowballstemmer.nepali_stemmer") 459)⟩, ⟨PyData.keyHash P (Str.ofString "__qualname__"), .str (Str.ofString "__qualname__") 470, (.str (Str.ofString "NepaliStemmer") 469)⟩, ⟨PyData.keyHash P (Str.ofString "__firstlineno__"), .str (Str.ofString "__firstlineno__") 472, (.int 150 471)⟩, ⟨PyData.keyHash P (Str.ofString "r_remove_category_1"), .str (Str.ofString "r_remove_category_1") 480, (.ref 236)⟩, ⟨PyData.keyHash P (Str.ofString "r_remove_category_2"), .str (Str.ofString "r_remove_category_2") 488, (.ref 243)⟩, ⟨PyData.keyHash P (Str.ofString "r_remove_category_3"), .str (Str.ofString "r_remove_category_3") 495, (.ref 250)⟩, ⟨PyData.keyHash P (Str.ofString "_stem"), .str (Str.ofString "_stem") 505, (.ref 257)⟩, ⟨PyData.keyHash P (Str.ofString "a_0"), .str (Str.ofString "a_0") 744, (.ref 309)⟩, ⟨PyData.keyHash P (Str.ofString "a_1"), .str (Str.ofString "a_1") 787, (.ref 319)⟩] 9), #[]⟩
noncomputable def ob_c8 (P : Params) (b : Nat) : Obj := pick (O P) b [(2, v_2_pre P), (3, v_3_p5 P), (12, v_12_c0 P), (197, v_197_p5 P), (225, v_225_c8 P)]
noncomputable def st_c8 (P : Params) (os : OsState) : SharedT := stT (ob_c8 P) 320 788 os
noncomputable def pos_c8 : Pos := ⟨246, 4, 246, 7⟩
noncomputable def v_225_c11 (P : Params) : Obj := ⟨(.type "dict"), none, (.dict #[⟨PyData.keyHash P (Str.ofString "__module__"), .str (Str.ofString "__module__") 468, (.str (Str.ofString "snowballstemmer.nepali_stemmer") 459)⟩, ⟨PyData.keyHash P (Str.ofString "__qualname__"), .str (Str.ofString "__qualname__") 470, (.str (Str.ofString "NepaliStemmer") 469)⟩, ⟨PyData.keyHash P (Str.ofString "__firstlineno__"), .str (Str.ofString "__firstlineno__") 472, (.int 150 471)⟩, ⟨PyData.keyHash P (Str.ofString "r_remove_category_1"), .str (Str.ofString "r_remove_category_1") 480, (.ref 236)⟩, ⟨PyData.keyHash P (Str.ofString "r_remove_category_2"), .str (Str.ofString "r_remove_category_2") 488, (.ref 243)⟩, ⟨PyData.keyHash P (Str.ofString "r_remove_category_3"), .str (Str.ofString "r_remove_category_3") 495, (.ref 250)⟩, ⟨PyData.keyHash P (Str.ofString "_stem"), .str (Str.ofString "_stem") 505, (.ref 257)⟩, ⟨PyData.keyHash P (Str.ofString "a_0"), .str (Str.ofString "a_0") 744, (.ref 309)⟩, ⟨PyData.keyHash P (Str.ofString "a_1"), .str (Str.ofString "a_1") 787, (.ref 319)⟩, ⟨PyData.keyHash P (Str.ofString "a_2"), .str (Str.ofString "a_2") 2009, (.ref 593)⟩] 10), #[]⟩
noncomputable def ob_c11 (P : Params) (b : Nat) : Obj := pick (O P) b [(2, v_2_pre P), (3, v_3_p5 P), (12, v_12_c0 P), (197, v_197_p5 P), (225, v_225_c11 P)]
noncomputable def st_c11 (P : Params) (os : OsState) : SharedT := stT (ob_c11 P) 594 2010 os
noncomputable def pos_c11 : Pos := ⟨247, 4, 247, 7⟩
noncomputable def v_3_p6 (P : Params) : Obj := ⟨(.type "dict"), none, (.dict #[⟨PyData.keyHash P (Str.ofString "__name__"), .str (Str.ofString "__name__") 165, (.str (Str.ofString "snowballstemmer.nepali_stemmer") 459)⟩, ⟨PyData.keyHash P (Str.ofString "__doc__"), .str (Str.ofString "__doc__") 166, .none⟩, ⟨PyData.keyHash P (Str.ofString "__package__"), .str (Str.ofString "__package__") 167, .none⟩, ⟨PyData.keyHash P (Str.ofString "__loader__"), .str (Str.ofString "__loader__") 168, (.builtin "__main__.__loader__#opaque")⟩, ⟨PyData.keyHash P (Str.ofString "__spec__"), .str (Str.ofString "__spec__") 169, .none⟩, ⟨PyData.keyHash P (Str.ofString "__annotations__"), .str (Str.ofString "__annotations__") 170, (.ref 6)⟩, ⟨PyData.keyHash P (Str.ofString "__builtins__"), .str (Str.ofString "__builtins__") 171, (.ref 4)⟩, ⟨PyData.keyHash P (Str.ofString "__file__"), .str (Str.ofString "__file__") 173, (.str (Str.ofString "/claim/cut.py") 172)⟩, ⟨PyData.keyHash P (Str.ofString "__cached__"), .str (Str.ofString "__cached__") 174, .none⟩, ⟨PyData.keyHash P (Str.ofString "_wall"), .str (Str.ofString "_wall") 193, (.ref 21)⟩, ⟨PyData.keyHash P (Str.ofString "BaseStemmer"), .str (Str.ofString "BaseStemmer") 423, (.ref 197)⟩, ⟨PyData.keyHash P (Str.ofString "Among"), .str (Str.ofString "Among") 458, (.ref 218)⟩, ⟨PyData.keyHash P (Str.ofString "NepaliStemmer"), .str (Str.ofString "NepaliStemmer") 2017, (.ref 596)⟩] 13), #[]⟩
noncomputable def ob_p6 (P : Params) (b : Nat) : Obj := pick (O P) b [(2, v_2_pre P), (3, v_3_p6 P), (12, v_12_c0 P)]
noncomputable def st_p6 (P : Params) (os : OsState) : SharedT := stT (ob_p6 P) 599 2018 os
noncomputable def pos_p6 : Pos := ⟨150, 0, 247, 2539⟩
noncomputable def ob_p17 (P : Params) (b : Nat) : Obj := pick (O P) b []
noncomputable def st_p17 (P : Params) (os : OsState) : SharedT := stT (ob_p17 P) 679 2250 os
noncomputable def pos_p17 : Pos := ⟨271, 0, 295, 43⟩
noncomputable def heap_39 : Params → Frag := fun P => (nat_lit 2, o_2 P) :: (nat_lit 3, o_3 P) :: (nat_lit 15, o_15 P) :: (nat_lit 17, o_17 P) :: (nat_lit 18, o_18 P) :: (nat_lit 20, o_20 P) :: (nat_lit 21, o_21 P) :: (nat_lit 29, o_29 P) :: (nat_lit 31, o_31 P) :: (nat_lit 32, o_32 P) :: (nat_lit 34, o_34 P) :: (nat_lit 35, o_35 P) :: (nat_lit 36, o_36 P) :: (nat_lit 38, o_38 P) :: (nat_lit 39, o_39 P) :: (nat_lit 41, o_41 P) :: (nat_lit 42, o_42 P) :: (nat_lit 43, o_43 P) :: (nat_lit 45, o_45 P) :: (nat_lit 46, o_46 P) :: (nat_lit 48, o_48 P) :: (nat_lit 49, o_49 P) :: (nat_lit 50, o_50 P) :: (nat_lit 52, o_52 P) :: (nat_lit 53, o_53 P) :: (nat_lit 55, o_55 P) :: (nat_lit 56, o_56 P) :: (nat_lit 57, o_57 P) :: (nat_lit 59, o_59 P) :: (nat_lit 60, o_60 P) :: (nat_lit 62, o_62 P) :: (nat_lit 63, o_63 P) :: (nat_lit 64, o_64 P) :: (nat_lit 66, o_66 P) :: (nat_lit 67, o_67 P) :: (nat_lit 69, o_69 P) :: (nat_lit 70, o_70 P) :: (nat_lit 71, o_71 P) :: (nat_lit 73, o_73 P) :: (nat_lit 74, o_74 P) :: (nat_lit 76, o_76 P) :: (nat_lit 77, o_77 P) :: (nat_lit 78, o_78 P) :: (nat_lit 80, o_80 P) :: (nat_lit 81, o_81 P) :: (nat_lit 83, o_83 P) :: (nat_lit 84, o_84 P) :: (nat_lit 85, o_85 P) :: (nat_lit 87, o_87 P) :: (nat_lit 88, o_88 P) :: (nat_lit 90, o_90 P) :: (nat_lit 91, o_91 P) :: (nat_lit 92, o_92 P) :: (nat_lit 94, o_94 P) :: (nat_lit 95, o_95 P) :: (nat_lit 97, o_97 P) :: (nat_lit 98, o_98 P) :: (nat_lit 99, o_99 P) :: (nat_lit 101, o_101 P) :: (nat_lit 102, o_102 P) :: (nat_lit 104, o_104 P) :: (nat_lit 105, o_105 P) :: (nat_lit 106, o_106 P) :: (nat_lit 108, o_108 P) :: (nat_lit 109, o_109 P) :: (nat_lit 111, o_111 P) :: (nat_lit 112, o_112 P) :: (nat_lit 113, o_113 P) :: (nat_lit 115, o_115 P) :: (nat_lit 116, o_116 P) :: (nat_lit 118, o_118 P) :: (nat_lit 119, o_119 P) :: (nat_lit 120, o_120 P) :: (nat_lit 122, o_122 P) :: (nat_lit 123, o_123 P) :: (nat_lit 125, o_125 P) :: (nat_lit 126, o_126 P) :: (nat_lit 127, o_127 P) :: (nat_lit 129, o_129 P) :: (nat_lit 130, o_130 P) :: (nat_lit 132, o_132 P) :: (nat_lit 133, o_133 P) :: (nat_lit 134, o_134 P) :: (nat_lit 136, o_136 P) :: (nat_lit 137, o_137 P) :: (nat_lit 139, o_139 P) :: (nat_lit 140, o_140 P) :: (nat_lit 141, o_141 P) :: (nat_lit 143, o_143 P) :: (nat_lit 144, o_144 P) :: (nat_lit 146, o_146 P) :: (nat_lit 147, o_147 P) :: (nat_lit 148, o_148 P) :: (nat_lit 150, o_150 P) :: (nat_lit 151, o_151 P) :: (nat_lit 153, o_153 P) :: (nat_lit 154, o_154 P) :: (nat_lit 155, o_155 P) :: (nat_lit 157, o_157 P) :: (nat_lit 158, o_158 P) :: (nat_lit 160, o_160 P) :: (nat_lit 161, o_161 P) :: (nat_lit 162, o_162 P) :: (nat_lit 164, o_164 P) :: (nat_lit 165, o_165 P) :: (nat_lit 167, o_167 P) :: (nat_lit 168, o_168 P) :: (nat_lit 169, o_169 P) :: (nat_lit 171, o_171 P) :: (nat_lit 172, o_172 P) :: (nat_lit 174, o_174 P) :: (nat_lit 175, o_175 P) :: (nat_lit 176, o_176 P) :: (nat_lit 178, o_178 P) :: (nat_lit 179, o_179 P) :: (nat_lit 181, o_181 P) :: (nat_lit 182, o_182 P) :: (nat_lit 183, o_183 P) :: (nat_lit 185, o_185 P) :: (nat_lit 186, o_186 P) :: (nat_lit 188, o_188 P) :: (nat_lit 189, o_189 P) :: (nat_lit 190, o_190 P) :: (nat_lit 193, o_193 P) :: (nat_lit 194, o_194 P) :: (nat_lit 195, o_195 P) :: (nat_lit 196, o_196 P) :: (nat_lit 197, o_197 P) :: (nat_lit 198, o_198 P) :: (nat_lit 199, o_199 P) :: (nat_lit 209, o_209 P) :: (nat_lit 211, o_211 P) :: (nat_lit 212, o_212 P) :: (nat_lit 214, o_214 P) :: (nat_lit 215, o_215 P) :: (nat_lit 216, o_216 P) :: (nat_lit 217, o_217 P) :: (nat_lit 218, o_218 P) :: (nat_lit 219, o_219 P) :: (nat_lit 220, o_220 P) :: (nat_lit 223, o_223 P) :: (nat_lit 230, o_230 P) :: (nat_lit 232, o_232 P) :: (nat_lit 233, o_233 P) :: (nat_lit 235, o_235 P) :: (nat_lit 236, o_236 P) :: (nat_lit 237, o_237 P) :: (nat_lit 239, o_239 P) :: (nat_lit 240, o_240 P) :: (nat_lit 242, o_242 P) :: (nat_lit 243, o_243 P) :: (nat_lit 244, o_244 P) :: (nat_lit 246, o_246 P) :: (nat_lit 247, o_247 P) :: (nat_lit 249, o_249 P) :: (nat_lit 250, o_250 P) :: (nat_lit 251, o_251 P) :: (nat_lit 253, o_253 P) :: (nat_lit 254, o_254 P) :: (nat_lit 256, o_256 P) :: (nat_lit 257, o_257 P) :: (nat_lit 258, o_258 P) :: (nat_lit 259, o_259 P) :: (nat_lit 261, o_261 P) :: (nat_lit 262, o_262 P) :: (nat_lit 264, o_264 P) :: (nat_lit 265, o_265 P) :: (nat_lit 267, o_267 P) :: (nat_lit 268, o_268 P) :: (nat_lit 270, o_270 P) :: (nat_lit 271, o_271 P) :: (nat_lit 273, o_273 P) :: (nat_lit 274, o_274 P) :: (nat_lit 276, o_276 P) :: (nat_lit 277, o_277 P) :: (nat_lit 279, o_279 P) :: (nat_lit 280, o_280 P) :: (nat_lit 282, o_282 P) :: (nat_lit 283, o_283 P) :: (nat_lit 285, o_285 P) :: (nat_lit 286, o_286 P) :: (nat_lit 288, o_288 P) :: (nat_lit 289, o_289 P) :: (nat_lit 291, o_291 P) :: (nat_lit 292, o_292 P) :: (nat_lit 294, o_294 P) :: (nat_lit 295, o_295 P) :: (nat_lit 297, o_297 P) :: (nat_lit 298, o_298 P) :: (nat_lit 300, o_300 P) :: (nat_lit 301, o_301 P) :: (nat_lit 303, o_303 P) :: (nat_lit 304, o_304 P) :: (nat_lit 306, o_306 P) :: (nat_lit 307, o_307 P) :: (nat_lit 309, o_309 P) :: (nat_lit 310, o_310 P) :: (nat_lit 311, o_311 P) :: (nat_lit 313, o_313 P) :: (nat_lit 314, o_314 P) :: (nat_lit 316, o_316 P) :: (nat_lit 317, o_317 P) :: (nat_lit 319, o_319 P) :: (nat_lit 320, o_320 P) :: (nat_lit 321, o_321 P) :: (nat_lit 323, o_323 P) :: (nat_lit 324, o_324 P) :: (nat_lit 326, o_326 P) :: (nat_lit 327, o_327 P) :: (nat_lit 329, o_329 P) :: (nat_lit 330, o_330 P) :: (nat_lit 332, o_332 P) :: (nat_lit 333, o_333 P) :: (nat_lit 335, o_335 P) :: (nat_lit 336, o_336 P) :: (nat_lit 338, o_338 P) :: (nat_lit 339, o_339 P) :: (nat_lit 341, o_341 P) :: (nat_lit 342, o_342 P) :: (nat_lit 344, o_344 P) :: (nat_lit 345, o_345 P) :: (nat_lit 347, o_347 P) :: (nat_lit 348, o_348 P) :: (nat_lit 350, o_350 P) :: (nat_lit 351, o_351 P) :: (nat_lit 353, o_353 P) :: (nat_lit 354, o_354 P) :: (nat_lit 356, o_356 P) :: (nat_lit 357, o_357 P) :: (nat_lit 359, o_359 P) :: (nat_lit 360, o_360 P) :: (nat_lit 362, o_362 P) :: (nat_lit 363, o_363 P) :: (nat_lit 365, o_365 P) :: (nat_lit 366, o_366 P) :: (nat_lit 368, o_368 P) :: (nat_lit 369, o_369 P) :: (nat_lit 371, o_371 P) :: (nat_lit 372, o_372 P) :: (nat_lit 374, o_374 P) :: (nat_lit 375, o_375 P) :: (nat_lit 377, o_377 P) :: (nat_lit 378, o_378 P) :: (nat_lit 380, o_380 P) :: (nat_lit 381, o_381 P) :: (nat_lit 383, o_383 P) :: (nat_lit 384, o_384 P) :: (nat_lit 386, o_386 P) :: (nat_lit 387, o_387 P) :: (nat_lit 389, o_389 P) :: (nat_lit 390, o_390 P) :: (nat_lit 392, o_392 P) :: (nat_lit 393, o_393 P) :: (nat_lit 395, o_395 P) :: (nat_lit 396, o_396 P) :: (nat_lit 398, o_398 P) :: (nat_lit 399, o_399 P) :: (nat_lit 401, o_401 P) :: (nat_lit 402, o_402 P) :: (nat_lit 404, o_404 P) :: (nat_lit 405, o_405 P) :: (nat_lit 407, o_407 P) :: (nat_lit 408, o_408 P) :: (nat_lit 410, o_410 P) :: (nat_lit 411, o_411 P) :: (nat_lit 413, o_413 P) :: (nat_lit 414, o_414 P) :: (nat_lit 416, o_416 P) :: (nat_lit 417, o_417 P) :: (nat_lit 419, o_419 P) :: (nat_lit 420, o_420 P) :: (nat_lit 422, o_422 P) :: (nat_lit 423, o_423 P) :: (nat_lit 425, o_425 P) :: (nat_lit 426, o_426 P) :: (nat_lit 428, o_428 P) :: (nat_lit 429, o_429 P) :: (nat_lit 431, o_431 P) :: (nat_lit 432, o_432 P) :: (nat_lit 434, o_434 P) :: (nat_lit 435, o_435 P) :: (nat_lit 437, o_437 P) :: (nat_lit 438, o_438 P) :: (nat_lit 440, o_440 P) :: (nat_lit 441, o_441 P) :: (nat_lit 443, o_443 P) :: (nat_lit 444, o_444 P) :: (nat_lit 446, o_446 P) :: (nat_lit 447, o_447 P) :: (nat_lit 449, o_449 P) :: (nat_lit 450, o_450 P) :: (nat_lit 452, o_452 P) :: (nat_lit 453, o_453 P) :: (nat_lit 455, o_455 P) :: (nat_lit 456, o_456 P) :: (nat_lit 458, o_458 P) :: (nat_lit 459, o_459 P) :: (nat_lit 461, o_461 P) :: (nat_lit 462, o_462 P) :: (nat_lit 464, o_464 P) :: (nat_lit 465, o_465 P) :: (nat_lit 467, o_467 P) :: (nat_lit 468, o_468 P) :: (nat_lit 470, o_470 P) :: (nat_lit 471, o_471 P) :: (nat_lit 473, o_473 P) :: (nat_lit 474, o_474 P) :: (nat_lit 476, o_476 P) :: (nat_lit 477, o_477 P) :: (nat_lit 479, o_479 P) :: (nat_lit 480, o_480 P) :: (nat_lit 482, o_482 P) :: (nat_lit 483, o_483 P) :: (nat_lit 485, o_485 P) :: (nat_lit 486, o_486 P) :: (nat_lit 488, o_488 P) :: (nat_lit 489, o_489 P) :: (nat_lit 491, o_491 P) :: (nat_lit 492, o_492 P) :: (nat_lit 494, o_494 P) :: (nat_lit 495, o_495 P) :: (nat_lit 497, o_497 P) :: (nat_lit 498, o_498 P) :: (nat_lit 500, o_500 P) :: (nat_lit 501, o_501 P) :: (nat_lit 503, o_503 P) :: (nat_lit 504, o_504 P) :: (nat_lit 506, o_506 P) :: (nat_lit 507, o_507 P) :: (nat_lit 509, o_509 P) :: (nat_lit 510, o_510 P) :: (nat_lit 512, o_512 P) :: (nat_lit 513, o_513 P) :: (nat_lit 515, o_515 P) :: (nat_lit 516, o_516 P) :: (nat_lit 518, o_518 P) :: (nat_lit 519, o_519 P) :: (nat_lit 521, o_521 P) :: (nat_lit 522, o_522 P) :: (nat_lit 524, o_524 P) :: (nat_lit 525, o_525 P) :: (nat_lit 527, o_527 P) :: (nat_lit 528, o_528 P) :: (nat_lit 530, o_530 P) :: (nat_lit 531, o_531 P) :: (nat_lit 533, o_533 P) :: (nat_lit 534, o_534 P) :: (nat_lit 536, o_536 P) :: (nat_lit 537, o_537 P) :: (nat_lit 539, o_539 P) :: (nat_lit 540, o_540 P) :: (nat_lit 542, o_542 P) :: (nat_lit 543, o_543 P) :: (nat_lit 545, o_545 P) :: (nat_lit 546, o_546 P) :: (nat_lit 548, o_548 P) :: (nat_lit 549, o_549 P) :: (nat_lit 551, o_551 P) :: (nat_lit 552, o_552 P) :: (nat_lit 554, o_554 P) :: (nat_lit 555, o_555 P) :: (nat_lit 557, o_557 P) :: (nat_lit 558, o_558 P) :: (nat_lit 560, o_560 P) :: (nat_lit 561, o_561 P) :: (nat_lit 563, o_563 P) :: (nat_lit 564, o_564 P) :: (nat_lit 566, o_566 P) :: (nat_lit 567, o_567 P) :: (nat_lit 569, o_569 P) :: (nat_lit 570, o_570 P) :: (nat_lit 572, o_572 P) :: (nat_lit 573, o_573 P) :: (nat_lit 575, o_575 P) :: (nat_lit 576, o_576 P) :: (nat_lit 578, o_578 P) :: (nat_lit 579, o_579 P) :: (nat_lit 581, o_581 P) :: (nat_lit 582, o_582 P) :: (nat_lit 584, o_584 P) :: (nat_lit 585, o_585 P) :: (nat_lit 587, o_587 P) :: (nat_lit 588, o_588 P) :: (nat_lit 590, o_590 P) :: (nat_lit 591, o_591 P) :: (nat_lit 593, o_593 P) :: (nat_lit 594, o_594 P) :: (nat_lit 595, o_595 P) :: (nat_lit 596, o_596 P) :: (nat_lit 599, o_599 P) :: (nat_lit 606, o_606 P) :: (nat_lit 607, o_607 P) :: (nat_lit 608, o_608 P) :: (nat_lit 609, o_609 P) :: (nat_lit 612, o_612 P) :: (nat_lit 613, o_613 P) :: (nat_lit 614, o_614 P) :: (nat_lit 615, o_615 P) :: (nat_lit 616, o_616 P) :: (nat_lit 617, o_617 P) :: (nat_lit 618, o_618 P) :: (nat_lit 619, o_619 P) :: (nat_lit 620, o_620 P) :: (nat_lit 621, o_621 P) :: (nat_lit 622, o_622 P) :: (nat_lit 623, o_623 P) :: (nat_lit 624, o_624 P) :: (nat_lit 625, o_625 P) :: (nat_lit 626, o_626 P) :: (nat_lit 627, o_627 P) :: (nat_lit 628, o_628 P) :: (nat_lit 629, o_629 P) :: (nat_lit 630, o_630 P) :: (nat_lit 631, o_631 P) :: (nat_lit 632, o_632 P) :: (nat_lit 633, o_633 P) :: (nat_lit 634, o_634 P) :: (nat_lit 635, o_635 P) :: (nat_lit 636, o_636 P) :: (nat_lit 637, o_637 P) :: (nat_lit 638, o_638 P) :: (nat_lit 639, o_639 P) :: (nat_lit 640, o_640 P) :: (nat_lit 641, o_641 P) :: (nat_lit 642, o_642 P) :: (nat_lit 643, o_643 P) :: (nat_lit 644, o_644 P) :: (nat_lit 645, o_645 P) :: (nat_lit 646, o_646 P) :: (nat_lit 647, o_647 P) :: (nat_lit 648, o_648 P) :: (nat_lit 649, o_649 P) :: (nat_lit 650, o_650 P) :: (nat_lit 651, o_651 P) :: (nat_lit 652, o_652 P) :: (nat_lit 653, o_653 P) :: (nat_lit 655, o_655 P) :: (nat_lit 656, o_656 P) :: (nat_lit 658, o_658 P) :: (nat_lit 659, o_659 P) :: (nat_lit 660, o_660 P) :: (nat_lit 662, o_662 P) :: (nat_lit 663, o_663 P) :: (nat_lit 665, o_665 P) :: (nat_lit 666, o_666 P) :: (nat_lit 667, o_667 P) :: (nat_lit 669, o_669 P) :: (nat_lit 670, o_670 P) :: (nat_lit 672, o_672 P) :: (nat_lit 673, o_673 P) :: (nat_lit 674, o_674 P) :: (nat_lit 677, o_677 P) :: (nat_lit 678, o_678 P) :: []
noncomputable def kaddr : List Nat := [2, 3, 15, 17, 18, 20, 21, 29, 31, 32, 34, 35, 36, 38, 39, 41, 42, 43, 45, 46, 48, 49, 50, 52, 53, 55, 56, 57, 59, 60, 62, 63, 64, 66, 67, 69, 70, 71, 73, 74, 76, 77, 78, 80, 81, 83, 84, 85, 87, 88, 90, 91, 92, 94, 95, 97, 98, 99, 101, 102, 104, 105, 106, 108, 109, 111, 112, 113, 115, 116, 118, 119, 120, 122, 123, 125, 126, 127, 129, 130, 132, 133, 134, 136, 137, 139, 140, 141, 143, 144, 146, 147, 148, 150, 151, 153, 154, 155, 157, 158, 160, 161, 162, 164, 165, 167, 168, 169, 171, 172, 174, 175, 176, 178, 179, 181, 182, 183, 185, 186, 188, 189, 190, 193, 194, 195, 196, 197, 198, 199, 209, 211, 212, 214, 215, 216, 217, 218, 219, 220, 223, 230, 232, 233, 235, 236, 237, 239, 240, 242, 243, 244, 246, 247, 249, 250, 251, 253, 254, 256, 257, 258, 259, 261, 262, 264, 265, 267, 268, 270, 271, 273, 274, 276, 277, 279, 280, 282, 283, 285, 286, 288, 289, 291, 292, 294, 295, 297, 298, 300, 301, 303, 304, 306, 307, 309, 310, 311, 313, 314, 316, 317, 319, 320, 321, 323, 324, 326, 327, 329, 330, 332, 333, 335, 336, 338, 339, 341, 342, 344, 345, 347, 348, 350, 351, 353, 354, 356, 357, 359, 360, 362, 363, 365, 366, 368, 369, 371, 372, 374, 375, 377, 378, 380, 381, 383, 384, 386, 387, 389, 390, 392, 393, 395, 396, 398, 399, 401, 402, 404, 405, 407, 408, 410, 411, 413, 414, 416, 417, 419, 420, 422, 423, 425, 426, 428, 429, 431, 432, 434, 435, 437, 438, 440, 441, 443, 444, 446, 447, 449, 450, 452, 453, 455, 456, 458, 459, 461, 462, 464, 465, 467, 468, 470, 471, 473, 474, 476, 477, 479, 480, 482, 483, 485, 486, 488, 489, 491, 492, 494, 495, 497, 498, 500, 501, 503, 504, 506, 507, 509, 510, 512, 513, 515, 516, 518, 519, 521, 522, 524, 525, 527, 528, 530, 531, 533, 534, 536, 537, 539, 540, 542, 543, 545, 546, 548, 549, 551, 552, 554, 555, 557, 558, 560, 561, 563, 564, 566, 567, 569, 570, 572, 573, 575, 576, 578, 579, 581, 582, 584, 585, 587, 588, 590, 591, 593, 594, 595, 596, 599, 606, 607, 608, 609, 612, 613, 614, 615, 616, 617, 618, 619, 620, 621, 622, 623, 624, 625, 626, 627, 628, 629, 630, 631, 632, 633, 634, 635, 636, 637, 638, 639, 640, 641, 642, 643, 644, 645, 646, 647, 648, 649, 650, 651, 652, 653, 655, 656, 658, 659, 660, 662, 663, 665, 666, 667, 669, 670, 672, 673, 674, 677, 678]
noncomputable def menv : Env := { scope := PG.main.scope, locals := 3, globals := 3, cells := [], qual := Str.empty, func := none, code := .ref 13, frame := some 14, builtins := 0 }
noncomputable def cdM : Code := .body PG.main.body menv
noncomputable abbrev B1 : List Frame := [topFrame pos_pre]
noncomputable def viewQ : Program := { PG with main := { PG.main with body := [topSt 0, topSt 2, topSt 4, topSt 6, topSt 7, topSt 9, topSt 10, topSt 11, topSt 12, topSt 13, topSt 14, topSt 15, topSt 16, topSt 17] } }
abbrev looseN : List PySem.Str := [Str.ofString "NepaliStemmer", Str.ofString "_law_letters", Str.ofString "_law_case", Str.ofString "_law_held", Str.ofString "_law_last", Str.ofString "_law_long"]

end
section
open PySem PySem.W PyProof PyProof.Rows
/-! an expression runs alone: then it runs so before any continuation (runs of pieces, one within the other) -/
section
variable {α β : Type} {tb : String → Option Builtin} {p : Program} {w : World} {n₀ : Nat} {ann : Option Value} {B : List Frame} {b : Nat}
theorem seg_mono (k : Nat) : ∀ (n : Nat) (s : Shared) (t : Thread) (r : Flow × Shared × Code × Pos), segRun tb p w n₀ ann b n s t = some r → segRun tb p w n₀ ann b (n + k) s t = some r
  | 0, _, _, _, h => by simp [segRun] at h
  | n + 1, s, t, r, h => by
    rw [Nat.add_right_comm]
    unfold segRun at h ⊢
    split at h
    · exact h
    · split at h
      · cases h
      · split at h
        · exact seg_mono k n _ _ r h
        · cases h
theorem long_end {t : Thread} (h : b < t.stack.length) : endAt b t = none := by
  have e : (t.stack.length == b) = false := beq_eq_false_iff_ne.mpr (Nat.ne_of_gt h)
  unfold endAt
  rw [e]
theorem rel_long {K K' : α → Sem Fin} {H H' : Value → Sem Fin} {gd : Bool → Bool} {lv : List Value → List Value} {t t' : Thread} (R : Rel2 K K' H H' gd lv B t t') (hb : b < B.length) : b < t'.stack.length := by
  obtain ⟨_, _, ⟨_, e, _⟩ | ⟨_, F⟩⟩ := R
  · rw [e]; exact hb
  · exact Nat.lt_trans hb F.longer.2
theorem seg_in {K' : α → Sem Fin} {H' : Value → Sem Fin} {gd : Bool → Bool} {lv : List Value → List Value} {res : α → Flow} (hB : splitAtGen B = none) (hb : b < B.length) : ∀ (n : Nat) (s : Shared) (t t' : Thread) (f : Flow) (s' : Shared) (c' : Code) (p' : Pos), Rel2 (fun a => .pure (.done (res a))) K' deadEnd H' gd lv B t t' →
    segRun tb p w n₀ ann B.length n s t = some (f, s', c', p') → ∃ a, res a = f ∧ ∀ N r, segRun tb p w n₀ ann b N s' ⟨K' a, c', p', B⟩ = some r → segRun tb p w n₀ ann b (n + N) s t' = some r
  | 0, _, _, _, _, _, _, _, _, h => by simp [segRun] at h
  | n + 1, s, t, t', f, s', c', p', R, h => by
    have hl := rel_long R hb
    obtain ⟨cur, code, pos, st⟩ := t
    obtain ⟨cur', code', pos', st'⟩ := t'
    obtain ⟨e1, e2, R⟩ := R
    dsimp only at e1 e2 R hl
    subst e1 e2
    unfold segRun at h
    cases he : endAt B.length ⟨cur, code, pos, st⟩ with
    | some g =>
      rw [he] at h
      cases h
      rcases R with ⟨rfl, rfl, x, rfl, rfl⟩ | ⟨_, F⟩
      · cases x with
        | pure a =>
          have e3 : res a = f := by simpa [endAt, Sem.wrap] using he
          refine ⟨a, e3, fun N r hN => ?_⟩
          rw [Nat.add_comm]
          exact seg_mono _ _ _ _ _ hN
        | _ => simp [endAt, Sem.wrap] at he
      · have e4 := long_end (t := ⟨cur, code, pos, st⟩) F.longer.1
        rw [he] at e4
        cases e4
    | none =>
      rw [he] at h
      cases hk : stepOk n₀ ann ⟨cur, code, pos, st⟩ with
      | false => rw [hk] at h; cases h
      | true =>
        rw [hk] at h
        cases hs : step (denote tb) p w s ⟨cur, code, pos, st⟩ with
        | halt o s₂ => rw [hs] at h; cases h
        | go s₂ t₂ =>
          rw [hs] at h
          have key : stepOk n₀ ann ⟨cur', code, pos, st'⟩ = true ∧ ∃ t₂', step (denote tb) p w s ⟨cur', code, pos, st'⟩ = .go s₂ t₂' ∧ Rel2 (fun a => .pure (.done (res a))) K' deadEnd H' gd lv B t₂ t₂' := by
            rcases R with ⟨rfl, rfl, x, rfl, rfl⟩ | ⟨rfl, F⟩
            · have hp : ∀ a, x ≠ .pure a := by
                rintro a rfl
                simp [endAt, Sem.wrap] at he
              have hr : ∀ e, x ≠ .raise e := by
                rintro e rfl
                obtain ⟨heap, gens, drawn, toks, os⟩ := s
                simp only [Sem.wrap, step] at hs
                cases hs
              exact ⟨(okOuter (K' := K') (H' := H') hp hr hk).1, step_outer hB hp hs⟩
            · exact ⟨(okInner hB F hk).1, step_inner hB F hs⟩
          obtain ⟨k1, t₂', k3, R'⟩ := key
          obtain ⟨a, ha, hN⟩ := seg_in hB hb n s₂ t₂ t₂' f s' c' p' R' h
          refine ⟨a, ha, fun N r q => ?_⟩
          rw [Nat.add_right_comm]
          unfold segRun
          rw [long_end (t := ⟨cur', code, pos, st'⟩) hl, k1, k3]
          exact hN N r q
/-- x, from s at c, q, ends after n steps in a, s', c', q' -/
def Sp (tb : String → Option Builtin) (p : Program) (w : World) (n₀ : Nat) (ann : Option Value) (B : List Frame) (x : Sem α) (n : Nat) (s : Shared) (c : Code) (q : Pos) (a : α) (s' : Shared) (c' : Code) (q' : Pos) : Prop :=
  ∀ b, b < B.length → ∀ (lv : List Value → List Value) (K : α → Sem Fin) (H : Value → Sem Fin) N r, segRun tb p w n₀ ann b N s' ⟨K a, c', q', B⟩ = some r → segRun tb p w n₀ ann b (n + N) s ⟨x.wrap K H id lv, c, q, B⟩ = some r
variable {x : Sem α} {n m : Nat} {s s' s₂ : Shared} {c c' c₂ : Code} {q q' q₂ : Pos} {a : α} {e : β}
theorem Sp.check {res : α → Flow} {f : Flow} (hB : splitAtGen B = none) (h : ∀ lv, segRun tb p w n₀ ann B.length n s ⟨x.wrap (fun a => .pure (.done (res a))) deadEnd id lv, c, q, B⟩ = some (f, s', c', q')) (ha : ∀ z, res z = f → z = a) : Sp tb p w n₀ ann B x n s c q a s' c' q' := by
  intro b hb lv K H N r hr
  obtain ⟨z, hz, k⟩ := seg_in (K' := K) (H' := H) (gd := id) (lv := lv) hB hb n s ⟨x.wrap (fun a => .pure (.done (res a))) deadEnd id lv, c, q, B⟩ ⟨x.wrap K H id lv, c, q, B⟩ f s' c' q' ⟨rfl, rfl, .inl ⟨rfl, rfl, x, rfl, rfl⟩⟩ (h lv)
  rw [ha z hz] at k
  exact k N r hr
theorem Sp.pure : Sp tb p w n₀ ann B (.pure a) 0 s c q a s c q := by
  intro b hb lv K H N r hr
  rw [Nat.zero_add]
  exact hr
theorem Sp.bind {f : α → Sem β} (h : Sp tb p w n₀ ann B x n s c q a s' c' q') (k : Sp tb p w n₀ ann B (f a) m s' c' q' e s₂ c₂ q₂) : Sp tb p w n₀ ann B (x.bind f) (n + m) s c q e s₂ c₂ q₂ := by
  intro b hb lv K H N r hr
  rw [Sem.bind_eq_wrap, Sem.wrap_wrap, Nat.add_assoc]
  exact h b hb lv _ _ _ _ (k b hb _ _ _ _ _ hr)
theorem Sp.hold {vs : List Value} (h : Sp tb p w n₀ ann B x n s c q a s' c' q') : Sp tb p w n₀ ann B (holding vs x) n s c q a s' c' q' := by
  unfold holding
  split
  · exact h
  · intro b hb lv K H N r hr
    rw [Sem.keep_eq_wrap, Sem.wrap_wrap]
    exact h b hb _ _ _ _ _ hr
theorem Sp.at (pos : Pos) : Sp tb p w n₀ ann B (standAt pos) 1 s c q () s c pos := by
  intro b hb lv K H N r hr
  rw [Nat.add_comm]
  unfold segRun
  rw [long_end (by exact hb)]
  exact hr
end

end
section
open PySem PySem.W PyProof PyProof.Rows
set_option maxRecDepth 100000
set_option maxHeartbeats 0
/-! lists of items, by parts -/
noncomputable def holdAll {α : Type} (u : List Value) (t : Sem α) : Sem α := u.foldr (fun v t => holding [v] t) t
theorem spl_cons (x : Sem Value) (l : List (Bool × Sem Value)) : spliced ((false, x) :: l) = x.bind fun v => (holding [v] (spliced l)).bind fun r => .pure (v :: r) := rfl
theorem holding_pure {α : Type} (vs : List Value) (a : α) : holding vs (Sem.pure a) = .pure a := by
  unfold holding
  split <;> rfl
theorem spl_app (l2 : List (Bool × Sem Value)) : ∀ l1 : List (Sem Value), spliced (l1.map (fun x => (false, x)) ++ l2) = (spliced (l1.map fun x => (false, x))).bind fun u => (holdAll u (spliced l2)).bind fun r => .pure (u ++ r)
  | [] => (Sem.bind_pure _).symm
  | x :: l => by
    rw [List.map_cons, List.cons_append, spl_cons, spl_cons, spl_app l2 l, Sem.bind_assoc]
    congr 1
    funext v
    rw [holding_bind, Sem.bind_assoc, Sem.bind_assoc]
    congr 1
    funext u
    show (holding [v] ((holdAll u (spliced l2)).bind fun r => .pure (u ++ r))).bind _ = (holding [v] (holdAll u (spliced l2))).bind _
    rw [holding_bind, Sem.bind_assoc]
    congr 1
    funext r
    rw [holding_pure]
    rfl
section
variable {α : Type} {tb : String → Option Builtin} {p : Program} {w : World} {n₀ : Nat} {ann : Option Value} {B : List Frame} {x : Sem α} {n m : Nat} {s s' s₂ : Shared} {c c' c₂ : Code} {q q' q₂ : Pos} {a : α}
theorem Sp.holdAll (u : List Value) (h : Sp tb p w n₀ ann B x n s c q a s' c' q') : Sp tb p w n₀ ann B (holdAll u x) n s c q a s' c' q' := by
  induction u with
  | nil => exact h
  | cons v u ih => exact Sp.hold ih
theorem Sp.spl {l1 : List (Sem Value)} {l2 : List (Bool × Sem Value)} {u v : List Value} (h : Sp tb p w n₀ ann B (spliced (l1.map fun x => (false, x))) n s c q u s' c' q') (k : Sp tb p w n₀ ann B (spliced l2) m s' c' q' v s₂ c₂ q₂) : Sp tb p w n₀ ann B (spliced (l1.map (fun x => (false, x)) ++ l2)) (n + (m + 0)) s c q (u ++ v) s₂ c₂ q₂ := by
  rw [spl_app]
  exact h.bind ((k.holdAll u).bind Sp.pure)
end
noncomputable def refsEq : List Value → List Nat → Bool
  | [], [] => true
  | .ref a :: r, b :: t => @Bool.rec (fun _ => Bool) false (refsEq r t) (Nat.beq a b)
  | _, _ => false
theorem refsEq_eq : ∀ (vs : List Value) (as : List Nat), refsEq vs as = true → vs = as.map Value.ref
  | [], [], _ => rfl
  | [], _ :: _, h => by cases h
  | v :: r, [], h => by cases v <;> cases h
  | v :: r, b :: t, h => by
    cases v with
    | ref a =>
      have h' : @Bool.rec (fun _ => Bool) false (refsEq r t) (Nat.beq a b) = true := h
      cases e : Nat.beq a b with
      | false => rw [e] at h'; cases h'
      | true =>
        rw [e] at h'
        rw [List.map_cons, Nat.eq_of_beq_eq_true e, refsEq_eq r t h']
    | _ => cases h
noncomputable def resL (as : List Nat) (vs : List Value) : Flow := @Bool.rec (fun _ => Flow) .brk .next (refsEq vs as)
theorem resL_eq {as : List Nat} {vs : List Value} (h : resL as vs = .next) : vs = as.map Value.ref := by
  unfold resL at h
  cases e : refsEq vs as with
  | true => exact refsEq_eq _ _ e
  | false => rw [e] at h; cases h
/-! the class statement -/
def noEx : PySem.Expr := .Constant .none 0 ⟨0, 0, 0, 0⟩
noncomputable def asgE : Stmt → PySem.Expr
  | .Assign _ e _ => e
  | _ => noEx
noncomputable def lstE : PySem.Expr → List PySem.Expr
  | .List es _ => es
  | _ => []
noncomputable def ePos : PySem.Expr → Pos
  | .Call _ _ _ p => p
  | .List _ p => p
  | .Name _ p => p
  | _ => ⟨0, 0, 0, 0⟩
noncomputable def sPos : Stmt → Pos
  | .Assign _ _ p => p
  | _ => ⟨0, 0, 0, 0⟩
noncomputable def tgt : Stmt → PySem.Expr
  | .Assign [e] _ _ => e
  | _ => noEx
noncomputable def lst : List PySem.Expr := lstE (asgE (memSt 6 6))
noncomputable def cenv : Env := { scope := fScope (topSt 6), locals := 225, globals := 3, cells := [], qual := Str.ofString "NepaliStemmer" ++ ".", func := none, code := .ref 228, frame := some 229, builtins := 0 }
noncomputable def cdB : Code := .body (clsB (topSt 6)) cenv
noncomputable def part (i k : Nat) : List (Sem Value) := ((lst.drop i).take k).map fun e => eval e cenv
noncomputable def refs (i k : Nat) : List Nat := (List.range k).map fun j => 321 + 3 * (i + j)
noncomputable def posAt (i : Nat) : Pos := ePos (nth noEx lst i)
abbrev am : List Value := [.ref 197, .ref 223, .ref 223, .ref 225, .ref 229]
noncomputable abbrev SJ (w : World) (i toks : Nat) (os : OsState) : SharedT := stT (ob_c8 w.params) (320 + 3 * i) toks os
theorem segT_tw {b n : Nat} {st : SharedT} {t : Thread} {w : World} {r : Flow × SharedT × Code × Pos} (h : Fast.tw10110043849684766642 Fast.tw14364793385576792824 PG w 11 (some (.ref 6)) b n st t = some r) : segRunT treeTable PG w 11 (some (.ref 6)) b n st t = some r := by
  rw [Fast.te10110043849684766642, Fast.te14364793385576792824]
  exact h
abbrev SP {α : Type} (w : World) (B : List Frame) (x : Sem α) (n : Nat) (s : SharedT) (q : Pos) (a : α) (s' : SharedT) (q' : Pos) : Prop := Sp treeTable PG w 11 (some (.ref 6)) B x n s.abs cdB q a s'.abs cdB q'
noncomputable abbrev B2 (kk : Result → Sem Fin) : List Frame := .ret kk none false am cdM pos_c0 [] :: B1
theorem part0 (w : World) (os : OsState) (kk : Result → Sem Fin) (q : Pos) : SP w (B2 kk) (spliced ((part 0 18).map fun x => (false, x))) 4000 (SJ w 0 788 os) q ((refs 0 18).map Value.ref) (SJ w 18 1027 os) (posAt 17) :=
  Sp.check (res := resL (refs 0 18)) (f := .next) rfl (fun lv => segRun_of (segT_tw (by kernel_rfl))) fun _ h => resL_eq h
theorem part1 (w : World) (os : OsState) (kk : Result → Sem Fin) (q : Pos) : SP w (B2 kk) (spliced ((part 18 18).map fun x => (false, x))) 4000 (SJ w 18 1027 os) q ((refs 18 18).map Value.ref) (SJ w 36 1273 os) (posAt 35) :=
  Sp.check (res := resL (refs 18 18)) (f := .next) rfl (fun lv => segRun_of (segT_tw (by kernel_rfl))) fun _ h => resL_eq h
theorem part2 (w : World) (os : OsState) (kk : Result → Sem Fin) (q : Pos) : SP w (B2 kk) (spliced ((part 36 18).map fun x => (false, x))) 4000 (SJ w 36 1273 os) q ((refs 36 18).map Value.ref) (SJ w 54 1516 os) (posAt 53) :=
  Sp.check (res := resL (refs 36 18)) (f := .next) rfl (fun lv => segRun_of (segT_tw (by kernel_rfl))) fun _ h => resL_eq h
theorem part3 (w : World) (os : OsState) (kk : Result → Sem Fin) (q : Pos) : SP w (B2 kk) (spliced ((part 54 18).map fun x => (false, x))) 4000 (SJ w 54 1516 os) q ((refs 54 18).map Value.ref) (SJ w 72 1753 os) (posAt 71) :=
  Sp.check (res := resL (refs 54 18)) (f := .next) rfl (fun lv => segRun_of (segT_tw (by kernel_rfl))) fun _ h => resL_eq h
theorem part4 (w : World) (os : OsState) (kk : Result → Sem Fin) (q : Pos) : SP w (B2 kk) (spliced ((part 72 19).map fun x => (false, x))) 4000 (SJ w 72 1753 os) q ((refs 72 19).map Value.ref) (SJ w 91 2009 os) (posAt 90) :=
  Sp.check (res := resL (refs 72 19)) (f := .next) rfl (fun lv => segRun_of (segT_tw (by kernel_rfl))) fun _ h => resL_eq h
theorem parts_are : backTo (ePos (asgE (memSt 6 6))) (starEach lst cenv) = (part 0 18).map (fun x => (false, x)) ++ ((part 18 18).map (fun x => (false, x)) ++ ((part 36 18).map (fun x => (false, x)) ++ ((part 54 18).map (fun x => (false, x)) ++ (part 72 19).map (fun x => (false, x))))) := by kernel_rfl
noncomputable abbrev allRefs : List Value := (refs 0 18).map Value.ref ++ ((refs 18 18).map Value.ref ++ ((refs 36 18).map Value.ref ++ ((refs 54 18).map Value.ref ++ (refs 72 19).map Value.ref)))
theorem all_run (w : World) (os : OsState) (kk : Result → Sem Fin) (q : Pos) : SP w (B2 kk) (spliced (backTo (ePos (asgE (memSt 6 6))) (starEach lst cenv))) (4000 + (4000 + (4000 + (4000 + (4000 + 0) + 0) + 0) + 0)) (SJ w 0 788 os) q allRefs (SJ w 91 2009 os) (posAt 90) := by
  rw [parts_are]
  exact Sp.spl (part0 w os kk q) (Sp.spl (part1 w os kk _) (Sp.spl (part2 w os kk _) (Sp.spl (part3 w os kk _) (part4 w os kk _))))
theorem list_run (w : World) (os : OsState) (kk : Result → Sem Fin) (q : Pos) : SP w (B2 kk) (newList allRefs) 50 (SJ w 91 2009 os) q (.ref 593) (stT (ob_c8 w.params) 594 2009 os) q :=
  Sp.check (res := fun v => .ret v) (f := .ret (.ref 593)) rfl (fun lv => segRun_of (segT_tw (by kernel_rfl))) fun _ h => by cases h; rfl
theorem bind_run (w : World) (os : OsState) (kk : Result → Sem Fin) (q : Pos) : SP w (B2 kk) (bindName cenv (Str.ofString "a_2") (.ref 593)) 50 (stT (ob_c8 w.params) 594 2009 os) q () (st_c11 w.params os) q :=
  Sp.check (res := fun _ => .next) (f := .next) rfl (fun lv => segRun_of (segT_tw (by kernel_rfl))) fun _ _ => rfl
theorem exec_last : exec (memSt 6 6) cenv = (standAt (sPos (memSt 6 6))).bind fun _ => ((standAt (ePos (asgE (memSt 6 6)))).bind fun _ => (spliced (backTo (ePos (asgE (memSt 6 6))) (starEach lst cenv))).bind fun vs => newList vs).bind fun v => (standAt (ePos (tgt (memSt 6 6)))).bind fun _ => (bindName cenv (Str.ofString "a_2") v).bind fun _ => .pure .next := by
  show exec (.Assign [.Name (Str.ofString "a_2") (ePos (tgt (memSt 6 6)))] (.List lst (ePos (asgE (memSt 6 6)))) (sPos (memSt 6 6))) cenv = _
  refine (exec_Assign_Name (env := cenv) (Str.ofString "a_2") (ePos (tgt (memSt 6 6))) (.List lst (ePos (asgE (memSt 6 6)))) (sPos (memSt 6 6)) (by rfl)).trans ?_
  rfl
theorem last_run (w : World) (os : OsState) (kk : Result → Sem Fin) (q : Pos) : SP w (B2 kk) (exec (memSt 6 6) cenv) (1 + ((1 + ((4000 + (4000 + (4000 + (4000 + (4000 + 0) + 0) + 0) + 0)) + 50)) + (1 + (50 + 0)))) (st_c8 w.params os) q .next (st_c11 w.params os) (ePos (tgt (memSt 6 6))) := by
  rw [exec_last]
  exact (Sp.at _).bind (((Sp.at _).bind ((all_run w os kk _).bind (list_run w os kk _))).bind ((Sp.at _).bind ((bind_run w os kk _).bind Sp.pure)))
noncomputable abbrev defsB : List Stmt := [memSt 6 0, memSt 6 1, memSt 6 2, memSt 6 3, memSt 6 4, memSt 6 5]
theorem defs_run (w : World) (os : OsState) (kk : Result → Sem Fin) : SP w (B2 kk) (execs defsB cenv) 8000 (st_c0 w.params os) pos_c0 .next (st_c8 w.params os) pos_c8 :=
  Sp.check (res := id) (f := .next) rfl (fun lv => segRun_of (segT_tw (by kernel_rfl))) fun _ h => h
theorem open_run (w : World) (os : OsState) (kk : Result → Sem Fin) : SP w (B2 kk) (blockStart (clsB (topSt 6)) cenv) 8 (st_c0 w.params os) pos_c0 () (st_c0 w.params os) pos_c0 :=
  Sp.check (res := fun _ => .next) (f := .next) rfl (fun lv => segRun_of (segT_tw (by kernel_rfl))) fun _ _ => rfl
noncomputable def kkw (w : World) (os : OsState) : Result → Sem Fin := match Fast.tw10295753902157049106 Fast.tw14364793385576792824 PG w 11 (some (.ref 6)) 1 64 (st_p5 w.params os) (piecesOf [topSt 6] menv cdM pos_p5 B1) with
  | some (_, t) => (match t.stack with
    | .ret k .. :: _ => k
    | _ => fun _ => .pure (.done .next))
  | none => fun _ => .pure (.done .next)
theorem cls_start (w : World) (os : OsState) : segGoT treeTable PG w 11 (some (.ref 6)) 1 64 (st_p5 w.params os) (piecesOf [topSt 6] menv cdM pos_p5 B1) = some (st_c0 w.params os, ⟨denote treeTable (.body (clsB (topSt 6)) cenv), cdB, pos_c0, B2 (kkw w os)⟩) := by
  rw [Fast.te10295753902157049106, Fast.te14364793385576792824, Fast.te11892475500146522536]
  kernel_rfl
theorem cls_end (w : World) (os : OsState) : segRunT treeTable PG w 11 (some (.ref 6)) 1 1000 (st_c11 w.params os) ⟨doneF .next, cdB, ePos (tgt (memSt 6 6)), B2 (kkw w os)⟩ = some (.next, st_p6 w.params os, cdM, pos_p6) := segT_tw (by kernel_rfl)
theorem clsB_is : clsB (topSt 6) = defsB ++ [memSt 6 6] := by kernel_rfl
noncomputable abbrev nCls : Nat := 64 + (8 + (8000 + ((1 + ((1 + ((4000 + (4000 + (4000 + (4000 + (4000 + 0) + 0) + 0) + 0)) + 50)) + (1 + (50 + 0)))) + 1000)))
theorem g6 (w : World) (os : OsState) : segRun treeTable PG w 11 (some (.ref 6)) 1 nCls (st_p5 w.params os).abs (piecesOf [topSt 6] menv cdM pos_p5 B1) = some (.next, (st_p6 w.params os).abs, cdM, pos_p6) := by
  refine seg_go (segGo_of (cls_start w os)) ?_
  rw [body_wrap]
  refine open_run w os (kkw w os) 1 (show 1 < 2 from Nat.le_refl 2) id _ _ _ _ ?_
  rw [clsB_is, execs_app_wrap]
  refine defs_run w os (kkw w os) 1 (show 1 < 2 from Nat.le_refl 2) id _ _ _ _ ?_
  show segRun _ _ _ _ _ _ _ _ ⟨(execs [memSt 6 6] cenv).wrap doneF (leaveH cenv) id id, _, _, _⟩ = _
  rw [execs_cons_wrap]
  exact last_run w os (kkw w os) _ 1 (show 1 < 2 from Nat.le_refl 2) id _ _ _ _ (segRun_of (cls_end w os))

end
section
open PySem PySem.W PyProof PyProof.Rows
set_option maxRecDepth 100000
set_option maxHeartbeats 0
noncomputable abbrev MRUN (n : Nat) (st : SharedT) (t : Thread) (w : World) := segRunT treeTable PG w 11 (some (.ref 6)) 1 n st t
theorem run_tw {n : Nat} {st : SharedT} {t : Thread} {w : World} {r : Flow × SharedT × Code × Pos} (h : Fast.tw10110043849684766642 Fast.tw14364793385576792824 PG w 11 (some (.ref 6)) 1 n st t = some r) : MRUN n st t w = some r := by
  unfold MRUN
  rw [Fast.te10110043849684766642, Fast.te14364793385576792824]
  exact h
theorem pre_run (w : World) (os : OsState) : topGo treeTable PG w 11 (some (.ref 6)) 12 ⟨boot_heap w.params, #[], boot_drawn, boot_toks, os⟩ (topStub PG) = some ((st_pre w.params os).abs, ⟨denote treeTable (.body PG.main.body menv), .body PG.main.body menv, pos_pre, B1⟩) := by
  rw [Fast.te15667345088766844465, Fast.te14364793385576792824, Fast.te11892475500146522536]
  kernel_rfl
theorem block_run (w : World) (os : OsState) : MRUN 1 (st_pre w.params os) (blockOf PG.main.body menv cdM pos_pre B1) w = some (.next, st_pre w.params os, cdM, pos_pre) := run_tw (by kernel_rfl)
theorem fin_run (w : World) (os : OsState) : topRun treeTable PG w 11 (some (.ref 6)) 2 (st_p17 w.params os).abs ⟨doneF .next, cdM, pos_p17, B1⟩ = some (st_p17 w.params os).abs := by
  rw [Fast.te14082659384304107361, Fast.te14364793385576792824]
  kernel_rfl
theorem size_ok (w : World) : ((boot_heap w.params).isNs mainGlobals && (#[] : Array GenState).size == 0, (boot_heap w.params).objs.size, (boot_heap w.params).nsMap mainGlobals "__annotations__") = (true, 11, some (.ref 6)) := by kernel_rfl
theorem gA (w : World) (os : OsState) : MRUN 30000 (st_pre w.params os) (piecesOf [topSt 0, topSt 1, topSt 2, topSt 3, topSt 4, topSt 5] menv cdM pos_pre B1) w = some (.next, st_p5 w.params os, cdM, pos_p5) := run_tw (by kernel_rfl)
theorem gB (w : World) (os : OsState) : MRUN 30000 (st_p6 w.params os) (piecesOf [topSt 7, topSt 8, topSt 9, topSt 10, topSt 11, topSt 12, topSt 13, topSt 14, topSt 15, topSt 16, topSt 17] menv cdM pos_p6 B1) w = some (.next, st_p17 w.params os, cdM, pos_p17) := run_tw (by kernel_rfl)
theorem body_is : PG.main.body = [topSt 0, topSt 1, topSt 2, topSt 3, topSt 4, topSt 5] ++ ([topSt 6] ++ ([topSt 7, topSt 8, topSt 9, topSt 10, topSt 11, topSt 12, topSt 13, topSt 14, topSt 15, topSt 16, topSt 17] ++ [])) := by kernel_rfl
theorem top_run (w : World) (os : OsState) : topRun treeTable PG w 11 (some (.ref 6)) (12 + (1 + (30000 + (nCls + (30000 + 2))))) ⟨boot_heap w.params, #[], boot_drawn, boot_toks, os⟩ (topStub PG) = some (st_p17 w.params os).abs := by
  refine go_top (pre_run w os) (piece_block (segRun_of (block_run w os)) ?_)
  rw [body_is]
  refine piece_app (segRun_of (gA w os)) (piece_app (g6 w os) (piece_app (segRun_of (gB w os)) (piece_nil (fin_run w os))))
theorem kaddr_is : ∀ P, kaddr = (heap_39 P).map (·.1) := fun P => by kernel_rfl
noncomputable abbrev HK : Hook := kHook heap_39 kaddr kaddr_is
theorem opens (N : Nat) (h : Nat.ble 600 N = true) : ∀ w : World, (fencedOpening treeTable PG w N).map (fun s => (s.heap, s.gens, s.drawn, s.toks)) = some (boot_heap w.params, Array.mk [], boot_drawn, boot_toks) := boot_open (by kernel_rfl) h (fun s => by rfl)
noncomputable abbrev XT : Shared → Bool := fun s => xlAt viewQ [] s && recOk (RowW.records PySem.Challenge.rw_iu0021_01.row.toRowW) s
theorem looks1 (w : World) : (fun os => (staticsOk (importedModules PG.main.body) (boot_heap w.params) (st_p17 w.params os).abs.heap && namesBound PG (st_p17 w.params os).abs.heap && gensDone (st_p17 w.params os).abs && laidKept (boot_heap w.params) (st_p17 w.params os).abs.heap)) = fun _ => true := by kernel_rfl
theorem looks3 (w : World) : (fun os => HK.obs (st_p17 w.params os).abs) = fun _ => HK.val w := by kernel_rfl
theorem looks2 (w : World) : (fun os => openSeen viewQ looseN (importedModules PG.main.body) XT true (st_p17 w.params os).abs) = fun _ => openGood viewQ looseN := by
  rw [Fast.te4187177175401517315]
  kernel_rfl
theorem left : LeftO PG viewQ looseN XT HK.obs HK.val (12 + (1 + (30000 + (nCls + (30000 + 2))))) true :=
  LeftO.of_pieces (H₁ := fun P => (absHeap (mkT (ob_p17 P) 679 11 1 0) 679 {})) (gs₁ := #[]) (d₁ := {}) (k₁ := 2250) (m₀ := 11) (ann := some (.ref 6)) (M := 12 + (1 + (30000 + (nCls + (30000 + 2)))))
    (opens _ (by decide)) size_ok (fun w os => top_run w os) (by decide) (fun w => by
      funext os
      exact looks_pair (congrFun (looks1 w) os) (looks_pair (congrFun (looks2 w) os) (congrFun (looks3 w) os)))
theorem said_ok : PySem.Challenge.rw_iu0021_01.wellSaid = true := by kernel_rfl
theorem row_said_ok : PySem.Challenge.rw_iu0021_01.row.wellSaid = true := row_said said_ok
theorem chains_ok : (chainsOk viewQ && opensWell PySem.Challenge.rw_iu0021_01.row.prog && (frees PySem.Challenge.rw_iu0021_01.row.toRowW && PySem.Challenge.rw_iu0021_01.row.within.isEmpty)) = true := by kernel_rfl
theorem promised_ok : PySem.Challenge.rw_iu0021_01.row.toRowW.promised := by w_witness2
theorem hd {d : DefRec} {kwd : List (PySem.Str × PySem.Expr)} (hdef : defOf viewQ PySem.Challenge.rw_iu0021_01.row.name = some (d, kwd)) (hp : PySem.Challenge.rw_iu0021_01.row.prog.theDef PySem.Challenge.rw_iu0021_01.row.name = some (d.params, d.body, d.scope)) (hk : kwWritten? d.params.kwonlyargs d.params.kw_defaults = some kwd) (h : WalkO viewQ looseN (XL viewQ []) (kHook heap_39 kaddr kaddr_is).says PySem.Challenge.rw_iu0021_01.row.toRowW d kwd fun f vs => PySem.call f vs) : PySem.Challenge.rw_iu0021_01.Holds :=
  holds_law said_ok fun said => holds_open (q := viewQ) (loose := looseN) (Xt := XT) (XP := XL viewQ []) left HK.of HK.keeps (fun s e => xl_of s (Bool.and_eq_true_iff.mp e).1) XL.keeps hdef hp hk (fun s e => recFacts_of (Bool.and_eq_true_iff.mp e).2) (by rfl) said chains_ok ⟨rfl, rfl, rfl, rfl, rfl, by decide +kernel⟩ promised_ok h

end
section
open PySem PySem.W PyProof PyProof.Rows
theorem hd2 {d : DefRec} {kwd : List (PySem.Str × PySem.Expr)} (hdef : defOf viewQ PySem.Challenge.rw_iu0021_01.row.name = some (d, kwd)) (hp : PySem.Challenge.rw_iu0021_01.row.prog.theDef PySem.Challenge.rw_iu0021_01.row.name = some (d.params, d.body, d.scope)) (hk : kwWritten? d.params.kwonlyargs d.params.kw_defaults = some kwd)
   (h : WalkO viewQ looseN (XL viewQ []) (kHook heap_39 kaddr kaddr_is).says PySem.Challenge.rw_iu0021_01.row.toRowW d kwd fun f vs => PySem.call f vs) : PySem.Challenge.rw_iu0021_01.Holds := hd hdef hp hk h

end
section
open PySem PySem.W PyProof PyProof.Rows
noncomputable def Stop (P : Prop) : Prop := P
theorem stop_of {P : Prop} (h : Stop P) : P := h
theorem stop_go {P : Prop} (h : P) : Stop P := h

/-! texts as lists -/
noncomputable def tx (l : Cs) : PySem.Str := ⟨l.toArray⟩
noncomputable def cs (x : PySem.Str) : Cs := x.cps.toList
/-- from behind -/
noncomputable def rv (x : PySem.Str) : Cs := (cs x).reverse
noncomputable def rvT (r : Cs) : PySem.Str := tx r.reverse
theorem tx_cs (x : PySem.Str) : tx (cs x) = x := rfl
theorem cs_tx (l : Cs) : cs (tx l) = l := rfl
theorem rvT_rv (x : PySem.Str) : rvT (rv x) = x := by unfold rvT rv; rw [List.reverse_reverse]; rfl
theorem rv_rvT (r : Cs) : rv (rvT r) = r := by unfold rvT rv; rw [cs_tx, List.reverse_reverse]
theorem cs_length (x : PySem.Str) : (cs x).length = x.length := by simp [cs, PySem.Str.length]
theorem rv_length (x : PySem.Str) : (rv x).length = x.length := by rw [rv, List.length_reverse, cs_length]
theorem tx_length (l : Cs) : (tx l).length = l.length := by simp [tx, PySem.Str.length]
theorem rvT_length (r : Cs) : (rvT r).length = r.length := by rw [rvT, tx_length, List.length_reverse]
theorem rv_inj {x y : PySem.Str} (h : rv x = rv y) : x = y := by rw [← rvT_rv x, h, rvT_rv]
theorem rvT_inj {x y : Cs} (h : rvT x = rvT y) : x = y := by rw [← rv_rvT x, h, rv_rvT]
theorem slice_from {x : PySem.Str} {i : Int} (h0 : 0 ≤ i) (h1 : i ≤ x.length) : Txt.slice x (some i) none = tx ((cs x).drop i.toNat) := by
  rw [slice_from_eq h0 h1 rfl]
  unfold tx cs
  rw [List.take_of_length_le]
  simp [PySem.Str.length]
  omega
theorem slice_to {x : PySem.Str} {j : Int} (h0 : 0 ≤ j) (h1 : j ≤ x.length) : Txt.slice x none (some j) = tx ((cs x).take j.toNat) := by
  have h : Txt.slice x none (some j) = _ := beq_iff_eq.mp (slice_closes_to (x := x) (j := j) ⟨h0, by simpa [PySem.Str.length] using h1⟩)
  rw [h]
  simp [tx, cs]
theorem slice_both {x : PySem.Str} {i j : Int} (h0 : 0 ≤ i) (h1 : i ≤ j) (h2 : j ≤ x.length) : Txt.slice x (some i) (some j) = tx (((cs x).drop i.toNat).take (j - i).toNat) := by
  have h : Txt.slice x (some i) (some j) = _ := beq_iff_eq.mp (slice_closes (x := x) (i := i) (j := j) ⟨h0, h1, by simpa [PySem.Str.length] using h2⟩)
  rw [h]
  rfl
theorem rv_from {x : PySem.Str} {i : Nat} : rv (tx ((cs x).drop i)) = (rv x).take (x.length - i) := by
  unfold rv
  rw [cs_tx, List.reverse_drop, cs_length]
theorem rvT_drop {x : PySem.Str} {n : Nat} : rvT ((rv x).drop n) = tx ((cs x).take (x.length - n)) := by
  unfold rvT rv
  rw [List.drop_reverse, List.reverse_reverse, cs_length]
theorem contains_rv (ys : List PySem.Str) (x : PySem.Str) : (ys.map rv).contains (rv x) = ys.any (· == x) := by
  rw [Bool.eq_iff_iff, List.contains_iff_mem, List.mem_map, List.any_eq_true]
  constructor
  · rintro ⟨y, hy, e⟩
    exact ⟨y, hy, by rw [rv_inj e]; exact beq_self_eq_true _⟩
  · rintro ⟨y, hy, e⟩
    exact ⟨y, hy, by rw [beq_iff_eq.mp e]⟩
theorem cutFrom_hit {keys : List Cs} {r : Cs} {n : Nat} (hn : 1 ≤ n) (hc : keys.contains (r.take n) = true) : ∀ N, n ≤ N → (∀ k, n < k → k ≤ N → keys.contains (r.take k) = false) → cutFrom keys r N = r.drop n
  | 0, h, _ => by omega
  | N + 1, h, hb => by
    unfold cutFrom
    by_cases e : n = N + 1
    · rw [← e, if_pos hc]
    · rw [hb (N + 1) (by omega) (Nat.le_refl _)]
      simp only [Bool.false_eq_true, if_false]
      exact cutFrom_hit hn hc N (by omega) fun k h1 h2 => hb k h1 (by omega)
theorem cutFrom_miss {keys : List Cs} {r : Cs} : ∀ N, (∀ k, 1 ≤ k → k ≤ N → keys.contains (r.take k) = false) → cutFrom keys r N = r
  | 0, _ => rfl
  | N + 1, hb => by
    unfold cutFrom
    rw [hb (N + 1) (by omega) (Nat.le_refl _)]
    simp only [Bool.false_eq_true, if_false]
    exact cutFrom_miss N fun k h1 h2 => hb k h1 (by omega)
/-! a list, of the top or of the call -/
noncomputable def LsAt (h₀ : Heap) (news : List (Addr × Obj)) (l : Addr) (vs : List Value) : Prop := h₀.IsList l vs.toArray ∨ ∃ n, (l, PySem.W.listOf vs.toArray n) ∈ news
theorem LsAt.keeps {h₀ g : Heap} {news : List (Addr × Obj)} {l : Addr} {vs : List Value} {L : Addr} {m : PySem.Str → Option Value} (h : LsAt h₀ news l vs) (F : Fr h₀ L g m) : LsAt g news l vs := by
  rcases h with h | h
  · exact .inl (h.at fun o e => F.keep l o e)
  · exact .inr h
theorem LsAt.here {h₀ h' : Heap} {news : List (Addr × Obj)} {l : Addr} {vs : List Value} {L : Addr} {m : PySem.Str → Option Value} (h : LsAt h₀ news l vs) (F : Fr h₀ L h' m) (N : News h₀ L h' news) : h'.IsList l vs.toArray := by
  rcases h with h | ⟨n, h⟩
  · exact h.at fun o e => F.keep l o e
  · exact ⟨_, (N _ h).1, rfl, n, rfl⟩
theorem LsAt.in {h₀ h' : Heap} {news news' : List (Addr × Obj)} {l : Addr} {vs : List Value} {L : Addr} {m : PySem.Str → Option Value} (h : LsAt h₀ news l vs) (F : Fr h₀ L h' m) (N : News h₀ L h' news') (hs : ∀ p ∈ news, p ∈ news') : h'.IsList l vs.toArray :=
  h.here F fun p hp => N p (hs p hp)
theorem LsAt.more {h₀ : Heap} {news news' : List (Addr × Obj)} {l : Addr} {vs : List Value} (h : LsAt h₀ news l vs) (hs : ∀ p ∈ news, p ∈ news') : LsAt h₀ news' l vs := by
  rcases h with h | ⟨n, h⟩
  · exact .inl h
  · exact .inr ⟨n, hs _ h⟩
/-! lists of texts that stand at the top -/
noncomputable def itemsAt (K : Frag) (a : Addr) : List Value := match K.lookup a with
  | some o => (match o.data with | .seq items _ => items.toList | _ => [])
  | none => []
noncomputable def isListAt (K : Frag) (a : Addr) : Bool := match K.lookup a with
  | some o => (o.cls == .type "list") && (match o.data with | .seq _ _ => true | _ => false)
  | none => false
theorem items_list {K : Frag} {h : Heap} {a : Addr} (X : K.In h) (e : isListAt K a = true) : h.IsList a (itemsAt K a).toArray := by
  unfold isListAt at e
  unfold itemsAt
  split at e
  · rename_i o ho
    obtain ⟨c, d, dt, sl⟩ := o
    rw [Bool.and_eq_true] at e
    dsimp only at e ⊢
    cases dt with
    | seq items n => exact ⟨_, X _ _ ho, by simpa using e.1, n, by simp⟩
    | _ => exact absurd e.2 (by simp)
  · cases e
noncomputable def textOf : Value → Option PySem.Str
  | .str x _ => some x
  | _ => none
theorem strsAre_of : ∀ (vs : List Value), vs.all (fun v => (textOf v).isSome) = true → StrsAre vs (vs.filterMap textOf)
  | [], _ => .nil
  | v :: r, h => by
    rw [List.all_cons, Bool.and_eq_true] at h
    cases v with
    | str x t => exact .cons x t (strsAre_of r h.2)
    | _ => exact absurd h.1 (by simp [textOf])
/-- the list at a holds the texts whose signs from behind are ks -/
noncomputable def TextsAt (h : Heap) (a : Addr) (ks : List Cs) : Prop := ∃ vs ys, h.IsList a vs.toArray ∧ StrsAre vs ys ∧ ys.map rv = ks
theorem texts_in {K : Frag} {h : Heap} {a : Addr} {ks : List Cs} (X : K.In h) (e : (isListAt K a && ((itemsAt K a).all fun v => (textOf v).isSome) && ((itemsAt K a).filterMap textOf).map rv == ks) = true) : TextsAt h a ks := by
  rw [Bool.and_eq_true, Bool.and_eq_true] at e
  exact ⟨_, _, items_list X e.1.1, strsAre_of _ e.1.2, beq_iff_eq.mp e.2⟩
theorem held_at {w : World} {h : Heap} (X : (heap_39 w.params).In h) : TextsAt h 614 heldK := texts_in X (by kernel_rfl)
theorem case_at {w : World} {h : Heap} (X : (heap_39 w.params).In h) : TextsAt h 613 caseK := texts_in X (by kernel_rfl)
theorem last_at {w : World} {h : Heap} (X : (heap_39 w.params).In h) : TextsAt h 615 lastK := texts_in X (by kernel_rfl)

end
section
open PySem PySem.W PyProof PyProof.Rows
/-! a table of entries at the top -/
structure AmAt (h : Heap) (a : Addr) (k : Cs × Int × Int) (ox : Obj) (es : List DictEntry) (n : Nat) (S : PySem.Str) (t1 t2 t3 : Tok) : Prop where
  inst : InstAt h a ox 218 (some (dictOf es n))
  s : getL (Str.ofString "s") es = some (some (.str S t1))
  sub : getL (Str.ofString "substring_i") es = some (some (.int k.2.1 t2))
  res : getL (Str.ofString "result") es = some (some (.int k.2.2 t3))
  key : rv S = k.1
noncomputable def AmIn (h : Heap) (a : Addr) (k : Cs × Int × Int) : Prop := ∃ ox es n S t1 t2 t3, AmAt h a k ox es n S t1 t2 t3
noncomputable def refsOfL (vs : List Value) : List Addr := vs.map fun v => match v with | .ref a => a | _ => 0
structure AmTab (h : Heap) (l : Addr) (T : Tab) (as : List Addr) : Prop where
  list : h.IsList l (as.map Value.ref).toArray
  len : as.length = T.length
  each : ∀ i, i < T.length → AmIn h (as.getD i 0) (T.getD i ([], 0, 0))
/-- a look at the written part -/
noncomputable def strLook (o : Option (Option Value)) (c : Cs) : Bool := match o with
  | some (some (.str S _)) => rv S == c
  | _ => false
noncomputable def intLook (o : Option (Option Value)) (k : Int) : Bool := match o with
  | some (some (.int i _)) => i == k
  | _ => false
theorem strLook_of {o : Option (Option Value)} {c : Cs} (h : strLook o c = true) : ∃ S t, o = some (some (.str S t)) ∧ rv S = c := by
  unfold strLook at h
  split at h
  · exact ⟨_, _, rfl, beq_iff_eq.mp h⟩
  · cases h
theorem intLook_of {o : Option (Option Value)} {k : Int} (h : intLook o k = true) : ∃ t, o = some (some (.int k t)) := by
  unfold intLook at h
  split at h
  · exact ⟨_, by rw [beq_iff_eq.mp h]⟩
  · cases h
noncomputable def amDict (o : Option Obj) (k : Cs × Int × Int) : Bool := match o with
  | some ⟨c, none, .dict es _, sl⟩ => (c == .type "dict") && (sl.size == 0) && strLook (getL (Str.ofString "s") es.toList) k.1 && intLook (getL (Str.ofString "substring_i") es.toList) k.2.1 && intLook (getL (Str.ofString "result") es.toList) k.2.2
  | _ => false
noncomputable def amLook (K : Frag) (a : Addr) (k : Cs × Int × Int) : Bool := match K.lookup a with
  | some ⟨c, some d, .plain, _⟩ => (c == .ref 218) && amDict (K.lookup d) k
  | _ => false
theorem amDict_of {o : Option Obj} {k : Cs × Int × Int} (e : amDict o k = true) : ∃ es n, o = some (dictOf es n) ∧ strLook (getL (Str.ofString "s") es) k.1 = true ∧ intLook (getL (Str.ofString "substring_i") es) k.2.1 = true ∧ intLook (getL (Str.ofString "result") es) k.2.2 = true := by
  unfold amDict at e
  split at e
  · rename_i c es n sl
    simp only [Bool.and_eq_true, beq_iff_eq] at e
    obtain ⟨⟨⟨⟨e1, e2⟩, e3⟩, e4⟩, e5⟩ := e
    have e6 : sl = #[] := Array.eq_empty_of_size_eq_zero e2
    subst e1 e6
    exact ⟨es.toList, n, rfl, e3, e4, e5⟩
  · cases e
theorem am_in {K : Frag} {h : Heap} {a : Addr} {k : Cs × Int × Int} (X : K.In h) (e : amLook K a k = true) : AmIn h a k := by
  unfold amLook at e
  split at e
  · rename_i c d sl h1
    rw [Bool.and_eq_true, beq_iff_eq] at e
    obtain ⟨e1, e2⟩ := e
    subst e1
    obtain ⟨es, n, h2, g1, g2, g3⟩ := amDict_of e2
    obtain ⟨S, t1, q1, qk⟩ := strLook_of g1
    obtain ⟨t2, q2⟩ := intLook_of g2
    obtain ⟨t3, q3⟩ := intLook_of g3
    exact ⟨_, es, n, S, t1, t2, t3, InstAt.of_K X h1 h2, q1, q2, q3, qk⟩
  · cases e
noncomputable def amLooks (K : Frag) : List Addr → Tab → Bool
  | [], [] => true
  | a :: as, k :: T => amLook K a k && amLooks K as T
  | _, _ => false
theorem am_each {K : Frag} {h : Heap} (X : K.In h) : ∀ {as : List Addr} {T : Tab}, amLooks K as T = true → as.length = T.length ∧ ∀ i, i < T.length → AmIn h (as.getD i 0) (T.getD i ([], 0, 0))
  | [], [], _ => ⟨rfl, fun _ hi => by simp at hi⟩
  | a :: as, k :: T, e => by
    unfold amLooks at e
    rw [Bool.and_eq_true] at e
    obtain ⟨h1, h2⟩ := am_each X e.2
    refine ⟨by simp [h1], fun i hi => ?_⟩
    cases i with
    | zero => simpa using am_in X e.1
    | succ i => simpa using h2 i (by simpa using hi)
  | [], _ :: _, e => by cases e
  | _ :: _, [], e => by cases e
theorem amTab_in {K : Frag} {h : Heap} {l : Addr} {T : Tab} {as : List Addr} (X : K.In h) (e : (isListAt K l && (itemsAt K l == as.map Value.ref) && amLooks K as T) = true) : AmTab h l T as := by
  rw [Bool.and_eq_true, Bool.and_eq_true] at e
  obtain ⟨⟨e1, e2⟩, e3⟩ := e
  have hl := items_list X e1
  rw [beq_iff_eq.mp e2] at hl
  obtain ⟨h1, h2⟩ := am_each X e3
  exact ⟨hl, h1, h2⟩
theorem InstAt.more {h h' : Heap} {x : Addr} {ox : Obj} {C : Addr} {od : Option Obj} (I : InstAt h x ox C od) (k : ∀ b o, h.get? b = some o → h'.get? b = some o) : InstAt h' x ox C od := by
  refine ⟨k _ _ I.at_, I.cls, I.no, ?_⟩
  have hd := I.dict
  revert hd
  cases ox.dict <;> cases od <;> intro hd
  · exact hd
  · exact hd
  · exact hd
  · exact k _ _ hd
noncomputable def r0 : List Addr := [259, 262, 265, 268, 271, 274, 277, 280, 283, 286, 289, 292, 295, 298, 301, 304, 307]
theorem tab0 {w : World} {h : Heap} (X : (heap_39 w.params).In h) : AmTab h 309 a0 r0 := amTab_in X (by kernel_rfl)
noncomputable def r1 : List Addr := [311, 314, 317]
theorem tab1 {w : World} {h : Heap} (X : (heap_39 w.params).In h) : AmTab h 319 a1 r1 := amTab_in X (by kernel_rfl)
noncomputable def r2 : List Addr := [321, 324, 327, 330, 333, 336, 339, 342, 345, 348, 351, 354, 357, 360, 363, 366, 369, 372, 375, 378, 381, 384, 387, 390, 393, 396, 399, 402, 405, 408, 411, 414, 417, 420, 423, 426, 429, 432, 435, 438, 441, 444, 447, 450, 453, 456, 459, 462, 465, 468, 471, 474, 477, 480, 483, 486, 489, 492, 495, 498, 501, 504, 507, 510, 513, 516, 519, 522, 525, 528, 531, 534, 537, 540, 543, 546, 549, 552, 555, 558, 561, 564, 567, 570, 573, 576, 579, 582, 585, 588, 591]
theorem tab2 {w : World} {h : Heap} (X : (heap_39 w.params).In h) : AmTab h 593 a2 r2 := amTab_in X (by kernel_rfl)

end
section
open PySem PySem.W PyProof PyProof.Rows
section
variable {w : World} {A : Around} {E : Value → Shared → Prop} {s : Shared} {g : Heap} {L : Addr} {m : PySem.Str → Option Value} {l : Addr} {tab : Tab} {as : List Addr}
theorem am_len {Q : Value → Shared → Prop} (hT : AmTab g l tab as) (F : Fr g L s.heap m) (hl : tab.length ≤ 100) (h : Q (.int (tab.length : Int) (s.toks + 1)) { s with toks := s.toks + 1 + 1 }) :
    wpAny (model PySem.Challenge.rw_iu0021_01.row.prog w) A (call (.builtin "len") [.ref l]) Q E s :=
  kun_lenL (hT.list.at fun o e => F.keep l o e) (by simp [hT.len]) (by omega) h
theorem am_item {value slice : PySem.Expr} {k : Int} {u : Tok} {Q : Value → Shared → Prop} (hT : AmTab g l tab as) (hG : Good tab) (F : Fr g L s.heap m) (hl : tab.length ≤ 100) (h0 : 0 ≤ k) (h1 : k < tab.length)
    (h : ∀ ox es n S t1 t2 t3, AmAt g (as.getD k.toNat 0) (tab.getD k.toNat ([], 0, 0)) ox es n S t1 t2 t3 → rv S = keyAt tab k.toNat → 1 ≤ S.length → S.length ≤ 6 → Q (.ref (as.getD k.toNat 0)) s)
    (hs : subscripted slice false (.ref l) (.int k u) = operate [.ref l, .int k u] (getItem (.ref l) (.int k u)) := by with_unfolding_all rfl) :
    wpAny (model PySem.Challenge.rw_iu0021_01.row.prog w) A (subscriptTail value slice (.ref l) (.int k u)) Q E s := by
  have hL : s.heap.IsList l (as.map Value.ref).toArray := hT.list.at fun o e => F.keep l o e
  have hk : k.toNat < tab.length := by omega
  have hk' : k.toNat < as.length := by rw [hT.len]; exact hk
  obtain ⟨ox, es, n, S, t1, t2, t3, I⟩ := hT.each k.toNat hk
  have e : rv S = keyAt tab k.toNat := I.key
  have hS : S.length = (keyAt tab k.toNat).length := by rw [← e, rv_length]
  have hz := hG.size k.toNat hk
  refine tail_any hL.typeIs slot_list_getitem.lookup (wpAny_getItem_list hL h0 (by omega) (x := .ref (as.getD k.toNat 0)) ?_ (h ox es n S t1 t2 t3 I e (by omega) (by omega))) hs
  simp [List.getD_eq_getElem?_getD, hk']
variable {a : Addr} {k : Cs × Int × Int} {ox : Obj} {es : List DictEntry} {n : Nat} {S : PySem.Str} {t1 t2 t3 : Tok} {expr : Bool}
theorem am_s {Q : Value → Shared → Prop} (F : Fr g L s.heap m) (X : (heap_39 w.params).In g) (I : AmAt g a k ox es n S t1 t2 t3) (h : Q (.str S t1) { s with toks := s.toks + 1 }) :
    wpAny (model PySem.Challenge.rw_iu0021_01.row.prog w) A (getAttr (.ref a) (Str.ofString "s") expr) Q E s :=
  get_own F X (InstAt.more I.inst F.keep) (by kernel_rfl) (by kernel_rfl) (attr := none) (by kernel_rfl) (by kernel_rfl) I.s rfl h
theorem am_sub {Q : Value → Shared → Prop} (F : Fr g L s.heap m) (X : (heap_39 w.params).In g) (I : AmAt g a k ox es n S t1 t2 t3) (h : Q (.int k.2.1 t2) { s with toks := s.toks + 1 }) :
    wpAny (model PySem.Challenge.rw_iu0021_01.row.prog w) A (getAttr (.ref a) (Str.ofString "substring_i") expr) Q E s :=
  get_own F X (InstAt.more I.inst F.keep) (by kernel_rfl) (by kernel_rfl) (attr := none) (by kernel_rfl) (by kernel_rfl) I.sub rfl h
theorem am_res {Q : Value → Shared → Prop} (F : Fr g L s.heap m) (X : (heap_39 w.params).In g) (I : AmAt g a k ox es n S t1 t2 t3) (h : Q (.int k.2.2 t3) { s with toks := s.toks + 1 }) :
    wpAny (model PySem.Challenge.rw_iu0021_01.row.prog w) A (getAttr (.ref a) (Str.ofString "result") expr) Q E s :=
  get_own F X (InstAt.more I.inst F.keep) (by kernel_rfl) (by kernel_rfl) (attr := none) (by kernel_rfl) (by kernel_rfl) I.res rfl h
end
/-! a statement told by what holds behind it -/
noncomputable def CutPost {σ : Type} (g : Heap) (L : Addr) (s : Shared) (Led : σ → List (Addr × Obj)) (ps : σ → List (PySem.Str × Value)) (stored : List PySem.Str) (m₀ : PySem.Str → Option Value) (P : σ → Prop) (f : Flow) (s₂ : Shared) : Prop :=
  f = .next ∧ ∃ (c : σ) (u : PySem.Str → Option Value) (h : Heap) (tk : Nat), s₂ = { s with heap := h, toks := tk } ∧ P c ∧ Fr g L h (kstB (fun z => if stored.contains z then u z else m₀ z) (ps c)) ∧ News g L h (Led c)
theorem CutPost.intro {σ : Type} {g : Heap} {L : Addr} {s : Shared} {Led : σ → List (Addr × Obj)} {ps : σ → List (PySem.Str × Value)} {stored : List PySem.Str} {m₀ m' : PySem.Str → Option Value} {P : σ → Prop} {h : Heap} {tk : Nat} {news' : List (Addr × Obj)} (c : σ)
    (F : Fr g L h m') (N : News g L h news') (hn : ∀ p ∈ Led c, p ∈ news') (hk : ∀ p ∈ ps c, m' p.1 = some p.2) (hr : ∀ z, (∀ p ∈ ps c, z ≠ p.1) → stored.contains z = false → m' z = m₀ z) (hp : P c) :
    CutPost g L s Led ps stored m₀ P .next { s with heap := h, toks := tk } := ⟨rfl, c, m', h, tk, rfl, hp, ksw_fr hk hr F, fun p hp => N p (hn p hp)⟩
theorem seq_cut {σ : Type} {M : Model} {A : Around} {E : Value → Shared → Prop} {s : Shared} {t : Sem Flow} {Q : Flow → Shared → Prop} {g : Heap} {L : Addr} {m₀ : PySem.Str → Option Value} (Led : σ → List (Addr × Obj)) (ps : σ → List (PySem.Str × Value)) (stored : List PySem.Str) (P : σ → Prop)
    (_F : Fr g L s.heap m₀) (loop : wpAny M A t (CutPost g L s Led ps stored m₀ P) (fun _ _ => False) s)
    (post : ∀ (c : σ) (u : PySem.Str → Option Value) h tk, P c → Fr g L h (kstB (fun z => if stored.contains z then u z else m₀ z) (ps c)) → News g L h (Led c) → Q .next { s with heap := h, toks := tk }) : wpAny M A t Q E s := by
  refine wpAny_mono loop (fun f s₂ h => ?_) fun _ _ h => h.elim
  obtain ⟨rfl, c, u, h, tk, rfl, hp, F, N⟩ := h
  exact post c u h tk hp F N
/-- as CutPost, a return goes on its own way -/
noncomputable def CutPostR {σ : Type} (g : Heap) (L : Addr) (s : Shared) (Led : σ → List (Addr × Obj)) (ps : σ → List (PySem.Str × Value)) (stored : List PySem.Str) (m₀ : PySem.Str → Option Value) (P : σ → Prop) (Q : Flow → Shared → Prop) (f : Flow) (s₂ : Shared) : Prop :=
  (∃ v, f = .ret v ∧ Q (.ret v) s₂) ∨ CutPost g L s Led ps stored m₀ P f s₂
theorem CutPostR.back {σ : Type} {g : Heap} {L : Addr} {s : Shared} {Led : σ → List (Addr × Obj)} {ps : σ → List (PySem.Str × Value)} {stored : List PySem.Str} {m₀ : PySem.Str → Option Value} {P : σ → Prop} {Q : Flow → Shared → Prop} {v : Value} {s₂ : Shared} (h : Q (.ret v) s₂) : CutPostR g L s Led ps stored m₀ P Q (.ret v) s₂ := .inl ⟨v, rfl, h⟩
theorem seq_cutR {σ : Type} {M : Model} {A : Around} {E : Value → Shared → Prop} {s : Shared} {t : Sem Flow} {Q : Flow → Shared → Prop} {g : Heap} {L : Addr} {m₀ : PySem.Str → Option Value} (Led : σ → List (Addr × Obj)) (ps : σ → List (PySem.Str × Value)) (stored : List PySem.Str) (P : σ → Prop)
    (_F : Fr g L s.heap m₀) (loop : wpAny M A t (CutPostR g L s Led ps stored m₀ P Q) (fun _ _ => False) s)
    (post : ∀ (c : σ) (u : PySem.Str → Option Value) h tk, P c → Fr g L h (kstB (fun z => if stored.contains z then u z else m₀ z) (ps c)) → News g L h (Led c) → Q .next { s with heap := h, toks := tk }) : wpAny M A t Q E s := by
  refine wpAny_mono loop (fun f s₂ h => ?_) fun _ _ h => h.elim
  rcases h with ⟨v, rfl, h⟩ | h
  · exact h
  · obtain ⟨rfl, c, u, h, tk, rfl, hp, F, N⟩ := h
    exact post c u h tk hp F N
/-! signs -/
theorem item_get {x : PySem.Str} {i : Int} (h0 : 0 ≤ i) (h1 : i < x.length) : (Txt.item x i).cps.getD 0 0 = (cs x).getD i.toNat 0 := by
  have hl : i.toNat < x.cps.size := by
    have : x.length = x.cps.size := rfl
    omega
  rw [item_meets (n := x.cps[i.toNat]) h0 (by simp [hl])]
  unfold cs
  simp [List.getD_eq_getElem?_getD, hl]
theorem ahead_length {x : PySem.Str} {c : Int} (h0 : 0 ≤ c) (h1 : c ≤ x.length) : ((rv x).drop (x.length - c.toNat)).length = c.toNat := by
  rw [List.length_drop, rv_length]; omega
theorem ahead_get {x : PySem.Str} {c : Int} {n : Nat} (h1 : c ≤ x.length) (h2 : n < c.toNat) : ((rv x).drop (x.length - c.toNat)).getD n 0 = (cs x).getD (c.toNat - 1 - n) 0 := by
  unfold rv
  simp only [List.getD_eq_getElem?_getD, List.getElem?_drop]
  rw [List.getElem?_reverse (by rw [cs_length]; omega), cs_length]
  congr 2
  omega
theorem rv_get {x : PySem.Str} {n : Nat} (h : n < x.length) : (rv x).getD n 0 = (cs x).getD (x.length - 1 - n) 0 := by
  unfold rv
  simp only [List.getD_eq_getElem?_getD]
  rw [List.getElem?_reverse (by rw [cs_length]; omega), cs_length]
/-! the scan of one key -/
theorem scan_short {key r : Cs} {n : Nat} (h : n ≤ lcp key r) (h1 : n = r.length) (h2 : n < key.length) : n = lcp key r ∧ ltb r key = true := by
  have := lcp_le_right key r
  have e : n = lcp key r := by omega
  refine ⟨e, (ltb_of_lcp r key).mpr ⟨by omega, .inl (by omega)⟩⟩
theorem scan_whole {key r : Cs} {n : Nat} (h : n ≤ lcp key r) (h1 : n = key.length) : n = lcp key r ∧ ltb r key = false := by
  have := lcp_le_left key r
  have e : n = lcp key r := by omega
  refine ⟨e, ?_⟩
  rw [← Bool.not_eq_true, ltb_of_lcp]
  omega
theorem scan_go {key r : Cs} {n : Nat} (h : n ≤ lcp key r) (h1 : n < r.length) (h2 : n < key.length) (h3 : r.getD n 0 = key.getD n 0) : n + 1 ≤ lcp key r := by
  rw [lcp_ge_iff] at h ⊢
  refine ⟨by omega, by omega, fun i hi => ?_⟩
  by_cases e : i = n
  · rw [e, h3]
  · exact h.2.2 i (by omega)
theorem scan_part {key r : Cs} {n : Nat} (h : n ≤ lcp key r) (h1 : n < r.length) (h2 : n < key.length) (h3 : r.getD n 0 ≠ key.getD n 0) : n = lcp key r ∧ (r.getD n 0 < key.getD n 0 ↔ ltb r key = true) := by
  have e : n = lcp key r := by
    rcases Nat.lt_or_ge n (lcp key r) with hl | hl
    · have := ((lcp_ge_iff key r (n + 1)).mp hl).2.2 n (by omega)
      exact absurd this.symm h3
    · omega
  refine ⟨e, ?_⟩
  rw [ltb_of_lcp, ← e]
  constructor
  · exact fun hl => ⟨h2, .inr hl⟩
  · rintro ⟨_, h4 | h4⟩
    · omega
    · exact h4
theorem rshift_half {w : World} {A : Around} {E : Value → Shared → Prop} {s : Shared} {i j : Nat} {t u : Tok} {Q : Value → Shared → Prop} (hij : i ≤ j) (h : Q (.int (((j - i) / 2 : Nat) : Int) s.toks) { s with toks := s.toks + 1 }) :
    wpAny (model PySem.Challenge.rw_iu0021_01.row.prog w) A (binaryOp .RShift (.int ((j : Int) - (i : Int)) t) (.int 1 u)) Q E s := by
  refine rshift_int (by decide) ?_
  have e : ((j : Int) - (i : Int)).fdiv (2 ^ Int.toNat 1) = (((j - i) / 2 : Nat) : Int) := by
    rw [show ((2 : Int) ^ Int.toNat 1) = 2 from by decide, Int.fdiv_eq_ediv_of_nonneg _ (by decide)]
    omega
  rw [e]
  exact h
/-- the tokens of the six keys -/
structure Tk6 where
  a : Tok
  b : Tok
  c : Tok
  d : Tok
  e : Tok
  f : Tok
/-- the stemmer's own dict -/
abbrev stD (P : Params) (ks : Tk6) (cur : PySem.Str) (t1 : Tok) (cu : Int) (t2 : Tok) (li : Int) (t3 : Tok) (lb : Int) (t4 : Tok) (br : Int) (t5 : Tok) (ke : Int) (t6 : Tok) : Obj :=
  dictOf [⟨PyData.keyHash P (Str.ofString "current"), .str (Str.ofString "current") ks.a, .str cur t1⟩,
    ⟨PyData.keyHash P (Str.ofString "cursor"), .str (Str.ofString "cursor") ks.b, .int cu t2⟩,
    ⟨PyData.keyHash P (Str.ofString "limit"), .str (Str.ofString "limit") ks.c, .int li t3⟩,
    ⟨PyData.keyHash P (Str.ofString "limit_backward"), .str (Str.ofString "limit_backward") ks.d, .int lb t4⟩,
    ⟨PyData.keyHash P (Str.ofString "bra"), .str (Str.ofString "bra") ks.e, .int br t5⟩,
    ⟨PyData.keyHash P (Str.ofString "ket"), .str (Str.ofString "ket") ks.f, .int ke t6⟩] 6
/-- the ledger of a call upon the stemmer -/
abbrev stN (x dx : Addr) (o : Obj) (rst : List (Addr × Obj)) : List (Addr × Obj) := (x, instObj 596 dx) :: (dx, o) :: rst
theorem endswith_iff (x y : PySem.Str) : Txt.endswith x y = true ↔ rv y <+: rv x := by
  show (decide (0 + y.length ≤ x.length) && Builtin.Str.subAt x y (x.length - y.length)) = true ↔ _
  rw [StrLaws.subAt_eq, Bool.and_eq_true, decide_eq_true_eq, beq_iff_eq]
  have e1 : x.cps.toList = cs x := rfl
  have e2 : y.cps.toList = cs y := rfl
  rw [e1, e2]
  have hx := cs_length x
  have hy := cs_length y
  unfold rv
  rw [List.reverse_prefix]
  constructor
  · rintro ⟨h1, h2⟩
    refine ⟨(cs x).take (x.length - y.length), ?_⟩
    rw [List.take_of_length_le (by rw [List.length_drop]; omega)] at h2
    rw [← h2, List.take_append_drop]
  · rintro ⟨t, ht⟩
    have hl := congrArg List.length ht
    rw [List.length_append] at hl
    refine ⟨by omega, ?_⟩
    have e : x.length - y.length = t.length := by omega
    rw [e, ← ht, List.drop_left, ← hy, List.take_length]
/-- what lies ahead of the cursor, from behind -/
theorem rv_ahead {x : PySem.Str} {c : Int} (h0 : 0 ≤ c) (h1 : c ≤ x.length) : rv (Txt.slice x (some 0) (some c)) = (rv x).drop (x.length - c.toNat) := by
  rw [slice_both (by omega) h0 h1]
  have e : (c - 0).toNat = c.toNat := by omega
  rw [e]
  unfold rv
  rw [cs_tx, List.drop_reverse, cs_length]
  congr 1
  simp only [Int.toNat_zero, List.drop_zero]
  congr 1
  omega

end
local macro_rules | `(tactic| walk_at "pyIter ref") => `(tactic| (refine stop_of ?_))
section
open PySem PySem.W PyProof PyProof.Rows
noncomputable def lo6 (n : Nat) : Int := if (n : Int) - 6 > 0 then (n : Int) - 6 else 0
noncomputable def Missed (x : PySem.Str) (ys : List PySem.Str) (pre : List Int) : Prop := ∀ j : Nat, j < pre.length → (ys.any fun y => y == Txt.slice x (some (lo6 x.length + (j : Int))) none) = false
theorem lo6_is (n : Nat) : lo6 n = ((n - min 6 n : Nat) : Int) := by unfold lo6; split <;> omega
theorem slice_at {x : PySem.Str} {ys : List PySem.Str} {j : Nat} (h : j < min 6 x.length) : (ys.any fun y => y == Txt.slice x (some (lo6 x.length + (j : Int))) none) = (ys.map rv).contains ((rv x).take (min 6 x.length - j)) := by
  rw [lo6_is, slice_from (by omega) (by omega), ← contains_rv, rv_from]
  congr 2
  omega
theorem missed_take {x : PySem.Str} {ys : List PySem.Str} {pre : List Int} (hl : pre.length ≤ min 6 x.length) (h : Missed x ys pre) (k : Nat) (h1 : min 6 x.length - pre.length < k) (h2 : k ≤ min 6 x.length) : (ys.map rv).contains ((rv x).take k) = false := by
  have := h (min 6 x.length - k) (by omega)
  rw [slice_at (by omega)] at this
  rw [← this]
  congr 2
  omega
theorem cut_hit {x : PySem.Str} {ys : List PySem.Str} {pre : List Int} {k : Int} (hk : k = lo6 x.length + (pre.length : Int)) (hlt : pre.length < min 6 x.length) (hp : Missed x ys pre) (hh : (ys.any fun y => y == Txt.slice x (some k) none) = true) :
    Txt.slice x none (some k) = rvT (cut (ys.map rv) (rv x)) := by
  subst hk
  rw [slice_at hlt] at hh
  unfold cut
  rw [rv_length, cutFrom_hit (n := min 6 x.length - pre.length) (by omega) hh _ (by omega) fun k h1 h2 => missed_take (by omega) hp k h1 h2, rvT_drop, lo6_is, slice_to (by omega) (by omega)]
  congr 2
  omega
theorem cut_miss {x : PySem.Str} {ys : List PySem.Str} (hp : Missed x ys (rangeKs (lo6 x.length) (min 6 x.length))) : x = rvT (cut (ys.map rv) (rv x)) := by
  unfold cut
  rw [rv_length, cutFrom_miss _ fun k h1 h2 => missed_take (by rw [rangeKs_length]; omega) hp k (by rw [rangeKs_length]; omega) h2, rvT_rv]
theorem Missed.step {x : PySem.Str} {ys : List PySem.Str} {pre : List Int} {k : Int} (hk : k = lo6 x.length + (pre.length : Int)) (hp : Missed x ys pre) (hh : (ys.any fun y => y == Txt.slice x (some k) none) = false) : Missed x ys (pre ++ [k]) := by
  intro j hj
  rw [List.length_append, List.length_singleton] at hj
  by_cases e : j < pre.length
  · exact hp j e
  · have : j = pre.length := by omega
    subst this hk
    exact hh
section
local macro_rules | `(tactic| walk_at "compareOp In str ref") => `(tactic| (refine in_list_strs (LsAt.in (by assumption) (by k_asm) (by k_asm) (by first | exact fun _ h => h | exact fun _ h => List.mem_append_left _ h)) (by assumption) ?_))
set_option maxRecDepth 100000 in
set_option maxHeartbeats 8000000 in
set_option pp.maxSteps 4000 in
theorem cut_call {w : World} {mean : ExcName → Option Value} {mg mb : Str → Option Value} {dp un : Nat} {gd : Option (List Code)} {cn : Str} {cs : Scope} {a : Addr} {ccd : Value} {cl : List (Str × Addr)} {outer : List Env} {A₀ : Around} {base h₀ : Heap} {L : Addr} {m : Str → Option Value} {s : Shared} {Q E : Value → Shared → Prop} {news : List (Addr × Obj)} {x : Str} {tx : Tok} {l : Addr} {vs : List Value} {ys : List Str}
    (B : Below A₀ base outer h₀) (F : Fr h₀ L s.heap m) (X : (heap_39 w.params).In h₀) (N : News h₀ L s.heap news) (T : Top viewQ (looseW viewQ looseN) mean mg mb h₀) (hk : cs.kind = .function)
    (hl : LsAt h₀ news l vs) (hi : StrsAre vs ys) (hx : x.length ≤ 1000)
    (hdp : dp + 1 < recursionLimit) (hun : un + 8 < cLine)
    (ret : ∀ t h' tk', Fr h₀ L h' m → News h₀ L h' news → Q (.str (rvT (cut (ys.map rv) (rv x))) t) { s with heap := h', toks := tk' }) :
    wpAny (model PySem.Challenge.rw_iu0021_01.row.prog w) (ktrTop dp un gd cn cs L a ccd cl outer) (call (.ref 659) [.str x tx, .ref l]) Q E s := by
  revert X; k_fill; intro X
  refine wpAny_call ?_
  k_dflt ktr_enter
  rename Fr h₀ L _ m => FG
  have hlg := hl.keeps FG
  k_steps
  refine stop_go ?_
  rename IsRange _ _ _ _ _ _ _ _ => hR
  rename Fr _ _ _ _ => Fz
  rename News _ _ _ _ => Nz
  refine kst_range (σ := Unit) (n := min 6 x.length) (fun _ => news) (fun _ => []) (fun _ => True) [] (fun pre _ => Missed x ys pre) () rfl hR ?sm ?sz Fz Nz trivial (fun _ h => nomatch h) (fun _ h => nomatch h) ?turn ?done
  case sm => exact small_one (by split <;> omega) (by split <;> omega) (by omega) (by omega)
  case sz =>
    rw [rangeSize_nat]
    split <;> omega
  case done =>
    intro c u h tk hf hp F9 N9
    k_steps
    refine (?_ : Q _ _)
    rw [show x = _ from cut_miss hp]
    exact ret _ _ _ (by assumption) (by assumption)
  case turn =>
    intro c pre k t u h tk own hk hlt hown hf hp F9 N9
    k_steps
    · rename (ys.any _ = true) => hh
      refine (?_ : Q _ _)
      rw [cut_hit hk hlt hp hh]
      rename News h₀ L _ _ => Ne
      exact ret _ _ _ (by assumption) fun p hp => Ne p (List.mem_append_left _ hp)
    · refine kst_end () (by k_asm) (by k_asm) (fun _ h => List.mem_append_left _ h) (fun _ h => List.mem_append_right _ h) rfl trivial (fun _ h => nomatch h) ?_ (Missed.step hk hp (by assumption))
      intro z h1 _ _
      exact (if_neg h1).trans rfl
end

end
local macro_rules | `(tactic| walk_at "call ref") => `(tactic| walk_at "mine cut")
local macro_rules | `(tactic| walk_at "mine cut") => `(tactic| ((with_reducible show wpAny _ _ (call (Value.ref 659) _) _ _ _); k_dflt (refine' cut_call ?kB ?kF ?kX ?kN ?kT ?kk ?kl ?ki ?kx ?kd ?ku ?kr); (case kB => k_asm); (case kF => k_asm); (case kX => k_asm); (case kN => k_asm); (case kT => k_asm); (case kk => exact rfl); (case kl => first | assumption | (exact (LsAt.more (by assumption) (fun _ h => List.mem_append_left _ h)))); (case ki => assumption); (case kx => assumption); (case kd => ktr_room); (case ku => ktr_units); intro t9 h9 tk9 F9 N9; (try dsimp only)))
section
open PySem PySem.W PyProof PyProof.Rows
theorem turns_snoc (keys : List Cs) : ∀ (n : Nat) (r : Cs), turns keys (n + 1) r = cut keys (turns keys n r)
  | 0, _ => rfl
  | n + 1, r => turns_snoc keys n (cut keys r)
theorem cut_len {keys : List Cs} (r : Cs) : (cut keys r).length ≤ r.length := by
  unfold cut
  generalize min 6 r.length = n
  induction n with
  | zero => exact Nat.le_refl _
  | succ n ih =>
    unfold cutFrom
    split
    · rw [List.length_drop]; omega
    · exact ih
theorem turns_len (keys : List Cs) : ∀ (n : Nat) (r : Cs), (turns keys n r).length ≤ r.length
  | 0, r => Nat.le_refl _
  | n + 1, r => Nat.le_trans (turns_len keys n _) (cut_len r)
theorem cut_told {keys : List Cs} {x : PySem.Str} {b : Bool} (h : (rvT (cut keys (rv x)) != x) = b) : (cut keys (rv x) ≠ rv x) ↔ b = true := by
  rw [← h]
  constructor
  · intro hn
    rw [bne_iff_ne]
    intro e
    exact hn (by rw [← rv_rvT (cut keys (rv x)), e])
  · intro hn e
    rw [e, rvT_rv] at hn
    simp at hn
theorem rest_cut {keys lst : List Cs} {x x' : PySem.Str} {n : Nat} (hn : n = x.length) (hp : x' = rvT (turns keys n (rv x))) (h : (rvT (cut lst (rv x')) != x') = true) : Txt.slice x' none (some ((x'.length : Int) - 1)) = rvT (rest keys lst (rv x)) := by
  have h' := (cut_told h).mpr rfl
  have hx : rv x' = turns keys n (rv x) := by rw [hp, rv_rvT]
  have h1 : 1 ≤ x'.length := by
    rcases Nat.lt_or_ge 0 x'.length with h1 | h1
    · exact h1
    · exfalso
      have : rv x' = [] := List.length_eq_zero_iff.mp (by rw [rv_length]; omega)
      rw [this] at h'
      exact h' rfl
  have e : rest keys lst (rv x) = (rv x').drop 1 := by
    unfold rest
    rw [rv_length, ← hn, ← hx]
    exact if_pos h'
  rw [e, rvT_drop, slice_to (by omega) (by omega)]
  congr 2
  omega
theorem rest_keep {keys lst : List Cs} {x x' : PySem.Str} {n : Nat} (hn : n = x.length) (hp : x' = rvT (turns keys n (rv x))) (h : (rvT (cut lst (rv x')) != x') = false) : x' = rvT (rest keys lst (rv x)) := by
  have h' : ¬ cut lst (rv x') ≠ rv x' := fun e => by simpa using (cut_told h).mp e
  have hx : rv x' = turns keys n (rv x) := by rw [hp, rv_rvT]
  have e : rest keys lst (rv x) = rv x' := by
    unfold rest
    rw [rv_length, ← hn, ← hx]
    exact if_neg h'
  rw [e, rvT_rv]
section
set_option maxRecDepth 100000 in
set_option maxHeartbeats 8000000 in
theorem first_call {w : World} {mean : ExcName → Option Value} {mg mb : Str → Option Value} {dp un : Nat} {gd : Option (List Code)} {cn : Str} {cs : Scope} {a : Addr} {ccd : Value} {cl : List (Str × Addr)} {outer : List Env} {A₀ : Around} {base h₀ : Heap} {L : Addr} {m : Str → Option Value} {s : Shared} {Q E : Value → Shared → Prop} {news : List (Addr × Obj)} {x : Str} {tx : Tok}
    (B : Below A₀ base outer h₀) (F : Fr h₀ L s.heap m) (X : (heap_39 w.params).In h₀) (N : News h₀ L s.heap news) (T : Top viewQ (looseW viewQ looseN) mean mg mb h₀) (hk : cs.kind = .function)
    (hx : x.length ≤ 1000) (hdp : dp + 2 < recursionLimit) (hun : un + 16 < cLine)
    (ret : ∀ t h' tk', Fr h₀ L h' m → News h₀ L h' news → Q (.str (rvT (first (rv x))) t) { s with heap := h', toks := tk' }) :
    wpAny (model PySem.Challenge.rw_iu0021_01.row.prog w) (ktrTop dp un gd cn cs L a ccd cl outer) (call (.ref 666) [.str x tx]) Q E s := by
  revert X; k_fill; intro X
  refine wpAny_call ?_
  k_dflt ktr_enter
  rename Frag.In _ _ => Xg
  obtain ⟨vh, yh, hh1, hh2, hh3⟩ := held_at Xg
  obtain ⟨vc, yc, hc1, hc2, hc3⟩ := case_at Xg
  have hh1' : LsAt _ news 614 vh := .inl hh1
  have hc1' : LsAt _ news 613 vc := .inl hc1
  k_steps
  · refine (?_ : Q _ _)
    rename (_ != x) = true => hb
    rw [hh3] at hb
    have e : first (rv x) = rv x := if_pos ((cut_told hb).mpr rfl)
    have hr := ret
    rw [e, rvT_rv] at hr
    exact hr _ _ _ (by assumption) (by assumption)
  · refine (?_ : Q _ _)
    rename (_ != x) = false => hb
    rw [hh3] at hb
    have e : first (rv x) = cut caseK (rv x) := if_neg fun e => by simpa using (cut_told hb).mp e
    rw [hc3, ← e]
    exact ret _ _ _ (by assumption) (by assumption)
end
section
set_option maxRecDepth 100000 in
set_option maxHeartbeats 8000000 in
theorem rest_call {w : World} {mean : ExcName → Option Value} {mg mb : Str → Option Value} {dp un : Nat} {gd : Option (List Code)} {cn : Str} {cs : Scope} {a : Addr} {ccd : Value} {cl : List (Str × Addr)} {outer : List Env} {A₀ : Around} {base h₀ : Heap} {L : Addr} {m : Str → Option Value} {s : Shared} {Q E : Value → Shared → Prop} {news : List (Addr × Obj)} {x : Str} {tx : Tok} {l : Addr} {vs : List Value} {ys : List Str}
    (B : Below A₀ base outer h₀) (F : Fr h₀ L s.heap m) (X : (heap_39 w.params).In h₀) (N : News h₀ L s.heap news) (T : Top viewQ (looseW viewQ looseN) mean mg mb h₀) (hk : cs.kind = .function)
    (hl : LsAt h₀ news l vs) (hi : StrsAre vs ys)
    (hx : x.length ≤ 1000) (hdp : dp + 2 < recursionLimit) (hun : un + 16 < cLine)
    (ret : ∀ t h' tk', Fr h₀ L h' m → News h₀ L h' news → Q (.str (rvT (rest (ys.map rv) lastK (rv x))) t) { s with heap := h', toks := tk' }) :
    wpAny (model PySem.Challenge.rw_iu0021_01.row.prog w) (ktrTop dp un gd cn cs L a ccd cl outer) (call (.ref 673) [.str x tx, .ref l]) Q E s := by
  revert X; k_fill; intro X
  refine wpAny_call ?_
  k_dflt ktr_enter
  rename Frag.In _ _ => Xg
  rename Fr h₀ L _ m => FG
  have hlg := hl.keeps FG
  obtain ⟨vz, yz, hz1, hz2, hz3⟩ := last_at Xg
  have hz1' : LsAt _ news 615 vz := .inl hz1
  k_steps
  refine stop_go ?_
  rename IsRange _ _ _ _ _ _ _ _ => hR
  rename Fr _ _ _ _ => Fz
  rename News _ _ _ _ => Nz
  refine kst_range (σ := Str × Tok) (n := x.length) (fun _ => news) (fun c => [(Str.ofString "word", .str c.1 c.2)]) (fun _ => True) [] (fun pre c => c.1 = rvT (turns (ys.map rv) pre.length (rv x))) (x, tx) rfl hR ?sm ?sz Fz Nz trivial ?st (rvT_rv x).symm ?turn ?done
  case sm => exact small_one (by omega) (by omega) (by omega) (by omega)
  case sz =>
    rw [rangeSize_nat]
    omega
  case st =>
    intro p hp
    rw [List.mem_singleton.mp hp]
    rfl
  case done =>
    intro c u h tk hf hp F9 N9
    obtain ⟨x', t'⟩ := c
    dsimp only at hp F9 N9
    have hx' : x'.length ≤ 1000 := by
      rw [hp, rvT_length]
      have := turns_len (ys.map rv) (rangeKs 0 x.length).length (rv x)
      rw [rv_length] at this
      omega
    k_steps
    · refine (?_ : Q _ _)
      rename (_ != x') = true => hb
      rw [rest_cut (rangeKs_length _ _) hp hb, hz3]
      exact ret _ _ _ (by assumption) (by assumption)
    · refine (?_ : Q _ _)
      rename (_ != x') = false => hb
      rw [rest_keep (rangeKs_length _ _) hp hb, hz3]
      exact ret _ _ _ (by assumption) (by assumption)
  case turn =>
    intro c pre k t u h tk own hk hlt hown hf hp F9 N9
    obtain ⟨x', t'⟩ := c
    dsimp only at hp F9 N9
    have hx' : x'.length ≤ 1000 := by
      rw [hp, rvT_length]
      have := turns_len (ys.map rv) pre.length (rv x)
      rw [rv_length] at this
      omega
    k_steps
    refine kst_end (rvT (cut (ys.map rv) (rv x')), _) (by k_asm) (by k_asm) (fun _ h => List.mem_append_left _ h) (fun _ h => List.mem_append_right _ h) rfl trivial (by intro p hp; rw [List.mem_singleton.mp hp]; rfl) ?_ ?_
    · intro z h1 h2 _
      have h3 : z ≠ Str.ofString "word" := h2 _ (List.mem_singleton.mpr rfl)
      exact (if_neg h3).trans ((if_neg h1).trans (if_neg h3))
    · show rvT (cut (ys.map rv) (rv x')) = rvT (turns (ys.map rv) (pre ++ [k]).length (rv x))
      rw [List.length_append, List.length_singleton, turns_snoc, hp, rv_rvT]
end

end
section
open PySem PySem.W PyProof PyProof.Rows PySem.Calls
section
variable {M : Model} {A : Around} {E : Value → Shared → Prop} {s : Shared}
/-- a new exception is noted by its own frame, other frames below -/
theorem noted_first {base : Heap} {env : Env} {outer : List Env} {L e : Addr} {oe : Obj} {vs : Array Value} {a0 : Value} {Q : Unit → Shared → Prop}
    (hfr : A.frames = some (env :: outer)) (hl : s.heap.FunFrames base (env :: outer)) (hf : env.frame = some L)
    (he : s.heap.get? e = some oe) (hkb : base.StaysIn s.heap) (hen : base.get? e = none) (hd : oe.data = .fields vs) (h1 : vs[1]? = some .none) (h0 : vs[0]? = some a0)
    (h : ∀ h', Heap.NotedW base (env :: outer) e oe.cls a0 (rawInt L) s.heap h' → Q () { s with heap := h' }) : wpAny M A (noteFrame (.ref e) env) Q E s := by
  unfold noteFrame
  simp only [hf]
  refine wpAny_bind (wpAny_field he hd h1 ?_)
  rw [if_neg (by decide)]
  exact wpAny_entryW hfr hl hf he hkb hen hd (Array.getElem?_eq_some_iff.mp h1).1 h0 h
end
section
variable {prog : Program} {w : World} {A₀ : Around} {E : Value → Shared → Prop} {s' : Shared} {base g g₀ h : Heap} {outer : List Env} {L a e : Addr} {m : PySem.Str → Option Value} {name : PySem.Str} {scope : Scope} {cd cls : Value} {vs : List Value} {news : List (Addr × Obj)}
theorem here_raised (K : Below A₀ base outer g) (hx : Heap.MadeExcOf h s'.heap e cls vs) (F : Fr g L h m) (N : News g L h news) (hk : scope.kind = .function) {Q : Unit → Shared → Prop}
    (hQ : ∀ h' G t, Fr g L G m → RaisedS base G (envOf name scope L a cd :: outer) e cls t vs news h' → G.UpToSlots h' → Q () { s' with heap := h' }) :
    wpAny (model prog w) (A₀.deeper (envOf name scope L a cd)) (noteFrame (.ref e) (envOf name scope L a cd)) (fun _ s₂ => wpAny (model prog w) (A₀.deeper (envOf name scope L a cd)) (setFlight (.ref e) none) Q E s₂) E s' := by
  have K' := K.push (name := name) (a := a) (cd := cd) F hk
  have hin : ∀ env ∈ (envOf name scope L a cd :: outer), ∀ b, env.frame = some b → b ∈ (envOf name scope L a cd :: outer).filterMap (·.frame) := fun env he b hb => List.mem_filterMap.mpr ⟨env, he, hb⟩
  have memF : ∀ b, b ∈ (envOf name scope L a cd :: outer).filterMap (·.frame) → b = L ∨ ∃ o, g.get? b = some o := fun b hm => by
    rcases kts_mem hm with z | z
    · exact .inl z
    · obtain ⟨_, o, ho, _⟩ := K.frames.mem z
      exact .inr ⟨o, ho⟩
  have st : base.StaysIn (hideAll h ((envOf name scope L a cd :: outer).filterMap (·.frame))) := fun b o q => hideAll_get _ (K'.stays b o q) fun hm => by
    rw [(K'.frames.mem hm).1] at q; cases q
  have nN : ∀ q ∈ news, q.1 ∉ (envOf name scope L a cd :: outer).filterMap (·.frame) := fun q hq hm => by
    rcases memF _ hm with z | ⟨o, ho⟩
    · exact (N q hq).2.1 z
    · rw [(N q hq).2.2] at ho; cases ho
  have nm : ∀ b o, g.get? b = some o → b ∉ news.map (·.1) := fun b o q hm => by
    obtain ⟨p, hp, rfl⟩ := List.mem_map.mp hm
    rw [(N p hp).2.2] at q; cases q
  have nL : L ∉ news.map (·.1) := fun hm => by
    obtain ⟨p, hp, q⟩ := List.mem_map.mp hm
    exact (N p hp).2.1 q
  have FG : Fr g L (hideAll h (news.map (·.1))) m := by
    obtain ⟨oL, es, ep, hL, hr⟩ := F.ns
    exact ⟨⟨oL, es, ep, hideAll_get _ hL nL, hr⟩, fun b o q => hideAll_get _ (F.keep b o q) (nm b o q), F.above⟩
  obtain ⟨t, he, htn, ht⟩ := hx.there
  have fresh : ∀ b, h.get? b = none → (hideAll h ((envOf name scope L a cd :: outer).filterMap (·.frame))).get? b = none := fun b hb => by
    cases hq : (hideAll h ((envOf name scope L a cd :: outer).filterMap (·.frame))).get? b with
    | none => rfl
    | some o' => rw [of_hideAll _ hq] at hb; cases hb
  refine noted_first (base := hideAll h ((envOf name scope L a cd :: outer).filterMap (·.frame))) (a0 := .ref t) (Around.frames_deeper K.stack)
    ((funFrames_hide K'.frames hin).of_keeps fun b o hb _ => ⟨o, hx.keeps b o hb, rfl⟩) rfl he (fun b o q => hx.keeps b o (of_hideAll _ q)) (fresh e hx.new) rfl rfl rfl fun h₁ n₁ => ?_
  obtain ⟨k1, k2, k3, k4⟩ := n₁
  refine wpAny_landsW (base := hideAll h ((envOf name scope L a cd :: outer).filterMap (·.frame))) (l := envOf name scope L a cd :: outer) (L := L) ⟨k1, fresh e hx.new, k2, k3⟩ fun h₂ f₂ u₂ => ?_
  have up : s'.heap.UpToSlots h₂ := Heap.UpToSlots.trans k4 u₂
  have tup : h₂.TupAt t vs := Heap.TupAt.of_slots ⟨_, _, ht, rfl, rfl⟩ up
  exact hQ h₂ (hideAll h (news.map (·.1))) t FG ⟨⟨_, st, fun b o q nb => hideAll_get _ (of_hideAll _ q) nb, fun q hq => ⟨hideAll_get _ (N q hq).1 (nN q hq), hideAll_none _ (List.mem_map_of_mem hq), fresh_of_stays K.stays (N q hq).2.2⟩, f₂, fresh t htn⟩, tup⟩
    fun b o q hn => up b o (hx.keeps b o (of_hideAll _ q)) hn
end
section
variable {prog : Program} {w : World} {A₀ : Around} {E : Value → Shared → Prop} {s' : Shared} {base g g₀ h : Heap} {outer : List Env} {L a e : Addr} {m : PySem.Str → Option Value} {name : PySem.Str} {scope : Scope} {cd cls c : Value} {vs : List Value} {news : List (Addr × Obj)}
  {KF : Frag} {p : Program} {loose : List PySem.Str} {mean : ExcName → Option Value} {mg mb : PySem.Str → Option Value} {x : PySem.Str} {np : Pos} {b₀ : Stmt} {suite : List Stmt} {pos : Pos} {rest : List ExceptHandler} {Q : Flow → Shared → Prop}
theorem caught_own (K : Below A₀ base outer g) (hx : Heap.MadeExcOf h s'.heap e cls vs) (F : Fr g L h m) (N : News g L h news) (XB : KF.In base) (TB : Top p loose mean mg mb base)
    (D : KtsDicts (outer.filterMap (·.frame)) g) (T0 : KtsTurn (outer.filterMap (·.frame)) g₀ g) (hc : KtsName KF x c) (he : exmOne KF cls c = some true)
    (k : ∀ h' g', KtsTurn (outer.filterMap (·.frame)) g₀ g' → Fr g' L h' m → News g' L h' news → Below A₀ base outer g' → KF.In g' → Top p loose mean mg mb g' → KtsDicts (outer.filterMap (·.frame)) g' →
      wpAny (model prog w) ((A₀.deeper (envOf name scope L a cd)).mark (some (.ref e))) (execs (b₀ :: suite) (envOf name scope L a cd)) Q E { s' with heap := h' })
    (hk : scope.kind = .function := by rfl) (hxk : (envOf name scope L a cd).kindOf x = some .globalImplicit := by rfl) (hd : (x == ("__debug__" : PySem.Str)) = false := by decide)
    (hE : PassesOwnAt (model prog w) ((A₀.deeper (envOf name scope L a cd)).mark (some (.ref e))) (A₀.deeper (envOf name scope L a cd)) (envOf name scope L a cd) E := by passes_own) :
    wpAny (model prog w) (A₀.deeper (envOf name scope L a cd)) (noteFrame (.ref e) (envOf name scope L a cd))
      (fun _ s₂ => wpAny (model prog w) (A₀.deeper (envOf name scope L a cd)) (setFlight (.ref e) none) (fun _ s₃ =>
        wpAny (model prog w) (A₀.deeper (envOf name scope L a cd)) (handleBy (.ref e) (envOf name scope L a cd) (.ExceptHandler (some (.Name x np)) none (b₀ :: suite) pos :: rest)) Q E s₃) E s₂) E s' := by
  refine here_raised K hx F N hk fun h₁ G t FG R U => ?_
  exact hit_S0 R FG K U XB TB D T0 (test_name hc he hk hxk hd) (fun h' g' _ t' f' _ _ n' k' x' p' d' => k h' g' t' f' n' k' x' p' d') hE
end
section
variable {prog : Program} {w : World} {A₀ A : Around} {s : Shared} {base h₀ : Heap} {env : Env} {outer : List Env} {L : Addr} {m : PySem.Str → Option Value} {news : List (Addr × Obj)} {K : Frag} {p : Program} {loose : List PySem.Str} {mean : ExcName → Option Value} {mg mb : PySem.Str → Option Value}
    {R : Result → Shared → Prop} {name qual : PySem.Str} {params : Arguments} {body : List Stmt} {scope : Scope} {dV kV doc pm cdv ct oc : Value} {an od : Option Addr} {osl : Array (Option Value)} {f : Addr} {args : Args} {binds : List (PySem.Str × Value)}
theorem inFrames (hf : env.frame = some L) (b : Addr) (hb : b ∈ (env :: outer).filterMap (·.frame)) : b = L ∨ b ∈ outer.filterMap (·.frame) := by
  rw [List.filterMap_cons, hf] at hb
  exact List.mem_cons.mp hb
theorem leave_turned {G : Heap} {v : Value} {s' : Shared} (hf : env.frame = some L) (B : Below A₀ base outer h₀) (F : Fr h₀ L s.heap m) (FG : Fr h₀ L G m) (st : h₀.StaysIn G) (XB : K.In base) (TB : Top p loose mean mg mb base) (D : KtsDicts (outer.filterMap (·.frame)) h₀)
    (hl : LeaveS ((env :: outer).filterMap (·.frame)) A₀ base outer K p loose mean mg mb h₀ h₀ L m G R v s') : R (.ok (.ret v)) s' := by
  have noL : h₀.get? L = none := kts_self F
  obtain ⟨oL, es, ep, hL, hd, hr⟩ := FG.ns
  have hLns : ∀ (H : Heap) sl, H.get? L = some { oL with slots := sl } → H.Ns L m := fun H sl hH => ⟨_, es, ep, hH, hd, hr⟩
  rcases hl with ⟨L', m', news', F', N', k⟩ | ⟨g', L', m', news', T', F', N', k⟩
  · refine k ⟨hLns _ oL.slots (F'.keep _ _ hL), fun b o e => F'.keep b o (st b o e), F.above⟩ fun q hq => ⟨(N' q hq).1, fun z => ?_, kts_none st (N' q hq).2.2⟩
    have e := (N' q hq).2.2
    rw [z, hL] at e
    cases e
  · obtain ⟨sl, hs⟩ := T'.up hL
    obtain ⟨T₁, S₁⟩ := kts_turn_at (h := s'.heap) (fs := outer.filterMap (·.frame)) (g := h₀)
      (fun b hb => (B.frames.mem hb).2.elim fun o ho' => ⟨o, ho'.1⟩)
      (fun b o e nb => F'.keep b o (T'.other b o (st b o e) fun hb => by
        rcases inFrames hf b hb with rfl | hb
        · rw [noL] at e; cases e
        · exact nb hb))
      (fun b o e _ => (T'.up (st b o e)).elim fun sl' hs' => ⟨sl', F'.keep _ _ hs'⟩)
    have B₁ : Below A₀ base outer (ktsHeap s'.heap (outer.filterMap (·.frame)) h₀) :=
      ⟨B.stack, fun b o e => T₁.other b o (B.stays b o e) fun hb => (by rw [(B.frames.mem hb).1] at e; cases e), B.frames.of_keeps fun b o e _ => (T₁.up e).elim fun sl' hs' => ⟨_, hs', rfl⟩⟩
    refine k _ T₁ ⟨hLns _ sl (F'.keep _ _ hs), S₁, by rw [T₁.size]; exact F.above⟩ (fun q hq => ⟨(N' q hq).1, fun z => ?_, T₁.none_ _ ?_⟩) B₁ (XB.keeps B₁.stays) (TB.keeps B₁.stays) (D.turn T₁)
    · have e := (N' q hq).2.2
      rw [z, hs] at e
      cases e
    · cases e : h₀.get? q.1 with
      | none => rfl
      | some o =>
        obtain ⟨sl', hs'⟩ := T'.up (st _ _ e)
        have e2 := (N' q hq).2.2
        rw [hs'] at e2
        cases e2
/-- a def is called from any frame; what it raises and catches turns the frames' slots alone -/
theorem call_turned (B : Below A₀ base outer h₀) (F : Fr h₀ L s.heap m) (X : K.In h₀) (N : News h₀ L s.heap news) (T : Top p loose mean mg mb h₀) (XB : K.In base) (TB : Top p loose mean mg mb base) (D : KtsDicts (outer.filterMap (·.frame)) h₀)
    (hA : A.frames = some (env :: outer)) (hf : env.frame = some L) (hke : env.scope.kind = .function)
    (ho : K.lookup f = some ⟨oc, od, .func (fnOf name qual params body scope dV kV doc pm an cdv ct), osl⟩) (hcd : codeIn K cdv qual = true) (hroom : A.depth < recursionLimit)
    (hbind : BindsTo s (fnOf name qual params body scope dV kV doc pm an cdv ct) args binds) (hloc : ∀ y ∈ binds, scope.names.lookup y.1 = some .local)
    (h : ∀ g L' h₁, Fr h₀ L g m → Fr g L' h₁ (fun y => binds.reverse.lookup y) → News g L' h₁ news → Below A base (env :: outer) g → K.In g → Top p loose mean mg mb g → KtsDicts ((env :: outer).filterMap (·.frame)) g →
      wpAny (model prog w) (A.deeper (envOf qual scope L' f cdv)) (execs body (envOf qual scope L' f cdv))
        (fun fl s' => LeaveS ((env :: outer).filterMap (·.frame)) A₀ base outer K p loose mean mg mb h₀ h₀ L m g R (match fl with | .ret v => v | _ => .none) s')
        (fun e s' => wpAny (model prog w) (A.deeper (envOf qual scope L' f cdv)) (leaving (envOf qual scope L' f cdv) e) (fun _ s'' => R (.error e) s'') (fun e' s'' => R (.error e') s'') s')
        { s with heap := h₁, toks := s.toks + binds.length })
    (hco : scope.isCoroutine = false) (hgen : scope.isGenerator = false) (hk : scope.kind = .function) (hcell : ∀ x ∈ scope.names, x.2 ≠ .cell) : codeAny (model prog w) A (.call (.ref f) args) R s := by
  obtain ⟨FG, BG, st, _⟩ := groundX (R := R) B F N hA hf hke
  have DG : KtsDicts ((env :: outer).filterMap (·.frame)) (hideAll s.heap (news.map (·.1))) := fun b hb => by
    rcases inFrames hf b hb with rfl | hb
    · obtain ⟨oL, es, ep, hL, hd, _⟩ := FG.ns
      exact ⟨oL, es, ep, hL, hd⟩
    · obtain ⟨o, es, n, h1, h2⟩ := D b hb
      exact ⟨o, es, n, st b o h1, h2⟩
  refine codeAny_call_def (fd := fnOf name qual params body scope dV kV doc pm an cdv ct) (body := body) (binds := binds) hroom ((X.keeps F.keep) _ _ ho) rfl (T.nolimit.keeps F.keep) (codeRec_of (X.keeps F.keep) hcd) rfl hbind hcell hloc (fun h₁ hns hk₁ => ?_) hco hgen hk
  exact wpAny_mono (h _ s.heap.objs.size h₁ FG ⟨hns, fun b o e => hk₁ b o (of_hideAll _ e), Nat.le_of_eq (hideAll_size _ _)⟩
    (fun q hq => ⟨hk₁ _ _ (N q hq).1, Nat.ne_of_lt (Heap.lt_size (N q hq).1), hideAll_none _ (List.mem_map_of_mem hq)⟩) BG (X.keeps st) (T.keeps st) DG) (fun fl s' hl => leave_turned hf B F FG st XB TB D hl) fun _ _ y => y
end
/-! a while whose turns may turn the frames below -/
noncomputable def WT {σ : Type} (s : Shared) (L : Addr) (T : Heap → Prop) (Led : σ → List (Addr × Obj)) (stored : List PySem.Str) (m₀ : PySem.Str → Option Value) (P : σ → Prop) (μ : σ → Nat) (Q : Flow → Shared → Prop) (c : σ) (f : Flow) (s₂ : Shared) : Prop :=
  match f with
  | .ret v => Q (.ret v) s₂
  | .brk => Q .next s₂
  | _ => ∃ (c' : σ) (g' h : Heap) (tk : Nat) (u : PySem.Str → Option Value), s₂ = { s with heap := h, toks := tk } ∧ P c' ∧ μ c' < μ c ∧ T g' ∧ Fr g' L h (fun z => if stored.contains z then u z else m₀ z) ∧ News g' L h (Led c')
theorem WT.again {σ : Type} {s : Shared} {L : Addr} {T : Heap → Prop} {Led : σ → List (Addr × Obj)} {stored : List PySem.Str} {m₀ m' : PySem.Str → Option Value} {P : σ → Prop} {μ : σ → Nat} {Q : Flow → Shared → Prop} {c : σ} {h g' : Heap} {tk : Nat} {news' : List (Addr × Obj)} {f : Flow} (hf : f = .next ∨ f = .cont) (c' : σ)
    (F : Fr g' L h m') (N : News g' L h news') (hn : ∀ p ∈ Led c', p ∈ news') (hr : ∀ z, stored.contains z = false → m' z = m₀ z) (hp : P c') (hm : μ c' < μ c) (t : T g') : WT s L T Led stored m₀ P μ Q c f { s with heap := h, toks := tk } := by
  have e : (fun z => if stored.contains z then m' z else m₀ z) = m' := by
    funext z
    cases hz : stored.contains z with
    | true => simp
    | false => simp [hr z hz]
  have h9 : ∃ (c' : σ) (g' h' : Heap) (tk' : Nat) (u : PySem.Str → Option Value), ({ s with heap := h, toks := tk } : Shared) = { s with heap := h', toks := tk' } ∧ P c' ∧ μ c' < μ c ∧ T g' ∧ Fr g' L h' (fun z => if stored.contains z then u z else m₀ z) ∧ News g' L h' (Led c') :=
    ⟨c', g', h, tk, m', rfl, hp, hm, t, by rw [e]; exact F, fun p hp => N p (hn p hp)⟩
  rcases hf with rfl | rfl <;> exact h9
theorem while_turned {σ : Type} {prog : Program} {w : World} {A : Around} {E : Value → Shared → Prop} {s : Shared} {env : Env} {test : PySem.Expr} {body : List Stmt} {pos : Pos} {Q : Flow → Shared → Prop} {g : Heap} {L : Addr} {m₀ : PySem.Str → Option Value}
    (T : Heap → Prop) (Led : σ → List (Addr × Obj)) (stored : List PySem.Str) (P : σ → Prop) (μ : σ → Nat) (c₀ : σ) (F : Fr g L s.heap m₀) (N : News g L s.heap (Led c₀)) (hp : P c₀) (t : T g)
    (turn : ∀ (c : σ) (u : PySem.Str → Option Value) g' h tk, P c → T g' → Fr g' L h (fun z => if stored.contains z then u z else m₀ z) → News g' L h (Led c) →
      wpAny (model prog w) A (isTrue test env (eval test env)) (fun b s₂ => if b = true then wpAny (model prog w) A (execs body env) (WT s L T Led stored m₀ P μ Q c) E s₂ else Q .next s₂) E { s with heap := h, toks := tk })
    (hE : PassesOwn (model prog w) A env E) : wpAny (model prog w) A (exec (.While test body [] pos) env) Q E s := by
  refine wpAny_While (codeAny_whileLoop (fun n s' => ∃ (c : σ) (g' h : Heap) (tk : Nat) (u : PySem.Str → Option Value), s' = { s with heap := h, toks := tk } ∧ P c ∧ μ c = n ∧ T g' ∧ Fr g' L h (fun z => if stored.contains z then u z else m₀ z) ∧ News g' L h (Led c)) ?_ (μ c₀)
    ⟨c₀, g, s.heap, s.toks, m₀, rfl, hp, rfl, t, by simpa using F, N⟩)
  rintro n s' ⟨c, g', h, tk, u, rfl, hp', rfl, t', F', N'⟩
  refine wpAny_mono (turn c u g' h tk hp' t' F' N') (fun b s₂ h₂ => ?_) hE
  cases b with
  | false =>
    simp only [Bool.false_eq_true, if_false] at h₂ ⊢
    exact wpAny_execs_nil h₂
  | true =>
    simp only [if_true] at h₂ ⊢
    refine wpAny_mono h₂ (fun f s₃ h₃ => ?_) hE
    cases f with
    | next =>
      obtain ⟨c', g9, h9, tk9, u9, e9, p9, l9, t9, f9, n9⟩ := h₃
      exact ⟨_, l9, c', g9, h9, tk9, u9, e9, p9, rfl, t9, f9, n9⟩
    | cont =>
      obtain ⟨c', g9, h9, tk9, u9, e9, p9, l9, t9, f9, n9⟩ := h₃
      exact ⟨_, l9, c', g9, h9, tk9, u9, e9, p9, rfl, t9, f9, n9⟩
    | brk => exact h₃
    | ret v => exact h₃
theorem lab0_name {w : World} : KtsName (heap_39 w.params) (Str.ofString "lab0") (.ref 608) := .inl (by kernel_rfl)
theorem lab0_self {w : World} : exmOne (heap_39 w.params) (.ref 608) (.ref 608) = some true := by kernel_rfl

end
section
open PySem PySem.W PyProof PyProof.Rows
section
variable {prog : Program} {w : World} {A : Around} {E : Value → Shared → Prop} {s : Shared} {env : Env} {h₀ : Heap} {target : PySem.Expr} {body : List Stmt} {Q : Flow → Shared → Prop}
/-- what a turn of a loop over a list hands on; the ledger may grow -/
noncomputable def FvPost {σ : Type} (h₀ : Heap) (L : Addr) (Led : σ → List (Addr × Obj)) (ps : σ → List (PySem.Str × Value)) (stored : List PySem.Str) (m₀ : PySem.Str → Option Value) (P : Nat → σ → Prop) (i : Nat) (own : List (Addr × Obj)) (s : Shared) (Q : Flow → Shared → Prop) (f : Flow) (s₂ : Shared) : Prop :=
  match f with
  | .ret v => Q (.ret v) s₂
  | .brk => Q .next s₂
  | _ => ∃ (c : σ) (h : Heap) (tk : Nat) (m : PySem.Str → Option Value), s₂ = { s with heap := h, toks := tk } ∧ Fr h₀ L h m ∧ News h₀ L h (Led c ++ own) ∧ OwnOff own ((Led c).map (·.1)) ∧ (∀ p ∈ ps c, m p.1 = some p.2) ∧ (∀ z, (∀ p ∈ ps c, z ≠ p.1) → stored.contains z = false → m z = m₀ z) ∧ P i c
theorem FvPost.go {σ : Type} {h₀ : Heap} {L : Addr} {Led : σ → List (Addr × Obj)} {ps : σ → List (PySem.Str × Value)} {stored : List PySem.Str} {m₀ m : PySem.Str → Option Value} {P : Nat → σ → Prop} {i : Nat} {own news : List (Addr × Obj)} {s : Shared} {Q : Flow → Shared → Prop} {f : Flow} {h : Heap} {tk : Nat} (hf : f = .next ∨ f = .cont) (c : σ)
    (F : Fr h₀ L h m) (N : News h₀ L h news) (hn : ∀ p ∈ Led c ++ own, p ∈ news) (ho : OwnOff own ((Led c).map (·.1))) (hk : ∀ p ∈ ps c, m p.1 = some p.2) (hr : ∀ z, (∀ p ∈ ps c, z ≠ p.1) → stored.contains z = false → m z = m₀ z) (hp : P i c) :
    FvPost h₀ L Led ps stored m₀ P i own s Q f { s with heap := h, toks := tk } := by
  have e : ∃ (c : σ) (h' : Heap) (tk' : Nat) (m : PySem.Str → Option Value), ({ s with heap := h, toks := tk } : Shared) = { s with heap := h', toks := tk' } ∧ Fr h₀ L h' m ∧ News h₀ L h' (Led c ++ own) ∧ OwnOff own ((Led c).map (·.1)) ∧ (∀ p ∈ ps c, m p.1 = some p.2) ∧ (∀ z, (∀ p ∈ ps c, z ≠ p.1) → stored.contains z = false → m z = m₀ z) ∧ P i c :=
    ⟨c, h, tk, m, rfl, F, fun p hp => N p (hn p hp), ho, hk, hr, hp⟩
  rcases hf with rfl | rfl <;> exact e
theorem kstB_all {ps : List (PySem.Str × Value)} {stored : List PySem.Str} {m₀ m : PySem.Str → Option Value} (h1 : ∀ p ∈ ps, m p.1 = some p.2) (h2 : ∀ z, (∀ p ∈ ps, z ≠ p.1) → stored.contains z = false → m z = m₀ z) :
    kstB (fun z => if stored.contains z then m z else m₀ z) ps = m := by
  funext z
  refine kstB_eq h1 fun hn => ?_
  show (if stored.contains z = true then m z else m₀ z) = m z
  cases h3 : stored.contains z with
  | true => simp
  | false => simp only [Bool.false_eq_true, if_false]; exact (h2 z hn h3).symm
theorem for_vals {σ : Type} {l : Addr} {vs : List Value} {m₀ : PySem.Str → Option Value} (Led : σ → List (Addr × Obj)) (ps : σ → List (PySem.Str × Value)) (stored : List PySem.Str) (P : Nat → σ → Prop) (c₀ : σ)
    (hh : A.handled = none) (hl : h₀.IsList l vs.toArray ∨ ∃ n, ∀ c : σ, (l, PySem.W.listOf vs.toArray n) ∈ Led c) (F : Fr h₀ env.locals s.heap m₀) (N : News h₀ env.locals s.heap (Led c₀)) (hk : ∀ p ∈ ps c₀, m₀ p.1 = some p.2) (hp : P 0 c₀)
    (turn : ∀ (c : σ) i v (u : PySem.Str → Option Value) h tk own, vs[i]? = some v → OwnOff own ((Led c).map (·.1)) → P i c →
      Fr h₀ env.locals h (kstB (fun z => if stored.contains z then u z else m₀ z) (ps c)) → News h₀ env.locals h (Led c ++ own) →
      wpAny (model prog w) A (assign target env v) (fun _ s₃ => wpAny (model prog w) A (execs body env) (FvPost h₀ env.locals Led ps stored m₀ P (i + 1) own s Q) E s₃) E { s with heap := h, toks := tk })
    (done : ∀ (c : σ) (u : PySem.Str → Option Value) h tk, P vs.length c → Fr h₀ env.locals h (kstB (fun z => if stored.contains z then u z else m₀ z) (ps c)) → News h₀ env.locals h (Led c) → Q .next { s with heap := h, toks := tk }) :
    wpAny (model prog w) A (pyIter (.ref l)) (fun it s₂ => TurnsAt prog w A h₀ env target body Q E it s₂) E s := by
  have hls : s.heap.IsList l vs.toArray := by
    rcases hl with hl | ⟨n, hl⟩
    · exact hl.at fun o e => F.keep l o e
    · exact ⟨_, (N _ (hl c₀)).1, rfl, n, rfl⟩
  obtain ⟨ol, hol, _⟩ := id hls
  have hlt : l < s.heap.objs.size := Heap.lt_size hol
  have hne : l ≠ s.heap.objs.size := Nat.ne_of_lt hlt
  have hlL : env.locals ≠ l := by
    intro e
    rcases hl with hl | ⟨n, hl⟩
    · obtain ⟨o, ho, _⟩ := hl
      exact absurd (Heap.lt_size ho) (Nat.not_lt.mpr (e ▸ F.above))
    · exact (N _ (hl c₀)).2.1 e.symm
  refine wpAny_pyIter_list hls ?_
  have hlen : vs.toArray.size = vs.length := by simp
  let J : Nat → (PySem.Str → Option Value) → List (Addr × Obj) → Prop := fun i m news => ∃ c : σ, news = Led c ∧ (∀ p ∈ ps c, m p.1 = some p.2) ∧ (∀ z, (∀ p ∈ ps c, z ≠ p.1) → stored.contains z = false → m z = m₀ z) ∧ P i c
  refine ⟨s.heap.objs.size, _, _, _, _, _, _, m₀, Led c₀, J, rfl, KTurns.ofWalks (Walks.list (prog := prog) (w := w) hh s.heap.objs.size l hne vs.toArray) (fun i v s Q E st q => letGo_listiter st.1 q), ?_, ?_, ?_, ⟨⟨_, Heap.get?_push_size _ rfl, rfl, rfl⟩, hls.at fun o e => Heap.get?_push_of_some _ e⟩, F.push _, (fun p hp => ⟨Heap.get?_push_of_some _ (N p hp).1, (N p hp).2⟩), ⟨c₀, rfl, hk, fun _ _ _ => rfl, hp⟩, ?_, ?_⟩
  · intro hm
    rcases List.mem_cons.mp hm with e | hm
    · exact absurd F.ns.lt (e ▸ Nat.lt_irrefl _)
    · exact hlL (List.mem_singleton.mp hm)
  · intro b hb
    rw [List.mem_singleton.mp hb]
    exact next_is_new F
  · intro p hp hI
    exact absurd (Heap.lt_size (N p hp).1) ((List.mem_singleton.mp hI) ▸ Nat.lt_irrefl _)
  · rintro i v m₁ news₁ h₁ tk₁ own hin hPi ⟨c, rfl, h1, h2, hp'⟩ hoff hown hget hall hst F₁ N₁
    have hPi' : vs[i]? = some v := by simpa using hPi
    have hoI : ∃ oI, h₁.get? s.heap.objs.size = some oI := by
      obtain ⟨it, hit, _⟩ := hst.1
      exact ⟨it, hit⟩
    obtain ⟨oI, hoI⟩ := hoI
    have hmI : (s.heap.objs.size, oI) ∈ own := hall _ (List.mem_cons_self ..) (next_is_new F) _ hoI
    have hsep : OwnOff (own.filter fun p => decide (p.1 = s.heap.objs.size)) ((Led c).map (·.1)) := by
      intro p hp b hb e
      obtain ⟨q, hq, rfl⟩ := List.mem_map.mp hb
      have h3 : p.1 = s.heap.objs.size := by simpa using (List.mem_filter.mp hp).2
      exact hoff q hq (List.mem_singleton.mpr (e ▸ h3))
    have N₂ : News h₀ env.locals h₁ (Led c ++ own.filter fun p => decide (p.1 = s.heap.objs.size)) := fun p hp => N₁ p ((List.mem_append.mp hp).elim (fun h => List.mem_append.mpr (.inr h)) fun h => List.mem_append.mpr (.inl (List.mem_filter.mp h).1))
    have F₂ : Fr h₀ env.locals h₁ (kstB (fun z => if stored.contains z then m₁ z else m₀ z) (ps c)) := by rw [kstB_all h1 h2]; exact F₁
    have fin : ∀ s₃, (∃ (c : σ) (h : Heap) (tk : Nat) (m : PySem.Str → Option Value), s₃ = { s with heap := h, toks := tk } ∧ Fr h₀ env.locals h m ∧ News h₀ env.locals h (Led c ++ own.filter fun p => decide (p.1 = s.heap.objs.size)) ∧ OwnOff (own.filter fun p => decide (p.1 = s.heap.objs.size)) ((Led c).map (·.1)) ∧ (∀ p ∈ ps c, m p.1 = some p.2) ∧ (∀ z, (∀ p ∈ ps c, z ≠ p.1) → stored.contains z = false → m z = m₀ z) ∧ P (i + 1) c) →
        LoopStepU h₀ env.locals [s.heap.objs.size] own (J (i + 1)) { s with heap := h₁, toks := tk₁ } .next s₃ := by
      rintro s₃ ⟨c', h', tk', m', rfl, F', N', ho', hk', hr', hp9⟩
      refine ⟨rfl, h', tk', m', Led c', rfl, F', fun p hp => ?_, fun p hp hI => ?_, c', rfl, hk', hr', hp9⟩
      · rcases List.mem_append.mp hp with hp | hp
        · by_cases hI : p.1 = s.heap.objs.size
          · exact N' p (List.mem_append_right _ (List.mem_filter.mpr ⟨hp, by simpa using hI⟩))
          · have h3 : p.1 = l := by
              rcases List.mem_cons.mp (hown p hp) with h4 | h4
              · exact absurd h4 hI
              · exact List.mem_singleton.mp h4
            rcases hl with hl | ⟨n, hl⟩
            · obtain ⟨o, ho, _⟩ := hl
              have h4 := (N₁ p (List.mem_append_left _ hp)).2.2
              rw [h3, ho] at h4
              cases h4
            · have h4 : h₁.get? p.1 = some p.2 := hget p hp
              rw [h3, (N₂ _ (List.mem_append_left _ (hl c))).1] at h4
              have h5 : p = (l, PySem.W.listOf vs.toArray n) := Prod.ext h3 (Option.some.inj h4).symm
              rw [h5]
              exact N' _ (List.mem_append_left _ (hl c'))
        · exact N' p (List.mem_append_left _ hp)
      · have h3 := List.mem_singleton.mp hI
        exact ho' (s.heap.objs.size, oI) (List.mem_filter.mpr ⟨hmI, by simp⟩) p.1 (List.mem_map.mpr ⟨p, hp, rfl⟩) h3.symm
    refine wpAny_mono (turn c i v m₁ h₁ tk₁ _ hPi' hsep hp' F₂ N₂) (fun _ s₃ h₃ => wpAny_mono h₃ (fun f s₄ p => ?_) fun _ _ e => e) fun _ _ e => e
    cases f with
    | ret v => exact .ret p
    | brk => exact .brk p
    | next => exact .next (fin _ p)
    | cont => exact .cont (fin _ p)
  · rintro h' tk m' news' F' N' _ ⟨c, rfl, h1, h2, hp'⟩
    rw [hlen] at hp'
    exact done c m' h' tk hp' (by rw [kstB_all h1 h2]; exact F') N'
end
open PyProof.Rows
section
variable {prog : Program} {w : World} {A : Around} {h₀ : Heap} {L : Addr} {m : PySem.Str → Option Value} {env : Env} {elt : PySem.Expr} {x : PySem.Str} {scope : Scope} {cl : List (PySem.Str × Addr)} {s : Shared} {S : List (Addr × Obj) → Prop} {Fin : List Value → List (Addr × Obj) → Prop} {news : List (Addr × Obj)}
/-- an element is there, all else stands -/
noncomputable def ElPost (h₀ : Heap) (L : Addr) (m : PySem.Str → Option Value) (s₁ : Shared) (led : List (Addr × Obj)) (R : Value → Prop) (y : Value) (s₂ : Shared) : Prop :=
  ∃ h' tk, s₂ = { s₁ with heap := h', toks := tk } ∧ Fr h₀ L h' m ∧ News h₀ L h' led ∧ R y
theorem ElPost.intro {s₁ : Shared} {led news' : List (Addr × Obj)} {R : Value → Prop} {y : Value} {h' : Heap} {tk : Nat} (F : Fr h₀ L h' m) (N : News h₀ L h' news') (hs : ∀ p ∈ led, p ∈ news') (r : R y) : ElPost h₀ L m s₁ led R y { s₁ with heap := h', toks := tk } :=
  ⟨h', tk, rfl, F, fun p hp => N p (hs p hp), r⟩
theorem comp_vals {vs : List Value} (Rel : Nat → Value → Prop) (hS : S news)
    (turn : ∀ i v ys I oI C oC D m₂ h tk (E' : Value → Shared → Prop), vs[i]? = some v → LCg.NsObj oC m₂ → m₂ x = some v → Fr h₀ L h m → News h₀ L h ((I, oI) :: (C, oC) :: (D, LCg.lst ys) :: news) → LCg.Off3 I C D news → ((@Ne Nat I C) ∧ (@Ne Nat I D) ∧ (@Ne Nat C D)) →
      wpAny (model prog w) A (eval elt (compEnvC scope cl C env)) (ElPost h₀ L m { s with heap := h, toks := tk } ((I, oI) :: (C, oC) :: (D, LCg.lst ys) :: news) (Rel i)) E' { s with heap := h, toks := tk })
    (fin : ∀ ys : List Value, ys.length = vs.length → (∀ i y, ys[i]? = some y → Rel i y) → Fin ys news) :
    LCg.CompRest prog w A h₀ L m env elt x scope cl s S (fun i v => vs.toArray[i]? = some v) Fin vs.toArray.size 0 [] news := by
  have key : ∀ (j i : Nat) (ys : List Value), i + j = vs.length → ys.length = i → (∀ k y, ys[k]? = some y → Rel k y) → LCg.CompRest prog w A h₀ L m env elt x scope cl s S (fun i v => vs.toArray[i]? = some v) Fin j i ys news := by
    intro j
    induction j with
    | zero =>
      intro i ys hi hy hr
      exact LCg.CompRest.zero (fin ys (by omega) hr)
    | succ j ih =>
      intro i ys hi hy hr
      refine LCg.CompRest.succ ?_
      intro v I oI C oC D m₂ h tk E' hv hC hx F N off ne
      refine wpAny_mono (turn i v ys I oI C oC D m₂ h tk E' (by simpa using hv) hC hx F N off ne) (fun y s₂ hq => ?_) fun _ _ e => e
      obtain ⟨h', tk', rfl, F', N', hr'⟩ := hq
      refine ⟨h', tk', news, rfl, F', N', off, hS, ih (i + 1) _ (by omega) (by simp [hy]) ?_⟩
      intro k y' hk
      by_cases e : k = i
      · subst e
        rw [List.getElem?_append_right (by omega), hy, Nat.sub_self] at hk
        cases hk
        exact hr'
      · have hlt : k < ys.length := by
          have := (List.getElem?_eq_some_iff.mp hk).1
          rw [List.length_append, List.length_singleton] at this
          omega
        rw [List.getElem?_append_left hlt] at hk
        exact hr k y' hk
  have e : vs.toArray.size = vs.length := by simp
  rw [e]
  exact key vs.length 0 [] (by omega) rfl (fun _ _ h => nomatch h)
theorem off1_mem {D : Addr} : ∀ {l : List (Addr × Obj)}, LCg.Off1 D l → ∀ p ∈ l, p.1 ≠ D
  | [], _, _, h => nomatch h
  | _ :: _, x, p, h => by
    rcases List.mem_cons.mp h with rfl | h
    · exact x.1
    · exact off1_mem x.2 p h
/-- texts by their places -/
theorem strs_by {vs : List Value} {zs : List PySem.Str} (hl : vs.length = zs.length) (h : ∀ (i : Nat) y, vs[i]? = some y → ∃ z t, zs[i]? = some z ∧ y = Value.str z t) : StrsAre vs zs := by
  induction vs generalizing zs with
  | nil =>
    cases zs with
    | nil => exact .nil
    | cons z zs => cases hl
  | cons v vs ih =>
    cases zs with
    | nil => cases hl
    | cons z zs =>
      obtain ⟨z', t, e1, e2⟩ := h 0 v rfl
      cases e1
      subst e2
      exact .cons _ t (ih (by simpa using hl) fun i y hy => h (i + 1) y hy)
theorem add_two {prog : Program} {w : World} {A : Around} {E : Value → Shared → Prop} {h₀ : Heap} {L : Addr} {m : PySem.Str → Option Value} {s : Shared} {news : List (Addr × Obj)} {l b : Addr} {vs ws : List Value} {n k : Nat} {Q : Value → Shared → Prop} (F : Fr h₀ L s.heap m) (N : News h₀ L s.heap news) (hl : (l, PySem.W.listOf vs.toArray n) ∈ news) (hb : (b, PySem.W.listOf ws.toArray k) ∈ news) (hsz : vs.length + ws.length ≤ sizeLine)
    (h : ∀ D h' n', Fr h₀ L h' m → News h₀ L h' ((D, PySem.W.listOf (vs ++ ws).toArray n') :: news) → (∀ p ∈ news, p.1 < D) → Q (.ref D) { s with heap := h' }) :
    wpAny (model prog w) A (binaryOp .Add (.ref l) (.ref b)) Q E s :=
  add_arrays F N ⟨_, (N _ hl).1, rfl, n, rfl⟩ ⟨_, (N _ hb).1, rfl, k, rfl⟩ (fun h' F' N' => h _ h' _ F' (by simpa using N') fun p hp => Heap.lt_size (N p hp).1) (by simpa using hsz)
theorem add_base {prog : Program} {w : World} {A : Around} {E : Value → Shared → Prop} {h₀ : Heap} {L : Addr} {m : PySem.Str → Option Value} {s : Shared} {news : List (Addr × Obj)} {l b : Addr} {vs ws : List Value} {k : Nat} {Q : Value → Shared → Prop} (F : Fr h₀ L s.heap m) (N : News h₀ L s.heap news) (hl : h₀.IsList l vs.toArray) (hb : (b, PySem.W.listOf ws.toArray k) ∈ news) (hsz : vs.length + ws.length ≤ sizeLine)
    (h : ∀ D h' n', Fr h₀ L h' m → News h₀ L h' ((D, PySem.W.listOf (vs ++ ws).toArray n') :: news) → (∀ p ∈ news, p.1 < D) → Q (.ref D) { s with heap := h' }) :
    wpAny (model prog w) A (binaryOp .Add (.ref l) (.ref b)) Q E s :=
  add_arrays F N (hl.at fun o e => F.keep _ o e) ⟨_, (N _ hb).1, rfl, k, rfl⟩ (fun h' F' N' => h _ h' _ F' (by simpa using N') fun p hp => Heap.lt_size (N p hp).1) (by simpa using hsz)
end

end
section
open PySem PySem.W PyProof PyProof.Rows PySem.Calls
/-! two lists of the same texts are equal -/
theorem strs_at {vs : List Value} {ys : List PySem.Str} (h : StrsAre vs ys) (j : Nat) (hj : j < vs.length) : ∃ t, vs[j] = Value.str (ys.getD j default) t := by
  obtain ⟨y, t, e, hy⟩ := h.item j vs[j] (List.getElem?_eq_getElem hj)
  exact ⟨t, by rw [e, List.getD_eq_getElem?_getD, hy]; rfl⟩
theorem texts_eq {prog : Program} {w : World} {A : Around} {E : Value → Shared → Prop} {s : Shared} {a b : Addr} {xs ys : List Value} {zs : List PySem.Str} {Q : Value → Shared → Prop} (ha : s.heap.IsList a xs.toArray) (hb : s.heap.IsList b ys.toArray) (hi : StrsAre xs zs) (hj : StrsAre ys zs) (hu : A.units < cLine) (h : Q (.bool true) s) :
    wpAny (model prog w) A (compareOp .Eq (.ref a) (.ref b)) Q E s := by
  have hsz : xs.toArray.size = ys.toArray.size := by simp [hi.length, hj.length]
  refine SeqAt.RcAt.lists (e := fun _ => true) ha hb hsz hu (fun j h1 h2 => ?_) prog w E Q ?_
  · obtain ⟨t, e1⟩ := strs_at hi j (by simpa using h1)
    obtain ⟨u, e2⟩ := strs_at hj j (by simpa using h2)
    have := SeqAt.EqAt.str_str (A := A.in1) (s := s) (zs.getD j default) t (zs.getD j default) u
    rw [beq_self_eq_true] at this
    simpa [e1, e2] using this
  · have e : (List.range xs.toArray.size).all (fun _ => true) = true := List.all_eq_true.mpr fun _ _ => rfl
    rw [e]
    exact h
/-! a def with cells, called from any frame -/
section
variable {prog : Program} {w : World} {A₀ A : Around} {s : Shared} {base h₀ : Heap} {env : Env} {outer : List Env} {L : Addr} {m : PySem.Str → Option Value} {news : List (Addr × Obj)} {K : Frag} {p : Program} {loose : List PySem.Str} {mean : ExcName → Option Value} {mg mb : PySem.Str → Option Value}
    {R : Result → Shared → Prop} {name qual : PySem.Str} {params : Arguments} {body : List Stmt} {scope : Scope} {dV kV doc pm cdv ct oc : Value} {an od : Option Addr} {osl : Array (Option Value)} {f : Addr} {args : Args} {binds : List (PySem.Str × Value)}
theorem call_turnedC (B : Below A₀ base outer h₀) (F : Fr h₀ L s.heap m) (X : K.In h₀) (N : News h₀ L s.heap news) (T : Top p loose mean mg mb h₀) (XB : K.In base) (TB : Top p loose mean mg mb base) (D : KtsDicts (outer.filterMap (·.frame)) h₀)
    (hA : A.frames = some (env :: outer)) (hf : env.frame = some L) (hke : env.scope.kind = .function)
    (ho : K.lookup f = some ⟨oc, od, .func (fnOf name qual params body scope dV kV doc pm an cdv ct), osl⟩) (hcd : codeIn K cdv qual = true) (hroom : A.depth < recursionLimit)
    (hbind : BindsTo s (fnOf name qual params body scope dV kV doc pm an cdv ct) args binds) (hkind : (binds.all fun y => scope.names.lookup y.1 == some .local || scope.names.lookup y.1 == some .cell) = true)
    (hnd : ((cellsFrom 0 scope.names []).map (·.1)).Nodup)
    (h : ∀ g L' h₁ tk cells, Fr h₀ L g m → Fr g L' h₁ (bindL (envOfC qual scope L' f cdv).kindOf binds fun _ => none) → News g L' h₁ (cells ++ news) →
      CellsAre (bindC (envOfC qual scope L' f cdv).kindOf binds fun _ => none) (cellsFrom (L' + 1) scope.names []) cells → Below A base (env :: outer) g → K.In g → Top p loose mean mg mb g → KtsDicts ((env :: outer).filterMap (·.frame)) g →
      wpAny (model prog w) (A.deeper (envOfC qual scope L' f cdv)) (execs body (envOfC qual scope L' f cdv))
        (fun fl s' => LeaveS ((env :: outer).filterMap (·.frame)) A₀ base outer K p loose mean mg mb h₀ h₀ L m g R (match fl with | .ret v => v | _ => .none) s')
        (fun e s' => wpAny (model prog w) (A.deeper (envOfC qual scope L' f cdv)) (leaving (envOfC qual scope L' f cdv) e) (fun _ s'' => R (.error e) s'') (fun e' s'' => R (.error e') s'') s')
        { s with heap := h₁, toks := tk })
    (hco : scope.isCoroutine = false) (hgen : scope.isGenerator = false) (hk : scope.kind = .function) : codeAny (model prog w) A (.call (.ref f) args) R s := by
  obtain ⟨FG, BG, st, _⟩ := groundX (R := R) B F N hA hf hke
  have DG : KtsDicts ((env :: outer).filterMap (·.frame)) (hideAll s.heap (news.map (·.1))) := fun b hb => by
    rcases inFrames hf b hb with rfl | hb
    · obtain ⟨oL, es, ep, hL, hd, _⟩ := FG.ns
      exact ⟨oL, es, ep, hL, hd⟩
    · obtain ⟨o, es, n, h1, h2⟩ := D b hb
      exact ⟨o, es, n, st b o h1, h2⟩
  refine codeAny_call_function (fd := fnOf name qual params body scope dV kV doc pm an cdv ct) hroom ((X.keeps F.keep) _ _ ho) rfl hco hgen rfl (codeRec_of (X.keeps F.keep) hcd) (hbind _ _ _ _ ?_)
  refine wpAny_newFunctionEnv_cells hk (kindsX hkind _) fun env' he s' x => ?_
  subst he
  refine ⟨(T.nolimit.keeps F.keep).keeps x.toInCall.keep, codeAny_func ?_⟩
  obtain ⟨h₁, tk, rfl, _⟩ := x.done
  have hk₁ := x.toInCall.keep
  obtain ⟨cells, NC, Y⟩ := Cl.news (h₀ := s.heap) (Nat.le_refl _) fun n c hm => ⟨x.cell n c (lookup_of_mem_nodup (cellsFrom_names scope.names 0 (s.heap.objs.size + 1) [] [] rfl ▸ hnd) hm), x.above n c hm⟩
  refine wpAny_mono (h _ s.heap.objs.size h₁ tk cells FG ⟨x.toInCall.ns, fun b o e => hk₁ b o (of_hideAll _ e), Nat.le_of_eq (hideAll_size _ _)⟩ (fun q hq => ?_) Y BG (X.keeps st) (T.keeps st) DG) (fun fl s' hl => leave_turned hf B F FG st XB TB D hl) fun _ _ y => y
  rcases List.mem_append.mp hq with hq | hq
  · refine ⟨(NC q hq).1, (NC q hq).2.1, ?_⟩
    cases e : (hideAll s.heap (news.map (·.1))).get? q.1 with
    | none => rfl
    | some o =>
      have := of_hideAll _ e
      rw [(NC q hq).2.2] at this
      cases this
  · exact ⟨hk₁ _ _ (N q hq).1, Nat.ne_of_lt (Heap.lt_size (N q hq).1), hideAll_none _ (List.mem_map_of_mem hq)⟩
end
/-! the frame below, as a part of the ledger -/
section
variable {g g' h : Heap} {L L' : Addr} {m : PySem.Str → Option Value} {o : Obj} {news : List (Addr × Obj)}
theorem low_in (T : KtsTurn [L] g g') (hg : g'.get? L = some o) (F : Fr (hideAll g [L]) L' h m) (N : News (hideAll g [L]) L' h ((L, o) :: news)) (hn : ∀ p ∈ news, p.1 ≠ L) : Fr g' L' h m ∧ News g' L' h news := by
  refine ⟨⟨F.ns, fun b ob e => ?_, ?_⟩, fun p hp => ⟨(N p (List.mem_cons_of_mem _ hp)).1, (N p (List.mem_cons_of_mem _ hp)).2.1, T.none_ _ ?_⟩⟩
  · by_cases hb : b = L
    · subst hb
      rw [hg] at e
      cases e
      exact (N _ (List.mem_cons_self ..)).1
    · refine F.keep b ob (hideAll_get _ ?_ (by simpa using hb))
      cases q : g.get? b with
      | none => rw [T.none_ _ q] at e; cases e
      | some o2 =>
        rw [T.other b o2 q (by simpa using hb)] at e
        exact e
  · rw [T.size, ← hideAll_size [L] g]
    exact F.above
  · cases q : g.get? p.1 with
    | none => rfl
    | some o2 =>
      have h1 := hideAll_get [L] q (by simpa using hn p hp)
      rw [(N p (List.mem_cons_of_mem _ hp)).2.2] at h1
      cases h1
theorem low_out (T : KtsTurn [L] g g') (hg : g'.get? L = some o) (F : Fr g' L' h m) (N : News g' L' h news) : Fr (hideAll g [L]) L' h m ∧ News (hideAll g [L]) L' h ((L, o) :: news) := by
  have none_ : ∀ b, g'.get? b = none → (hideAll g [L]).get? b = none := fun b e => by
    cases q : (hideAll g [L]).get? b with
    | none => rfl
    | some o2 =>
      by_cases hb : b = L
      · subst hb
        rw [hideAll_none [b] (List.mem_singleton.mpr rfl)] at q
        cases q
      · rw [T.other b o2 (of_hideAll _ q) (by simpa using hb)] at e
        cases e
  refine ⟨⟨F.ns, fun b ob e => ?_, ?_⟩, fun p hp => ?_⟩
  · have hb : b ≠ L := fun q => by
      subst q
      rw [hideAll_none [b] (List.mem_singleton.mpr rfl)] at e
      cases e
    exact F.keep b ob (T.other b ob (of_hideAll _ e) (by simpa using hb))
  · rw [hideAll_size, ← T.size]
    exact F.above
  · rcases List.mem_cons.mp hp with rfl | hp
    · refine ⟨F.keep _ _ hg, fun e => ?_, hideAll_none [L] (List.mem_singleton.mpr rfl)⟩
      exact absurd (Nat.lt_of_lt_of_le (Heap.lt_size hg) F.above) (by rw [show L = L' from e]; exact Nat.lt_irrefl _)
    · exact ⟨(N p hp).1, (N p hp).2.1, none_ _ (N p hp).2.2⟩
theorem low_ne (T : KtsTurn [L] g g') (hg : g'.get? L = some o) (N : News g' L' h news) : ∀ p ∈ news, p.1 ≠ L := fun p hp e => by
  have h1 := (N p hp).2.2
  rw [e, hg] at h1
  cases h1
theorem off_ne {I C D : Addr} {l : List (Addr × Obj)} {p : Addr × Obj} (h : LCg.Off3 I C D l) (hp : p ∈ l) : I ≠ p.1 ∧ C ≠ p.1 ∧ D ≠ p.1 :=
  ⟨Ne.symm (h.mem p hp).1, Ne.symm (h.mem p hp).2.1, Ne.symm (h.mem p hp).2.2⟩
theorem off_same {I C D : Addr} {l l' : List (Addr × Obj)} (h : LCg.Off3 I C D l) (e : l'.map (·.1) = l.map (·.1)) : LCg.Off3 I C D l' := LCg.Off3.of fun p hp => by
  have h1 : p.1 ∈ l.map (·.1) := e ▸ List.mem_map_of_mem hp
  obtain ⟨q, hq, e2⟩ := List.mem_map.mp h1
  rw [← e2]
  exact h.mem q hq
end
/-! a comprehension over a list, whose elements may turn the ledger -/
section
variable {prog : Program} {w : World} {A : Around} {h₀ : Heap} {L : Addr} {m : PySem.Str → Option Value} {env : Env} {elt : PySem.Expr} {x : PySem.Str} {scope : Scope} {cl : List (PySem.Str × Addr)} {s : Shared} {S : List (Addr × Obj) → Prop} {Fin : List Value → List (Addr × Obj) → Prop}
noncomputable def ElTurn {σ : Type} (h₀ : Heap) (L : Addr) (m : PySem.Str → Option Value) (s₁ : Shared) (own led₀ : List (Addr × Obj)) (Led : σ → List (Addr × Obj)) (Inv : σ → Prop) (R : Value → Prop) (y : Value) (s₂ : Shared) : Prop :=
  ∃ (c : σ) (h' : Heap) (tk : Nat), s₂ = { s₁ with heap := h', toks := tk } ∧ Fr h₀ L h' m ∧ News h₀ L h' (own ++ Led c) ∧ (Led c).map (·.1) = led₀.map (·.1) ∧ Inv c ∧ R y
theorem ElTurn.intro {σ : Type} {s₁ : Shared} {own led₀ news' : List (Addr × Obj)} {Led : σ → List (Addr × Obj)} {Inv : σ → Prop} {R : Value → Prop} {y : Value} {h' : Heap} {tk : Nat} (c : σ) (F : Fr h₀ L h' m) (N : News h₀ L h' news') (hs : ∀ p ∈ own ++ Led c, p ∈ news') (he : (Led c).map (·.1) = led₀.map (·.1)) (i : Inv c) (r : R y) :
    ElTurn h₀ L m s₁ own led₀ Led Inv R y { s₁ with heap := h', toks := tk } := ⟨c, h', tk, rfl, F, fun p hp => N p (hs p hp), he, i, r⟩
theorem comp_turned {σ : Type} {vs : List Value} (Led : σ → List (Addr × Obj)) (Inv : σ → Prop) (Rel : Nat → Value → Prop) (c₀ : σ) (hS : ∀ c, S (Led c)) (hI : Inv c₀)
    (turn : ∀ c i v ys I oI C oC D m₂ h tk (E' : Value → Shared → Prop), vs[i]? = some v → Inv c → LCg.NsObj oC m₂ → m₂ x = some v → Fr h₀ L h m → News h₀ L h ((I, oI) :: (C, oC) :: (D, LCg.lst ys) :: Led c) → LCg.Off3 I C D (Led c) → ((@Ne Nat I C) ∧ (@Ne Nat I D) ∧ (@Ne Nat C D)) →
      wpAny (model prog w) A (eval elt (compEnvC scope cl C env)) (ElTurn h₀ L m { s with heap := h, toks := tk } [(I, oI), (C, oC), (D, LCg.lst ys)] (Led c) Led Inv (Rel i)) E' { s with heap := h, toks := tk })
    (fin : ∀ c (ys : List Value), ys.length = vs.length → Inv c → (∀ i y, ys[i]? = some y → Rel i y) → Fin ys (Led c)) :
    LCg.CompRest prog w A h₀ L m env elt x scope cl s S (fun i v => vs.toArray[i]? = some v) Fin vs.toArray.size 0 [] (Led c₀) := by
  have key : ∀ (j i : Nat) (ys : List Value) (c : σ), Inv c → i + j = vs.length → ys.length = i → (∀ k y, ys[k]? = some y → Rel k y) → LCg.CompRest prog w A h₀ L m env elt x scope cl s S (fun i v => vs.toArray[i]? = some v) Fin j i ys (Led c) := by
    intro j
    induction j with
    | zero =>
      intro i ys c hc hi hy hr
      exact LCg.CompRest.zero (fin c ys (by omega) hc hr)
    | succ j ih =>
      intro i ys c hc hi hy hr
      refine LCg.CompRest.succ ?_
      intro v I oI C oC D m₂ h tk E' hv hC hx F N off ne
      refine wpAny_mono (turn c i v ys I oI C oC D m₂ h tk E' (by simpa using hv) hc hC hx F N off ne) (fun y s₂ hq => ?_) fun _ _ e => e
      obtain ⟨c', h', tk', rfl, F', N', he, hc', hr'⟩ := hq
      refine ⟨h', tk', Led c', rfl, F', N', off_same off he, hS c', ih (i + 1) _ c' hc' (by omega) (by simp [hy]) ?_⟩
      intro k y' hk
      by_cases e : k = i
      · subst e
        rw [List.getElem?_append_right (by omega), hy, Nat.sub_self] at hk
        cases hk
        exact hr'
      · have hlt : k < ys.length := by
          have := (List.getElem?_eq_some_iff.mp hk).1
          rw [List.length_append, List.length_singleton] at this
          omega
        rw [List.getElem?_append_left hlt] at hk
        exact hr k y' hk
  have e : vs.toArray.size = vs.length := by simp
  rw [e]
  exact key vs.length 0 [] c₀ hI (by omega) rfl (fun _ _ h => nomatch h)
end

end
section
open PySem PySem.W PyProof PyProof.Rows
section
set_option maxRecDepth 100000 in
set_option maxHeartbeats 8000000 in
theorem eqs_call {w : World} {mean : ExcName → Option Value} {mg mb : Str → Option Value} {dp un : Nat} {gd : Option (List Code)} {cn : Str} {cs : Scope} {a : Addr} {ccd : Value} {cl : List (Str × Addr)} {outer : List Env} {A₀ : Around} {base h₀ : Heap} {L : Addr} {m : Str → Option Value} {s : Shared} {Q E : Value → Shared → Prop} {rst : List (Addr × Obj)} {x dx : Addr} {ks : Tk6} {cur : Str} {cu li lb br ke : Int} {t1 t2 t3 t4 t5 t6 : Tok} {y : Str} {ty : Tok}
    (B : Below A₀ base outer h₀) (F : Fr h₀ L s.heap m) (X : (heap_39 w.params).In h₀) (N : News h₀ L s.heap (stN x dx (stD w.params ks cur t1 cu t2 li t3 lb t4 br t5 ke t6) rst)) (T : Top viewQ (looseW viewQ looseN) mean mg mb h₀) (hk : cs.kind = .function)
    (hne : x ≠ dx) (hoff : OwnOff rst [x, dx]) (hx : cur.length ≤ 1000) (hy : y.length ≤ 100) (h0 : 0 ≤ cu) (h1 : cu ≤ cur.length) (hlb : lb = 0) (hdp : dp + 2 < recursionLimit) (hun : un + 16 < cLine)
    (ret : ∀ b cu' t2' h' tk', Fr h₀ L h' m → News h₀ L h' (stN x dx (stD w.params ks cur t1 cu' t2' li t3 lb t4 br t5 ke t6) rst) → (b = true → rv y <+: (rv cur).drop (cur.length - cu.toNat) ∧ cu' = cu - y.length) → (b = false → ¬ rv y <+: (rv cur).drop (cur.length - cu.toNat) ∧ cu' = cu) → Q (.bool b) { s with heap := h', toks := tk' }) :
    wpAny (model PySem.Challenge.rw_iu0021_01.row.prog w) (ktrTop dp un gd cn cs L a ccd cl outer) (call (.ref 126) [.ref x, .str y ty]) Q E s := by
  revert X; k_fill; intro X
  refine wpAny_call ?_
  k_dflt ktr_enter
  subst hlb
  k_steps
  · refine (?_ : Q _ _)
    rename (Txt.endswith _ y = true) => he
    rw [endswith_iff, rv_ahead h0 h1] at he
    exact ret true _ _ _ _ (by assumption) (by assumption) (fun _ => ⟨he, rfl⟩) nofun
  · refine (?_ : Q _ _)
    rename (Txt.endswith _ y = false) => he
    rw [← Bool.not_eq_true, endswith_iff, rv_ahead h0 h1] at he
    exact ret false _ _ _ _ (by assumption) (by assumption) nofun fun _ => ⟨he, rfl⟩
end

end
section
open PySem PySem.W PyProof PyProof.Rows
theorem del_text {x : PySem.Str} {i j : Int} (h0 : 0 ≤ i) (h1 : i ≤ x.length) (h2 : j = x.length) : Txt.slice x (some 0) (some i) ++ PySem.Str.ofString "" ++ Txt.slice x (some j) none = tx ((cs x).take i.toNat) := by
  have e1 : Txt.slice x (some 0) (some i) = tx ((cs x).take i.toNat) := by
    rw [slice_both (by omega) h0 h1]
    simp
  have e2 : Txt.slice x (some j) none = tx [] := by
    rw [slice_from (by omega) (by omega)]
    congr 1
    apply List.drop_eq_nil_of_le
    rw [cs_length]
    omega
  rw [e1, e2]
  show PySem.Str.append (PySem.Str.append (tx _) (PySem.Str.ofString "")) (tx []) = _
  have e3 : PySem.Str.ofString "" = tx [] := by decide +kernel
  rw [e3]
  simp [PySem.Str.append, tx]
section
local macro_rules | `(tactic| walk_at "call ref") => `(tactic| (k_here; refine wpAny_call ?_; k_dflt (refine' code_def ?k1 ?k2 ?k3 ?k4 ?k5 ?kA ?kF ?kK ?k6 ?k7 ?k8 ?k9 ?kB ?_ ?c2 ?c3 ?c4 ?c5; (case kA => exact rfl); (case kF => exact rfl); (case kK => first | exact rfl | assumption); (case k1 => k_asm); (case k2 => k_asm); (case k3 => k_asm); (case k4 => k_asm); (case k5 => k_asm); (case k6 => k_is); (case k7 => k_is); (case k8 => ktr_room); (case k9 => exact BindsTo.of_eq rfl); (case c5 => decide); (case kB => exact locs rfl); (case c2 => exact rfl); (case c3 => exact rfl); (case c4 => exact rfl); k_whole; intro g' L' h' FG' F' N' B' X' T'; (try dsimp only); (try k_fold))))
set_option maxRecDepth 100000 in
set_option maxHeartbeats 8000000 in
theorem del_call {w : World} {mean : ExcName → Option Value} {mg mb : Str → Option Value} {dp un : Nat} {gd : Option (List Code)} {cn : Str} {cs : Scope} {a : Addr} {ccd : Value} {cl : List (Str × Addr)} {outer : List Env} {A₀ : Around} {base h₀ : Heap} {L : Addr} {m : Str → Option Value} {s : Shared} {Q E : Value → Shared → Prop} {rst : List (Addr × Obj)} {x dx : Addr} {ks : Tk6} {cur : Str} {cu li lb br ke : Int} {t1 t2 t3 t4 t5 t6 : Tok}
    (B : Below A₀ base outer h₀) (F : Fr h₀ L s.heap m) (X : (heap_39 w.params).In h₀) (N : News h₀ L s.heap (stN x dx (stD w.params ks cur t1 cu t2 li t3 lb t4 br t5 ke t6) rst)) (T : Top viewQ (looseW viewQ looseN) mean mg mb h₀) (hk : cs.kind = .function)
    (hne : x ≠ dx) (hoff : OwnOff rst [x, dx]) (hx : cur.length ≤ 1000) (h0 : 0 ≤ cu) (h1 : cu ≤ br) (hb : br < ke) (hke : ke = cur.length) (hli : li = cur.length) (hdp : dp + 4 < recursionLimit) (hun : un + 32 < cLine)
    (ret : ∀ t1' li' t3' ke' t5' t6' h' tk', Fr h₀ L h' m → News h₀ L h' (stN x dx (stD w.params ks (tx ((Mine.cs cur).take br.toNat)) t1' cu t2 li' t3' lb t4 br t5' ke' t6') rst) → li' = br → Q .none { s with heap := h', toks := tk' }) :
    wpAny (model PySem.Challenge.rw_iu0021_01.row.prog w) (ktrTop dp un gd cn cs L a ccd cl outer) (call (.ref 161) [.ref x]) Q E s := by
  revert X; k_fill; intro X
  refine wpAny_call ?_
  k_dflt ktr_enter
  k_steps
  refine (?_ : Q _ _)
  have e : Txt.slice cur (some 0) (some br) ++ Str.ofString "" ++ Txt.slice cur (some ke) none = tx ((Mine.cs cur).take br.toNat) := del_text (by omega) (by omega) (by omega)
  rename News h₀ L _ _ => Ne
  rw [e] at Ne
  exact ret _ _ _ _ _ _ _ _ (by assumption) Ne (by omega)
end

end
local macro_rules | `(tactic| walk_at "mine same") => `(tactic| (intro z h2 h3; (simp only [List.forall_mem_cons, List.not_mem_nil, false_implies, implies_true, and_true, ne_eq, List.mem_cons, forall_eq_or_imp] at h2); (simp only [List.contains_cons, List.contains_nil, Bool.or_false, Bool.or_eq_false_iff, beq_eq_false_iff_ne, ne_eq] at h3); (first | rfl | (simp [kstB, h2, h3]; done))))
section
open PySem PySem.W PyProof PyProof.Rows
noncomputable def FoundAt (T : Tab) (r : Cs) (cu res cu' : Int) : Prop := (NoKey (keysOf T) r ∧ res = 0 ∧ cu' = cu) ∨ ∃ i, i < T.length ∧ IsBest (keysOf T) r (keyAt T i) ∧ res = resAt T i ∧ cu' = cu - (keyAt T i).length
structure S1 where
  i : Nat
  j : Nat
  ci : Nat
  cj : Nat
  seen : Bool
  ti : Tok
  tj : Tok
  tci : Tok
  tcj : Tok
structure S2 where
  i : Nat
  ci : Nat
  ti : Tok
  tci : Tok
structure S3 where
  cm : Int
  d : Int
  tc : Tok
  td : Tok
theorem stop_out {P : Prop} (h : Stop P) : P := h
theorem f_div (n : Nat) : 2 * (n / 2) ≤ n ∧ n < 2 * (n / 2) + 2 := by omega
theorem f_mid (i q : Nat) : ((i : Int) + (q : Int)).toNat = i + q := by omega
theorem f_min (ci cj : Nat) : (if (cj : Int) < (ci : Int) then (cj : Int) else (ci : Int)) = (min ci cj : Nat) := by split <;> omega
theorem f_lt {n a b : Nat} (h : b < n - a) : a + b < n := by omega
theorem f_k2 {S a b : Nat} {k : Int} (h : k = (S : Int) - 1 - (a : Nat) - (b : Int)) : k = (S : Int) - 1 - ((a + b : Nat) : Int) := by omega
theorem f_cm {cm : Int} {a b : Nat} (h : cm = (a : Int) + (b : Int)) : cm = ((a + b : Nat) : Int) := by omega
theorem f_to {cm : Int} {a b l : Nat} (h : cm = (a : Int) + (b : Int)) (h2 : cm.toNat ≤ l) : a + b ≤ l := by omega
theorem f_next {p a b : Nat} (h : p = a + b) : (p : Int) + 1 = (a : Int) + ((b + 1 : Nat) : Int) := by omega
theorem f_succ {p l : Nat} (h : p + 1 ≤ l) : ((p : Int) + 1).toNat ≤ l := by omega
abbrev ps1 (c : S1) : List (PySem.Str × Value) := [(Str.ofString "i", .int c.i c.ti), (Str.ofString "j", .int c.j c.tj), (Str.ofString "common_i", .int c.ci c.tci), (Str.ofString "common_j", .int c.cj c.tcj), (Str.ofString "first_key_inspected", .bool c.seen)]
abbrev st1 : List PySem.Str := [Str.ofString "k", Str.ofString "diff", Str.ofString "common", Str.ofString "w", Str.ofString "i2"]
abbrev ps2 (c : S2) : List (PySem.Str × Value) := [(Str.ofString "i", .int c.i c.ti), (Str.ofString "common_i", .int c.ci c.tci)]
abbrev st2 : List PySem.Str := [Str.ofString "k", Str.ofString "diff", Str.ofString "common", Str.ofString "w", Str.ofString "i2", Str.ofString "j", Str.ofString "common_j", Str.ofString "first_key_inspected"]
abbrev ps3 (c : S3) : List (PySem.Str × Value) := [(Str.ofString "common", .int c.cm c.tc), (Str.ofString "diff", .int c.d c.td)]
section
local macro_rules | `(tactic| walk_at "call builtin:len") => `(tactic| ((with_reducible show wpAny _ _ (call (Value.builtin "len") [Value.ref _]) _ _ _); refine am_len (by assumption) (by k_asm) (by assumption) ?_))
local macro_rules | `(tactic| walk_at "subscriptTail") => `(tactic| ((with_reducible show wpAny _ _ (subscriptTail _ _ (Value.ref _) (Value.int _ _)) _ _ _); refine am_item (by assumption) (by assumption) (by k_asm) (by assumption) (by omega) (by omega) ?_; intro amO amE amN amS am1 am2 am3 amI amK amL amM))
local macro_rules | `(tactic| walk_at "getAttr ref") => `(tactic| first | ((with_reducible show wpAny _ _ (getAttr _ (PySem.Str.ofString "s") _) _ _ _); refine am_s (by k_asm) (by k_asm) (by assumption) ?_) | ((with_reducible show wpAny _ _ (getAttr _ (PySem.Str.ofString "substring_i") _) _ _ _); refine am_sub (by k_asm) (by k_asm) (by assumption) ?_) | ((with_reducible show wpAny _ _ (getAttr _ (PySem.Str.ofString "result") _) _ _ _); refine am_res (by k_asm) (by k_asm) (by assumption) ?_))
local macro_rules | `(tactic| walk_at "binaryOp RShift int int") => `(tactic| (refine rshift_half (by omega) ?_))
local macro_rules | `(tactic| walk_at "mine same1") => `(tactic| (intro z h1 h2 h3; (simp only [List.forall_mem_cons, List.not_mem_nil, false_implies, implies_true, and_true, ne_eq, List.mem_cons, forall_eq_or_imp] at h2); (simp only [List.contains_cons, List.contains_nil, Bool.or_false, Bool.or_eq_false_iff, beq_eq_false_iff_ne, ne_eq] at h3); (first | rfl | (simp [kstB, h1, h2, h3]; done))))
local macro_rules | `(tactic| walk_at "KswEnd") => `(tactic| (refine stop_of ?_))
local macro_rules | `(tactic| walk_at "CutPost") => `(tactic| (refine stop_of ?_))
local macro_rules | `(tactic| walk_at "InvEndN") => `(tactic| (refine stop_of ?_))
local macro_rules | `(tactic| walk_at "exec While") => `(tactic| (refine stop_of ?_))
local macro_rules | `(tactic| walk_at "exec For Name Call cons nil") => `(tactic| ((fail_if_success (with_reducible show wpAny _ _ _ (CutPost _ _ _ _ _ _ _ _) _ _)); (refine stop_of ?_)))
set_option maxRecDepth 100000 in
set_option maxHeartbeats 8000000 in
theorem find_call {w : World} {mean : ExcName → Option Value} {mg mb : Str → Option Value} {dp un : Nat} {gd : Option (List Code)} {cn : Str} {cs : Scope} {a : Addr} {ccd : Value} {cl : List (Str × Addr)} {outer : List Env} {A₀ : Around} {base h₀ : Heap} {L : Addr} {m : Str → Option Value} {s : Shared} {Q E : Value → Shared → Prop} {rst : List (Addr × Obj)} {x dx : Addr} {ks : Tk6} {cur : Str} {cu li lb br ke : Int} {t1 t2 t3 t4 t5 t6 : Tok} {l : Addr} {tab : Tab} {as : List Addr}
    (B : Below A₀ base outer h₀) (F : Fr h₀ L s.heap m) (X : (heap_39 w.params).In h₀) (N : News h₀ L s.heap (stN x dx (stD w.params ks cur t1 cu t2 li t3 lb t4 br t5 ke t6) rst)) (T : Top viewQ (looseW viewQ looseN) mean mg mb h₀) (hk : cs.kind = .function)
    (hne : x ≠ dx) (hoff : OwnOff rst [x, dx]) (hx : cur.length ≤ 1000) (h0 : 0 ≤ cu) (h1 : cu ≤ cur.length) (hlb : lb = 0) (hT : AmTab h₀ l tab as) (hG : Good tab) (hTl : tab.length ≤ 100) (hdp : dp + 2 < recursionLimit) (hun : un + 16 < cLine)
    (ret : ∀ res tr cu' t2' h' tk', Fr h₀ L h' m → News h₀ L h' (stN x dx (stD w.params ks cur t1 cu' t2' li t3 lb t4 br t5 ke t6) rst) → FoundAt tab ((rv cur).drop (cur.length - cu.toNat)) cu res cu' → Q (.int res tr) { s with heap := h', toks := tk' }) :
    wpAny (model PySem.Challenge.rw_iu0021_01.row.prog w) (ktrTop dp un gd cn cs L a ccd cl outer) (call (.ref 140) [.ref x, .ref l]) Q E s := by
  revert X; k_fill; intro X
  refine wpAny_call ?_
  k_dflt ktr_enter
  subst hlb
  obtain ⟨cn, rfl⟩ := Int.eq_ofNat_of_zero_le h0
  clear h0
  rw [Int.toNat_natCast] at ret
  rename Fr h₀ L _ m => FG
  have hTg : AmTab _ l tab as := ⟨hT.list.at fun o e => FG.keep l o e, hT.len, fun i hi => by
    obtain ⟨ox, es, n, S, t1, t2, t3, I⟩ := hT.each i hi
    exact ⟨ox, es, n, S, t1, t2, t3, InstAt.more I.inst FG.keep, I.s, I.sub, I.res, I.key⟩⟩
  have hz : 0 < tab.length := hG.pos
  k_steps
  refine stop_go ?_
  rename Fr _ _ _ _ => F0
  rename News _ _ _ _ => N0
  generalize hr : (rv cur).drop (cur.length - cn) = r at ret
  have hrl : r.length = cn := by rw [← hr]; exact ahead_length (Int.natCast_nonneg cn) h1
  have hrg : ∀ n, n < cn → r.getD n 0 = (Mine.cs cur).getD (cn - 1 - n) 0 := fun n hn => by rw [← hr]; exact ahead_get h1 hn
  refine seq_cut (σ := S2) (fun _ => stN x dx (stD w.params ks cur t1 (cn : Int) t2 li t3 0 t4 br t5 ke t6) rst) ps2 st2 (fun c => Found tab r c.i c.ci) F0 ?loop ?post
  case loop =>
    clear ret hT F N B T
    refine ksw_while (σ := S1) (fun _ => stN x dx (stD w.params ks cur t1 (cn : Int) t2 li t3 0 t4 br t5 ke t6) rst) ps1 (fun _ => True) st1 (fun c => Seek tab r c.i c.j c.ci c.cj c.seen) (fun c => (c.j - c.i) * 2 + (if c.seen then 0 else 1)) ⟨0, tab.length, 0, 0, false, _, _, _, _⟩ F0 N0 trivial (by kst_all) (Seek.start hG) ?turn PassesOwn.never
    case turn =>
      clear F0 N0
      intro c u h tk _ hP F1 N1
      obtain ⟨i, j, ci, cj, seen, ti, tj, tci, tcj⟩ := c
      dsimp only [ps1] at hP F1 N1
      have hlt := hP.lt
      have hle := hP.le
      k_steps
      refine stop_go ?_
      rename Fr _ _ _ _ => F2
      rename News _ _ _ _ => N2
      rename rv _ = keyAt _ _ => hkey
      rename _ ≤ 6 => hS6
      rename 1 ≤ _ => hS1
      rename PySem.Str => S
      have hq2 : 2 * ((j - i) / 2) ≤ j - i ∧ j - i < 2 * ((j - i) / 2) + 2 := f_div _
      generalize hq0 : (j - i) / 2 = q at *
      have hq9 : Stop ((j - i) / 2 = q) := hq0
      clear hq0
      rw [f_mid] at hkey
      have hcm := hP.common hG (k := i + q) (by omega) (by omega)
      have hSl : (keyAt tab (i + q)).length = S.length := by rw [← hkey, rv_length]
      have hSg : ∀ n, n < S.length → (keyAt tab (i + q)).getD n 0 = (Mine.cs S).getD (S.length - 1 - n) 0 := fun n hn => by rw [← hkey]; exact rv_get hn
      have hll := lcp_le_left (keyAt tab (i + q)) r
      have hlr := lcp_le_right (keyAt tab (i + q)) r
      refine seq_cut (σ := S3) (fun _ => stN x dx (stD w.params ks cur t1 (cn : Int) t2 li t3 0 t4 br t5 ke t6) rst) ps3 [Str.ofString "i2"] (fun c => c.cm = (lcp (keyAt tab (i + q)) r : Nat) ∧ (c.d < 0 ↔ ltb r (keyAt tab (i + q)) = true)) F2 ?il ?ip
      case il =>
        k_steps
        refine stop_go ?_
        rename IsRange _ _ _ _ _ _ _ _ => hR
        rename Fr _ _ _ _ => F3
        rename News _ _ _ _ => N3
        refine kst_rangeD (σ := S3) (n := S.length - min ci cj) (fun _ => stN x dx (stD w.params ks cur t1 (cn : Int) t2 li t3 0 t4 br t5 ke t6) rst) ps3 (fun _ => True) [] (fun pre c => c.cm = (min ci cj : Nat) + (pre.length : Int) ∧ c.cm.toNat ≤ lcp (keyAt tab (i + q)) r ∧ c.d = 0) ⟨if (cj : Int) < (ci : Int) then (cj : Int) else (ci : Int), 0, _, _⟩ rfl hR ?sm ?sz F3 N3 trivial (by kst_all) ?st ?tu ?dn
        case sm => exact small_down (by split <;> omega) (by split <;> omega) (by omega) (by omega)
        case sz =>
          rw [rangeSize_downNat]
          split <;> omega
        case st =>
          dsimp only
          refine ⟨by simp only [List.length_nil]; split <;> omega, ?_, rfl⟩
          split <;> omega
        case dn =>
          intro c u3 h3 tk3 _ hq F4 N4
          obtain ⟨cm, d, tc, td⟩ := c
          dsimp only [ps3] at hq F4 N4
          rw [downKs_length] at hq
          refine CutPost.intro ⟨cm, d, tc, td⟩ F4 N4 (fun _ h => h) (by kst_all) (by walk_at "mine same") ?_
          have h9 := scan_whole (n := cm.toNat) hq.2.1 (by omega)
          refine ⟨by dsimp only; omega, ?_⟩
          rw [h9.2]
          dsimp only
          simp [hq.2.2]
        case tu =>
          clear F3 N3 hR
          intro c pre k2 tt u3 h3 tk3 own hk2 hlt2 hown _ hq F4 N4
          obtain ⟨cm, d, tc, td⟩ := c
          dsimp only [ps3] at hq F4 N4
          have hmm : (if (cj : Int) < (ci : Int) then (cj : Int) else (ci : Int)) = (min ci cj : Nat) := f_min _ _
          rw [hmm] at hk2
          obtain ⟨p, hp0, hp1, rfl, hp2, rfl, hd0⟩ : ∃ p : Nat, Stop (p = min ci cj + pre.length) ∧ p < S.length ∧ k2 = (S.length : Int) - 1 - p ∧ p ≤ lcp (keyAt tab (i + q)) r ∧ cm = p ∧ d = 0 := ⟨min ci cj + pre.length, rfl, f_lt hlt2, f_k2 hk2, f_to hq.1 hq.2.1, f_cm hq.1, hq.2.2⟩
          clear hq hlt2 hmm hcm hlt hle hq2
          k_steps
          · refine stop_go ?_
            rename ((cn : Int) - p = 0) => e1
            refine CutPost.intro ⟨p, -1, tc, _⟩ (by k_asm) (by k_asm) (fun _ h => List.mem_append_left _ h) (by kst_all) (by walk_at "mine same") ?_
            have h9 := scan_short (n := p) hp2 (by omega) (by omega)
            refine ⟨by dsimp only; omega, ?_⟩
            rw [h9.2]
            simp
          · refine stop_go ?_
            rename ((cn : Int) - p ≠ 0) => e1
            have h7 : p < cn := by omega
            have hA : (Txt.item cur ((cn : Int) - 1 - p)).cps.getD 0 0 = r.getD p 0 := by
              rw [item_get (by omega) (by omega), hrg _ h7]
              congr 1
              omega
            have hB : (Txt.item S ((S.length : Int) - 1 - p)).cps.getD 0 0 = (keyAt tab (i + q)).getD p 0 := by
              rw [item_get (by omega) (by omega), hSg _ (by omega)]
              congr 1
              omega
            rename (((Txt.item cur _).cps.getD 0 0 : Nat) : Int) - _ ≠ 0 => e2
            rw [hA, hB] at e2
            have h9 := scan_part (n := p) hp2 (by omega) (by omega) (by omega)
            refine CutPost.intro ⟨p, _, tc, _⟩ (by k_asm) (by k_asm) (fun _ h => List.mem_append_left _ h) (by kst_all) (by walk_at "mine same") ?_
            refine ⟨by dsimp only; omega, ?_⟩
            dsimp only
            rw [hA, hB, ← h9.2]
            omega
          · refine stop_go ?_
            rename ((cn : Int) - p ≠ 0) => e1
            have h7 : p < cn := by omega
            have hA : (Txt.item cur ((cn : Int) - 1 - p)).cps.getD 0 0 = r.getD p 0 := by
              rw [item_get (by omega) (by omega), hrg _ h7]
              congr 1
              omega
            have hB : (Txt.item S ((S.length : Int) - 1 - p)).cps.getD 0 0 = (keyAt tab (i + q)).getD p 0 := by
              rw [item_get (by omega) (by omega), hSg _ (by omega)]
              congr 1
              omega
            rename (((Txt.item cur _).cps.getD 0 0 : Nat) : Int) - _ = 0 => e2
            have e3 := e2
            rw [hA, hB] at e3
            have h9 := scan_go (n := p) hp2 (by omega) (by omega) (by omega)
            refine kst_end ⟨p + 1, _, _, _⟩ (by k_asm) (by k_asm) (fun _ h => List.mem_append_left _ h) (fun _ h => List.mem_append_right _ h) rfl trivial (by kst_all) (by walk_at "mine same1") ?_
            refine ⟨?_, ?_, e2⟩
            · dsimp only
              have e9 : p = min ci cj + pre.length := hp0
              rw [List.length_append, List.length_singleton]
              exact f_next e9
            · dsimp only
              exact f_succ h9
      case ip =>
        clear hrg hSg
        intro c u3 h3 tk3 hq F3 N3
        obtain ⟨cm, d, tc, td⟩ := c
        obtain ⟨hq1, hq2⟩ := hq
        dsimp only at hq1
        subst hq1
        dsimp only [ps3] at hq2 F3 N3
        k_steps
        · refine stop_go ?_
          have hlo := hq2.mp (by assumption)
          refine CutPost.intro ⟨i, ci, ti, tci⟩ (by k_asm) (by k_asm) (fun _ h => h) (by kst_all) (by walk_at "mine same") ?_
          exact (hP.low (k := i + q) (by omega) (by omega) hlo).2 ⟨by omega, .inl (by omega)⟩ (congrArg (i + ·) (stop_out hq9).symm)
        · refine stop_go ?_
          have hlo := hq2.mp (by assumption)
          refine CutPost.intro ⟨i, ci, ti, tci⟩ (by k_asm) (by k_asm) (fun _ h => h) (by kst_all) (by walk_at "mine same") ?_
          exact (hP.low (k := i + q) (by omega) (by omega) hlo).2 ⟨by omega, .inr (.inl (by omega))⟩ (congrArg (i + ·) (stop_out hq9).symm)
        · refine stop_go ?_
          have hlo := hq2.mp (by assumption)
          refine CutPost.intro ⟨i, ci, ti, tci⟩ (by k_asm) (by k_asm) (fun _ h => h) (by kst_all) (by walk_at "mine same") ?_
          exact (hP.low (k := i + q) (by omega) (by omega) hlo).2 ⟨by omega, .inr (.inr (by assumption))⟩ (congrArg (i + ·) (stop_out hq9).symm)
        · refine stop_go ?_
          have hlo := hq2.mp (by assumption)
          have h9 := (hP.low (k := i + q) (by omega) (by omega) hlo).1 (.inr ⟨by omega, by omega, by assumption⟩)
          rw [if_neg (by omega)] at h9
          exact ksw_end ⟨i, i + q, ci, lcp (keyAt tab (i + q)) r, true, ti, _, tci, _⟩ (by k_asm) (by k_asm) (fun _ h => h) trivial (by kst_all) (by walk_at "mine same") h9 (by dsimp only; (rename seen = false => e4); rw [e4]; simp only [Bool.false_eq_true, if_false, if_true]; omega)
        · refine stop_go ?_
          have hlo := hq2.mp (by assumption)
          have h9 := (hP.low (k := i + q) (by omega) (by omega) hlo).1 (.inl (by omega))
          rw [if_pos (by omega)] at h9
          exact ksw_end ⟨i, i + q, ci, lcp (keyAt tab (i + q)) r, seen, ti, _, tci, _⟩ (by k_asm) (by k_asm) (fun _ h => h) trivial (by kst_all) (by walk_at "mine same") h9 (by dsimp only; omega)
        · refine stop_go ?_
          have hhi : ltb r (keyAt tab (i + q)) = false := by
            rw [← Bool.not_eq_true, ← hq2]
            assumption
          refine CutPost.intro ⟨i + q, lcp (keyAt tab (i + q)) r, _, _⟩ (by k_asm) (by k_asm) (fun _ h => h) (by kst_all) (by walk_at "mine same") ?_
          exact (hP.high (k := i + q) (by omega) (by omega) hhi).2 (by omega)
        · refine stop_go ?_
          have hhi : ltb r (keyAt tab (i + q)) = false := by
            rw [← Bool.not_eq_true, ← hq2]
            assumption
          refine CutPost.intro ⟨i + q, lcp (keyAt tab (i + q)) r, _, _⟩ (by k_asm) (by k_asm) (fun _ h => h) (by kst_all) (by walk_at "mine same") ?_
          exact (hP.high (k := i + q) (by omega) (by omega) hhi).2 (by omega)
        · refine stop_go ?_
          have hhi : ltb r (keyAt tab (i + q)) = false := by
            rw [← Bool.not_eq_true, ← hq2]
            assumption
          refine CutPost.intro ⟨i + q, lcp (keyAt tab (i + q)) r, _, _⟩ (by k_asm) (by k_asm) (fun _ h => h) (by kst_all) (by walk_at "mine same") ?_
          exact (hP.high (k := i + q) (by omega) (by omega) hhi).2 (by omega)
        · refine stop_go ?_
          have hhi : ltb r (keyAt tab (i + q)) = false := by
            rw [← Bool.not_eq_true, ← hq2]
            assumption
          have h9 := (hP.high (k := i + q) (by omega) (by omega) hhi).1 (.inr ⟨by omega, by omega, by assumption⟩)
          rw [if_neg (by omega)] at h9
          exact ksw_end ⟨i + q, j, lcp (keyAt tab (i + q)) r, cj, true, _, tj, _, tcj⟩ (by k_asm) (by k_asm) (fun _ h => h) trivial (by kst_all) (by walk_at "mine same") h9 (by dsimp only; (rename seen = false => e4); rw [e4]; simp only [Bool.false_eq_true, if_false, if_true]; omega)
        · refine stop_go ?_
          have hhi : ltb r (keyAt tab (i + q)) = false := by
            rw [← Bool.not_eq_true, ← hq2]
            assumption
          have h9 := (hP.high (k := i + q) (by omega) (by omega) hhi).1 (.inl (by omega))
          rw [if_pos (by omega)] at h9
          exact ksw_end ⟨i + q, j, lcp (keyAt tab (i + q)) r, cj, seen, _, tj, _, tcj⟩ (by k_asm) (by k_asm) (fun _ h => h) trivial (by kst_all) (by walk_at "mine same") h9 (by dsimp only; omega)
  case post =>
    clear F0 N0
    intro c u h tk hP F1 N1
    obtain ⟨i, ci, ti, tci⟩ := c
    dsimp only [ps2] at hP F1 N1
    have hC := hP.climb hG
    k_steps
    refine stop_go ?_
    rename Fr _ _ _ _ => F0
    rename News _ _ _ _ => N0
    refine wpAny_mono (E := fun _ _ => False) ?_ (fun _ _ h => h) (fun _ _ h => h.elim)
    refine ksw_while (σ := Int × Tok) (fun _ => stN x dx (stD w.params ks cur t1 (cn : Int) t2 li t3 0 t4 br t5 ke t6) rst) (fun c => [(Str.ofString "i", .int c.1 c.2)]) (fun _ => True) [Str.ofString "w"] (fun c => 0 ≤ c.1 ∧ Climb tab r ci c.1.toNat) (fun c => c.1.toNat) ((i : Int), ti) F0 N0 trivial (by kst_all) ⟨by dsimp only; omega, by simpa using hC⟩ ?turn PassesOwn.never
    clear F0 N0
    intro c u2 h2 tk2 _ hP2 F1 N1
    obtain ⟨n, tn⟩ := c
    dsimp only at hP2 F1 N1
    obtain ⟨hn0, hC2⟩ := hP2
    have hn1 := hC2.lt
    k_steps
    · refine (?_ : Q _ _)
      rename rv _ = keyAt _ _ => hkey
      have hSl := congrArg List.length hkey
      rw [rv_length] at hSl
      exact ret _ _ _ _ _ _ (by assumption) (by assumption) (.inr ⟨n.toNat, hn1, hC2.best (by omega), rfl, by rw [hSl]⟩)
    · refine (?_ : Q _ _)
      rename rv _ = keyAt _ _ => hkey
      have hSl := congrArg List.length hkey
      rw [rv_length] at hSl
      have hs : subAt tab n.toNat < 0 := by assumption
      exact ret _ _ _ _ _ _ (by assumption) (by assumption) (.inl ⟨hC2.none hG (by omega) hs, rfl, rfl⟩)
    · refine stop_go ?_
      rename rv _ = keyAt _ _ => hkey
      have hSl := congrArg List.length hkey
      rw [rv_length] at hSl
      have hs : ¬ subAt tab n.toNat < 0 := by assumption
      have hq := hC2.next hG (by omega) (by omega)
      exact ksw_end (subAt tab n.toNat, _) (by k_asm) (by k_asm) (fun _ h => h) trivial (by kst_all) (by walk_at "mine same") ⟨by dsimp only; omega, hq.1⟩ hq.2
end

end
local macro_rules | `(tactic| walk_at "mine del") => `(tactic| ((with_reducible show wpAny _ _ (call (Value.ref 161) _) _ _ _); k_dflt (refine' del_call ?kB ?kF ?kX ?kN ?kT ?kk ?k1 ?k2 ?k3 ?k4 ?k5 ?k6 ?k7 ?k8 ?kd ?ku ?kr); (case kB => k_asm); (case kF => k_asm); (case kX => k_asm); (case kN => k_asm); (case kT => k_asm); (case kk => exact rfl); (case k1 => assumption); (case k2 => assumption); (case k3 => assumption); (case k4 => omega); (case k5 => omega); (case k6 => omega); (case k7 => omega); (case k8 => omega); (case kd => ktr_room); (case ku => ktr_units); intro t9 li9 u9 ke9 v9 w9 h9 tk9 F9 N9 hli9; (try dsimp only)))
section
open PySem PySem.W PyProof PyProof.Rows
theorem res2_one : (List.range a2.length).all (fun i => resAt a2 i == 1) = true := by decide +kernel
theorem res2 {i : Nat} (h : i < a2.length) : resAt a2 i = 1 := by
  have := List.all_eq_true.mp res2_one i (List.mem_range.mpr h)
  simpa using this
theorem len2 : a2.length ≤ 100 := by decide
theorem best_len {keys : List Cs} {r k : Cs} (hs : Sized keys) (b : IsBest keys r k) : 1 ≤ k.length ∧ k.length ≤ r.length := ⟨(hs k b.1).1, b.2.1.length_le⟩
theorem take_rv {x : PySem.Str} {c : Int} {n : Nat} (hc : c = (x.length : Int) - (n : Int)) (hn : n ≤ x.length) : tx ((cs x).take c.toNat) = rvT ((rv x).drop n) := by
  rw [rvT_drop]
  congr 2
  omega
section
local macro_rules | `(tactic| walk_at "mine find") => `(tactic| ((with_reducible show wpAny _ _ (call (Value.ref 140) _) _ _ _); k_dflt (refine' find_call ?kB ?kF ?kX ?kN ?kT ?kk ?k1 ?k2 ?k3 ?k4 ?k5 ?k6 ?k7 ?k8 ?k9 ?kd ?ku ?kr); (case kB => k_asm); (case kF => k_asm); (case kX => k_asm); (case kN => k_asm); (case kT => k_asm); (case kk => exact rfl); (case k1 => assumption); (case k2 => assumption); (case k3 => assumption); (case k4 => omega); (case k5 => omega); (case k6 => rfl); (case k7 => assumption); (case k8 => assumption); (case k9 => assumption); (case kd => ktr_room); (case ku => ktr_units); intro res9 tr9 cu9 t9 h9 tk9 F9 N9 hfound; (try dsimp only); refine stop_of ?_))
local macro_rules | `(tactic| walk_at "call ref") => `(tactic| first | walk_at "mine find" | walk_at "mine del")
set_option maxRecDepth 100000 in
set_option maxHeartbeats 8000000 in
theorem cat3_call {w : World} {mean : ExcName → Option Value} {mg mb : Str → Option Value} {dp un : Nat} {gd : Option (List Code)} {cn : Str} {cs : Scope} {a : Addr} {ccd : Value} {cl : List (Str × Addr)} {outer : List Env} {A₀ : Around} {base h₀ : Heap} {L : Addr} {m : Str → Option Value} {s : Shared} {Q E : Value → Shared → Prop} {rst : List (Addr × Obj)} {x dx : Addr} {ks : Tk6} {cur : Str} {cu li lb br ke : Int} {t1 t2 t3 t4 t5 t6 : Tok}
    (B : Below A₀ base outer h₀) (F : Fr h₀ L s.heap m) (X : (heap_39 w.params).In h₀) (N : News h₀ L s.heap (stN x dx (stD w.params ks cur t1 cu t2 li t3 lb t4 br t5 ke t6) rst)) (T : Top viewQ (looseW viewQ looseN) mean mg mb h₀) (hk : cs.kind = .function)
    (hne : x ≠ dx) (hoff : OwnOff rst [x, dx]) (hx : cur.length ≤ 1000) (hcu : cu = cur.length) (hli : li = cur.length) (hlb : lb = 0) (hdp : dp + 8 < recursionLimit) (hun : un + 64 < cLine)
    (ret : ∀ b cur' t1' cu' t2' li' t3' br' t5' ke' t6' h' tk', Fr h₀ L h' m → News h₀ L h' (stN x dx (stD w.params ks cur' t1' cu' t2' li' t3' lb t4 br' t5' ke' t6') rst) → (b = true → ∃ k, IsBest k2 (rv cur) k ∧ cur' = rvT ((rv cur).drop k.length) ∧ cu' = li') → (b = false → NoKey k2 (rv cur) ∧ cur' = cur) → li' = cur'.length → Q (.bool b) { s with heap := h', toks := tk' }) :
    wpAny (model PySem.Challenge.rw_iu0021_01.row.prog w) (ktrTop dp un gd cn cs L a ccd cl outer) (call (.ref 250) [.ref x]) Q E s := by
  revert X; k_fill; intro X
  refine wpAny_call ?_
  k_dflt ktr_enter
  subst hlb
  rename Frag.In _ _ => Xg
  have hT2 := tab2 Xg
  have hG2 := good2
  have hL2 := len2
  k_steps
  refine stop_go ?_
  rename FoundAt _ _ _ _ _ => hfound
  have er : (rv cur).drop (cur.length - cu.toNat) = rv cur := by
    have : cur.length - cu.toNat = 0 := by omega
    rw [this, List.drop_zero]
  rw [er] at hfound
  rcases hfound with ⟨hn, hres, hcu9⟩ | ⟨i, hi, hb, hres, hcu9⟩
  · subst hres
    k_steps
    refine (?_ : Q _ _)
    exact ret false cur _ _ _ _ _ _ _ _ _ _ _ (by assumption) (by assumption) nofun (fun _ => ⟨hn, rfl⟩) (by omega)
  · rw [res2 hi] at hres
    subst hres
    have hbl := best_len hG2.sized hb
    rw [rv_length] at hbl
    k_steps
    refine (?_ : Q _ _)
    have e := take_rv (x := cur) (n := (keyAt a2 i).length) (hcu9.trans (by rw [hcu])) hbl.2
    rename News h₀ L _ _ => Ne
    rw [e] at Ne
    refine ret true _ _ _ _ _ _ _ _ _ _ _ _ (by assumption) Ne (fun _ => ⟨_, hb, rfl, ?_⟩) nofun ?_
    · omega
    · rw [rvT_length, List.length_drop, rv_length]
      omega
end

end
local macro_rules | `(tactic| walk_at "mine enterS") => `(tactic| (k_dflt (refine' code_defS ?k1 ?k2 ?k3 ?k4 ?k5 ?XB ?TB ?D ?T0 ?kA ?k6 ?k7 ?k8 ?k9 ?kB ?_ ?cK ?c2 ?c3 ?c4 ?c5; (case kA => exact rfl); (case k2 => k_asm); (case k1 => k_asm); (case XB => assumption); (case TB => assumption); (case D => assumption); (case T0 => exact KtsTurn.refl); (case k3 => k_asm); (case k4 => k_asm); (case k5 => k_asm); (case k6 => k_is); (case k7 => k_is); (case k8 => ktr_room); (case k9 => exact BindsTo.of_eq rfl); (case kB => exact locs rfl); (case cK => first | exact rfl | assumption); (case c2 => exact rfl); (case c3 => exact rfl); (case c4 => exact rfl); (case c5 => decide); k_whole; intro g' L' h' FG' F' N' B' X' T' D'; (try dsimp only); (try k_fold))))
local macro_rules | `(tactic| walk_at "noteFrame ref") => `(tactic| (k_here; k_dflt (refine' caught_own ?K ?hx ?F ?N ?XB ?TB ?D ?T0 lab0_name lab0_self ?_; (case hx => assumption); (case F => k_asm); (case N => k_asm); (case K => assumption); (case XB => assumption); (case TB => assumption); (case D => assumption); (case T0 => first | assumption | exact KtsTurn.refl); k_whole); intro h' g' T' F' N' B' X' P' D'))
local macro_rules | `(tactic| walk_at "CutPostR") => `(tactic| (refine stop_of ?_))
local macro_rules | `(tactic| walk_at "exec While Constant cons nil") => `(tactic| ((fail_if_success (with_reducible show wpAny _ _ _ (CutPostR _ _ _ _ _ _ _ _ _) _ _)); (refine stop_of ?_)))
local macro_rules | `(tactic| walk_at "mine find") => `(tactic| ((with_reducible show wpAny _ _ (call (Value.ref 140) _) _ _ _); k_dflt (refine' find_call ?kB ?kF ?kX ?kN ?kT ?kk ?k1 ?k2 ?k3 ?k4 ?k5 ?k6 ?k7 ?k8 ?k9 ?kd ?ku ?kr); (case kB => k_asm); (case kF => k_asm); (case kX => k_asm); (case kN => k_asm); (case kT => k_asm); (case kk => exact rfl); (case k1 => assumption); (case k2 => assumption); (case k3 => assumption); (case k4 => omega); (case k5 => omega); (case k6 => rfl); (case k7 => assumption); (case k8 => assumption); (case k9 => assumption); (case kd => ktr_room); (case ku => ktr_units); refine stop_of ?_))
local macro_rules | `(tactic| walk_at "mine eqs") => `(tactic| ((with_reducible show wpAny _ _ (call (Value.ref 126) _) _ _ _); k_dflt (refine' eqs_call ?kB ?kF ?kX ?kN ?kT ?kk ?k1 ?k2 ?k3 ?k4 ?k5 ?k6 ?k7 ?kd ?ku ?kr); (case kB => k_asm); (case kF => k_asm); (case kX => k_asm); (case kN => k_asm); (case kT => k_asm); (case kk => exact rfl); (case k1 => assumption); (case k2 => assumption); (case k3 => assumption); (case k4 => decide); (case k5 => omega); (case k6 => omega); (case k7 => rfl); (case kd => ktr_room); (case ku => ktr_units); refine stop_of ?_))
local macro_rules | `(tactic| walk_at "call ref") => `(tactic| first | walk_at "mine find" | walk_at "mine del" | walk_at "mine eqs")
section
open PySem PySem.W PyProof PyProof.Rows
theorem res1_all : (List.range a1.length).all (fun i => resAt a1 i == 1 || resAt a1 i == 2) = true := by decide +kernel
theorem len1 : a1.length ≤ 100 := by decide
theorem keys1_parts : (List.range a1.length).all (fun i => (resAt a1 i == 1 && nasal.any fun c => keyAt a1 i == [c]) || (resAt a1 i == 2 && keyAt a1 i == [2376])) = true := by decide +kernel
theorem keys1 {i : Nat} (h : i < a1.length) : (resAt a1 i = 1 ∧ ∃ c, nasal.contains c = true ∧ keyAt a1 i = [c]) ∨ (resAt a1 i = 2 ∧ keyAt a1 i = [2376]) := by
  have := List.all_eq_true.mp keys1_parts i (List.mem_range.mpr h)
  simp only [Bool.or_eq_true, Bool.and_eq_true, beq_iff_eq, List.any_eq_true] at this
  rcases this with ⟨h1, c, hc, h2⟩ | h
  · exact .inl ⟨h1, c, List.contains_iff_mem.mpr hc, h2⟩
  · exact .inr h
theorem y1 : rv (Str.ofString "यौ") = [2380, 2351] := by decide +kernel
theorem y2 : rv (Str.ofString "छौ") = [2380, 2331] := by decide +kernel
theorem y3 : rv (Str.ofString "नौ") = [2380, 2344] := by decide +kernel
theorem y4 : rv (Str.ofString "थे") = [2375, 2341] := by decide +kernel
theorem y5 : rv (Str.ofString "त्र") = tra := by decide +kernel
theorem z1 : (Str.ofString "यौ").length = 2 := by decide +kernel
theorem z2 : (Str.ofString "छौ").length = 2 := by decide +kernel
theorem z3 : (Str.ofString "नौ").length = 2 := by decide +kernel
theorem z4 : (Str.ofString "थे").length = 2 := by decide +kernel
theorem z5 : (Str.ofString "त्र").length = 3 := by decide +kernel
theorem cat2_none {r : Cs} (h : NoKey k1 r) : cat2 r = r := by
  match r with
  | [] => rfl
  | c :: t =>
    have hk := k1_is
    have h1 : ∀ d, [d] ∈ k1 → c ≠ d := fun d hd e => h [d] hd (by rw [e]; exact ⟨t, rfl⟩)
    rw [hk] at h1
    have e1 := h1 2305 (by simp)
    have e2 := h1 2306 (by simp)
    have e3 := h1 2376 (by simp)
    simp [cat2, nasal, e1, e2, e3]
section
set_option maxRecDepth 100000 in
set_option maxHeartbeats 8000000 in
theorem cat2_call {w : World} {mean : ExcName → Option Value} {mg mb : Str → Option Value} {dp un : Nat} {gd : Option (List Code)} {cn : Str} {cs : Scope} {a : Addr} {ccd : Value} {outer : List Env} {A₀ : Around} {base h₀ : Heap} {L : Addr} {m : Str → Option Value} {s : Shared} {Q E : Value → Shared → Prop} {rst : List (Addr × Obj)} {x dx : Addr} {ks : Tk6} {cur : Str} {cu li lb br ke : Int} {t1 t2 t3 t4 t5 t6 : Tok}
    (B : Below A₀ base outer h₀) (F : Fr h₀ L s.heap m) (X : (heap_39 w.params).In h₀) (N : News h₀ L s.heap (stN x dx (stD w.params ks cur t1 cu t2 li t3 lb t4 br t5 ke t6) rst)) (T : Top viewQ (looseW viewQ looseN) mean mg mb h₀) (hk : cs.kind = .function)
    (hne : x ≠ dx) (hoff : OwnOff rst [x, dx]) (hx : cur.length ≤ 1000) (hcu : cu = cur.length) (hli : li = cur.length) (hlb : lb = 0) (hdp : dp + 8 < recursionLimit) (hun : un + 64 < cLine)
    (XB : (heap_39 w.params).In base) (TB : Top viewQ (looseW viewQ looseN) mean mg mb base) (D : KtsDicts (outer.filterMap (·.frame)) h₀)
    (ret : ∀ h₀' b cur' t1' cu' t2' li' t3' br' t5' ke' t6' h' tk', KtsTurn (outer.filterMap (·.frame)) h₀ h₀' → Fr h₀' L h' m → News h₀' L h' (stN x dx (stD w.params ks cur' t1' cu' t2' li' t3' lb t4 br' t5' ke' t6') rst) → Below A₀ base outer h₀' → (heap_39 w.params).In h₀' → Top viewQ (looseW viewQ looseN) mean mg mb h₀' → KtsDicts (outer.filterMap (·.frame)) h₀' → cur' = rvT (cat2 (rv cur)) → li' = cur'.length → Q (.bool b) { s with heap := h', toks := tk' }) :
    wpAny (model PySem.Challenge.rw_iu0021_01.row.prog w) (ktrTop dp un gd cn cs L a ccd [] outer) (call (.ref 243) [.ref x]) Q E s := by
  revert X; k_fill; intro X
  refine wpAny_call ?_
  walk_at "mine enterS"
  subst hlb
  rename Frag.In _ _ => Xg
  have hT2 := tab1 Xg
  have hG2 := good1
  have hL2 := len1
  k_steps
  refine stop_go ?_
  intro res9 tr9 c9 t9 h9 tk9 F9 N9 hfound
  (try dsimp only)
  have er : (rv cur).drop (cur.length - cu.toNat) = rv cur := by
    have : cur.length - cu.toNat = 0 := by omega
    rw [this, List.drop_zero]
  rw [er] at hfound
  rcases hfound with ⟨hn, hres, hcu9⟩ | ⟨i, hi, hb, hres, hcu9⟩
  · subst hres
    k_steps
    refine (?_ : Q _ _)
    exact ret h₀ false cur _ _ _ _ _ _ _ _ _ _ _ KtsTurn.refl (by assumption) (by assumption) B X T D (by rw [cat2_none hn, rvT_rv]) hli
  · rcases keys1 hi with ⟨h1, c, hc, h2⟩ | ⟨h1, h2⟩
    · rw [h1] at hres
      subst hres
      rw [h2] at hb hcu9
      obtain ⟨t, ht⟩ := hb.2.1
      have hl : cur.length = t.length + 1 := by rw [← rv_length, ← ht]; rfl
      simp only [List.length_singleton] at hcu9
      k_steps
      refine stop_go ?_
      rename Fr _ _ _ _ => F0
      rename News _ _ _ _ => N0
      have hcat : cat2 (rv cur) = if stems4.any (fun p => p.isPrefixOf t) then t else rv cur := by
        rw [← ht]
        show cat2 (c :: t) = _
        simp only [cat2, if_pos hc]
        rfl
      have hah : (rv cur).drop (cur.length - c9.toNat) = t := by
        rw [← ht]
        have : cur.length - c9.toNat = 1 := by omega
        rw [this]
        rfl
      have hgo : ∀ p ∈ stems4, p <+: t → tx ((Mine.cs cur).take c9.toNat) = rvT (cat2 (rv cur)) := by
        intro p hp hpt
        have : (stems4.any fun p => p.isPrefixOf t) = true := List.any_eq_true.mpr ⟨p, hp, List.isPrefixOf_iff_prefix.mpr hpt⟩
        rw [hcat, if_pos this, take_rv (n := 1) (by omega) (by omega), ← ht]
        rfl
      have hlc : (((tx ((Mine.cs cur).take c9.toNat)).length : Nat) : Int) = c9 := by
        rw [tx_length, List.length_take, cs_length]
        omega
      refine wpAny_mono (E := fun _ _ => False) ?_ (fun _ _ h => h) (fun _ _ h => h.elim)
      refine whl_start 1 ?_
      refine whl_turn PassesOwn.never ?_
      k_steps
      refine stop_go ?_
      intro b1 c8 t8 h8 tk8 F8 N8 q1 q2
      (try dsimp only)
      rw [hah, y1] at q1 q2
      cases b1
      · obtain ⟨n1, e8⟩ := q2 rfl
        replace e8 := e8.symm
        subst e8
        clear q1 q2
        k_steps
        refine stop_go ?_
        intro b1 c8 t8 h8 tk8 F8 N8 q1 q2
        (try dsimp only)
        rw [hah, y2] at q1 q2
        cases b1
        · obtain ⟨n2, e8⟩ := q2 rfl
          replace e8 := e8.symm
          subst e8
          clear q1 q2
          k_steps
          refine stop_go ?_
          intro b1 c8 t8 h8 tk8 F8 N8 q1 q2
          (try dsimp only)
          rw [hah, y3] at q1 q2
          cases b1
          · obtain ⟨n3, e8⟩ := q2 rfl
            replace e8 := e8.symm
            subst e8
            clear q1 q2
            k_steps
            refine stop_go ?_
            intro b1 c8 t8 h8 tk8 F8 N8 q1 q2
            (try dsimp only)
            rw [hah, y4] at q1 q2
            cases b1
            · obtain ⟨n4, e8⟩ := q2 rfl
              replace e8 := e8.symm
              subst e8
              clear q1 q2
              k_steps
              refine (?_ : Q _ _)
              have hno : cur = rvT (cat2 (rv cur)) := by
                rw [hcat, if_neg, rvT_rv]
                intro hh
                obtain ⟨p, hp, hpt⟩ := List.any_eq_true.mp hh
                have hpt := List.isPrefixOf_iff_prefix.mp hpt
                simp only [stems4, List.mem_cons, List.not_mem_nil, or_false] at hp
                rcases hp with rfl | rfl | rfl | rfl
                · exact n1 hpt
                · exact n2 hpt
                · exact n3 hpt
                · exact n4 hpt
              exact ret _ false cur _ _ _ _ _ _ _ _ _ _ _ (by assumption) (by assumption) (by assumption) (by assumption) (by assumption) (by assumption) (by assumption) hno hli
            · obtain ⟨p4, hc8⟩ := q1 rfl
              clear q1 q2
              have hb1 := p4.length_le
              simp only [List.length_cons, List.length_nil] at hb1
              rw [z4] at hc8
              have hg := hgo _ (by decide) p4
              k_steps
              refine (?_ : Q _ _)
              exact ret _ true _ _ _ _ _ _ _ _ _ _ _ _ (by assumption) (by assumption) (by assumption) (by assumption) (by assumption) (by assumption) (by assumption) hg (by rw [hlc]; assumption)
          · obtain ⟨p3, hc8⟩ := q1 rfl
            clear q1 q2
            have hb1 := p3.length_le
            simp only [List.length_cons, List.length_nil] at hb1
            rw [z3] at hc8
            have hg := hgo _ (by decide) p3
            k_steps
            refine (?_ : Q _ _)
            exact ret _ true _ _ _ _ _ _ _ _ _ _ _ _ (by assumption) (by assumption) (by assumption) (by assumption) (by assumption) (by assumption) (by assumption) hg (by rw [hlc]; assumption)
        · obtain ⟨p2, hc8⟩ := q1 rfl
          clear q1 q2
          have hb1 := p2.length_le
          simp only [List.length_cons, List.length_nil] at hb1
          rw [z2] at hc8
          have hg := hgo _ (by decide) p2
          k_steps
          refine (?_ : Q _ _)
          exact ret _ true _ _ _ _ _ _ _ _ _ _ _ _ (by assumption) (by assumption) (by assumption) (by assumption) (by assumption) (by assumption) (by assumption) hg (by rw [hlc]; assumption)
      · obtain ⟨p1, hc8⟩ := q1 rfl
        clear q1 q2
        have hb1 := p1.length_le
        simp only [List.length_cons, List.length_nil] at hb1
        rw [z1] at hc8
        have hg := hgo _ (by decide) p1
        k_steps
        refine (?_ : Q _ _)
        exact ret h₀ true _ _ _ _ _ _ _ _ _ _ _ _ KtsTurn.refl (by assumption) (by assumption) B X T D hg (by rw [hlc]; assumption)
    · rw [h1] at hres
      subst hres
      rw [h2] at hb hcu9
      obtain ⟨t, ht⟩ := hb.2.1
      have hl : cur.length = t.length + 1 := by rw [← rv_length, ← ht]; rfl
      simp only [List.length_singleton] at hcu9
      have hcat : cat2 (rv cur) = if tra.isPrefixOf t then t else rv cur := by
        rw [← ht]
        show cat2 (2376 :: t) = _
        simp only [cat2, show nasal.contains 2376 = false from by decide]
        rfl
      have hah : (rv cur).drop (cur.length - c9.toNat) = t := by
        rw [← ht]
        have : cur.length - c9.toNat = 1 := by omega
        rw [this]
        rfl
      have hlc : (((tx ((Mine.cs cur).take c9.toNat)).length : Nat) : Int) = c9 := by
        rw [tx_length, List.length_take, cs_length]
        omega
      k_steps
      refine stop_go ?_
      intro b1 c8 t8 h8 tk8 F8 N8 q1 q2
      (try dsimp only)
      rw [hah, y5] at q1 q2
      cases b1
      · obtain ⟨n1, e8⟩ := q2 rfl
        replace e8 := e8.symm
        subst e8
        clear q1 q2
        k_steps
        refine (?_ : Q _ _)
        have hno : cur = rvT (cat2 (rv cur)) := by
          rw [hcat, if_neg (fun hh => n1 (List.isPrefixOf_iff_prefix.mp hh)), rvT_rv]
        exact ret h₀ false cur _ _ _ _ _ _ _ _ _ _ _ KtsTurn.refl (by assumption) (by assumption) B X T D hno hli
      · obtain ⟨p1, hc8⟩ := q1 rfl
        clear q1 q2
        have hb1 := p1.length_le
        simp only [tra, List.length_cons, List.length_nil] at hb1
        rw [z5] at hc8
        have hg : tx ((Mine.cs cur).take c9.toNat) = rvT (cat2 (rv cur)) := by
          rw [hcat, if_pos (List.isPrefixOf_iff_prefix.mpr p1), take_rv (n := 1) (by omega) (by omega), ← ht]
          rfl
        k_steps
        refine (?_ : Q _ _)
        exact ret h₀ true _ _ _ _ _ _ _ _ _ _ _ _ KtsTurn.refl (by assumption) (by assumption) B X T D hg (by rw [hlc]; assumption)
end

end
section
open PySem PySem.W PyProof PyProof.Rows
theorem len0 : a0.length ≤ 100 := by decide
theorem res0_all : (List.range a0.length).all (fun i => (resAt a0 i == 1 && !softK.contains (keyAt a0 i)) || (resAt a0 i == 2 && softK.contains (keyAt a0 i) && (keyAt a0 i).length == 2)) = true := by decide +kernel
theorem res0 {i : Nat} (h : i < a0.length) : (resAt a0 i = 1 ∧ keyAt a0 i ∉ softK) ∨ (resAt a0 i = 2 ∧ keyAt a0 i ∈ softK ∧ (keyAt a0 i).length = 2) := by
  have := List.all_eq_true.mp res0_all i (List.mem_range.mpr h)
  simp only [Bool.or_eq_true, Bool.and_eq_true, beq_iff_eq, Bool.not_eq_true', List.contains_iff_mem] at this
  rcases this with ⟨h1, h2⟩ | ⟨⟨h1, h2⟩, h3⟩
  · refine .inl ⟨h1, fun hm => ?_⟩
    rw [← List.contains_iff_mem, h2] at hm
    cases hm
  · exact .inr ⟨h1, h2, h3⟩
theorem e1_is : Str.ofString "ए" = ⟨#[2319]⟩ := by decide +kernel
theorem e2_is : Str.ofString "े" = ⟨#[2375]⟩ := by decide +kernel
theorem soft_at {x : PySem.Str} {c : Int} (h0 : 0 < c) (h1 : c ≤ x.length) : ∃ n, Txt.item x (c - 1) = ⟨#[n]⟩ ∧ soft ((rv x).drop (x.length - c.toNat)) = holdC.contains n := by
  have hl : (c - 1).toNat < x.cps.size := by
    have : x.length = x.cps.size := rfl
    omega
  refine ⟨x.cps[(c - 1).toNat], item_meets (by omega) (Array.getElem?_eq_getElem hl), ?_⟩
  have hn : (0 : Nat) < c.toNat := by omega
  have hlen := ahead_length (x := x) (c := c) (by omega) h1
  have hg := ahead_get (n := 0) h1 hn
  cases hd : (rv x).drop (x.length - c.toNat) with
  | nil => rw [hd] at hlen; simp at hlen; omega
  | cons d t =>
    rw [hd] at hg
    have e : d = x.cps[(c - 1).toNat] := by
      have e2 : c.toNat - 1 - 0 = (c - 1).toNat := by omega
      have e3 : (cs x).getD (c - 1).toNat 0 = x.cps[(c - 1).toNat] := by
        have hl' : (c - 1).toNat < (cs x).length := by simpa [cs] using hl
        rw [List.getD_eq_getElem?_getD, List.getElem?_eq_getElem hl']
        simp only [Option.getD_some]
        exact Array.getElem_toList ..
      rw [e2, e3] at hg
      exact hg
    simp only [soft, List.head?_cons]
    rw [e]
theorem soft_yes {x : PySem.Str} {c : Int} (h0 : 0 < c) (h1 : c ≤ x.length) (h : Txt.item x (c - 1) = Str.ofString "ए" ∨ Txt.item x (c - 1) = Str.ofString "े") : soft ((rv x).drop (x.length - c.toNat)) = true := by
  obtain ⟨n, e1, e2⟩ := soft_at h0 h1
  rw [e2]
  rw [e1, e1_is, e2_is] at h
  rcases h with h | h
  · have : n = 2319 := by simpa using h
    rw [this]; rfl
  · have : n = 2375 := by simpa using h
    rw [this]; rfl
theorem soft_no {x : PySem.Str} {c : Int} (h0 : 0 < c) (h1 : c ≤ x.length) (h : Txt.item x (c - 1) ≠ Str.ofString "ए") (h' : Txt.item x (c - 1) ≠ Str.ofString "े") : soft ((rv x).drop (x.length - c.toNat)) = false := by
  obtain ⟨n, e1, e2⟩ := soft_at h0 h1
  rw [e2]
  rw [e1, e1_is] at h
  rw [e1, e2_is] at h'
  rw [Bool.eq_false_iff]
  intro hc
  have hm := List.contains_iff_mem.mp hc
  simp only [holdC, List.mem_cons, List.not_mem_nil, or_false] at hm
  rcases hm with rfl | rfl
  · exact h rfl
  · exact h' rfl
theorem soft_nil {x : PySem.Str} {c : Int} (h : c ≤ 0) : soft ((rv x).drop (x.length - c.toNat)) = false := by
  have : x.length - c.toNat = (rv x).length := by rw [rv_length]; omega
  rw [this, List.drop_length]
  rfl
section
set_option maxRecDepth 100000 in
set_option maxHeartbeats 8000000 in
theorem cat1_call {w : World} {mean : ExcName → Option Value} {mg mb : Str → Option Value} {dp un : Nat} {gd : Option (List Code)} {cn : Str} {cs : Scope} {a : Addr} {ccd : Value} {outer : List Env} {A₀ : Around} {base h₀ : Heap} {L : Addr} {m : Str → Option Value} {s : Shared} {Q E : Value → Shared → Prop} {rst : List (Addr × Obj)} {x dx : Addr} {ks : Tk6} {cur : Str} {cu li lb br ke : Int} {t1 t2 t3 t4 t5 t6 : Tok}
    (B : Below A₀ base outer h₀) (F : Fr h₀ L s.heap m) (X : (heap_39 w.params).In h₀) (N : News h₀ L s.heap (stN x dx (stD w.params ks cur t1 cu t2 li t3 lb t4 br t5 ke t6) rst)) (T : Top viewQ (looseW viewQ looseN) mean mg mb h₀) (hk : cs.kind = .function)
    (hne : x ≠ dx) (hoff : OwnOff rst [x, dx]) (hx : cur.length ≤ 1000) (hcu : cu = cur.length) (hli : li = cur.length) (hlb : lb = 0) (hdp : dp + 8 < recursionLimit) (hun : un + 64 < cLine)
    (XB : (heap_39 w.params).In base) (TB : Top viewQ (looseW viewQ looseN) mean mg mb base) (D : KtsDicts (outer.filterMap (·.frame)) h₀)
    (ret : ∀ h₀' b cur' t1' cu' t2' li' t3' br' t5' ke' t6' h' tk', KtsTurn (outer.filterMap (·.frame)) h₀ h₀' → Fr h₀' L h' m → News h₀' L h' (stN x dx (stD w.params ks cur' t1' cu' t2' li' t3' lb t4 br' t5' ke' t6') rst) → Below A₀ base outer h₀' → (heap_39 w.params).In h₀' → Top viewQ (looseW viewQ looseN) mean mg mb h₀' → KtsDicts (outer.filterMap (·.frame)) h₀' → cur' = rvT (first (rv cur)) → li' = cur'.length → Q (.bool b) { s with heap := h', toks := tk' }) :
    wpAny (model PySem.Challenge.rw_iu0021_01.row.prog w) (ktrTop dp un gd cn cs L a ccd [] outer) (call (.ref 236) [.ref x]) Q E s := by
  revert X; k_fill; intro X
  refine wpAny_call ?_
  walk_at "mine enterS"
  subst hlb
  rename Frag.In _ _ => Xg
  have hT2 := tab0 Xg
  have hG2 := good0
  have hL2 := len0
  k_steps
  refine stop_go ?_
  intro res9 tr9 c9 t9 h9 tk9 F9 N9 hfound
  (try dsimp only)
  have er : (rv cur).drop (cur.length - cu.toNat) = rv cur := by
    have : cur.length - cu.toNat = 0 := by omega
    rw [this, List.drop_zero]
  rw [er] at hfound
  rcases hfound with ⟨hn, hres, hcu9⟩ | ⟨i, hi, hb, hres, hcu9⟩
  · subst hres
    k_steps
    refine (?_ : Q _ _)
    exact ret h₀ false cur _ _ _ _ _ _ _ _ _ _ _ KtsTurn.refl (by assumption) (by assumption) B X T D (by rw [first_none hn, rvT_rv]) hli
  · have hbl := best_len hG2.sized hb
    rw [rv_length] at hbl
    have htk := take_rv (x := cur) (c := c9) (n := (keyAt a0 i).length) (hcu9.trans (by rw [hcu])) hbl.2
    have hlc : (((tx ((Mine.cs cur).take c9.toNat)).length : Nat) : Int) = c9 := by
      rw [tx_length, List.length_take, cs_length]
      omega
    rcases res0 hi with ⟨h1, h2⟩ | ⟨h1, h2, h3⟩
    · rw [h1] at hres
      subst hres
      k_steps
      refine (?_ : Q _ _)
      exact ret h₀ true _ _ _ _ _ _ _ _ _ _ _ _ KtsTurn.refl (by assumption) (by assumption) B X T D (by rw [first_hard hb h2, htk]) (by rw [hlc]; assumption)
    · rw [h1] at hres
      subst hres
      have hdr : (rv cur).drop (cur.length - c9.toNat) = (rv cur).drop (keyAt a0 i).length := by
        congr 1
        omega
      have hf := first_soft hb h2
      rw [← hdr] at hf
      k_steps
      refine stop_go ?_
      refine wpAny_mono (E := fun _ _ => False) ?_ (fun _ _ h => h) (fun _ _ h => h.elim)
      refine whl_start 1 ?_
      refine whl_turn PassesOwn.never ?_
      have hc9 : c9 ≤ cur.length := by omega
      k_steps
      · refine (?_ : Q _ _)
        have hg : tx ((Mine.cs cur).take c9.toNat) = rvT (first (rv cur)) := by
          rw [hf, if_neg (by rw [soft_nil (by assumption)]; decide), hdr, htk]
        exact ret _ true _ _ _ _ _ _ _ _ _ _ _ _ (by assumption) (by assumption) (by assumption) (by assumption) (by assumption) (by assumption) (by assumption) hg (by rw [hlc]; assumption)
      · refine (?_ : Q _ _)
        rename ¬ c9 ≤ 0 => k1
        rename (Txt.item cur (c9 - 1) != Str.ofString "ए") = true => k2
        rename (Txt.item cur (c9 - 1) != Str.ofString "े") = true => k3
        have hg : tx ((Mine.cs cur).take c9.toNat) = rvT (first (rv cur)) := by
          rw [hf, if_neg (by rw [soft_no (by omega) hc9 (by simpa using k2) (by simpa using k3)]; decide), hdr, htk]
        exact ret _ true _ _ _ _ _ _ _ _ _ _ _ _ (by assumption) (by assumption) (by assumption) (by assumption) (by assumption) (by assumption) (by assumption) hg (by rw [hlc]; assumption)
      · refine (?_ : Q _ _)
        rename ¬ c9 ≤ 0 => k1
        rename (Txt.item cur (c9 - 1) != Str.ofString "े") = false => k3
        have hg : cur = rvT (first (rv cur)) := by
          rw [hf, if_pos (soft_yes (by omega) hc9 (.inr (by simpa using k3))), rvT_rv]
        exact ret _ true cur _ _ _ _ _ _ _ _ _ _ _ (by assumption) (by assumption) (by assumption) (by assumption) (by assumption) (by assumption) (by assumption) hg hli
      · refine (?_ : Q _ _)
        rename ¬ c9 ≤ 0 => k1
        rename (Txt.item cur (c9 - 1) != Str.ofString "ए") = false => k2
        have hg : cur = rvT (first (rv cur)) := by
          rw [hf, if_pos (soft_yes (by omega) hc9 (.inl (by simpa using k2))), rvT_rv]
        exact ret h₀ true cur _ _ _ _ _ _ _ _ _ _ _ KtsTurn.refl (by assumption) (by assumption) B X T D hg hli
end

end
local macro_rules | `(tactic| walk_at "mine enter") => `(tactic| (k_dflt (refine' call_turned ?k1 ?k2 ?k3 ?k4 ?k5 ?XB ?TB ?D ?kA ?kF ?kK ?k6 ?k7 ?k8 ?k9 ?kB ?_ ?c2 ?c3 ?c4 ?c5; (case kA => exact rfl); (case kF => exact rfl); (case kK => assumption); (case k2 => k_asm); (case k1 => k_asm); (case XB => assumption); (case TB => assumption); (case D => assumption); (case k3 => k_asm); (case k4 => k_asm); (case k5 => k_asm); (case k6 => k_is); (case k7 => k_is); (case k8 => ktr_room); (case k9 => exact BindsTo.of_eq rfl); (case kB => exact locs rfl); (case c2 => exact rfl); (case c3 => exact rfl); (case c4 => exact rfl); (case c5 => decide); k_whole)))
section
open PySem PySem.W PyProof PyProof.Rows
theorem cat2_len : ∀ r : Cs, (cat2 r).length ≤ r.length
  | [] => Nat.le_refl _
  | c :: t => by
    simp only [cat2]
    repeat' split
    all_goals simp
theorem first_len (r : Cs) : (first r).length ≤ r.length := by
  unfold first
  split
  · exact Nat.le_refl _
  · exact cut_length_le sized_case r
structure SS where
  cur : PySem.Str
  cu : Int
  li : Int
  br : Int
  ke : Int
  t1 : Tok
  t2 : Tok
  t3 : Tok
  t5 : Tok
  t6 : Tok
structure Turned (A₀ : Around) (base : Heap) (outer : List Env) (K : Frag) (p : Program) (loose : List PySem.Str) (mean : ExcName → Option Value) (mg mb : PySem.Str → Option Value) (g g' : Heap) : Prop where
  turn : KtsTurn (outer.filterMap (·.frame)) g g'
  below : Below A₀ base outer g'
  kin : K.In g'
  top : Top p loose mean mg mb g'
  dicts : KtsDicts (outer.filterMap (·.frame)) g'
section
local macro_rules | `(tactic| walk_at "mine cat1") => `(tactic| ((with_reducible show wpAny _ _ (call (Value.ref 236) _) _ _ _); k_dflt (refine' cat1_call ?kB ?kF ?kX ?kN ?kT ?kk ?k1 ?k2 ?k3 ?k4 ?k5 ?k6 ?kd ?ku ?kXB ?kTB ?kD ?kr); (case kB => assumption); (case kF => k_asm); (case kX => assumption); (case kN => k_asm); (case kT => assumption); (case kk => exact rfl); (case k1 => assumption); (case k2 => assumption); (case k3 => assumption); (case k4 => omega); (case k5 => omega); (case k6 => rfl); (case kXB => assumption); (case kTB => assumption); (case kD => assumption); (case kd => ktr_room); (case ku => ktr_units); refine stop_of ?_))
local macro_rules | `(tactic| walk_at "mine cat2") => `(tactic| ((with_reducible show wpAny _ _ (call (Value.ref 243) _) _ _ _); k_dflt (refine' cat2_call ?kB ?kF ?kX ?kN ?kT ?kk ?k1 ?k2 ?k3 ?k4 ?k5 ?k6 ?kd ?ku ?kXB ?kTB ?kD ?kr); (case kB => assumption); (case kF => k_asm); (case kX => assumption); (case kN => k_asm); (case kT => assumption); (case kk => exact rfl); (case k1 => assumption); (case k2 => assumption); (case k3 => assumption); (case k4 => omega); (case k5 => omega); (case k6 => rfl); (case kXB => assumption); (case kTB => assumption); (case kD => assumption); (case kd => ktr_room); (case ku => ktr_units); refine stop_of ?_))
local macro_rules | `(tactic| walk_at "mine cat3") => `(tactic| ((with_reducible show wpAny _ _ (call (Value.ref 250) _) _ _ _); k_dflt (refine' cat3_call ?kB ?kF ?kX ?kN ?kT ?kk ?k1 ?k2 ?k3 ?k4 ?k5 ?k6 ?kd ?ku ?kr); (case kB => assumption); (case kF => k_asm); (case kX => assumption); (case kN => k_asm); (case kT => assumption); (case kk => exact rfl); (case k1 => assumption); (case k2 => assumption); (case k3 => assumption); (case k4 => omega); (case k5 => omega); (case k6 => rfl); (case kd => ktr_room); (case ku => ktr_units); refine stop_of ?_))
local macro_rules | `(tactic| walk_at "call ref") => `(tactic| first | walk_at "mine cat1" | walk_at "mine cat2" | walk_at "mine cat3")
local macro_rules | `(tactic| walk_at "exec While Constant cons nil") => `(tactic| (refine stop_of ?_))
local macro_rules | `(tactic| walk_at "WT") => `(tactic| (refine stop_of ?_))
local macro_rules | `(tactic| walk_at "mine sameW") => `(tactic| (intro z h3; (simp only [List.contains_cons, List.contains_nil, Bool.or_false, Bool.or_eq_false_iff, beq_eq_false_iff_ne, ne_eq] at h3); (first | rfl | (simp [h3]; done))))
set_option maxRecDepth 100000 in
set_option maxHeartbeats 8000000 in
theorem stem_call {w : World} {mean : ExcName → Option Value} {mg mb : Str → Option Value} {dp un : Nat} {gd : Option (List Code)} {cn : Str} {cs : Scope} {a : Addr} {ccd : Value} {cl : List (Str × Addr)} {outer : List Env} {A₀ : Around} {base h₀ : Heap} {L : Addr} {m : Str → Option Value} {s : Shared} {Q E : Value → Shared → Prop} {rst : List (Addr × Obj)} {x dx : Addr} {ks : Tk6} {cur : Str} {cu li lb br ke : Int} {t1 t2 t3 t4 t5 t6 : Tok}
    (B : Below A₀ base outer h₀) (F : Fr h₀ L s.heap m) (X : (heap_39 w.params).In h₀) (N : News h₀ L s.heap (stN x dx (stD w.params ks cur t1 cu t2 li t3 lb t4 br t5 ke t6) rst)) (T : Top viewQ (looseW viewQ looseN) mean mg mb h₀) (hk : cs.kind = .function)
    (hne : x ≠ dx) (hoff : OwnOff rst [x, dx]) (hx : cur.length ≤ 1000) (hcu : cu = 0) (hli : li = cur.length) (hdp : dp + 12 < recursionLimit) (hun : un + 100 < cLine)
    (XB : (heap_39 w.params).In base) (TB : Top viewQ (looseW viewQ looseN) mean mg mb base) (D : KtsDicts (outer.filterMap (·.frame)) h₀)
    (ret : ∀ h₀' cur' t1' cu' t2' li' t3' lb' t4' br' t5' ke' t6' h' tk', KtsTurn (outer.filterMap (·.frame)) h₀ h₀' → Fr h₀' L h' m → News h₀' L h' (stN x dx (stD w.params ks cur' t1' cu' t2' li' t3' lb' t4' br' t5' ke' t6') rst) → Below A₀ base outer h₀' → (heap_39 w.params).In h₀' → Top viewQ (looseW viewQ looseN) mean mg mb h₀' → KtsDicts (outer.filterMap (·.frame)) h₀' → cur' = rvT (stem (rv cur)) → Q (.bool true) { s with heap := h', toks := tk' }) :
    wpAny (model PySem.Challenge.rw_iu0021_01.row.prog w) (ktrTop dp un gd cn cs L a ccd cl outer) (call (.ref 257) [.ref x]) Q E s := by
  revert X; k_fill; intro X
  refine wpAny_call ?_
  walk_at "mine enter"
  intro g L1 h1 FG F1 N1 B1 X1 P1 D1
  (try dsimp only)
  (try k_fold)
  subst hcu
  k_steps
  refine stop_go ?_
  intro g2 b1 cur1 ta1 cu1 tb1 li1 tc1 br1 td1 ke1 te1 h2 tk1 T2 F2 N2 B2 X2 P2 D2 e1 e2
  (try dsimp only)
  k_steps
  refine stop_go ?_
  rename Fr _ _ _ _ => F0
  rename News _ _ _ _ => N0
  refine wpAny_mono (E := fun _ _ => False) ?_ (fun _ _ h => h) (fun _ _ h => h.elim)
  have hl1 : cur1.length ≤ 1000 := by
    rw [e1, rvT_length]
    have := first_len (rv cur)
    rw [rv_length] at this
    omega
  refine while_turned (σ := SS) (Turned (ktrTop dp un gd cn cs L a ccd cl outer) base (envX cn cs L a ccd cl :: outer) (heap_39 w.params) viewQ (looseW viewQ looseN) mean mg mb g) (fun c => stN x dx (stD w.params ks c.cur c.t1 c.cu c.t2 c.li c.t3 0 t2 c.br c.t5 c.ke c.t6) rst) [Str.ofString "v_2", Str.ofString "v_3"]
    (fun c => c.cur.length ≤ 1000 ∧ c.cu = c.li ∧ c.li = c.cur.length ∧ rest endsK lastK (rv c.cur) = rest endsK lastK (rv cur1)) (fun c => c.cur.length) ⟨cur1, _, li1, _, _, _, _, _, _, _⟩ F0 N0 ⟨hl1, by dsimp only; omega, e2, rfl⟩ ⟨T2, B2, X2, P2, D2⟩ ?turn PassesOwn.never
  case turn =>
    clear F0 N0 T2 B2 X2 P2 D2
    intro c u g3 h3 tk3 hP hT F3 N3
    obtain ⟨cur3, cu3, li3, br3, ke3, ta3, tb3, tc3, td3, te3⟩ := c
    obtain ⟨T3, B3, X3, P3, D3⟩ := hT
    dsimp only at hP F3 N3
    obtain ⟨hl3, hc3, hd3, hr3⟩ := hP
    k_steps
    refine stop_go ?_
    intro g4 b4 cur4 ta4 cu4 tb4 li4 tc4 br4 td4 ke4 te4 h4 tk4 T4 F4 N4 B4 X4 P4 D4 e4 e5
    (try dsimp only)
    have T4' := T3.trans T4
    clear T4
    have hl4 : cur4.length ≤ 1000 := by
      rw [e4, rvT_length]
      have := cat2_len (rv cur3)
      rw [rv_length] at this
      omega
    k_steps
    refine stop_go ?_
    intro b5 cur5 ta5 cu5 tb5 li5 tc5 br5 td5 ke5 te5 h5 tk5 F5 N5 q1 q2 e6
    (try dsimp only)
    cases b5
    · obtain ⟨hn, e7⟩ := q2 rfl
      clear q1 q2
      subst e7
      k_steps
      refine stop_go ?_
      (try dsimp only [WT])
      k_steps
      refine (?_ : Q _ _)
      rename KtsTurn _ h₀ _ => Tz
      refine ret _ cur5 _ _ _ _ _ _ _ _ _ _ _ _ _ Tz (by assumption) (by assumption) (by assumption) (by assumption) (by assumption) (by assumption) ?_
      have ec : rv cur5 = cat2 (rv cur3) := by rw [e4, rv_rvT]
      rw [ec] at hn
      have e9 := round_end hn
      rw [hr3, e1, rv_rvT] at e9
      rw [e4, ← e9]
      rfl
    · obtain ⟨k, hb, e7, e8⟩ := q1 rfl
      clear q1 q2
      k_steps
      have ec : rv cur4 = cat2 (rv cur3) := by rw [e4, rv_rvT]
      rw [ec] at hb e7
      have er := round_go hb
      have hkl := best_len good2.sized hb
      have hl5 : cur5.length < cur3.length := by
        rw [e7, rvT_length, List.length_drop]
        have := cat2_len (rv cur3)
        rw [rv_length] at this
        omega
      refine stop_go ?_
      refine WT.again (.inr rfl) ⟨cur5, cu5, li5, br5, ke5, ta5, tb5, tc5, td5, te5⟩ (by k_asm) (by k_asm) (fun _ h => h) (by walk_at "mine sameW") ⟨by dsimp only; omega, e8, e6, ?_⟩ hl5 ⟨T4', B4, X4, P4, D4⟩
      dsimp only
      rw [e7, rv_rvT, er, hr3]
end

end
section
open PySem PySem.W PyProof PyProof.Rows
section
local macro_rules | `(tactic| walk_at "mine stem") => `(tactic| ((with_reducible show wpAny _ _ (call (Value.ref 257) _) _ _ _); k_dflt (refine' stem_call ?kB ?kF ?kX ?kN ?kT ?kk ?k1 ?k2 ?k3 ?k4 ?k5 ?kd ?ku ?kXB ?kTB ?kD ?kr); (case kB => assumption); (case kF => k_asm); (case kX => assumption); (case kN => k_asm); (case kT => assumption); (case kk => exact rfl); (case k1 => assumption); (case k2 => assumption); (case k3 => assumption); (case k4 => rfl); (case k5 => rfl); (case kXB => assumption); (case kTB => assumption); (case kD => assumption); (case kd => ktr_room); (case ku => ktr_units); refine stop_of ?_))
local macro_rules | `(tactic| walk_at "mine plain") => `(tactic| (k_here; refine wpAny_call ?_; k_dflt (refine' code_def ?k1 ?k2 ?k3 ?k4 ?k5 ?kA ?kF ?kK ?k6 ?k7 ?k8 ?k9 ?kB ?_ ?c2 ?c3 ?c4 ?c5; (case kA => exact rfl); (case kF => exact rfl); (case kK => first | exact rfl | assumption); (case k1 => k_asm); (case k2 => k_asm); (case k3 => k_asm); (case k4 => k_asm); (case k5 => k_asm); (case k6 => k_is); (case k7 => k_is); (case k8 => ktr_room); (case k9 => exact BindsTo.of_eq rfl); (case c5 => decide); (case kB => exact locs rfl); (case c2 => exact rfl); (case c3 => exact rfl); (case c4 => exact rfl); k_whole; intro g' L' h' FG' F' N' B' X' T'; (try dsimp only); (try k_fold))))
local macro_rules | `(tactic| walk_at "call ref") => `(tactic| first | walk_at "mine stem" | ((with_reducible show wpAny _ _ (call (Value.ref 257) _) _ _ _); refine stop_of ?_) | walk_at "mine plain")
set_option maxRecDepth 100000 in
set_option maxHeartbeats 8000000 in
theorem word_call {w : World} {mean : ExcName → Option Value} {mg mb : Str → Option Value} {dp un : Nat} {gd : Option (List Code)} {cn : Str} {cs : Scope} {a : Addr} {ccd : Value} {cl : List (Str × Addr)} {outer : List Env} {A₀ : Around} {base h₀ : Heap} {L : Addr} {m : Str → Option Value} {s : Shared} {Q E : Value → Shared → Prop} {rst : List (Addr × Obj)} {x dx : Addr} {ks : Tk6} {cur : Str} {cu li lb br ke : Int} {t1 t2 t3 t4 t5 t6 : Tok} {wd : Str} {tw : Tok}
    (B : Below A₀ base outer h₀) (F : Fr h₀ L s.heap m) (X : (heap_39 w.params).In h₀) (N : News h₀ L s.heap (stN x dx (stD w.params ks cur t1 cu t2 li t3 lb t4 br t5 ke t6) rst)) (T : Top viewQ (looseW viewQ looseN) mean mg mb h₀) (hk : cs.kind = .function)
    (hne : x ≠ dx) (hoff : OwnOff rst [x, dx]) (hx : wd.length ≤ 1000) (hdp : dp + 16 < recursionLimit) (hun : un + 200 < cLine)
    (XB : (heap_39 w.params).In base) (TB : Top viewQ (looseW viewQ looseN) mean mg mb base) (D : KtsDicts (outer.filterMap (·.frame)) h₀)
    (ret : ∀ h₀' cur' t1' cu' t2' li' t3' lb' t4' br' t5' ke' t6' t h' tk', KtsTurn (outer.filterMap (·.frame)) h₀ h₀' → Fr h₀' L h' m → News h₀' L h' (stN x dx (stD w.params ks cur' t1' cu' t2' li' t3' lb' t4' br' t5' ke' t6') rst) → Below A₀ base outer h₀' → (heap_39 w.params).In h₀' → Top viewQ (looseW viewQ looseN) mean mg mb h₀' → KtsDicts (outer.filterMap (·.frame)) h₀' → Q (.str (rvT (stem (rv wd))) t) { s with heap := h', toks := tk' }) :
    wpAny (model PySem.Challenge.rw_iu0021_01.row.prog w) (ktrTop dp un gd cn cs L a ccd cl outer) (call (.ref 189) [.ref x, .str wd tw]) Q E s := by
  revert X; k_fill; intro X
  refine wpAny_call ?_
  walk_at "mine enter"
  intro g L1 h1 FG F1 N1 B1 X1 P1 D1
  (try dsimp only)
  (try k_fold)
  k_steps
  refine stop_go ?_
  walk_at "mine stem"
  refine stop_go ?_
  intro g2 cur1 ta1 cu1 tb1 li1 tc1 lb1 td1 br1 te1 ke1 tf1 h2 tk1 T2 F2 N2 B2 X2 P2 D2 e1
  (try dsimp only)
  k_steps
  refine (?_ : Q _ _)
  rename KtsTurn _ h₀ _ => Tz
  subst e1
  exact ret _ _ _ _ _ _ _ _ _ _ _ _ _ _ _ _ Tz (by assumption) (by assumption) (by assumption) (by assumption) (by assumption) (by assumption)
end

end
section
open PySem PySem.W PyProof PyProof.Rows
theorem fr_back {g g' h : Heap} {L : Addr} {m : Str → Option Value} (T : KtsTurn (([] : List Env).filterMap (·.frame)) g g') (F : Fr g' L h m) : Fr g L h m :=
  ⟨F.ns, fun b o e => F.keep b o (T.other b o e (by simp)), by rw [← T.size]; exact F.above⟩
theorem news_back {g g' h : Heap} {L : Addr} {news : List (Addr × Obj)} (T : KtsTurn (([] : List Env).filterMap (·.frame)) g g') (N : News g' L h news) : News g L h news :=
  fun p hp => ⟨(N p hp).1, (N p hp).2.1, by
    cases e : g.get? p.1 with
    | none => rfl
    | some o =>
      have h1 := T.other _ o e (by simp)
      rw [(N p hp).2.2] at h1
      cases h1⟩
theorem word_top {w : World} {mean : ExcName → Option Value} {mg mb : Str → Option Value} {dp un : Nat} {gd : Option (List Code)} {cn : Str} {cs : Scope} {a : Addr} {ccd : Value} {cl : List (Str × Addr)} {A₀ : Around} {h₀ : Heap} {L : Addr} {m : Str → Option Value} {s : Shared} {Q E : Value → Shared → Prop} {rst : List (Addr × Obj)} {x dx : Addr} {ks : Tk6} {cur : Str} {cu li lb br ke : Int} {t1 t2 t3 t4 t5 t6 : Tok} {wd : Str} {tw : Tok}
    (B : Below A₀ h₀ [] h₀) (F : Fr h₀ L s.heap m) (X : (heap_39 w.params).In h₀) (N : News h₀ L s.heap (stN x dx (stD w.params ks cur t1 cu t2 li t3 lb t4 br t5 ke t6) rst)) (T : Top viewQ (looseW viewQ looseN) mean mg mb h₀) (hk : cs.kind = .function)
    (hne : x ≠ dx) (hoff : OwnOff rst [x, dx]) (hx : wd.length ≤ 1000) (hdp : dp + 16 < recursionLimit) (hun : un + 200 < cLine)
    (ret : ∀ cur' t1' cu' t2' li' t3' lb' t4' br' t5' ke' t6' t h' tk', Fr h₀ L h' m → News h₀ L h' (stN x dx (stD w.params ks cur' t1' cu' t2' li' t3' lb' t4' br' t5' ke' t6') rst) → Q (.str (rvT (stem (rv wd))) t) { s with heap := h', toks := tk' }) :
    wpAny (model PySem.Challenge.rw_iu0021_01.row.prog w) (ktrTop dp un gd cn cs L a ccd cl []) (call (.ref 189) [.ref x, .str wd tw]) Q E s :=
  word_call B F X N T hk hne hoff hx hdp hun X T (fun b hb => by simp at hb) fun h₀' cur' t1' cu' t2' li' t3' lb' t4' br' t5' ke' t6' t h' tk' T' F' N' _ _ _ _ => ret _ _ _ _ _ _ _ _ _ _ _ _ _ _ _ (fr_back T' F') (news_back T' N')
theorem rest_told {w : World} {mean : ExcName → Option Value} {mg mb : Str → Option Value} {dp un : Nat} {gd : Option (List Code)} {cn : Str} {cs : Scope} {a : Addr} {ccd : Value} {cl : List (Str × Addr)} {outer : List Env} {A₀ : Around} {base h₀ : Heap} {L : Addr} {m : Str → Option Value} {s : Shared} {Q E : Value → Shared → Prop} {news : List (Addr × Obj)} {r : Cs} {tx : Tok} {l : Addr} {vs : List Value} {ys : List Str}
    (B : Below A₀ base outer h₀) (F : Fr h₀ L s.heap m) (X : (heap_39 w.params).In h₀) (N : News h₀ L s.heap news) (T : Top viewQ (looseW viewQ looseN) mean mg mb h₀) (hk : cs.kind = .function)
    (hl : LsAt h₀ news l vs) (hi : StrsAre vs ys) (hr : ys.map rv = endsK)
    (hx : (rvT (first r)).length ≤ 1000) (hdp : dp + 2 < recursionLimit) (hun : un + 16 < cLine)
    (ret : ∀ t h' tk', Fr h₀ L h' m → News h₀ L h' news → Q (.str (rvT (stem r)) t) { s with heap := h', toks := tk' }) :
    wpAny (model PySem.Challenge.rw_iu0021_01.row.prog w) (ktrTop dp un gd cn cs L a ccd cl outer) (call (.ref 673) [.str (rvT (first r)) tx, .ref l]) Q E s := by
  refine rest_call B F X N T hk hl hi hx hdp hun fun t h' tk' F' N' => ?_
  rw [hr, rv_rvT]
  exact ret t h' tk' F' N'
theorem news_ne {h₀ h : Heap} {L a b : Addr} {o o' : Obj} {news : List (Addr × Obj)} (N : News h₀ L h news) (ha : (a, o) ∈ news) (hb : (b, o') ∈ news) (hne : o ≠ o') : a ≠ b := by
  rintro rfl
  have h1 := (N _ ha).1
  rw [(N _ hb).1] at h1
  exact hne (Option.some.inj h1).symm
theorem stem_off {h₀ h : Heap} {L x d a b c e f : Addr} {ox od oa ob oc oe of : Obj} {own : List (Addr × Obj)} (N : News h₀ L h ((x, ox) :: (d, od) :: ([(a, oa), (b, ob), (c, oc), (e, oe), (f, of)] ++ own))) (hown : OwnOff own [x, d, a, b, c, e, f])
    (hxd : ox ≠ od) (ha : oa ≠ ox ∧ oa ≠ od) (hb : ob ≠ ox ∧ ob ≠ od) (hc : oc ≠ ox ∧ oc ≠ od) (he : oe ≠ ox ∧ oe ≠ od) (hf : of ≠ ox ∧ of ≠ od) : x ≠ d ∧ OwnOff ([(a, oa), (b, ob), (c, oc), (e, oe), (f, of)] ++ own) [x, d] := by
  have hx : (x, ox) ∈ (x, ox) :: (d, od) :: ([(a, oa), (b, ob), (c, oc), (e, oe), (f, of)] ++ own) := List.mem_cons_self ..
  have hd' : (d, od) ∈ (x, ox) :: (d, od) :: ([(a, oa), (b, ob), (c, oc), (e, oe), (f, of)] ++ own) := List.mem_cons_of_mem _ (List.mem_cons_self ..)
  refine ⟨news_ne N hx hd' hxd, fun p hp q hq => ?_⟩
  have hp' : p ∈ (x, ox) :: (d, od) :: ([(a, oa), (b, ob), (c, oc), (e, oe), (f, of)] ++ own) := List.mem_cons_of_mem _ (List.mem_cons_of_mem _ hp)
  have hq' : q = x ∨ q = d := by simpa using hq
  rcases List.mem_append.mp hp with hm | hm
  · have hne : p.2 ≠ ox ∧ p.2 ≠ od := by
      simp only [List.mem_cons, List.not_mem_nil, or_false] at hm
      rcases hm with rfl | rfl | rfl | rfl | rfl
      · exact ha
      · exact hb
      · exact hc
      · exact he
      · exact hf
    rcases hq' with rfl | rfl
    · exact news_ne N (b := q) (by exact hp') hx hne.1
    · exact news_ne N (b := q) (by exact hp') hd' hne.2
  · exact hown p hm q (by rcases hq' with rfl | rfl <;> simp)
theorem list_off {its : Array Value} {n : Nat} {P : Params} {dx : Addr} {ks : Tk6} {cur : Str} {cu li lb br ke : Int} {t1 t2 t3 t4 t5 t6 : Tok} : PySem.W.listOf its n ≠ instObj 596 dx ∧ PySem.W.listOf its n ≠ stD P ks cur t1 cu t2 li t3 lb t4 br t5 ke t6 :=
  And.intro (fun h => by have h2 := congrArg Obj.cls h; cases h2) (fun h => by have h2 := congrArg Obj.data h; cases h2)
theorem cell_off {o : Obj} {v : Option Value} {P : Params} {dx : Addr} {ks : Tk6} {cur : Str} {cu li lb br ke : Int} {t1 t2 t3 t4 t5 t6 : Tok} (ho : o.data = .cell v) : o ≠ instObj 596 dx ∧ o ≠ stD P ks cur t1 cu t2 li t3 lb t4 br t5 ke t6 :=
  And.intro (fun h => by have h2 := congrArg Obj.data h; rw [ho] at h2; cases h2) (fun h => by have h2 := congrArg Obj.data h; rw [ho] at h2; cases h2)
theorem inst_off {P : Params} {dx : Addr} {ks : Tk6} {cur : Str} {cu li lb br ke : Int} {t1 t2 t3 t4 t5 t6 : Tok} : instObj 596 dx ≠ stD P ks cur t1 cu t2 li t3 lb t4 br t5 ke t6 := fun h => by have h2 := congrArg Obj.cls h; cases h2

end
local macro_rules | `(tactic| walk_at "CompSrc") => `(tactic| (refine stop_of ?_))
section
open PySem PySem.W PyProof PyProof.Rows
structure SW where
  o : Obj
  g : Heap
  cur : PySem.Str
  cu : Int
  li : Int
  lb : Int
  br : Int
  ke : Int
  t1 : Tok
  t2 : Tok
  t3 : Tok
  t4 : Tok
  t5 : Tok
  t6 : Tok
theorem news_cell {h₀ h : Heap} {L x d c I C D : Addr} {ox od oc oI oC oD : Obj} {rst : List (Addr × Obj)} (N : News h₀ L h ((c, oc) :: (x, ox) :: (d, od) :: rst)) (hoff : OwnOff rst [x, d]) (hc : oc ≠ ox ∧ oc ≠ od) (off : LCg.Off3 I C D ((c, oc) :: (x, ox) :: (d, od) :: rst)) :
    OwnOff ((I, oI) :: (C, oC) :: (D, oD) :: (c, oc) :: rst) [x, d] := by
  have hx := off_ne off (p := (x, ox)) (by simp)
  have hd := off_ne off (p := (d, od)) (by simp)
  have c1 : c ≠ x := news_ne N (by simp) (by simp) hc.1
  have c2 : c ≠ d := news_ne N (by simp) (by simp) hc.2
  intro p hp b hb
  have hb' : b = x ∨ b = d := by simpa using hb
  rcases List.mem_cons.mp hp with rfl | hp
  · rcases hb' with rfl | rfl
    · exact hx.1
    · exact hd.1
  · rcases List.mem_cons.mp hp with rfl | hp
    · rcases hb' with rfl | rfl
      · exact hx.2.1
      · exact hd.2.1
    · rcases List.mem_cons.mp hp with rfl | hp
      · rcases hb' with rfl | rfl
        · exact hx.2.2
        · exact hd.2.2
      · rcases List.mem_cons.mp hp with rfl | hp
        · rcases hb' with rfl | rfl
          · exact c1
          · exact c2
        · exact hoff p hp b hb
section
local macro_rules | `(tactic| walk_at "mine enterC") => `(tactic| (k_dflt (refine' call_turnedC ?k1 ?k2 ?k3 ?k4 ?k5 ?XB ?TB ?D ?kA ?kF ?kK ?k6 ?k7 ?k8 ?k9 ?kB ?kN ?_ ?c2 ?c3 ?c4; (case kA => exact rfl); (case kF => exact rfl); (case kK => assumption); (case k2 => k_asm); (case k1 => k_asm); (case XB => assumption); (case TB => assumption); (case D => assumption); (case k3 => k_asm); (case k4 => k_asm); (case k5 => k_asm); (case k6 => k_is); (case k7 => k_is); (case k8 => ktr_room); (case k9 => exact BindsTo.of_eq rfl); (case kB => exact rfl); (case kN => decide +kernel); (case c2 => exact rfl); (case c3 => exact rfl); (case c4 => exact rfl); k_whole)))
local macro_rules | `(tactic| walk_at "eval ListComp") => `(tactic| (refine stop_of ?_))
local macro_rules | `(tactic| walk_at "ElTurn") => `(tactic| (refine stop_of ?_))
set_option maxRecDepth 100000 in
set_option maxHeartbeats 8000000 in
theorem words_call {w : World} {mean : ExcName → Option Value} {mg mb : Str → Option Value} {dp un : Nat} {gd : Option (List Code)} {cn : Str} {cs : Scope} {a : Addr} {ccd : Value} {cl : List (Str × Addr)} {A₀ : Around} {h₀ : Heap} {L : Addr} {m : Str → Option Value} {s : Shared} {Q E : Value → Shared → Prop} {rst : List (Addr × Obj)} {x dx : Addr} {ks : Tk6} {cur : Str} {cu li lb br ke : Int} {t1 t2 t3 t4 t5 t6 : Tok} {l : Addr} {vs : List Value} {zs : List Str} {n : Nat}
    (B : Below A₀ h₀ [] h₀) (F : Fr h₀ L s.heap m) (X : (heap_39 w.params).In h₀) (N : News h₀ L s.heap (stN x dx (stD w.params ks cur t1 cu t2 li t3 lb t4 br t5 ke t6) rst)) (T : Top viewQ (looseW viewQ looseN) mean mg mb h₀) (hk : cs.kind = .function)
    (hne : x ≠ dx) (hoff : OwnOff rst [x, dx]) (hl : (l, PySem.W.listOf vs.toArray n) ∈ rst) (hi : StrsAre vs zs) (hz : ∀ z ∈ zs, z.length ≤ 1000) (hvl : vs.length ≤ 1000) (hdp : dp + 20 < recursionLimit) (hun : un + 300 < cLine)
    (ret : ∀ D (ys : List Value) cur' t1' cu' t2' li' t3' lb' t4' br' t5' ke' t6' h' tk', Fr h₀ L h' m → News h₀ L h' ((D, LCg.lst ys) :: stN x dx (stD w.params ks cur' t1' cu' t2' li' t3' lb' t4' br' t5' ke' t6') rst) → StrsAre ys (zs.map fun z => rvT (stem (rv z))) → Q (.ref D) { s with heap := h', toks := tk' }) :
    wpAny (model PySem.Challenge.rw_iu0021_01.row.prog w) (ktrTop dp un gd cn cs L a ccd cl []) (call (.ref 194) [.ref x, .ref l]) Q E s := by
  have XB := X
  have TB := T
  have D := ktsDicts_nil (g := h₀)
  revert X; k_fill; intro X
  refine wpAny_call ?_
  walk_at "mine enterC"
  intro g L1 h1 tk1 cells FG F1 N1 Y1 B1 X1 P1 D1
  (try dsimp only)
  (try k_fold)
  obtain ⟨oc, rfl, hoc'⟩ := CellsAre.one Y1
  clear Y1
  have hoc : oc.data = .cell (some (.ref x)) := hoc'
  clear hoc'
  simp only [List.cons_append, List.nil_append] at N1
  k_steps
  refine stop_go ?_
  obtain ⟨oL, hgL⟩ : ∃ o, g.get? L = some o := let ⟨o, _, _, e, _⟩ := FG.ns; ⟨o, e⟩
  have hLb : h₀.get? L = none := kts_self F
  have stH : h₀.StaysIn (hideAll g [L]) := fun b o e => hideAll_get _ (B1.stays b o e) (fun q => by rw [List.mem_singleton.mp q, hLb] at e; cases e)
  have XH := XB.keeps stH
  have TH := TB.keeps stH
  obtain ⟨FH, NH⟩ := low_out (KtsTurn.refl (fs := [L])) hgL F1 N1
  have hn1 := low_ne (KtsTurn.refl (fs := [L])) hgL N1
  have hnr : L1 + 1 ≠ L ∧ x ≠ L ∧ dx ≠ L ∧ ∀ p ∈ rst, p.1 ≠ L := ⟨hn1 (L1 + 1, oc) (by simp), hn1 (x, _) (List.mem_cons_of_mem _ (List.mem_cons_self ..)), hn1 (dx, _) (List.mem_cons_of_mem _ (List.mem_cons_of_mem _ (List.mem_cons_self ..))), fun p hp => hn1 p (List.mem_cons_of_mem _ (List.mem_cons_of_mem _ (List.mem_cons_of_mem _ hp)))⟩
  clear F1 N1 hn1
  refine LCg.ListComp_U (F₀ := FH) (by with_unfolding_all rfl) (by decide) (by rfl) (by decide) (by rfl) ?_
  k_steps
  refine stop_go ?_
  refine LCg.CompSrc.ledger (by rfl) FH NH (List.mem_cons_of_mem _ (List.mem_cons_of_mem _ (List.mem_cons_of_mem _ (List.mem_cons_of_mem _ hl)))) (by rw [List.size_toArray]; exact Nat.le_trans hvl (by decide)) ?_
  intro g4
  refine comp_turned (σ := SW) (fun c => (L, c.o) :: (L1 + 1, oc) :: stN x dx (stD w.params ks c.cur c.t1 c.cu c.t2 c.li c.t3 c.lb c.t4 c.br c.t5 c.ke c.t6) rst)
    (fun c => KtsTurn [L] g c.g ∧ c.g.get? L = some c.o ∧ Below (ktrTop dp un gd cn cs L a ccd cl []) h₀ [envX cn cs L a ccd cl] c.g ∧ (heap_39 w.params).In c.g ∧ Top viewQ (looseW viewQ looseN) mean mg mb c.g ∧ KtsDicts [L] c.g)
    (fun i y => ∃ t, ((zs.map fun z => rvT (stem (rv z)))[i]?).map (fun z => Value.str z t) = some y) ⟨oL, g, cur, cu, li, lb, br, ke, t1, t2, t3, t4, t5, t6⟩ (fun c => Or.inr ⟨_, List.mem_cons_of_mem _ (List.mem_cons_of_mem _ (List.mem_cons_of_mem _ (List.mem_cons_of_mem _ hl))), rfl, _, rfl⟩) ⟨KtsTurn.refl, hgL, B1, X1, P1, D1⟩ ?turn ?fin
  case turn =>
    clear FH NH B1 X1 P1 D1
    intro c i v ys5 I5 oI5 C5 oC5 D5 m5 h5 tk5 E5 hv5 hI5 hC5 hx5 F5 N5 off5 ne5
    obtain ⟨o5, g5, cur5, cu5, li5, lb5, br5, ke5, ta5, tb5, tc5, td5, te5, tf5⟩ := c
    obtain ⟨T5, hg5, B5, X5, P5, DD5⟩ := hI5
    dsimp only at T5 hg5 B5 X5 P5 DD5 F5 N5 off5
    obtain ⟨z5, t5, rfl, hz5⟩ := hi.item i v hv5
    k_steps
    have hoff6 := news_cell (I := I5) (C := C5) (D := D5) (oI := oI5) (oC := oC5) (oD := LCg.lst ys5) (fun p hp => N5 p (List.mem_cons_of_mem _ (List.mem_cons_of_mem _ (List.mem_cons_of_mem _ (List.mem_cons_of_mem _ hp))))) hoff (cell_off hoc) off5.2
    have hL5 := off_ne off5 (p := (L, o5)) (List.mem_cons_self ..)
    obtain ⟨F6, N6⟩ := low_in (news := (x, instObj 596 dx) :: (dx, stD w.params ks cur5 ta5 cu5 tb5 li5 tc5 lb5 td5 br5 te5 ke5 tf5) :: (I5, oI5) :: (C5, oC5) :: (D5, LCg.lst ys5) :: (L1 + 1, oc) :: rst) T5 hg5 F5 (fun p hp => N5 p (by
      simp only [List.mem_cons] at hp ⊢
      rcases hp with rfl | rfl | rfl | rfl | rfl | rfl | rfl | hp
      all_goals simp_all)) (fun p hp => by
      simp only [List.mem_cons] at hp
      rcases hp with rfl | rfl | rfl | rfl | rfl | rfl | hp
      · exact hnr.2.1
      · exact hnr.2.2.1
      · exact hL5.1
      · exact hL5.2.1
      · exact hL5.2.2
      · exact hnr.1
      · exact hnr.2.2.2 p hp)
    k_dflt (refine' word_call ?kB F6 ?kX N6 ?kT ?kk hne hoff6 (hz _ (List.mem_of_getElem? hz5)) ?kd ?ku XB TB ?kD ?kr)
    case kB => exact B5
    case kX => exact X5
    case kT => exact P5
    case kk => rfl
    case kD => exact DD5
    case kd => ktr_room
    case ku => ktr_units
    case kr =>
      intro g7 cur7 ta7 cu7 tb7 li7 tc7 lb7 td7 br7 te7 ke7 tf7 tz7 h7 tk7 T7 F7 N7 B7 X7 P7 D7
      have T7' : KtsTurn [L] g5 g7 := T7
      obtain ⟨sl7, hg7⟩ := T7'.frame L o5 hg5 (List.mem_singleton.mpr rfl)
      have T8 := T5.trans T7'
      obtain ⟨F8, N8⟩ := low_out T8 hg7 F7 N7
      refine (?_ : ElTurn _ _ _ _ _ _ _ _ _ _ _)
      refine ElTurn.intro (⟨{ o5 with slots := sl7 }, g7, cur7, cu7, li7, lb7, br7, ke7, ta7, tb7, tc7, td7, te7, tf7⟩ : SW) F8 N8 ?_ rfl ⟨T8, hg7, B7, X7, P7, D7⟩ ⟨tz7, by rw [List.getElem?_map, hz5]; rfl⟩
      intro p hp
      simp only [List.cons_append, List.nil_append, List.mem_cons] at hp ⊢
      rcases hp with rfl | rfl | rfl | rfl | rfl | rfl | rfl | hp
      all_goals simp_all
  case fin =>
    clear FH NH B1 X1 P1 D1
    intro c ys5 hl5 hI5 hr5
    obtain ⟨o5, g5, cur5, cu5, li5, lb5, br5, ke5, ta5, tb5, tc5, td5, te5, tf5⟩ := c
    obtain ⟨T5, hg5, B5, X5, P5, DD5⟩ := hI5
    dsimp only at T5 hg5 B5 X5 P5 DD5
    intro D9 h9 tk9 F9 N9 off9
    dsimp only at F9 N9 off9
    have off8 := off1_mem off9
    have hD9 : D9 ≠ L := Ne.symm (off8 (L, o5) (List.mem_cons_self ..))
    obtain ⟨F8, N8⟩ := low_in (news := (D9, LCg.lst ys5) :: (L1 + 1, oc) :: stN x dx (stD w.params ks cur5 ta5 cu5 tb5 li5 tc5 lb5 td5 br5 te5 ke5 tf5) rst) T5 hg5 F9 (fun p hp => N9 p (by
      simp only [List.mem_cons] at hp ⊢
      rcases hp with rfl | rfl | rfl | rfl | rfl | hp
      all_goals simp_all)) (fun p hp => by
      simp only [List.mem_cons] at hp
      rcases hp with rfl | rfl | rfl | rfl | hp
      · exact hD9
      · exact hnr.1
      · exact hnr.2.1
      · exact hnr.2.2.1
      · exact hnr.2.2.2 p hp)
    have S5 : StrsAre ys5 (zs.map fun z => rvT (stem (rv z))) := by
      refine strs_by (by rw [List.length_map, hl5, hi.length]) fun i y hy => ?_
      obtain ⟨t, ht⟩ := hr5 i y hy
      obtain ⟨z, hz1, hz2⟩ := Option.map_eq_some_iff.mp ht
      exact ⟨z, t, hz1, hz2.symm⟩
    have T6 : KtsTurn (([envX cn cs L a ccd cl]).filterMap (·.frame)) g g5 := T5
    clear F9 N9 off9 off8 hr5 XH TH stH T5
    k_steps
    refine (?_ : Q _ _)
    rename KtsTurn _ h₀ _ => Tz
    rename Fr _ L _ m => Fz
    rename News _ L _ _ => Nz
    exact ret _ ys5 _ _ _ _ _ _ _ _ _ _ _ _ _ _ (fr_back Tz Fz) (fun p hp => news_back Tz Nz p (by
      rcases List.mem_cons.mp hp with rfl | hp
      · exact List.mem_cons_self ..
      · exact List.mem_cons_of_mem _ (List.mem_cons_of_mem _ hp))) S5
end

end
section
open PySem PySem.W PyProof PyProof.Rows
/-! the long list's rows -/
noncomputable def pairAt (K : Frag) (v : Value) : Option (Addr × Addr) := match v with
  | .ref a => (match K.lookup a with
    | some o => if o.cls == .type "tuple" then (match o.data with
      | .seq items _ => (match items.toList with
        | [.ref x, .ref y] => some (x, y)
        | _ => none)
      | _ => none) else none
    | none => none)
  | _ => none
noncomputable def strsAt (K : Frag) (a : Addr) : List PySem.Str := (itemsAt K a).filterMap textOf
noncomputable def isStrsAt (K : Frag) (a : Addr) : Bool := isListAt K a && (itemsAt K a).all fun v => (textOf v).isSome
noncomputable def rowOk (K : Frag) (v : Value) : Bool := match pairAt K v with
  | some (x, y) => isStrsAt K x && isStrsAt K y && decide ((itemsAt K x).length ≤ 100) && (decide ((itemsAt K y).length ≤ 100) && ((strsAt K x).all fun z => decide (z.length ≤ 100)) && ((strsAt K y).all fun z => decide (z.length ≤ 100)))
  | none => false
noncomputable def rowTexts (K : Frag) (v : Value) : List PySem.Str × List PySem.Str := match pairAt K v with
  | some (x, y) => (strsAt K x, strsAt K y)
  | none => ([], [])
noncomputable def joins (hs : List PySem.Str) (ts : List PySem.Str) : List PySem.Str := ts.flatMap fun t => hs.map fun h => h ++ t
noncomputable def rowJoins (K : Frag) (v : Value) : List PySem.Str := joins (rowTexts K v).1 (rowTexts K v).2
noncomputable def longUpTo (K : Frag) (vs : List Value) (n : Nat) : List PySem.Str := (vs.take n).flatMap (rowJoins K)
/-- a row of the long list, as it stands at the top -/
structure LongRow (h : Heap) (v : Value) (hs ts : List PySem.Str) : Prop where
  is : ∃ (a x y : Addr) (vh vt : List Value), v = .ref a ∧ h.IsTuple a #[.ref x, .ref y] ∧ h.IsList x vh.toArray ∧ StrsAre vh hs ∧ vh.length ≤ 100 ∧ h.IsList y vt.toArray ∧ StrsAre vt ts ∧ vt.length ≤ 100 ∧ (∀ z ∈ hs, z.length ≤ 100) ∧ ∀ z ∈ ts, z.length ≤ 100
theorem strs_list {K : Frag} {h : Heap} {a : Addr} (X : K.In h) (e : isStrsAt K a = true) : h.IsList a (itemsAt K a).toArray ∧ StrsAre (itemsAt K a) (strsAt K a) := by
  unfold isStrsAt at e
  rw [Bool.and_eq_true] at e
  exact ⟨items_list X e.1, strsAre_of _ e.2⟩
theorem row_of {K : Frag} {h : Heap} {v : Value} (X : K.In h) (e : rowOk K v = true) : LongRow h v (rowTexts K v).1 (rowTexts K v).2 := by
  unfold rowOk at e
  unfold rowTexts
  cases hp : pairAt K v with
  | none => rw [hp] at e; cases e
  | some q =>
    obtain ⟨x, y⟩ := q
    rw [hp] at e
    simp only [Bool.and_eq_true, decide_eq_true_eq, List.all_eq_true] at e
    obtain ⟨⟨⟨e1, e2⟩, e3⟩, ⟨e4, e5⟩, e6⟩ := e
    unfold pairAt at hp
    split at hp
    · rename_i a
      split at hp
      · rename_i o ho
        split at hp
        · rename_i hc
          split at hp
          · rename_i items n hd
            split at hp
            · rename_i x' y' hi
              obtain ⟨rfl, rfl⟩ := Prod.mk.inj (Option.some.inj hp)
              obtain ⟨l1, s1⟩ := strs_list X e1
              obtain ⟨l2, s2⟩ := strs_list X e2
              have hi' : items = #[.ref x', .ref y'] := by rw [← hi]
              exact ⟨a, x', y', _, _, rfl, ⟨o, X _ _ ho, by simpa using hc, n, by rw [hd, hi']⟩, l1, s1, e3, l2, s2, e4, e5, e6⟩
            · cases hp
          · cases hp
        · cases hp
      · cases hp
    · cases hp
theorem rows_in {K : Frag} {h : Heap} {vs : List Value} (X : K.In h) (e : (vs.all fun v => rowOk K v) = true) {i : Nat} {v : Value} (hv : vs[i]? = some v) : LongRow h v (rowTexts K v).1 (rowTexts K v).2 :=
  row_of X (List.all_eq_true.mp e v (List.mem_of_getElem? hv))
theorem longUpTo_step {K : Frag} {vs : List Value} {i : Nat} {v : Value} (hv : vs[i]? = some v) : longUpTo K vs (i + 1) = longUpTo K vs i ++ rowJoins K v := by
  unfold longUpTo
  rw [List.take_add_one, hv]
  simp
theorem joins_step {hs ts : List PySem.Str} {j : Nat} {t : PySem.Str} (h : ts[j]? = some t) : joins hs (ts.take (j + 1)) = joins hs (ts.take j) ++ hs.map fun z => z ++ t := by
  unfold joins
  rw [List.take_add_one, h]
  simp
theorem long_ok {w : World} : ((itemsAt (heap_39 w.params) 652).all fun v => rowOk (heap_39 w.params) v) = true := by kernel_rfl
theorem long_is {w : World} : isListAt (heap_39 w.params) 652 = true := by kernel_rfl
theorem long_len {w : World} : (itemsAt (heap_39 w.params) 652).length = 12 := by kernel_rfl
theorem long_ends {w : World} : (longUpTo (heap_39 w.params) (itemsAt (heap_39 w.params) 652) 12).map rv = endsK := by kernel_rfl
theorem letters_ok {w : World} : (isStrsAt (heap_39 w.params) 612 && ((strsAt (heap_39 w.params) 612).all fun z => decide (z.length ≤ 6)) && decide ((itemsAt (heap_39 w.params) 612).length = 58)) = true := by kernel_rfl
theorem case_ok {w : World} : (isStrsAt (heap_39 w.params) 613 && ((strsAt (heap_39 w.params) 613).all fun z => decide (z.length ≤ 6)) && decide ((itemsAt (heap_39 w.params) 613).length = 17)) = true := by kernel_rfl
theorem last_ok {w : World} : (isStrsAt (heap_39 w.params) 615 && ((strsAt (heap_39 w.params) 615).all fun z => decide (z.length ≤ 6)) && decide ((itemsAt (heap_39 w.params) 615).length = 3)) = true := by kernel_rfl
/-- texts of at most six signs, k of them -/
structure Shorts (vs : List Value) (k : Nat) : Prop where
  is : ∃ ys : List PySem.Str, StrsAre vs ys ∧ ∀ z ∈ ys, z.length ≤ 6
  len : vs.length = k
theorem shorts_at {K : Frag} {h : Heap} {a : Addr} {k : Nat} (X : K.In h) (e : (isStrsAt K a && ((strsAt K a).all fun z => decide (z.length ≤ 6)) && decide ((itemsAt K a).length = k)) = true) : h.IsList a (itemsAt K a).toArray ∧ Shorts (itemsAt K a) k := by
  simp only [Bool.and_eq_true, decide_eq_true_eq, List.all_eq_true] at e
  obtain ⟨l, s⟩ := strs_list X e.1.1
  exact ⟨l, ⟨_, s, e.1.2⟩, e.2⟩
theorem shorts_three {vs : List Value} {k : Nat} {x y z : PySem.Str} {t u v : Tok} (h : Shorts vs k) (hx : x.length ≤ 6) (hy : y.length ≤ 6) (hz : z.length ≤ 6) : Shorts (vs ++ [.str x t, .str y u, .str z v]) (k + 3) := by
  obtain ⟨⟨ys, s, b⟩, l⟩ := h
  refine ⟨⟨ys ++ [x, y, z], StrsAre.append' s (.cons _ _ (.cons _ _ (.cons _ _ .nil))), fun q hq => ?_⟩, by rw [List.length_append, l]; rfl⟩
  rcases List.mem_append.mp hq with hq | hq
  · exact b q hq
  · rcases List.mem_cons.mp hq with rfl | hq
    · exact hx
    · rcases List.mem_cons.mp hq with rfl | hq
      · exact hy
      · rw [List.mem_singleton.mp hq]; exact hz
theorem shorts_ends {vs : List Value} {ys : List PySem.Str} (s : StrsAre vs ys) (e : ys.map rv = endsK) : Shorts vs 113 := by
  refine ⟨⟨ys, s, fun z hz => ?_⟩, ?_⟩
  · have h := sized_ends (rv z) (by rw [← e]; exact List.mem_map.mpr ⟨z, hz, rfl⟩)
    rw [rv_length] at h
    exact h.2
  · rw [s.length, ← List.length_map (f := rv), e]
    decide
/-- the words, after i numbers -/
structure WordsP (i : Nat) (vs : List Value) : Prop where
  is : ∃ ys : List PySem.Str, StrsAre vs ys ∧ ∀ z ∈ ys, z.length ≤ 6 * i
  some : vs ≠ []
  len : vs.length ≤ i + 1
theorem wordsP_start {t : Tok} : WordsP 0 [.str (PySem.Str.ofString "") t] :=
  ⟨⟨[_], .cons _ _ .nil, fun z hz => by rw [List.mem_singleton.mp hz]; decide⟩, by simp, by simp⟩
theorem WordsP.last {i : Nat} {vs : List Value} (h : WordsP i vs) : ∃ pre z t, vs = pre ++ [Value.str z t] ∧ (∃ ys : List PySem.Str, StrsAre pre ys ∧ ∀ z ∈ ys, z.length ≤ 6 * i) ∧ z.length ≤ 6 * i ∧ pre.length ≤ i := by
  obtain ⟨⟨ys, s, b⟩, hn, hl⟩ := h
  have e := List.dropLast_concat_getLast hn
  rw [← e] at s
  have hl' : (vs.dropLast ++ [vs.getLast hn]).length ≤ i + 1 := by rw [e]; exact hl
  rw [List.length_append, List.length_singleton] at hl'
  obtain ⟨v, hv⟩ : ∃ v, vs.getLast hn = v := ⟨_, rfl⟩
  rw [hv] at s e
  generalize hpe : vs.dropLast = pre at s e hl'
  obtain ⟨y, t, rfl, hy⟩ := s.item pre.length v (by simp)
  refine ⟨pre, y, t, e.symm, ⟨ys.take pre.length, ?_, fun z hz => b z (List.mem_of_mem_take hz)⟩, b y (List.mem_of_getElem? hy), by omega⟩
  have := s.take' pre.length
  rwa [List.take_left] at this
theorem wordsP_put {i : Nat} {pre : List Value} {z : PySem.Str} {t : Tok} (hp : ∃ ys : List PySem.Str, StrsAre pre ys ∧ ∀ z ∈ ys, z.length ≤ 6 * i) (hz : z.length ≤ 6 * (i + 1)) (hl : pre.length ≤ i) : WordsP (i + 1) (pre ++ [.str z t]) := by
  obtain ⟨ys, s, b⟩ := hp
  refine ⟨⟨ys ++ [z], StrsAre.append' s (.cons _ _ .nil), fun q hq => ?_⟩, by simp, by rw [List.length_append, List.length_singleton]; omega⟩
  rcases List.mem_append.mp hq with hq | hq
  · have := b q hq; omega
  · rw [List.mem_singleton.mp hq]; exact hz
theorem wordsP_more {i : Nat} {pre : List Value} {z y : PySem.Str} {t u : Tok} (hp : ∃ ys : List PySem.Str, StrsAre pre ys ∧ ∀ z ∈ ys, z.length ≤ 6 * i) (hz : z.length ≤ 6 * i) (hy : y.length = 0) (hl : pre.length ≤ i) : WordsP (i + 1) (pre ++ [.str z t] ++ [.str y u]) := by
  obtain ⟨ys, s, b⟩ := hp
  refine ⟨⟨ys ++ [z] ++ [y], StrsAre.append' (StrsAre.append' s (.cons _ _ .nil)) (.cons _ _ .nil), fun q hq => ?_⟩, by simp, by simp only [List.length_append, List.length_singleton]; omega⟩
  rcases List.mem_append.mp hq with hq | hq
  · rcases List.mem_append.mp hq with hq | hq
    · have := b q hq; omega
    · rw [List.mem_singleton.mp hq]; omega
  · rw [List.mem_singleton.mp hq]; omega

end
section
open PySem PySem.W PyProof PyProof.Rows PySem.Calls
section
variable {prog : Program} {w : World} {A : Around} {E : Value → Shared → Prop} {s : Shared} {h₀ : Heap} {L : Addr} {m : PySem.Str → Option Value} {news news' : List (Addr × Obj)}
theorem set_neg {l : Addr} {items : Array Value} {n : Nat} {k : Int} {t : Tok} {v : Value} {Q : Unit → Shared → Prop} (ho : s.heap.get? l = some (PySem.W.listOf items n)) (h0 : k < 0) (h1 : -(items.size : Int) ≤ k) (hfit : -(2 ^ 63) ≤ k)
    (hQ : Q () { s with heap := s.heap.update l (Obj.mapSeq (·.setIfInBounds (k + items.size).toNat v)) }) : wpAny (model prog w) A (setItem (.ref l) (.int k t) v) Q E s := by
  have hl : s.heap.IsList l items := PySem.IsL.isList (n := n) ho
  have hd : (PySem.W.listOf items n).data = .seq items n := rfl
  unfold setItem
  try with_reducible refine wpAny_holding ?_
  first | refine wpAny_bind (wpAny_pure ?_) | skip
  refine wpAny_bind (wpAny_sequenceKey hl.typeIs (by decide) ?_)
  refine wpAny_bind (wpAny_callSpecial?_slot (name := Str.ofString "__setitem__") hl.typeIs slot_list_setitem
    (wpAny_call_entry slot_list_setitem hl.typeIs entry_list_setitem ?_ (args_list_setitem _ _ _)))
  show wpAny _ _ (Builtin.List.listSubscript? (.int k t) >>= _) _ _ s
  refine wpAny_bind (wpAny_listSubscript_int (fitsIndex_neg h0 hfit) ?_)
  clear hfit
  have hidx := seqIndex_neg h0 h1
  have hj : (k + items.size).toNat < items.size := by omega
  have hx : items[(k + items.size).toNat]? = some items[(k + items.size).toNat] := Array.getElem?_eq_getElem hj
  obtain ⟨j, rfl⟩ : ∃ j : Nat, k = Int.negSucc j := by
    cases k with
    | ofNat n => exact absurd h0 (Int.not_lt.mpr (Int.ofNat_nonneg n))
    | negSucc n => exact ⟨n, rfl⟩
  show wpAny _ _ ((Builtin.List.listItems (.ref l) >>= fun xs => pure ((seqIndex? (Int.negSucc j) xs.size).bind fun i => xs[i]?.map (i, ·))) >>= _) _ _ s
  refine wpAny_bind (wpAny_bind ?_)
  show wpAny _ _ (seqItems? (.ref l) >>= _) _ _ s
  refine wpAny_bind (wpAny_seqItems ho hd (wpAny_pure (wpAny_pure ?_)))
  rw [hidx]
  simp only [Option.bind_some, hx, Option.map_some]
  show wpAny _ _ (setSeqItemAt l _ v >>= _) _ _ s
  refine wpAny_bind (wpAny_setSeqItemAt ho hd ?_)
  first
    | exact wpAny_bind (wpAny_pure (wpAny_pure ⟨.none, rfl, wpAny_pure hQ⟩))
    | exact wpAny_pure ⟨.none, rfl, wpAny_pure hQ⟩
theorem last_set {D : Addr} {pre : List Value} {x v : Value} {n : Nat} {t : Tok} {Q : Unit → Shared → Prop} (F : Fr h₀ L s.heap m) (N : News h₀ L s.heap news) (U : Upd D (PySem.W.listOf (pre ++ [x]).toArray n) (PySem.W.listOf (pre ++ [v]).toArray n) news news') (hp : pre.length ≤ 1000)
    (h : ∀ h', Fr h₀ L h' m → News h₀ L h' news' → Q () { s with heap := h' }) : wpAny (model prog w) A (setItem (.ref D) (.int (-1) t) v) Q E s := by
  obtain ⟨pr, post, rfl, rfl, a, b⟩ := U.split
  have z := N (D, PySem.W.listOf (pre ++ [x]).toArray n) (List.mem_append.mpr (.inr (.head _)))
  have hs : (pre ++ [x]).toArray.size = pre.length + 1 := by simp
  refine set_neg z.1 (by decide) (by rw [hs]; omega) (by decide) (h _ (F.change (Heap.SameBut.update ..) z.2.1 z.2.2) (ki_turn _ N a b ?_ ?_))
  · apply Array.toList_inj.mp
    have e : (-1 + ((pre ++ [x]).toArray.size : Int)).toNat = pre.length := by rw [hs]; omega
    rw [e]
    simp
  · simp
theorem last_get {D : Addr} {pre : List Value} {x : Value} {n : Nat} {t : Tok} {value slice : PySem.Expr} {Q : Value → Shared → Prop} (N : News h₀ L s.heap news) (hm : (D, PySem.W.listOf (pre ++ [x]).toArray n) ∈ news) (hp : pre.length ≤ 1000) (h : Q x s)
    (hs : subscripted slice false (.ref D) (.int (-1) t) = operate [.ref D, .int (-1) t] (getItem (.ref D) (.int (-1) t)) := by with_unfolding_all rfl) :
    wpAny (model prog w) A (subscriptTail value slice (.ref D) (.int (-1) t)) Q E s := by
  have hl : s.heap.IsList D (pre ++ [x]).toArray := PySem.IsL.isList (n := n) (N _ hm).1
  have hz : (pre ++ [x]).toArray.size = pre.length + 1 := by simp
  refine tail_any hl.typeIs slot_list_getitem.lookup (wpAny_getItem_list_neg hl (by decide) (by rw [hz]; omega) (by decide) ?_ h) hs
  have e : (-1 + ((pre ++ [x]).toArray.size : Int)).toNat = pre.length := by rw [hz]; omega
  rw [e]
  simp
theorem at_get {l : Addr} {vs : List Value} {k : Int} {t : Tok} {x : Value} {value slice : PySem.Expr} {Q : Value → Shared → Prop} (hl : s.heap.IsList l vs.toArray) (h0 : 0 ≤ k) (h1 : k < 1000) (hx : vs[k.toNat]? = some x) (h : Q x s)
    (hs : subscripted slice false (.ref l) (.int k t) = operate [.ref l, .int k t] (getItem (.ref l) (.int k t)) := by with_unfolding_all rfl) :
    wpAny (model prog w) A (subscriptTail value slice (.ref l) (.int k t)) Q E s :=
  tail_any hl.typeIs slot_list_getitem.lookup (wpAny_getItem_list hl h0 (by omega) (by simpa using hx) h) hs
noncomputable def rowAt (a b c d : Addr) (r : Int) : Addr := if r = 0 then a else if r = 1 then b else if r = 2 then c else d
theorem rows_get {D a b c d : Addr} {n : Nat} {r : Int} {t : Tok} {value slice : PySem.Expr} {Q : Value → Shared → Prop} (N : News h₀ L s.heap news) (hm : (D, PySem.W.listOf #[.ref a, .ref b, .ref c, .ref d] n) ∈ news) (h0 : 0 ≤ r) (h4 : r < 4) (h : Q (.ref (rowAt a b c d r)) s)
    (hs : subscripted slice false (.ref D) (.int r t) = operate [.ref D, .int r t] (getItem (.ref D) (.int r t)) := by with_unfolding_all rfl) :
    wpAny (model prog w) A (subscriptTail value slice (.ref D) (.int r t)) Q E s := by
  refine at_get (vs := [.ref a, .ref b, .ref c, .ref d]) (PySem.IsL.isList (n := n) (N _ hm).1) h0 (by omega) ?_ h hs
  have : r = 0 ∨ r = 1 ∨ r = 2 ∨ r = 3 := by omega
  rcases this with rfl | rfl | rfl | rfl <;> rfl
theorem rows_are {led : List (Addr × Obj)} {a b c d : Addr} {va vb vc vd : List Value} {ka kb kc kd nc nd : Nat} (ha : h₀.IsList a va.toArray) (Sa : Shorts va ka) (hb : h₀.IsList b vb.toArray) (Sb : Shorts vb kb) (hc : (c, PySem.W.listOf vc.toArray nc) ∈ led) (Sc : Shorts vc kc) (hd : (d, PySem.W.listOf vd.toArray nd) ∈ led) (Sd : Shorts vd kd)
    (hk : (0 < ka ∧ ka ≤ 1000) ∧ (0 < kb ∧ kb ≤ 1000) ∧ (0 < kc ∧ kc ≤ 1000) ∧ 0 < kd ∧ kd ≤ 1000) (r : Int) : ∃ v k, LsAt h₀ led (rowAt a b c d r) v ∧ Shorts v k ∧ (0 : Int) < (k : Int) ∧ (k : Int) ≤ 1000 := by
  unfold rowAt
  split
  · exact ⟨va, ka, .inl ha, Sa, by omega, by omega⟩
  · split
    · exact ⟨vb, kb, .inl hb, Sb, by omega, by omega⟩
    · split
      · exact ⟨vc, kc, .inr ⟨_, hc⟩, Sc, by omega, by omega⟩
      · exact ⟨vd, kd, .inr ⟨_, hd⟩, Sd, by omega, by omega⟩
theorem row_len {l : Addr} {v : List Value} {k : Nat} {Q : Value → Shared → Prop} (hl : s.heap.IsList l v.toArray) (S : Shorts v k) (hk : (k : Int) ≤ 1000) (h : Q (.int (k : Int) (s.toks + 1)) { s with toks := s.toks + 1 + 1 }) : wpAny (model prog w) A (call (.builtin "len") [.ref l]) Q E s := by
  have e : v.toArray.size = k := by simp [S.len]
  refine PyProof.Rows.len_list hl (by rw [e]; omega) ?_
  rw [e]
  exact h
theorem row_item {l : Addr} {v : List Value} {k : Nat} {j : Int} {t : Tok} {value slice : PySem.Expr} {Q : Value → Shared → Prop} (hl : s.heap.IsList l v.toArray) (S : Shorts v k) (hk : (k : Int) ≤ 1000) (h0 : 0 ≤ j) (h1 : j < (k : Int)) (h : ∀ c u, c.length ≤ 6 → Q (.str c u) s)
    (hs : subscripted slice false (.ref l) (.int j t) = operate [.ref l, .int j t] (getItem (.ref l) (.int j t)) := by with_unfolding_all rfl) :
    wpAny (model prog w) A (subscriptTail value slice (.ref l) (.int j t)) Q E s := by
  obtain ⟨⟨ys, sy, b⟩, hlen⟩ := S
  have hj : j.toNat < v.length := by omega
  obtain ⟨y, u, e, hy⟩ := sy.item j.toNat v[j.toNat] (List.getElem?_eq_getElem hj)
  exact at_get hl h0 (by omega) (by rw [List.getElem?_eq_getElem hj, e]) (h y u (b y (List.mem_of_getElem? hy))) hs
theorem chr_any {i : Int} {t : Tok} {Q : Value → Shared → Prop} (h : ∀ c u tk, c.length = 1 → Q (.str c u) { s with toks := tk }) :
    wpAny (model prog w) A (call (.builtin "chr") [.int (i.fmod 55296) t]) Q E s :=
  chr_of_range (Int.fmod_nonneg_of_pos _ (by decide)) (Int.le_of_lt (Int.lt_trans (Int.fmod_lt_of_pos _ (by decide)) (by decide))) (h _ _ _ (by simp [PySem.Str.length]))
theorem fmod6 (k : Int) : 0 ≤ k.fmod 6 ∧ k.fmod 6 < 6 := ⟨Int.fmod_nonneg_of_pos _ (by decide), Int.fmod_lt_of_pos _ (by decide)⟩
theorem app_len (x y : PySem.Str) : (x ++ y).length = x.length + y.length := by
  show (PySem.Str.append x y).length = _
  simp [PySem.Str.append, PySem.Str.length]
theorem pick6 (vs : List Value) : (slicePick vs.toArray none (some 6) none).toList = vs.take 6 := by
  have e : sliceBounds none (some 6) none vs.toArray.size = (((0 : Nat) : Int), ((min 6 vs.toArray.size : Nat) : Int), 1) := by
    simp only [sliceBounds, Option.getD_none, show (1 : Int) > 0 by decide, if_true, if_neg (show ¬ ((6 : Int) < 0) by omega)]
    congr 1
    congr 1
    omega
  rw [kmk_pick_nat _ e]
  show (vs.drop 0).take (min 6 vs.toArray.size - 0) = _
  rw [List.drop_zero, Nat.sub_zero, List.size_toArray, kmk_take_min]
theorem slice6 {l : Addr} {vs : List Value} {n : Nat} {vl vu : Value} {value slice : PySem.Expr} {Q : Value → Shared → Prop} (F : Fr h₀ L s.heap m) (N : News h₀ L s.heap news) (hm : (l, PySem.W.listOf vs.toArray n) ∈ news) (pl : IsPart vl none) (pu : IsPart vu (some 6)) (hz : vs.length ≤ 1000)
    (h : ∀ D h', Fr h₀ L h' m → News h₀ L h' ((D, PySem.W.listOf (vs.take 6).toArray 0) :: news) → (∀ p ∈ news, p.1 < D) → Q (.ref D) { s with heap := h' })
    (hs : subscripted slice false (.ref l) (.ref s.heap.objs.size) = operate [.ref s.heap.objs.size, .ref l] (getItem (.ref l) (.ref s.heap.objs.size))) (ht : ∀ r, letTemporaryGo value (.ref l) r = pure ()) :
    wpAny (model prog w) A (subscriptTail value slice (.ref l) (.ref s.heap.objs.size)) Q E { s with heap := s.heap.push { cls := .type "slice", data := .fields #[vl, vu, .none] } } :=
  kmk_slice_lit F N (PySem.IsL.isList (n := n) (N _ hm).1) pl pu (pick6 vs) h hs ht (by rw [sizeLine_eq, List.size_toArray]; exact Nat.le_trans hz (by decide))
theorem news_pick {h : Heap} {a b c d e f g j k : Addr × Obj} (N : News h₀ L h [a, b, c, d, e, f, g, j, k]) : News h₀ L h [a, g, j, k] := fun p hp => N p (by
  simp only [List.mem_cons, List.not_mem_nil, or_false] at hp ⊢
  rcases hp with rfl | rfl | rfl | rfl <;> simp)
theorem words_six {i : Nat} {vs : List Value} (h : WordsP i vs) (hi : i ≤ 24) : ∃ ys : List PySem.Str, StrsAre (vs.take 6) ys ∧ (∀ z ∈ ys, z.length ≤ 144) ∧ (vs.take 6).length ≤ 6 := by
  obtain ⟨⟨ys, s, b⟩, _, _⟩ := h
  refine ⟨ys.take 6, s.take' 6, fun z hz => ?_, by rw [List.length_take]; omega⟩
  have := b z (List.mem_of_mem_take hz)
  omega
end

end
section
open PySem PySem.W PyProof PyProof.Rows
noncomputable def TurnMark : Prop := True
structure EE where
  l : Addr
  vals : List Value
  n : Nat
  o1 : Obj
  o2 : Obj
structure EndsP (b cap : Nat) (want : List Str) (c : EE) : Prop where
  texts : StrsAre c.vals want
  cellE : c.o2.data = .cell (some (.ref c.l))
  cellT : ∃ t, c.o1.data = .cell t
  above : @LT.lt Nat _ b c.l
  size : c.vals.length ≤ cap
structure SL where
  cur : Str
  cu : Int
  li : Int
  lb : Int
  br : Int
  ke : Int
  t1 : Tok
  t2 : Tok
  t3 : Tok
  t4 : Tok
  t5 : Tok
  t6 : Tok
  vals : List Value
  n : Nat
theorem news_turn {h₀ h : Heap} {L : Addr} {a b c d e f g : Addr × Obj} (N : News h₀ L h [a, b, c, d, e, f, g]) : News h₀ L h [b, c, a, d, e, f, g] := fun p hp => N p (by
  simp only [List.mem_cons, List.not_mem_nil, or_false] at hp ⊢
  rcases hp with rfl | rfl | rfl | rfl | rfl | rfl | rfl <;> simp)
theorem own_two {own own2 led : List (Addr × Obj)} (h1 : OwnOff own (led.map (·.1))) (h2 : OwnOff own2 ((led ++ own).map (·.1))) : OwnOff (own ++ own2) (led.map (·.1)) := by
  intro p hp b hb
  rcases List.mem_append.mp hp with hp | hp
  · exact h1 p hp b hb
  · exact h2 p hp b (by rw [List.map_append]; exact List.mem_append_left _ hb)
theorem own_back {own own2 led led0 : List (Addr × Obj)} (h : OwnOff (own ++ own2) (led.map (·.1))) (h2 : OwnOff own2 ((led0 ++ own).map (·.1))) : OwnOff own2 ((led ++ own).map (·.1)) ∧ OwnOff own (led.map (·.1)) := by
  refine ⟨fun p hp b hb => ?_, fun p hp b hb => h p (List.mem_append_left _ hp) b hb⟩
  rw [List.map_append] at hb
  rcases List.mem_append.mp hb with hb | hb
  · exact h p (List.mem_append_right _ hp) b hb
  · exact h2 p hp b (by rw [List.map_append]; exact List.mem_append_right _ hb)
theorem own_cons {p : Addr × Obj} {rst : List (Addr × Obj)} {ls : List Addr} (h : OwnOff rst ls) (hp : ∀ b ∈ ls, p.1 ≠ b) : OwnOff (p :: rst) ls := by
  intro q hq b hb
  rcases List.mem_cons.mp hq with rfl | hq
  · exact hp b hb
  · exact h q hq b hb
theorem stem_same {y z : Str} (e : z = rvT (stem (rv y))) (h : rvT (first (rv z)) = z) : rvT (stem (rv z)) = z := by
  have h1 : rv z = stem (rv y) := by rw [e, rv_rvT]
  have h2 : first (stem (rv y)) = stem (rv y) := by rw [← h1, ← rv_rvT (first (rv z)), h]
  rw [h1, stem_told h2, ← e]
theorem stem_len (r : Cs) : (stem r).length ≤ r.length := Nat.le_trans (by
    unfold stem rest
    have h := turns_len endsK (first r).length (first r)
    dsimp only
    split
    · rw [List.length_drop]; omega
    · exact h) (first_len r)
theorem stems_len {ys : List Str} (h : ∀ z ∈ ys, z.length ≤ 144) : ∀ z ∈ ys.map fun z => rvT (stem (rv z)), z.length ≤ 1000 := by
  intro z hz
  obtain ⟨y, hy, rfl⟩ := List.mem_map.mp hz
  have h1 := h y hy
  have h2 := stem_len (rv y)
  rw [rv_length] at h2
  rw [rvT_length]
  omega
theorem stems_step {vals : List Value} {ys : List Str} {i : Nat} {z : Str} {t : Tok} {f : Str → Str} (h : StrsAre vals ((ys.take i).map f)) (hz : ys[i]? = some z) : StrsAre (vals ++ [.str (f z) t]) ((ys.take (i + 1)).map f) := by
  rw [List.take_add_one, hz, Option.toList_some, List.map_append]
  exact StrsAre.append' h (.cons _ _ .nil)
section
local macro_rules | `(tactic| k_qdec) => `(tactic| decide +kernel)
local macro_rules | `(tactic| walk_at "binaryOp Add ref ref") => `(tactic| (refine stop_of ?_))
local macro_rules | `(tactic| walk_at "subscriptTail Name Name ref int") => `(tactic| ((rename TurnMark => hTM); k_dflt (refine' rows_get ?N ?m ?a ?b ?_; (case N => k_asm); (case m => k_mem); (case a => omega); (case b => omega))))
local macro_rules | `(tactic| walk_at "call builtin:len") => `(tactic| ((rename TurnMark => hTM); k_dflt (refine' row_len ?l ?S ?k ?_; (case l => (rename LsAt _ _ _ _ => hrow9; exact LsAt.in hrow9 (by k_asm) (by k_asm) (by walk_at "mine two"))); (case S => assumption); (case k => assumption))))
local macro_rules | `(tactic| walk_at "subscriptTail Subscript") => `(tactic| ((rename TurnMark => hTM); k_dflt (refine' row_item ?l ?S ?k ?a ?b ?_; (case l => (rename LsAt _ _ _ _ => hrow9; exact LsAt.in hrow9 (by k_asm) (by k_asm) (by walk_at "mine two"))); (case S => assumption); (case k => assumption); (case a => exact Int.fmod_nonneg_of_pos _ (by assumption)); (case b => exact Int.fmod_lt_of_pos _ (by assumption))); intro c9 u9 hc9))
local macro_rules | `(tactic| walk_at "subscriptTail Name UnaryOp ref int") => `(tactic| ((rename TurnMark => hTM); k_dflt (refine' last_get ?N ?m ?p ?_; (case N => k_asm); (case m => k_mem); (case p => omega))))
local macro_rules | `(tactic| walk_at "setItem ref int") => `(tactic| ((rename TurnMark => hTM); k_dflt (refine' last_set ?F ?N ?U ?p ?_; (case F => k_asm); (case N => k_asm); (case U => k_upd); (case p => omega)); intro h' F' N'))
local macro_rules | `(tactic| walk_at "setItem ref int str") => `(tactic| ((rename TurnMark => hTM); k_dflt (refine' last_set ?F ?N ?U ?p ?_; (case F => k_asm); (case N => k_asm); (case U => k_upd); (case p => omega)); intro h' F' N'))
local macro_rules | `(tactic| walk_at "call builtin:list.append") => `(tactic| ((rename TurnMark => hTM); k_dflt (refine' append_K ?F ?N ?U ?_ ?z; (case F => k_asm); (case N => k_asm); (case U => k_upd); (case z => first | (rw [sizeLine_eq, List.size_toArray, List.length_append, List.length_singleton]; omega) | (rw [sizeLine_eq, List.size_toArray]; omega)); k_whole); intro h' F' N'; (try k_sweep)))
local macro_rules | `(tactic| walk_at "mine sameF") => `(tactic| (intro z _ h3; (simp only [List.contains_cons, List.contains_nil, Bool.or_false, Bool.or_eq_false_iff, beq_eq_false_iff_ne, ne_eq] at h3); simp [kstB, h3]))
local macro_rules | `(tactic| walk_at "subscriptTail Name Slice ref ref") => `(tactic| ((rename WordsP _ _ => hWP9); k_dflt (refine' slice6 ?F ?N ?m ?p ?q ?z ?_ ?s ?t; (case F => k_asm); (case N => k_asm); (case m => k_mem); (case p => kmk_part); (case q => kmk_part); (case z => exact Nat.le_trans hWP9.len (by omega)); (case s => with_unfolding_all rfl); (case t => kmk_pure)); intro D6 h6 F6 N6 l6; refine stop_of ?_))
local macro_rules | `(tactic| walk_at "mine first") => `(tactic| ((with_reducible show wpAny _ _ (call (Value.ref 666) _) _ _ _); k_dflt (refine' first_call ?kB ?kF ?kX ?kN ?kT ?kk ?kl ?kd ?ku ?kr); (case kB => assumption); (case kF => k_asm); (case kX => assumption); (case kN => k_asm); (case kT => assumption); (case kk => exact rfl); (case kl => omega); (case kd => ktr_room); (case ku => ktr_units); intro t9 h9 tk9 F9 N9; (try dsimp only)))
local macro_rules | `(tactic| walk_at "mine told") => `(tactic| ((with_reducible show wpAny _ _ (call (Value.ref 673) _) _ _ _); k_dflt (refine' rest_told ?kB ?kF ?kX ?kN ?kT ?kk ?kl ?ki ?kr ?ks ?kd ?ku ?kq); (case kB => assumption); (case kF => k_asm); (case kX => assumption); (case kN => k_asm); (case kT => assumption); (case kk => exact rfl); (case kl => exact .inr ⟨_, by k_mem⟩); (case ki => assumption); (case kr => assumption); (case ks => assumption); (case kd => ktr_room); (case ku => ktr_units); intro t9 h9 tk9 F9 N9; (try dsimp only)))
local macro_rules | `(tactic| walk_at "mine word") => `(tactic| ((with_reducible show wpAny _ _ (call (Value.ref 189) _) _ _ _); k_dflt (refine' word_top ?kB ?kF ?kX ?kN ?kT ?kk ?k1 ?k2 ?kl ?kd ?ku ?kq); (case kB => assumption); (case kF => k_asm); (case kX => assumption); (case kN => k_asm); (case kT => assumption); (case kk => exact rfl); (case k1 => assumption); (case k2 => assumption); (case kl => omega); (case kd => ktr_room); (case ku => ktr_units); refine stop_of ?_))
local macro_rules | `(tactic| walk_at "mine words") => `(tactic| ((with_reducible show wpAny _ _ (call (Value.ref 194) _) _ _ _); k_dflt (refine' words_call ?kB ?kF ?kX ?kN ?kT ?kk ?k1 ?k2 ?k3 ?ki ?kz ?kv ?kd ?ku ?kq); (case kB => assumption); (case kF => k_asm); (case kX => assumption); (case kN => k_asm); (case kT => assumption); (case kk => exact rfl); (case k1 => assumption); (case k2 => assumption); (case k3 => k_mem); (case ki => assumption); (case kz => assumption); (case kv => omega); (case kd => ktr_room); (case ku => ktr_units); refine stop_of ?_))
local macro_rules | `(tactic| walk_at "compareOp Eq ref ref") => `(tactic| (refine stop_of ?_))
local macro_rules | `(tactic| walk_at "call ref") => `(tactic| first | walk_at "mine first" | ((with_reducible show wpAny _ _ (call (Value.ref 666) _) _ _ _); refine stop_of ?_) | ((with_reducible show wpAny _ _ (call (Value.ref 194) _) _ _ _); refine stop_of ?_) | ((with_reducible show wpAny _ _ (call (Value.ref 673) _) _ _ _); refine stop_of ?_) | ((with_reducible show wpAny _ _ (call (Value.ref 189) _) _ _ _); refine stop_of ?_))
local macro_rules | `(tactic| walk_at "mine two") => `(tactic| exact List.forall_mem_cons.mpr ⟨by k_mem, List.forall_mem_cons.mpr ⟨by k_mem, List.forall_mem_nil _⟩⟩)
local macro_rules | `(tactic| walk_at "binaryOp Mod int int") => `(tactic| ((rename TurnMark => hTM); k_dflt (refine' PyProof.Rows.mod_int' ?nz ?_; (case nz => omega))))
local macro_rules | `(tactic| walk_at "call builtin:chr") => `(tactic| ((rename TurnMark => hTM); k_dflt (refine' chr_any ?_); intro c9 u9 tk9 hc9; (try dsimp only)))
local macro_rules | `(tactic| walk_at "ElPost") => `(tactic| (refine stop_of ?_))
local macro_rules | `(tactic| walk_at "FvPost") => `(tactic| (refine stop_of ?_))
local macro_rules | `(tactic| walk_at "binaryOp Add str str") => `(tactic| (refine PyProof.Rows.add_str (fun t7 tk7 => ?_) (by rw [sizeLine_eq]; omega)))
local macro_rules | `(tactic| walk_at "exec For Name Name cons nil") => `(tactic| (k_here; (rename Fr _ _ _ _ => lF'); (with_unfolding_all refine' For_turns lF' ?_; k_whole)))
local macro_rules | `(tactic| walk_at "exec For Name Subscript cons nil") => `(tactic| (k_here; (rename Fr _ _ _ _ => lF'); (with_unfolding_all refine' For_turns lF' ?_; k_whole)))
set_option maxRecDepth 100000 in
set_option maxHeartbeats 8000000 in
theorem main : PySem.Challenge.rw_iu0021_01.Holds := by
  refine hd2 (by rfl) (by rfl) (by rfl) ?_
  k_go0
  (all_goals try k_fold)
  k_steps
  refine stop_go ?_
  rename Fr _ _ _ _ => F0
  rename News _ _ _ _ => N0
  rename Frag.In _ _ => X0
  rename World => w9
  rename Shared => s9
  rename (_ < _ ∧ _ < _) => hlt0
  refine for_vals (σ := EE) (vs := itemsAt (heap_39 w9.params) 652) (fun c => [(c.l, PySem.W.listOf c.vals.toArray c.n), (_, c.o1), (_, c.o2)]) (fun _ => []) [Str.ofString "heads", Str.ofString "tails"]
    (fun i c => EndsP (s9.heap.objs.size + 1 + 1) (10000 * i) (longUpTo (heap_39 w9.params) (itemsAt (heap_39 w9.params) 652) i) c) ⟨_, [], _, _, _⟩ (by rfl) (.inl (items_list X0 long_is)) F0 N0 (fun _ h => nomatch h) ⟨.nil, by assumption, ⟨_, by assumption⟩, hlt0.1, Nat.zero_le _⟩ ?turn ?done
  case turn =>
    -- BEGIN turn
    intro c i v u h tk own hv hown hP F1 N1
    obtain ⟨ls, vals, n, o1, o2⟩ := c
    obtain ⟨hy, hce, ⟨t0, hct⟩, hlt1, hcap⟩ := hP
    dsimp only at hy hce hct hlt1 hcap F1 N1 hown
    obtain ⟨a9, x9, y9, vh, vt, rfl, htup, hlh, hsh, hle, hlt, hst, htl, hzh, hzt⟩ := (rows_in X0 long_ok hv).is
    clear F0 N0 hlt0
    k_steps
    refine stop_go ?_
    rename Fr _ _ _ _ => F2
    rename News _ _ _ _ => N2
    refine for_vals (σ := EE) (vs := vt) (fun c => [(c.l, PySem.W.listOf c.vals.toArray c.n), (_, c.o1), (_, c.o2)] ++ own) (fun _ => []) []
      (fun j c => EndsP (s9.heap.objs.size + 1 + 1) (10000 * i + 100 * j) (longUpTo (heap_39 w9.params) (itemsAt (heap_39 w9.params) 652) i ++ joins (rowTexts (heap_39 w9.params) (Value.ref a9)).1 ((rowTexts (heap_39 w9.params) (Value.ref a9)).2.take j)) c ∧ OwnOff own [c.l, s9.heap.objs.size + 1 + 1, s9.heap.objs.size + 1]) ⟨_, _, _, _, _⟩ (by rfl) (.inl hlt) F2 N2 (fun _ h => nomatch h) ⟨⟨by simpa [joins] using hy, hce, ⟨_, hct⟩, hlt1, hcap⟩, hown⟩ ?turn2 ?done2
    case turn2 =>
      clear F2 N2
      intro c j v u h tk own2 hv2 hown2 hP F3 N3
      obtain ⟨ls2, vals2, n2, o12, o22⟩ := c
      obtain ⟨⟨hy2, hce2, ⟨t02, hct2⟩, hlt2, hcap2⟩, hol2⟩ := hP
      dsimp only at hy2 hce2 hct2 hlt2 hcap2 hol2 F3 N3 hown2
      obtain ⟨y2, t2, rfl, hyt2⟩ := hst.item j v hv2
      have hly := hzt _ (List.mem_of_getElem? hyt2)
      have hi12 : i < 12 := by
        have := (List.getElem?_eq_some_iff.mp hv).1
        rw [long_len] at this
        exact this
      have hj100 : j < 100 := Nat.lt_of_lt_of_le (List.getElem?_eq_some_iff.mp hv2).1 htl
      have hown3 : OwnOff (own ++ own2) [ls2, s9.heap.objs.size + 1 + 1, s9.heap.objs.size + 1] := own_two (led := [(ls2, W.listOf vals2.toArray n2), (s9.heap.objs.size + 1 + 1, o12), (s9.heap.objs.size + 1, o22)]) hol2 hown2
      rw [List.append_assoc] at N3
      generalize hown9 : own ++ own2 = own3 at hown3 N3
      k_steps
      refine stop_go ?_
      rename Fr _ _ _ _ => F4
      rename News _ _ _ _ => N4
      refine LCg.CompSrc.base (by rfl) F4 N4 hlh (by rw [List.size_toArray]; exact Nat.le_trans hle (by decide)) ?_
      intro g4
      refine comp_vals (fun k y => ∃ z t, ((rowTexts (heap_39 w9.params) (Value.ref a9)).1.map fun z => z ++ y2)[k]? = some z ∧ y = Value.str z t) (.inl hlh) ?elt2 ?fin2
      case elt2 =>
        intro k v5 ys5 I5 oI5 C5 oC5 D5 m5 h5 tk5 E5 hv5 hC5 hx5 F5 N5 off5 ne5
        clear F4 N4
        obtain ⟨z5, t5, rfl, hz5⟩ := hsh.item k v5 hv5
        have hlz := hzh _ (List.mem_of_getElem? hz5)
        k_steps
        refine stop_go ?_
        exact ElPost.intro F5 N5 (fun _ h => h) ⟨_, _, by rw [List.getElem?_map, hz5]; rfl, rfl⟩
      case fin2 =>
        intro ys5 hl5 hr5
        k_steps
        refine stop_go ?_
        rename Fr _ _ _ _ => F6
        rename News _ _ _ _ => N6
        refine add_two F6 N6 (by k_mem) (by k_mem) (by rw [sizeLine_eq]; omega) fun D6 h6 n6 F7 N7 hb7 => ?_
        have hD6 : @LT.lt Nat _ (s9.heap.objs.size + 1 + 1) D6 := hb7 (s9.heap.objs.size + 1 + 1, _) (by k_mem)
        have hown6 : OwnOff own3 [D6, s9.heap.objs.size + 1 + 1, s9.heap.objs.size + 1] := by
          intro p hp b hb
          rcases List.mem_cons.mp hb with rfl | hb
          · exact Nat.ne_of_lt (hb7 p (List.mem_cons_of_mem _ (List.mem_cons_of_mem _ (List.mem_cons_of_mem _ (List.mem_cons_of_mem _ hp)))))
          · exact hown3 p hp b (List.mem_cons_of_mem _ hb)
        have N8 := kst_newsOf (l' := (D6, PySem.W.listOf (vals2 ++ ys5).toArray n6) :: (s9.heap.objs.size + 1 + 1, _) :: (s9.heap.objs.size + 1, o22) :: own3) N7 (fun p hp => by
          rcases List.mem_cons.mp hp with rfl | hp
          · exact List.mem_cons_self ..
          · exact List.mem_cons_of_mem _ (List.mem_cons_of_mem _ (List.mem_cons_of_mem _ hp)))
        clear F6 N6 N7 F4 N4
        k_steps
        refine stop_go ?_
        rw [← hown9] at hown6
        obtain ⟨ho1, ho2⟩ := own_back (led := [(D6, PySem.W.listOf (vals2 ++ ys5).toArray n6), (s9.heap.objs.size + 1 + 1, o12), (s9.heap.objs.size + 1, o22)]) hown6 hown2
        refine FvPost.go (.inl rfl) ⟨D6, vals2 ++ ys5, n6, _, _⟩ (by k_asm) (by k_asm) (by rw [List.append_assoc, hown9]; exact fun _ h => h) (by exact ho1) (fun _ h => nomatch h) (fun z _ _ => rfl) ⟨⟨?_, by assumption, ⟨_, by assumption⟩, hD6, ?_⟩, ho2⟩
        · rw [joins_step hyt2, ← List.append_assoc]
          refine StrsAre.append' hy2 (strs_by ?_ hr5)
          rw [List.length_map, hl5, hsh.length]
        · show (vals2 ++ ys5).length ≤ _
          rw [List.length_append]
          omega
    case done2 =>
      clear F2 N2
      intro c u h tk hP F3 N3
      obtain ⟨ls2, vals2, n2, o12, o22⟩ := c
      obtain ⟨⟨hy2, hce2, ⟨t02, hct2⟩, hlt2, hcap2⟩, hol2⟩ := hP
      dsimp only at hy2 hce2 hct2 hlt2 hcap2 hol2 F3 N3
      k_steps
      refine stop_go ?_
      refine FvPost.go (.inl rfl) ⟨ls2, vals2, n2, _, _⟩ (by k_asm) (by k_asm) (fun _ h => h) hol2 (fun _ h => nomatch h) ?_ ⟨?_, hce2, ⟨_, hct2⟩, hlt2, ?_⟩
      · intro z _ h3
        simp only [List.contains_cons, List.contains_nil, Bool.or_false, Bool.or_eq_false_iff, beq_eq_false_iff_ne, ne_eq] at h3
        simp [kstB, h3]
      · rw [longUpTo_step hv]
        rw [hst.length, List.take_length] at hy2
        exact hy2
      · show vals2.length ≤ _
        omega
    -- END turn
  case done =>
    clear F0 N0 hlt0
    intro c u h tk hP F1 N1
    obtain ⟨lE, valsE, nE, oT, oE⟩ := c
    obtain ⟨hyE, hceE, ⟨t0, hcT⟩, hltE, hcapE⟩ := hP
    dsimp only at hyE hceE hcT hltE hcapE F1 N1
    have hEnds : (longUpTo (heap_39 w9.params) (itemsAt (heap_39 w9.params) 652) (itemsAt (heap_39 w9.params) 652).length).map rv = endsK := by
      rw [long_len]
      exact long_ends
    generalize longUpTo (heap_39 w9.params) (itemsAt (heap_39 w9.params) 652) (itemsAt (heap_39 w9.params) 652).length = ysE at hyE hEnds
    rw [long_len] at hcapE
    k_steps
    refine stop_go ?_
    rename Fr _ _ _ _ => F2
    rename News _ _ _ _ => N2
    obtain ⟨hll, hls⟩ := shorts_at X0 last_ok
    refine add_base F2 N2 hll (by k_mem) (by rw [sizeLine_eq, hls.len]; exact Nat.le_of_ble_eq_true rfl) fun D7 h7 n7 F7 N7 hb7 => ?_
    obtain ⟨v7, S7, N7⟩ : ∃ v7, Shorts v7 (3 + 3) ∧ News _ _ _ ((D7, PySem.W.listOf v7.toArray n7) :: _) := ⟨_, shorts_three hls (by decide) (by decide) (by decide), N7⟩
    k_steps
    refine stop_go ?_
    rename Fr _ _ _ _ => F8
    rename News _ _ _ _ => N8
    rename IntsAre _ (List.take 24 _) => hI24
    rename List Value => ws24
    rename (_ = min 24 _) => hl24
    (try clear hb7)
    rename (lE < _ ∧ _) => hlt8
    refine for_vals (σ := List Value × Nat) (vs := ws24) (fun c => [(_, PySem.W.listOf ws24.toArray 0), (_, PySem.W.listOf c.1.toArray c.2), (_, _), (D7, _), (_, _), (lE, _), (_, oT), (_, oE)]) (fun _ => []) [Str.ofString "number", Str.ofString "row"]
      (fun i c => WordsP i c.1) ([.str _ _], 0) (by rfl) (.inr ⟨_, fun _ => List.mem_cons_self ..⟩) F8 N8 (fun _ h => nomatch h) wordsP_start ?wturn ?wdone
    case wturn =>
      -- BEGIN wturn
      clear F8 N8
      intro c i v u h tk own hv hown hP F9 N9
      obtain ⟨vals, n⟩ := c
      dsimp only at hP F9 N9 hown
      obtain ⟨k, t, rfl, hk⟩ := IntsAre.at hI24 i v hv
      obtain ⟨pre, z, t8, rfl, hpre, hz, hlen⟩ := hP.last
      obtain ⟨hl2, S2⟩ := shorts_at X0 letters_ok
      obtain ⟨hl3, S3⟩ := shorts_at X0 case_ok
      obtain ⟨vr, kr, hrow, hSr, hk0, hk1⟩ := rows_are (led := [(D7, PySem.W.listOf v7.toArray n7), (lE, PySem.W.listOf valsE.toArray nE)]) hl2 S2 hl3 S3 (List.mem_cons_self ..) S7 (List.mem_cons_of_mem _ (List.mem_cons_self ..)) (shorts_ends hyE hEnds) (by decide) (k.fmod 6)
      have hf6 := fmod6 k
      have hTM : TurnMark := trivial
      have hi24 : i < 24 := by
        have := (List.getElem?_eq_some_iff.mp hv).1
        rw [hI24.length, hl24] at this
        omega
      simp only [List.map_cons, List.map_nil] at hown
      k_steps
      · refine stop_go ?_
        rename News s9.heap s9.heap.objs.size _ _ => Ne
        rw [List.push_toArray] at Ne
        refine FvPost.go (.inl rfl) (pre ++ [Value.str z t8] ++ [_], n + 1) (by k_asm) Ne (fun _ h => h) hown (fun _ h => nomatch h) (by walk_at "mine sameF") ?_
        exact wordsP_more hpre hz (by decide) hlen
      · refine stop_go ?_
        refine FvPost.go (.inl rfl) (pre ++ [Value.str (z ++ _) _], n) (by k_asm) (by k_asm) (fun _ h => h) hown (fun _ h => nomatch h) (by walk_at "mine sameF") ?_
        exact wordsP_put hpre (by rw [app_len]; omega) hlen
      · refine stop_go ?_
        refine FvPost.go (.inl rfl) (pre ++ [Value.str (z ++ _) _], n) (by k_asm) (by k_asm) (fun _ h => h) hown (fun _ h => nomatch h) (by walk_at "mine sameF") ?_
        exact wordsP_put hpre (by rw [app_len]; omega) hlen
      -- END wturn
    case wdone =>
      clear F8 N8
      intro c u h tk hP F9 N9
      obtain ⟨vals, n⟩ := c
      dsimp only at hP F9 N9
      have hw24 : ws24.length ≤ 24 := by rw [hI24.length, hl24]; omega
      obtain ⟨ys6, hs6, hb6, hn6⟩ := words_six hP hw24
      k_steps
      refine stop_go ?_
      rename Fr _ _ _ _ => F10
      rename News _ _ _ _ => N10
      have N11 := news_pick N10
      generalize vals.take 6 = ws6 at N11 hs6 hn6
      clear N10 hlt8 S7 hI24 hl24
      k_steps
      refine stop_go ?_
      rename Fr _ _ _ _ => F12
      rename News _ _ _ _ => N12
      have N13 := news_turn N12
      refine for_vals (σ := SL) (vs := ws6) (fun c => stN _ _ (stD w9.params ⟨_, _, _, _, _, _⟩ c.cur c.t1 c.cu c.t2 c.li c.t3 c.lb c.t4 c.br c.t5 c.ke c.t6) [(_, PySem.W.listOf c.vals.toArray c.n), (_, PySem.W.listOf ws6.toArray 0), (lE, PySem.W.listOf valsE.toArray nE), (_, oT), (_, oE)]) (fun _ => []) [Str.ofString "word", Str.ofString "stem"]
        (fun i c => StrsAre c.vals ((ys6.take i).map fun z => rvT (stem (rv z)))) ⟨_, _, _, _, _, _, _, _, _, _, _, _, [], 0⟩ (by rfl) (.inr ⟨_, fun _ => List.mem_cons_of_mem _ (List.mem_cons_of_mem _ (List.mem_cons_of_mem _ (List.mem_cons_self ..)))⟩) F12 N13 (fun _ h => nomatch h) .nil ?sturn ?sdone
      case sturn =>
        -- BEGIN sturn
        clear F12 N12 N13
        intro c i v u h tk own hv hown hP F9 N9
        obtain ⟨cur, cu, li, lb, br, ke, t1, t2, t3, t4, t5, t6, vals, n⟩ := c
        dsimp only at hP F9 N9 hown
        obtain ⟨z, t, rfl, hz⟩ := hs6.item i v hv
        have hzl := hb6 _ (List.mem_of_getElem? hz)
        obtain ⟨hxd9, hoff9⟩ := stem_off N9 hown inst_off list_off list_off list_off (cell_off hcT) (cell_off hceE)
        have hfl : (rvT (first (rv z))).length ≤ 1000 := by
          have := first_len (rv z)
          rw [rv_length] at this
          rw [rvT_length]
          omega
        k_steps
        refine stop_go ?_
        walk_at "mine told"
        k_steps
        refine stop_go ?_
        walk_at "mine word"
        refine stop_go ?_
        intro cur9 ta9 cu9 tb9 li9 tc9 lb9 td9 br9 te9 ke9 tf9 tz9 h9 tk9 F11 N11
        (try dsimp only)
        have hTM : TurnMark := trivial
        have hvl : vals.length ≤ 6 := by
          rw [hP.length, List.length_map, List.length_take, ← hs6.length]
          omega
        k_steps
        · exfalso
          rename ((rvT _ != rvT _) = true) => hb
          simp at hb
        · refine stop_go ?_
          rename News _ _ _ _ => Ne
          rw [List.push_toArray] at Ne
          refine FvPost.go (.inl rfl) ⟨cur9, cu9, li9, lb9, br9, ke9, ta9, tb9, tc9, td9, te9, tf9, vals ++ [_], n + 1⟩ (by k_asm) Ne (fun _ h => h) hown (fun _ h => nomatch h) (by walk_at "mine sameF") (stems_step hP hz)
        -- END sturn
      case sdone =>
        clear F12 N12 N13
        intro c u h tk hP F9 N9
        obtain ⟨cur, cu, li, lb, br, ke, t1, t2, t3, t4, t5, t6, vals, n⟩ := c
        dsimp only at hP F9 N9
        rw [hs6.length, List.take_length] at hP
        have hvl : vals.length ≤ 6 := by
          rw [hP.length, List.length_map, ← hs6.length]
          exact hn6
        have hzl : ∀ z ∈ ys6.map fun z => rvT (stem (rv z)), z.length ≤ 1000 := stems_len hb6
        obtain ⟨hxd9, hoff9⟩ := stem_off (own := []) (by exact N9) (fun _ h => nomatch h) inst_off list_off list_off list_off (cell_off hcT) (cell_off hceE)
        k_steps
        refine stop_go ?_
        rename Fr _ _ _ _ => F10
        rename News _ _ _ _ => N10
        refine LCg.CompSrc.ledger (by rfl) F10 N10 (by k_mem) (by rw [List.size_toArray]; exact Nat.le_trans hvl (by decide)) ?_
        intro g4
        refine comp_vals (fun k y => ∃ z t, ((ys6.map fun z => rvT (stem (rv z))).map fun z => rvT (stem (rv z)))[k]? = some z ∧ y = Value.str z t) (Or.inr ⟨_, by k_mem, rfl, _, rfl⟩) ?elt3 ?fin3
        case elt3 =>
          intro k v5 ys5 I5 oI5 C5 oC5 D5 m5 h5 tk5 E5 hv5 hC5 hx5 F5 N5 off5 ne5
          clear F10 N10
          obtain ⟨z5, t5, rfl, hz5⟩ := hP.item k v5 hv5
          have hz5l := hzl _ (List.mem_of_getElem? hz5)
          k_steps
          refine stop_go ?_
          walk_at "mine first"
          obtain ⟨y5, hy5, e5⟩ : ∃ y, ys6[k]? = some y ∧ z5 = rvT (stem (rv y)) := by
            rw [List.getElem?_map] at hz5
            obtain ⟨y, h1, h2⟩ := Option.map_eq_some_iff.mp hz5
            exact ⟨y, h1, h2.symm⟩
          have hfl : (rvT (first (rv z5))).length ≤ 1000 := by
            have := first_len (rv z5)
            rw [rv_length] at this
            rw [rvT_length]
            omega
          k_steps
          · refine stop_go ?_
            refine ElPost.intro (by k_asm) (by k_asm) (fun _ h => h) ⟨rvT (stem (rv z5)), t5, by rw [List.getElem?_map, hz5]; rfl, ?_⟩
            rename ((rvT (first _) == _) = true) => hb
            rw [stem_same e5 (beq_iff_eq.mp hb)]
          · refine stop_go ?_
            walk_at "mine told"
            k_steps
            refine stop_go ?_
            exact ElPost.intro (by k_asm) (by k_asm) (fun _ h => h) ⟨rvT (stem (rv z5)), _, by rw [List.getElem?_map, hz5]; rfl, rfl⟩
        case fin3 =>
          intro ys5 hl5 hr5
          have S5 : StrsAre ys5 ((ys6.map fun z => rvT (stem (rv z))).map fun z => rvT (stem (rv z))) := strs_by (by rw [hl5, hP.length, List.length_map, List.length_map, List.length_map]) hr5
          unfold LCg.FinA
          intro D9 h9 tk9 F13 N13 off13
          have off9 := off1_mem off13
          clear F10 N10 hr5 off13
          have N14 := kst_newsOf (l' := stN _ _ (stD w9.params ⟨_, _, _, _, _, _⟩ cur t1 cu t2 li t3 lb t4 br t5 ke t6) ((D9, LCg.lst ys5) :: _)) N13 (fun p hp => by
            rcases List.mem_cons.mp hp with rfl | hp
            · exact List.mem_cons_of_mem _ (List.mem_cons_self ..)
            · rcases List.mem_cons.mp hp with rfl | hp
              · exact List.mem_cons_of_mem _ (List.mem_cons_of_mem _ (List.mem_cons_self ..))
              · rcases List.mem_cons.mp hp with rfl | hp
                · exact List.mem_cons_self ..
                · exact List.mem_cons_of_mem _ (List.mem_cons_of_mem _ (List.mem_cons_of_mem _ hp)))
          have hoff14 := own_cons (p := (D9, LCg.lst ys5)) hoff9 (fun b hb => by
            rcases List.mem_cons.mp hb with rfl | hb
            · exact Ne.symm (off9 (b, _) (List.mem_cons_self ..))
            · rw [List.mem_singleton.mp hb]
              exact Ne.symm (off9 (_, _) (List.mem_cons_of_mem _ (List.mem_cons_self ..))))
          clear N13 off9
          k_steps
          refine stop_go ?_
          walk_at "mine words"
          refine stop_go ?_
          intro D8 ys8 cur8 ta8 cu8 tb8 li8 tc8 lb8 td8 br8 te8 ke8 tf8 h8 tk8 F15 N15 S8
          (try dsimp only)
          clear N14
          k_steps
          refine stop_go ?_
          refine texts_eq ⟨_, (N15 (D8, LCg.lst ys8) (List.mem_cons_self ..)).1, rfl, _, rfl⟩ ⟨_, (N15 (D9, LCg.lst ys5) (List.mem_cons_of_mem _ (List.mem_cons_of_mem _ (List.mem_cons_of_mem _ (List.mem_cons_self ..))))).1, rfl, _, rfl⟩ S8 S5 (by first | ktr_units | decide) ?_
          k_steps
end

end
end Mine
open PySem PySem.W PyProof.Rows
set_option maxRecDepth 100000 in
set_option maxHeartbeats 8000000 in
theorem PySem.Challenge.cw_iu0021_01_holds : PySem.Challenge.rw_iu0021_01.Holds := by
  exact Mine.main
