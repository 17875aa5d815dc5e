import PyProof.Rows.All
import Wide.All
import OpenK.AllK
import Wide.FinOn
import Lean
import PySem.Challenge.RW_ph0064_01
set_option Elab.async false
set_option maxRecDepth 100000
set_option maxHeartbeats 8000000
namespace Mine
theorem fdiv2 (a : Int) : 2 * a.fdiv 2 ≤ a ∧ a < 2 * a.fdiv 2 + 2 := by
  rw [Int.fdiv_eq_ediv_of_nonneg _ (by decide)]; omega
/-- a place that parts the list by q is the count -/
theorem parted {α : Type} {ns : List α} {q : α → Bool} : ∀ {r : Nat}, r ≤ ns.length → (∀ i y, i < r → ns[i]? = some y → q y = true) → (∀ i y, r ≤ i → ns[i]? = some y → q y = false) → ns.countP q = r := by
  induction ns with
  | nil => intro r h _ _; simp at h; simp [h]
  | cons a l ih =>
    intro r h h1 h2
    cases r with
    | zero =>
      have ha := h2 0 a (Nat.le_refl _) rfl
      have := ih (r := 0) (Nat.zero_le _) (fun i y hi => absurd hi (Nat.not_lt_zero _)) (fun i y _ e => h2 (i + 1) y (Nat.zero_le _) (by simpa using e))
      rw [List.countP_cons, this, ha]; rfl
    | succ r =>
      have ha := h1 0 a (Nat.succ_pos _) rfl
      have := ih (r := r) (by simpa using h) (fun i y hi e => h1 (i + 1) y (by omega) (by simpa using e)) (fun i y hi e => h2 (i + 1) y (by omega) (by simpa using e))
      rw [List.countP_cons, this, ha]; rfl
/-- q holds on a first part of the list alone -/
def Falls {α : Type} (q : α → Bool) (ns : List α) : Prop := ∀ (i j : Nat) (a b : α), i ≤ j → ns[i]? = some a → ns[j]? = some b → q b = true → q a = true
theorem falls_le {ns : List Int} (hs : ns.Pairwise (· ≤ ·)) (x : Int) : Falls (fun y => decide (y ≤ x)) ns := by
  intro i j a b hij ha hb hq
  have hab : a ≤ b := by
    rcases Nat.lt_or_eq_of_le hij with h | h
    · obtain ⟨hi, rfl⟩ := List.getElem?_eq_some_iff.mp ha
      obtain ⟨hj, rfl⟩ := List.getElem?_eq_some_iff.mp hb
      exact List.pairwise_iff_getElem.mp hs i j hi hj h
    · subst h; rw [ha] at hb; cases hb; exact Int.le_refl _
  simp only [decide_eq_true_eq] at hq ⊢
  omega
/-- the state of a search by halves -/
structure Half {α : Type} (q : α → Bool) (ns : List α) (lo hi : Int) : Prop where
  b1 : 0 ≤ lo
  b2 : lo ≤ hi
  b3 : hi ≤ ns.length
  c1 : ∀ (i : Nat) y, (i : Int) < lo → ns[i]? = some y → q y = true
  c2 : ∀ (i : Nat) y, hi ≤ i → ns[i]? = some y → q y = false
theorem Half.start {α : Type} (q : α → Bool) (ns : List α) : Half q ns 0 ns.length :=
  ⟨Int.le_refl _, Int.natCast_nonneg _, Int.le_refl _, fun i y hi => by omega, fun i y hi hy => by have := (List.getElem?_eq_some_iff.mp hy).1; omega⟩
theorem Half.mid {α : Type} {q : α → Bool} {ns : List α} {lo hi : Int} (H : Half q ns lo hi) (h : lo < hi) : 0 ≤ (lo + hi).fdiv 2 ∧ lo ≤ (lo + hi).fdiv 2 ∧ (lo + hi).fdiv 2 < hi ∧ (lo + hi).fdiv 2 < ns.length := by
  have := fdiv2 (lo + hi); have := H.b1; have := H.b3; omega
theorem Half.left {α : Type} [Inhabited α] {q : α → Bool} {ns : List α} {lo hi : Int} {d : α} (H : Half q ns lo hi) (hf : Falls q ns) (h : lo < hi) (hq : q (ns.getD ((lo + hi).fdiv 2).toNat d) = false) : Half q ns lo ((lo + hi).fdiv 2) := by
  have hm := H.mid h
  refine ⟨H.b1, hm.2.1, by omega, H.c1, fun i y hi' hy => ?_⟩
  cases e : q y with
  | false => rfl
  | true =>
    have hlt : ((lo + hi).fdiv 2).toNat < ns.length := by omega
    have := hf ((lo + hi).fdiv 2).toNat i _ y (by omega) (List.getElem?_eq_getElem hlt) hy e
    rw [List.getD_eq_getElem?_getD, List.getElem?_eq_getElem hlt] at hq
    simp only [Option.getD_some] at hq
    rw [this] at hq; cases hq
theorem Half.right {α : Type} [Inhabited α] {q : α → Bool} {ns : List α} {lo hi : Int} {d : α} (H : Half q ns lo hi) (hf : Falls q ns) (h : lo < hi) (hq : q (ns.getD ((lo + hi).fdiv 2).toNat d) = true) : Half q ns ((lo + hi).fdiv 2 + 1) hi := by
  have hm := H.mid h
  refine ⟨by omega, by omega, H.b3, fun i y hi' hy => ?_, H.c2⟩
  have hlt : ((lo + hi).fdiv 2).toNat < ns.length := by omega
  rw [List.getD_eq_getElem?_getD, List.getElem?_eq_getElem hlt] at hq
  simp only [Option.getD_some] at hq
  exact hf i ((lo + hi).fdiv 2).toNat y _ (by omega) hy (List.getElem?_eq_getElem hlt) hq
theorem Half.done {α : Type} {q : α → Bool} {ns : List α} {lo hi : Int} (H : Half q ns lo hi) (h : ¬ lo < hi) : lo = (ns.countP q : Nat) := by
  have := H.b1; have := H.b2; have := H.b3
  have := parted (r := lo.toNat) (by omega) (fun i y hi e => H.c1 i y (by omega) e) (fun i y hi e => H.c2 i y (by omega) e)
  omega
/-- how many signs cram takes from the beginning, and from the end -/
def preN (n : Int) : Nat := ((n - 3) / 2).toNat
def postN (n : Int) : Nat := (n - 3 - preN n).toNat
def dots : List Nat := [46, 46, 46]
def cramL (cs : List Nat) (n : Int) : List Nat := if n < (cs.length : Int) then cs.take (preN n) ++ dots ++ cs.drop (cs.length - postN n) else cs
/-- how many signs two texts have in common at their beginning -/
def lcp : List Nat → List Nat → Nat
  | a :: as, b :: bs => if a = b then lcp as bs + 1 else 0
  | _, _ => 0
theorem lcp_is : ∀ {us vs : List Nat} {k : Nat}, k ≤ us.length → k ≤ vs.length → (∀ i, i < k → us[i]? = vs[i]?) → (k = us.length ∨ k = vs.length ∨ us[k]? ≠ vs[k]?) → lcp us vs = k
  | [], vs, k, h, _, _, _ => by simp at h; simp [lcp, h]
  | a :: as, [], k, _, h, _, _ => by simp at h; simp [lcp, h]
  | a :: as, b :: bs, 0, _, _, _, he => by
    have : a ≠ b := by
      rcases he with h | h | h
      · simp at h
      · simp at h
      · simpa using h
    simp [lcp, this]
  | a :: as, b :: bs, k + 1, h1, h2, hi, he => by
    have hab : a = b := by simpa using hi 0 (Nat.succ_pos _)
    have := lcp_is (us := as) (vs := bs) (k := k) (by simpa using h1) (by simpa using h2) (fun i h => by simpa using hi (i + 1) (by omega)) (by
      rcases he with h | h | h
      · exact .inl (by simpa using h)
      · exact .inr (.inl (by simpa using h))
      · exact .inr (.inr (by simpa using h)))
    rw [lcp, if_pos hab, this]
/-- from which width two unlike texts are told apart: the shorter one first -/
def apartS (sh wd : List Nat) : Int :=
  if 3 ≤ sh.length ∧ sh.length < wd.length ∧ (sh.drop ((sh.length - 3) / 2)).take 3 = dots ∧ (sh.length - 3) / 2 ≤ lcp sh wd ∧ sh.length - 3 - (sh.length - 3) / 2 ≤ lcp sh.reverse wd.reverse then (sh.length : Int) + 1
  else min (sh.length : Int) (min (2 * (lcp sh wd : Int) + 5) (2 * (lcp sh.reverse wd.reverse : Int) + 4))
def apartL (us vs : List Nat) (never : Int) : Int :=
  if us = vs then never else if us.length ≤ vs.length then apartS us vs else apartS vs us
/-- the unlike ones among them, in the order of their first coming -/
def uniqFrom (acc : List (List Nat)) : List (List Nat) → List (List Nat)
  | [] => acc
  | x :: r => uniqFrom (if x ∈ acc then acc else acc ++ [x]) r
def uniq (l : List (List Nat)) : List (List Nat) := uniqFrom [] l
theorem uniqFrom_snoc : ∀ (l acc : List (List Nat)) (x : List Nat), uniqFrom acc (l ++ [x]) = if x ∈ uniqFrom acc l then uniqFrom acc l else uniqFrom acc l ++ [x]
  | [], acc, x => rfl
  | y :: r, acc, x => by rw [List.cons_append, uniqFrom, uniqFrom_snoc r, uniqFrom]
theorem uniq_take {l : List (List Nat)} {i : Nat} {x : List Nat} (h : l[i]? = some x) : uniq (l.take (i + 1)) = if x ∈ uniq (l.take i) then uniq (l.take i) else uniq (l.take i) ++ [x] := by
  rw [List.take_add_one, h]
  exact uniqFrom_snoc _ _ _
theorem uniqFrom_len : ∀ (l acc : List (List Nat)), (uniqFrom acc l).length ≤ acc.length + l.length
  | [], acc => by simp [uniqFrom]
  | x :: r, acc => by
    rw [uniqFrom]
    have := uniqFrom_len r (if x ∈ acc then acc else acc ++ [x])
    split at this <;> simp at this ⊢ <;> split <;> simp_all <;> omega
theorem uniq_len (l : List (List Nat)) : (uniq l).length ≤ l.length := by
  have := uniqFrom_len l []; simpa [uniq] using this
/-- the widths from 0 up to M -/
def upTo (M : Nat) : List Int := (List.range (M + 1)).map fun (i : Nat) => (i : Int)
/-- whether the text at k is shown unlike all ahead of it -/
def unl (css : List (List Nat)) (k : Nat) (y : Int) : Int := if cramL (css.getD k []) y ∈ (css.take k).map (cramL · y) then 0 else 1
/-- the first width at which it is -/
def foundN (css : List (List Nat)) (M k : Nat) : Nat := (upTo M).countP (fun y => decide (unl css k y < 1))
/-- a number laid into a row, behind those that are not greater -/
def insR (row : List Int) (x : Int) : List Int := row.take (row.countP (· ≤ x)) ++ x :: row.drop (row.countP (· ≤ x))
def rowTo (css : List (List Nat)) (M : Nat) : Nat → List Int
  | 0 => []
  | k + 1 => insR (rowTo css M k) (foundN css M k)
def rowOf (css : List (List Nat)) (M : Nat) : List Int := rowTo css M css.length
theorem insR_len (row : List Int) (x : Int) : (insR row x).length = row.length + 1 := by
  unfold insR
  rw [List.length_append, List.length_cons, List.length_take, List.length_drop]
  omega
theorem rowTo_len (css : List (List Nat)) (M : Nat) : ∀ k, (rowTo css M k).length = k
  | 0 => rfl
  | k + 1 => by rw [rowTo, insR_len, rowTo_len css M k]
theorem insR_sorted {row : List Int} (h : row.Pairwise (· ≤ ·)) (x : Int) : (insR row x).Pairwise (· ≤ ·) := by
  induction row with
  | nil => simp [insR]
  | cons a r ih =>
    rw [List.pairwise_cons] at h
    by_cases c : a ≤ x
    · have e : insR (a :: r) x = a :: insR r x := by
        unfold insR
        rw [List.countP_cons_of_pos (by simpa using c)]
        rfl
      rw [e, List.pairwise_cons]
      refine ⟨fun b hb => ?_, ih h.2⟩
      unfold insR at hb
      rcases List.mem_append.mp hb with hb | hb
      · exact h.1 b (List.mem_of_mem_take hb)
      · rcases List.mem_cons.mp hb with rfl | hb
        · exact c
        · exact h.1 b (List.mem_of_mem_drop hb)
    · have hz : (a :: r).countP (· ≤ x) = 0 := by
        rw [List.countP_eq_zero]
        intro b hb
        rcases List.mem_cons.mp hb with rfl | hb
        · simpa using c
        · have := h.1 b hb
          simp only [decide_eq_true_eq]; omega
      unfold insR
      rw [hz, List.take_zero, List.drop_zero, List.nil_append, List.pairwise_cons, List.pairwise_cons]
      refine ⟨fun b hb => ?_, h⟩
      rcases List.mem_cons.mp hb with rfl | hb
      · omega
      · have := h.1 b hb; omega
theorem rowTo_sorted (css : List (List Nat)) (M : Nat) : ∀ k, (rowTo css M k).Pairwise (· ≤ ·)
  | 0 => .nil
  | k + 1 => insR_sorted (rowTo_sorted css M k) _
end Mine
namespace Mine
theorem insR_perm (row : List Int) (x : Int) : (insR row x).Perm (x :: row) := by
  unfold insR
  have := List.perm_middle (a := x) (l₁ := row.take (row.countP (· ≤ x))) (l₂ := row.drop (row.countP (· ≤ x)))
  rwa [List.take_append_drop] at this
/-- the common beginning -/
theorem take_iff : ∀ {us vs : List Nat} {p : Nat}, p ≤ us.length → p ≤ vs.length → (us.take p = vs.take p ↔ p ≤ lcp us vs)
  | us, vs, 0, _, _ => by simp
  | [], _, p + 1, h, _ => by simp at h
  | a :: us, [], p + 1, _, h => by simp at h
  | a :: us, b :: vs, p + 1, h1, h2 => by
    have ih := take_iff (us := us) (vs := vs) (p := p) (by simpa using h1) (by simpa using h2)
    rw [List.take_succ_cons, List.take_succ_cons, lcp]
    by_cases c : a = b
    · subst c
      simp [ih]
    · simp [c]
theorem drop_iff {us vs : List Nat} {q : Nat} (h1 : q ≤ us.length) (h2 : q ≤ vs.length) : us.drop (us.length - q) = vs.drop (vs.length - q) ↔ q ≤ lcp us.reverse vs.reverse := by
  rw [← take_iff (by simpa using h1) (by simpa using h2), List.take_reverse, List.take_reverse]
  exact List.reverse_inj.symm
theorem cram_small {us vs : List Nat} {y : Int} (h0 : 0 ≤ y) (hu : y < (us.length : Int)) (hv : y < (vs.length : Int)) :
    cramL us y = cramL vs y ↔ preN y ≤ lcp us vs ∧ postN y ≤ lcp us.reverse vs.reverse := by
  have hp : preN y ≤ us.length ∧ preN y ≤ vs.length ∧ postN y ≤ us.length ∧ postN y ≤ vs.length := by unfold postN preN; omega
  unfold cramL
  rw [if_pos hu, if_pos hv, ← take_iff hp.1 hp.2.1, ← drop_iff hp.2.2.1 hp.2.2.2]
  constructor
  · intro e
    have h1 := List.append_inj_left' e (by simp; omega)
    have h2 := List.append_inj_right' e (by simp; omega)
    exact ⟨List.append_cancel_right h1, h2⟩
  · rintro ⟨e1, e2⟩
    rw [e1, e2]
theorem cram_len {vs : List Nat} {y : Int} (h0 : 0 ≤ y) (hv : y < (vs.length : Int)) : (((cramL vs y).length : Nat) : Int) = max 3 y := by
  unfold cramL
  rw [if_pos hv]
  simp only [List.length_append, List.length_take, List.length_drop, dots, List.length_cons, List.length_nil]
  unfold postN preN; omega
theorem cram_self {us : List Nat} {y : Int} (h : (us.length : Int) ≤ y) : cramL us y = us := by
  unfold cramL; rw [if_neg (by omega)]
/-- at the shorter one's own size -/
theorem cram_at {us vs : List Nat} (hl : us.length < vs.length) : us = cramL vs us.length ↔
    3 ≤ us.length ∧ (us.drop ((us.length - 3) / 2)).take 3 = dots ∧ (us.length - 3) / 2 ≤ lcp us vs ∧ us.length - 3 - (us.length - 3) / 2 ≤ lcp us.reverse vs.reverse := by
  by_cases h3 : 3 ≤ us.length
  · have e1 : preN us.length = (us.length - 3) / 2 := by unfold preN; omega
    have e2 : postN us.length = us.length - 3 - (us.length - 3) / 2 := by unfold postN; rw [e1]; omega
    unfold cramL
    rw [if_pos (by omega), e1, e2]
    have hp : (us.length - 3) / 2 ≤ us.length ∧ (us.length - 3) / 2 ≤ vs.length ∧ us.length - 3 - (us.length - 3) / 2 ≤ us.length ∧ us.length - 3 - (us.length - 3) / 2 ≤ vs.length := by omega
    rw [← take_iff hp.1 hp.2.1, ← drop_iff hp.2.2.1 hp.2.2.2]
    generalize hm : (us.length - 3) / 2 = p at *
    have e3 : us.length - (us.length - 3 - p) = p + 3 := by omega
    rw [e3]
    have hs : us = us.take p ++ (us.drop p).take 3 ++ us.drop (p + 3) := by
      rw [List.append_assoc, ← List.drop_drop, List.take_append_drop, List.take_append_drop]
    constructor
    · intro e
      have e := hs.symm.trans e
      have h1 := List.append_inj_left' e (by simp; omega)
      have h2 := List.append_inj_right' e (by simp; omega)
      have h4 := List.append_inj_left h1 (by simp; omega)
      have h5 := List.append_inj_right h1 (by simp; omega)
      exact ⟨h3, h5, h4, h2⟩
    · rintro ⟨-, h5, h4, h2⟩
      rw [← h4, ← h2, ← h5]; exact hs
  · constructor
    · intro e
      have := cram_len (vs := vs) (y := us.length) (by omega) (by omega)
      rw [← e] at this
      omega
    · rintro ⟨h, -⟩; exact absurd h h3
/-- two unlike texts are told apart from apartS on -/
theorem apartS_iff {us vs : List Nat} {y : Int} (hne : us ≠ vs) (hl : us.length ≤ vs.length) (h0 : 0 ≤ y) : cramL us y = cramL vs y ↔ y < apartS us vs := by
  have hsp := fun hl' => cram_at (us := us) (vs := vs) hl'
  have hsm := fun hu hv => cram_small (us := us) (vs := vs) (y := y) h0 hu hv
  have hpp : ∀ a b : Nat, (preN y ≤ a ∧ postN y ≤ b ↔ y < 2 * (a : Int) + 5 ∧ y < 2 * (b : Int) + 4) := by
    intro a b; unfold postN preN; omega
  rw [hpp] at hsm
  unfold apartS
  rcases Int.lt_trichotomy y us.length with hy | hy | hy
  · rw [hsm hy (by omega)]
    split
    · rename_i c
      obtain ⟨c1, c2, c3, c4, c5⟩ := c
      omega
    · omega
  · subst hy
    rw [cram_self (Int.le_refl _)]
    rcases Nat.lt_or_eq_of_le hl with hl' | hl'
    · rw [hsp hl']
      split
      · rename_i c
        exact ⟨fun _ => by omega, fun _ => ⟨c.1, c.2.2.1, c.2.2.2.1, c.2.2.2.2⟩⟩
      · rename_i c
        exact ⟨fun x => absurd ⟨x.1, hl', x.2.1, x.2.2.1, x.2.2.2⟩ c, fun x => by omega⟩
    · rw [if_neg (by omega), cram_self (by omega)]
      exact ⟨fun e => absurd e hne, fun x => by omega⟩
  · rw [cram_self (by omega)]
    have hlt : ¬ y < (if 3 ≤ us.length ∧ us.length < vs.length ∧ (us.drop ((us.length - 3) / 2)).take 3 = dots ∧ (us.length - 3) / 2 ≤ lcp us vs ∧ us.length - 3 - (us.length - 3) / 2 ≤ lcp us.reverse vs.reverse then (us.length : Int) + 1
      else min (us.length : Int) (min (2 * (lcp us vs : Int) + 5) (2 * (lcp us.reverse vs.reverse : Int) + 4))) := by
      split <;> omega
    refine ⟨fun e => ?_, fun x => absurd x hlt⟩
    by_cases hv : y < (vs.length : Int)
    · have := cram_len h0 hv
      rw [← e] at this
      omega
    · rw [cram_self (by omega)] at e
      exact absurd e hne
theorem apartL_iff {us vs : List Nat} {M : Nat} {y : Int} (h0 : 0 ≤ y) (hM : y ≤ M) : cramL us y = cramL vs y ↔ y < apartL us vs ((M : Int) + 1) := by
  unfold apartL
  split
  · rename_i c; subst c; exact ⟨fun _ => by omega, fun _ => rfl⟩
  · rename_i c
    split
    · exact apartS_iff c (by assumption) h0
    · rw [eq_comm]; exact apartS_iff (Ne.symm c) (by omega) h0
theorem apartL_le {us vs : List Nat} {M : Nat} (hu : us.length ≤ M) (hv : vs.length ≤ M) : apartL us vs ((M : Int) + 1) ≤ (M : Int) + 1 := by
  unfold apartL apartS
  split
  · omega
  · split <;> split <;> omega
theorem upTo_get {M i : Nat} {y : Int} (e : (upTo M)[i]? = some y) : i ≤ M ∧ y = (i : Int) := by
  have hl := (List.getElem?_eq_some_iff.mp e).1
  simp [upTo] at hl
  unfold upTo at e
  rw [List.getElem?_map, List.getElem?_range hl] at e
  exact ⟨by omega, (Option.some.inj e).symm⟩
theorem countP_upTo (M : Nat) (q : Int → Bool) {m : Int} (h0 : 0 ≤ m) (hm : m ≤ (M : Int) + 1) (hq : ∀ y : Int, 0 ≤ y → y ≤ M → (q y = true ↔ y < m)) : ((upTo M).countP q : Int) = m := by
  have := parted (ns := upTo M) (q := q) (r := m.toNat) (by simp [upTo]; omega) (fun i y hi e => ?_) (fun i y hi e => ?_)
  · rw [this]; omega
  · obtain ⟨h1, rfl⟩ := upTo_get e
    exact (hq _ (by omega) (by omega)).mpr (by omega)
  · obtain ⟨h1, rfl⟩ := upTo_get e
    cases c : q i with
    | false => rfl
    | true => have := (hq _ (by omega) (by omega)).mp c; omega
/-- the text at k, and whether it is shown unlike all ahead -/
theorem unl_iff {css : List (List Nat)} {M k : Nat} {y : Int} (h0 : 0 ≤ y) (hM : y ≤ M) : decide (unl css k y < 1) = true ↔ ∃ q ∈ css.take k, y < apartL (css.getD k []) q ((M : Int) + 1) := by
  unfold unl
  rw [decide_eq_true_eq]
  have hm : cramL (css.getD k []) y ∈ (css.take k).map (cramL · y) ↔ ∃ q ∈ css.take k, y < apartL (css.getD k []) q ((M : Int) + 1) := by
    rw [List.mem_map]
    constructor
    · rintro ⟨q, hq, e⟩
      exact ⟨q, hq, (apartL_iff h0 hM).mp e.symm⟩
    · rintro ⟨q, hq, e⟩
      exact ⟨q, hq, ((apartL_iff h0 hM).mpr e).symm⟩
  rw [← hm]
  split
  · rename_i c; exact ⟨fun _ => c, fun _ => by decide⟩
  · rename_i c; exact ⟨fun x => absurd x (by decide), fun x => absurd x c⟩
theorem falls_unl {css : List (List Nat)} {M k : Nat} : Falls (fun y => decide (unl css k y < 1)) (upTo M) := by
  intro i j a b hij ha hb hq
  obtain ⟨h1, rfl⟩ := upTo_get ha
  obtain ⟨h2, rfl⟩ := upTo_get hb
  obtain ⟨q, hq, e⟩ := (unl_iff (M := M) (by omega) (by omega)).mp hq
  exact (unl_iff (M := M) (by omega) (by omega)).mpr ⟨q, hq, by omega⟩
theorem getD_len {css : List (List Nat)} {M k : Nat} (h : ∀ cs ∈ css, cs.length ≤ M) : (css.getD k []).length ≤ M := by
  rw [List.getD_eq_getElem?_getD]
  cases e : css[k]? with
  | none => simp
  | some c => exact h c (List.mem_of_getElem? e)
/-- what the law asks of each text: the greatest of the widths that tell it from those ahead -/
theorem found_max {css : List (List Nat)} {M k : Nat} {m : Int} (h : ∀ cs ∈ css, cs.length ≤ M)
    (h1 : m ∈ 0 :: (css.take k).map fun q => apartL (css.getD k []) q ((M : Int) + 1)) (h2 : ∀ a ∈ 0 :: (css.take k).map fun q => apartL (css.getD k []) q ((M : Int) + 1), a ≤ m) : (foundN css M k : Int) = m := by
  refine countP_upTo M _ (h2 0 (.head _)) ?_ ?_
  · rcases List.mem_cons.mp h1 with rfl | h1
    · omega
    · obtain ⟨q, hq, rfl⟩ := List.mem_map.mp h1
      exact apartL_le (getD_len h) (h q (List.mem_of_mem_take hq))
  · intro y y0 yM
    rw [unl_iff y0 yM]
    constructor
    · rintro ⟨q, hq, e⟩
      have := h2 (apartL (css.getD k []) q ((M : Int) + 1)) (.tail _ (List.mem_map.mpr ⟨q, hq, rfl⟩))
      omega
    · intro hy
      rcases List.mem_cons.mp h1 with rfl | h1
      · omega
      · obtain ⟨q, hq, rfl⟩ := List.mem_map.mp h1
        exact ⟨q, hq, hy⟩
theorem falls_count {q : Int → Bool} : ∀ {ns : List Int} {i : Nat} {y : Int}, Falls q ns → ns[i]? = some y → (q y = true ↔ i < ns.countP q)
  | [], i, y, _, h => by simp at h
  | b :: l, 0, y, hf, h => by
    cases h
    cases c : q b with
    | true => rw [List.countP_cons_of_pos c]; simp
    | false =>
      rw [List.countP_cons_of_neg (by simp [c])]
      have : l.countP q = 0 := by
        rw [List.countP_eq_zero]
        intro x hx hq
        obtain ⟨j, hj⟩ := List.mem_iff_getElem?.mp hx
        rw [hf 0 (j + 1) b x (by omega) rfl (by simpa using hj) hq] at c
        cases c
      rw [this]; simp
  | b :: l, i + 1, y, hf, h => by
    have h' : l[i]? = some y := by simpa using h
    have ih := falls_count (q := q) (fun i j a b hij ha hb => hf (i + 1) (j + 1) a b (by omega) (by simpa using ha) (by simpa using hb)) h'
    cases c : q b with
    | true => rw [List.countP_cons_of_pos c, ih]; omega
    | false =>
      rw [List.countP_cons_of_neg (by simp [c])]
      constructor
      · intro hq
        rw [hf 0 (i + 1) b y (by omega) rfl h hq] at c
        cases c
      · intro q'; exact ih.mpr (by omega)
theorem falls_iff {css : List (List Nat)} {M k : Nat} {y : Int} (h0 : 0 ≤ y) (hM : y ≤ M) : (foundN css M k : Int) ≤ y ↔ cramL (css.getD k []) y ∉ (css.take k).map (cramL · y) := by
  have hf := falls_unl (css := css) (M := M) (k := k)
  have hu : unl css k y < 1 ↔ cramL (css.getD k []) y ∈ (css.take k).map (cramL · y) := by
    unfold unl
    split
    · rename_i c; exact ⟨fun _ => c, fun _ => by decide⟩
    · rename_i c; exact ⟨fun x => absurd x (by decide), fun x => absurd x c⟩
  rw [← hu]
  have hg : (upTo M)[y.toNat]? = some y := by
    unfold upTo
    rw [List.getElem?_map, List.getElem?_range (by omega)]
    show some ((y.toNat : Nat) : Int) = some y
    rw [show ((y.toNat : Nat) : Int) = y by omega]
  have := falls_count hf hg
  rw [decide_eq_true_eq] at this
  rw [this]
  unfold foundN
  omega
/-- a sorted list and its counts -/
theorem sorted_le : ∀ {l : List Int} {k : Nat} {a y : Int}, l.Pairwise (· ≤ ·) → l[k]? = some a → (a ≤ y ↔ k < l.countP (· ≤ y))
  | [], k, a, y, _, h => by simp at h
  | b :: l, 0, a, y, hs, h => by
    cases h
    rw [List.pairwise_cons] at hs
    by_cases c : b ≤ y
    · rw [List.countP_cons_of_pos (by simpa using c)]; simp [c]
    · rw [List.countP_cons_of_neg (by simpa using c)]
      have : l.countP (· ≤ y) = 0 := by
        rw [List.countP_eq_zero]
        intro x hx
        have := hs.1 x hx
        simp only [decide_eq_true_eq]; omega
      rw [this]; simp [c]
  | b :: l, k + 1, a, y, hs, h => by
    rw [List.pairwise_cons] at hs
    have h' : l[k]? = some a := by simpa using h
    have ih := sorted_le (y := y) hs.2 h'
    by_cases c : b ≤ y
    · rw [List.countP_cons_of_pos (by simpa using c), ih]; omega
    · have hb := hs.1 a (List.mem_of_getElem? h')
      rw [List.countP_cons_of_neg (by simpa using c)]
      rw [← List.getElem?_cons_succ (a := b)] at h'
      constructor
      · intro q; omega
      · intro q; exact ih.mpr (by omega)
theorem sorted_eq {l l' : List Int} (hs : l.Pairwise (· ≤ ·)) (hs' : l'.Pairwise (· ≤ ·)) (hl : l.length = l'.length) (hc : ∀ y, l.countP (· ≤ y) = l'.countP (· ≤ y)) : l = l' := by
  apply List.ext_getElem hl
  intro i h1 h2
  have e1 := fun y => sorted_le (y := y) hs (List.getElem?_eq_getElem h1)
  have e2 := fun y => sorted_le (y := y) hs' (List.getElem?_eq_getElem h2)
  have h3 : l[i] ≤ l'[i] := (e1 _).mpr (by rw [hc]; exact (e2 _).mp (Int.le_refl _))
  have h4 : l'[i] ≤ l[i] := (e2 _).mpr (by rw [← hc]; exact (e1 _).mp (Int.le_refl _))
  omega
theorem mem_uniqFrom : ∀ {l acc : List (List Nat)} {x : List Nat}, x ∈ uniqFrom acc l ↔ x ∈ acc ∨ x ∈ l
  | [], acc, x => by simp [uniqFrom]
  | y :: r, acc, x => by
    rw [show uniqFrom acc (y :: r) = uniqFrom (if y ∈ acc then acc else acc ++ [y]) r from rfl, mem_uniqFrom, List.mem_cons]
    by_cases c : y ∈ acc
    · rw [if_pos c]
      refine ⟨fun h => h.elim .inl fun h => .inr (.inr h), fun h => h.elim .inl fun h => h.elim (fun e => .inl (e ▸ c)) .inr⟩
    · rw [if_neg c, List.mem_append, List.mem_singleton, or_assoc]
theorem mem_uniq {l : List (List Nat)} {x : List Nat} : x ∈ uniq l ↔ x ∈ l := by unfold uniq; rw [mem_uniqFrom]; simp
theorem nodup_uniqFrom : ∀ {l acc : List (List Nat)}, acc.Nodup → (uniqFrom acc l).Nodup
  | [], acc, h => h
  | y :: r, acc, h => by
    rw [uniqFrom]
    apply nodup_uniqFrom
    split
    · exact h
    · rename_i c
      rw [List.nodup_append]
      exact ⟨h, by simp, by intro a ha b hb; rw [List.mem_singleton] at hb; subst hb; rintro rfl; exact c ha⟩
theorem uniq_perm {l l' : List (List Nat)} (h : l.Perm l') : (uniq l).length = (uniq l').length := by
  apply List.Perm.length_eq
  have n1 : (uniq l).Nodup := nodup_uniqFrom List.nodup_nil
  have n2 : (uniq l').Nodup := nodup_uniqFrom List.nodup_nil
  rw [List.perm_ext_iff_of_nodup n1 n2]
  intro a
  show a ∈ uniq l ↔ a ∈ uniq l'
  rw [mem_uniq, mem_uniq, h.mem_iff]
/-- the numbers found, at a width, tell how many unlike texts are shown -/
theorem count_rowTo {css : List (List Nat)} {M : Nat} {y : Int} (h0 : 0 ≤ y) (hM : y ≤ M) : ∀ k, k ≤ css.length → (rowTo css M k).countP (· ≤ y) = (uniq ((css.take k).map (cramL · y))).length
  | 0, _ => rfl
  | k + 1, hk => by
    have ih := count_rowTo (css := css) h0 hM k (by omega)
    have hg : (css.map (cramL · y))[k]? = some (cramL (css.getD k []) y) := by
      have hk' : k < css.length := by omega
      rw [List.getElem?_map, List.getD_eq_getElem?_getD, List.getElem?_eq_getElem hk']; rfl
    have hk2 : ∀ l : List (List Nat), (List.take (k+1) l).map (cramL · y) = (l.map (cramL · y)).take (k + 1) := fun l => List.map_take
    rw [rowTo, (insR_perm _ _).countP_eq, hk2, uniq_take hg, ← List.map_take]
    have hf := falls_iff (css := css) (M := M) (k := k) h0 hM
    by_cases c : cramL (css.getD k []) y ∈ (css.take k).map (cramL · y)
    · rw [if_pos (mem_uniq.mpr c), List.countP_cons_of_neg (by simpa using fun x => hf.mp x c), ih]
    · rw [if_neg (fun x => c (mem_uniq.mp x)), List.countP_cons_of_pos (by simpa using hf.mpr c), ih, List.length_append]; rfl
theorem count_rowOf {css : List (List Nat)} {M : Nat} {y : Int} (h0 : 0 ≤ y) (hM : y ≤ M) : (rowOf css M).countP (· ≤ y) = (uniq (css.map (cramL · y))).length := by
  unfold rowOf
  rw [count_rowTo h0 hM _ (Nat.le_refl _), List.take_length]
theorem rowTo_in (css : List (List Nat)) (M : Nat) : ∀ k, ∀ a ∈ rowTo css M k, 0 ≤ a ∧ a ≤ (M : Int) + 1
  | 0, a, h => by cases h
  | k + 1, a, h => by
    rcases List.mem_cons.mp ((insR_perm _ _).mem_iff.mp h) with rfl | h
    · have : foundN css M k ≤ (upTo M).length := List.countP_le_length
      simp [upTo] at this
      omega
    · exact rowTo_in css M k a h
theorem count_out {css : List (List Nat)} {M : Nat} {y : Int} (h : ¬ (0 ≤ y ∧ y ≤ M)) : (rowOf css M).countP (· ≤ y) = if y < 0 then 0 else css.length := by
  have hin := rowTo_in css M css.length
  have hl := rowTo_len css M css.length
  unfold rowOf
  split
  · rw [List.countP_eq_zero]
    intro a ha
    have := hin a ha
    simp only [decide_eq_true_eq]; omega
  · rw [← hl, hl]
    have : (rowTo css M css.length).countP (· ≤ y) = (rowTo css M css.length).length := by
      rw [List.countP_eq_length]
      intro a ha
      have := hin a ha
      simp only [decide_eq_true_eq]; omega
    rw [this, hl]
/-- the row is free of the order -/
theorem rowOf_perm {css css' : List (List Nat)} (M : Nat) (h : css'.Perm css) : rowOf css' M = rowOf css M := by
  refine sorted_eq (rowTo_sorted _ _ _) (rowTo_sorted _ _ _) ?_ fun y => ?_
  · unfold rowOf; rw [rowTo_len, rowTo_len, h.length_eq]
  · by_cases c : 0 ≤ y ∧ y ≤ M
    · rw [count_rowOf c.1 c.2, count_rowOf c.1 c.2]
      exact uniq_perm (h.map _)
    · rw [count_out c, count_out c, h.length_eq]
/-- the first width with k + 1 unlike texts -/
theorem shown_iff {css : List (List Nat)} {M k : Nat} {r y : Int} (hr : (rowOf css M)[k]? = some r) (h0 : 0 ≤ y) (hM : y ≤ M) : (uniq (css.map (cramL · y))).length < k + 1 ↔ y < r := by
  have h : r ≤ y ↔ k < (rowOf css M).countP (· ≤ y) := sorted_le (y := y) (rowTo_sorted _ _ _) hr
  rw [count_rowOf h0 hM] at h
  omega
theorem falls_shown {css : List (List Nat)} {M k : Nat} (hk : k < css.length) : Falls (fun y => decide (((uniq (css.map (cramL · y))).length : Int) < (k : Int) + 1)) (upTo M) := by
  intro i j a b hij ha hb hq
  obtain ⟨h1, rfl⟩ := upTo_get ha
  obtain ⟨h2, rfl⟩ := upTo_get hb
  obtain ⟨r, hr⟩ : ∃ r, (rowOf css M)[k]? = some r := ⟨_, List.getElem?_eq_getElem (by unfold rowOf; rw [rowTo_len]; exact hk)⟩
  simp only [decide_eq_true_eq] at hq ⊢
  have e1 := shown_iff (y := (i : Int)) hr (by omega) (by omega)
  have e2 := shown_iff (y := (j : Int)) hr (by omega) (by omega)
  omega
theorem shown_row {css : List (List Nat)} {M k : Nat} {r : Int} (hr : (rowOf css M)[k]? = some r) : (((upTo M).countP (fun y => decide (((uniq (css.map (cramL · y))).length : Int) < (k : Int) + 1)) : Nat) : Int) = r := by
  have hin := rowTo_in css M css.length r (List.mem_of_getElem? hr)
  refine countP_upTo M _ hin.1 hin.2 fun y y0 yM => ?_
  rw [decide_eq_true_eq]
  have := shown_iff (y := y) hr y0 yM
  omega
end Mine
open PySem PySem.W PyProof.Rows
namespace Mine
open_top hd for PySem.Challenge.rw_ph0064_01
end Mine
namespace Mine
structure Gd (w : World) (p : Program) (loose : List Str) (mean : ExcName → Option Value) (mg mb : Str → Option Value) (h : Heap) : Prop where
  X : (hd.heap_39 w.params).In h
  T : Top p loose mean mg mb h
theorem Gd.keeps {w p loose mean mg mb h h'} (G : Gd w p loose mean mg mb h) (k : ∀ b o, h.get? b = some o → h'.get? b = some o) : Gd w p loose mean mg mb h' :=
  ⟨G.X.keeps k, G.T.keeps k⟩
abbrev Ar (dp un : Nat) (fr : Option (List Env)) (gd : Option (List Code)) : Around := ⟨none, dp, fr, gd, un⟩

/-- the text of these signs -/
abbrev S (cs : List Nat) : Str := ⟨cs.toArray⟩
theorem S_len (cs : List Nat) : (S cs).length = cs.length := by simp [Str.length]
theorem S_app (a b : List Nat) : S a ++ S b = S (a ++ b) := by
  apply Str.ext'; rw [Str.cps_append]; simp
theorem S_dots : Str.ofString "..." = S dots := by decide +kernel
theorem S_nil : Str.ofString "" = S [] := by decide +kernel
theorem S_inj {a b : List Nat} (h : S a = S b) : a = b := by
  have := congrArg (fun x => x.cps.toList) h; simpa using this
theorem slice_to {cs : List Nat} {k : Nat} (h : k ≤ cs.length) : Txt.slice (S cs) none (some (k : Int)) = S (cs.take k) := by
  have := StrLaws.sliceText_to (x := S cs) (j := (k : Int)) ⟨by omega, by simp; omega⟩
  show StrLaws.sliceText (S cs) none (some (k : Int)) = _
  rw [this]; simp
theorem slice_from {cs : List Nat} {k : Nat} (h : k ≤ cs.length) : Txt.slice (S cs) (some (k : Int)) none = S (cs.drop k) := by
  have := StrLaws.sliceText_from (x := S cs) (i := (k : Int)) ⟨by omega, by simp; omega⟩
  show StrLaws.sliceText (S cs) (some (k : Int)) none = _
  rw [this]
  simp only [Int.toNat_natCast]
  rw [List.take_of_length_le (by rw [List.length_drop]; omega)]
end Mine
namespace Mine
section
variable {w : World} {prog : Program} {A : Around} {s : Shared} {Q E : Value → Shared → Prop} {name qual : Str} {params : Arguments} {body : List Stmt} {scope : Scope} {cl : List (Str × Addr)} {dV kV doc pm cdv ct : Value} {an : Option Addr} {fo : Obj} {f : Addr} {pos : List Value} {kw : List (Str × Value)} {binds : List (Str × Value)}
/-- a call of a def without cells; its frame stands over the heap less what is hidden -/
theorem enterD (hs : List Addr) (hroom : A.depth < recursionLimit) (ho : s.heap.get? f = some fo) (hd : fo.data = .func (fnX name qual params body scope cl dV kV doc pm an cdv ct)) (hlim : s.heap.NoLimit) (hcd : s.heap.CodeRec cdv qual)
    (hbind : BindsTo s (fnX name qual params body scope cl dV kV doc pm an cdv ct) ⟨pos, kw⟩ binds) (hloc : ∀ y ∈ binds, scope.names.lookup y.1 = some .local)
    (h : ∀ h₁, Fr (hideAll s.heap hs) s.heap.objs.size h₁ (fun y => binds.reverse.lookup y) → (∀ b o, s.heap.get? b = some o → h₁.get? b = some o) →
      wpAny (model prog w) (A.deeper (envX qual scope s.heap.objs.size f cdv cl)) (execs body (envX qual scope s.heap.objs.size f cdv cl))
        (fun fl s' => Q (match fl with | .ret v => v | _ => .none) s') (fun _ _ => False) { s with heap := h₁, toks := s.toks + binds.length })
    (hco : scope.isCoroutine = false := by rfl) (hgen : scope.isGenerator = false := by rfl) (hk : scope.kind = .function := by rfl)
    (hcell : ∀ x ∈ scope.names, x.2 ≠ .cell := by decide) : wpAny (model prog w) A (call (.ref f) pos kw) Q E s := by
  refine wpAny_call ?_
  refine codeAny_call_def (fd := fnX name qual params body scope cl dV kV doc pm an cdv ct) (body := body) (binds := binds) hroom ho hd hlim hcd rfl hbind hcell hloc (fun h₁ hns hk₁ => ?_) hco hgen hk
  exact wpAny_mono (h h₁ ⟨hns, fun b o e => hk₁ b o (of_hideAll _ e), Nat.le_of_eq (hideAll_size _ _)⟩ hk₁) (fun _ _ x => x) (fun _ _ x => x.elim)
end
end Mine
namespace Mine
section
variable {prog : Program} {w : World} {A : Around} {E : Value → Shared → Prop} {s : Shared} {env : Env} {h₀ : Heap} {x : Str} {body : List Stmt} {Q : Flow → Shared → Prop}
/-- a loop over a range by ones, by what holds of the frame's map and of the ledger -/
theorem iter_range {r : Addr} {a b : Int} {t u v : Tok} {m₀ : Str → Option Value} {news : List (Addr × Obj)} (J : Nat → (Str → Option Value) → List (Addr × Obj) → Prop)
    (hh : A.handled = none) (hr : IsRange s.heap r a b 1 t u v) (ha : -(2 ^ 62) ≤ a ∧ a < 2 ^ 62) (hb : -(2 ^ 62) ≤ b ∧ b < 2 ^ 62) (F : Fr h₀ env.locals s.heap m₀) (N : News h₀ env.locals s.heap news) (hj : J 0 m₀ news)
    (turn : ∀ i t m₁ news₁ h tk own, i < (b - a).toNat → J i m₁ news₁ → (∀ p ∈ news₁, p.1 ∉ [s.heap.objs.size]) → Fr h₀ env.locals h (fun y => if y = x then some (.int (a + (i : Int)) t) else m₁ y) → News h₀ env.locals h (own ++ news₁) →
      wpAny (model prog w) A (execs body env) (LoopStepV h₀ env.locals [s.heap.objs.size] own (J (i + 1)) { s with heap := h, toks := tk } (fun v s' => Q (.ret v) s') fun s' => Q .next s') E { s with heap := h, toks := tk })
    (done : ∀ m₁ news₁ h tk, J (b - a).toNat m₁ news₁ → Fr h₀ env.locals h m₁ → News h₀ env.locals h news₁ → Q .next { s with heap := h, toks := tk }) :
    wpAny (model prog w) A (pyIter (.ref r)) (fun it s₂ => LoopAtV prog w A h₀ env x body Q E it s₂) E s := by
  have hn : Builtin.Range.rangeSize a b 1 = (((b - a).toNat : Nat) : Int) := by rw [rangeSize_one]; split <;> omega
  refine wpAny_pyIter_range hr (small_one ha.1 ha.2 hb.1 hb.2) ?_
  refine ⟨s.heap.objs.size, [s.heap.objs.size], [s.heap.objs.size], (b - a).toNat, _, _, m₀, news, J, rfl, Walks.range hh s.heap.objs.size a 1 (b - a).toNat, ?_, ?_, ?_, ?_, F.push _, (fun p hp => ⟨Heap.get?_push_of_some _ (N p hp).1, (N p hp).2⟩), hj, ?_, ?_⟩
  · intro hm
    rw [List.mem_singleton] at hm
    exact absurd F.ns.lt (hm ▸ Nat.lt_irrefl _)
  · intro b hb
    rw [List.mem_singleton.mp hb]
    cases e : h₀.get? s.heap.objs.size with
    | none => rfl
    | some o => exact absurd (Heap.lt_size (F.keep _ _ e)) (Nat.lt_irrefl _)
  · intro p hp hI
    exact absurd (Heap.lt_size (N p hp).1) ((List.mem_singleton.mp hI) ▸ Nat.lt_irrefl _)
  · show IsRangeIter _ _ _ _ _
    rw [hn]; simpa using Heap.get?_push_size _ rfl
  · rintro i v m₁ news₁ s₁ own ⟨h', tk', rfl⟩ hi ⟨t, rfl⟩ hJ hoff _ _ _ _ F₁ N₁
    rw [Int.mul_one] at F₁
    exact turn i t m₁ news₁ h' tk' own hi hJ hoff F₁ N₁
  · intro h' tk m' news' F' N' _ hJ
    exact done m' news' h' tk hJ F' N'
end
end Mine
namespace Mine
theorem loadX_L {M : Model} {A : Around} {E : Value → Shared → Prop} {s : Shared} {h₀ : Heap} {L a : Addr} {m : Str → Option Value} {cn : Str} {cs : Scope} {ccd : Value} {cl : List (Str × Addr)} {x : Str} {v : Value} {Q : Value → Shared → Prop}
    (F : Fr h₀ L s.heap m) (hv : m x = some v) (h : Q v s)
    (hk : cs.kind = .function := by rfl) (hx : (envX cn cs L a ccd cl).kindOf x = some .local := by rfl) :
    wpAny M A (loadName (envX cn cs L a ccd cl) x) Q E s := wpAny_loadName_local hk hx F.ns hv h
end Mine
namespace Mine
theorem iteS {x y : Str} {a b : Prop} (h1 : (x == y) = true → a) (h2 : (x == y) = false → b) : if (x == y) = true then a else b := by
  cases e : (x == y) with
  | true => rw [if_pos rfl]; exact h1 e
  | false => rw [if_neg (by decide)]; exact h2 e
end Mine
namespace Mine
theorem preN_if (n : Int) : (if (n - 3).fdiv 2 > 0 then (n - 3).fdiv 2 else 0) = (preN n : Int) := by
  unfold preN
  rw [Int.fdiv_eq_ediv_of_nonneg _ (by decide)]
  split <;> omega
theorem postN_if (n : Int) : (if n - 3 - (preN n : Int) > 0 then n - 3 - (preN n : Int) else 0) = (postN n : Int) := by
  unfold postN
  split <;> omega
theorem preN_le {n : Int} {m : Nat} (h : n < (m : Int)) : preN n ≤ m ∧ postN n ≤ m := by
  unfold postN preN; omega
theorem cram_call {w p loose mean mg mb dp un fr gd s} {Q E : Value → Shared → Prop} {cs : List Nat} {n : Int} {t1 t2 : Tok}
   (G : Gd w p loose mean mg mb s.heap) (hroom : dp + 1 < recursionLimit) (hlen : cs.length ≤ 1000)
   (h : ∀ t h' tk', (∀ b o, s.heap.get? b = some o → h'.get? b = some o) → Q (.str (S (cramL cs n)) t) { s with heap := h', toks := tk' }) :
   wpAny (model PySem.Challenge.rw_ph0064_01.row.prog w) (Ar dp un fr gd) (call (.ref 21) [.str (S cs) t1, .int n t2]) Q E s := by
  obtain ⟨X, T⟩ := G
  have hl0 : (S cs).length = cs.length := S_len cs
  w_on
  revert X; k_fill; intro X
  refine enterD (binds := [(Str.ofString "text", .str (S cs) t1), (Str.ofString "maxlen", .int n t2)]) [] (by dsimp only; omega) (X _ _ (by k_is)) rfl T.nolimit (codeRec_of X (by k_is)) (kp_binds X (fun _ => rfl)) (locs rfl) ?_
  intro h₁ F hk₁
  have N : News (hideAll s.heap []) s.heap.objs.size h₁ [] := News.nil
  change Fr s.heap _ _ _ at F
  change News s.heap _ _ _ at N
  generalize hx : S cs = x at *
  k_steps
  · rename Fr _ _ _ _ => F'
    rename n < _ => hlt
    subst hx
    have hlt' : n < (cs.length : Int) := by omega
    have hp := preN_le hlt'
    simp only [preN_if, postN_if, hl0, S_dots]
    rw [slice_to hp.1, show (cs.length : Int) - (postN n : Int) = ((cs.length - postN n : Nat) : Int) by omega, slice_from (by omega), S_app, S_app]
    have := h
    simp only [cramL, if_pos hlt'] at this
    exact this _ _ _ F'.keep
  · rename Fr _ _ _ _ => F'
    rename ¬ n < _ => hlt
    subst hx
    have := h
    simp only [cramL, if_neg (show ¬ n < (cs.length : Int) by omega)] at this
    exact this _ _ _ F'.keep
end Mine
namespace Mine
local macro_rules | `(tactic| walk_at "mine go") => `(tactic| repeat' (first
  | (k_unfold; (try dsimp only))
  | ((fail_if_success (with_reducible show wpAny _ _ (exec (Stmt.While _ _ _ _) _) _ _ _)); (fail_if_success (with_reducible show wpAny _ _ (exec (Stmt.For _ _ _ _ _) _) _ _ _)); (fail_if_success (with_reducible show wpAny _ _ (call (Value.ref _) _ _) _ _ _)); first | walk1 | (dsimp only; walk1) | (leave1; walk_say "STEP leave1"; try dsimp only))))
local macro_rules | `(tactic| walk_at "eval Name") => `(tactic| (k_here; k_dflt (refine' nameX_L ?F ?v ?_ ?a ?b; (case F => k_asm); (case a => rfl); (case b => rfl); (case v => first | exact rfl | assumption); k_whole)))

theorem bisR_call {w p loose mean mg mb dp un fr gd s} {Q E : Value → Shared → Prop} {a : Addr} {vs : List Value} {ns : List Int} {x : Int} {t1 : Tok}
   (G : Gd w p loose mean mg mb s.heap) (hroom : dp + 1 < recursionLimit) (hl : s.heap.IsList a vs.toArray) (hI : IntsAre vs ns) (hlen : ns.length ≤ 1000) (hs : ns.Pairwise (· ≤ ·))
   (h : ∀ t h' tk', (∀ b o, s.heap.get? b = some o → h'.get? b = some o) → Q (.int (ns.countP (· ≤ x) : Nat) t) { s with heap := h', toks := tk' }) :
   wpAny (model PySem.Challenge.rw_ph0064_01.row.prog w) (Ar dp un fr gd) (call (.ref 39) [.ref a, .int x t1]) Q E s := by
  obtain ⟨X, T⟩ := G
  w_on
  revert X; k_fill; intro X
  refine enterD [] (by dsimp only; omega) (X _ _ (by k_is)) rfl T.nolimit (codeRec_of X (by k_is)) (kp_binds X (fun _ => rfl)) (locs rfl) ?_
  intro h₁ F hk₁
  have N : News (hideAll s.heap []) s.heap.objs.size h₁ [] := News.nil
  change Fr s.heap _ _ _ at F
  change News s.heap _ _ _ at N
  walk_at "mine go"
  (rename Fr _ _ _ _ => F'); (rename News _ _ _ _ => N')
  refine While_inv (fun n m news => news = [] ∧ ∃ lo hi : Int, ∃ tl th tx : Tok, m (Str.ofString "lo") = some (.int lo tl) ∧ m (Str.ofString "hi") = some (.int hi th) ∧ m (Str.ofString "a") = some (.ref a) ∧ m (Str.ofString "x") = some (.int x tx) ∧ Half (fun y => decide (y ≤ x)) ns lo hi ∧ n = (hi - lo).toNat) (n₀ := ns.length) F' N' ⟨rfl, 0, ns.length, _, _, _, rfl, rfl, rfl, rfl, .start _ _, by omega⟩ ?_
  rintro n m₁ news₁ h₂ tk₂ F₂ N₂ ⟨rfl, lo, hi, tl, th, tx, e1, e2, e3, e4, H, rfl⟩
  clear F' N'
  have b1 := H.b1; have b2 := H.b2; have b3 := H.b3
  walk_at "mine go"
  · rename lo < hi => hlt
    have hm := H.mid hlt
    rename x < _ => hx
    rename Fr _ _ _ _ => F3; rename News _ _ _ _ => N3
    exact WhileStep.intro F3 N3 (by omega) ⟨rfl, lo, _, _, _, _, e1, rfl, e3, e4, H.left (falls_le hs x) hlt (by simpa using hx), rfl⟩
  · rename lo < hi => hlt
    have hm := H.mid hlt
    rename ¬ x < _ => hx
    rename Fr _ _ _ _ => F3; rename News _ _ _ _ => N3
    exact WhileStep.intro F3 N3 (by omega) ⟨rfl, _, hi, _, _, _, rfl, e2, e3, e4, H.right (falls_le hs x) hlt (by simpa using hx), rfl⟩
  · rename ¬ lo < hi => hlt
    obtain rfl := H.done hlt
    exact h _ _ _ F₂.keep
theorem bisR_call4 {w p loose mean mg mb dp un fr gd s} {Q E : Value → Shared → Prop} {a : Addr} {vs : List Value} {ns : List Int} {x : Int} {t1 t0 : Tok}
   (G : Gd w p loose mean mg mb s.heap) (hroom : dp + 1 < recursionLimit) (hl : s.heap.IsList a vs.toArray) (hI : IntsAre vs ns) (hlen : ns.length ≤ 1000) (hs : ns.Pairwise (· ≤ ·))
   (h : ∀ t h' tk', (∀ b o, s.heap.get? b = some o → h'.get? b = some o) → Q (.int (ns.countP (· ≤ x) : Nat) t) { s with heap := h', toks := tk' }) :
   wpAny (model PySem.Challenge.rw_ph0064_01.row.prog w) (Ar dp un fr gd) (call (.ref 39) [.ref a, .int x t1, .int 0 t0, .none]) Q E s := by
  obtain ⟨X, T⟩ := G
  w_on
  revert X; k_fill; intro X
  refine enterD [] (by dsimp only; omega) (X _ _ (by k_is)) rfl T.nolimit (codeRec_of X (by k_is)) (kp_binds X (fun _ => rfl)) (locs rfl) ?_
  intro h₁ F hk₁
  have N : News (hideAll s.heap []) s.heap.objs.size h₁ [] := News.nil
  change Fr s.heap _ _ _ at F
  change News s.heap _ _ _ at N
  walk_at "mine go"
  (rename Fr _ _ _ _ => F'); (rename News _ _ _ _ => N')
  refine While_inv (fun n m news => news = [] ∧ ∃ lo hi : Int, ∃ tl th tx : Tok, m (Str.ofString "lo") = some (.int lo tl) ∧ m (Str.ofString "hi") = some (.int hi th) ∧ m (Str.ofString "a") = some (.ref a) ∧ m (Str.ofString "x") = some (.int x tx) ∧ Half (fun y => decide (y ≤ x)) ns lo hi ∧ n = (hi - lo).toNat) (n₀ := ns.length) F' N' ⟨rfl, 0, ns.length, _, _, _, rfl, rfl, rfl, rfl, .start _ _, by omega⟩ ?_
  rintro n m₁ news₁ h₂ tk₂ F₂ N₂ ⟨rfl, lo, hi, tl, th, tx, e1, e2, e3, e4, H, rfl⟩
  clear F' N'
  have b1 := H.b1; have b2 := H.b2; have b3 := H.b3
  walk_at "mine go"
  · rename lo < hi => hlt
    have hm := H.mid hlt
    rename x < _ => hx
    rename Fr _ _ _ _ => F3; rename News _ _ _ _ => N3
    exact WhileStep.intro F3 N3 (by omega) ⟨rfl, lo, _, _, _, _, e1, rfl, e3, e4, H.left (falls_le hs x) hlt (by simpa using hx), rfl⟩
  · rename lo < hi => hlt
    have hm := H.mid hlt
    rename ¬ x < _ => hx
    rename Fr _ _ _ _ => F3; rename News _ _ _ _ => N3
    exact WhileStep.intro F3 N3 (by omega) ⟨rfl, _, hi, _, _, _, rfl, e2, e3, e4, H.right (falls_le hs x) hlt (by simpa using hx), rfl⟩
  · rename ¬ lo < hi => hlt
    obtain rfl := H.done hlt
    exact h _ _ _ F₂.keep
end Mine
namespace Mine
local macro_rules | `(tactic| walk_at "mine none") => `(tactic| skip)
local macro_rules | `(tactic| walk_at "mine go") => `(tactic| repeat' (first
  | (k_unfold; (try dsimp only))
  | ((fail_if_success (with_reducible show wpAny _ _ (exec (Stmt.While _ _ _ _) _) _ _ _)); (fail_if_success (with_reducible show wpAny _ _ (exec (Stmt.For _ _ _ _ _) _) _ _ _)); (fail_if_success (with_reducible show wpAny _ _ (call (Value.ref _) _ _) _ _ _)); first | walk1 | (dsimp only; walk1) | (leave1; walk_say "STEP leave1"; try dsimp only))))
local macro_rules | `(tactic| walk_at "eval Name") => `(tactic| (k_here; k_dflt (refine' nameX_L ?F ?v ?_ ?a ?b; (case F => k_asm); (case a => rfl); (case b => rfl); (case v => first | exact rfl | assumption); k_whole)))

/-- a function object that hands back the int g j at each j of ns, in every state grown from base -/
def KeyIs (w : World) (gd : Option (List Code)) (dp un : Nat) (base : Heap) (f : Addr) (ns : List Int) (g : Int → Int) : Prop :=
  ∀ (j : Int) (t : Tok) (fr : Option (List Env)) (s : Shared) (Q E : Value → Shared → Prop), j ∈ ns → (∀ b o, base.get? b = some o → s.heap.get? b = some o) →
    (∀ t' h' tk', (∀ b o, s.heap.get? b = some o → h'.get? b = some o) → Q (.int (g j) t') { s with heap := h', toks := tk' }) →
    wpAny (model PySem.Challenge.rw_ph0064_01.row.prog w) (Ar dp un fr gd) (call (.ref f) [.int j t]) Q E s

theorem FnAt.grows {q : Addr} {h h' : Heap} (x : FnAt q h) (k : ∀ b o, h.get? b = some o → h'.get? b = some o) : FnAt q h' := by
  obtain ⟨oc, od, fd, sl, e⟩ := x; exact ⟨oc, od, fd, sl, k _ _ e⟩
theorem bisL_call {w p loose mean mg mb dp un fr gd s} {Q E : Value → Shared → Prop} {a f : Addr} {vs : List Value} {ns : List Int} {x : Int} {t1 : Tok} {g : Int → Int}
   (G : Gd w p loose mean mg mb s.heap) (hroom : dp + 1 < recursionLimit) (hl : s.heap.IsList a vs.toArray) (hI : IntsAre vs ns) (hlen : ns.length ≤ 1000) (hs : Falls (fun y => decide (g y < x)) ns)
   (hfn : FnAt f s.heap) (hkey : KeyIs w gd (dp + 1) (un + 3) s.heap f ns g)
   (h : ∀ t h' tk', (∀ b o, s.heap.get? b = some o → h'.get? b = some o) → Q (.int (ns.countP (fun y => decide (g y < x)) : Nat) t) { s with heap := h', toks := tk' }) :
   wpAny (model PySem.Challenge.rw_ph0064_01.row.prog w) (Ar dp un fr gd) (call (.ref 48) [.ref a, .int x t1] [(Str.ofString "key", .ref f)]) Q E s := by
  obtain ⟨X, T⟩ := G
  w_on
  revert X; k_fill; intro X
  refine enterD [] (by dsimp only; omega) (X _ _ (by k_is)) rfl T.nolimit (codeRec_of X (by k_is)) (kp_binds X (fun _ => rfl)) (locs rfl) ?_
  intro h₁ F hk₁
  have N : News (hideAll s.heap []) s.heap.objs.size h₁ [] := News.nil
  change Fr s.heap _ _ _ at F
  change News s.heap _ _ _ at N
  walk_at "mine go"
  (rename Fr _ _ _ _ => F'); (rename News _ _ _ _ => N')
  refine While_inv (fun n m news => news = [] ∧ ∃ lo hi : Int, ∃ tl th tx : Tok, m (Str.ofString "lo") = some (.int lo tl) ∧ m (Str.ofString "hi") = some (.int hi th) ∧ m (Str.ofString "a") = some (.ref a) ∧ m (Str.ofString "x") = some (.int x tx) ∧ m (Str.ofString "key") = some (.ref f) ∧ Half (fun y => decide (g y < x)) ns lo hi ∧ n = (hi - lo).toNat) (n₀ := ns.length) F' N' ⟨rfl, 0, ns.length, _, _, _, rfl, rfl, rfl, rfl, rfl, .start _ _, by omega⟩ ?_
  rintro n m₁ news₁ h₂ tk₂ F₂ N₂ ⟨rfl, lo, hi, tl, th, tx, e1, e2, e3, e4, e5, H, rfl⟩
  clear F' N'
  have b1 := H.b1; have b2 := H.b2; have b3 := H.b3
  walk_at "mine go"
  · rename lo < hi => hlt
    have hm := H.mid hlt
    rename Fr _ _ _ _ => F3; rename News _ _ _ _ => N3
    refine callWith_F (FnAt.grows hfn F3.keep) ?_
    walk_at "mine go"
    · exact FnAt.grows hfn F3.keep
    have hmem : ns.getD ((lo + hi).fdiv 2).toNat 0 ∈ ns := by
      have hq : ((lo + hi).fdiv 2).toNat < ns.length := by omega
      rw [List.getD_eq_getElem?_getD, List.getElem?_eq_getElem hq]; exact List.getElem_mem hq
    refine hkey _ _ _ _ _ _ hmem ?_ (fun t' h' tk' hk' => ?_)
    · exact F3.keep
    replace F3 := F3.grownK hk'
    replace N3 : News s.heap s.heap.objs.size h' [] := News.nil
    clear hk'
    walk_at "mine go"
    · rename g _ < x => hx
      rename Fr _ _ _ _ => F3; rename News _ _ _ _ => N3
      exact WhileStep.intro F3 N3 (by omega) ⟨rfl, _, hi, _, _, _, rfl, e2, e3, e4, e5, H.right hs hlt (by simpa using hx), rfl⟩
    · rename ¬ g _ < x => hx
      rename Fr _ _ _ _ => F3; rename News _ _ _ _ => N3
      exact WhileStep.intro F3 N3 (by omega) ⟨rfl, lo, _, _, _, _, e1, rfl, e3, e4, e5, H.left hs hlt (by simpa using hx), rfl⟩
  · rename ¬ lo < hi => hlt
    obtain rfl := H.done hlt
    exact h _ _ _ F₂.keep
end Mine
namespace Mine
local macro_rules | `(tactic| walk_at "mine none") => `(tactic| skip)
local macro_rules | `(tactic| walk_at "mine none") => `(tactic| skip)
local macro_rules | `(tactic| walk_at "mine go") => `(tactic| repeat' (first
  | (k_unfold; (try dsimp only))
  | ((fail_if_success (with_reducible show wpAny _ _ (exec (Stmt.While _ _ _ _) _) _ _ _)); (fail_if_success (with_reducible show wpAny _ _ (exec (Stmt.For _ _ _ _ _) _) _ _ _)); (fail_if_success (with_reducible show wpAny _ _ (call (Value.ref _) _ _) _ _ _)); first | walk1 | (dsimp only; walk1) | (leave1; walk_say "STEP leave1"; try dsimp only))))
local macro_rules | `(tactic| walk_at "eval Name") => `(tactic| (k_here; k_dflt (refine' nameX_L ?F ?v ?_ ?a ?b; (case F => k_asm); (case a => rfl); (case b => rfl); (case v => first | exact rfl | assumption); k_whole)))
theorem hide_gd {w p loose mean mg mb} {h₀ h : Heap} {a : Addr} (G : Gd w p loose mean mg mb h₀) (k : ∀ b o, h₀.get? b = some o → h.get? b = some o) (hn : h₀.get? a = none) : Gd w p loose mean mg mb (hideAll h [a]) :=
  G.keeps fun b o e => hideAll_get _ (k b o e) (by intro hb; rw [List.mem_singleton.mp hb, hn] at e; cases e)
theorem insort_call {w p loose mean mg mb dp un fr gd s h₀} {Q E : Value → Shared → Prop} {a : Addr} {vs : List Value} {ns : List Int} {x : Int} {t1 : Tok} {n : Nat}
   (G : Gd w p loose mean mg mb h₀) (k : ∀ b o, h₀.get? b = some o → s.heap.get? b = some o) (hn : h₀.get? a = none) (hroom : dp + 2 < recursionLimit) (hl : s.heap.get? a = some (listOf vs.toArray n)) (hI : IntsAre vs ns) (hlen : ns.length ≤ 1000) (hs : ns.Pairwise (· ≤ ·))
   (h : ∀ h' tk', (∀ b o, b ≠ a → s.heap.get? b = some o → h'.get? b = some o) → h'.get? a = some (listOf (vs.take (ns.countP (· ≤ x)) ++ .int x t1 :: vs.drop (ns.countP (· ≤ x))).toArray (n + 1)) → Q .none { s with heap := h', toks := tk' }) :
   wpAny (model PySem.Challenge.rw_ph0064_01.row.prog w) (Ar dp un fr gd) (call (.ref 30) [.ref a, .int x t1]) Q E s := by
  obtain ⟨X, T⟩ := G.keeps k
  obtain ⟨X0, T0⟩ := hide_gd G k hn
  w_on
  revert X; k_fill; intro X
  refine enterD [a] (by dsimp only; omega) (X _ _ (by k_is)) rfl T.nolimit (codeRec_of X (by k_is)) (kp_binds X (fun _ => rfl)) (locs rfl) ?_
  intro h₁ F hk₁
  have N : News (hideAll s.heap [a]) s.heap.objs.size h₁ [(a, listOf vs.toArray n)] := by
    intro q hq
    rw [List.mem_singleton.mp hq]
    exact ⟨hk₁ _ _ hl, Nat.ne_of_lt (Heap.lt_size hl), hideAll_none _ (by simp)⟩
  clear X T
  walk_at "mine go"
  refine bisR_call4 (Gd.keeps ⟨X0, T0⟩ F.keep) (by omega) ⟨_, (N _ (.head _)).1, rfl, n, rfl⟩ hI hlen hs ?_
  intro t' h' tk' hk'
  replace F := F.grownK hk'
  replace N := N.grown hk'
  clear hk' hk₁
  walk_at "mine go"
  rename Fr _ _ _ _ => F; rename News _ _ _ _ => N
  have hle : ns.countP (· ≤ x) ≤ vs.length := by rw [hI.length]; exact List.countP_le_length
  show wpAny _ _ (call (Value.builtin "list.insert") [Value.ref a, Value.int ((ns.countP (· ≤ x) : Nat) : Int) t', Value.int x t1]) _ _ _
  refine kl_insert (l := vs.take (ns.countP (· ≤ x)) ++ .int x t1 :: vs.drop (ns.countP (· ≤ x))) F N ?_ ?_ (Upd.head (by simp)) ?_ ?_
  · have : ns.countP (· ≤ x) ≤ 1000 := Nat.le_trans List.countP_le_length hlen
    generalize ns.countP (· ≤ x) = c at *
    unfold Builtin.List.listFitsIndex
    simp
    omega
  · unfold kl_ins
    rw [if_neg (by omega)]
    simp only [Int.toNat_natCast, Nat.min_eq_left hle]
  · simp only [hI.length, sizeLine_eq]; omega
  · intro h'' F'' N''
    walk_at "mine go"
    exact h _ _ (fun b o hb e => F''.keep b o (hideAll_get _ e (by simpa using hb))) (N'' _ (.head _)).1
end Mine
namespace Mine
local macro_rules | `(tactic| walk_at "mine none") => `(tactic| skip)
local macro_rules | `(tactic| walk_at "mine none") => `(tactic| skip)
local macro_rules | `(tactic| walk_at "mine go") => `(tactic| repeat' (first
  | (k_unfold; (try dsimp only))
  | ((fail_if_success (with_reducible show wpAny _ _ (exec (Stmt.While _ _ _ _) _) _ _ _)); (fail_if_success (with_reducible show wpAny _ _ (exec (Stmt.For _ _ _ _ _) _) _ _ _)); (fail_if_success (with_reducible show wpAny _ _ (call (Value.ref _) _ _) _ _ _)); (fail_if_success (with_reducible show wpAny _ _ (pyIter _) _ _ _)); first | walk1 | (dsimp only; walk1) | (leave1; walk_say "STEP leave1"; try dsimp only))))
local macro_rules | `(tactic| walk_at "eval Name") => `(tactic| (k_here; k_dflt (refine' nameX_L ?F ?v ?_ ?a ?b; (case F => k_asm); (case a => rfl); (case b => rfl); (case v => first | exact rfl | assumption); k_whole)))

local macro_rules | `(tactic| walk_at "subscriptTail") => `(tactic| ((with_reducible show wpAny _ _ (subscriptTail _ _ (Value.str _ _) (Value.int _ _)) _ _ _); refine item_str (fitsSsize_of (N := 9223372036854775808) (by omega) (by omega) (Int.le_refl _)) (by omega) (by omega) ?_; intro _))
theorem item_S {cs : List Nat} {k : Nat} (h : k < cs.length) : Txt.item (S cs) (k : Int) = S [cs[k]] :=
  item_meets (by omega) (by simp [h])
theorem left_call {w p loose mean mg mb dp un fr gd s} {Q E : Value → Shared → Prop} {cs : List Nat} {n : Int} {t1 t2 : Tok}
   (G : Gd w p loose mean mg mb s.heap) (hroom : dp + 1 < recursionLimit) (hlen : cs.length ≤ 1000) (hn : -1000 ≤ n)
   (h : ∀ t h' tk', (∀ b o, s.heap.get? b = some o → h'.get? b = some o) → Q (.str (S (cramL cs n)) t) { s with heap := h', toks := tk' }) :
   wpAny (model PySem.Challenge.rw_ph0064_01.row.prog w) (Ar dp un fr gd) (call (.ref 60) [.str (S cs) t1, .int n t2]) Q E s := by
  obtain ⟨X, T⟩ := G
  have hl0 : (S cs).length = cs.length := S_len cs
  w_on
  revert X; k_fill; intro X
  refine enterD (binds := [(Str.ofString "piece", .str (S cs) t1), (Str.ofString "width", .int n t2)]) [] (by dsimp only; omega) (X _ _ (by k_is)) rfl T.nolimit (codeRec_of X (by k_is)) (kp_binds X (fun _ => rfl)) (locs rfl) ?_
  intro h₁ F hk₁
  have N : News (hideAll s.heap []) s.heap.objs.size h₁ [] := News.nil
  change Fr s.heap _ _ _ at F
  change News s.heap _ _ _ at N
  generalize hx : S cs = x at *
  walk_at "mine go"
  · rename Fr _ _ _ _ => F'
    rename _ ≤ n => hle
    have := h
    simp only [cramL, if_neg (show ¬ n < (cs.length : Int) by omega), hx] at this
    exact this _ _ _ F'.keep
  · rename ¬ _ ≤ n => hlt
    refine For_invV s.heap rfl rfl ?_
    walk_at "mine go"
    rename Fr _ _ _ _ => F'
    rename News _ _ _ _ => N'
    rename IsRange _ _ _ _ _ _ _ _ => hr
    refine iter_range (J := fun i m news => news = [] ∧ ∃ xa xb ta tb tp, m (Str.ofString "ahead") = some (.str xa ta) ∧ m (Str.ofString "behind") = some (.str xb tb) ∧ m (Str.ofString "piece") = some (.str x tp) ∧ xa = S (cs.take (i / 2)) ∧ xb = S (cs.drop (cs.length - (i + 1) / 2))) rfl hr ⟨by decide, by decide⟩ ⟨by omega, by omega⟩ F' N' ⟨rfl, _, _, _, _, _, rfl, rfl, rfl, by simp [S_nil], by simp [S_nil]⟩ ?_ ?_
    · rintro i t m₁ news₁ h tk own hi ⟨rfl, xa, xb, ta, tb, tp, e1, e2, e3, ha, hb⟩ - F₁ N₁
      clear F' N' hr
      have hi' : i + 3 < cs.length := by omega
      have la : xa.length = i / 2 := by rw [ha, S_len, List.length_take]; omega
      have lb : xb.length = (i + 1) / 2 := by rw [hb, S_len, List.length_drop]; omega
      walk_at "mine go"
      · rename Fr _ _ _ _ => F3; rename News _ _ _ _ => N3
        rename _ = (0 : Int) => hm
        rw [Int.fmod_eq_emod_of_nonneg _ (by decide)] at hm
        refine LoopStepU.intro (news₂ := []) F3 N3 (by simp) ⟨rfl, xa, _, _, _, _, e1, rfl, e3, ?_, ?_⟩
        · rw [ha, show (i + 1) / 2 = i / 2 by omega]
        · rw [lb, hl0, hb, ← hx, show (cs.length : Int) - 1 - (((i + 1) / 2 : Nat) : Int) = ((cs.length - 1 - (i + 1) / 2 : Nat) : Int) by omega, item_S (by omega), S_app]
          congr 1
          have e : cs.length - (i + 1) / 2 = (cs.length - 1 - (i + 1) / 2) + 1 := by omega
          rw [e, show cs.length - (i + 1 + 1) / 2 = cs.length - 1 - (i + 1) / 2 by omega, List.singleton_append, List.getElem_cons_drop]
      · rename Fr _ _ _ _ => F3; rename News _ _ _ _ => N3
        rename _ ≠ (0 : Int) => hm
        rw [Int.fmod_eq_emod_of_nonneg _ (by decide)] at hm
        refine LoopStepU.intro (news₂ := []) F3 N3 (by simp) ⟨rfl, _, xb, _, _, _, rfl, e2, e3, ?_, ?_⟩
        · rw [la, ha, ← hx, item_S (by omega), S_app]
          congr 1
          rw [show (i + 1) / 2 = i / 2 + 1 by omega, List.take_append_getElem]
        · rw [hb, show (i + 1 + 1) / 2 = (i + 1) / 2 by omega]
    · rintro m₁ news₁ h₂ tk ⟨rfl, xa, xb, ta, tb, tp, e1, e2, e3, ha, hb⟩ F₁ N₁
      clear F' N' hr
      have la : xa.length ≤ cs.length := by rw [ha, S_len, List.length_take]; omega
      have lb : xb.length ≤ cs.length := by rw [hb, S_len, List.length_drop]; omega
      have ld : (Str.ofString "...").length = 3 := by rw [S_dots]; rfl
      walk_at "mine go"
      rename Fr _ _ _ _ => F3
      have := h
      simp only [cramL, if_pos (show n < (cs.length : Int) by omega)] at this
      rw [ha, hb, S_dots, S_app, S_app]
      rw [show (n - 3 - 0).toNat / 2 = preN n by unfold preN; omega, show ((n - 3 - 0).toNat + 1) / 2 = postN n by unfold postN preN; omega]
      exact this _ _ _ F3.keep
end Mine
namespace Mine
local macro_rules | `(tactic| walk_at "mine go") => `(tactic| repeat' (first
  | (k_unfold; (try dsimp only))
  | ((fail_if_success (with_reducible show wpAny _ _ (exec (Stmt.While _ _ _ _) _) _ _ _)); (fail_if_success (with_reducible show wpAny _ _ (exec (Stmt.For _ _ _ _ _) _) _ _ _)); (fail_if_success (with_reducible show wpAny _ _ (call (Value.ref _) _ _) _ _ _)); (fail_if_success (with_reducible show wpAny _ _ (pyIter _) _ _ _)); first | walk1 | (dsimp only; walk1) | (leave1; walk_say "STEP leave1"; try dsimp only))))
local macro_rules | `(tactic| walk_at "eval Name") => `(tactic| (k_here; k_dflt (refine' nameX_L ?F ?v ?_ ?a ?b; (case F => k_asm); (case a => rfl); (case b => rfl); (case v => first | exact rfl | assumption); k_whole)))
local macro_rules | `(tactic| walk_at "loadName") => `(tactic| (k_here; k_dflt (refine' loadX_L ?F ?v ?_ ?a ?b; (case F => k_asm); (case a => rfl); (case b => rfl); (case v => first | exact rfl | assumption); k_whole)))
local macro_rules | `(tactic| walk_at "subscriptTail") => `(tactic| ((with_reducible show wpAny _ _ (subscriptTail _ _ (Value.str _ _) (Value.int _ _)) _ _ _); refine item_str (fitsSsize_of (N := 9223372036854775808) (by omega) (by omega) (Int.le_refl _)) (by omega) (by omega) ?_; intro _))
local macro_rules | `(tactic| walk_at "ite") => `(tactic| ((with_reducible show (if ((_ : PySem.Str) == _) = true then _ else _)); refine iteS ?_ ?_ <;> intro _))
local macro_rules | `(tactic| walk_at "execs cons") => `(tactic| ((with_reducible refine wpAny_execs_cons ?_); try dsimp only))
local macro_rules | `(tactic| walk_at "execs nil") => `(tactic| ((with_reducible refine wpAny_execs_nil ?_); try dsimp only))
/-- the state behind a while -/
def Behind (h₀ : Heap) (L : Addr) (s : Shared) (P : (Str → Option Value) → Prop) (f : Flow) (s' : Shared) : Prop :=
  f = .next ∧ ∃ h tk m, s' = { s with heap := h, toks := tk } ∧ Fr h₀ L h m ∧ P m
theorem item_eq {us vs : List Nat} {i j : Nat} (hi : i < us.length) (hj : j < vs.length) : (Txt.item (S us) (i : Int) == Txt.item (S vs) (j : Int)) = decide (us[i]? = vs[j]?) := by
  rw [item_S hi, item_S hj, List.getElem?_eq_getElem hi, List.getElem?_eq_getElem hj]
  by_cases e : us[i] = vs[j]
  · simp [e]
  · have : S [us[i]] ≠ S [vs[j]] := fun q => e (by simpa using S_inj q)
    simp [e]
theorem apart_yes {us vs : List Nat} {n : Int} (hne : us ≠ vs) (hle : us.length ≤ vs.length)
    (h : 3 ≤ us.length ∧ us.length < vs.length ∧ (us.drop ((us.length - 3) / 2)).take 3 = dots ∧ (us.length - 3) / 2 ≤ lcp us vs ∧ us.length - 3 - (us.length - 3) / 2 ≤ lcp us.reverse vs.reverse) :
    (us.length : Int) + 1 = apartL us vs n := by
  rw [apartL, if_neg hne, if_pos hle, apartS, if_pos h]
theorem apart_no {us vs : List Nat} {n M : Int} (hne : us ≠ vs) (hle : us.length ≤ vs.length)
    (h : ¬ (3 ≤ us.length ∧ us.length < vs.length ∧ (us.drop ((us.length - 3) / 2)).take 3 = dots ∧ (us.length - 3) / 2 ≤ lcp us vs ∧ us.length - 3 - (us.length - 3) / 2 ≤ lcp us.reverse vs.reverse))
    (a : M = us.length ∨ M = 2 * (lcp us vs : Int) + 5 ∨ M = 2 * (lcp us.reverse vs.reverse : Int) + 4) (b : M ≤ us.length ∧ M ≤ 2 * (lcp us vs : Int) + 5 ∧ M ≤ 2 * (lcp us.reverse vs.reverse : Int) + 4) :
    M = apartL us vs n := by
  rw [apartL, if_neg hne, if_pos hle, apartS, if_neg h]; omega
theorem apart_mid {us : List Nat} (h : 3 ≤ us.length) : Txt.slice (S us) (some (((us.length : Int) - 3).fdiv 2)) (some (((us.length : Int) - 3).fdiv 2 + 3)) = S ((us.drop ((us.length - 3) / 2)).take 3) := by
  have := fdiv2 ((us.length : Int) - 3)
  rw [show ((us.length : Int) - 3).fdiv 2 = (((us.length - 3) / 2 : Nat) : Int) by omega]
  rw [show (((us.length - 3) / 2 : Nat) : Int) + 3 = (((us.length - 3) / 2 + 3 : Nat) : Int) by omega]
  have := StrLaws.sliceText_nat (S us) (a := (us.length - 3) / 2) (b := (us.length - 3) / 2 + 3) (by omega) (by rw [S_len]; omega)
  show StrLaws.sliceText _ _ _ = _
  rw [this]; simp
theorem apart_le {w p loose mean mg mb dp un fr gd s} {Q E : Value → Shared → Prop} {us vs : List Nat} {n : Int} {t1 t2 t3 : Tok}
   (G : Gd w p loose mean mg mb s.heap) (hroom : dp + 1 < recursionLimit) (hlen : us.length ≤ 1000) (hlen' : vs.length ≤ 1000) (hle : us.length ≤ vs.length)
   (h : ∀ t h' tk', (∀ b o, s.heap.get? b = some o → h'.get? b = some o) → Q (.int (apartL us vs n) t) { s with heap := h', toks := tk' }) :
   wpAny (model PySem.Challenge.rw_ph0064_01.row.prog w) (Ar dp un fr gd) (call (.ref 67) [.str (S us) t1, .str (S vs) t2, .int n t3]) Q E s := by
  obtain ⟨X, T⟩ := G
  have hl0 : (S us).length = us.length := S_len us
  have hl1 : (S vs).length = vs.length := S_len vs
  w_on
  revert X; k_fill; intro X
  refine enterD (binds := [(Str.ofString "one", .str (S us) t1), (Str.ofString "other", .str (S vs) t2), (Str.ofString "never", .int n t3)]) [] (by dsimp only; omega) (X _ _ (by k_is)) rfl T.nolimit (codeRec_of X (by k_is)) (kp_binds X (fun _ => rfl)) (locs rfl) ?_
  intro h₁ F hk₁
  have N : News (hideAll s.heap []) s.heap.objs.size h₁ [] := News.nil
  change Fr s.heap _ _ _ at F
  change News s.heap _ _ _ at N
  generalize hx : S us = x at *
  generalize hy : S vs = y at *
  walk_at "mine go"
  · rename (_ == _) = true => he
    rename Fr _ _ _ _ => F'
    have he' : us = vs := by apply S_inj; rw [hx, hy]; exact eq_of_beq he
    have := h
    simp only [apartL, if_pos he'] at this
    exact this _ _ _ F'.keep
  · rename (_ == _) = false => he
    have hne : us ≠ vs := by rintro rfl; rw [← hx, ← hy] at he; simp at he
    rename Fr _ _ _ _ => F'
    rename News _ _ _ _ => N'
    refine wpAny_mono (Q := Behind s.heap s.heap.objs.size s (fun m => ∃ ta ts, m (Str.ofString "ahead") = some (.int (lcp us vs) ta) ∧ m (Str.ofString "short") = some (.str x t1) ∧ m (Str.ofString "wide") = some (.str y t2) ∧ m (Str.ofString "size") = some (.int us.length ts))) ?_ ?_ (fun _ _ e => e)
    · refine While_inv (fun k m news => ∃ (a : Nat) (ta ts : Tok), m (Str.ofString "ahead") = some (.int a ta) ∧ m (Str.ofString "short") = some (.str x t1) ∧ m (Str.ofString "wide") = some (.str y t2) ∧ m (Str.ofString "size") = some (.int us.length ts) ∧ a ≤ us.length ∧ (∀ i, i < a → us[i]? = vs[i]?) ∧ k = us.length - a) (n₀ := us.length) F' News.nil ⟨0, _, _, rfl, rfl, rfl, by rw [← hl0]; rfl, Nat.zero_le _, fun i hi => absurd hi (Nat.not_lt_zero _), rfl⟩ ?_
      rintro k m₁ news₁ h₂ tk₂ F₂ N₂ ⟨a, ta, ts, e1, e2, e3, e4, b1, b2, rfl⟩
      clear F' N'
      walk_at "mine go"
      · rename Fr _ _ _ _ => F3
        rename (_ == _) = true => hq
        rename (_ : Int) < _ => hlt
        have hlt' : a < us.length := by omega
        rw [← hx, ← hy, item_eq hlt' (by omega)] at hq
        refine WhileStep.intro F3 News.nil (n' := us.length - (a + 1)) (by omega) ⟨a + 1, _, _, rfl, e2, e3, e4, by omega, fun i hi => ?_, rfl⟩
        rcases Nat.lt_succ_iff_lt_or_eq.mp hi with h1 | h1
        · exact b2 i h1
        · rw [h1]; simpa using hq
      · rename (_ == _) = false => hq
        rename (_ : Int) < _ => hlt
        have hlt' : a < us.length := by omega
        rw [← hx, ← hy, item_eq hlt' (by omega)] at hq
        have := @lcp_is us vs a (by omega) (by omega) b2 (.inr (.inr (by simpa using hq)))
        exact ⟨rfl, h₂, _, m₁, rfl, F₂, ta, ts, by rw [this]; exact e1, e2, e3, e4⟩
      · rename ¬ (_ : Int) < _ => hlt
        have := @lcp_is us vs a (by omega) (by omega) b2 (.inl (by omega))
        exact ⟨rfl, h₂, _, m₁, rfl, F₂, ta, ts, by rw [this]; exact e1, e2, e3, e4⟩
    · rintro f s' ⟨rfl, h₂, tk₂, m₂, rfl, F₂, ta, ts, e1, e2, e3, e4⟩
      clear F' N'
      have N₂ : News s.heap s.heap.objs.size h₂ [] := News.nil
      dsimp only
      walk_at "mine go"
      rename Fr _ _ _ _ => F'
      rename News _ _ _ _ => N'
      refine wpAny_mono (Q := Behind s.heap s.heap.objs.size s (fun m => ∃ ta tb ts, m (Str.ofString "ahead") = some (.int (lcp us vs) ta) ∧ m (Str.ofString "behind") = some (.int (lcp us.reverse vs.reverse) tb) ∧ m (Str.ofString "short") = some (.str x t1) ∧ m (Str.ofString "wide") = some (.str y t2) ∧ m (Str.ofString "size") = some (.int us.length ts))) ?_ ?_ (fun _ _ e => e)
      · refine While_inv (fun k m news => ∃ (b : Nat) (ta tb ts : Tok), m (Str.ofString "ahead") = some (.int (lcp us vs) ta) ∧ m (Str.ofString "behind") = some (.int b tb) ∧ m (Str.ofString "short") = some (.str x t1) ∧ m (Str.ofString "wide") = some (.str y t2) ∧ m (Str.ofString "size") = some (.int us.length ts) ∧ b ≤ us.length ∧ (∀ i, i < b → us.reverse[i]? = vs.reverse[i]?) ∧ k = us.length - b) (n₀ := us.length) F' News.nil ⟨0, _, _, _, e1, rfl, e2, e3, e4, Nat.zero_le _, fun i hi => absurd hi (Nat.not_lt_zero _), rfl⟩ ?_
        rintro k m₁ news₁ h₃ tk₃ F₃ N₃ ⟨b, ta, tb, ts, e1, eb, e2, e3, e4, b1, b2, rfl⟩
        clear F' N'
        walk_at "mine go"
        · rename Fr _ _ _ _ => F3
          rename (_ == _) = true => hq
          rename (_ : Int) < _ => hlt
          have hlt' : b < us.length := by omega
          rw [hl1, ← hx, ← hy, show (us.length : Int) - 1 - (b : Int) = ((us.length - 1 - b : Nat) : Int) by omega, show (vs.length : Int) - 1 - (b : Int) = ((vs.length - 1 - b : Nat) : Int) by omega, item_eq (by omega) (by omega)] at hq
          refine WhileStep.intro F3 News.nil (n' := us.length - (b + 1)) (by omega) ⟨b + 1, _, _, _, e1, rfl, e2, e3, e4, by omega, fun i hi => ?_, rfl⟩
          rcases Nat.lt_succ_iff_lt_or_eq.mp hi with h1 | h1
          · exact b2 i h1
          · rw [h1, List.getElem?_reverse hlt', List.getElem?_reverse (by omega)]; simpa using hq
        · rename (_ == _) = false => hq
          rename (_ : Int) < _ => hlt
          have hlt' : b < us.length := by omega
          rw [hl1, ← hx, ← hy, show (us.length : Int) - 1 - (b : Int) = ((us.length - 1 - b : Nat) : Int) by omega, show (vs.length : Int) - 1 - (b : Int) = ((vs.length - 1 - b : Nat) : Int) by omega, item_eq (by omega) (by omega)] at hq
          have := @lcp_is us.reverse vs.reverse b (by simp; omega) (by simp; omega) b2 (.inr (.inr (by rw [List.getElem?_reverse hlt', List.getElem?_reverse (by omega)]; simpa using hq)))
          exact ⟨rfl, h₃, _, m₁, rfl, F₃, ta, tb, ts, e1, by rw [this]; exact eb, e2, e3, e4⟩
        · rename ¬ (_ : Int) < _ => hlt
          have := @lcp_is us.reverse vs.reverse b (by simp; omega) (by simp; omega) b2 (.inl (by simp; omega))
          exact ⟨rfl, h₃, _, m₁, rfl, F₃, ta, tb, ts, e1, by rw [this]; exact eb, e2, e3, e4⟩
      · rintro f s' ⟨rfl, h₃, tk₃, m₃, rfl, F₃, ta, tb, ts, e1, eb, e2, e3, e4⟩
        clear F' N'
        have N₃ : News s.heap s.heap.objs.size h₃ [] := News.nil
        dsimp only
        walk_at "mine go"
        all_goals have hf := fdiv2 ((us.length : Int) - 3)
        · rename Fr _ _ _ _ => F3
          rename (_ == _) = true => hd
          rw [← hx, apart_mid (by omega), S_dots] at hd
          rw [apart_yes (n := n) hne hle ⟨by omega, by omega, S_inj (eq_of_beq hd), by omega, by omega⟩]
          exact h _ _ _ F3.keep
        all_goals (
          rename Fr _ _ _ _ => F3
          rename (_ ∨ _ ∨ _) => ma
          rename (_ ≤ _ ∧ _ ≤ _ ∧ _ ≤ _) => mb
          rw [apart_no (n := n) hne hle ?_ ma mb]
          · exact h _ _ _ F3.keep
          · rintro ⟨c1, c2, c3, c4, c5⟩
            first
              | omega
              | (rename (_ == _) = false => hd
                 rw [← hx, apart_mid c1, S_dots, c3] at hd
                 simp at hd))
theorem apartL_comm {us vs : List Nat} {n : Int} (h : us.length ≠ vs.length) : apartL us vs n = apartL vs us n := by
  have h1 : us ≠ vs := fun e => h (by rw [e])
  unfold apartL
  rw [if_neg h1, if_neg (Ne.symm h1)]
  by_cases q : us.length ≤ vs.length
  · rw [if_pos q, if_neg (by omega)]
  · rw [if_neg q, if_pos (by omega)]
theorem apart_gt {w p loose mean mg mb dp un fr gd s} {Q E : Value → Shared → Prop} {us vs : List Nat} {n : Int} {t1 t2 t3 : Tok}
   (G : Gd w p loose mean mg mb s.heap) (hroom : dp + 1 < recursionLimit) (hlen : us.length ≤ 1000) (hlen' : vs.length ≤ 1000) (hgt : vs.length < us.length)
   (h : ∀ t h' tk', (∀ b o, s.heap.get? b = some o → h'.get? b = some o) → Q (.int (apartL us vs n) t) { s with heap := h', toks := tk' }) :
   wpAny (model PySem.Challenge.rw_ph0064_01.row.prog w) (Ar dp un fr gd) (call (.ref 67) [.str (S us) t1, .str (S vs) t2, .int n t3]) Q E s := by
  obtain ⟨X, T⟩ := G
  rw [apartL_comm (by omega)] at h
  have hle : vs.length ≤ us.length := by omega
  have hl0 : (S us).length = us.length := S_len us
  have hl1 : (S vs).length = vs.length := S_len vs
  w_on
  revert X; k_fill; intro X
  refine enterD (binds := [(Str.ofString "one", .str (S us) t1), (Str.ofString "other", .str (S vs) t2), (Str.ofString "never", .int n t3)]) [] (by dsimp only; omega) (X _ _ (by k_is)) rfl T.nolimit (codeRec_of X (by k_is)) (kp_binds X (fun _ => rfl)) (locs rfl) ?_
  intro h₁ F hk₁
  have N : News (hideAll s.heap []) s.heap.objs.size h₁ [] := News.nil
  change Fr s.heap _ _ _ at F
  change News s.heap _ _ _ at N
  generalize hx : S us = x at *
  generalize hy : S vs = y at *
  walk_at "mine go"
  · rename (_ == _) = true => he
    rename Fr _ _ _ _ => F'
    have he' : vs = us := by apply S_inj; rw [hy, hx]; exact eq_of_beq he
    have := h
    simp only [apartL, if_pos he'] at this
    exact this _ _ _ F'.keep
  · rename (_ == _) = false => he
    have hne : vs ≠ us := by rintro rfl; rw [← hy, ← hx] at he; simp at he
    rename Fr _ _ _ _ => F'
    rename News _ _ _ _ => N'
    refine wpAny_mono (Q := Behind s.heap s.heap.objs.size s (fun m => ∃ ta ts, m (Str.ofString "ahead") = some (.int (lcp vs us) ta) ∧ m (Str.ofString "short") = some (.str y t2) ∧ m (Str.ofString "wide") = some (.str x t1) ∧ m (Str.ofString "size") = some (.int vs.length ts))) ?_ ?_ (fun _ _ e => e)
    · refine While_inv (fun k m news => ∃ (a : Nat) (ta ts : Tok), m (Str.ofString "ahead") = some (.int a ta) ∧ m (Str.ofString "short") = some (.str y t2) ∧ m (Str.ofString "wide") = some (.str x t1) ∧ m (Str.ofString "size") = some (.int vs.length ts) ∧ a ≤ vs.length ∧ (∀ i, i < a → vs[i]? = us[i]?) ∧ k = vs.length - a) (n₀ := vs.length) F' News.nil ⟨0, _, _, rfl, rfl, rfl, by rw [← hl1]; rfl, Nat.zero_le _, fun i hi => absurd hi (Nat.not_lt_zero _), rfl⟩ ?_
      rintro k m₁ news₁ h₂ tk₂ F₂ N₂ ⟨a, ta, ts, e1, e2, e3, e4, b1, b2, rfl⟩
      clear F' N'
      walk_at "mine go"
      · rename Fr _ _ _ _ => F3
        rename (_ == _) = true => hq
        rename (_ : Int) < _ => hlt
        have hlt' : a < vs.length := by omega
        rw [← hy, ← hx, item_eq hlt' (by omega)] at hq
        refine WhileStep.intro F3 News.nil (n' := vs.length - (a + 1)) (by omega) ⟨a + 1, _, _, rfl, e2, e3, e4, by omega, fun i hi => ?_, rfl⟩
        rcases Nat.lt_succ_iff_lt_or_eq.mp hi with h1 | h1
        · exact b2 i h1
        · rw [h1]; simpa using hq
      · rename (_ == _) = false => hq
        rename (_ : Int) < _ => hlt
        have hlt' : a < vs.length := by omega
        rw [← hy, ← hx, item_eq hlt' (by omega)] at hq
        have := @lcp_is vs us a (by omega) (by omega) b2 (.inr (.inr (by simpa using hq)))
        exact ⟨rfl, h₂, _, m₁, rfl, F₂, ta, ts, by rw [this]; exact e1, e2, e3, e4⟩
      · rename ¬ (_ : Int) < _ => hlt
        have := @lcp_is vs us a (by omega) (by omega) b2 (.inl (by omega))
        exact ⟨rfl, h₂, _, m₁, rfl, F₂, ta, ts, by rw [this]; exact e1, e2, e3, e4⟩
    · rintro f s' ⟨rfl, h₂, tk₂, m₂, rfl, F₂, ta, ts, e1, e2, e3, e4⟩
      clear F' N'
      have N₂ : News s.heap s.heap.objs.size h₂ [] := News.nil
      dsimp only
      walk_at "mine go"
      rename Fr _ _ _ _ => F'
      rename News _ _ _ _ => N'
      refine wpAny_mono (Q := Behind s.heap s.heap.objs.size s (fun m => ∃ ta tb ts, m (Str.ofString "ahead") = some (.int (lcp vs us) ta) ∧ m (Str.ofString "behind") = some (.int (lcp vs.reverse us.reverse) tb) ∧ m (Str.ofString "short") = some (.str y t2) ∧ m (Str.ofString "wide") = some (.str x t1) ∧ m (Str.ofString "size") = some (.int vs.length ts))) ?_ ?_ (fun _ _ e => e)
      · refine While_inv (fun k m news => ∃ (b : Nat) (ta tb ts : Tok), m (Str.ofString "ahead") = some (.int (lcp vs us) ta) ∧ m (Str.ofString "behind") = some (.int b tb) ∧ m (Str.ofString "short") = some (.str y t2) ∧ m (Str.ofString "wide") = some (.str x t1) ∧ m (Str.ofString "size") = some (.int vs.length ts) ∧ b ≤ vs.length ∧ (∀ i, i < b → vs.reverse[i]? = us.reverse[i]?) ∧ k = vs.length - b) (n₀ := vs.length) F' News.nil ⟨0, _, _, _, e1, rfl, e2, e3, e4, Nat.zero_le _, fun i hi => absurd hi (Nat.not_lt_zero _), rfl⟩ ?_
        rintro k m₁ news₁ h₃ tk₃ F₃ N₃ ⟨b, ta, tb, ts, e1, eb, e2, e3, e4, b1, b2, rfl⟩
        clear F' N'
        walk_at "mine go"
        · rename Fr _ _ _ _ => F3
          rename (_ == _) = true => hq
          rename (_ : Int) < _ => hlt
          have hlt' : b < vs.length := by omega
          rw [hl0, ← hy, ← hx, show (vs.length : Int) - 1 - (b : Int) = ((vs.length - 1 - b : Nat) : Int) by omega, show (us.length : Int) - 1 - (b : Int) = ((us.length - 1 - b : Nat) : Int) by omega, item_eq (by omega) (by omega)] at hq
          refine WhileStep.intro F3 News.nil (n' := vs.length - (b + 1)) (by omega) ⟨b + 1, _, _, _, e1, rfl, e2, e3, e4, by omega, fun i hi => ?_, rfl⟩
          rcases Nat.lt_succ_iff_lt_or_eq.mp hi with h1 | h1
          · exact b2 i h1
          · rw [h1, List.getElem?_reverse hlt', List.getElem?_reverse (by omega)]; simpa using hq
        · rename (_ == _) = false => hq
          rename (_ : Int) < _ => hlt
          have hlt' : b < vs.length := by omega
          rw [hl0, ← hy, ← hx, show (vs.length : Int) - 1 - (b : Int) = ((vs.length - 1 - b : Nat) : Int) by omega, show (us.length : Int) - 1 - (b : Int) = ((us.length - 1 - b : Nat) : Int) by omega, item_eq (by omega) (by omega)] at hq
          have := @lcp_is vs.reverse us.reverse b (by simp; omega) (by simp; omega) b2 (.inr (.inr (by rw [List.getElem?_reverse hlt', List.getElem?_reverse (by omega)]; simpa using hq)))
          exact ⟨rfl, h₃, _, m₁, rfl, F₃, ta, tb, ts, e1, by rw [this]; exact eb, e2, e3, e4⟩
        · rename ¬ (_ : Int) < _ => hlt
          have := @lcp_is vs.reverse us.reverse b (by simp; omega) (by simp; omega) b2 (.inl (by simp; omega))
          exact ⟨rfl, h₃, _, m₁, rfl, F₃, ta, tb, ts, e1, by rw [this]; exact eb, e2, e3, e4⟩
      · rintro f s' ⟨rfl, h₃, tk₃, m₃, rfl, F₃, ta, tb, ts, e1, eb, e2, e3, e4⟩
        clear F' N'
        have N₃ : News s.heap s.heap.objs.size h₃ [] := News.nil
        dsimp only
        walk_at "mine go"
        all_goals have hf := fdiv2 ((vs.length : Int) - 3)
        · rename Fr _ _ _ _ => F3
          rename (_ == _) = true => hd
          rw [← hy, apart_mid (by omega), S_dots] at hd
          rw [apart_yes (n := n) hne hle ⟨by omega, by omega, S_inj (eq_of_beq hd), by omega, by omega⟩]
          exact h _ _ _ F3.keep
        all_goals (
          rename Fr _ _ _ _ => F3
          rename (_ ∨ _ ∨ _) => ma
          rename (_ ≤ _ ∧ _ ≤ _ ∧ _ ≤ _) => mb
          rw [apart_no (n := n) hne hle ?_ ma mb]
          · exact h _ _ _ F3.keep
          · rintro ⟨c1, c2, c3, c4, c5⟩
            first
              | omega
              | (rename (_ == _) = false => hd
                 rw [← hy, apart_mid c1, S_dots, c3] at hd
                 simp at hd))
theorem apart_call {w p loose mean mg mb dp un fr gd s} {Q E : Value → Shared → Prop} {us vs : List Nat} {n : Int} {t1 t2 t3 : Tok}
   (G : Gd w p loose mean mg mb s.heap) (hroom : dp + 1 < recursionLimit) (hlen : us.length ≤ 1000) (hlen' : vs.length ≤ 1000)
   (h : ∀ t h' tk', (∀ b o, s.heap.get? b = some o → h'.get? b = some o) → Q (.int (apartL us vs n) t) { s with heap := h', toks := tk' }) :
   wpAny (model PySem.Challenge.rw_ph0064_01.row.prog w) (Ar dp un fr gd) (call (.ref 67) [.str (S us) t1, .str (S vs) t2, .int n t3]) Q E s := by
  by_cases c : us.length ≤ vs.length
  · exact apart_le G hroom hlen hlen' c h
  · exact apart_gt G hroom hlen hlen' (by omega) h
end Mine
namespace Mine
section
variable {prog : Program} {w : World} {A : Around} {E : Value → Shared → Prop} {s : Shared} {env : Env} {elt iter : Expr} {x : Str} {px : Pos} {scope : Scope} {cl : List (Str × Addr)} {pos : Pos} {Q : Value → Shared → Prop}
theorem paired_at {α β : Type} {F : α → β → Prop} : ∀ {l₁ : List α} {l₂ : List β}, Paired F l₁ l₂ → ∀ (i : Nat) (a : α) (b : β), l₁[i]? = some a → l₂[i]? = some b → F a b
  | _, _, .nil, i, a, b, h, _ => by simp at h
  | _, _, .cons hx hr, 0, a, b, h1, h2 => by simp at h1 h2; subst h1; subst h2; exact hx
  | _, _, .cons hx hr, i + 1, a, b, h1, h2 => paired_at hr i a b (by simpa using h1) (by simpa using h2)
theorem filter_tt (l : List Value) : l.filter (fun _ => true) = l := by simp
theorem old_ne {h : Heap} {b : Addr} {o : Obj} (e : h.get? b = some o) : b ∉ [h.objs.size] := fun hb =>
  absurd (Heap.lt_size e) ((List.mem_singleton.mp hb) ▸ Nat.lt_irrefl _)
/-- a list comprehension over a range: each element keeps what stood -/
theorem lc_range (a c : Int) (hc : c ≠ 0) (R : Nat → Value → Prop) (hh : A.handled = none) (hclos : closureFor scope env = pure cl) (hcell : ∀ y ∈ scope.names, y.2 ≠ .cell) (hkind : scope.kind = .function)
    (hnames : ∀ y ∈ scope.names, y.2 = .local → scope.names.lookup y.1 = some .local) (hx : scope.names.lookup x = some .local)
    (h : wpAny (model prog w) A (eval iter env) (fun xv s₁ => ∃ (r : Addr) (b : Int) (t u v : Tok) (n : Nat), xv = .ref r ∧ IsRange s₁.heap r a b c t u v ∧ Builtin.Range.small a b c = true ∧ Builtin.Range.rangeSize a b c = (n : Int) ∧ n ≤ sizeLine ∧
      (∀ C (i : Nat) t' s₃ m₃ E', i < n → Fr s₁.heap C s₃.heap m₃ → m₃ x = some (.int (a + (i : Int) * c) t') → wpAny (model prog w) A (eval elt (compEnvC scope cl C env)) (fun y s₄ => R i y ∧ Keeps s₃ s₄) E' s₃) ∧
      (∀ D h' tk (ys : List Value), s₁.heap.get? D = none → h'.PlainList D ys.toArray → ys.length = n → (∀ i y, ys[i]? = some y → R i y) → (∀ b o, s₁.heap.get? b = some o → h'.get? b = some o) → Q (.ref D) { s₁ with heap := h', toks := tk })) E s)
    (hs : ∀ x, foldedSetIterable iter env x = pure x := by intro _; rfl) :
    wpAny (model prog w) A (eval (.ListComp elt [⟨.Name x px, iter, [], 0⟩] scope pos) env) Q E s := by
  refine wpAny_ListComp_free (fun _ => true) (fun v y => ∃ (i : Nat) (t : Tok), v = .int (a + (i : Int) * c) t ∧ R i y) hclos hcell hkind hnames hx (wpAny_mono h (fun xv s₁ h₁ => ?_) fun _ _ e => e) hs
  obtain ⟨r, b, t, u, v, n, rfl, hr, hsm, hn, hsz, helt, hQ⟩ := h₁
  refine wpAny_pyIter_range hr hsm ?_
  have up : ∀ (h' : Heap), (∀ q o', q ∉ [s₁.heap.objs.size] → (s₁.heap.push { cls := .type "range_iterator", data := .fields #[rawInt a, rawInt (Builtin.Range.rangeSize a b c), rawInt c] }).get? q = some o' → h'.get? q = some o') → ∀ q o', s₁.heap.get? q = some o' → h'.get? q = some o' :=
    fun h' hk b o' e => hk b o' (old_ne e) (Heap.get?_push_of_some _ e)
  refine ⟨s₁.heap.objs.size, [s₁.heap.objs.size], [s₁.heap.objs.size], n, _, _, rfl, (Walks.range hh _ a c n).bound, hsz, (by show IsRangeIter _ _ _ _ _; rw [hn]; simpa using Heap.get?_push_size _ rfl), ?_, ⟨?_, ?_⟩, ?_⟩
  · intro b hb
    show b < (s₁.heap.push _).objs.size
    rw [Heap.size_push, List.mem_singleton.mp hb]
    exact Nat.lt_succ_self _
  · intro C i v s₃ m₃ E' _ _ _ _ _ _
    exact wpAny_tests_nil ⟨rfl, ⟨_, _, rfl, fun _ _ e => e⟩⟩
  · rintro C i v s₃ m₃ E' hC ⟨hi, t', rfl⟩ - hns hm hk htk
    rw [Heap.size_push] at hC
    exact wpAny_mono (helt C i t' s₃ m₃ E' hi ⟨hns, up _ hk, by omega⟩ hm) (fun y s₄ hy => ⟨⟨i, t', rfl, hy.1⟩, hy.2⟩) fun _ _ e => e
  · intro D h' tk ys vs hD _ hpl hlen hP hF hk
    rw [filter_tt] at hF
    have hl := hF.length
    have hD' : s₁.heap.get? D = none := by
      cases e : s₁.heap.get? D with
      | none => rfl
      | some o => rw [Heap.get?_push_of_some _ e] at hD; cases hD
    refine hQ D h' tk ys.toList hD' (by rw [Array.toArray_toList]; exact hpl) (by rw [← hl, hlen]) (fun i y hy => ?_) (up _ hk)
    have hi : i < vs.length := by rw [hl]; exact (List.getElem?_eq_some_iff.mp hy).1
    obtain ⟨j, t', ev, hR⟩ := paired_at hF i vs[i] y (List.getElem?_eq_getElem hi) hy
    obtain ⟨_, t'', ev'⟩ := hP i vs[i] (List.getElem?_eq_getElem hi)
    rw [ev'] at ev
    have e1 : a + (i : Int) * c = a + (j : Int) * c := (Value.int.inj ev).1
    have e2 : (i : Int) * c = (j : Int) * c := by omega
    have e3 : (i : Int) = (j : Int) := Int.eq_of_mul_eq_mul_right hc e2
    have e4 : i = j := by omega
    rw [e4]; exact hR
/-- a list comprehension over a list: each element keeps what stood -/
theorem lc_list (R : Value → Value → Prop) (hh : A.handled = none) (hclos : closureFor scope env = pure cl) (hcell : ∀ y ∈ scope.names, y.2 ≠ .cell) (hkind : scope.kind = .function)
    (hnames : ∀ y ∈ scope.names, y.2 = .local → scope.names.lookup y.1 = some .local) (hx : scope.names.lookup x = some .local)
    (h : wpAny (model prog w) A (eval iter env) (fun xv s₁ => ∃ (l : Addr) (vs : List Value), xv = .ref l ∧ s₁.heap.IsList l vs.toArray ∧ vs.length ≤ sizeLine ∧
      (∀ C v s₃ m₃ E', v ∈ vs → Fr s₁.heap C s₃.heap m₃ → m₃ x = some v → wpAny (model prog w) A (eval elt (compEnvC scope cl C env)) (fun y s₄ => R v y ∧ Keeps s₃ s₄) E' s₃) ∧
      (∀ D h' tk (ys : List Value), s₁.heap.get? D = none → h'.PlainList D ys.toArray → Paired R vs ys → (∀ b o, s₁.heap.get? b = some o → h'.get? b = some o) → Q (.ref D) { s₁ with heap := h', toks := tk })) E s)
    (hs : ∀ x, foldedSetIterable iter env x = pure x := by intro _; rfl) :
    wpAny (model prog w) A (eval (.ListComp elt [⟨.Name x px, iter, [], 0⟩] scope pos) env) Q E s := by
  refine wpAny_ListComp_free (fun _ => true) R hclos hcell hkind hnames hx (wpAny_mono h (fun xv s₁ h₁ => ?_) fun _ _ e => e) hs
  obtain ⟨l, vs, rfl, hl, hsz, helt, hQ⟩ := h₁
  have hlt : l < s₁.heap.objs.size := by obtain ⟨_, e, _⟩ := hl; exact Heap.lt_size e
  refine wpAny_pyIter_list hl ?_
  have up : ∀ (h' : Heap), (∀ b o', b ∉ [s₁.heap.objs.size] → (s₁.heap.push { cls := .type "list_iterator", data := .fields #[.ref l, .int 0 0] }).get? b = some o' → h'.get? b = some o') → ∀ b o', s₁.heap.get? b = some o' → h'.get? b = some o' :=
    fun h' hk b o' e => hk b o' (old_ne e) (Heap.get?_push_of_some _ e)
  refine ⟨s₁.heap.objs.size, [s₁.heap.objs.size, l], [s₁.heap.objs.size], vs.toArray.size, _, _, rfl, Walks.list hh _ l (Nat.ne_of_lt hlt) vs.toArray, (by rw [List.size_toArray]; exact hsz), ⟨⟨_, Heap.get?_push_size _ rfl, rfl, rfl⟩, hl.at fun o e => Heap.get?_push_of_some _ e⟩, ?_, ⟨?_, ?_⟩, ?_⟩
  · intro b hb
    show b < (s₁.heap.push _).objs.size
    rw [Heap.size_push]
    rcases List.mem_cons.mp hb with rfl | hb
    · exact Nat.lt_succ_self _
    · rw [List.mem_singleton.mp hb]; exact Nat.lt_succ_of_lt hlt
  · intro C i v s₃ m₃ E' _ _ _ _ _ _
    exact wpAny_tests_nil ⟨rfl, ⟨_, _, rfl, fun _ _ e => e⟩⟩
  · rintro C i v s₃ m₃ E' hC hP - hns hm hk htk
    rw [Heap.size_push] at hC
    have hv : v ∈ vs := List.mem_of_getElem? (by simpa using hP)
    exact helt C v s₃ m₃ E' hv ⟨hns, up _ hk, by omega⟩ hm
  · intro D h' tk ys ws hD _ hpl hlen hP hF hk
    rw [filter_tt] at hF
    have e' : ws = vs := by simpa using walked_is hlen hP
    subst e'
    have hD' : s₁.heap.get? D = none := by
      cases e : s₁.heap.get? D with
      | none => rfl
      | some o => rw [Heap.get?_push_of_some _ e] at hD; cases hD
    exact hQ D h' tk ys.toList hD' (by rw [Array.toArray_toList]; exact hpl) hF (up _ hk)
end
section
variable {w : World} {prog : Program} {A : Around} {s : Shared} {Q E : Value → Shared → Prop} {name qual : Str} {params : Arguments} {body : List Stmt} {scope : Scope} {dV kV doc pm cdv ct : Value} {an : Option Addr} {fo : Obj} {f : Addr} {pos : List Value} {kw : List (Str × Value)} {binds : List (Str × Value)}
/-- a call of a def with cells; its frame stands over the heap less what is hidden -/
theorem enterC (hs : List Addr) (hroom : A.depth < recursionLimit) (ho : s.heap.get? f = some fo) (hd : fo.data = .func (fnX name qual params body scope [] dV kV doc pm an cdv ct)) (hlim : s.heap.NoLimit) (hcd : s.heap.CodeRec cdv qual)
    (hbind : BindsTo s (fnX name qual params body scope [] dV kV doc pm an cdv ct) ⟨pos, kw⟩ binds) (hkind : (binds.all fun y => scope.names.lookup y.1 == some .local || scope.names.lookup y.1 == some .cell) = true)
    (hnd : ((cellsFrom 0 scope.names []).map (·.1)).Nodup)
    (h : ∀ h₁ tk cells, Fr (hideAll s.heap hs) s.heap.objs.size h₁ (bindL (envX qual scope s.heap.objs.size f cdv (cellsFrom (s.heap.objs.size + 1) scope.names [])).kindOf binds fun _ => none) → News (hideAll s.heap hs) s.heap.objs.size h₁ cells →
      CellsAre (bindC (envX qual scope s.heap.objs.size f cdv (cellsFrom (s.heap.objs.size + 1) scope.names [])).kindOf binds fun _ => none) (cellsFrom (s.heap.objs.size + 1) scope.names []) cells → (∀ b o, s.heap.get? b = some o → h₁.get? b = some o) →
      wpAny (model prog w) (A.deeper (envX qual scope s.heap.objs.size f cdv (cellsFrom (s.heap.objs.size + 1) scope.names []))) (execs body (envX qual scope s.heap.objs.size f cdv (cellsFrom (s.heap.objs.size + 1) scope.names [])))
        (fun fl s' => Q (match fl with | .ret v => v | _ => .none) s') (fun _ _ => False) { s with heap := h₁, toks := tk })
    (hco : scope.isCoroutine = false := by rfl) (hgen : scope.isGenerator = false := by rfl) (hk : scope.kind = .function := by rfl) : wpAny (model prog w) A (call (.ref f) pos kw) Q E s := by
  refine wpAny_call ?_
  refine codeAny_call_function hroom ho hd hco hgen rfl hcd (hbind _ _ _ _ ?_)
  refine wpAny_newFunctionEnv_cells hk (kindsX hkind _) fun env' he s' x => ?_
  subst he
  refine ⟨hlim.keeps x.toInCall.keep, codeAny_func ?_⟩
  obtain ⟨h₁, tk, rfl, _⟩ := x.done
  have hk₁ := x.toInCall.keep
  obtain ⟨cells, NC, Y⟩ := Cl.news (h₀ := s.heap) (Nat.le_refl _) fun n c hm => ⟨x.cell n c (lookup_of_mem_nodup (cellsFrom_names scope.names 0 (s.heap.objs.size + 1) [] [] rfl ▸ hnd) hm), x.above n c hm⟩
  refine wpAny_mono (h h₁ tk cells ⟨x.toInCall.ns, fun b o e => hk₁ b o (of_hideAll _ e), Nat.le_of_eq (hideAll_size _ _)⟩ (fun p hp => ?_) Y hk₁) (fun _ _ x => x) (fun _ _ x => x.elim)
  refine ⟨(NC p hp).1, (NC p hp).2.1, ?_⟩
  cases q : (hideAll s.heap hs).get? p.1 with
  | none => rfl
  | some o => have := of_hideAll _ q; rw [(NC p hp).2.2] at this; cases this
end
section
variable {M : Model} {A : Around} {E : Value → Shared → Prop} {s : Shared} {K : Frag} {h₀ : Heap} {C c : Addr} {m mg mb : Str → Option Value} {scope : Scope} {cl : List (Str × Addr)} {env : Env} {x : Str} {pos : Pos} {v : Value} {o : Obj} {Q : Value → Shared → Prop} {p : Program} {loose : List Str}
theorem nameC_L (F : Fr h₀ C s.heap m) (hv : m x = some v) (h : Q v s)
    (hk : (compEnvC scope cl C env).scope.kind = .function) (hx : (compEnvC scope cl C env).kindOf x = some .local) (hb : (x == ("__debug__" : Str)) = false := by decide) :
    wpAny M A (eval (.Name x pos) (compEnvC scope cl C env)) Q E s := wpAny_Name (wpAny_loadName_local hk hx F.ns hv h) hb
theorem nameC_C (F : Fr h₀ C s.heap m) (hc : cl.lookup x = some c) (ho : h₀.get? c = some o) (hd : o.data = .cell (some v)) (h : Q v s)
    (hk : (compEnvC scope cl C env).scope.kind = .function) (hx : (compEnvC scope cl C env).kindOf x = some .cell) (hb : (x == ("__debug__" : Str)) = false := by decide) :
    wpAny M A (eval (.Name x pos) (compEnvC scope cl C env)) Q E s := wpAny_Name (wpAny_loadName_cell hk hx hc ⟨o, F.keep _ _ ho, hd⟩ h) hb
theorem nameC_F (F : Fr h₀ C s.heap m) (hc : cl.lookup x = some c) (ho : h₀.get? c = some o) (hd : o.data = .cell (some v)) (h : Q v s)
    (hk : (compEnvC scope cl C env).scope.kind = .function) (hx : (compEnvC scope cl C env).kindOf x = some .free) (hb : (x == ("__debug__" : Str)) = false := by decide) (hn : (x == ("__classdict__" : Str)) = false := by decide) :
    wpAny M A (eval (.Name x pos) (compEnvC scope cl C env)) Q E s := wpAny_Name (wpAny_loadName_free hk hx hc ⟨o, F.keep _ _ ho, hd⟩ h hn) hb
theorem nameC_K (F : Fr h₀ C s.heap m) (X : K.In h₀) (T : TopRead p loose mg mb h₀) (e : nsIn K mainGlobals x = some (some v)) (h : Q v s) (hg : env.globals = mainGlobals)
    (hk : (compEnvC scope cl C env).scope.kind = .function) (hx : (compEnvC scope cl C env).kindOf x = some .globalImplicit) (hd : (x == ("__debug__" : Str)) = false := by decide) :
    wpAny M A (eval (.Name x pos) (compEnvC scope cl C env)) Q E s := Calls.Name_function_global hk hx (Calls.loadGlobal_global (env := compEnvC scope cl C env) (by show s.heap.Ns env.globals mg; rw [hg]; exact T.g.keeps F.keep) (mg_of X T.g e) h) hd
theorem nameC_B (F : Fr h₀ C s.heap m) (X : K.In h₀) (T : TopRead p loose mg mb h₀) (e : nsIn K mainGlobals x = some none) (hv : bootBuiltins x = some v) (hn : x ≠ "__name__") (h : Q v s) (hg : env.globals = mainGlobals) (hbn : env.builtins = builtinsNs)
    (hk : (compEnvC scope cl C env).scope.kind = .function) (hx : (compEnvC scope cl C env).kindOf x = some .globalImplicit) (hd : (x == ("__debug__" : Str)) = false := by decide) :
    wpAny M A (eval (.Name x pos) (compEnvC scope cl C env)) Q E s :=
  Calls.Name_function_global hk hx (Calls.loadGlobal_builtin (env := compEnvC scope cl C env) (by show s.heap.Ns env.globals mg; rw [hg]; exact T.g.keeps F.keep) (mg_none_of X T.g e) (by show s.heap.Ns env.builtins mb; rw [hbn]; exact T.b.keeps F.keep) ((T.builtins x hn).trans hv) h) hd
end
theorem range1_N {prog : Program} {w : World} {A : Around} {E : Value → Shared → Prop} {s : Shared} {h₀ : Heap} {L : Addr} {m : Str → Option Value} {news : List (Addr × Obj)} {Q : Value → Shared → Prop} {n : Int} {t : Tok}
    (F : Fr h₀ L s.heap m) (N : News h₀ L s.heap news)
    (h : ∀ r h' tk t₁ v₁, IsRange h' r 0 n 1 t₁ t v₁ → Fr h₀ L h' m → News h₀ L h' news → (∀ b o, s.heap.get? b = some o → h'.get? b = some o) → Q (.ref r) { s with heap := h', toks := tk }) :
    wpAny (model prog w) A (call (.type "range") [.int n t]) Q E s :=
  call_range_1 (h _ _ _ _ _ (IsRange.new ..) (F.push _) (fun p hq => ⟨Heap.get?_push_of_some _ (N p hq).1, (N p hq).2⟩) fun _ _ e => Heap.get?_push_of_some _ e)
section
variable {prog : Program} {w : World} {A : Around} {E : Value → Shared → Prop} {s : Shared} {env : Env} {h₀ : Heap} {x : Str} {body : List Stmt} {Q : Flow → Shared → Prop}
/-- a loop over a list, by what holds of the frame's map and of the ledger -/
theorem iter_list {l : Addr} {vs : List Value} {m₀ : Str → Option Value} {news : List (Addr × Obj)} (J : Nat → (Str → Option Value) → List (Addr × Obj) → Prop)
    (hh : A.handled = none) (hl : s.heap.IsList l vs.toArray) (hlL : l ≠ env.locals) (F : Fr h₀ env.locals s.heap m₀) (N : News h₀ env.locals s.heap news) (hj : J 0 m₀ news)
    (turn : ∀ i v m₁ news₁ h tk own, vs[i]? = some v → J i m₁ news₁ → (∀ p ∈ news₁, p.1 ∉ [s.heap.objs.size]) → (∀ p ∈ own, p.1 = s.heap.objs.size ∨ p.1 = l) → Fr h₀ env.locals h (fun y => if y = x then some v else m₁ y) → News h₀ env.locals h (own ++ news₁) →
      wpAny (model prog w) A (execs body env) (LoopStepV h₀ env.locals [s.heap.objs.size] own (J (i + 1)) { s with heap := h, toks := tk } (fun v s' => Q (.ret v) s') fun s' => Q .next s') E { s with heap := h, toks := tk })
    (done : ∀ m₁ news₁ h tk, J vs.length m₁ news₁ → Fr h₀ env.locals h m₁ → News h₀ env.locals h news₁ → Q .next { s with heap := h, toks := tk }) :
    wpAny (model prog w) A (pyIter (.ref l)) (fun it s₂ => LoopAtV prog w A h₀ env x body Q E it s₂) E s := by
  have hlt : l < s.heap.objs.size := by obtain ⟨_, e, _⟩ := hl; exact Heap.lt_size e
  refine wpAny_pyIter_list hl ?_
  refine ⟨s.heap.objs.size, [s.heap.objs.size, l], [s.heap.objs.size], vs.toArray.size, _, _, m₀, news, J, rfl, Walks.list hh _ l (Nat.ne_of_lt hlt) vs.toArray, ?_, ?_, ?_, ⟨⟨_, Heap.get?_push_size _ rfl, rfl, rfl⟩, hl.at fun o e => Heap.get?_push_of_some _ e⟩, F.push _, (fun p hp => ⟨Heap.get?_push_of_some _ (N p hp).1, (N p hp).2⟩), hj, ?_, ?_⟩
  · intro hm
    rcases List.mem_cons.mp hm with e | hm
    · exact absurd F.ns.lt (e ▸ Nat.lt_irrefl _)
    · exact hlL (List.mem_singleton.mp hm).symm
  · intro b hb
    rw [List.mem_singleton.mp hb]
    cases e : h₀.get? s.heap.objs.size with
    | none => rfl
    | some o => exact absurd (Heap.lt_size (F.keep _ _ e)) (Nat.lt_irrefl _)
  · intro p hp hI
    exact absurd (Heap.lt_size (N p hp).1) ((List.mem_singleton.mp hI) ▸ Nat.lt_irrefl _)
  · rintro i v m₁ news₁ s₁ own ⟨h', tk', rfl⟩ hi hP hJ hoff hown _ _ _ F₁ N₁
    exact turn i v m₁ news₁ h' tk' own (by simpa using hP) hJ hoff (fun p hp => by simpa using hown p hp) F₁ N₁
  · intro h' tk m' news' F' N' _ hJ
    exact done m' news' h' tk (by simpa using hJ) F' N'
end
end Mine
namespace Mine
local macro_rules | `(tactic| walk_at "mine none") => `(tactic| skip)
local macro_rules | `(tactic| walk_at "mine none") => `(tactic| skip)
local macro_rules | `(tactic| walk_at "mine go") => `(tactic| repeat' (first
  | (k_unfold; (try dsimp only))
  | ((fail_if_success (with_reducible show wpAny _ _ (exec (Stmt.While _ _ _ _) _) _ _ _)); (fail_if_success (with_reducible show wpAny _ _ (exec (Stmt.For _ _ _ _ _) _) _ _ _)); (fail_if_success (with_reducible show wpAny _ _ (call (Value.ref _) _ _) _ _ _)); (fail_if_success (with_reducible show wpAny _ _ (pyIter _) _ _ _)); (fail_if_success (with_reducible show wpAny _ _ (eval (Expr.ListComp _ _ _ _) _) _ _ _)); (fail_if_success (with_reducible show Exists _)); first | walk1 | (dsimp only; walk1) | (leave1; walk_say "STEP leave1"; try dsimp only))))
local macro_rules | `(tactic| walk_at "eval Name") => `(tactic| (k_here; k_dflt (refine' nameX_L ?F ?v ?_ ?a ?b; (case F => k_asm); (case a => rfl); (case b => rfl); (case v => first | exact rfl | assumption); k_whole)))
local macro_rules | `(tactic| walk_at "eval Name") => `(tactic| (k_here; (with_reducible show wpAny _ _ (eval (Expr.Name _ _) (compEnvC _ _ _ _)) _ _ _); k_dflt (first
  | (refine' nameC_L ?F ?v ?_ ?a ?b; (case a => rfl); (case b => rfl); (case F => k_asm); (case v => first | exact rfl | assumption); k_whole)
  | (refine' nameC_C ?F ?c ?o ?d ?_ ?a ?b; (case a => rfl); (case b => rfl); (case F => k_asm); (case c => rfl); (case o => assumption); (case d => assumption); k_whole)
  | (refine' nameC_F ?F ?c ?o ?d ?_ ?a ?b; (case a => rfl); (case b => rfl); (case F => k_asm); (case c => rfl); (case o => assumption); (case d => assumption); k_whole)
  | (refine' nameC_K ?F ?X ?T ?e ?_ ?g ?a ?b; (case a => rfl); (case b => rfl); (case F => k_asm); (case X => k_asm); (case T => k_asm); (case e => k_is); (case g => rfl); k_whole)
  | (refine' nameC_B ?F ?X ?T ?e ?v ?n ?_ ?g ?h ?a ?b; (case a => rfl); (case b => rfl); (case F => k_asm); (case X => k_asm); (case T => k_asm); (case e => k_is); (case v => boot_fast); (case n => decide); (case g => rfl); (case h => rfl); k_whole))))

local macro_rules | `(tactic| walk_at "call type:range") => `(tactic| (k_here; (with_reducible show wpAny _ _ (call _ [Value.int _ _]) _ _ _); refine range1_N (by k_asm) (by k_asm) ?_; intro r' h' tk' t' v' R' F' N' K'))
theorem pow3_bound {i : Nat} (h : i < 9) : (1 : Int) ≤ 3 ^ (0 + (i : Int) * 1).toNat ∧ (3 : Int) ^ (0 + (i : Int) * 1).toNat ≤ 6561 := by
  have e : (0 + (i : Int) * 1).toNat = i := by omega
  rw [e]
  have : i = 0 ∨ i = 1 ∨ i = 2 ∨ i = 3 ∨ i = 4 ∨ i = 5 ∨ i = 6 ∨ i = 7 ∨ i = 8 := by omega
  rcases this with rfl | rfl | rfl | rfl | rfl | rfl | rfl | rfl | rfl <;> decide
theorem strs_of {ys : List Value} : (∀ (i : Nat) (y : Value), ys[i]? = some y → ∃ c t, y = .str (S [c]) t) → ∃ l : List (Str × Tok), ys = strValues l ∧ (∀ q ∈ l, q.1.length = 1) ∧ l.length = ys.length := by
  induction ys with
  | nil => intro _; exact ⟨[], rfl, by simp, rfl⟩
  | cons y r ih =>
    intro h
    obtain ⟨l, hl, h1, h2⟩ := ih (fun i z hz => h (i + 1) z (by simpa using hz))
    obtain ⟨c, t, rfl⟩ := h 0 y rfl
    refine ⟨(S [c], t) :: l, by rw [hl]; rfl, ?_, by simp [h2]⟩
    intro q hq
    rcases List.mem_cons.mp hq with rfl | hq
    · rfl
    · exact h1 q hq
theorem fold_len : ∀ (l : List Str) (sep : Str) (a : Nat), (∀ q ∈ l, q.length = 1) → sep.length = 0 → l.foldl (fun x y => x + y.length + sep.length) a = a + l.length
  | [], _, _, _, _ => rfl
  | q :: l, sep, a, h, hs => by
    rw [List.foldl_cons, fold_len l sep _ (fun x hx => h x (List.mem_cons_of_mem _ hx)) hs, h q List.mem_cons_self, hs, List.length_cons]; omega
theorem sum_one : ∀ (l : List Str), (∀ q ∈ l, q.length = 1) → (l.map (·.length)).sum = l.length
  | [], _ => rfl
  | q :: l, h => by
    rw [List.map_cons, List.sum_cons, sum_one l (fun x hx => h x (List.mem_cons_of_mem _ hx)), h q List.mem_cons_self, List.length_cons]; omega
theorem text_call {w p loose mean mg mb dp un fr gd s} {Q E : Value → Shared → Prop} {n : Int} {t1 : Tok}
   (G : Gd w p loose mean mg mb s.heap) (hroom : dp + 1 < recursionLimit)
   (h : ∀ cs t h' tk', (∀ b o, s.heap.get? b = some o → h'.get? b = some o) → cs.length ≤ 9 → Q (.str (S cs) t) { s with heap := h', toks := tk' }) :
   wpAny (model PySem.Challenge.rw_ph0064_01.row.prog w) (Ar dp un fr gd) (call (.ref 53) [.int n t1]) Q E s := by
  obtain ⟨X, T⟩ := G
  w_on
  revert X; k_fill; intro X
  refine enterC (binds := [(Str.ofString "n", .int n t1)]) [] (by dsimp only; omega) (X _ _ (by k_is)) rfl T.nolimit (codeRec_of X (by k_is)) (kp_binds X (fun _ => rfl)) rfl (by decide +kernel) ?_
  intro h₁ tk cells F N Y hk₁
  change Fr s.heap _ _ _ at F
  change News s.heap _ _ _ at N
  obtain ⟨o, rfl, hd1⟩ := CellsAre.one Y
  dsimp only
  walk_at "mine go"
  refine lc_range 0 1 (by decide) (fun _ y => ∃ c t, y = .str (S [c]) t) rfl (cl := [(Str.ofString "n", s.heap.objs.size + 1)]) rfl (by decide) rfl (by decide) rfl ?_
  walk_at "mine go"
  rename IsRange _ _ _ _ _ _ _ _ => hr
  rename Fr _ _ _ _ => F'
  rename News _ _ _ _ => N'
  have hm : 0 ≤ n.fmod 10 ∧ n.fmod 10 < 10 := by rw [Int.fmod_eq_emod_of_nonneg _ (by decide)]; omega
  refine ⟨_, _, _, _, _, (n.fmod 10).toNat, rfl, hr, small_one (by decide) (by decide) (by omega) (by omega), ?_, ?_, ?_, ?_⟩
  · rw [rangeSize_one]; split <;> omega
  · rw [sizeLine_eq]; omega
  · intro C i t' s₃ m₃ E' hi F₃ hm₃
    have hc := (N' _ (.head _)).1
    have X3 : (hd.heap_39 w.params).In _ := X.keeps F'.keep
    have T3 : Top p loose mean mg mb _ := T.keeps F'.keep
    walk_at "mine go"
    have hp3 := pow3_bound (show i < 9 by omega)
    refine floordiv_int (by omega) ?_ (Or.inl (PyProof.noPylong_small (by omega)))
    generalize (3 : Int) ^ (0 + (i : Int) * 1).toNat = d at *
    walk_at "mine go"
    · exact ⟨_, _, rfl⟩
    · exact ⟨_, _, rfl, fun _ _ e => e⟩
  · intro D h' tk' ys hD hpl hlen hys hk
    obtain ⟨l, rfl, hl1, hl2⟩ := strs_of hys
    obtain ⟨nn, hpl⟩ := hpl
    walk_at "mine go"
    have hl3 : l.length ≤ 9 := by omega
    have hl1' : ∀ q ∈ l.map (·.1), q.length = 1 := by
      intro q hq
      obtain ⟨z, hz, rfl⟩ := List.mem_map.mp hq
      exact hl1 z hz
    have hs0 : (Str.ofString "").length = 0 := by rw [S_nil]; rfl
    refine SC.join (l := l) (texts := l.map (·.1)) ⟨_, hpl, rfl, nn, rfl⟩ rfl ?_ ?_
    · unfold JoinOk
      rw [List.foldl_toArray, fold_len _ _ _ hl1' hs0, List.length_map]
      simp only [Builtin.Str.tooLong, sizeLine_eq]
      simp
      omega
    · intro t' k'
      have e1 := StrLaws.join_length_le (Str.ofString "") (l.map (·.1))
      rw [sum_one _ hl1', hs0, List.length_map] at e1
      have e2 : (Txt.join (Str.ofString "") (l.map (·.1))).length ≤ 9 := by
        unfold Txt.join
        rw [StrLaws.glued_eq_join]
        omega
      generalize hz : Txt.join (Str.ofString "") (l.map (·.1)) = z at *
      have := h z.cps.toList t' h' k' (fun b o e => hk b o (F'.keep b o e)) (by simpa [Str.length] using e2)
      simpa using this
end Mine
namespace Mine
local macro_rules | `(tactic| walk_at "mine none") => `(tactic| skip)
local macro_rules | `(tactic| walk_at "mine go") => `(tactic| repeat' (first
  | (k_unfold; (try dsimp only))
  | ((fail_if_success (with_reducible show wpAny _ _ (exec (Stmt.While _ _ _ _) _) _ _ _)); (fail_if_success (with_reducible show wpAny _ _ (exec (Stmt.For _ _ _ _ _) _) _ _ _)); (fail_if_success (with_reducible show wpAny _ _ (call (Value.ref _) _ _) _ _ _)); (fail_if_success (with_reducible show wpAny _ _ (pyIter _) _ _ _)); (fail_if_success (with_reducible show wpAny _ _ (eval (Expr.ListComp _ _ _ _) _) _ _ _)); (fail_if_success (with_reducible show Exists _)); first | walk1 | (dsimp only; walk1) | (leave1; walk_say "STEP leave1"; try dsimp only))))
local macro_rules | `(tactic| walk_at "eval Name") => `(tactic| (k_here; k_dflt (refine' nameX_L ?F ?v ?_ ?a ?b; (case F => k_asm); (case a => rfl); (case b => rfl); (case v => first | exact rfl | assumption); k_whole)))
local macro_rules | `(tactic| walk_at "eval Name") => `(tactic| (k_here; (with_reducible show wpAny _ _ (eval (Expr.Name _ _) (compEnvC _ _ _ _)) _ _ _); k_dflt (first
  | (refine' nameC_L ?F ?v ?_ ?a ?b; (case a => rfl); (case b => rfl); (case F => k_asm); (case v => first | exact rfl | assumption); k_whole)
  | (refine' nameC_C ?F ?c ?o ?d ?_ ?a ?b; (case a => rfl); (case b => rfl); (case F => k_asm); (case c => rfl); (case o => assumption); (case d => assumption); k_whole)
  | (refine' nameC_F ?F ?c ?o ?d ?_ ?a ?b; (case a => rfl); (case b => rfl); (case F => k_asm); (case c => rfl); (case o => assumption); (case d => assumption); k_whole)
  | (refine' nameC_K ?F ?X ?T ?e ?_ ?g ?a ?b; (case a => rfl); (case b => rfl); (case F => k_asm); (case X => k_asm); (case T => k_asm); (case e => k_is); (case g => rfl); k_whole)
  | (refine' nameC_B ?F ?X ?T ?e ?v ?n ?_ ?g ?h ?a ?b; (case a => rfl); (case b => rfl); (case F => k_asm); (case X => k_asm); (case T => k_asm); (case e => k_is); (case v => boot_fast); (case n => decide); (case g => rfl); (case h => rfl); k_whole))))
local macro_rules | `(tactic| walk_at "execs cons") => `(tactic| ((with_reducible refine wpAny_execs_cons ?_); try dsimp only))
local macro_rules | `(tactic| walk_at "execs nil") => `(tactic| ((with_reducible refine wpAny_execs_nil ?_); try dsimp only))

local macro_rules | `(tactic| walk_at "call builtin:list.append") => `(tactic| (k_here; (with_reducible show wpAny _ _ (call (Value.builtin _) [Value.ref _, _]) _ _ _); refine append_K (by k_asm) (by k_asm) (Upd.head (by assumption)) ?_ (by assumption); intro h' F' N'))
local macro_rules | `(tactic| walk_at "compareOp NotIn str ref") => `(tactic| (k_here; refine notin_list_strs (News.isList (by assumption) (.head _)) (by assumption) ?_))
theorem strs_at {vs : List Value} {css : List (List Nat)} (hS : StrsAre vs (css.map S)) {v : Value} (hv : v ∈ vs) : ∃ cs t, cs ∈ css ∧ v = .str (S cs) t := by
  obtain ⟨i, hi⟩ := List.mem_iff_getElem?.mp hv
  obtain ⟨y, t, rfl, hy⟩ := hS.item i v hi
  rw [List.getElem?_map] at hy
  cases hc : css[i]? with
  | none => rw [hc] at hy; cases hy
  | some cs =>
    rw [hc] at hy
    cases hy
    exact ⟨cs, t, List.mem_of_getElem? hc, rfl⟩
/-- an element's text is what g makes of the item's -/
def ByText (g : List Nat → List Nat) (v y : Value) : Prop := ∀ cs t, v = .str (S cs) t → ∃ t', y = .str (S (g cs)) t'
theorem byText_strs {g : List Nat → List Nat} : ∀ {vs ys : List Value} {css : List (List Nat)}, StrsAre vs (css.map S) → Paired (ByText g) vs ys → StrsAre ys ((css.map g).map S)
  | _, _, [], h, p => by
    have := StrsAre.nil_inv (by simpa using h)
    subst this
    cases p
    exact .nil
  | _, _, c :: cs, h, p => by
    obtain ⟨t, vs', rfl, h'⟩ := StrsAre.cons_inv (by simpa using h)
    cases p with
    | cons hx hr =>
      obtain ⟨t', rfl⟩ := hx c t rfl
      exact .cons _ _ (byText_strs (by simpa using h') hr)
theorem shown_call {w p loose mean mg mb dp un fr gd s} {Q E : Value → Shared → Prop} {l : Addr} {vs : List Value} {css : List (List Nat)} {n : Int} {t1 : Tok}
   (G : Gd w p loose mean mg mb s.heap) (hroom : dp + 2 < recursionLimit) (hl : s.heap.IsList l vs.toArray) (hS : StrsAre vs (css.map S)) (hlen : css.length ≤ 1000) (hlens : ∀ cs ∈ css, cs.length ≤ 1000)
   (h : ∀ t h' tk', (∀ b o, s.heap.get? b = some o → h'.get? b = some o) → Q (.int (uniq (css.map (cramL · n))).length t) { s with heap := h', toks := tk' }) :
   wpAny (model PySem.Challenge.rw_ph0064_01.row.prog w) (Ar dp un fr gd) (call (.ref 79) [.ref l, .int n t1]) Q E s := by
  obtain ⟨X, T⟩ := G
  w_on
  revert X; k_fill; intro X
  refine enterC (binds := [(Str.ofString "texts", .ref l), (Str.ofString "width", .int n t1)]) [] (by dsimp only; omega) (X _ _ (by k_is)) rfl T.nolimit (codeRec_of X (by k_is)) (kp_binds X (fun _ => rfl)) rfl (by decide +kernel) ?_
  intro h₁ tk cells F N Y hk₁
  change Fr s.heap _ _ _ at F
  change News s.heap _ _ _ at N
  obtain ⟨o, rfl, hd1⟩ := CellsAre.one Y
  clear Y
  walk_at "mine go"
  rename Fr _ _ _ _ => F'
  rename News _ _ _ _ => N'
  rename Addr => D
  refine For_invV s.heap rfl rfl ?_
  refine lc_list (ByText (cramL · n)) rfl (cl := [(Str.ofString "width", s.heap.objs.size + 1)]) rfl (by decide) rfl (by decide) rfl ?_
  walk_at "mine go"
  refine ⟨l, vs, rfl, stays_list F'.keep hl, ?_, ?_, ?_⟩
  · rw [hS.length, List.length_map, sizeLine_eq]; omega
  · intro C v s₃ m₃ E' hv F₃ hm₃
    obtain ⟨cs, t, hcs, rfl⟩ := strs_at hS hv
    have hc := (N' _ (.tail _ (.head _))).1
    have X3 := X.keeps F'.keep
    have T3 := T.keeps F'.keep
    walk_at "mine go"
    refine cram_call (Gd.keeps ⟨X3, T3⟩ F₃.keep) (by omega) (hlens cs hcs) ?_
    intro t' h' tk' hk'
    exact ⟨fun cs' t'' e => ⟨t', by rw [S_inj (Value.str.inj e).1]⟩, ⟨_, _, rfl, hk'⟩⟩
  · intro D2 h' tk' ys hD2 hpl hP hk
    have hY := byText_strs hS hP
    obtain ⟨nn, hpl⟩ := hpl
    have F2 := F'.grownK hk
    have N2 := N'.grown hk
    have hne : D2 ≠ s.heap.objs.size := by
      rintro rfl
      obtain ⟨oL, _, _, e, _⟩ := F'.ns
      have hD3 : _ = none := hD2
      rw [e] at hD3; cases hD3
    have hne2 : D ≠ D2 := by
      rintro rfl
      have hD3 : _ = none := hD2
      rw [(N' _ (.head _)).1] at hD3; cases hD3
    have hne3 : s.heap.objs.size + 1 ≠ D := by omega
    clear F' N'
    refine iter_list (J := fun i m news => ∃ ws nw, news = [(D, listOf ws.toArray nw), (s.heap.objs.size + 1, o)] ∧ StrsAre ws ((uniq ((css.map (cramL · n)).take i)).map S) ∧ m (Str.ofString "shown") = some (.ref D)) rfl ⟨_, hpl, rfl, nn, rfl⟩ hne F2 N2 ⟨[], 0, rfl, by simpa [uniq, uniqFrom] using StrsAre.nil, rfl⟩ ?_ ?_
    · rintro i v m₁ news₁ h₂ tk₂ own hi ⟨ws, nw, rfl, hW, e1⟩ hoff hown F₃ N₃
      clear F2 N2
      obtain ⟨y, t, rfl, hy⟩ := hY.item i v hi
      rw [List.getElem?_map] at hy
      obtain ⟨c, hc, rfl⟩ := Option.map_eq_some_iff.mp hy
      have hoffD := hoff _ (.head _)
      have hoffs : ∀ p ∈ (s.heap.objs.size + 1, o) :: own, p.1 ≠ D := by
        intro p hp
        rcases List.mem_cons.mp hp with rfl | hp
        · exact hne3
        · rcases hown p hp with e | e
          · rw [e]; intro q; exact hoffD (by rw [← q]; exact List.mem_singleton.mpr rfl)
          · rw [e]; exact Ne.symm hne2
      have N₄ : News s.heap s.heap.objs.size h₂ ((D, listOf ws.toArray nw) :: (s.heap.objs.size + 1, o) :: own) := fun p hp => N₃ p (by
        rcases List.mem_cons.mp hp with rfl | hp
        · exact List.mem_append_right _ (.head _)
        · rcases List.mem_cons.mp hp with rfl | hp
          · exact List.mem_append_right _ (.tail _ (.head _))
          · exact List.mem_append_left _ hp)
      clear N₃
      have hws : ws.length ≤ 1000 := by
        rw [hW.length, List.length_map]
        have := uniq_len ((css.map (cramL · n)).take i)
        rw [List.length_take, List.length_map] at this
        omega
      have hsz : ws.toArray.size ≤ sizeLine := by rw [List.size_toArray, sizeLine_eq]; omega
      have hmem : ((uniq ((css.map (cramL · n)).take i)).map S).any (fun x => x == S c) = decide (c ∈ uniq ((css.map (cramL · n)).take i)) := by
        rw [Bool.eq_iff_iff, List.any_eq_true, decide_eq_true_eq]
        constructor
        · rintro ⟨x, hx, hxe⟩
          obtain ⟨z, hz, rfl⟩ := List.mem_map.mp hx
          rw [← S_inj (eq_of_beq hxe)]; exact hz
        · intro hz
          exact ⟨S c, List.mem_map_of_mem hz, by simp⟩
      have back : ∀ {h' : Heap} {o' : Obj}, News s.heap s.heap.objs.size h' ((D, o') :: (s.heap.objs.size + 1, o) :: own) → News s.heap s.heap.objs.size h' (own ++ [(D, o'), (s.heap.objs.size + 1, o)]) := fun N p hp => N p (by
        rcases List.mem_append.mp hp with hp | hp
        · exact .tail _ (.tail _ hp)
        · rcases List.mem_cons.mp hp with rfl | hp
          · exact .head _
          · rw [List.mem_singleton.mp hp]; exact .tail _ (.head _))
      have offs2 : ∀ (o' : Obj), ∀ p ∈ [(D, o'), (s.heap.objs.size + 1, o)], p.1 ∉ [h'.objs.size] := by
        intro o' p hp
        rcases List.mem_cons.mp hp with rfl | hp
        · exact hoffD
        · rw [List.mem_singleton.mp hp]; exact hoff _ (.tail _ (.head _))
      walk_at "mine go"
      · rename (List.any _ _) = true => hin
        rw [hmem, decide_eq_true_eq] at hin
        refine LoopStepU.intro (news₂ := [(D, listOf ws.toArray nw), (s.heap.objs.size + 1, o)]) F₃ (back N₄) (offs2 _) ⟨ws, nw, rfl, ?_, e1⟩
        rw [uniq_take hc, if_pos hin]; exact hW
      · rename (List.any _ _) = false => hin
        rw [hmem, decide_eq_false_iff_not] at hin
        show wpAny _ _ (call (Value.builtin "list.append") [Value.ref D, Value.str (S c) t]) _ _ _
        refine append_K F₃ N₄ (Upd.head hoffs) ?_ hsz
        intro h₅ F₅ N₅
        walk_at "mine go"
        rw [List.push_toArray] at N₅
        refine LoopStepU.intro (news₂ := [(D, listOf (ws ++ [Value.str (S c) t]).toArray (nw + 1)), (s.heap.objs.size + 1, o)]) F₅ (back N₅) (offs2 _) ⟨_, _, rfl, ?_, e1⟩
        rw [uniq_take hc, if_neg hin, List.map_append]
        exact hW.append' (.cons _ _ .nil)
    · rintro m₁ news₁ h₂ tk₂ ⟨ws, nw, rfl, hW, e1⟩ F₃ N₃
      clear F2 N2
      have hws : ws.length ≤ 1000 := by
        rw [hW.length, List.length_map]
        have := uniq_len ((css.map (cramL · n)).take ys.length)
        rw [List.length_take, List.length_map] at this
        omega
      walk_at "mine go"
      refine len_list (News.isList N₃ (.head _)) (by rw [List.size_toArray]; omega) ?_
      walk_at "mine go"
      have hyl : ys.length = (css.map (cramL · n)).length := by rw [hY.length, List.length_map]
      have e3 : ws.toArray.size = (uniq (css.map (cramL · n))).length := by
        rw [List.size_toArray, hW.length, List.length_map, hyl, List.take_length]
      rw [e3]
      exact h _ _ _ F₃.keep
end Mine
namespace Mine
section
variable {w : World} {prog : Program} {A : Around} {s : Shared} {Q E : Value → Shared → Prop} {name qual : Str} {params : Arguments} {body : Expr} {scope : Scope} {cl : List (Str × Addr)} {pm ctv : Value} {c' f : Addr} {x : Str} {v : Value}
/-- a call of a lambda whose one parameter is a cell -/
theorem enterLam (hroom : A.depth < recursionLimit) (ho : s.heap.get? f = some (kla_obj name qual params body scope cl pm c' ctv)) (hlim : s.heap.NoLimit) (hcd : s.heap.CodeRec (.ref c') qual)
    (hbind : bindArgs (kla_fn name qual params body scope cl pm (.ref c') ctv) ⟨[v], []⟩ = pure [(x, v)])
    (hcf : ∀ n acc, cellsFrom n scope.names acc = (x, n) :: acc) (hpc : ∀ h, pushCells h scope.names = h.push { cls := .type "cell", data := .cell none })
    (hx : scope.names.lookup x = some .cell)
    (h : ∀ h₁ o, (∀ b o, s.heap.get? b = some o → h₁.get? b = some o) → Fr s.heap s.heap.objs.size h₁ (fun _ => none) → h₁.get? (s.heap.objs.size + 1) = some o → o.data = .cell (some v) →
      wpAny (model prog w) (A.deeper (envX qual scope s.heap.objs.size f (.ref c') ((x, s.heap.objs.size + 1) :: cl))) (eval body (envX qual scope s.heap.objs.size f (.ref c') ((x, s.heap.objs.size + 1) :: cl)))
        Q (fun _ _ => False) { s with heap := h₁ })
    (hco : scope.isCoroutine = false := by rfl) (hgen : scope.isGenerator = false := by rfl) (hk : scope.kind = .function := by rfl) : wpAny (model prog w) A (call (.ref f) [v]) Q E s := by
  refine wpAny_call ?_
  refine kla_callFunE hroom ho rfl hco hgen rfl hcd ?_
  rw [hbind]
  refine wpAny_pure ?_
  simp only [newFunctionEnv, Option.isSome_none, Bool.false_eq_true, if_false]
  refine wpAny_bind (wpAny_alloc ?_)
  refine wpAny_bind (wpAny_layCells _ (fun name kind cells => by cases kind == NameKind.cell <;> simp) _ _ _ _ ?_)
  dsimp only
  rw [hcf, hpc, Heap.size_push]
  generalize hH1 : s.heap.push { cls := .type "frame", data := .dict #[] } = H1
  have sz1 : H1.objs.size = s.heap.objs.size + 1 := by rw [← hH1, Heap.size_push]
  have k1 : ∀ b o, s.heap.get? b = some o → H1.get? b = some o := fun b o e => hH1 ▸ Heap.get?_push_of_some _ e
  have ns1 : H1.Ns s.heap.objs.size (fun _ => none) := hH1 ▸ Heap.Ns.new s.heap (.type "frame")
  rw [List.forIn_cons]
  refine wpAny_bind (wpAny_bind (wpAny_bind ?_))
  refine wpAny_storeName_cell (c := s.heap.objs.size + 1) (v₀ := none) hk hx (by simp) ⟨_, by rw [← sz1]; exact Heap.get?_push_size _ rfl, rfl⟩ fun h' hv hs => ?_
  refine wpAny_pure (wpAny_pure (wpAny_pure ?_))
  obtain ⟨o, ho', hd'⟩ := hv
  have hL : s.heap.objs.size ≠ s.heap.objs.size + 1 := by omega
  have k2 : ∀ b o, s.heap.get? b = some o → h'.get? b = some o := fun b o e => hs.extBut b o (Nat.ne_of_lt (Nat.lt_succ_of_lt (Heap.lt_size e))) (Heap.get?_push_of_some _ (k1 b o e))
  refine ⟨hlim.keeps k2, ?_⟩
  show codeAny _ _ (.expr body (envX qual scope s.heap.objs.size f (.ref c') ((x, s.heap.objs.size + 1) :: cl))) _ _
  exact kla_codeExpr (wpAny_mono (h h' o k2 ⟨(ns1.push _).sameBut hs hL, k2, Nat.le_refl _⟩ ho' hd') (fun _ _ q => q) fun _ _ q => q.elim)
end
/-- the table of inner code: nothing yet, or the one lambda's -/
def TabSt (h : Heap) (P : Addr) (line col : Nat) (qual : Str) : Prop :=
  h.get? P = some (tabObj #[]) ∨ ∃ c', h.get? P = some (tabObj #[rawInt line, rawInt col, .ref c']) ∧ h.CodeRec (.ref c') qual
section
variable {M : Model} {A : Around} {E : Value → Shared → Prop} {s : Shared} {h₀ : Heap} {L a c P : Addr} {m mg mb : Str → Option Value} {cn : Str} {cs : Scope} {ccd : Value} {cl : List (Str × Addr)} {rest : List (Addr × Obj)}
  {p : Program} {loose : List Str} {mean : ExcName → Option Value} {name qual : Str} {params : Arguments} {body : Expr} {scope : Scope} {ps : Array Value} {pos : Pos} {clos : List (Str × Addr)}
theorem lamMake {Q : Value → Shared → Prop} (F : Fr h₀ L s.heap m) (N : News h₀ L s.heap ((P, tabObj ps) :: rest)) (hoff : ∀ q ∈ rest, q.1 ≠ P) (T : Top p loose mean mg mb h₀) (C : CodeHd h₀ c P) (hcd : ccd = .ref c)
    (hps : ps = #[] ∨ ∃ c', ps = #[rawInt pos.line, rawInt pos.col, .ref c'] ∧ h₀.CodeRec (.ref c') ((envX cn cs L a ccd cl).qual ++ "<lambda>"))
    (hdef : defaultsOf params (envX cn cs L a ccd cl) = ([], []))
    (hcl : closureFor scope (envX cn cs L a ccd cl) = pure clos)
    (h : ∀ f c' ctv h' tk extra, Fr h₀ L h' m → News h₀ L h' ((f, kla_obj "<lambda>" ((envX cn cs L a ccd cl).qual ++ "<lambda>") params body scope clos ((mg "__name__").getD .none) c' ctv) :: (P, tabObj #[rawInt pos.line, rawInt pos.col, .ref c']) :: (rest ++ extra)) →
      (∀ h'' m'', Fr h₀ L h'' m'' → News h₀ L h'' extra → h''.CodeRec (.ref c') ((envX cn cs L a ccd cl).qual ++ "<lambda>")) → (∀ q ∈ rest, q.1 < f) → P < f → Q (.ref f) { s with heap := h', toks := tk }) :
    wpAny M A (eval (.Lambda params body scope pos) (envX cn cs L a ccd cl)) Q E s := by
  refine kla_eval hdef ?_
  rcases hps with rfl | ⟨c₀, rfl, hcr⟩
  · refine kla_nest F N T C hcd (UpdF.head hoff) trivial rfl hcl ?_
    intro f c' oc vs t ctv h' tk F' N' hd hv hlt hlt2
    refine h f c' ctv h' tk [(c', oc)] F' (fun q hq => N' q ?_) (fun h'' m'' _ N'' => ⟨c', oc, vs, t, rfl, (N'' (c', oc) (.head _)).1, hd, hv⟩) (fun q hq => Nat.lt_trans (hlt q (.tail _ hq)) hlt2) (Nat.lt_trans (hlt _ (.head _)) hlt2)
    rcases List.mem_cons.mp hq with rfl | hq
    · exact .head _
    · rcases List.mem_cons.mp hq with rfl | hq
      · exact .tail _ (.tail _ (.head _))
      · rcases List.mem_append.mp hq with hq | hq
        · exact .tail _ (.tail _ (.tail _ hq))
        · rw [List.mem_singleton.mp hq]; exact .tail _ (.head _)
  · refine kla_hit (c' := c₀) F N T C hcd (.head _) trivial (by simp [codeAmong, rawInt]) hcl ?_
    intro f ctv h' tk F' N' hlt
    exact h f c₀ ctv h' tk [] F' (by rw [List.append_nil]; exact N') (fun h'' m'' F'' _ => hcr.keeps F''.keep) (fun q hq => hlt q (.tail _ hq)) (hlt _ (.head _))
end
end Mine
namespace Mine
local macro_rules | `(tactic| walk_at "mine none") => `(tactic| skip)
local macro_rules | `(tactic| walk_at "mine none") => `(tactic| skip)
local macro_rules | `(tactic| walk_at "mine go") => `(tactic| repeat' (first
  | (k_unfold; (try dsimp only))
  | ((fail_if_success (with_reducible show wpAny _ _ (exec (Stmt.While _ _ _ _) _) _ _ _)); (fail_if_success (with_reducible show wpAny _ _ (exec (Stmt.For _ _ _ _ _) _) _ _ _)); (fail_if_success (with_reducible show wpAny _ _ (call (Value.ref _) _ _) _ _ _)); (fail_if_success (with_reducible show wpAny _ _ (pyIter _) _ _ _)); (fail_if_success (with_reducible show wpAny _ _ (eval (Expr.ListComp _ _ _ _) _) _ _ _)); (fail_if_success (with_reducible show wpAny _ _ (eval (Expr.Lambda _ _ _ _) _) _ _ _)); (fail_if_success (with_reducible show Exists _)); first | walk1 | (dsimp only; walk1) | (leave1; walk_say "STEP leave1"; try dsimp only))))
local macro_rules | `(tactic| walk_at "eval Name") => `(tactic| (k_here; k_dflt (refine' nameX_L ?F ?v ?_ ?a ?b; (case F => k_asm); (case a => rfl); (case b => rfl); (case v => first | exact rfl | assumption); k_whole)))
local macro_rules | `(tactic| walk_at "eval Name") => `(tactic| (k_here; (with_reducible show wpAny _ _ (eval (Expr.Name _ _) (compEnvC _ _ _ _)) _ _ _); k_dflt (first
  | (refine' nameC_L ?F ?v ?_ ?a ?b; (case a => rfl); (case b => rfl); (case F => k_asm); (case v => first | exact rfl | assumption); k_whole)
  | (refine' nameC_C ?F ?c ?o ?d ?_ ?a ?b; (case a => rfl); (case b => rfl); (case F => k_asm); (case c => rfl); (case o => assumption); (case d => assumption); k_whole)
  | (refine' nameC_F ?F ?c ?o ?d ?_ ?a ?b; (case a => rfl); (case b => rfl); (case F => k_asm); (case c => rfl); (case o => assumption); (case d => assumption); k_whole)
  | (refine' nameC_K ?F ?X ?T ?e ?_ ?g ?a ?b; (case a => rfl); (case b => rfl); (case F => k_asm); (case X => k_asm); (case T => k_asm); (case e => k_is); (case g => rfl); k_whole)
  | (refine' nameC_B ?F ?X ?T ?e ?v ?n ?_ ?g ?h ?a ?b; (case a => rfl); (case b => rfl); (case F => k_asm); (case X => k_asm); (case T => k_asm); (case e => k_is); (case v => boot_fast); (case n => decide); (case g => rfl); (case h => rfl); k_whole))))
local macro_rules | `(tactic| walk_at "execs cons") => `(tactic| ((with_reducible refine wpAny_execs_cons ?_); try dsimp only))
local macro_rules | `(tactic| walk_at "execs nil") => `(tactic| ((with_reducible refine wpAny_execs_nil ?_); try dsimp only))
theorem nameX_Fb {M : Model} {A : Around} {E : Value → Shared → Prop} {s : Shared} {h₀ : Heap} {L a c : Addr} {m : Str → Option Value} {cn : Str} {cs : Scope} {ccd : Value} {cl : List (Str × Addr)} {x : Str} {pos : Pos} {v : Value} {o : Obj} {Q : Value → Shared → Prop}
    (F : Fr h₀ L s.heap m) (hc : cl.lookup x = some c) (ho : h₀.get? c = some o) (hd : o.data = .cell (some v)) (h : Q v s)
    (hk : cs.kind = .function) (hx : (envX cn cs L a ccd cl).kindOf x = some .free) (hb : (x == ("__debug__" : Str)) = false := by decide) (hn : (x == ("__classdict__" : Str)) = false := by decide) :
    wpAny M A (eval (.Name x pos) (envX cn cs L a ccd cl)) Q E s := wpAny_Name (wpAny_loadName_free hk hx hc ⟨o, F.keep _ _ ho, hd⟩ h hn) hb
local macro_rules | `(tactic| walk_at "eval Name") => `(tactic| (k_here; k_dflt (refine' nameX_Fb ?F ?c ?o ?d ?_ ?a ?b; (case a => rfl); (case b => rfl); (case F => k_asm); (case c => rfl); (case o => assumption); (case d => assumption); k_whole)))
local macro_rules | `(tactic| walk_at "subscriptTail Name Name ref int") => `(tactic| (k_here; (with_reducible show wpAny _ _ (subscriptTail _ _ (Value.ref _) (Value.int _ _)) _ _ _); refine item_list (stays_list (Fr.keep (by assumption)) (by assumption)) (by omega) (by omega) (by assumption) ?_))
theorem tab_ps {h : Heap} {P : Addr} {line col : Nat} {qual : Str} (x : TabSt h P line col qual) : ∃ ps, h.get? P = some (tabObj ps) ∧ (ps = #[] ∨ ∃ c', ps = #[rawInt line, rawInt col, .ref c'] ∧ (hideAll h [P]).CodeRec (.ref c') qual) := by
  rcases x with e | ⟨c', e, c, oc, vs, t, e1, e2, e3, e4⟩
  · exact ⟨_, e, .inl rfl⟩
  · refine ⟨_, e, .inr ⟨c', rfl, c, oc, vs, t, e1, hideAll_get _ e2 ?_, e3, e4⟩⟩
    intro hm
    rw [List.mem_singleton.mp hm, e] at e2
    cases e2
    cases e3
    cases e4
theorem list_hide {h : Heap} {P l : Addr} {ps : Array Value} {items : Array Value} (x : h.IsList l items) (hP : h.get? P = some (tabObj ps)) : (hideAll h [P]).IsList l items := by
  obtain ⟨o, e, hc, r⟩ := x
  refine ⟨o, hideAll_get _ e ?_, hc, r⟩
  intro hm
  rw [List.mem_singleton.mp hm, hP] at e
  cases e
  cases hc
theorem found_call {w p loose mean mg mb dp un fr gd s h₀} {Q E : Value → Shared → Prop} {tl wl : Addr} {vs ws : List Value} {css : List (List Nat)} {ns : List Int} {k : Nat} {t1 : Tok}
   (G : Gd w p loose mean mg mb h₀) (hk0 : ∀ b o, h₀.get? b = some o → s.heap.get? b = some o) (h69 : h₀.get? 69 = none) (CH : CodeHd h₀ 73 69)
   (TS : TabSt s.heap 69 88 13 (Str.ofString "_law_found.<locals>.<lambda>")) (hroom : dp + 4 < recursionLimit)
   (hl : s.heap.IsList tl vs.toArray) (hS : StrsAre vs (css.map S)) (hlen : css.length ≤ 1000) (hlens : ∀ cs ∈ css, cs.length ≤ 1000)
   (hwl : s.heap.IsList wl ws.toArray) (hW : IntsAre ws ns) (hwlen : ns.length ≤ 1000) (hk : k < css.length)
   (hfall : Falls (fun y => decide (unl css k y < 1)) ns)
   (h : ∀ t h' tk', (∀ b o, b ≠ 69 → s.heap.get? b = some o → h'.get? b = some o) → TabSt h' 69 88 13 (Str.ofString "_law_found.<locals>.<lambda>") → Q (.int (ns.countP (fun y => decide (unl css k y < 1)) : Nat) t) { s with heap := h', toks := tk' }) :
   wpAny (model PySem.Challenge.rw_ph0064_01.row.prog w) (Ar dp un fr gd) (call (.ref 74) [.ref tl, .ref wl, .int k t1]) Q E s := by
  obtain ⟨X, T⟩ := G.keeps hk0
  have ne69 : ∀ {b o}, h₀.get? b = some o → b ∉ [69] := fun {b o} e hb => by rw [List.mem_singleton.mp hb, h69] at e; cases e
  have G' : Gd w p loose mean mg mb (hideAll s.heap [69]) := G.keeps fun b o e => hideAll_get _ (hk0 b o e) (ne69 e)
  have CH' : CodeHd (hideAll s.heap [69]) 73 69 := CH.keeps fun b o e => hideAll_get _ (hk0 b o e) (ne69 e)
  obtain ⟨X0, T0⟩ := G'
  w_on
  revert X; k_fill; intro X
  refine enterC (binds := [(Str.ofString "texts", .ref tl), (Str.ofString "widths", .ref wl), (Str.ofString "k", .int k t1)]) [69] (by dsimp only; omega) (X _ _ (by k_is)) rfl T.nolimit (codeRec_of X (by k_is)) (kp_binds X (fun _ => rfl)) rfl (by decide +kernel) ?_
  intro h₁ tk cells F N Y hk₁
  obtain ⟨o1, o2, rfl, hd1, hd2⟩ := CellsAre.two Y
  clear Y X T
  have hd1' : o1.data = .cell (some (.int k t1)) := hd1
  have hd2' : o2.data = .cell (some (.ref tl)) := hd2
  clear hd1 hd2
  obtain ⟨ps, hP, hps⟩ := tab_ps TS
  have hL69 : 69 < s.heap.objs.size := Heap.lt_size hP
  have N1 : News (hideAll s.heap [69]) s.heap.objs.size h₁ ((69, tabObj ps) :: [(s.heap.objs.size + 1 + 1, o1), (s.heap.objs.size + 1, o2)]) := by
    intro q hq
    rcases List.mem_cons.mp hq with rfl | hq
    · exact ⟨hk₁ _ _ hP, Nat.ne_of_lt hL69, hideAll_none _ (by simp)⟩
    · exact N q hq
  clear N
  have hl0 := list_hide hl hP
  have hwl0 := list_hide hwl hP
  walk_at "mine go"
  refine lamMake F N1 ?_ T0 CH' rfl hps rfl rfl ?_
  · intro q hq
    rcases List.mem_cons.mp hq with rfl | hq
    · show s.heap.objs.size + 1 + 1 ≠ 69; omega
    · rw [List.mem_singleton.mp hq]; show s.heap.objs.size + 1 ≠ 69; omega
  intro f c' ctv h₂ tk₂ extra F₂ N₂ hcr hlt hlt2
  walk_at "mine go"
  rename Fr _ _ _ _ => F7
  rename News _ _ _ _ => N7
  rename Heap => h₇
  change News _ _ _ ((f, _) :: (69, _) :: (s.heap.objs.size + 1 + 1, o1) :: (s.heap.objs.size + 1, o2) :: extra) at N7
  have hcr7 := hcr _ _ F7 (fun q hq => N7 q (.tail _ (.tail _ (.tail _ (.tail _ hq)))))
  have hl2 := stays_list F7.keep hl0
  have hwl2 := stays_list F7.keep hwl0
  have hfo := (N7 _ (.head _)).1
  have htab := (N7 _ (.tail _ (.head _))).1
  have ho1 := (N7 _ (.tail _ (.tail _ (.head _)))).1
  have ho2 := (N7 _ (.tail _ (.tail _ (.tail _ (.head _))))).1
  obtain ⟨tv, hvk0⟩ : ∃ tv, vs.toArray[(k : Int).toNat]? = some (.str (S (css.getD k [])) tv) := by
    obtain ⟨tv, e⟩ := hS.get k (S (css.getD k [])) (by rw [List.getElem?_map, List.getElem?_eq_getElem hk, List.getD_eq_getElem?_getD, List.getElem?_eq_getElem hk]; rfl)
    exact ⟨tv, by simpa using e⟩
  have key : KeyIs w gd (dp + 2) (un + 6) h₇ f ns (unl css k) := by
    intro j t fr' s' Q' E' hj hk' hQ'
    obtain ⟨X', T'⟩ : Gd w p loose mean mg mb s'.heap := (Gd.keeps ⟨X0, T0⟩ F7.keep).keeps hk'
    refine enterLam (x := Str.ofString "width") (by dsimp only; omega) (hk' _ _ hfo) T'.nolimit (hcr7.keeps hk') rfl (fun _ _ => rfl) (fun _ => rfl) rfl ?_
    intro h₃ ow hk₃ F₃ how hdw
    have N₃ : News s'.heap s'.heap.objs.size h₃ [(s'.heap.objs.size + 1, ow)] := by
      intro q hq
      rw [List.mem_singleton.mp hq]
      exact ⟨how, by show s'.heap.objs.size + 1 ≠ _; omega, Heap.get?_none_of_le (by show _ ≤ s'.heap.objs.size + 1; omega)⟩
    have hl3 := stays_list hk' hl2
    have ho13 := hk' _ _ ho1
    have ho23 := hk' _ _ ho2
    have hvk : vs.toArray[(k : Int).toNat]? = some (.str (S (css.getD k [])) tv) := hvk0
    walk_at "mine go"
    have hck : (css.getD k []).length ≤ 1000 := by
      apply hlens
      rw [List.getD_eq_getElem?_getD, List.getElem?_eq_getElem hk]; exact List.getElem_mem hk
    refine cram_call (Gd.keeps ⟨X', T'⟩ F₃.keep) (by omega) hck ?_
    intro t4 h4 tk4 hk4
    have F4 := F₃.grownK hk4
    have N4 := N₃.grown hk4
    clear F₃ N₃
    walk_at "mine go"
    refine lc_list (ByText (cramL · j)) rfl (cl := [(Str.ofString "width", s'.heap.objs.size + 1)]) rfl (by decide) rfl (by decide) rfl ?_
    walk_at "mine go"
    rename Fr _ _ _ _ => F5
    rename News _ _ _ _ => N5
    have hpick : slicePick vs.toArray none (some (k : Int)) none = (vs.take k).toArray := by
      rw [slicePick_upto']
    rw [hpick] at N5
    have hS5 : StrsAre (vs.take k) ((css.take k).map S) := by rw [List.map_take]; exact hS.take' k
    refine ⟨_, vs.take k, rfl, News.isList N5 (.head _), ?_, ?_, ?_⟩
    · rw [List.length_take, hS.length, List.length_map, sizeLine_eq]; omega
    · intro C v s₆ m₆ E6 hv F₆ hm₆
      obtain ⟨cs, tc, hcs, rfl⟩ := strs_at hS5 hv
      have hc := (N5 _ (.tail _ (.head _))).1
      have X6 := X'.keeps F5.keep
      have T6 := T'.keeps F5.keep
      walk_at "mine go"
      refine cram_call (Gd.keeps ⟨X6, T6⟩ F₆.keep) (by omega) (hlens cs (List.mem_of_mem_take hcs)) ?_
      intro t7 h7 tk7 hk7
      exact ⟨fun cs' t'' e => ⟨t7, by rw [S_inj (Value.str.inj e).1]⟩, ⟨_, _, rfl, hk7⟩⟩
    · intro D6 h6 tk6 ys hD6 hpl hP6 hk6
      have hY := byText_strs hS5 hP6
      obtain ⟨nn, hpl⟩ := hpl
      have F6 := F5.grownK hk6
      clear F4 N4 F5 N5
      refine in_list_strs (ys := (((css.take k).map (cramL · j)).map S)) ⟨_, hpl, rfl, nn, rfl⟩ hY ?_
      have hmem : (((css.take k).map (cramL · j)).map S).any (fun x => x == S (cramL (css.getD k []) j)) = decide (cramL (css.getD k []) j ∈ (css.take k).map (cramL · j)) := by
        rw [Bool.eq_iff_iff, List.any_eq_true, decide_eq_true_eq]
        constructor
        · rintro ⟨x, hx, hxe⟩
          obtain ⟨z, hz, rfl⟩ := List.mem_map.mp hx
          rw [← S_inj (eq_of_beq hxe)]; exact hz
        · intro hz
          exact ⟨S _, List.mem_map_of_mem hz, by simp⟩
      rw [hmem]
      have hQ6 : ∀ (t' : Tok) (tk' : Nat), Q' (.int (unl css k j) t') { s' with heap := h6, toks := tk' } := fun t' tk' => hQ' t' h6 tk' F6.keep
      unfold unl at hQ6
      by_cases hb : cramL (css.getD k []) j ∈ (css.take k).map (cramL · j)
      · rw [decide_eq_true hb]
        rw [if_pos hb] at hQ6
        walk_at "mine go"
        exact hQ6 _ _
      · rw [decide_eq_false hb]
        rw [if_neg hb] at hQ6
        walk_at "mine go"
        exact hQ6 _ _
  refine bisL_call (Gd.keeps ⟨X0, T0⟩ F7.keep) (by show dp + 1 + 1 < recursionLimit; omega) hwl2 hW hwlen hfall ⟨_, _, _, _, hfo⟩ key ?_
  intro t8 h8 tk8 hk8
  walk_at "mine go"
  refine h _ _ _ (fun b o hb e => hk8 b o (F7.keep b o (hideAll_get _ e (by simpa using hb)))) (.inr ⟨c', hk8 _ _ htab, hcr7.keeps hk8⟩)
end Mine
namespace Mine
/-- a code object -/
def IsCodeO (o : Obj) : Prop := ∃ vs q t, o.data = .fields vs ∧ vs[1]? = some (.str q t)
section
variable {prog : Program} {w : World} {A : Around} {E : Value → Shared → Prop} {s : Shared} {env : Env} {h₀ : Heap} {x : Str} {c : Addr} {body : List Stmt} {Q : Flow → Shared → Prop}
/-- the end of a turn of a loop whose target is a cell -/
def StepC (h₀ : Heap) (L c : Addr) (wr : List Addr) (own : List (Addr × Obj)) (Jn : (Str → Option Value) → List (Addr × Obj) → Prop) (s₁ : Shared) (Q : Flow → Shared → Prop) (f : Flow) (s' : Shared) : Prop :=
  match f with
  | .ret v => Q (.ret v) s'
  | .brk => Q .next s'
  | _ => ∃ h' tk' m₂ rest₂ oc₂, s' = { s₁ with heap := h', toks := tk' } ∧ Fr h₀ L h' m₂ ∧ News h₀ L h' ((c, oc₂) :: (rest₂ ++ own)) ∧ (∃ v, oc₂.data = .cell v) ∧ (∀ p ∈ rest₂, p.1 ∉ wr ∧ p.1 ≠ c) ∧ Jn m₂ rest₂
theorem StepC.next {L : Addr} {wr : List Addr} {own : List (Addr × Obj)} {Jn : (Str → Option Value) → List (Addr × Obj) → Prop} {s₁ : Shared} {h' : Heap} {tk' : Nat} {m₂ : Str → Option Value} {rest₂ : List (Addr × Obj)} {oc₂ : Obj} {v : Option Value}
    (F : Fr h₀ L h' m₂) (N : News h₀ L h' ((c, oc₂) :: (rest₂ ++ own))) (hd : oc₂.data = .cell v) (off : ∀ p ∈ rest₂, p.1 ∉ wr ∧ p.1 ≠ c) (hJ : Jn m₂ rest₂) :
    StepC h₀ L c wr own Jn s₁ Q .next { s₁ with heap := h', toks := tk' } := ⟨h', tk', m₂, rest₂, oc₂, rfl, F, N, ⟨v, hd⟩, off, hJ⟩
def LoopAtC (prog : Program) (w : World) (A : Around) (h₀ : Heap) (env : Env) (c : Addr) (body : List Stmt) (Q : Flow → Shared → Prop) (E : Value → Shared → Prop) (it : Value) (s₂ : Shared) : Prop :=
  ∃ (I : Addr) (fp wr : List Addr) (n : Nat) (P : Nat → Value → Prop) (St : Nat → Heap → Prop) (m : Str → Option Value) (oc : Obj) (rest : List (Addr × Obj)) (J : Nat → (Str → Option Value) → List (Addr × Obj) → Prop),
    it = .ref I ∧ Walks prog w A I fp wr n P St ∧ env.locals ∉ fp ∧ c ∉ fp ∧ (∀ b ∈ wr, h₀.get? b = none) ∧ (∀ p ∈ rest, p.1 ∉ wr ∧ p.1 ≠ c) ∧ St 0 s₂.heap ∧ Fr h₀ env.locals s₂.heap m ∧ News h₀ env.locals s₂.heap ((c, oc) :: rest) ∧ (∃ v, oc.data = .cell v) ∧ J 0 m rest ∧
    (∀ i v m₁ rest₁ h tk oc₁ own, i < n → P i v → J i m₁ rest₁ → (∀ p ∈ rest₁, p.1 ∉ wr ∧ p.1 ≠ c) → (∀ p ∈ own, p.1 ∈ fp) → (∀ b ∈ fp, h₀.get? b = none → ∀ o, h.get? b = some o → (b, o) ∈ own) → St (i + 1) h → oc₁.data = .cell (some v) → Fr h₀ env.locals h m₁ → News h₀ env.locals h ((c, oc₁) :: (rest₁ ++ own)) →
      wpAny (model prog w) A (execs body env) (StepC h₀ env.locals c wr own (J (i + 1)) { s₂ with heap := h, toks := tk } Q) E { s₂ with heap := h, toks := tk }) ∧
    ∀ h' tk m' oc' rest', Fr h₀ env.locals h' m' → News h₀ env.locals h' ((c, oc') :: rest') → (∃ v, oc'.data = .cell v) → (∀ p ∈ rest', p.1 ≠ c) → J n m' rest' → Q .next { s₂ with heap := h', toks := tk }
theorem codeAny_forLoop_cell {R : Result → Shared → Prop} {px : Pos} {I : Addr} {fp wr : List Addr} {n : Nat} {P : Nat → Value → Prop} {St : Nat → Heap → Prop} {m : Str → Option Value} {oc : Obj}
    {rest : List (Addr × Obj)} (W : Walks prog w A I fp wr n P St) (hk : env.scope.kind = .function) (hx : env.kindOf x = some .cell) (hc : env.cells.lookup x = some c)
    (hLf : env.locals ∉ fp) (hcf : c ∉ fp) (hwr : ∀ b ∈ wr, h₀.get? b = none) (hoff : ∀ p ∈ rest, p.1 ∉ wr ∧ p.1 ≠ c)
    (hst : St 0 s.heap) (F : Fr h₀ env.locals s.heap m) (N : News h₀ env.locals s.heap ((c, oc) :: rest)) (hd : ∃ v, oc.data = .cell v)
    (J : Nat → (Str → Option Value) → List (Addr × Obj) → Prop) (h0 : J 0 m rest)
    (step : ∀ i v m₁ rest₁ h tk oc₁ own, i < n → P i v → J i m₁ rest₁ → (∀ p ∈ rest₁, p.1 ∉ wr ∧ p.1 ≠ c) → (∀ p ∈ own, p.1 ∈ fp) → (∀ b ∈ fp, h₀.get? b = none → ∀ o, h.get? b = some o → (b, o) ∈ own) → St (i + 1) h → oc₁.data = .cell (some v) → Fr h₀ env.locals h m₁ → News h₀ env.locals h ((c, oc₁) :: (rest₁ ++ own)) →
      wpAny (model prog w) A (execs body env) (StepC h₀ env.locals c wr own (J (i + 1)) { s with heap := h, toks := tk } (fun f s' => R (.ok f) s')) (notedBy (model prog w) A env fun e s' => R (.error e) s') { s with heap := h, toks := tk })
    (hR : ∀ h' tk m' oc' rest', Fr h₀ env.locals h' m' → News h₀ env.locals h' ((c, oc') :: rest') → (∃ v, oc'.data = .cell v) → (∀ p ∈ rest', p.1 ≠ c) → J n m' rest' → R (.ok .next) { s with heap := h', toks := tk }) :
    codeAny (model prog w) A (.forLoop (.Name x px) (.ref I) body [] env) R s := by
  have hLw : env.locals ∉ wr := fun h => hLf (W.sub _ h)
  have hcw : c ∉ wr := fun h => hcf (W.sub _ h)
  have old : ∀ b o, h₀.get? b = some o → b ∉ wr := fun b o e hb => by rw [hwr b hb] at e; cases e
  refine codeAny_forLoop
    (fun k s' => ∃ h' tk m' oc' rest' i, s' = { s with heap := h', toks := tk } ∧ St i h' ∧ Fr h₀ env.locals h' m' ∧ News h₀ env.locals h' ((c, oc') :: rest') ∧ (∃ v, oc'.data = .cell v) ∧ (∀ p ∈ rest', p.1 ∉ wr ∧ p.1 ≠ c) ∧ J i m' rest' ∧ i ≤ n ∧ k = n + 1 - i) ?_ (n + 1)
    ⟨s.heap, s.toks, m, oc, rest, 0, rfl, hst, F, N, hd, hoff, h0, Nat.zero_le _, rfl⟩
  rintro k s' ⟨h', tk, m', oc', rest', i, rfl, hst', F', N', ⟨v₀, hd'⟩, hoff', hJ, hi, rfl⟩
  have next : ∀ h₁ : Heap, (∀ b o, b ∉ wr → h'.get? b = some o → h₁.get? b = some o) → Fr h₀ env.locals h₁ m' ∧ News h₀ env.locals h₁ ((c, oc') :: rest') := fun h₁ hk₁ =>
    ⟨⟨F'.ns.at' fun o e => hk₁ _ o hLw e, fun b o e => hk₁ b o (old b o e) (F'.keep b o e), F'.above⟩, fun p hp => ⟨hk₁ _ _ (by
      rcases List.mem_cons.mp hp with rfl | hp
      · exact hcw
      · exact (hoff' p hp).1) (N' p hp).1, (N' p hp).2⟩⟩
  by_cases hlt : i < n
  · refine W.item i _ _ _ hlt hst' fun v h₁ tk₁ hP hst₁ hk₁ => ?_
    obtain ⟨F₁, N₁⟩ := next h₁ hk₁
    have hcm := N₁ (c, oc') (.head _)
    refine wpAny_assign_Name (wpAny_storeName_cell hk hx hc ⟨oc', hcm.1, hd'⟩ fun h₂ hv hs₂ => ?_)
    obtain ⟨oc₁, ho₁, hd₁⟩ := hv
    have F₂ : Fr h₀ env.locals h₂ m' := F₁.change hs₂ hcm.2.1 hcm.2.2
    have Nown : News h₀ env.locals h₂ (ownOf h₀ fp h₂) := news_ownOf hLf
    have N₂ : News h₀ env.locals h₂ ((c, oc₁) :: (rest' ++ ownOf h₀ fp h₂)) := by
      intro p hp
      rcases List.mem_cons.mp hp with rfl | hp
      · exact ⟨ho₁, hcm.2⟩
      · rcases List.mem_append.mp hp with hp | hp
        · have z := N₁ p (.tail _ hp)
          exact ⟨hs₂.extBut _ _ (hoff' p hp).2 z.1, z.2⟩
        · exact Nown p hp
    refine wpAny_mono (step i v m' rest' h₂ tk₁ oc₁ (ownOf h₀ fp h₂) hlt hP hJ hoff' ownOf_sub (fun b hb hn o e => mem_ownOf hb hn e) (W.frame _ _ _ hst₁ fun b hb o e => (hs₂.2 b fun q => hcf (q ▸ hb)).trans e) hd₁ F₂ N₂) (fun f s₃ h₃ => ?_) fun _ _ e => e
    have fin : (∃ h' tk' m₂ rest₂ oc₂, s₃ = { s with heap := h', toks := tk' } ∧ Fr h₀ env.locals h' m₂ ∧ News h₀ env.locals h' ((c, oc₂) :: (rest₂ ++ ownOf h₀ fp h₂)) ∧ (∃ v, oc₂.data = .cell v) ∧ (∀ p ∈ rest₂, p.1 ∉ wr ∧ p.1 ≠ c) ∧ J (i + 1) m₂ rest₂) →
        ∃ mm, mm < n + 1 - i ∧ ∃ h' tk m' oc' rest' i, s₃ = { s with heap := h', toks := tk } ∧ St i h' ∧ Fr h₀ env.locals h' m' ∧ News h₀ env.locals h' ((c, oc') :: rest') ∧ (∃ v, oc'.data = .cell v) ∧ (∀ p ∈ rest', p.1 ∉ wr ∧ p.1 ≠ c) ∧ J i m' rest' ∧ i ≤ n ∧ mm = n + 1 - i := by
      rintro ⟨h₃', tk₃, m₂, rest₂, oc₂, rfl, F₃, N₃, hd₃, off₃, hJ₃⟩
      refine ⟨n + 1 - (i + 1), by omega, h₃', tk₃, m₂, oc₂, rest₂, i + 1, rfl, ?_, F₃, fun p hp => N₃ p ?_, hd₃, off₃, hJ₃, hlt, rfl⟩
      · refine W.frame _ _ _ hst₁ fun b hb o e => ?_
        have e₂ : h₂.get? b = some o := (hs₂.2 b fun q => hcf (q ▸ hb)).trans e
        cases hn : h₀.get? b with
        | some o₀ =>
          have : o₀ = o := by have := F₂.keep b o₀ hn; rw [e₂] at this; exact (Option.some.inj this).symm
          exact this ▸ F₃.keep b o₀ hn
        | none => exact (N₃ _ (.tail _ (List.mem_append_right _ (mem_ownOf hb hn e₂)))).1
      · rcases List.mem_cons.mp hp with rfl | hp
        · exact .head _
        · exact .tail _ (List.mem_append_left _ hp)
    cases f with
    | ret v => exact h₃
    | brk => exact h₃
    | cont => exact fin h₃
    | next => exact fin h₃
  · have hin : i = n := by omega
    subst hin
    refine W.done _ _ _ hst' fun h₁ tk₁ hk₁ => wpAny_execs_nil ?_
    obtain ⟨F₁, N₁⟩ := next h₁ hk₁
    exact hR h₁ tk₁ m' oc' rest' F₁ N₁ ⟨v₀, hd'⟩ (fun p hp => (hoff' p hp).2) hJ
theorem For_cell {px pos : Pos} {iter : Expr} (h₀ : Heap) (hk : env.scope.kind = .function) (hx : env.kindOf x = some .cell) (hc : env.cells.lookup x = some c)
    (h : wpAny (model prog w) A (eval iter env) (fun xv s₁ => wpAny (model prog w) A (pyIter xv) (fun it s₂ => LoopAtC prog w A h₀ env c body Q E it s₂) E s₁) E s)
    (hs : ∀ x, foldedSetIterable iter env x = pure x := by intro _; rfl)
    (hE : PassesOwn (model prog w) A env E := by passes_own) :
    wpAny (model prog w) A (exec (.For (.Name x px) iter body [] pos) env) Q E s := by
  refine wpAny_For (wpAny_mono h (fun xv s₁ h₁ => wpAny_mono h₁ (fun it s₂ h₂ => ?_) fun _ _ e => e) fun _ _ e => e) hs
  obtain ⟨I, fp, wr, n, P, St, m, oc, rest, J, rfl, W, hLf, hcf, hwr, hoff, hst, F, N, hd, h0, step, hQ⟩ := h₂
  exact codeAny_forLoop_cell (R := fun r s' => match r with | .ok f => Q f s' | .error e => cameBackBy (model prog w) A env E e s') W hk hx hc hLf hcf hwr hoff hst F N hd J h0 (by intros; exact wpAny_passesOwn hE (by apply step <;> assumption)) hQ
/-- the iterator of a list, for a loop whose target is a cell -/
theorem iterC_list {l : Addr} {vs : List Value} {m₀ : Str → Option Value} {oc : Obj} {rest : List (Addr × Obj)} (J : Nat → (Str → Option Value) → List (Addr × Obj) → Prop)
    (hh : A.handled = none) (hl : s.heap.IsList l vs.toArray) (hlL : l ≠ env.locals) (hlc : l ≠ c) (F : Fr h₀ env.locals s.heap m₀) (N : News h₀ env.locals s.heap ((c, oc) :: rest)) (hd : ∃ v, oc.data = .cell v) (hoff : ∀ p ∈ rest, p.1 ≠ c) (hj : J 0 m₀ rest)
    (turn : ∀ i v m₁ rest₁ h tk oc₁ own, vs[i]? = some v → J i m₁ rest₁ → (∀ p ∈ rest₁, p.1 ∉ [s.heap.objs.size] ∧ p.1 ≠ c) → (∀ p ∈ own, p.1 = s.heap.objs.size ∨ p.1 = l) → (∃ oI, (s.heap.objs.size, oI) ∈ own ∧ ¬ IsCodeO oI) → oc₁.data = .cell (some v) → Fr h₀ env.locals h m₁ → News h₀ env.locals h ((c, oc₁) :: (rest₁ ++ own)) →
      wpAny (model prog w) A (execs body env) (StepC h₀ env.locals c [s.heap.objs.size] own (J (i + 1)) { s with heap := h, toks := tk } Q) E { s with heap := h, toks := tk })
    (done : ∀ h tk m₁ oc₁ rest₁, Fr h₀ env.locals h m₁ → News h₀ env.locals h ((c, oc₁) :: rest₁) → (∃ v, oc₁.data = .cell v) → (∀ p ∈ rest₁, p.1 ≠ c) → J vs.length m₁ rest₁ → Q .next { s with heap := h, toks := tk }) :
    wpAny (model prog w) A (pyIter (.ref l)) (fun it s₂ => LoopAtC prog w A h₀ env c body Q E it s₂) E s := by
  have hlt : l < s.heap.objs.size := by obtain ⟨_, e, _⟩ := hl; exact Heap.lt_size e
  have hct := (N (c, oc) (.head _)).1
  refine wpAny_pyIter_list hl ?_
  refine ⟨s.heap.objs.size, [s.heap.objs.size, l], [s.heap.objs.size], vs.toArray.size, _, _, m₀, oc, rest, J, rfl, Walks.list hh _ l (Nat.ne_of_lt hlt) vs.toArray, ?_, ?_, ?_, ?_, ⟨⟨_, Heap.get?_push_size _ rfl, rfl, rfl⟩, hl.at fun o e => Heap.get?_push_of_some _ e⟩, F.push _, (fun p hp => ⟨Heap.get?_push_of_some _ (N p hp).1, (N p hp).2⟩), hd, hj, ?_, ?_⟩
  · intro hm
    rcases List.mem_cons.mp hm with e | hm
    · exact absurd F.ns.lt (e ▸ Nat.lt_irrefl _)
    · exact hlL (List.mem_singleton.mp hm).symm
  · intro hm
    rcases List.mem_cons.mp hm with e | hm
    · exact absurd (Heap.lt_size hct) (e ▸ Nat.lt_irrefl _)
    · exact hlc (List.mem_singleton.mp hm).symm
  · intro b hb
    rw [List.mem_singleton.mp hb]
    cases e : h₀.get? s.heap.objs.size with
    | none => rfl
    | some o => exact absurd (Heap.lt_size (F.keep _ _ e)) (Nat.lt_irrefl _)
  · intro p hp
    exact ⟨fun hI => absurd (Heap.lt_size (N p (.tail _ hp)).1) ((List.mem_singleton.mp hI) ▸ Nat.lt_irrefl _), hoff p hp⟩
  · intro i v m₁ rest₁ h tk oc₁ own hi hP hJ hoff₁ hown hcomp hst hd₁ F₁ N₁
    obtain ⟨oI, e1, e2, e3⟩ := hst.1
    refine turn i v m₁ rest₁ h tk oc₁ own (by simpa using hP) hJ hoff₁ (fun p hp => by simpa using hown p hp) ⟨oI, hcomp _ (by simp) ?_ _ e1, ?_⟩ hd₁ F₁ N₁
    · cases e : h₀.get? s.heap.objs.size with
      | none => rfl
      | some o => exact absurd (Heap.lt_size (F.keep _ _ e)) (Nat.lt_irrefl _)
    · rintro ⟨vs', q, t, e4, e5⟩
      rw [e3] at e4
      cases e4
      cases e5
  · intro h' tk m' oc' rest' F' N' hd' hoff' hJ
    exact done h' tk m' oc' rest' F' N' hd' hoff' (by simpa using hJ)
/-- the iterator of a range by ones, for a loop whose target is a cell -/
theorem iterC_range {r : Addr} {a b : Int} {t u v : Tok} {m₀ : Str → Option Value} {oc : Obj} {rest : List (Addr × Obj)} (J : Nat → (Str → Option Value) → List (Addr × Obj) → Prop)
    (hh : A.handled = none) (hr : IsRange s.heap r a b 1 t u v) (ha : -(2 ^ 62) ≤ a ∧ a < 2 ^ 62) (hb : -(2 ^ 62) ≤ b ∧ b < 2 ^ 62) (F : Fr h₀ env.locals s.heap m₀) (N : News h₀ env.locals s.heap ((c, oc) :: rest)) (hd : ∃ v, oc.data = .cell v) (hoff : ∀ p ∈ rest, p.1 ≠ c) (hj : J 0 m₀ rest)
    (turn : ∀ (i : Nat) t m₁ rest₁ h tk oc₁ own, i < (b - a).toNat → J i m₁ rest₁ → (∀ p ∈ rest₁, p.1 ∉ [s.heap.objs.size] ∧ p.1 ≠ c) → (∀ p ∈ own, p.1 = s.heap.objs.size) → (∃ oI, (s.heap.objs.size, oI) ∈ own ∧ ¬ IsCodeO oI) → oc₁.data = .cell (some (.int (a + (i : Int)) t)) → Fr h₀ env.locals h m₁ → News h₀ env.locals h ((c, oc₁) :: (rest₁ ++ own)) →
      wpAny (model prog w) A (execs body env) (StepC h₀ env.locals c [s.heap.objs.size] own (J (i + 1)) { s with heap := h, toks := tk } Q) E { s with heap := h, toks := tk })
    (done : ∀ h tk m₁ oc₁ rest₁, Fr h₀ env.locals h m₁ → News h₀ env.locals h ((c, oc₁) :: rest₁) → (∃ v, oc₁.data = .cell v) → (∀ p ∈ rest₁, p.1 ≠ c) → J (b - a).toNat m₁ rest₁ → Q .next { s with heap := h, toks := tk }) :
    wpAny (model prog w) A (pyIter (.ref r)) (fun it s₂ => LoopAtC prog w A h₀ env c body Q E it s₂) E s := by
  have hn : Builtin.Range.rangeSize a b 1 = (((b - a).toNat : Nat) : Int) := by rw [rangeSize_one]; split <;> omega
  have hct := (N (c, oc) (.head _)).1
  refine wpAny_pyIter_range hr (small_one ha.1 ha.2 hb.1 hb.2) ?_
  refine ⟨s.heap.objs.size, [s.heap.objs.size], [s.heap.objs.size], (b - a).toNat, _, _, m₀, oc, rest, J, rfl, Walks.range hh s.heap.objs.size a 1 (b - a).toNat, ?_, ?_, ?_, ?_, ?_, F.push _, (fun p hp => ⟨Heap.get?_push_of_some _ (N p hp).1, (N p hp).2⟩), hd, hj, ?_, ?_⟩
  · intro hm
    rw [List.mem_singleton] at hm
    exact absurd F.ns.lt (hm ▸ Nat.lt_irrefl _)
  · intro hm
    rw [List.mem_singleton] at hm
    exact absurd (Heap.lt_size hct) (hm ▸ Nat.lt_irrefl _)
  · intro b hb
    rw [List.mem_singleton.mp hb]
    cases e : h₀.get? s.heap.objs.size with
    | none => rfl
    | some o => exact absurd (Heap.lt_size (F.keep _ _ e)) (Nat.lt_irrefl _)
  · intro p hp
    exact ⟨fun hI => absurd (Heap.lt_size (N p (.tail _ hp)).1) ((List.mem_singleton.mp hI) ▸ Nat.lt_irrefl _), hoff p hp⟩
  · show IsRangeIter _ _ _ _ _
    rw [hn]; simpa using Heap.get?_push_size _ rfl
  · rintro i v m₁ rest₁ h tk oc₁ own hi ⟨t, rfl⟩ hJ hoff₁ hown hcomp hst hd₁ F₁ N₁
    rw [Int.mul_one] at hd₁
    refine turn i t m₁ rest₁ h tk oc₁ own hi hJ hoff₁ (fun p hp => by simpa using hown p hp) ⟨_, hcomp _ (by simp) ?_ _ hst, ?_⟩ hd₁ F₁ N₁
    · cases e : h₀.get? s.heap.objs.size with
      | none => rfl
      | some o => exact absurd (Heap.lt_size (F.keep _ _ e)) (Nat.lt_irrefl _)
    · rintro ⟨vs', q, t, e4, e5⟩
      cases e4
      cases e5
  · intro h' tk m' oc' rest' F' N' hd' hoff' hJ
    exact done h' tk m' oc' rest' F' N' hd' hoff' hJ
end
section
variable {prog : Program} {w : World} {A : Around} {E : Value → Shared → Prop} {s : Shared} {b₀ h h' : Heap} {L D : Addr} {m : Str → Option Value} {news : List (Addr × Obj)} {o : Obj}
theorem news_add (F : Fr b₀ L h m) (N : News b₀ L h news) (k : ∀ b o, h.get? b = some o → h'.get? b = some o) (hD : h.get? D = none) (ho : h'.get? D = some o) :
    News b₀ L h' ((D, o) :: news) ∧ ∀ p ∈ news, p.1 ≠ D := by
  constructor
  · intro p hp
    rcases List.mem_cons.mp hp with rfl | hp
    · refine ⟨ho, ?_, ?_⟩
      · rintro rfl
        obtain ⟨oL, _, _, e, _⟩ := F.ns
        rw [hD] at e; cases e
      · cases e : b₀.get? D with
        | none => rfl
        | some o' => rw [F.keep _ _ e] at hD; cases hD
    · exact ⟨k _ _ (N p hp).1, (N p hp).2⟩
  · rintro p hp rfl
    rw [(N p hp).1] at hD; cases hD
/-- two lists glued -/
theorem addN {l b : Addr} {vs ws : List Value} {Q : Value → Shared → Prop} (F : Fr b₀ L s.heap m) (N : News b₀ L s.heap news) (hl : s.heap.IsList l vs.toArray) (hb : s.heap.IsList b ws.toArray)
    (h : ∀ D h', Fr b₀ L h' m → News b₀ L h' ((D, listOf (vs ++ ws).toArray 0) :: news) → (∀ p ∈ news, p.1 < D) → Q (.ref D) { s with heap := h' }) (hsz : vs.length + ws.length ≤ sizeLine) :
    wpAny (model prog w) A (binaryOp .Add (.ref l) (.ref b)) Q E s :=
  add_arrays F N hl hb (fun h' F' N' => h _ h' F' N' fun p hp => Heap.lt_size (N p hp).1) (by simpa using hsz)
end
end Mine
namespace Mine
local macro_rules | `(tactic| walk_at "mine go") => `(tactic| repeat' (first
  | (k_unfold; (try dsimp only))
  | ((fail_if_success (with_reducible show wpAny _ _ (exec (Stmt.While _ _ _ _) _) _ _ _)); (fail_if_success (with_reducible show wpAny _ _ (exec (Stmt.For _ _ _ _ _) _) _ _ _)); (fail_if_success (with_reducible show wpAny _ _ (call (Value.ref _) _ _) _ _ _)); (fail_if_success (with_reducible show wpAny _ _ (pyIter _) _ _ _)); (fail_if_success (with_reducible show wpAny _ _ (eval (Expr.ListComp _ _ _ _) _) _ _ _)); (fail_if_success (with_reducible show wpAny _ _ (eval (Expr.Lambda _ _ _ _) _) _ _ _)); (fail_if_success (with_reducible show wpAny _ _ (execs (Stmt.For _ _ _ _ _ :: _) _) _ _ _)); (fail_if_success (with_reducible show Exists _)); first | walk1 | (dsimp only; walk1) | (leave1; walk_say "STEP leave1"; try dsimp only))))
local macro_rules | `(tactic| walk_at "eval Name") => `(tactic| (k_here; k_dflt (refine' nameX_L ?F ?v ?_ ?a ?b; (case F => k_asm); (case a => rfl); (case b => rfl); (case v => first | exact rfl | assumption); k_whole)))
local macro_rules | `(tactic| walk_at "eval Name") => `(tactic| (k_here; (with_reducible show wpAny _ _ (eval (Expr.Name _ _) (compEnvC _ _ _ _)) _ _ _); k_dflt (first
  | (refine' nameC_L ?F ?v ?_ ?a ?b; (case a => rfl); (case b => rfl); (case F => k_asm); (case v => first | exact rfl | assumption); k_whole)
  | (refine' nameC_C ?F ?c ?o ?d ?_ ?a ?b; (case a => rfl); (case b => rfl); (case F => k_asm); (case c => rfl); (case o => assumption); (case d => assumption); k_whole)
  | (refine' nameC_F ?F ?c ?o ?d ?_ ?a ?b; (case a => rfl); (case b => rfl); (case F => k_asm); (case c => rfl); (case o => assumption); (case d => assumption); k_whole)
  | (refine' nameC_K ?F ?X ?T ?e ?_ ?g ?a ?b; (case a => rfl); (case b => rfl); (case F => k_asm); (case X => k_asm); (case T => k_asm); (case e => k_is); (case g => rfl); k_whole)
  | (refine' nameC_B ?F ?X ?T ?e ?v ?n ?_ ?g ?h ?a ?b; (case a => rfl); (case b => rfl); (case F => k_asm); (case X => k_asm); (case T => k_asm); (case e => k_is); (case v => boot_fast); (case n => decide); (case g => rfl); (case h => rfl); k_whole))))
local macro_rules | `(tactic| walk_at "execs cons") => `(tactic| ((with_reducible refine wpAny_execs_cons ?_); try dsimp only))
local macro_rules | `(tactic| walk_at "execs nil") => `(tactic| ((with_reducible refine wpAny_execs_nil ?_); try dsimp only))

def x1 : List Nat := [97, 46, 46, 46, 98]
def x2 : List Nat := [97, 97, 98, 97, 97, 97, 98, 98]
def x3 : List Nat := [97, 98, 98, 97, 97, 97, 98, 98]
theorem S_x1 : Str.ofString "a...b" = S x1 := by decide +kernel
theorem S_x2 : Str.ofString "aabaaabb" = S x2 := by decide +kernel
theorem S_x3 : Str.ofString "abbaaabb" = S x3 := by decide +kernel
/-- an element is its item's length -/
def ByLen (v y : Value) : Prop := ∀ cs t, v = .str (S cs) t → ∃ t', y = .int (cs.length : Nat) t'
theorem byLen_ints : ∀ {vs ys : List Value} {css : List (List Nat)}, StrsAre vs (css.map S) → Paired ByLen vs ys → IntsAre ys (css.map fun cs => (cs.length : Int))
  | _, _, [], h, p => by
    have := StrsAre.nil_inv (by simpa using h)
    subst this
    cases p
    exact .nil
  | _, _, c :: cs, h, p => by
    obtain ⟨t, vs', rfl, h'⟩ := StrsAre.cons_inv (by simpa using h)
    cases p with
    | cons hx hr =>
      obtain ⟨t', rfl⟩ := hx c t rfl
      exact .cons _ _ (byLen_ints (by simpa using h') hr)
/-- each text made has at most nine signs -/
def IsText (_v y : Value) : Prop := ∃ cs t, y = .str (S cs) t ∧ cs.length ≤ 9
theorem isText_strs : ∀ {vs ys : List Value}, Paired IsText vs ys → ∃ css : List (List Nat), StrsAre ys (css.map S) ∧ css.length = vs.length ∧ ∀ cs ∈ css, cs.length ≤ 9
  | _, _, .nil => ⟨[], .nil, rfl, by simp⟩
  | _, _, .cons hx hr => by
    obtain ⟨css, h1, h2, h3⟩ := isText_strs hr
    obtain ⟨cs, t, rfl, hc⟩ := hx
    refine ⟨cs :: css, .cons _ _ h1, by simp [h2], ?_⟩
    intro c hm
    rcases List.mem_cons.mp hm with rfl | hm
    · exact hc
    · exact h3 c hm
/-- what the law's own body is, and its block of names -/
def LawIs (w : World) (body : List Stmt) (scope : Scope) : Prop :=
  ∃ oc od name qual params dV kV doc pm an cdv ct osl, (hd.heap_39 w.params).lookup 84 = some ⟨oc, od, .func (fnX name qual params body scope [] dV kV doc pm an cdv ct), osl⟩

theorem law_A {w p loose mean mg mb dp un fr gd s b₀ L fa} {Q : Flow → Shared → Prop} {body : List Stmt} {scope : Scope} {m₀ : Str → Option Value} {oT oD oO oK oW : Obj} {sc : Addr} {sv : List Value} {sn : List Int}
   (hlaw : LawIs w body scope)
   (X : (hd.heap_39 w.params).In b₀) (T : Top p loose mean mg mb b₀) (hroom : dp + 10 < recursionLimit)
   (F : Fr b₀ L s.heap m₀) (hm₀ : m₀ (Str.ofString "script") = some (.ref sc))
   (N : News b₀ L s.heap [(L + 1 + 1 + 1 + 1 + 1, oT), (L + 1 + 1 + 1 + 1, oD), (L + 1 + 1 + 1, oO), (L + 1 + 1, oK), (L + 1, oW), (69, tabObj #[]), (81, tabObj #[])])
   (d1 : oT.data = .cell none) (d5 : oW.data = .cell none) (l0 : @LT.lt Nat _ 69 L ∧ @LT.lt Nat _ 81 L)
   (hsc : b₀.IsList sc sv.toArray) (hsI : IntsAre sv sn) (hslen : sn.length ≤ 63)
   (h : ∀ (css : List (List Nat)) (ts ws : List Value) (M c : Nat) DT DW R h' tk' m' oT' oW', StrsAre ts (css.map S) → (∀ cs ∈ css, cs.length ≤ M) → (∃ cs ∈ css, cs.length = M) → M ≤ 9 → (css.length ≤ 6 ∧ 3 ≤ css.length) → IntsAre ws (upTo M) →
     Fr b₀ L h' m' → m' (Str.ofString "rows") = some (.ref R) →
     News b₀ L h' [(R, listOf #[] 0), (DW, listOf ws.toArray c), (DT, listOf ts.toArray 0), (L + 1 + 1 + 1 + 1 + 1, oT'), (L + 1 + 1 + 1 + 1, oD), (L + 1 + 1 + 1, oO), (L + 1 + 1, oK), (L + 1, oW'), (69, tabObj #[]), (81, tabObj #[])] →
     oT'.data = .cell (some (.ref DT)) → oW'.data = .cell (some (.ref DW)) → (@LT.lt Nat _ (L + 1 + 1 + 1 + 1 + 1) DT ∧ @LT.lt Nat _ DT DW ∧ @LT.lt Nat _ DW R) →
     wpAny (model PySem.Challenge.rw_ph0064_01.row.prog w) (Ar dp un fr gd) (execs (body.drop 3) (envX (Str.ofString "law") scope L fa (.ref 83) (cellsFrom (L + 1) scope.names []))) Q (fun _ _ => False) { s with heap := h', toks := tk' }) :
   wpAny (model PySem.Challenge.rw_ph0064_01.row.prog w) (Ar dp un fr gd) (execs body (envX (Str.ofString "law") scope L fa (.ref 83) (cellsFrom (L + 1) scope.names []))) Q (fun _ _ => False) s := by
  w_on
  revert X; k_fill; intro X
  obtain ⟨oc, od, name, qual, params, dV, kV, doc, pm, an, cdv, ct, osl, e⟩ := hlaw
  have e' := e.symm.trans (show (hd.heap_39 w.params).lookup 84 = some _ by k_is)
  clear e
  simp only [Option.some.injEq, Obj.mk.injEq, Data.func.injEq, FuncData.mk.injEq, FuncBody.stmts.injEq] at e'
  obtain ⟨-, -, ⟨-, -, -, rfl, rfl, -⟩, -⟩ := e'
  clear osl ct cdv an pm doc kV dV params qual name od oc
  walk_at "mine go"
  refine lc_list IsText rfl (cl := []) rfl (by decide) rfl (by decide) rfl ?_
  have hsl := stays_list F.keep hsc
  walk_at "mine go"
  rename Fr _ _ _ _ => F1
  rename News _ _ _ _ => N1
  rename List Value => ws1
  rename IntsAre _ _ => hI1
  rename Addr => D1
  refine ⟨_, ws1, rfl, News.isList N1 (.head _), ?_, ?_, ?_⟩
  · rw [hI1.length, List.length_take, sizeLine_eq]; omega
  · intro C v s₃ m₃ E' hv F₃ hm₃
    obtain ⟨n, tn, rfl⟩ := hI1.all v hv
    have X3 := X.keeps F1.keep
    have T3 := T.keeps F1.keep
    walk_at "mine go"
    refine text_call (Gd.keeps ⟨X3, T3⟩ F₃.keep) (by omega) ?_
    intro cs t' h' tk' hk' hcs
    exact ⟨⟨cs, t', rfl, hcs⟩, ⟨_, _, rfl, hk'⟩⟩
  intro D2 h2 tk2 ys hD2 hpl2 hP2 hk2
  obtain ⟨css0, hS0, hc0, hcl0⟩ := isText_strs hP2
  have hc0' : css0.length ≤ 3 := by rw [hc0, hI1.length, List.length_take]; omega
  obtain ⟨n2, hpl2⟩ := hpl2
  have F2 := F1.grownK hk2
  obtain ⟨N2, off2⟩ := news_add F1 (fun q hq => N1 q (.tail _ hq)) hk2 hD2 hpl2
  clear F1 N1
  walk_at "mine go"
  rename Fr _ _ _ _ => F3
  rename News _ _ _ _ => N3
  have hys : ys.length ≤ 3 := by rw [hS0.length, List.length_map]; omega
  obtain ⟨ws3, hS3, N3'⟩ : ∃ ws3, StrsAre ws3 ([x1, x2, x3].map S) ∧ News b₀ L _ ((_, listOf ws3.toArray 0) :: _) := ⟨_, by
    show StrsAre _ [S x1, S x2, S x3]
    rw [← S_x1, ← S_x2, ← S_x3]
    exact .cons _ _ (.cons _ _ (.cons _ _ .nil)), N3⟩
  clear N3
  have hw3 : ws3.length = 3 := by rw [hS3.length]; rfl
  refine addN F3 N3' (vs := ys) (News.isList N3' (.tail _ (.head _))) (News.isList N3' (.head _)) ?_ (by rw [sizeLine_eq]; omega)
  intro DT h4 F4 N4 l4
  replace N4 : News b₀ L h4 ((DT, _) :: _) := fun q hq => N4 q (by
    rcases List.mem_cons.mp hq with rfl | hq
    · exact .head _
    · exact .tail _ (.tail _ (.tail _ hq)))
  replace l4 := fun q hq => l4 q (.tail _ (.tail _ hq))
  k_lt l4
  clear F3 N3'
  obtain ⟨ts, css, hST, hcl, hcn, hce, N4'⟩ : ∃ (ts : List Value) (css : List (List Nat)), StrsAre ts (css.map S) ∧ (∀ cs ∈ css, cs.length ≤ 9) ∧ (css.length ≤ 6 ∧ 3 ≤ css.length) ∧ x2 ∈ css ∧ News b₀ L h4 ((DT, listOf ts.toArray 0) :: _) := ⟨ys ++ ws3, css0 ++ [x1, x2, x3], by rw [List.map_append]; exact hS0.append' hS3, by
    intro cs hc
    rcases List.mem_append.mp hc with hc | hc
    · exact hcl0 cs hc
    · simp only [List.mem_cons, List.not_mem_nil, or_false] at hc
      rcases hc with rfl | rfl | rfl <;> decide, by simp; omega, by simp, N4⟩
  clear N4 hS0 hS3 hw3 hys off2 hpl2 hcl0 hc0' hc0 hP2
  walk_at "mine go"
  rename Fr _ _ _ _ => F5
  rename News _ _ _ _ => N5
  rename Obj => oT'
  rename _ = Data.cell _ => dT
  refine lc_list ByLen rfl (cl := []) rfl (by decide) rfl (by decide) rfl ?_
  walk_at "mine go"
  have htl : ts.length = css.length := by rw [hST.length, List.length_map]
  refine ⟨_, ts, rfl, News.isList N5 (.head _), ?_, ?_, ?_⟩
  · rw [htl, sizeLine_eq]; omega
  · intro C v s₃ m₃ E' hv F₃ hm₃
    obtain ⟨cs, tn, hcs, rfl⟩ := strs_at hST hv
    have hlc := hcl cs hcs
    have hls := S_len cs
    have X3 := X.keeps F5.keep
    have T3 := T.keeps F5.keep
    generalize hx : S cs = x at *
    walk_at "mine go"
    · intro cs' t' e
      have : cs' = cs := S_inj (by rw [hx]; exact (Value.str.inj e).1.symm)
      subst this
      exact ⟨_, by rw [hls]⟩
    · exact ⟨_, _, rfl, fun _ _ e => e⟩
  intro D6 h6 tk6 ys6 hD6 hpl6 hP6 hk6
  have hI6 := byLen_ints hST hP6
  obtain ⟨n6, hpl6⟩ := hpl6
  have F6 := F5.grownK hk6
  have N6 := N5.grown hk6
  clear F5 N5
  walk_at "mine go"
  refine max_list_N rfl F6 N6 ⟨_, hpl6, rfl, n6, rfl⟩ hI6 (by rw [List.length_map]; omega) ?_
  intro h7 M t7 tk7 F7 N7 hM hM2
  clear F6 N6
  have hMb : 0 ≤ M ∧ M ≤ 9 := by
    obtain ⟨cs, hc, rfl⟩ := List.mem_map.mp hM
    have := hcl cs hc
    omega
  have hM8 : ∀ cs ∈ css, (cs.length : Int) ≤ M := fun cs hc => hM2 _ (List.mem_map_of_mem hc)
  walk_at "mine go"
  rename IntsAre _ (rangeKs _ _) => hIW
  have eM : (rangeKs 0 (M + 1 - 0).toNat) = upTo M.toNat := by
    rw [show (M + 1 - 0).toNat = M.toNat + 1 by omega]
    simp [rangeKs, upTo]
  rw [eM] at hIW
  obtain ⟨csM, hcM, eM2⟩ := List.mem_map.mp hM
  exact h css ts _ M.toNat _ DT _ _ _ _ _ oT' _ hST (fun cs hc => by have := hM8 cs hc; omega) ⟨csM, hcM, by omega⟩ (by omega) hcn hIW (by assumption) rfl (by assumption) dT (by assumption) ⟨by omega, by omega, by omega⟩
end Mine
namespace Mine
local macro_rules | `(tactic| walk_at "mine none") => `(tactic| skip)
local macro_rules | `(tactic| walk_at "mine go") => `(tactic| repeat' (first
  | (k_unfold; (try dsimp only))
  | ((fail_if_success (with_reducible show wpAny _ _ (exec (Stmt.While _ _ _ _) _) _ _ _)); (fail_if_success (with_reducible show wpAny _ _ (exec (Stmt.For _ _ _ _ _) _) _ _ _)); (fail_if_success (with_reducible show wpAny _ _ (call (Value.ref _) _ _) _ _ _)); (fail_if_success (with_reducible show wpAny _ _ (pyIter _) _ _ _)); (fail_if_success (with_reducible show wpAny _ _ (eval (Expr.ListComp _ _ _ _) _) _ _ _)); (fail_if_success (with_reducible show wpAny _ _ (eval (Expr.Lambda _ _ _ _) _) _ _ _)); (fail_if_success (with_reducible show wpAny _ _ (execs (Stmt.For _ _ _ _ _ :: _) _) _ _ _)); (fail_if_success (with_reducible show Exists _)); first | walk1 | (dsimp only; walk1) | (leave1; walk_say "STEP leave1"; try dsimp only))))
local macro_rules | `(tactic| walk_at "eval Name") => `(tactic| (k_here; k_dflt (refine' nameX_L ?F ?v ?_ ?a ?b; (case F => k_asm); (case a => rfl); (case b => rfl); (case v => first | exact rfl | assumption); k_whole)))
local macro_rules | `(tactic| walk_at "eval Name") => `(tactic| (k_here; (with_reducible show wpAny _ _ (eval (Expr.Name _ _) (compEnvC _ _ _ _)) _ _ _); k_dflt (first
  | (refine' nameC_L ?F ?v ?_ ?a ?b; (case a => rfl); (case b => rfl); (case F => k_asm); (case v => first | exact rfl | assumption); k_whole)
  | (refine' nameC_C ?F ?c ?o ?d ?_ ?a ?b; (case a => rfl); (case b => rfl); (case F => k_asm); (case c => rfl); (case o => assumption); (case d => assumption); k_whole)
  | (refine' nameC_F ?F ?c ?o ?d ?_ ?a ?b; (case a => rfl); (case b => rfl); (case F => k_asm); (case c => rfl); (case o => assumption); (case d => assumption); k_whole)
  | (refine' nameC_K ?F ?X ?T ?e ?_ ?g ?a ?b; (case a => rfl); (case b => rfl); (case F => k_asm); (case X => k_asm); (case T => k_asm); (case e => k_is); (case g => rfl); k_whole)
  | (refine' nameC_B ?F ?X ?T ?e ?v ?n ?_ ?g ?h ?a ?b; (case a => rfl); (case b => rfl); (case F => k_asm); (case X => k_asm); (case T => k_asm); (case e => k_is); (case v => boot_fast); (case n => decide); (case g => rfl); (case h => rfl); k_whole))))
local macro_rules | `(tactic| walk_at "execs cons") => `(tactic| ((with_reducible refine wpAny_execs_cons ?_); try dsimp only))
local macro_rules | `(tactic| walk_at "execs nil") => `(tactic| ((with_reducible refine wpAny_execs_nil ?_); try dsimp only))


abbrev q69 : Str := Str.ofString "_law_found.<locals>.<lambda>"
/-- the table's places, with the code objects that they name -/
def PsOk (b₀ : Heap) (L : Addr) (line col : Nat) (q : Str) (ps : Array Value) (ex : List (Addr × Obj)) : Prop :=
  (∀ p ∈ ex, IsCodeO p.2) ∧ ∀ h m, Fr b₀ L h m → News b₀ L h ex → (ps = #[] ∨ ∃ c', ps = #[rawInt line, rawInt col, .ref c'] ∧ h.CodeRec (.ref c') q)
theorem PsOk.start {b₀ : Heap} {L : Addr} {line col : Nat} {q : Str} : PsOk b₀ L line col q #[] [] := ⟨by simp, fun _ _ _ _ => .inl rfl⟩
theorem PsOk.tab {b₀ h : Heap} {L P : Addr} {line col : Nat} {q : Str} {ps : Array Value} {ex : List (Addr × Obj)} {m : Str → Option Value} (x : PsOk b₀ L line col q ps ex) (F : Fr b₀ L h m) (N : News b₀ L h ex) (hP : h.get? P = some (tabObj ps)) : TabSt h P line col q := by
  rcases x.2 h m F N with rfl | ⟨c', rfl, hc⟩
  · exact .inl hP
  · exact .inr ⟨c', hP, hc⟩
theorem PsOk.of {b₀ h : Heap} {L P : Addr} {line col : Nat} {q : Str} {m : Str → Option Value} (F : Fr b₀ L h m) (x : TabSt h P line col q) : ∃ ps ex, h.get? P = some (tabObj ps) ∧ News b₀ L h ex ∧ PsOk b₀ L line col q ps ex := by
  rcases x with e | ⟨c', e, c, oc, vs, t, e1, e2, e3, e4⟩
  · exact ⟨_, [], e, News.nil, .start⟩
  · cases e1
    cases hb : b₀.get? c' with
    | some o' =>
      have : o' = oc := by have := F.keep _ _ hb; rw [e2] at this; exact (Option.some.inj this).symm
      subst this
      exact ⟨_, [], e, News.nil, by simp, fun h'' m'' F'' _ => .inr ⟨c', rfl, c', o', vs, t, rfl, F''.keep _ _ hb, e3, e4⟩⟩
    | none =>
      refine ⟨_, [(c', oc)], e, ?_, ?_, fun h'' m'' F'' N'' => .inr ⟨c', rfl, c', oc, vs, t, rfl, (N'' _ (.head _)).1, e3, e4⟩⟩
      · intro p hp
        rw [List.mem_singleton.mp hp]
        refine ⟨e2, ?_, hb⟩
        rintro rfl
        obtain ⟨oL, es, ep, eL, dL, _⟩ := F.ns
        rw [e2] at eL
        cases eL
        rw [e3] at dL
        cases dL
      · intro p hp
        rw [List.mem_singleton.mp hp]
        exact ⟨vs, q, t, e3, e4⟩
/-- a code object stands apart from one that is none -/
theorem code_off {b₀ h : Heap} {L a : Addr} {o : Obj} {ex : List (Addr × Obj)} (N : News b₀ L h ex) (hx : ∀ p ∈ ex, IsCodeO p.2) (ha : h.get? a = some o) (hn : ¬ IsCodeO o) : ∀ p ∈ ex, p.1 ≠ a := by
  rintro p hp rfl
  have := (N p hp).1
  rw [ha] at this
  cases this
  exact hn (hx p hp)
theorem notCode_list {its : Array Value} {n : Nat} : ¬ IsCodeO (listOf its n) := by rintro ⟨vs, q, t, e, _⟩; cases e
theorem notCode_cell {o : Obj} {v : Option Value} (h : o.data = .cell v) : ¬ IsCodeO o := by rintro ⟨vs, q, t, e, _⟩; rw [h] at e; cases e
theorem notCode_tab0 : ¬ IsCodeO (tabObj #[]) := by rintro ⟨vs, q, t, e, e2⟩; cases e; cases e2
theorem notCode_tab {l c : Int} {v : Value} : ¬ IsCodeO (tabObj #[rawInt l, rawInt c, v]) := by rintro ⟨vs, q, t, e, e2⟩; cases e; cases e2
/-- all but one address kept: the frame and the others stand -/
theorem fr_but1 {b₀ h h' : Heap} {L d : Addr} {m : Str → Option Value} (F : Fr b₀ L h m) (hd : b₀.get? d = none) (hL : d ≠ L) (k : ∀ b o, b ≠ d → h.get? b = some o → h'.get? b = some o) : Fr b₀ L h' m :=
  ⟨F.ns.at' fun o e => k _ o (Ne.symm hL) e, fun b o e => k b o (by rintro rfl; rw [hd] at e; cases e) (F.keep b o e), F.above⟩
theorem news_but1 {b₀ h h' : Heap} {L d : Addr} {news : List (Addr × Obj)} (N : News b₀ L h news) (off : ∀ p ∈ news, p.1 ≠ d) (k : ∀ b o, b ≠ d → h.get? b = some o → h'.get? b = some o) : News b₀ L h' news :=
  fun p hp => ⟨k _ _ (off p hp) (N p hp).1, (N p hp).2⟩

theorem lenN {prog : Program} {w : World} {A : Around} {E : Value → Shared → Prop} {s : Shared} {l : Addr} {vs : List Value} {Q : Value → Shared → Prop} (hl : s.heap.IsList l vs.toArray) (hfit : vs.length ≤ 1000)
    (h : Q (.int (vs.length : Nat) (s.toks + 1)) { s with toks := s.toks + 1 + 1 }) : wpAny (model prog w) A (call (.builtin "len") [.ref l]) Q E s :=
  PyProof.Rows.len_list hl (by simp; omega) (by simpa using h)
local macro_rules | `(tactic| walk_at "call builtin:len") => `(tactic| (k_here; (with_reducible show wpAny _ _ (call (Value.builtin "len") [Value.ref _]) _ _ _); refine lenN (vs := _) (by first | exact News.isList (by k_asm) (by k_mem) | exact stays_list (Fr.keep (by assumption)) (by assumption)) (by omega) ?_))
/-- an element is its item's number -/
def ByNum (f : List Nat → Int) (v y : Value) : Prop := ∀ cs t, v = .str (S cs) t → ∃ t', y = .int (f cs) t'
theorem byNum_ints {f : List Nat → Int} : ∀ {vs ys : List Value} {css : List (List Nat)}, StrsAre vs (css.map S) → Paired (ByNum f) vs ys → IntsAre ys (css.map f)
  | _, _, [], h, p => by
    have := StrsAre.nil_inv (by simpa using h)
    subst this
    cases p
    exact .nil
  | _, _, c :: cs, h, p => by
    obtain ⟨t, vs', rfl, h'⟩ := StrsAre.cons_inv (by simpa using h)
    cases p with
    | cons hx hr =>
      obtain ⟨t', rfl⟩ := hx c t rfl
      exact .cons _ _ (byNum_ints (by simpa using h') hr)
theorem law_inner {w p loose mean mg mb dp un fr gd s b₀ L fa} {Q : Flow → Shared → Prop} {body : List Stmt} {scope : Scope} {tgt it : Expr} {st1 inner : Stmt} {strest els : List Stmt} {ps0 : Pos} {m : Str → Option Value} {oK oO oW : Obj}
   {row R DO DW : Addr} {n0 nO nW M : Nat} {os ws : List Value} {css : List (List Nat)} {tl ex : List (Addr × Obj)} {ps : Array Value}
   (hlaw : LawIs w body scope) (hst : body[3]? = some (.For tgt it (st1 :: inner :: strest) els ps0))
   (X : (hd.heap_39 w.params).In b₀) (T : Top p loose mean mg mb b₀) (CH1 : CodeHd b₀ 73 69) (hroom : dp + 10 < recursionLimit)
   (hS : StrsAre os (css.map S)) (hlens : ∀ cs ∈ css, cs.length ≤ M) (hM : M ≤ 9) (hcn : css.length ≤ 6) (hI : IntsAre ws (upTo M))
   (F : Fr b₀ L s.heap m) (hrow : m (Str.ofString "row") = some (.ref row)) (hrows : m (Str.ofString "rows") = some (.ref R))
   (N : News b₀ L s.heap ((L + 1 + 1, oK) :: (row, listOf #[] n0) :: (69, tabObj ps) :: (L + 1 + 1 + 1, oO) :: (L + 1, oW) :: (DO, listOf os.toArray nO) :: (DW, listOf ws.toArray nW) :: (tl ++ ex)))
   (dK : ∃ v, oK.data = .cell v) (dO : oO.data = .cell (some (.ref DO))) (dW : oW.data = .cell (some (.ref DW)))
   (offs : ∀ q ∈ (L + 1 + 1 + 1, oO) :: (L + 1, oW) :: (DO, listOf os.toArray nO) :: (DW, listOf ws.toArray nW) :: tl, q.1 ≠ L + 1 + 1 ∧ q.1 ≠ row ∧ q.1 ≠ 69) (o1 : row ≠ L + 1 + 1) (o2 : row ≠ 69) (o3 : 69 ≠ L + 1 + 1)
   (hps : PsOk b₀ L 88 13 q69 ps ex)
   (h : ∀ h' tk' m' oK' rs nr ps' ex', Fr b₀ L h' m' → m' (Str.ofString "row") = some (.ref row) → m' (Str.ofString "rows") = some (.ref R) →
     News b₀ L h' ((L + 1 + 1, oK') :: (row, listOf (List.toArray rs) nr) :: (69, tabObj ps') :: (L + 1 + 1 + 1, oO) :: (L + 1, oW) :: (DO, listOf os.toArray nO) :: (DW, listOf ws.toArray nW) :: (tl ++ ex')) → (∃ v, oK'.data = .cell v) → IntsAre rs (rowOf css M) → PsOk b₀ L 88 13 q69 ps' ex' → Q .next { s with heap := h', toks := tk' }) :
   wpAny (model PySem.Challenge.rw_ph0064_01.row.prog w) (Ar dp un fr gd) (exec inner (envX (Str.ofString "law") scope L fa (.ref 83) (cellsFrom (L + 1) scope.names []))) Q (fun _ _ => False) s := by
  w_on
  revert X; k_fill; intro X
  obtain ⟨oc, od, name, qual, params, dV, kV, doc, pm, an, cdv, ct, osl, e⟩ := hlaw
  have e' := e.symm.trans (show (hd.heap_39 w.params).lookup 84 = some _ by k_is)
  clear e
  simp only [Option.some.injEq, Obj.mk.injEq, Data.func.injEq, FuncData.mk.injEq, FuncBody.stmts.injEq] at e'
  obtain ⟨-, -, ⟨-, -, -, rfl, rfl, -⟩, -⟩ := e'
  clear osl ct cdv an pm doc kV dV params qual name od oc
  simp only [List.getElem?_cons_succ, List.getElem?_cons_zero, Option.some.injEq, Stmt.For.injEq, List.cons.injEq] at hst
  obtain ⟨-, -, ⟨-, rfl, -⟩, -, -⟩ := hst
  refine For_cell b₀ rfl rfl (c := L + 1 + 1) rfl ?_
  have hol : os.length = css.length := by rw [hS.length, List.length_map]
  walk_at "mine go"
  rename Fr _ _ _ _ => F0
  rename News _ _ _ _ => N0
  rename IsRange _ _ _ _ _ _ _ _ => hr
  have hexoff : ∀ {h : Heap} {oK : Obj} {v : Option Value} {ex : List (Addr × Obj)}, News b₀ L h ex → (∀ p ∈ ex, IsCodeO p.2) → h.get? (L + 1 + 1) = some oK → oK.data = .cell v → ∀ p ∈ ex, p.1 ≠ L + 1 + 1 := fun N c e d => code_off N c e (notCode_cell d)
  obtain ⟨vK, dK'⟩ := dK
  have hoffc : ∀ {rs : Array Value} {nr : Nat} {ps : Array Value} {ex : List (Addr × Obj)}, (∀ p ∈ ex, p.1 ≠ L + 1 + 1) → ∀ p ∈ (row, listOf rs nr) :: (69, tabObj ps) :: (L + 1 + 1 + 1, oO) :: (L + 1, oW) :: (DO, listOf os.toArray nO) :: (DW, listOf ws.toArray nW) :: (tl ++ ex), p.1 ≠ L + 1 + 1 := by
    intro rs nr ps ex hex p hp
    rcases List.mem_cons.mp hp with rfl | hp
    · exact o1
    rcases List.mem_cons.mp hp with rfl | hp
    · exact o3
    rw [← List.cons_append, ← List.cons_append, ← List.cons_append, ← List.cons_append] at hp
    rcases List.mem_append.mp hp with hp | hp
    · exact (offs p hp).1
    · exact hex p hp
  refine iterC_range (env := envX _ _ _ _ _ _) (fun i m rest => ∃ (rs : List Value) (nr : Nat) (ps : Array Value) (ex : List (Addr × Obj)), rest = (row, listOf rs.toArray nr) :: (69, tabObj ps) :: (L + 1 + 1 + 1, oO) :: (L + 1, oW) :: (DO, listOf os.toArray nO) :: (DW, listOf ws.toArray nW) :: (tl ++ ex) ∧ IntsAre rs (rowTo css M i) ∧
      m (Str.ofString "row") = some (.ref row) ∧ m (Str.ofString "rows") = some (.ref R) ∧ PsOk b₀ L 88 13 q69 ps ex) rfl hr ⟨by omega, by omega⟩ ⟨by omega, by omega⟩ F0 N0 ⟨vK, dK'⟩ (hoffc (hexoff (fun q hq => N0 q (by simp [hq])) hps.1 (N0 _ (.head _)).1 dK')) ⟨[], n0, ps, ex, rfl, .nil, hrow, hrows, hps⟩ ?_ ?_
  · rintro i t1 m₁ rest₁ h₁ tk₁ oc₁ own hi ⟨rs, nr, ps1, ex1, rfl, hRI, hr1, hr2, hps1⟩ hoff hown ⟨oI, hoI, hnc⟩ hoc F1 N1
    simp only [List.cons_append, List.append_assoc] at N1
    clear F0 N0
    rw [Int.zero_add] at hoc
    have hi' : i < css.length := by omega
    change Fr b₀ L h₁ m₁ at F1
    walk_at "mine go"
    have n69 : b₀.get? 69 = none := (N1 _ (.tail _ (.tail _ (.head _)))).2.2
    have nrow : b₀.get? row = none := (N1 _ (.tail _ (.head _))).2.2
    have l69 : (69 : Nat) ≠ L := fun e => (N1 _ (.tail _ (.tail _ (.head _)))).2.1 e
    have lrow : row ≠ L := fun e => (N1 _ (.tail _ (.head _))).2.1 e
    have hoff69 : (69 : Nat) ∉ _ := (hoff (69, tabObj ps1) (.tail _ (.head _))).1
    have hoffrow : row ∉ _ := (hoff (row, _) (.head _)).1
    have hown69 : ∀ p ∈ own, p.1 ≠ 69 := by
      intro p hp e
      rw [hown p hp] at e
      exact hoff69 (by rw [← e]; exact .head _)
    have hownrow : ∀ p ∈ own, p.1 ≠ row := by
      intro p hp e
      rw [hown p hp] at e
      exact hoffrow (by rw [← e]; exact .head _)
    have hM6 : ∀ cs ∈ css, cs.length ≤ 1000 := fun cs hc => by have := hlens cs hc; omega
    have hup : (upTo M).length = M + 1 := by simp [upTo]
    refine found_call (h₀ := b₀) (css := css) (ns := upTo M) ⟨X, T⟩ F1.keep n69 CH1 (hps1.tab F1 (fun q hq => N1 q (by simp [hq])) (N1 _ (.tail _ (.tail _ (.head _)))).1) (by omega) (News.isList N1 (by k_mem)) hS (by omega) hM6 (News.isList N1 (by k_mem)) (by assumption) (by omega) hi' falls_unl ?_
    intro t2 h₂ tk₂ hk₂ TS2
    have F2 := fr_but1 F1 n69 l69 hk₂
    obtain ⟨ps2, ex2, g2, Nx2, hps2⟩ := PsOk.of F2 TS2
    have N2 : News b₀ L h₂ ((L + 1 + 1, oc₁) :: (row, listOf rs.toArray nr) :: (69, tabObj ps2) :: (L + 1 + 1 + 1, oO) :: (L + 1, oW) :: (DO, listOf os.toArray nO) :: (DW, listOf ws.toArray nW) :: (tl ++ (ex2 ++ own))) := by
      have hk : ∀ q ∈ (L + 1 + 1, oc₁) :: (row, listOf rs.toArray nr) :: (69, tabObj ps1) :: (L + 1 + 1 + 1, oO) :: (L + 1, oW) :: (DO, listOf os.toArray nO) :: (DW, listOf ws.toArray nW) :: (tl ++ (ex1 ++ own)), q.1 ≠ 69 → h₂.get? q.1 = some q.2 ∧ q.1 ≠ L ∧ b₀.get? q.1 = none := fun q hq hn => ⟨hk₂ _ _ hn (N1 q hq).1, (N1 q hq).2⟩
      intro q hq
      rcases List.mem_cons.mp hq with rfl | hq
      · exact hk _ (.head _) (Ne.symm o3)
      rcases List.mem_cons.mp hq with rfl | hq
      · exact hk _ (.tail _ (.head _)) o2
      rcases List.mem_cons.mp hq with rfl | hq
      · exact ⟨g2, fun e => l69 e, n69⟩
      rw [← List.cons_append, ← List.cons_append, ← List.cons_append, ← List.cons_append] at hq
      rcases List.mem_append.mp hq with hq | hq
      · exact hk _ (.tail _ (.tail _ (.tail _ (by rw [← List.cons_append, ← List.cons_append, ← List.cons_append, ← List.cons_append]; exact List.mem_append_left _ hq)))) (offs q hq).2.2
      rcases List.mem_append.mp hq with hq | hq
      · exact Nx2 q hq
      · exact hk _ (by simp [hq]) (hown69 q hq)
    clear F1 N1 hk₂ TS2
    walk_at "mine go"
    rename Fr _ _ _ _ => F3
    rename News _ _ _ _ => N3
    have hwl : ws.length = M + 1 := by rw [IntsAre.length (by assumption), hup]
    refine lc_list (ByNum fun q => apartL (css.getD i []) q ((M : Int) + 1)) rfl (cl := [(Str.ofString "widths", L + 1), (Str.ofString "order", L + 1 + 1 + 1), (Str.ofString "k", L + 1 + 1)]) rfl (by decide) rfl (by decide) rfl ?_
    walk_at "mine go"
    refine kmk_slice F3 N3 (News.isList N3 (by k_mem)) .none (.int _ _) ?_ (by with_unfolding_all rfl) (by intro _; with_unfolding_all rfl) (by rw [sizeLine_eq]; simp; omega)
    intro D4 h4 F4 N4 l4
    rw [slicePick_upto', List.toList_toArray] at N4
    clear F3
    have hS5 : StrsAre (os.take i) ((css.take i).map S) := by rw [List.map_take]; exact hS.take' i
    have hDO4 := News.isList N4 (a := DO) (items := os.toArray) (by k_mem)
    have hDW4 := News.isList N4 (a := DW) (items := ws.toArray) (by k_mem)
    have hcK4 := (N4 (L + 1 + 1, oc₁) (by k_mem)).1
    have hcO4 := (N4 (L + 1 + 1 + 1, oO) (by k_mem)).1
    have hcW4 := (N4 (L + 1, oW) (by k_mem)).1
    obtain ⟨tv, hvk⟩ : ∃ tv, os.toArray[(i : Int).toNat]? = some (.str (S (css.getD i [])) tv) := by
      obtain ⟨tv, e⟩ := hS.get i (S (css.getD i [])) (by rw [List.getElem?_map, List.getElem?_eq_getElem hi', List.getD_eq_getElem?_getD, List.getElem?_eq_getElem hi']; rfl)
      exact ⟨tv, by simpa using e⟩
    have hci : (css.getD i []).length ≤ 1000 := by
      apply hM6
      rw [List.getD_eq_getElem?_getD, List.getElem?_eq_getElem hi']; exact List.getElem_mem hi'
    refine ⟨_, os.take i, rfl, News.isList N4 (.head _), ?_, ?_, ?_⟩
    · rw [List.length_take, sizeLine_eq]; omega
    · intro C v s₆ m₆ E6 hv F₆ hm₆
      obtain ⟨cs, tc, hcs, rfl⟩ := strs_at hS5 hv
      have X6 := X.keeps F4.keep
      have T6 := T.keeps F4.keep
      walk_at "mine go"
      rw [show (List.map S css).getD ((i : Int)).toNat Str.empty = S (css.getD i []) by simp [List.getD_eq_getElem?_getD, List.getElem?_eq_getElem hi'], show (((upTo M).length : Nat) : Int) = (M : Int) + 1 by rw [hup]; rfl]
      refine apart_call (Gd.keeps ⟨X6, T6⟩ F₆.keep) (by omega) hci (hM6 cs (List.mem_of_mem_take hcs)) ?_
      intro t7 h7 tk7 hk7
      exact ⟨fun cs' t'' e => ⟨t7, by rw [S_inj (Value.str.inj e).1]⟩, ⟨_, _, rfl, hk7⟩⟩
    intro D6 h6 tk6 ys6 hD6 hpl6 hP6 hk6
    have hI6 := byNum_ints hS5 hP6
    obtain ⟨n6, hpl6⟩ := hpl6
    have F6 := F4.grownK hk6
    obtain ⟨N6, off6⟩ := news_add F4 N4 hk6 hD6 hpl6
    clear F4 N4
    walk_at "mine go"
    · rename ((List.countP _ _ : Nat) : Int) ≠ _ => c9
      exact absurd (found_max hlens (by assumption) (by assumption)) c9
    rename Fr _ _ _ _ => F7
    rename News _ _ _ _ => N7
    have hrl : (rowTo css M i).length = i := rowTo_len _ _ _
    refine insort_call (h₀ := b₀) ⟨X, T⟩ F7.keep nrow (by omega) (N7 (row, _) (by k_mem)).1 hRI (by omega) (rowTo_sorted _ _ _) ?_
    intro h8 tk8 hk8 hrow8
    have F8 := fr_but1 F7 nrow lrow hk8
    have N8 : News b₀ L h8 ((L + 1 + 1, oc₁) :: ((row, listOf (rs.take ((rowTo css M i).countP (· ≤ (foundN css M i : Int))) ++ .int (foundN css M i : Nat) t2 :: rs.drop ((rowTo css M i).countP (· ≤ (foundN css M i : Int)))).toArray (nr + 1)) :: (69, tabObj ps2) :: (L + 1 + 1 + 1, oO) :: (L + 1, oW) :: (DO, listOf os.toArray nO) :: (DW, listOf ws.toArray nW) :: (tl ++ ex2) ++ own)) := by
      have hex2 : ∀ p ∈ ex2, p.1 ≠ row := code_off (fun q hq => N7 q (by simp [hq])) hps2.1 (N7 (row, _) (by k_mem)).1 notCode_list
      have hk : ∀ q ∈ (L + 1 + 1, oc₁) :: (row, listOf rs.toArray nr) :: (69, tabObj ps2) :: (L + 1 + 1 + 1, oO) :: (L + 1, oW) :: (DO, listOf os.toArray nO) :: (DW, listOf ws.toArray nW) :: (tl ++ (ex2 ++ own)), q.1 ≠ row → h8.get? q.1 = some q.2 ∧ q.1 ≠ L ∧ b₀.get? q.1 = none := fun q hq hn => ⟨hk8 _ _ hn (N7 q (.tail _ (.tail _ (.tail _ (.tail _ hq))))).1, (N7 q (.tail _ (.tail _ (.tail _ (.tail _ hq))))).2⟩
      intro q hq
      simp only [List.cons_append, List.append_assoc] at hq
      rcases List.mem_cons.mp hq with rfl | hq
      · exact hk _ (.head _) (Ne.symm o1)
      rcases List.mem_cons.mp hq with rfl | hq
      · exact ⟨hrow8, lrow, nrow⟩
      rcases List.mem_cons.mp hq with rfl | hq
      · exact hk _ (.tail _ (.tail _ (.head _))) (Ne.symm o2)
      rw [← List.cons_append, ← List.cons_append, ← List.cons_append, ← List.cons_append] at hq
      rcases List.mem_append.mp hq with hq | hq
      · exact hk _ (.tail _ (.tail _ (.tail _ (by rw [← List.cons_append, ← List.cons_append, ← List.cons_append, ← List.cons_append]; exact List.mem_append_left _ hq)))) (offs q hq).2.1
      rcases List.mem_append.mp hq with hq | hq
      · exact hk _ (by simp [hq]) (hex2 q hq)
      · exact hk _ (by simp [hq]) (hownrow q hq)
    walk_at "mine go"
    refine StepC.next F8 N8 hoc ?_ ?_
    · have hI9 : ∀ p ∈ ex2, p.1 ∉ [_] := fun p hp e => code_off (fun q hq => N8 q (by simp only [List.cons_append, List.append_assoc]; simp [hq])) hps2.1 (N8 _ (.tail _ (List.mem_append_right _ hoI))).1 hnc p hp (List.mem_singleton.mp e)
      have hK9 := hexoff (fun q hq => N8 q (by simp only [List.cons_append, List.append_assoc]; simp [hq])) hps2.1 (N8 _ (.head _)).1 hoc
      intro p hp
      refine ⟨?_, hoffc hK9 p hp⟩
      rcases List.mem_cons.mp hp with rfl | hp
      · exact hoffrow
      rcases List.mem_cons.mp hp with rfl | hp
      · exact hoff69
      rw [← List.cons_append, ← List.cons_append, ← List.cons_append, ← List.cons_append] at hp
      rcases List.mem_append.mp hp with hp | hp
      · exact (hoff p (.tail _ (.tail _ (by rw [← List.cons_append, ← List.cons_append, ← List.cons_append, ← List.cons_append]; exact List.mem_append_left _ hp)))).1
      · exact hI9 p hp
    · refine ⟨_, _, _, _, rfl, ?_, ?_, ?_, hps2⟩
      · exact (hRI.take _).append (.cons _ _ (hRI.drop _))
      · simp only [hr1]; rfl
      · simp only [hr2]; rfl
  · rintro h₁ tk₁ m₁ oc₁ rest₁ F1 N1 hoc hoff ⟨rs, nr, ps1, ex1, rfl, hRI, hr1, hr2, hps1⟩
    refine h _ _ _ _ _ _ _ _ F1 hr1 hr2 N1 hoc ?_ hps1
    rw [show ((os.length : Int) - 0).toNat = css.length by omega] at hRI
    exact hRI
end Mine
namespace Mine
local macro_rules | `(tactic| walk_at "mine none") => `(tactic| skip)
local macro_rules | `(tactic| walk_at "mine none") => `(tactic| skip)
local macro_rules | `(tactic| walk_at "mine none") => `(tactic| skip)
local macro_rules | `(tactic| walk_at "mine go") => `(tactic| repeat' (first
  | (k_unfold; (try dsimp only))
  | ((fail_if_success (with_reducible show wpAny _ _ (exec (Stmt.While _ _ _ _) _) _ _ _)); (fail_if_success (with_reducible show wpAny _ _ (exec (Stmt.For _ _ _ _ _) _) _ _ _)); (fail_if_success (with_reducible show wpAny _ _ (call (Value.ref _) _ _) _ _ _)); (fail_if_success (with_reducible show wpAny _ _ (pyIter _) _ _ _)); (fail_if_success (with_reducible show wpAny _ _ (eval (Expr.ListComp _ _ _ _) _) _ _ _)); (fail_if_success (with_reducible show wpAny _ _ (eval (Expr.Lambda _ _ _ _) _) _ _ _)); (fail_if_success (with_reducible show wpAny _ _ (execs (Stmt.For _ _ _ _ _ :: _) _) _ _ _)); (fail_if_success (with_reducible show Exists _)); first | walk1 | (dsimp only; walk1) | (leave1; walk_say "STEP leave1"; try dsimp only))))
local macro_rules | `(tactic| walk_at "eval Name") => `(tactic| (k_here; k_dflt (refine' nameX_L ?F ?v ?_ ?a ?b; (case F => k_asm); (case a => rfl); (case b => rfl); (case v => first | exact rfl | assumption); k_whole)))
local macro_rules | `(tactic| walk_at "eval Name") => `(tactic| (k_here; (with_reducible show wpAny _ _ (eval (Expr.Name _ _) (compEnvC _ _ _ _)) _ _ _); k_dflt (first
  | (refine' nameC_L ?F ?v ?_ ?a ?b; (case a => rfl); (case b => rfl); (case F => k_asm); (case v => first | exact rfl | assumption); k_whole)
  | (refine' nameC_C ?F ?c ?o ?d ?_ ?a ?b; (case a => rfl); (case b => rfl); (case F => k_asm); (case c => rfl); (case o => assumption); (case d => assumption); k_whole)
  | (refine' nameC_F ?F ?c ?o ?d ?_ ?a ?b; (case a => rfl); (case b => rfl); (case F => k_asm); (case c => rfl); (case o => assumption); (case d => assumption); k_whole)
  | (refine' nameC_K ?F ?X ?T ?e ?_ ?g ?a ?b; (case a => rfl); (case b => rfl); (case F => k_asm); (case X => k_asm); (case T => k_asm); (case e => k_is); (case g => rfl); k_whole)
  | (refine' nameC_B ?F ?X ?T ?e ?v ?n ?_ ?g ?h ?a ?b; (case a => rfl); (case b => rfl); (case F => k_asm); (case X => k_asm); (case T => k_asm); (case e => k_is); (case v => boot_fast); (case n => decide); (case g => rfl); (case h => rfl); k_whole))))
local macro_rules | `(tactic| walk_at "execs cons") => `(tactic| ((with_reducible refine wpAny_execs_cons ?_); try dsimp only))
local macro_rules | `(tactic| walk_at "execs nil") => `(tactic| ((with_reducible refine wpAny_execs_nil ?_); try dsimp only))


local macro_rules | `(tactic| walk_at "call builtin:len") => `(tactic| (k_here; (with_reducible show wpAny _ _ (call (Value.builtin "len") [Value.ref _]) _ _ _); refine lenN (vs := _) (by first | exact News.isList (by k_asm) (by k_mem) | exact stays_list (Fr.keep (by assumption)) (by assumption)) (by omega) ?_))

/-- the rows laid so far, each with its numbers -/
def RowsOk (M : Nat) (ords : List (List (List Nat))) (i : Nat) (rv : List Value) (ros : List (Addr × Obj)) : Prop :=
  rv = ros.map (fun q => .ref q.1) ∧ ros.length = i ∧ ∀ (j : Nat) (q : Addr × Obj) (c : List (List Nat)), ros[j]? = some q → ords[j]? = some c → ∃ rs n, q.2 = listOf (List.toArray rs) n ∧ IntsAre rs (rowOf c M)
theorem RowsOk.nil {M : Nat} {ords : List (List (List Nat))} : RowsOk M ords 0 [] [] := ⟨rfl, rfl, fun j q c e => by simp at e⟩
theorem RowsOk.snoc {M i : Nat} {ords : List (List (List Nat))} {rv rs : List Value} {ros : List (Addr × Obj)} {c : List (List Nat)} {r : Addr} {n : Nat} (h : RowsOk M ords i rv ros) (hc : ords[i]? = some c) (hI : IntsAre rs (rowOf c M)) : RowsOk M ords (i + 1) (rv ++ [.ref r]) (ros ++ [(r, listOf rs.toArray n)]) := by
  obtain ⟨h1, h2, h3⟩ := h
  refine ⟨by rw [h1, List.map_append]; rfl, by rw [List.length_append, h2]; rfl, fun j q c' e e' => ?_⟩
  rcases Nat.lt_or_ge j ros.length with hj | hj
  · rw [List.getElem?_append_left hj] at e
    exact h3 j q c' e e'
  · rw [List.getElem?_append_right hj] at e
    have hj' : j = i := by
      cases hq : j - ros.length with
      | zero => omega
      | succ z => rw [hq] at e; simp at e
    subst hj'
    rw [h2, Nat.sub_self] at e
    cases e
    rw [hc] at e'
    cases e'
    exact ⟨rs, n, rfl, hI⟩
theorem news_lt1 {b₀ h : Heap} {L : Addr} {news : List (Addr × Obj)} (N : News b₀ L h news) : ∀ p ∈ news, p.1 < h.objs.size + 1 := fun p hp => Nat.lt_succ_of_lt (Heap.lt_size (N p hp).1)
theorem sorted_D {prog : Program} {w : World} {A : Around} {E : Value → Shared → Prop} {s : Shared} {h₀ : Heap} {L : Addr} {m : Str → Option Value} {news : List (Addr × Obj)} {l : Addr} {vs : List Value} {ss : List Str} {Q : Value → Shared → Prop}
    (F : Fr h₀ L s.heap m) (N : News h₀ L s.heap news) (hl : s.heap.IsList l vs.toArray) (hS : StrsAre vs ss) (h64 : vs.length < 64)
    (h : ∀ (D : Addr) (h' : Heap) (vs' : List Value) (ss' : List Str) (e : Nat), Fr h₀ L h' m → News h₀ L h' ((D, listOf vs'.toArray e) :: news) → (∀ p ∈ news, p.1 < D) → StrsAre vs' ss' → ss'.Perm ss → Q (.ref D) { s with heap := h' }) :
    wpAny (model prog w) A (call (.builtin "sorted") [.ref l]) Q E s :=
  sorted_N_str F N hl hS h64 fun h' vs' ss' e F' N' h1 h2 _ => h _ h' vs' ss' e F' N' (news_lt1 N) h1 h2
theorem News.cons' {b₀ h : Heap} {L : Addr} {p : Addr × Obj} {r : List (Addr × Obj)} (hp : h.get? p.1 = some p.2 ∧ p.1 ≠ L ∧ b₀.get? p.1 = none) (N : News b₀ L h r) : News b₀ L h (p :: r) := fun q hq => by
  rcases List.mem_cons.mp hq with rfl | hq
  · exact hp
  · exact N q hq
theorem News.two {b₀ h : Heap} {L : Addr} {r r' : List (Addr × Obj)} (N : News b₀ L h r) (N' : News b₀ L h r') : News b₀ L h (r ++ r') := fun q hq => by
  rcases List.mem_append.mp hq with hq | hq
  · exact N q hq
  · exact N' q hq
theorem perm_map {α β : Type} {f : α → β} {l1 l2 : List β} (h : l1.Perm l2) : ∀ {c : List α}, l2 = c.map f → ∃ c' : List α, c'.Perm c ∧ l1 = c'.map f := by
  induction h with
  | nil => intro c e; exact ⟨c, .refl _, e⟩
  | cons x h ih =>
    intro c e
    cases c with
    | nil => cases e
    | cons a r =>
      rw [List.map_cons, List.cons.injEq] at e
      obtain ⟨rfl, e⟩ := e
      obtain ⟨c', h1, rfl⟩ := ih e
      exact ⟨a :: c', h1.cons _, rfl⟩
  | swap x y l =>
    intro c e
    rcases c with _ | ⟨a, _ | ⟨b, r⟩⟩
    · cases e
    · cases e
    · simp only [List.map_cons, List.cons.injEq] at e
      obtain ⟨rfl, rfl, rfl⟩ := e
      exact ⟨b :: a :: r, .swap _ _ _, rfl⟩
  | trans h1 h2 ih1 ih2 =>
    intro c e
    obtain ⟨c2, p2, e2⟩ := ih2 e
    obtain ⟨c1, p1, e1⟩ := ih1 e2
    exact ⟨c1, p1.trans p2, e1⟩
local macro_rules | `(tactic| walk_at "subscriptTail Name Name ref int") => `(tactic| (k_here; (with_reducible show wpAny _ _ (subscriptTail _ _ (Value.ref _) (Value.int _ _)) _ _ _); refine item_list (stays_list (Fr.keep (by assumption)) (by assumption)) (by omega) (by omega) (by assumption) ?_))
theorem allLt_mem {d : Nat} {l : List (Addr × Obj)} (h : AllLt d l) : ∀ p ∈ l, @LT.lt Nat _ p.1 d := by
  induction l with
  | nil => intro p hp; cases hp
  | cons a r ih =>
    intro p hp
    rcases List.mem_cons.mp hp with e | hp
    · rw [e]; exact h.1
    · exact ih h.2 p hp
theorem law_turn {w p loose mean mg mb dp un fr gd s b₀ L fa} {Q : Flow → Shared → Prop} {body fb : List Stmt} {scope : Scope} {tgt it : Expr} {els : List Stmt} {ps0 : Pos} {m : Str → Option Value} {oK oO oW : Obj}
   {R DO DW : Addr} {nR nO nW M : Nat} {rv os ws : List Value} {css : List (List Nat)} {tl ex : List (Addr × Obj)} {ps : Array Value}
   (hlaw : LawIs w body scope) (hst : body[3]? = some (.For tgt it fb els ps0))
   (X : (hd.heap_39 w.params).In b₀) (T : Top p loose mean mg mb b₀) (CH1 : CodeHd b₀ 73 69) (hroom : dp + 10 < recursionLimit)
   (hS : StrsAre os (css.map S)) (hlens : ∀ cs ∈ css, cs.length ≤ M) (hM : M ≤ 9) (hcn : css.length ≤ 6) (hI : IntsAre ws (upTo M)) (hrv : rv.length ≤ 6)
   (F : Fr b₀ L s.heap m) (hrows : m (Str.ofString "rows") = some (.ref R))
   (N : News b₀ L s.heap ((L + 1 + 1 + 1, oO) :: (R, listOf rv.toArray nR) :: (L + 1 + 1, oK) :: (69, tabObj ps) :: (L + 1, oW) :: (DO, listOf os.toArray nO) :: (DW, listOf ws.toArray nW) :: (tl ++ ex)))
   (dK : ∃ v, oK.data = .cell v) (dO : oO.data = .cell (some (.ref DO))) (dW : oW.data = .cell (some (.ref DW)))
   (offs : ∀ q ∈ (L + 1 + 1 + 1, oO) :: (L + 1, oW) :: (DO, listOf os.toArray nO) :: (DW, listOf ws.toArray nW) :: tl, q.1 ≠ L + 1 + 1 ∧ q.1 ≠ R ∧ q.1 ≠ 69) (o1 : R ≠ L + 1 + 1) (o2 : R ≠ 69) (o3 : 69 ≠ L + 1 + 1)
   (hps : PsOk b₀ L 88 13 q69 ps ex)
   (h : ∀ h' tk' m' oK' (row : Addr) rs nr ps' ex', Fr b₀ L h' m' → m' (Str.ofString "rows") = some (.ref R) →
     News b₀ L h' ((R, listOf (rv ++ [Value.ref row]).toArray (nR + 1)) :: (L + 1 + 1, oK') :: (row, listOf (List.toArray rs) nr) :: (69, tabObj ps') :: (L + 1 + 1 + 1, oO) :: (L + 1, oW) :: (DO, listOf os.toArray nO) :: (DW, listOf ws.toArray nW) :: (tl ++ ex')) → (∃ v, oK'.data = .cell v) → IntsAre rs (rowOf css M) → PsOk b₀ L 88 13 q69 ps' ex' →
     @LT.lt Nat _ R row → @LT.lt Nat _ (L + 1 + 1 + 1) row → (∀ q ∈ tl, @LT.lt Nat _ q.1 row) → Q .next { s with heap := h', toks := tk' }) :
   wpAny (model PySem.Challenge.rw_ph0064_01.row.prog w) (Ar dp un fr gd) (execs fb (envX (Str.ofString "law") scope L fa (.ref 83) (cellsFrom (L + 1) scope.names []))) Q (fun _ _ => False) s := by
  w_on
  revert X; k_fill; intro X
  have hlaw' := hlaw
  obtain ⟨oc, od, name, qual, params, dV, kV, doc, pm, an, cdv, ct, osl, e⟩ := hlaw
  have e' := e.symm.trans (show (hd.heap_39 w.params).lookup 84 = some _ by k_is)
  clear e
  simp only [Option.some.injEq, Obj.mk.injEq, Data.func.injEq, FuncData.mk.injEq, FuncBody.stmts.injEq] at e'
  obtain ⟨-, -, ⟨-, -, -, rfl, rfl, -⟩, -⟩ := e'
  clear osl ct cdv an pm doc kV dV params qual name od oc
  simp only [List.getElem?_cons_succ, List.getElem?_cons_zero, Option.some.injEq, Stmt.For.injEq] at hst
  obtain ⟨-, -, rfl, -, -⟩ := hst
  walk_at "mine go"
  rename Fr _ _ _ _ => F1
  rename News _ _ _ _ => N1
  rename Addr => row
  rename _ ∧ _ => l1
  have l2 := allLt_mem l1.2.2.2.2.2.2.2
  refine wpAny_execs_cons ?_
  have hlt : ∀ q ∈ (L + 1 + 1 + 1, oO) :: (L + 1, oW) :: (DO, listOf os.toArray nO) :: (DW, listOf ws.toArray nW) :: (R, listOf rv.toArray nR) :: tl, @LT.lt Nat _ q.1 row := by
    intro q hq
    rcases List.mem_cons.mp hq with rfl | hq
    · exact l1.1
    rcases List.mem_cons.mp hq with rfl | hq
    · exact l1.2.2.2.2.1
    rcases List.mem_cons.mp hq with rfl | hq
    · exact l1.2.2.2.2.2.1
    rcases List.mem_cons.mp hq with rfl | hq
    · exact l1.2.2.2.2.2.2.1
    rcases List.mem_cons.mp hq with rfl | hq
    · exact l1.2.1
    exact l2 q (List.mem_append_left _ hq)
  refine law_inner (tl := (R, listOf rv.toArray nR) :: tl) (ex := ex) (row := row) (R := R) hlaw' rfl X T CH1 hroom hS hlens hM hcn (by assumption) F1 rfl (by simp only [hrows]; rfl) (n0 := 0) (nO := nO) (nW := nW) (ps := ps) (oK := oK) ?_ dK dO dW ?_ (fun e => Nat.lt_irrefl _ (e ▸ l1.2.2.1)) (fun e => Nat.lt_irrefl _ (e ▸ l1.2.2.2.1)) o3 hps ?_
  · refine News.cons' (N1 _ (by k_mem)) (News.cons' (N1 _ (by k_mem)) (News.cons' (N1 _ (by k_mem)) (News.cons' (N1 _ (by k_mem)) (News.cons' (N1 _ (by k_mem)) (News.cons' (N1 _ (by k_mem)) (News.cons' (N1 _ (by k_mem)) (News.cons' (N1 _ (by k_mem)) (fun q hq => N1 q (.tail _ (.tail _ (.tail _ (.tail _ (.tail _ (.tail _ (.tail _ (.tail _ hq))))))))))))))))
  · intro q hq
    have hq' : q ∈ (L + 1 + 1 + 1, oO) :: (L + 1, oW) :: (DO, listOf os.toArray nO) :: (DW, listOf ws.toArray nW) :: (R, listOf rv.toArray nR) :: tl := hq
    have hr := hlt q hq'
    have hoo : q.1 ≠ L + 1 + 1 ∧ q.1 ≠ 69 := by
      by_cases hc : q ∈ (L + 1 + 1 + 1, oO) :: (L + 1, oW) :: (DO, listOf os.toArray nO) :: (DW, listOf ws.toArray nW) :: tl
      · exact ⟨(offs q hc).1, (offs q hc).2.2⟩
      · have : q = (R, listOf rv.toArray nR) := by
          simp only [List.mem_cons] at hq' hc
          rcases hq' with e | e | e | e | e | e <;> first | exact e | exact absurd e (by simp only [not_or] at hc; simp [hc])
        rw [this]
        exact ⟨o1, o2⟩
    exact ⟨hoo.1, Nat.ne_of_lt hr, hoo.2⟩
  intro h3 tk3 m3 oK3 rs nr ps3 ex3 F3 hrow3 hrows3 N3 dK3 hRI hps3
  clear F1 N1
  walk_at "mine go"
  have hexR : ∀ p ∈ ex3, p.1 ≠ R := code_off (fun q hq => N3 q (by simp [hq])) hps3.1 (N3 (R, listOf rv.toArray nR) (by k_mem)).1 notCode_list
  have N4 : News b₀ L h3 ((R, listOf rv.toArray nR) :: (L + 1 + 1, oK3) :: (row, listOf rs.toArray nr) :: (69, tabObj ps3) :: (L + 1 + 1 + 1, oO) :: (L + 1, oW) :: (DO, listOf os.toArray nO) :: (DW, listOf ws.toArray nW) :: (tl ++ ex3)) := by
    refine News.cons' (N3 _ (by k_mem)) (News.cons' (N3 _ (by k_mem)) (News.cons' (N3 _ (by k_mem)) (News.cons' (N3 _ (by k_mem)) (News.cons' (N3 _ (by k_mem)) (News.cons' (N3 _ (by k_mem)) (News.cons' (N3 _ (by k_mem)) (News.cons' (N3 _ (by k_mem)) (fun q hq => N3 q (.tail _ (.tail _ (.tail _ (.tail _ (.tail _ (.tail _ (.tail _ (.tail _ hq))))))))))))))))
  refine append_K F3 N4 (Upd.head ?_) ?_ (by rw [sizeLine_eq]; simp; omega)
  · intro q hq
    rcases List.mem_cons.mp hq with rfl | hq
    · exact Ne.symm o1
    rcases List.mem_cons.mp hq with rfl | hq
    · exact Ne.symm (Nat.ne_of_lt l1.2.1)
    rcases List.mem_cons.mp hq with rfl | hq
    · exact Ne.symm o2
    rw [← List.cons_append, ← List.cons_append, ← List.cons_append, ← List.cons_append] at hq
    rcases List.mem_append.mp hq with hq | hq
    · exact (offs q hq).2.1
    · exact hexR q hq
  intro h5 F5 N5
  rw [List.push_toArray] at N5
  walk_at "mine go"
  exact h _ _ _ _ _ _ _ _ _ F5 hrows3 N5 dK3 hRI hps3 l1.2.1 l1.1 (fun q hq => l2 q (List.mem_append_left _ hq))
end Mine
namespace Mine
local macro_rules | `(tactic| walk_at "mine none") => `(tactic| skip)
local macro_rules | `(tactic| walk_at "mine go") => `(tactic| repeat' (first
  | (k_unfold; (try dsimp only))
  | ((fail_if_success (with_reducible show wpAny _ _ (exec (Stmt.While _ _ _ _) _) _ _ _)); (fail_if_success (with_reducible show wpAny _ _ (exec (Stmt.For _ _ _ _ _) _) _ _ _)); (fail_if_success (with_reducible show wpAny _ _ (call (Value.ref _) _ _) _ _ _)); (fail_if_success (with_reducible show wpAny _ _ (pyIter _) _ _ _)); (fail_if_success (with_reducible show wpAny _ _ (eval (Expr.ListComp _ _ _ _) _) _ _ _)); (fail_if_success (with_reducible show wpAny _ _ (eval (Expr.Lambda _ _ _ _) _) _ _ _)); (fail_if_success (with_reducible show wpAny _ _ (execs (Stmt.For _ _ _ _ _ :: _) _) _ _ _)); (fail_if_success (with_reducible show Exists _)); first | walk1 | (dsimp only; walk1) | (leave1; walk_say "STEP leave1"; try dsimp only))))
local macro_rules | `(tactic| walk_at "eval Name") => `(tactic| (k_here; k_dflt (refine' nameX_L ?F ?v ?_ ?a ?b; (case F => k_asm); (case a => rfl); (case b => rfl); (case v => first | exact rfl | assumption); k_whole)))
local macro_rules | `(tactic| walk_at "eval Name") => `(tactic| (k_here; (with_reducible show wpAny _ _ (eval (Expr.Name _ _) (compEnvC _ _ _ _)) _ _ _); k_dflt (first
  | (refine' nameC_L ?F ?v ?_ ?a ?b; (case a => rfl); (case b => rfl); (case F => k_asm); (case v => first | exact rfl | assumption); k_whole)
  | (refine' nameC_C ?F ?c ?o ?d ?_ ?a ?b; (case a => rfl); (case b => rfl); (case F => k_asm); (case c => rfl); (case o => assumption); (case d => assumption); k_whole)
  | (refine' nameC_F ?F ?c ?o ?d ?_ ?a ?b; (case a => rfl); (case b => rfl); (case F => k_asm); (case c => rfl); (case o => assumption); (case d => assumption); k_whole)
  | (refine' nameC_K ?F ?X ?T ?e ?_ ?g ?a ?b; (case a => rfl); (case b => rfl); (case F => k_asm); (case X => k_asm); (case T => k_asm); (case e => k_is); (case g => rfl); k_whole)
  | (refine' nameC_B ?F ?X ?T ?e ?v ?n ?_ ?g ?h ?a ?b; (case a => rfl); (case b => rfl); (case F => k_asm); (case X => k_asm); (case T => k_asm); (case e => k_is); (case v => boot_fast); (case n => decide); (case g => rfl); (case h => rfl); k_whole))))
local macro_rules | `(tactic| walk_at "execs cons") => `(tactic| ((with_reducible refine wpAny_execs_cons ?_); try dsimp only))
local macro_rules | `(tactic| walk_at "execs nil") => `(tactic| ((with_reducible refine wpAny_execs_nil ?_); try dsimp only))


local macro_rules | `(tactic| walk_at "call builtin:len") => `(tactic| (k_here; (with_reducible show wpAny _ _ (call (Value.builtin "len") [Value.ref _]) _ _ _); refine lenN (vs := _) (by first | exact News.isList (by k_asm) (by k_mem) | exact stays_list (Fr.keep (by assumption)) (by assumption)) (by omega) ?_))

local macro_rules | `(tactic| walk_at "subscriptTail Name Name ref int") => `(tactic| (k_here; (with_reducible show wpAny _ _ (subscriptTail _ _ (Value.ref _) (Value.int _ _)) _ _ _); refine item_list (stays_list (Fr.keep (by assumption)) (by assumption)) (by omega) (by omega) (by assumption) ?_))
theorem strs_rev {ys : List Value} {css : List (List Nat)} (hl : ys.length = css.length) (h : ∀ (i : Nat) (y : Value), ys[i]? = some y → ∃ t, y = .str (S (css.getD (css.length - 1 - i) [])) t) : StrsAre ys (css.reverse.map S) := by
  have key : ∀ {ys : List Value} {l : List (List Nat)}, ys.length = l.length → (∀ (i : Nat) (y : Value) (c : List Nat), ys[i]? = some y → l[i]? = some c → ∃ t, y = .str (S c) t) → StrsAre ys (l.map S) := by
    intro ys
    induction ys with
    | nil => intro l hl _; cases l with | nil => exact .nil | cons _ _ => cases hl
    | cons y r ih =>
      intro l hl h
      cases l with
      | nil => cases hl
      | cons c l =>
        obtain ⟨t, rfl⟩ := h 0 y c rfl rfl
        exact .cons _ _ (ih (by simpa using hl) (fun i y c e1 e2 => h (i + 1) y c (by simpa using e1) (by simpa using e2)))
  refine key (by rw [hl, List.length_reverse]) fun i y c e1 e2 => ?_
  obtain ⟨t, e⟩ := h i y e1
  have hi : i < css.length := by rw [← hl]; exact (List.getElem?_eq_some_iff.mp e1).1
  rw [List.getElem?_reverse hi] at e2
  rw [List.getD_eq_getElem?_getD, e2] at e
  exact ⟨t, e⟩
theorem apart_fx {L DT DW R D2 D3 : Nat} {a1 a2 a3 a4 a5 a6 a7 a8 : Obj} (lt1 : L + 1 + 1 + 1 + 1 + 1 < DT) (lt2 : DT < DW) (lt3 : DW < R) (l1 : 69 < L) (l2 : 81 < L)
    (e1 : R ≠ D2) (e2 : L + 1 + 1 + 1 ≠ D2) (e3 : L + 1 + 1 ≠ D2) (e4 : 69 ≠ D2) (f1 : R < D3) :
    ∀ q ∈ ([(L + 1, a1), (DW, a2), (DT, a3), (L + 1 + 1 + 1 + 1 + 1, a4), (L + 1 + 1 + 1 + 1, a5), (81, a6), (D2, a7), (D3, a8)] : List (Addr × Obj)), @Ne Nat q.1 (L + 1 + 1) ∧ @Ne Nat q.1 69 ∧ @Ne Nat q.1 R ∧ @Ne Nat q.1 (L + 1 + 1 + 1) := by
  intro q hq
  simp only [List.mem_cons, List.not_mem_nil, or_false] at hq
  rcases hq with rfl | rfl | rfl | rfl | rfl | rfl | rfl | rfl <;> dsimp only <;> refine ⟨?_, ?_, ?_, ?_⟩ <;> omega
theorem far {L R q : Nat} (l1 : 69 < L) (hR : L + 1 + 1 + 1 + 1 + 1 < R) (h : R < q) : q ≠ L + 1 + 1 ∧ q ≠ R ∧ q ≠ 69 ∧ q ≠ L + 1 + 1 + 1 := by omega
theorem far_L {L R q : Nat} (hR : L + 1 + 1 + 1 + 1 + 1 < R) (h : R < q) (e : q = L) : False := by omega
theorem mem_end {α : Type} {l1 l2 : List α} {q : α} (h : q ∈ l1 ++ l2) : q ∈ l1 ∨ q ∈ l2 := List.mem_append.mp h
theorem RowsOk.three {M : Nat} {c0 c1 c2 : List (List Nat)} {rv : List Value} {ros : List (Addr × Obj)} (h : RowsOk M [c0, c1, c2] 3 rv ros) :
    ∃ r0 r1 r2 rs0 rs1 rs2 n0 n1 n2, rv = [Value.ref r0, .ref r1, .ref r2] ∧ ros = [(r0, listOf (List.toArray rs0) n0), (r1, listOf (List.toArray rs1) n1), (r2, listOf (List.toArray rs2) n2)] ∧ IntsAre rs0 (rowOf c0 M) ∧ IntsAre rs1 (rowOf c1 M) ∧ IntsAre rs2 (rowOf c2 M) := by
  obtain ⟨hv, hl, hR⟩ := h
  obtain ⟨q0, q1, q2, rfl⟩ : ∃ q0 q1 q2, ros = [q0, q1, q2] := by
    rcases ros with _ | ⟨a, _ | ⟨b, _ | ⟨c, _ | ⟨d, r⟩⟩⟩⟩ <;> first | exact ⟨_, _, _, rfl⟩ | (simp at hl)
  obtain ⟨rs0, n0, y0, i0⟩ := hR 0 q0 c0 rfl rfl
  obtain ⟨rs1, n1, y1, i1⟩ := hR 1 q1 c1 rfl rfl
  obtain ⟨rs2, n2', y2, i2⟩ := hR 2 q2 c2 rfl rfl
  obtain ⟨r0, o0⟩ := q0
  obtain ⟨r1, o1⟩ := q1
  obtain ⟨r2, o2⟩ := q2
  dsimp only at y0 y1 y2
  subst y0 y1 y2 hv
  exact ⟨r0, r1, r2, rs0, rs1, rs2, n0, n1, n2', rfl, rfl, i0, i1, i2⟩
theorem law_loop {w p loose mean mg mb dp un fr gd s b₀ L fa} {Q : Flow → Shared → Prop} {body fb : List Stmt} {scope : Scope} {tgt it : Expr} {els : List Stmt} {ps0 : Pos} {m₀ : Str → Option Value} {oT oD oO oK oW : Obj}
   {css css3 : List (List Nat)} {ts ws ys ys3 : List Value} {M c n2 n3 : Nat} {DT DW R D2 D3 LO : Addr}
   (hlaw : LawIs w body scope) (hst : body[3]? = some (.For tgt it fb els ps0))
   (X : (hd.heap_39 w.params).In b₀) (T : Top p loose mean mg mb b₀) (CH1 : CodeHd b₀ 73 69) (hroom : dp + 10 < recursionLimit)
   (hS : StrsAre ts (css.map S)) (hS2 : StrsAre ys (css.reverse.map S)) (hS3 : StrsAre ys3 (css3.map S)) (hp3' : css3.Perm css) (hlens : ∀ cs ∈ css, cs.length ≤ M) (hM : M ≤ 9) (hcn : css.length ≤ 6 ∧ 3 ≤ css.length) (hI : IntsAre ws (upTo M))
   (F : Fr b₀ L s.heap m₀) (hrows : m₀ (Str.ofString "rows") = some (.ref R))
   (N4 : News b₀ L s.heap [(LO, listOf #[Value.ref DT, .ref D2, .ref D3] 0), (D3, listOf ys3.toArray n3), (D2, listOf ys.toArray n2), (R, listOf #[] 0), (DW, listOf ws.toArray c), (DT, listOf ts.toArray 0), (L + 1 + 1 + 1 + 1 + 1, oT), (L + 1 + 1 + 1 + 1, oD), (L + 1 + 1 + 1, oO), (L + 1 + 1, oK), (L + 1, oW), (69, tabObj #[]), (81, tabObj #[])])
   (dO : ∃ v, oO.data = .cell v) (dK : ∃ v, oK.data = .cell v) (dW : oW.data = .cell (some (.ref DW)))
   (lt : @LT.lt Nat _ (L + 1 + 1 + 1 + 1 + 1) DT ∧ @LT.lt Nat _ DT DW ∧ @LT.lt Nat _ DW R) (l0 : @LT.lt Nat _ 69 L ∧ @LT.lt Nat _ 81 L)
   (e2 : @Ne Nat R D2) (e3 : @Ne Nat (L + 1 + 1 + 1) D2) (e4 : @Ne Nat (L + 1 + 1) D2) (e5 : @Ne Nat 69 D2) (f1 : @LT.lt Nat _ R D3) (hLO : @LT.lt Nat _ R LO)
   (h : ∀ h' tk' m' oO' oK' r0 r1 r2 rs0 rs1 rs2 n0 n1 n2 nR ps', Fr b₀ L h' m' → m' (Str.ofString "rows") = some (.ref R) →
     News b₀ L h' [(R, listOf #[.ref r0, .ref r1, .ref r2] nR), (r0, listOf (List.toArray rs0) n0), (r1, listOf (List.toArray rs1) n1), (r2, listOf (List.toArray rs2) n2), (DW, listOf ws.toArray c), (DT, listOf ts.toArray 0), (L + 1 + 1 + 1 + 1 + 1, oT), (L + 1 + 1 + 1 + 1, oD), (L + 1 + 1 + 1, oO'), (L + 1 + 1, oK'), (L + 1, oW), (69, tabObj ps'), (81, tabObj #[])] →
     (∃ v, oK'.data = .cell v) → IntsAre rs0 (rowOf css M) → IntsAre rs1 (rowOf css.reverse M) → IntsAre rs2 (rowOf css3 M) → (@LT.lt Nat _ R r0 ∧ @LT.lt Nat _ R r1 ∧ @LT.lt Nat _ R r2) → Q .next { s with heap := h', toks := tk' }) :
   wpAny (model PySem.Challenge.rw_ph0064_01.row.prog w) (Ar dp un fr gd) (pyIter (.ref LO))
     (fun it s₂ => LoopAtC PySem.Challenge.rw_ph0064_01.row.prog w (Ar dp un fr gd) b₀ (envX (Str.ofString "law") scope L fa (.ref 83) (cellsFrom (L + 1) scope.names [])) (L + 1 + 1 + 1) fb Q (fun _ _ => False) it s₂) (fun _ _ => False) s := by
  obtain ⟨fx, hfx⟩ : ∃ fx : List (Addr × Obj), fx = [(L + 1, oW), (DW, listOf ws.toArray c), (DT, listOf ts.toArray 0), (L + 1 + 1 + 1 + 1 + 1, oT), (L + 1 + 1 + 1 + 1, oD), (81, tabObj #[]), (D2, listOf ys.toArray n2), (D3, listOf ys3.toArray n3)] := ⟨_, rfl⟩
  have hfo : ∀ q ∈ fx, q.1 ≠ L + 1 + 1 ∧ q.1 ≠ 69 ∧ q.1 ≠ R ∧ q.1 ≠ L + 1 + 1 + 1 := by
    rw [hfx]
    exact apart_fx lt.1 lt.2.1 lt.2.2 l0.1 l0.2 e2 e3 e4 e5 f1
  have hR5 : @LT.lt Nat _ (L + 1 + 1 + 1 + 1 + 1) R := Nat.lt_trans lt.1 (Nat.lt_trans lt.2.1 lt.2.2)
  have hh4 : @LT.lt Nat _ R s.heap.objs.size := Heap.lt_size (N4 (R, listOf #[] 0) (by k_mem)).1
  have hord : ∀ (i : Nat) v, [Value.ref DT, Value.ref D2, Value.ref D3][i]? = some v → ∃ DO os nO c0, v = Value.ref DO ∧ [css, css.reverse, css3][i]? = some c0 ∧ (DO, listOf (List.toArray os) nO) ∈ fx ∧ StrsAre os (c0.map S) ∧ (∀ cs ∈ c0, cs.length ≤ M) ∧ c0.length ≤ 6 := by
    intro i v hv
    rcases i with _ | _ | _ | i
    · cases hv
      exact ⟨DT, ts, 0, css, rfl, rfl, by rw [hfx]; k_mem, hS, hlens, hcn.1⟩
    · cases hv
      exact ⟨D2, ys, n2, css.reverse, rfl, rfl, by rw [hfx]; k_mem, hS2, fun cs hc => hlens cs (List.mem_reverse.mp hc), by rw [List.length_reverse]; exact hcn.1⟩
    · cases hv
      exact ⟨D3, ys3, n3, css3, rfl, rfl, by rw [hfx]; k_mem, hS3, fun cs hc => hlens cs (hp3'.mem_iff.mp hc), by rw [hp3'.length_eq]; exact hcn.1⟩
    · simp at hv
  have N5 : News b₀ L s.heap ((L + 1 + 1 + 1, oO) :: ((R, listOf #[] 0) :: (L + 1 + 1, oK) :: (69, tabObj #[]) :: (fx ++ ([] ++ [])))) := by
    rw [hfx]
    refine News.cons' (N4 _ (by k_mem)) (News.cons' (N4 _ (by k_mem)) (News.cons' (N4 _ (by k_mem)) (News.cons' (N4 _ (by k_mem)) ?_)))
    simp only [List.append_nil]
    repeat (first | exact News.nil | refine News.cons' (N4 _ (by k_mem)) ?_)
  refine iterC_list (env := envX _ _ _ _ _ _) (vs := [Value.ref DT, Value.ref D2, Value.ref D3]) (fun i m rest => ∃ (rv : List Value) (ros : List (Addr × Obj)) (oK' : Obj) (nR : Nat) (ps : Array Value) (ex : List (Addr × Obj)), rest = (R, listOf rv.toArray nR) :: (L + 1 + 1, oK') :: (69, tabObj ps) :: (fx ++ (ros ++ ex)) ∧ (∃ v, oK'.data = .cell v) ∧
      m (Str.ofString "rows") = some (.ref R) ∧ PsOk b₀ L 88 13 q69 ps ex ∧ RowsOk M [css, css.reverse, css3] i rv ros ∧ ∀ q ∈ ros, @LT.lt Nat _ R q.1) rfl (News.isList N4 (.head _)) ?_ ?_ F N5 dO ?_ ⟨[], [], oK, 0, #[], [], rfl, dK, hrows, .start, .nil, by simp⟩ ?_ ?_
  · exact fun e => far_L hR5 hLO e
  · exact (far l0.1 hR5 hLO).2.2.2
  · intro q hq
    rcases List.mem_cons.mp hq with rfl | hq
    · exact Nat.ne_of_gt (Nat.lt_trans (by omega) hR5)
    rcases List.mem_cons.mp hq with rfl | hq
    · exact Nat.ne_of_lt (Nat.lt_succ_self _)
    rcases List.mem_cons.mp hq with rfl | hq
    · exact Nat.ne_of_lt (by have := l0.1; omega)
    simp only [List.append_nil] at hq
    exact (hfo q hq).2.2.2
  · rintro i v m₁ rest₁ h₁ tk₁ oc₁ own hv ⟨rv, ros, oK1, nR, ps1, ex1, rfl, ⟨vK, dK1⟩, hr1, hps1, hRO, hro⟩ hoff hown ⟨oI, hoI, hnc⟩ hoc F1 N1
    obtain ⟨DO, os, nO, c0, hvE, hc0, hmem, hSo, hlo, hno⟩ := hord i v hv
    rw [hvE] at hoc
    have hi3 : i < 3 := by have := (List.getElem?_eq_some_iff.mp hv).1; simpa using this
    change Fr b₀ L h₁ m₁ at F1
    clear F N4 N5
    refine law_turn (tl := fx ++ (ros ++ own)) (ex := ex1) (R := R) (DO := DO) (DW := DW) (nR := nR) (nO := nO) (nW := c) (rv := rv) (os := os) (ws := ws) (css := c0) (M := M) (oK := oK1) (oW := oW) hlaw hst X T CH1 hroom hSo hlo hM hno hI ?_ F1 hr1 ?_ ⟨vK, dK1⟩ hoc dW ?_ ?_ ?_ ?_ hps1 ?_
    · obtain ⟨x1, x2, -⟩ := hRO
      rw [x1, List.length_map, x2]; omega
    · have hsub : ∀ q ∈ fx, h₁.get? q.1 = some q.2 ∧ q.1 ≠ L ∧ b₀.get? q.1 = none := fun q hq => N1 q (by simp only [List.cons_append, List.mem_cons, List.mem_append]; simp [hq])
      refine News.cons' (N1 _ (.head _)) (News.cons' (N1 _ (.tail _ (.head _))) (News.cons' (N1 _ (.tail _ (.tail _ (.head _)))) (News.cons' (N1 _ (.tail _ (.tail _ (.tail _ (.head _))))) (News.cons' (hsub (L + 1, oW) (by rw [hfx]; k_mem)) (News.cons' (hsub _ hmem) (News.cons' (hsub (DW, _) (by rw [hfx]; k_mem)) (fun q hq => N1 q ?_)))))))
      simp only [List.cons_append, List.mem_cons, List.mem_append] at hq ⊢
      rcases hq with (hq | hq | hq) | hq <;> simp [hq]
    · have hall : ∀ q ∈ fx ++ (ros ++ own), q.1 ≠ L + 1 + 1 ∧ q.1 ≠ R ∧ q.1 ≠ 69 := by
        intro q hq
        rcases List.mem_append.mp hq with hq | hq
        · exact ⟨(hfo q hq).1, (hfo q hq).2.2.1, (hfo q hq).2.1⟩
        rcases List.mem_append.mp hq with hq | hq
        · have := far l0.1 hR5 (hro q hq); exact ⟨this.1, this.2.1, this.2.2.1⟩
        · have := far l0.1 hR5 (q := q.1) (by rcases hown q hq with e | e <;> rw [e] <;> assumption)
          exact ⟨this.1, this.2.1, this.2.2.1⟩
      intro q hq
      rcases List.mem_cons.mp hq with rfl | hq
      · exact ⟨Nat.ne_of_gt (Nat.lt_succ_self _), Nat.ne_of_lt (Nat.lt_trans (by omega) hR5), Nat.ne_of_gt (by have := l0.1; omega)⟩
      rcases List.mem_cons.mp hq with rfl | hq
      · exact hall _ (List.mem_append_left _ (by rw [hfx]; k_mem))
      rcases List.mem_cons.mp hq with rfl | hq
      · exact hall _ (List.mem_append_left _ hmem)
      rcases List.mem_cons.mp hq with rfl | hq
      · exact hall _ (List.mem_append_left _ (by rw [hfx]; k_mem))
      exact hall q hq
    · exact Nat.ne_of_gt (Nat.lt_trans (by omega) hR5)
    · exact Nat.ne_of_gt (Nat.lt_trans (by have := l0.1; omega) hR5)
    · exact Nat.ne_of_lt (by have := l0.1; omega)
    intro h3 tk3 m3 oK3 row rs nr ps3 ex3 F3 hrows3 N3 dK3 hRI hps3 hlt1 hlt2 hlt3
    obtain ⟨vK3, dK3'⟩ := dK3
    have hex : ∀ p ∈ ex3, h3.get? p.1 = some p.2 ∧ p.1 ≠ L ∧ b₀.get? p.1 = none := fun p hp => N3 p (by simp [hp])
    refine StepC.next F3 (rest₂ := (R, listOf (rv ++ [Value.ref row]).toArray (nR + 1)) :: (L + 1 + 1, oK3) :: (69, tabObj ps3) :: (fx ++ ((ros ++ [(row, listOf rs.toArray nr)]) ++ ex3))) ?_ hoc ?_ ⟨_, _, _, _, _, _, rfl, ⟨vK3, dK3'⟩, hrows3, hps3, hRO.snoc hc0 hRI, ?_⟩
    · intro q hq
      refine N3 q ?_
      simp only [List.cons_append, List.mem_cons, List.mem_append, List.append_assoc, List.nil_append] at hq ⊢
      rcases hq with hq | hq | hq | hq | hq | hq | hq | hq | hq <;> simp [hq]
    · have hI1 := code_off hex hps3.1 (N3 (s.heap.objs.size, oI) (by simp [hoI])).1 hnc
      have hI2 := code_off hex hps3.1 (N3 (L + 1 + 1 + 1, oc₁) (by k_mem)).1 (notCode_cell hoc)
      have hIrow := hlt3 (s.heap.objs.size, oI) (by simp [hoI])
      intro q hq
      rcases List.mem_cons.mp hq with rfl | hq
      · exact hoff (R, listOf rv.toArray nR) (.head _)
      rcases List.mem_cons.mp hq with rfl | hq
      · exact hoff (L + 1 + 1, oK1) (.tail _ (.head _))
      rcases List.mem_cons.mp hq with rfl | hq
      · exact hoff (69, tabObj ps1) (.tail _ (.tail _ (.head _)))
      rcases List.mem_append.mp hq with hq | hq
      · exact hoff q (.tail _ (.tail _ (.tail _ (List.mem_append_left _ hq))))
      rcases List.mem_append.mp hq with hq | hq
      · rcases List.mem_append.mp hq with hq | hq
        · exact hoff q (.tail _ (.tail _ (.tail _ (List.mem_append_right _ (List.mem_append_left _ hq)))))
        · rw [List.mem_singleton.mp hq]
          refine ⟨fun e => ?_, Nat.ne_of_gt hlt2⟩
          exact Nat.lt_irrefl _ ((List.mem_singleton.mp e) ▸ hIrow)
      · exact ⟨fun e => hI1 q hq (List.mem_singleton.mp e), hI2 q hq⟩
    · intro q hq
      rcases List.mem_append.mp hq with hq | hq
      · exact hro q hq
      · rw [List.mem_singleton.mp hq]; exact hlt1
  · rintro h₁ tk₁ m₁ oc₁ rest₁ F1 N1 hoc hoff ⟨rv, ros, oK1, nR, ps1, ex1, rfl, dK1, hr1, hps1, ⟨hv, hl, hR⟩, hro⟩
    obtain ⟨r0, r1, r2, rs0, rs1, rs2, n0, n1, n2', z1, z2, i0, i1, i2⟩ := RowsOk.three ⟨hv, hl, hR⟩
    rw [z2] at N1 hro
    rw [z1] at N1
    have hsub : ∀ q ∈ fx, h₁.get? q.1 = some q.2 ∧ q.1 ≠ L ∧ b₀.get? q.1 = none := fun q hq => N1 q (by simp [hq])
    refine h h₁ tk₁ m₁ oc₁ oK1 r0 r1 r2 rs0 rs1 rs2 n0 n1 n2' nR ps1 F1 hr1 ?_ dK1 i0 i1 i2 ⟨hro (r0, _) (by k_mem), hro (r1, _) (by k_mem), hro (r2, _) (by k_mem)⟩
    refine News.cons' (N1 _ (by simp)) (News.cons' (N1 _ (by simp)) (News.cons' (N1 _ (by simp)) (News.cons' (N1 _ (by simp)) (News.cons' (hsub _ (by rw [hfx]; k_mem)) (News.cons' (hsub _ (by rw [hfx]; k_mem)) (News.cons' (hsub _ (by rw [hfx]; k_mem)) (News.cons' (hsub _ (by rw [hfx]; k_mem)) (News.cons' (N1 _ (by simp)) (News.cons' (N1 _ (by simp)) (News.cons' (hsub _ (by rw [hfx]; k_mem)) (News.cons' (N1 _ (by simp)) (News.cons' (hsub _ (by rw [hfx]; k_mem)) News.nil))))))))))))
theorem law_B {w p loose mean mg mb dp un fr gd s b₀ L fa} {Q : Flow → Shared → Prop} {body : List Stmt} {scope : Scope} {m₀ : Str → Option Value} {oT oD oO oK oW : Obj} {css : List (List Nat)} {ts ws : List Value} {M c : Nat} {DT DW R : Addr}
   (hlaw : LawIs w body scope)
   (X : (hd.heap_39 w.params).In b₀) (T : Top p loose mean mg mb b₀) (CH1 : CodeHd b₀ 73 69) (hroom : dp + 10 < recursionLimit)
   (hS : StrsAre ts (css.map S)) (hlens : ∀ cs ∈ css, cs.length ≤ M) (hM : M ≤ 9) (hcn : css.length ≤ 6 ∧ 3 ≤ css.length) (hI : IntsAre ws (upTo M))
   (F : Fr b₀ L s.heap m₀) (hrows : m₀ (Str.ofString "rows") = some (.ref R))
   (N : News b₀ L s.heap [(R, listOf #[] 0), (DW, listOf ws.toArray c), (DT, listOf ts.toArray 0), (L + 1 + 1 + 1 + 1 + 1, oT), (L + 1 + 1 + 1 + 1, oD), (L + 1 + 1 + 1, oO), (L + 1 + 1, oK), (L + 1, oW), (69, tabObj #[]), (81, tabObj #[])])
   (dT : oT.data = .cell (some (.ref DT))) (dO : ∃ v, oO.data = .cell v) (dK : ∃ v, oK.data = .cell v) (dW : oW.data = .cell (some (.ref DW)))
   (lt : @LT.lt Nat _ (L + 1 + 1 + 1 + 1 + 1) DT ∧ @LT.lt Nat _ DT DW ∧ @LT.lt Nat _ DW R) (l0 : @LT.lt Nat _ 69 L ∧ @LT.lt Nat _ 81 L)
   (h : ∀ h' tk' m' oO' oK' r0 r1 r2 rs0 rs1 rs2 n0 n1 n2 nR ps' css', css'.Perm css → Fr b₀ L h' m' → m' (Str.ofString "rows") = some (.ref R) →
     News b₀ L h' [(R, listOf #[.ref r0, .ref r1, .ref r2] nR), (r0, listOf (List.toArray rs0) n0), (r1, listOf (List.toArray rs1) n1), (r2, listOf (List.toArray rs2) n2), (DW, listOf ws.toArray c), (DT, listOf ts.toArray 0), (L + 1 + 1 + 1 + 1 + 1, oT), (L + 1 + 1 + 1 + 1, oD), (L + 1 + 1 + 1, oO'), (L + 1 + 1, oK'), (L + 1, oW), (69, tabObj ps'), (81, tabObj #[])] →
     (∃ v, oK'.data = .cell v) → IntsAre rs0 (rowOf css M) → IntsAre rs1 (rowOf css.reverse M) → IntsAre rs2 (rowOf css' M) → (@LT.lt Nat _ R r0 ∧ @LT.lt Nat _ R r1 ∧ @LT.lt Nat _ R r2) →
     wpAny (model PySem.Challenge.rw_ph0064_01.row.prog w) (Ar dp un fr gd) (execs (body.drop 4) (envX (Str.ofString "law") scope L fa (.ref 83) (cellsFrom (L + 1) scope.names []))) Q (fun _ _ => False) { s with heap := h', toks := tk' }) :
   wpAny (model PySem.Challenge.rw_ph0064_01.row.prog w) (Ar dp un fr gd) (execs (body.drop 3) (envX (Str.ofString "law") scope L fa (.ref 83) (cellsFrom (L + 1) scope.names []))) Q (fun _ _ => False) s := by
  w_on
  revert X; k_fill; intro X
  have hlaw' := hlaw
  obtain ⟨oc, od, name, qual, params, dV, kV, doc, pm, an, cdv, ct, osl, e⟩ := hlaw
  have e' := e.symm.trans (show (hd.heap_39 w.params).lookup 84 = some _ by k_is)
  clear e
  simp only [Option.some.injEq, Obj.mk.injEq, Data.func.injEq, FuncData.mk.injEq, FuncBody.stmts.injEq] at e'
  obtain ⟨-, -, ⟨-, -, -, rfl, rfl, -⟩, -⟩ := e'
  clear osl ct cdv an pm doc kV dV params qual name od oc
  simp only [List.drop_succ_cons, List.drop_zero] at h ⊢
  refine wpAny_execs_cons ?_
  refine For_cell b₀ rfl rfl (c := L + 1 + 1 + 1) rfl ?_
  have htl : ts.length = css.length := by rw [hS.length, List.length_map]
  walk_at "mine go"
  refine lc_range ((ts.length : Int) - 1) (-1) (by decide) (fun i y => ∃ t, y = .str (S (css.getD (css.length - 1 - i) [])) t) rfl (cl := [(Str.ofString "texts", L + 1 + 1 + 1 + 1 + 1)]) rfl (by decide) rfl (by decide) rfl ?_
  walk_at "mine go"
  rename Fr _ _ _ _ => F1
  rename News _ _ _ _ => N1
  rename IsRange _ _ _ _ _ _ _ _ => hr
  refine ⟨_, _, _, _, _, css.length, rfl, hr, small_down (by omega) (by omega) (by omega) (by omega), by rw [rangeSize_downNat]; omega, by rw [sizeLine_eq]; omega, ?_, ?_⟩
  · intro C i t' s₃ m₃ E' hi F₃ hm₃
    have hDT4 := News.isList N1 (a := DT) (items := ts.toArray) (by k_mem)
    have hcT := (N1 (L + 1 + 1 + 1 + 1 + 1, oT) (by k_mem)).1
    have hi' : css.length - 1 - i < css.length := by omega
    obtain ⟨tv, hvk⟩ : ∃ tv, ts.toArray[((ts.length : Int) - 1 + (i : Int) * -1).toNat]? = some (.str (S (css.getD (css.length - 1 - i) [])) tv) := by
      obtain ⟨tv, e⟩ := hS.get (css.length - 1 - i) (S (css.getD (css.length - 1 - i) [])) (by rw [List.getElem?_map, List.getElem?_eq_getElem hi', List.getD_eq_getElem?_getD, List.getElem?_eq_getElem hi']; rfl)
      rw [show ((ts.length : Int) - 1 + (i : Int) * -1).toNat = css.length - 1 - i by omega]
      exact ⟨tv, by simpa using e⟩
    walk_at "mine go"
    · exact ⟨_, rfl⟩
    · exact ⟨_, _, rfl, fun _ _ e => e⟩
  intro D2 h2 tk2 ys hD2 hpl2 hyl hP2 hk2
  have hS2 : StrsAre ys (css.reverse.map S) := strs_rev hyl hP2
  obtain ⟨n2, hpl2⟩ := hpl2
  have F2 := F1.grownK hk2
  obtain ⟨N2, off2⟩ := news_add F1 N1 hk2 hD2 hpl2
  clear F1 N1
  walk_at "mine go"
  refine sorted_D F2 N2 (News.isList N2 (by k_mem)) hS (by omega) ?_
  intro D3 h3 ys3 ss3 n3 F3 N3 l3 hS3 hp3
  have f1 : R < D3 := l3 (R, listOf #[] 0) (by k_mem)
  clear l3
  clear F2 N2
  obtain ⟨css3, hp3', rfl⟩ := perm_map hp3 rfl
  walk_at "mine go"
  rename Fr _ _ _ _ => F4
  rename News _ _ _ _ => N4
  rename Addr => LO
  have e2 := off2 (R, _) (.head _)
  have e3 := off2 (L + 1 + 1 + 1, oO) (by k_mem)
  have e4 := off2 (L + 1 + 1, oK) (by k_mem)
  have e5 := off2 (69, _) (by k_mem)
  clear off2 hpl2 hP2 hD2 hk2
  rename _ ∧ _ => l1
  refine law_loop (css := css) (css3 := css3) hlaw' rfl X T CH1 hroom hS hS2 hS3 hp3' hlens hM hcn hI F4 hrows N4 dO dK dW lt l0 e2 e3 e4 e5 f1 l1.2.2.1 ?_
  intro h' tk' m' oO' oK' r0 r1 r2 rs0 rs1 rs2 n0 n1 n2 nR ps' F5 hr5 N5 dK5 i0 i1 i2 l5
  exact h h' tk' m' oO' oK' r0 r1 r2 rs0 rs1 rs2 n0 n1 n2 nR ps' css3 hp3' F5 hr5 N5 dK5 i0 i1 i2 l5
end Mine
namespace Mine
local macro_rules | `(tactic| walk_at "mine none") => `(tactic| skip)
local macro_rules | `(tactic| walk_at "mine none") => `(tactic| skip)
local macro_rules | `(tactic| walk_at "mine go") => `(tactic| repeat' (first
  | (k_unfold; (try dsimp only))
  | ((fail_if_success (with_reducible show wpAny _ _ (exec (Stmt.While _ _ _ _) _) _ _ _)); (fail_if_success (with_reducible show wpAny _ _ (exec (Stmt.For _ _ _ _ _) _) _ _ _)); (fail_if_success (with_reducible show wpAny _ _ (call (Value.ref _) _ _) _ _ _)); (fail_if_success (with_reducible show wpAny _ _ (pyIter _) _ _ _)); (fail_if_success (with_reducible show wpAny _ _ (eval (Expr.ListComp _ _ _ _) _) _ _ _)); (fail_if_success (with_reducible show wpAny _ _ (eval (Expr.Lambda _ _ _ _) _) _ _ _)); (fail_if_success (with_reducible show wpAny _ _ (execs (Stmt.For _ _ _ _ _ :: _) _) _ _ _)); (fail_if_success (with_reducible show wpAny _ _ (compareOp _ (Value.ref _) (Value.ref _)) _ _ _)); (fail_if_success (with_reducible show Exists _)); first | walk1 | (dsimp only; walk1) | (leave1; walk_say "STEP leave1"; try dsimp only))))
local macro_rules | `(tactic| walk_at "eval Name") => `(tactic| (k_here; k_dflt (refine' nameX_L ?F ?v ?_ ?a ?b; (case F => k_asm); (case a => rfl); (case b => rfl); (case v => first | exact rfl | assumption); k_whole)))
local macro_rules | `(tactic| walk_at "eval Name") => `(tactic| (k_here; (with_reducible show wpAny _ _ (eval (Expr.Name _ _) (compEnvC _ _ _ _)) _ _ _); k_dflt (first
  | (refine' nameC_L ?F ?v ?_ ?a ?b; (case a => rfl); (case b => rfl); (case F => k_asm); (case v => first | exact rfl | assumption); k_whole)
  | (refine' nameC_C ?F ?c ?o ?d ?_ ?a ?b; (case a => rfl); (case b => rfl); (case F => k_asm); (case c => rfl); (case o => assumption); (case d => assumption); k_whole)
  | (refine' nameC_F ?F ?c ?o ?d ?_ ?a ?b; (case a => rfl); (case b => rfl); (case F => k_asm); (case c => rfl); (case o => assumption); (case d => assumption); k_whole)
  | (refine' nameC_K ?F ?X ?T ?e ?_ ?g ?a ?b; (case a => rfl); (case b => rfl); (case F => k_asm); (case X => k_asm); (case T => k_asm); (case e => k_is); (case g => rfl); k_whole)
  | (refine' nameC_B ?F ?X ?T ?e ?v ?n ?_ ?g ?h ?a ?b; (case a => rfl); (case b => rfl); (case F => k_asm); (case X => k_asm); (case T => k_asm); (case e => k_is); (case v => boot_fast); (case n => decide); (case g => rfl); (case h => rfl); k_whole))))
local macro_rules | `(tactic| walk_at "execs cons") => `(tactic| ((with_reducible refine wpAny_execs_cons ?_); try dsimp only))
local macro_rules | `(tactic| walk_at "execs nil") => `(tactic| ((with_reducible refine wpAny_execs_nil ?_); try dsimp only))


local macro_rules | `(tactic| walk_at "call builtin:len") => `(tactic| (k_here; (with_reducible show wpAny _ _ (call (Value.builtin "len") [Value.ref _]) _ _ _); refine lenN (vs := _) (by first | exact News.isList (by k_asm) (by k_mem) | exact stays_list (Fr.keep (by assumption)) (by assumption)) (by omega) ?_))

local macro_rules | `(tactic| walk_at "subscriptTail Name Name ref int") => `(tactic| (k_here; (with_reducible show wpAny _ _ (subscriptTail _ _ (Value.ref _) (Value.int _ _)) _ _ _); refine item_list (stays_list (Fr.keep (by assumption)) (by assumption)) (by omega) (by omega) (by assumption) ?_))
theorem ne_strs {prog : Program} {w : World} {A : Around} {E : Value → Shared → Prop} {s : Shared} {a b : Addr} {xs ys : List Value} {ss : List Str} {Q : Value → Shared → Prop} (ha : s.heap.IsList a xs.toArray) (hb : s.heap.IsList b ys.toArray) (hi : StrsAre xs ss) (hj : StrsAre ys ss) (hu : A.units + 64 < cLine) (h : Q (.bool false) s) :
    wpAny (model prog w) A (compareOp .NotEq (.ref a) (.ref b)) Q E s := by
  have hl : xs.length = ys.length := by rw [hi.length, hj.length]
  refine (SeqAt.RcNeAt.lists (e := fun _ => true) ha hb (by simpa using hl) (by omega) (fun j h1 h2 => ?_)) prog w E Q (by
    rw [show (List.range xs.toArray.size).all (fun _ => true) = true by simp]; exact h)
  rw [List.size_toArray] at h1 h2
  obtain ⟨y, t, e1, hy⟩ := hi.item j xs[j] (List.getElem?_eq_getElem h1)
  obtain ⟨t', e2⟩ := hj.get j y hy
  rw [List.getElem?_eq_getElem h2, Option.some.injEq] at e2
  rw [List.getElem_toArray, List.getElem_toArray, e1, e2]
  have := SeqAt.EqAt.str_str (A := A.in1) (s := s) y t y t'
  rwa [beq_self_eq_true] at this
theorem law_C {w p loose mean mg mb dp un fr gd s b₀ L fa} {Q : Flow → Shared → Prop} {body : List Stmt} {scope : Scope} {m₀ : Str → Option Value} {rest : List (Addr × Obj)} {R r0 r1 r2 : Addr} {rs0 rs1 rs2 : List Value} {n0 n1 n2 nR : Nat} {row : List Int}
   (hlaw : LawIs w body scope)
   (X : (hd.heap_39 w.params).In b₀) (T : Top p loose mean mg mb b₀) (hroom : dp + 10 < recursionLimit)
   (F : Fr b₀ L s.heap m₀) (hrows : m₀ (Str.ofString "rows") = some (.ref R))
   (N : News b₀ L s.heap ((R, listOf #[.ref r0, .ref r1, .ref r2] nR) :: (r0, listOf (List.toArray rs0) n0) :: (r1, listOf (List.toArray rs1) n1) :: (r2, listOf (List.toArray rs2) n2) :: rest))
   (i0 : IntsAre rs0 row) (i1 : IntsAre rs1 row) (i2 : IntsAre rs2 row) (hr6 : row.length ≤ 6) (hun : un + 64 < cLine)
   (h : ∀ h' tk', Fr b₀ L h' m₀ → News b₀ L h' ((R, listOf #[.ref r0, .ref r1, .ref r2] nR) :: (r0, listOf (List.toArray rs0) n0) :: (r1, listOf (List.toArray rs1) n1) :: (r2, listOf (List.toArray rs2) n2) :: rest) →
     wpAny (model PySem.Challenge.rw_ph0064_01.row.prog w) (Ar dp un fr gd) (execs (body.drop 5) (envX (Str.ofString "law") scope L fa (.ref 83) (cellsFrom (L + 1) scope.names []))) Q (fun _ _ => False) { s with heap := h', toks := tk' }) :
   wpAny (model PySem.Challenge.rw_ph0064_01.row.prog w) (Ar dp un fr gd) (execs (body.drop 4) (envX (Str.ofString "law") scope L fa (.ref 83) (cellsFrom (L + 1) scope.names []))) Q (fun _ _ => False) s := by
  w_on
  revert X; k_fill; intro X
  obtain ⟨oc, od, name, qual, params, dV, kV, doc, pm, an, cdv, ct, osl, e⟩ := hlaw
  have e' := e.symm.trans (show (hd.heap_39 w.params).lookup 84 = some _ by k_is)
  clear e
  simp only [Option.some.injEq, Obj.mk.injEq, Data.func.injEq, FuncData.mk.injEq, FuncBody.stmts.injEq] at e'
  obtain ⟨-, -, ⟨-, -, -, rfl, rfl, -⟩, -⟩ := e'
  clear osl ct cdv an pm doc kV dV params qual name od oc
  simp only [List.drop_succ_cons, List.drop_zero] at h ⊢
  refine wpAny_execs_cons ?_
  walk_at "mine go"
  refine ke_ne_ints (News.isList (by assumption) (by k_mem)) (News.isList (by assumption) (by k_mem)) i1 i0 hun ?_
  rw [decide_eq_true rfl]
  walk_at "mine go"
  refine ke_ne_ints (News.isList (by assumption) (by k_mem)) (News.isList (by assumption) (by k_mem)) i2 i0 hun ?_
  rw [decide_eq_true rfl]
  walk_at "mine go"
  exact h _ _ F N
end Mine
namespace Mine
local macro_rules | `(tactic| walk_at "mine none") => `(tactic| skip)
local macro_rules | `(tactic| walk_at "mine none") => `(tactic| skip)
local macro_rules | `(tactic| walk_at "mine none") => `(tactic| skip)
local macro_rules | `(tactic| walk_at "mine none") => `(tactic| skip)
local macro_rules | `(tactic| walk_at "mine go") => `(tactic| repeat' (first
  | (k_unfold; (try dsimp only))
  | ((fail_if_success (with_reducible show wpAny _ _ (exec (Stmt.While _ _ _ _) _) _ _ _)); (fail_if_success (with_reducible show wpAny _ _ (exec (Stmt.For _ _ _ _ _) _) _ _ _)); (fail_if_success (with_reducible show wpAny _ _ (call (Value.ref _) _ _) _ _ _)); (fail_if_success (with_reducible show wpAny _ _ (pyIter _) _ _ _)); (fail_if_success (with_reducible show wpAny _ _ (eval (Expr.ListComp _ _ _ _) _) _ _ _)); (fail_if_success (with_reducible show wpAny _ _ (eval (Expr.Lambda _ _ _ _) _) _ _ _)); (fail_if_success (with_reducible show wpAny _ _ (execs (Stmt.For _ _ _ _ _ :: _) _) _ _ _)); (fail_if_success (with_reducible show wpAny _ _ (compareOp _ (Value.ref _) (Value.ref _)) _ _ _)); (fail_if_success (with_reducible show Exists _)); first | walk1 | (dsimp only; walk1) | (leave1; walk_say "STEP leave1"; try dsimp only))))
local macro_rules | `(tactic| walk_at "eval Name") => `(tactic| (k_here; k_dflt (refine' nameX_L ?F ?v ?_ ?a ?b; (case F => k_asm); (case a => rfl); (case b => rfl); (case v => first | exact rfl | assumption); k_whole)))
local macro_rules | `(tactic| walk_at "eval Name") => `(tactic| (k_here; (with_reducible show wpAny _ _ (eval (Expr.Name _ _) (compEnvC _ _ _ _)) _ _ _); k_dflt (first
  | (refine' nameC_L ?F ?v ?_ ?a ?b; (case a => rfl); (case b => rfl); (case F => k_asm); (case v => first | exact rfl | assumption); k_whole)
  | (refine' nameC_C ?F ?c ?o ?d ?_ ?a ?b; (case a => rfl); (case b => rfl); (case F => k_asm); (case c => rfl); (case o => assumption); (case d => assumption); k_whole)
  | (refine' nameC_F ?F ?c ?o ?d ?_ ?a ?b; (case a => rfl); (case b => rfl); (case F => k_asm); (case c => rfl); (case o => assumption); (case d => assumption); k_whole)
  | (refine' nameC_K ?F ?X ?T ?e ?_ ?g ?a ?b; (case a => rfl); (case b => rfl); (case F => k_asm); (case X => k_asm); (case T => k_asm); (case e => k_is); (case g => rfl); k_whole)
  | (refine' nameC_B ?F ?X ?T ?e ?v ?n ?_ ?g ?h ?a ?b; (case a => rfl); (case b => rfl); (case F => k_asm); (case X => k_asm); (case T => k_asm); (case e => k_is); (case v => boot_fast); (case n => decide); (case g => rfl); (case h => rfl); k_whole))))
local macro_rules | `(tactic| walk_at "execs cons") => `(tactic| ((with_reducible refine wpAny_execs_cons ?_); try dsimp only))
local macro_rules | `(tactic| walk_at "execs nil") => `(tactic| ((with_reducible refine wpAny_execs_nil ?_); try dsimp only))


local macro_rules | `(tactic| walk_at "call builtin:len") => `(tactic| (k_here; (with_reducible show wpAny _ _ (call (Value.builtin "len") [Value.ref _]) _ _ _); refine lenN (vs := _) (by first | exact News.isList (by k_asm) (by k_mem) | exact stays_list (Fr.keep (by assumption)) (by assumption)) (by omega) ?_))

local macro_rules | `(tactic| walk_at "subscriptTail Name Name ref int") => `(tactic| (k_here; (with_reducible show wpAny _ _ (subscriptTail _ _ (Value.ref _) (Value.int _ _)) _ _ _); refine item_list (stays_list (Fr.keep (by assumption)) (by assumption)) (by omega) (by omega) (by assumption) ?_))
theorem ints_item {vs : List Value} {ns : List Int} (h : IntsAre vs ns) {i : Nat} {v : Value} (hv : vs[i]? = some v) : ∃ n t, v = .int n t ∧ ns[i]? = some n := by
  have hi : i < ns.length := by rw [← h.length]; exact (List.getElem?_eq_some_iff.mp hv).1
  obtain ⟨t, e⟩ := h.get i _ (List.getElem?_eq_getElem hi)
  rw [hv] at e
  exact ⟨_, t, Option.some.inj e, List.getElem?_eq_getElem hi⟩
theorem law_D {w p loose mean mg mb dp un fr gd s b₀ L fa} {Q : Flow → Shared → Prop} {body : List Stmt} {scope : Scope} {m₀ : Str → Option Value} {rest : List (Addr × Obj)} {oD oT oW : Obj} {R r0 r1 r2 DT DW : Addr} {ts ws rs0 : List Value} {css : List (List Nat)} {M n0 nR nW nT : Nat}
   (hlaw : LawIs w body scope)
   (X : (hd.heap_39 w.params).In b₀) (T : Top p loose mean mg mb b₀) (hroom : dp + 10 < recursionLimit) (hun : un + 64 < cLine)
   (hS : StrsAre ts (css.map S)) (hlens : ∀ cs ∈ css, cs.length ≤ M) (hM : M ≤ 9) (hcn : css.length ≤ 6 ∧ 3 ≤ css.length) (hI : IntsAre ws (upTo M))
   (F : Fr b₀ L s.heap m₀) (hrows : m₀ (Str.ofString "rows") = some (.ref R))
   (N : News b₀ L s.heap ((L + 1 + 1 + 1 + 1, oD) :: (R, listOf #[.ref r0, .ref r1, .ref r2] nR) :: (r0, listOf (List.toArray rs0) n0) :: (DW, listOf ws.toArray nW) :: (DT, listOf ts.toArray nT) :: (L + 1 + 1 + 1 + 1 + 1, oT) :: (L + 1, oW) :: rest))
   (dT : oT.data = .cell (some (.ref DT))) (dD : ∃ v, oD.data = .cell v) (dW : oW.data = .cell (some (.ref DW)))
   (offs : ∀ q ∈ (R, listOf #[.ref r0, .ref r1, .ref r2] nR) :: (r0, listOf (List.toArray rs0) n0) :: (DW, listOf ws.toArray nW) :: (DT, listOf ts.toArray nT) :: (L + 1 + 1 + 1 + 1 + 1, oT) :: (L + 1, oW) :: rest, q.1 ≠ L + 1 + 1 + 1 + 1)
   (i0 : IntsAre rs0 (rowOf css M))
   (h : ∀ h' tk' m' oD', Fr b₀ L h' m' → m' (Str.ofString "rows") = some (.ref R) → (∃ v, oD'.data = .cell v) → News b₀ L h' ((L + 1 + 1 + 1 + 1, oD') :: (R, listOf #[.ref r0, .ref r1, .ref r2] nR) :: (r0, listOf (List.toArray rs0) n0) :: (DW, listOf ws.toArray nW) :: (DT, listOf ts.toArray nT) :: (L + 1 + 1 + 1 + 1 + 1, oT) :: (L + 1, oW) :: rest) →
     wpAny (model PySem.Challenge.rw_ph0064_01.row.prog w) (Ar dp un fr gd) (execs (body.drop 6) (envX (Str.ofString "law") scope L fa (.ref 83) (cellsFrom (L + 1) scope.names []))) Q (fun _ _ => False) { s with heap := h', toks := tk' }) :
   wpAny (model PySem.Challenge.rw_ph0064_01.row.prog w) (Ar dp un fr gd) (execs (body.drop 5) (envX (Str.ofString "law") scope L fa (.ref 83) (cellsFrom (L + 1) scope.names []))) Q (fun _ _ => False) s := by
  w_on
  revert X; k_fill; intro X
  obtain ⟨oc, od, name, qual, params, dV, kV, doc, pm, an, cdv, ct, osl, e⟩ := hlaw
  have e' := e.symm.trans (show (hd.heap_39 w.params).lookup 84 = some _ by k_is)
  clear e
  simp only [Option.some.injEq, Obj.mk.injEq, Data.func.injEq, FuncData.mk.injEq, FuncBody.stmts.injEq] at e'
  obtain ⟨-, -, ⟨-, -, -, rfl, rfl, -⟩, -⟩ := e'
  clear osl ct cdv an pm doc kV dV params qual name od oc
  simp only [List.drop_succ_cons, List.drop_zero] at h ⊢
  refine wpAny_execs_cons ?_
  refine For_cell b₀ rfl rfl (c := L + 1 + 1 + 1 + 1) rfl ?_
  have hup : (upTo M).length = M + 1 := by simp [upTo]
  have hwl : ws.length = M + 1 := by rw [IntsAre.length (by assumption), hup]
  have htl : ts.length = css.length := by rw [hS.length, List.length_map]
  have hM6 : ∀ cs ∈ css, cs.length ≤ 1000 := fun cs hc => by have := hlens cs hc; omega
  have hrl : (rowOf css M).length = css.length := rowTo_len _ _ _
  walk_at "mine go"
  refine iterC_list (env := envX _ _ _ _ _ _) (vs := ws) (fun i m rest' => rest' = (R, listOf #[.ref r0, .ref r1, .ref r2] nR) :: (r0, listOf (List.toArray rs0) n0) :: (DW, listOf ws.toArray nW) :: (DT, listOf ts.toArray nT) :: (L + 1 + 1 + 1 + 1 + 1, oT) :: (L + 1, oW) :: rest ∧ m (Str.ofString "rows") = some (.ref R)) rfl (News.isList N (by k_mem)) (fun e => (N (DW, listOf ws.toArray nW) (by k_mem)).2.1 e) (offs (DW, listOf ws.toArray nW) (by k_mem)) F N dD offs ⟨rfl, hrows⟩ ?_ ?_
  · rintro i v m₁ rest₁ h₁ tk₁ oc₁ own hv ⟨rfl, hr1⟩ hoff hown - hoc F1 N1
    obtain ⟨y, t1, rfl, hy⟩ := ints_item hI hv
    obtain ⟨hiM, rfl⟩ := upTo_get hy
    clear F N hv
    simp only [List.cons_append] at N1
    change Fr b₀ L h₁ m₁ at F1
    walk_at "mine go"
    refine lc_list (ByText (cramL · (i : Int))) rfl (cl := [(Str.ofString "width", L + 1 + 1 + 1 + 1)]) rfl (by decide) rfl (by decide) rfl ?_
    walk_at "mine go"
    refine ⟨_, ts, rfl, News.isList N1 (by k_mem), ?_, ?_, ?_⟩
    · rw [htl, sizeLine_eq]; omega
    · intro C v s₃ m₃ E' hv F₃ hm₃
      obtain ⟨cs, t, hcs, rfl⟩ := strs_at hS hv
      have hc := (N1 _ (.head _)).1
      have X3 := X.keeps F1.keep
      have T3 := T.keeps F1.keep
      walk_at "mine go"
      refine cram_call (Gd.keeps ⟨X3, T3⟩ F₃.keep) (by omega) (hM6 cs hcs) ?_
      intro t' h' tk' hk'
      exact ⟨fun cs' t'' e => ⟨t', by rw [S_inj (Value.str.inj e).1]⟩, ⟨_, _, rfl, hk'⟩⟩
    intro D2 h2 tk2 ys hD2 hpl2 hP2 hk2
    have hY2 := byText_strs hS hP2
    obtain ⟨n2, hpl2⟩ := hpl2
    have F2 := F1.grownK hk2
    obtain ⟨N2, -⟩ := news_add F1 N1 hk2 hD2 hpl2
    clear F1 N1
    walk_at "mine go"
    refine lc_list (ByText (cramL · (i : Int))) rfl (cl := [(Str.ofString "width", L + 1 + 1 + 1 + 1)]) rfl (by decide) rfl (by decide) rfl ?_
    walk_at "mine go"
    refine ⟨_, ts, rfl, News.isList N2 (by k_mem), ?_, ?_, ?_⟩
    · rw [htl, sizeLine_eq]; omega
    · intro C v s₃ m₃ E' hv F₃ hm₃
      obtain ⟨cs, t, hcs, rfl⟩ := strs_at hS hv
      have hc := (N2 _ (.tail _ (.head _))).1
      have X3 := X.keeps F2.keep
      have T3 := T.keeps F2.keep
      walk_at "mine go"
      refine left_call (Gd.keeps ⟨X3, T3⟩ F₃.keep) (by omega) (hM6 cs hcs) (by omega) ?_
      intro t' h' tk' hk'
      exact ⟨fun cs' t'' e => ⟨t', by rw [S_inj (Value.str.inj e).1]⟩, ⟨_, _, rfl, hk'⟩⟩
    intro D3 h3 tk3 ys3 hD3 hpl3 hP3 hk3
    have hY3 := byText_strs hS hP3
    obtain ⟨n3, hpl3⟩ := hpl3
    have F3 := F2.grownK hk3
    obtain ⟨N3, -⟩ := news_add F2 N2 hk3 hD3 hpl3
    clear F2 N2
    walk_at "mine go"
    refine ne_strs (News.isList N3 (.tail _ (.head _))) (News.isList N3 (.head _)) hY2 hY3 hun ?_
    walk_at "mine go"
    have X3 := X.keeps F3.keep
    have T3 := T.keeps F3.keep
    refine shown_call ⟨X3, T3⟩ (by omega) (News.isList N3 (by k_mem)) hS (by omega) hM6 ?_
    intro t4 h4 tk4 hk4
    rw [← count_rowOf (M := M) (by omega) (by omega)]
    have F4 := F3.grownK hk4
    have N4 := N3.grown hk4
    clear F3 N3 X3 T3
    walk_at "mine go"
    have hr0 := (N4 (r0, listOf (List.toArray rs0) n0) (by simp)).1
    refine bisR_call (a := r0) (vs := rs0) (ns := rowOf css M) ⟨X.keeps F4.keep, T.keeps F4.keep⟩ (by omega) ⟨_, hr0, rfl, _, rfl⟩ i0 (by omega) (rowTo_sorted _ _ _) ?_
    intro t5 h5 tk5 hk5
    have F5 := F4.grownK hk5
    have N5 := N4.grown hk5
    clear F4 N4
    walk_at "mine go"
    · exact absurd rfl (by assumption)
    refine StepC.next F5 (rest₂ := (R, listOf #[.ref r0, .ref r1, .ref r2] nR) :: (r0, listOf (List.toArray rs0) n0) :: (DW, listOf ws.toArray nW) :: (DT, listOf ts.toArray nT) :: (L + 1 + 1 + 1 + 1 + 1, oT) :: (L + 1, oW) :: rest) (fun q hq => N5 q (.tail _ (.tail _ hq))) hoc hoff ⟨rfl, hr1⟩
  · rintro h₁ tk₁ m₁ oc₁ rest₁ F1 N1 hoc hoff ⟨rfl, hr1⟩
    exact h _ _ _ _ F1 hr1 hoc N1
end Mine
namespace Mine
local macro_rules | `(tactic| walk_at "mine go") => `(tactic| repeat' (first
  | (k_unfold; (try dsimp only))
  | ((fail_if_success (with_reducible show wpAny _ _ (exec (Stmt.While _ _ _ _) _) _ _ _)); (fail_if_success (with_reducible show wpAny _ _ (exec (Stmt.For _ _ _ _ _) _) _ _ _)); (fail_if_success (with_reducible show wpAny _ _ (call (Value.ref _) _ _) _ _ _)); (fail_if_success (with_reducible show wpAny _ _ (pyIter _) _ _ _)); (fail_if_success (with_reducible show wpAny _ _ (eval (Expr.ListComp _ _ _ _) _) _ _ _)); (fail_if_success (with_reducible show wpAny _ _ (eval (Expr.Lambda _ _ _ _) _) _ _ _)); (fail_if_success (with_reducible show wpAny _ _ (execs (Stmt.For _ _ _ _ _ :: _) _) _ _ _)); (fail_if_success (with_reducible show wpAny _ _ (compareOp _ (Value.ref _) (Value.ref _)) _ _ _)); (fail_if_success (with_reducible show Exists _)); first | walk1 | (dsimp only; walk1) | (leave1; walk_say "STEP leave1"; try dsimp only))))
local macro_rules | `(tactic| walk_at "eval Name") => `(tactic| (k_here; k_dflt (refine' nameX_L ?F ?v ?_ ?a ?b; (case F => k_asm); (case a => rfl); (case b => rfl); (case v => first | exact rfl | assumption); k_whole)))
local macro_rules | `(tactic| walk_at "eval Name") => `(tactic| (k_here; (with_reducible show wpAny _ _ (eval (Expr.Name _ _) (compEnvC _ _ _ _)) _ _ _); k_dflt (first
  | (refine' nameC_L ?F ?v ?_ ?a ?b; (case a => rfl); (case b => rfl); (case F => k_asm); (case v => first | exact rfl | assumption); k_whole)
  | (refine' nameC_C ?F ?c ?o ?d ?_ ?a ?b; (case a => rfl); (case b => rfl); (case F => k_asm); (case c => rfl); (case o => assumption); (case d => assumption); k_whole)
  | (refine' nameC_F ?F ?c ?o ?d ?_ ?a ?b; (case a => rfl); (case b => rfl); (case F => k_asm); (case c => rfl); (case o => assumption); (case d => assumption); k_whole)
  | (refine' nameC_K ?F ?X ?T ?e ?_ ?g ?a ?b; (case a => rfl); (case b => rfl); (case F => k_asm); (case X => k_asm); (case T => k_asm); (case e => k_is); (case g => rfl); k_whole)
  | (refine' nameC_B ?F ?X ?T ?e ?v ?n ?_ ?g ?h ?a ?b; (case a => rfl); (case b => rfl); (case F => k_asm); (case X => k_asm); (case T => k_asm); (case e => k_is); (case v => boot_fast); (case n => decide); (case g => rfl); (case h => rfl); k_whole))))
local macro_rules | `(tactic| walk_at "execs cons") => `(tactic| ((with_reducible refine wpAny_execs_cons ?_); try dsimp only))
local macro_rules | `(tactic| walk_at "execs nil") => `(tactic| ((with_reducible refine wpAny_execs_nil ?_); try dsimp only))


local macro_rules | `(tactic| walk_at "call builtin:len") => `(tactic| (k_here; (with_reducible show wpAny _ _ (call (Value.builtin "len") [Value.ref _]) _ _ _); refine lenN (vs := _) (by first | exact News.isList (by k_asm) (by k_mem) | exact stays_list (Fr.keep (by assumption)) (by assumption)) (by omega) ?_))

local macro_rules | `(tactic| walk_at "subscriptTail Name Name ref int") => `(tactic| (k_here; (with_reducible show wpAny _ _ (subscriptTail _ _ (Value.ref _) (Value.int _ _)) _ _ _); refine item_list (stays_list (Fr.keep (by assumption)) (by assumption)) (by omega) (by omega) (by assumption) ?_))
section
variable {w : World} {prog : Program} {A : Around} {s : Shared} {Q E : Value → Shared → Prop} {name qual : Str} {params : Arguments} {body : Expr} {scope : Scope} {cl : List (Str × Addr)} {pm ctv : Value} {c' f : Addr} {x : Str} {v : Value}
/-- a call of a lambda whose one parameter is no cell -/
theorem enterLam0 (hroom : A.depth < recursionLimit) (ho : s.heap.get? f = some (kla_obj name qual params body scope cl pm c' ctv)) (hlim : s.heap.NoLimit) (hcd : s.heap.CodeRec (.ref c') qual)
    (hbind : bindArgs (kla_fn name qual params body scope cl pm (.ref c') ctv) ⟨[v], []⟩ = pure [(x, v)])
    (hcell : ∀ x ∈ scope.names, x.2 ≠ .cell) (hx : scope.names.lookup x = some .local)
    (h : ∀ h₁ tk, (∀ b o, s.heap.get? b = some o → h₁.get? b = some o) → Fr s.heap s.heap.objs.size h₁ (fun y => [(x, v)].reverse.lookup y) →
      wpAny (model prog w) (A.deeper (envX qual scope s.heap.objs.size f (.ref c') cl)) (eval body (envX qual scope s.heap.objs.size f (.ref c') cl))
        Q (fun _ _ => False) { s with heap := h₁, toks := tk })
    (hco : scope.isCoroutine = false := by rfl) (hgen : scope.isGenerator = false := by rfl) (hk : scope.kind = .function := by rfl) : wpAny (model prog w) A (call (.ref f) [v]) Q E s := by
  refine wpAny_call ?_
  refine kla_callFunE hroom ho rfl hco hgen rfl hcd ?_
  rw [hbind]
  refine wpAny_pure (wpAny_newFunctionEnv hcell (by simpa using hx) (fun h₁ hns hsb => ⟨hlim.fresh _ hsb, ?_⟩) hk)
  show codeAny _ _ (.expr body (envX qual scope s.heap.objs.size f (.ref c') cl)) _ _
  have hk₁ : ∀ b o, s.heap.get? b = some o → h₁.get? b = some o := fun b o e => hsb.extBut b o (Nat.ne_of_lt (Heap.lt_size e)) (Heap.get?_push_of_some _ e)
  exact kla_codeExpr (wpAny_mono (h h₁ _ hk₁ ⟨hns, hk₁, Nat.le_refl _⟩) (fun _ _ q => q) fun _ _ q => q.elim)
end
section
variable {M : Model} {A : Around} {E : Value → Shared → Prop} {s : Shared} {h₀ : Heap} {L a c P : Addr} {m mg mb : Str → Option Value} {cn : Str} {cs : Scope} {ccd : Value} {cl : List (Str × Addr)} {rest ex : List (Addr × Obj)}
  {p : Program} {loose : List Str} {mean : ExcName → Option Value} {name qual : Str} {params : Arguments} {body : Expr} {scope : Scope} {ps : Array Value} {pos : Pos} {clos : List (Str × Addr)} {line col : Nat} {q : Str}
/-- a lambda made in the law's own frame -/
theorem lamMakeP {Q : Value → Shared → Prop} (F : Fr h₀ L s.heap m) (N : News h₀ L s.heap ((P, tabObj ps) :: (rest ++ ex))) (hoff : ∀ q ∈ rest, q.1 ≠ P) (T : Top p loose mean mg mb h₀) (C : CodeHd h₀ c P) (hcd : ccd = .ref c)
    (hline : pos.line = line) (hcol : pos.col = col) (hq : (envX cn cs L a ccd cl).qual ++ "<lambda>" = q)
    (hps : PsOk h₀ L line col q ps ex)
    (hdef : defaultsOf params (envX cn cs L a ccd cl) = ([], []))
    (hcl : closureFor scope (envX cn cs L a ccd cl) = pure clos)
    (h : ∀ f c' ctv h' tk ps' ex', Fr h₀ L h' m → News h₀ L h' ((f, kla_obj "<lambda>" q params body scope clos ((mg "__name__").getD .none) c' ctv) :: (P, tabObj ps') :: (rest ++ ex')) →
      PsOk h₀ L line col q ps' ex' → (∀ h'' m'', Fr h₀ L h'' m'' → News h₀ L h'' ex' → h''.CodeRec (.ref c') q) → Q (.ref f) { s with heap := h', toks := tk }) :
    wpAny M A (eval (.Lambda params body scope pos) (envX cn cs L a ccd cl)) Q E s := by
  subst hline hcol hq
  refine kla_eval hdef ?_
  have hoff' : ∀ q ∈ rest ++ ex, q.1 ≠ P := by
    intro q hq
    rcases List.mem_append.mp hq with hq | hq
    · exact hoff q hq
    · refine code_off (fun q hq => N q (.tail _ (List.mem_append_right _ hq))) hps.1 (N _ (.head _)).1 ?_ q hq
      rcases hps.2 s.heap m F (fun q hq => N q (.tail _ (List.mem_append_right _ hq))) with rfl | ⟨c', rfl, -⟩
      · exact notCode_tab0
      · exact notCode_tab
  rcases hps.2 s.heap m F (fun q hq => N q (.tail _ (List.mem_append_right _ hq))) with rfl | ⟨c₀, rfl, hcr⟩
  · refine kla_nest F N T C hcd (UpdF.head hoff') trivial rfl hcl ?_
    intro f c' oc vs t ctv h' tk F' N' hd hv hlt hlt2
    have hco : ∀ h'' m'', Fr h₀ L h'' m'' → News h₀ L h'' ((c', oc) :: ex) → h''.CodeRec (.ref c') ((envX cn cs L a ccd cl).qual ++ "<lambda>") := fun h'' m'' _ N'' => ⟨c', oc, vs, t, rfl, (N'' (c', oc) (.head _)).1, hd, hv⟩
    refine h f c' ctv h' tk _ ((c', oc) :: ex) F' (fun q hq => N' q ?_) ⟨?_, fun h'' m'' F'' N'' => .inr ⟨c', rfl, hco h'' m'' F'' N''⟩⟩ hco
    · rcases List.mem_cons.mp hq with rfl | hq
      · exact .head _
      · rcases List.mem_cons.mp hq with rfl | hq
        · exact .tail _ (.tail _ (.head _))
        · rcases List.mem_append.mp hq with hq | hq
          · exact .tail _ (.tail _ (.tail _ (List.mem_append_left _ hq)))
          · rcases List.mem_cons.mp hq with rfl | hq
            · exact .tail _ (.head _)
            · exact .tail _ (.tail _ (.tail _ (List.mem_append_right _ hq)))
    · intro p hp
      rcases List.mem_cons.mp hp with rfl | hp
      · exact ⟨vs, _, t, hd, hv⟩
      · exact hps.1 p hp
  · refine kla_hit (c' := c₀) F N T C hcd (.head _) trivial (by simp [codeAmong, rawInt]) hcl ?_
    intro f ctv h' tk F' N' hlt
    refine h f c₀ ctv h' tk _ ex F' N' hps fun h'' m'' F'' N'' => ?_
    rcases hps.2 h'' m'' F'' N'' with e | ⟨c₁, e, hc⟩
    · cases e
    · cases e; exact hc
end
end Mine
namespace Mine
local macro_rules | `(tactic| walk_at "mine none") => `(tactic| skip)
local macro_rules | `(tactic| walk_at "mine none") => `(tactic| skip)
local macro_rules | `(tactic| walk_at "mine go") => `(tactic| repeat' (first
  | (k_unfold; (try dsimp only))
  | ((fail_if_success (with_reducible show wpAny _ _ (exec (Stmt.While _ _ _ _) _) _ _ _)); (fail_if_success (with_reducible show wpAny _ _ (exec (Stmt.For _ _ _ _ _) _) _ _ _)); (fail_if_success (with_reducible show wpAny _ _ (call (Value.ref _) _ _) _ _ _)); (fail_if_success (with_reducible show wpAny _ _ (pyIter _) _ _ _)); (fail_if_success (with_reducible show wpAny _ _ (eval (Expr.ListComp _ _ _ _) _) _ _ _)); (fail_if_success (with_reducible show wpAny _ _ (eval (Expr.Lambda _ _ _ _) _) _ _ _)); (fail_if_success (with_reducible show wpAny _ _ (execs (Stmt.For _ _ _ _ _ :: _) _) _ _ _)); (fail_if_success (with_reducible show wpAny _ _ (compareOp _ (Value.ref _) (Value.ref _)) _ _ _)); (fail_if_success (with_reducible show wpAny _ _ (subscriptTail (Expr.Subscript _ _ _) _ _ _) _ _ _)); (fail_if_success (with_reducible show Exists _)); first | walk1 | (dsimp only; walk1) | (leave1; walk_say "STEP leave1"; try dsimp only))))
local macro_rules | `(tactic| walk_at "eval Name") => `(tactic| (k_here; k_dflt (refine' nameX_L ?F ?v ?_ ?a ?b; (case F => k_asm); (case a => rfl); (case b => rfl); (case v => first | exact rfl | assumption); k_whole)))
local macro_rules | `(tactic| walk_at "eval Name") => `(tactic| (k_here; (with_reducible show wpAny _ _ (eval (Expr.Name _ _) (compEnvC _ _ _ _)) _ _ _); k_dflt (first
  | (refine' nameC_L ?F ?v ?_ ?a ?b; (case a => rfl); (case b => rfl); (case F => k_asm); (case v => first | exact rfl | assumption); k_whole)
  | (refine' nameC_C ?F ?c ?o ?d ?_ ?a ?b; (case a => rfl); (case b => rfl); (case F => k_asm); (case c => rfl); (case o => assumption); (case d => assumption); k_whole)
  | (refine' nameC_F ?F ?c ?o ?d ?_ ?a ?b; (case a => rfl); (case b => rfl); (case F => k_asm); (case c => rfl); (case o => assumption); (case d => assumption); k_whole)
  | (refine' nameC_K ?F ?X ?T ?e ?_ ?g ?a ?b; (case a => rfl); (case b => rfl); (case F => k_asm); (case X => k_asm); (case T => k_asm); (case e => k_is); (case g => rfl); k_whole)
  | (refine' nameC_B ?F ?X ?T ?e ?v ?n ?_ ?g ?h ?a ?b; (case a => rfl); (case b => rfl); (case F => k_asm); (case X => k_asm); (case T => k_asm); (case e => k_is); (case v => boot_fast); (case n => decide); (case g => rfl); (case h => rfl); k_whole))))
local macro_rules | `(tactic| walk_at "execs cons") => `(tactic| ((with_reducible refine wpAny_execs_cons ?_); try dsimp only))
local macro_rules | `(tactic| walk_at "execs nil") => `(tactic| ((with_reducible refine wpAny_execs_nil ?_); try dsimp only))


local macro_rules | `(tactic| walk_at "call builtin:len") => `(tactic| (k_here; (with_reducible show wpAny _ _ (call (Value.builtin "len") [Value.ref _]) _ _ _); refine lenN (vs := _) (by first | exact News.isList (by k_asm) (by k_mem) | exact stays_list (Fr.keep (by assumption)) (by assumption)) (by omega) ?_))

local macro_rules | `(tactic| walk_at "subscriptTail Name Name ref int") => `(tactic| (k_here; (with_reducible show wpAny _ _ (subscriptTail _ _ (Value.ref _) (Value.int _ _)) _ _ _); refine item_list (stays_list (Fr.keep (by assumption)) (by assumption)) (by omega) (by omega) (by assumption) ?_))
local macro_rules | `(tactic| walk_at "eval Name") => `(tactic| (k_here; k_dflt (refine' nameX_Fb ?F ?c ?o ?d ?_ ?a ?b; (case a => rfl); (case b => rfl); (case F => k_asm); (case c => rfl); (case o => assumption); (case d => assumption); k_whole)))
abbrev q81 : Str := Str.ofString "law.<locals>.<lambda>"
/-- how many unlike texts are shown -/
def shownN (css : List (List Nat)) (y : Int) : Int := ((uniq (css.map (cramL · y))).length : Nat)
theorem law_E {w p loose mean mg mb dp un fr gd s b₀ L fa} {Q : Flow → Shared → Prop} {body : List Stmt} {scope : Scope} {m₀ : Str → Option Value} {tl : List (Addr × Obj)} {oK oT oW : Obj} {R r0 r1 r2 DT DW : Addr} {ts ws rs0 : List Value} {css : List (List Nat)} {M n0 nR nW nT : Nat}
   (hlaw : LawIs w body scope)
   (X : (hd.heap_39 w.params).In b₀) (T : Top p loose mean mg mb b₀) (CH2 : CodeHd b₀ 83 81) (hroom : dp + 10 < recursionLimit)
   (hS : StrsAre ts (css.map S)) (hlens : ∀ cs ∈ css, cs.length ≤ M) (hM : M ≤ 9) (hcn : css.length ≤ 6 ∧ 3 ≤ css.length) (hI : IntsAre ws (upTo M))
   (F : Fr b₀ L s.heap m₀) (hrows : m₀ (Str.ofString "rows") = some (.ref R))
   (N : News b₀ L s.heap ((L + 1 + 1, oK) :: (81, tabObj #[]) :: (R, listOf #[.ref r0, .ref r1, .ref r2] nR) :: (r0, listOf (List.toArray rs0) n0) :: (DW, listOf ws.toArray nW) :: (DT, listOf ts.toArray nT) :: (L + 1 + 1 + 1 + 1 + 1, oT) :: (L + 1, oW) :: tl))
   (dT : oT.data = .cell (some (.ref DT))) (dK : ∃ v, oK.data = .cell v) (dW : oW.data = .cell (some (.ref DW)))
   (offs : ∀ q ∈ (R, listOf #[.ref r0, .ref r1, .ref r2] nR) :: (r0, listOf (List.toArray rs0) n0) :: (DW, listOf ws.toArray nW) :: (DT, listOf ts.toArray nT) :: (L + 1 + 1 + 1 + 1 + 1, oT) :: (L + 1, oW) :: tl, q.1 ≠ L + 1 + 1 ∧ q.1 ≠ 81) (o81 : 81 ≠ L + 1 + 1)
   (i0 : IntsAre rs0 (rowOf css M))
   (h : ∀ h' tk' m', Fr b₀ L h' m' → GrownAt 81 h' → (∀ q ∈ tl, h'.get? q.1 = some q.2) → Q (.ret (.bool true)) { s with heap := h', toks := tk' }) :
   wpAny (model PySem.Challenge.rw_ph0064_01.row.prog w) (Ar dp un fr gd) (execs (body.drop 6) (envX (Str.ofString "law") scope L fa (.ref 83) (cellsFrom (L + 1) scope.names []))) Q (fun _ _ => False) s := by
  w_on
  revert X; k_fill; intro X
  obtain ⟨oc, od, name, qual, params, dV, kV, doc, pm, an, cdv, ct, osl, e⟩ := hlaw
  have e' := e.symm.trans (show (hd.heap_39 w.params).lookup 84 = some _ by k_is)
  clear e
  simp only [Option.some.injEq, Obj.mk.injEq, Data.func.injEq, FuncData.mk.injEq, FuncBody.stmts.injEq] at e'
  obtain ⟨-, -, ⟨-, -, -, rfl, rfl, -⟩, -⟩ := e'
  clear osl ct cdv an pm doc kV dV params qual name od oc
  simp only [List.drop_succ_cons, List.drop_zero] at h ⊢
  refine wpAny_execs_cons ?_
  refine For_cell b₀ rfl rfl (c := L + 1 + 1) rfl ?_
  have hup : (upTo M).length = M + 1 := by simp [upTo]
  have hwl : ws.length = M + 1 := by rw [IntsAre.length (by assumption), hup]
  have htl : ts.length = css.length := by rw [hS.length, List.length_map]
  have hM6 : ∀ cs ∈ css, cs.length ≤ 1000 := fun cs hc => by have := hlens cs hc; omega
  have hrl : (rowOf css M).length = css.length := rowTo_len _ _ _
  walk_at "mine go"
  rename Fr _ _ _ _ => F0
  rename News _ _ _ _ => N0
  rename IsRange _ _ _ _ _ _ _ _ => hr
  have hoffK : ∀ {h : Heap} {oK : Obj} {v : Option Value} {ps : Array Value} {ex : List (Addr × Obj)}, News b₀ L h ex → (∀ p ∈ ex, IsCodeO p.2) → h.get? (L + 1 + 1) = some oK → oK.data = .cell v →
      ∀ q ∈ (81, tabObj ps) :: (R, listOf #[.ref r0, .ref r1, .ref r2] nR) :: (r0, listOf (List.toArray rs0) n0) :: (DW, listOf ws.toArray nW) :: (DT, listOf ts.toArray nT) :: (L + 1 + 1 + 1 + 1 + 1, oT) :: (L + 1, oW) :: (tl ++ ex), q.1 ≠ L + 1 + 1 := by
    intro h oK v ps ex N c e d q hq
    rcases List.mem_cons.mp hq with rfl | hq
    · exact o81
    rw [← List.cons_append, ← List.cons_append, ← List.cons_append, ← List.cons_append, ← List.cons_append, ← List.cons_append] at hq
    rcases List.mem_append.mp hq with hq | hq
    · exact (offs q hq).1
    · exact code_off N c e (notCode_cell d) q hq
  obtain ⟨vK, dK'⟩ := dK
  refine iterC_range (env := envX _ _ _ _ _ _) (fun i m rest' => ∃ ps ex, rest' = (81, tabObj ps) :: (R, listOf #[.ref r0, .ref r1, .ref r2] nR) :: (r0, listOf (List.toArray rs0) n0) :: (DW, listOf ws.toArray nW) :: (DT, listOf ts.toArray nT) :: (L + 1 + 1 + 1 + 1 + 1, oT) :: (L + 1, oW) :: (tl ++ ex) ∧ m (Str.ofString "rows") = some (.ref R) ∧ PsOk b₀ L 116 42 q81 ps ex) rfl hr ⟨by omega, by omega⟩ ⟨by omega, by omega⟩ F0 (rest := (81, tabObj #[]) :: (R, listOf #[.ref r0, .ref r1, .ref r2] nR) :: (r0, listOf (List.toArray rs0) n0) :: (DW, listOf ws.toArray nW) :: (DT, listOf ts.toArray nT) :: (L + 1 + 1 + 1 + 1 + 1, oT) :: (L + 1, oW) :: (tl ++ [])) (by rw [List.append_nil]; exact N0) ⟨vK, dK'⟩ (hoffK News.nil (by simp) (N0 _ (.head _)).1 dK') ⟨#[], [], rfl, hrows, .start⟩ ?_ ?_
  · rintro i t1 m₁ rest₁ h₁ tk₁ oc₁ own hi ⟨ps1, ex1, rfl, hr1, hps1⟩ hoff hown ⟨oI, hoI, hnc⟩ hoc F1 N1
    simp only [List.cons_append, List.append_assoc] at N1
    clear F0 N0
    rw [Int.zero_add] at hoc
    have hi' : i < css.length := by omega
    change Fr b₀ L h₁ m₁ at F1
    walk_at "mine go"
    have N2 : News b₀ L h₁ ((81, tabObj ps1) :: (((L + 1 + 1, oc₁) :: (R, listOf #[.ref r0, .ref r1, .ref r2] nR) :: (r0, listOf (List.toArray rs0) n0) :: (DW, listOf ws.toArray nW) :: (DT, listOf ts.toArray nT) :: (L + 1 + 1 + 1 + 1 + 1, oT) :: (L + 1, oW) :: (tl ++ own)) ++ ex1)) := by
      intro q hq
      refine N1 q ?_
      simp only [List.cons_append, List.mem_cons, List.mem_append, List.append_assoc] at hq ⊢
      rcases hq with hq | hq | hq | hq | hq | hq | hq | hq | hq | hq | hq <;> simp [hq]
    have hoff81 : (81 : Nat) ∉ _ := (hoff (81, tabObj ps1) (.head _)).1
    clear N1
    refine lamMakeP (line := 116) (col := 42) (q := q81) F1 N2 ?_ T CH2 rfl rfl rfl rfl hps1 rfl rfl ?_
    · intro q hq
      rcases List.mem_cons.mp hq with rfl | hq
      · exact Ne.symm o81
      rw [← List.cons_append, ← List.cons_append, ← List.cons_append, ← List.cons_append, ← List.cons_append, ← List.cons_append] at hq
      rcases List.mem_append.mp hq with hq | hq
      · exact (offs q hq).2
      · exact fun e => hoff81 (by rw [← e, hown q hq]; exact .head _)
    intro f c' ctv h2 tk2 ps2 ex2 F2 N3 hps2 hcode2
    clear F1 N2
    have hcr2 := hcode2 _ _ F2 (fun q hq => N3 q (.tail _ (.tail _ (List.mem_append_right _ hq))))
    simp only [List.cons_append] at N3
    have hfo := (N3 _ (.head _)).1
    have hcT0 := (N3 (L + 1 + 1 + 1 + 1 + 1, oT) (by simp)).1
    have hDT0 := (N3 (DT, listOf ts.toArray nT) (by simp)).1
    have key : KeyIs w gd (dp + 1) (un + 3) h2 f (upTo M) (shownN css) := by
      intro j t fr' s' Q' E' hj hk' hQ'
      obtain ⟨X', T'⟩ : Gd w p loose mean mg mb s'.heap := (Gd.keeps ⟨X, T⟩ F2.keep).keeps hk'
      refine enterLam0 (x := Str.ofString "width") (by dsimp only; omega) (hk' _ _ hfo) T'.nolimit (hcr2.keeps hk') rfl (by decide) rfl ?_
      intro h3 tk3 hk3 F3
      have hcT := hk' _ _ hcT0
      have hDT := hk' _ _ hDT0
      have hlT : s'.heap.IsList DT ts.toArray := ⟨_, hDT, rfl, _, rfl⟩
      have N4 : News s'.heap s'.heap.objs.size h3 [] := News.nil
      walk_at "mine go"
      refine shown_call (Gd.keeps ⟨X', T'⟩ F3.keep) (by show dp + 1 + 1 + 2 < recursionLimit; omega) (stays_list F3.keep hlT) hS (by omega) hM6 ?_
      intro t4 h4 tk4 hk4
      exact hQ' t4 h4 tk4 (fun b o e => hk4 _ _ (F3.keep b o e))
    walk_at "mine go"
    refine bisL_call (g := shownN css) (ns := upTo M) ⟨X.keeps F2.keep, T.keeps F2.keep⟩ (by omega) (News.isList N3 (by k_mem)) (by assumption) (by omega) (falls_shown hi') ⟨_, _, _, _, hfo⟩ key ?_
    intro t5 h5 tk5 hk5
    have F5 := F2.grownK hk5
    have N5 := N3.grown hk5
    clear F2 N3 key hcr2
    obtain ⟨rk, hrk⟩ : ∃ rk, (rowOf css M)[i]? = some rk := ⟨_, List.getElem?_eq_getElem (by omega)⟩
    obtain ⟨tr, hvr⟩ := i0.get i rk hrk
    rw [show (((upTo M).countP (fun y => decide (shownN css y < (i : Int) + 1)) : Nat) : Int) = rk from shown_row hrk]
    walk_at "mine go"
    have hr0 := (N5 (r0, listOf (List.toArray rs0) n0) (by simp)).1
    refine item_listR (items := rs0.toArray) (x := .int rk tr) ⟨_, hr0, rfl, _, rfl⟩ (by omega) (by omega) (by simpa using hvr) ?_
    walk_at "mine go"
    · exact absurd rfl (by assumption)
    have hex : ∀ p ∈ ex2, h5.get? p.1 = some p.2 ∧ p.1 ≠ L ∧ b₀.get? p.1 = none := fun p hp => N5 p (by simp [hp])
    refine StepC.next F5 (rest₂ := (81, tabObj ps2) :: (R, listOf #[.ref r0, .ref r1, .ref r2] nR) :: (r0, listOf (List.toArray rs0) n0) :: (DW, listOf ws.toArray nW) :: (DT, listOf ts.toArray nT) :: (L + 1 + 1 + 1 + 1 + 1, oT) :: (L + 1, oW) :: (tl ++ ex2)) ?_ hoc ?_ ⟨_, _, rfl, hr1, hps2⟩
    · intro q hq
      refine N5 q ?_
      simp only [List.cons_append, List.mem_cons, List.mem_append, List.append_assoc] at hq ⊢
      rcases hq with hq | hq | hq | hq | hq | hq | hq | hq | hq | hq | hq <;> simp [hq]
    · have hI1 := code_off hex hps2.1 (N5 _ (.tail _ (.tail _ (.tail _ (.tail _ (.tail _ (.tail _ (.tail _ (.tail _ (.tail _ (List.mem_append_left ex2 (List.mem_append_right tl hoI)))))))))))).1 hnc
      have hK2 := hoffK (ps := ps2) hex hps2.1 (N5 (L + 1 + 1, oc₁) (by simp)).1 hoc
      intro q hq
      refine ⟨?_, hK2 q hq⟩
      rcases List.mem_cons.mp hq with rfl | hq
      · exact hoff81
      rw [← List.cons_append, ← List.cons_append, ← List.cons_append, ← List.cons_append, ← List.cons_append, ← List.cons_append] at hq
      rcases List.mem_append.mp hq with hq | hq
      · exact (hoff q (.tail _ (by rw [← List.cons_append, ← List.cons_append, ← List.cons_append, ← List.cons_append, ← List.cons_append, ← List.cons_append]; exact List.mem_append_left _ hq))).1
      · exact fun e => hI1 q hq (List.mem_singleton.mp e)
  · rintro h₁ tk₁ m₁ oc₁ rest₁ F1 N1 hoc hoff ⟨ps1, ex1, rfl, hr1, hps1⟩
    walk_at "mine go"
    exact h _ _ _ F1 ⟨ps1, (N1 _ (.tail _ (.head _))).1⟩ fun q hq => (N1 q (by simp [hq])).1
end Mine
namespace Mine
theorem off_D {L DT DW R r0 : Nat} {a1 a2 a3 a4 a5 a6 a7 a8 a9 : Obj} (lt1 : L + 1 + 1 + 1 + 1 + 1 < DT) (lt2 : DT < DW) (lt3 : DW < R) (l1 : 69 < L) (l2 : 81 < L) (l3 : R < r0) :
    ∀ q ∈ ([(R, a1), (r0, a2), (DW, a3), (DT, a4), (L + 1 + 1 + 1 + 1 + 1, a5), (L + 1, a6), (81, a7), (L + 1 + 1, a8), (69, a9)] : List (Addr × Obj)), @Ne Nat q.1 (L + 1 + 1 + 1 + 1) := by
  intro q hq
  simp only [List.mem_cons, List.not_mem_nil, or_false] at hq
  rcases hq with rfl | rfl | rfl | rfl | rfl | rfl | rfl | rfl | rfl <;> dsimp only <;> omega
theorem off_E {L DT DW R r0 : Nat} {a1 a2 a3 a4 a5 a6 a9 : Obj} (lt1 : L + 1 + 1 + 1 + 1 + 1 < DT) (lt2 : DT < DW) (lt3 : DW < R) (l1 : 69 < L) (l2 : 81 < L) (l3 : R < r0) :
    ∀ q ∈ ([(R, a1), (r0, a2), (DW, a3), (DT, a4), (L + 1 + 1 + 1 + 1 + 1, a5), (L + 1, a6), (69, a9)] : List (Addr × Obj)), @Ne Nat q.1 (L + 1 + 1) ∧ @Ne Nat q.1 81 := by
  intro q hq
  simp only [List.mem_cons, List.not_mem_nil, or_false] at hq
  rcases hq with rfl | rfl | rfl | rfl | rfl | rfl | rfl <;> dsimp only <;> refine ⟨?_, ?_⟩ <;> omega
theorem law_all {w p loose mean mg mb dp un fr gd s b₀ L fa} {Q : Flow → Shared → Prop} {body : List Stmt} {scope : Scope} {m₀ : Str → Option Value} {oT oD oO oK oW : Obj} {sc : Addr} {sv : List Value} {sn : List Int}
   (hlaw : LawIs w body scope)
   (X : (hd.heap_39 w.params).In b₀) (T : Top p loose mean mg mb b₀) (CH1 : CodeHd b₀ 73 69) (CH2 : CodeHd b₀ 83 81) (hroom : dp + 10 < recursionLimit) (hun : un + 64 < cLine)
   (F : Fr b₀ L s.heap m₀) (hm₀ : m₀ (Str.ofString "script") = some (.ref sc))
   (N : News b₀ L s.heap [(L + 1 + 1 + 1 + 1 + 1, oT), (L + 1 + 1 + 1 + 1, oD), (L + 1 + 1 + 1, oO), (L + 1 + 1, oK), (L + 1, oW), (69, tabObj #[]), (81, tabObj #[])])
   (d1 : oT.data = .cell none) (d2 : oD.data = .cell none) (d3 : oO.data = .cell none) (d4 : oK.data = .cell none) (d5 : oW.data = .cell none) (l0 : @LT.lt Nat _ 69 L ∧ @LT.lt Nat _ 81 L)
   (hsc : b₀.IsList sc sv.toArray) (hsI : IntsAre sv sn) (hslen : sn.length ≤ 63)
   (h : ∀ h' tk' m', Fr b₀ L h' m' → GrownAt 69 h' → GrownAt 81 h' → Q (.ret (.bool true)) { s with heap := h', toks := tk' }) :
   wpAny (model PySem.Challenge.rw_ph0064_01.row.prog w) (Ar dp un fr gd) (execs body (envX (Str.ofString "law") scope L fa (.ref 83) (cellsFrom (L + 1) scope.names []))) Q (fun _ _ => False) s := by
  refine law_A hlaw X T hroom F hm₀ N d1 d5 l0 hsc hsI hslen ?_
  intro css ts ws M c DT DW R h1 tk1 m1 oT1 oW1 hS hlens _ hM hcn hI F1 hr1 N1 dT1 dW1 lt
  refine law_B hlaw X T CH1 hroom hS hlens hM hcn hI F1 hr1 N1 dT1 ⟨_, d3⟩ ⟨_, d4⟩ dW1 lt l0 ?_
  intro h2 tk2 m2 oO2 oK2 r0 r1 r2 rs0 rs1 rs2 n0 n1 n2 nR ps2 css' hp F2 hr2 N2 dK2 i0 i1 i2 l2
  rw [rowOf_perm M (List.reverse_perm css)] at i1
  rw [rowOf_perm M hp] at i2
  refine law_C hlaw X T hroom F2 hr2 N2 i0 i1 i2 (by rw [show (rowOf css M).length = css.length from rowTo_len _ _ _]; exact hcn.1) hun ?_
  intro h3 tk3 F3 N3
  refine law_D (rest := [(81, tabObj #[]), (L + 1 + 1, oK2), (69, tabObj ps2)]) hlaw X T hroom hun hS hlens hM hcn hI F3 hr2 (News.cons' (N3 (L + 1 + 1 + 1 + 1, oD) (by simp)) (News.cons' (N3 _ (.head _)) (News.cons' (N3 (r0, listOf rs0.toArray n0) (by simp)) (News.cons' (N3 (DW, listOf ws.toArray c) (by simp)) (News.cons' (N3 (DT, listOf ts.toArray 0) (by simp)) (News.cons' (N3 (L + 1 + 1 + 1 + 1 + 1, oT1) (by simp)) (News.cons' (N3 (L + 1, oW1) (by simp)) (News.cons' (N3 (81, tabObj #[]) (by simp)) (News.cons' (N3 (L + 1 + 1, oK2) (by simp)) (News.cons' (N3 (69, tabObj ps2) (by simp)) News.nil))))))))))
    dT1 ⟨_, d2⟩ dW1 (off_D lt.1 lt.2.1 lt.2.2 l0.1 l0.2 l2.1) i0 ?_
  intro h4 tk4 m4 oD4 F4 hr4 _ N4
  refine law_E (tl := [(69, tabObj ps2)]) (r1 := r1) (r2 := r2) (nR := nR) (n0 := n0) (nW := c) (nT := 0) hlaw X T CH2 hroom hS hlens hM hcn hI F4 hr4 (News.cons' (N4 (L + 1 + 1, oK2) (by simp)) (News.cons' (N4 (81, tabObj #[]) (by simp)) (fun q hq => N4 q (List.mem_cons_of_mem _ ?_)))) dT1 dK2 dW1 (off_E lt.1 lt.2.1 lt.2.2 l0.1 l0.2 l2.1) (Nat.ne_of_lt (Nat.lt_trans l0.2 (by omega))) i0 fun h5 tk5 m5 k5 g5 t5 => h h5 tk5 m5 k5 ⟨_, t5 _ (.head _)⟩ g5
  simp only [List.mem_cons, List.not_mem_nil, or_false] at hq ⊢
  rcases hq with hq | hq | hq | hq | hq | hq | hq <;> simp [hq]
end Mine
theorem PySem.Challenge.cw_ph0064_01_holds : PySem.Challenge.rw_ph0064_01.Holds := by
  refine Mine.hd ?_
  k_go0
  all_goals try k_fold
  refine' wpAny_mono (Mine.law_all (oT := ?_) (oD := ?_) (oO := ?_) (oK := ?_) (oW := ?_) (sc := ?sc) (sv := ?sv) (sn := ?sn) ?hlaw ?X ?T ?C1 ?C2 ?hroom ?hun ?F ?hm ?N ?d1 ?d2 ?d3 ?d4 ?d5 ?l0 ?hsc ?hsI ?hslen ?h) (fun _ _ x => x) (fun _ _ x => x.elim)
  case N => exact (by assumption)
  case X => exact (by assumption)
  case T => exact (by assumption)
  case C1 => exact (by assumption)
  case C2 => exact (by assumption)
  case F => exact (by assumption)
  case hm => rfl
  case hsc => exact (by assumption)
  case hsI => exact (by assumption)
  case l0 => exact (by assumption)
  case hroom => decide
  case hun => decide
  case d1 => assumption
  case d2 => assumption
  case d3 => assumption
  case d4 => assumption
  case d5 => assumption
  case hlaw => exact ⟨_, _, _, _, _, _, _, _, _, _, _, _, _, (by k_is)⟩
  case hslen => omega
  case h =>
    intro h' tk' m' FE g1 g2
    dsimp only
    refine ⟨goodW_bool FE (by assumption) (raisesW_false ?_) ?_, g1, g2, True.intro⟩
    · wrow_none_raised
    · kc_post

